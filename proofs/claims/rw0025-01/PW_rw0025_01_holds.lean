import PyProof.Rows.All
import Wide.All
import OpenK.AllK
import Wide.FinOn
import Lean
import PySem.Challenge.RW_rw0025_01
open PySem PySem.W PyProof.Rows PySem.Calls
set_option Elab.async false
set_option maxRecDepth 100000
set_option linter.unusedVariables false

namespace Mine

/-- plain data of the two laws; opq: an object known by its maker's arguments alone -/
inductive Dt where
  | none
  | bool (b : Bool)
  | int (i : Int)
  | str (s : Str)
  | list (ds : List Dt)
  | tuple (ds : List Dt)
  | opq (n : Nat) (ds : List Dt)

noncomputable def Up (h h' : Heap) : Prop := ∀ b o, h.get? b = some o → h'.get? b = some o
theorem Up.refl (h : Heap) : Up h h := fun _ _ e => e
theorem Up.trans {a b c : Heap} (x : Up a b) (y : Up b c) : Up a c := fun d o e => y d o (x d o e)
noncomputable def Le (P : Addr) (h h' : Heap) : Prop := ∀ b o, b ≠ P → h.get? b = some o → h'.get? b = some o
theorem Le.refl (P : Addr) (h : Heap) : Le P h h := fun _ _ _ e => e
theorem Le.trans {P : Addr} {a b c : Heap} (x : Le P a b) (y : Le P b c) : Le P a c := fun d o n e => y d o n (x d o n e)
theorem Up.le {P : Addr} {a b : Heap} (x : Up a b) : Le P a b := fun d o _ e => x d o e
theorem Up.push (h : Heap) (o : Obj) : Up h (h.push o) := fun _ _ e => Heap.get?_push_of_some _ e

theorem vis_iff {l : List Addr} {h : Heap} {b : Addr} {o : Obj} : (hideAll h l).get? b = some o ↔ h.get? b = some o ∧ b ∉ l :=
  ⟨fun e => ⟨of_hideAll l e, fun m => by rw [hideAll_none l m] at e; cases e⟩, fun ⟨e, n⟩ => hideAll_get l e n⟩
theorem vis_up {l : List Addr} {h h' : Heap} (x : Up h h') : Up (hideAll h l) (hideAll h' l) := fun b o e =>
  let ⟨a, n⟩ := vis_iff.mp e; vis_iff.mpr ⟨x b o a, n⟩
theorem vis_le {P : Addr} {l : List Addr} {h h' : Heap} (hP : P ∈ l) (x : Le P h h') : Up (hideAll h l) (hideAll h' l) := fun b o e =>
  let ⟨a, n⟩ := vis_iff.mp e; vis_iff.mpr ⟨x b o (fun q => n (q ▸ hP)) a, n⟩
/-- what changes at hidden places alone stays in sight -/
theorem vis_same {a : Addr} {l : List Addr} {h h' : Heap} (ha : a ∈ l) (x : Heap.SameBut a h h') : Up (hideAll h l) (hideAll h' l) := fun b o e =>
  let ⟨q, n⟩ := vis_iff.mp e; vis_iff.mpr ⟨(x.2 b fun r => n (r ▸ ha)).trans q, n⟩
theorem vis_sub {l l' : List Addr} {h : Heap} (x : ∀ a ∈ l', a ∈ l) : Up (hideAll h l) (hideAll h l') := fun _ _ e =>
  let ⟨q, n⟩ := vis_iff.mp e; vis_iff.mpr ⟨q, fun m => n (x _ m)⟩
/-- new places may be hidden -/
theorem vis_more {l l' : List Addr} {h h' : Heap} (x : ∀ b o, b ∉ l → h.get? b = some o → h'.get? b = some o) (n : ∀ a ∈ l', a ∈ l ∨ h.get? a = none) : Up (hideAll h l) (hideAll h' l') := fun b o e => by
  obtain ⟨q, m⟩ := vis_iff.mp e
  refine vis_iff.mpr ⟨x b o m q, fun z => ?_⟩
  rcases n b z with k | k
  · exact m k
  · rw [k] at q; cases q
theorem vis_of {l : List Addr} {h : Heap} : Up (hideAll h l) h := fun _ _ e => (vis_iff.mp e).1
theorem fresh_none {h : Heap} {a : Addr} (e : h.objs.size ≤ a) : h.get? a = none := Heap.get?_none_of_le e
theorem Le.none {P : Addr} {h h' : Heap} {a : Addr} (x : Le P h h') (hP : a ≠ P) (e : h'.get? a = none) : h.get? a = none := by
  cases q : h.get? a with
  | none => rfl
  | some o => rw [x a o hP q] at e; cases e

noncomputable def biNames : List Str := ["len", "range", "min", "max", "sorted", "sum", "abs", "isinstance", "all", "enumerate", "zip", "set", "int", "str"]
/-- the world of the proof: the program, the run's world, the one code table that grows, the standing heap, what is known of the opaque objects -/
structure Wd where
  prog : Program
  w : World
  P : Addr
  B : Heap
  mg : Str → Option Value
  mb : Str → Option Value
  TS : Array Value → Heap → Prop
  OB : Nat → List Dt → Heap → Value → Prop
  INS : Heap → Value → Addr → Prop
  sets : Bool
  FR : Option (List Env) → Prop
  tsDrop : ∀ ps g g', (∀ b o, g.get? b = some o → (∀ x n, o.data ≠ .seq x n) → (∀ x n, o.data ≠ .dict x n) → g'.get? b = some o) → TS ps g → TS ps g'
  insUp : ∀ g g' v a, Up g g' → INS g v a → INS g' v a
  obUp : ∀ n ds g g' v, Up g g' → OB n ds g v → OB n ds g' v
  hg : B.Ns mainGlobals mg
  hb : B.Ns builtinsNs mb
  hlim : B.NoLimit
  hbi : ∀ x ∈ biNames, mg x = none ∧ mb x = bootBuiltins x

noncomputable abbrev Wd.M (W : Wd) : Model := model W.prog W.w
theorem Wd.tsUp (W : Wd) : ∀ ps g g', Up g g' → W.TS ps g → W.TS ps g' := fun ps g g' u t => W.tsDrop ps g g' (fun b o e _ _ => u b o e) t

mutual
inductive Rep (W : Wd) (g : Heap) : Value → Dt → Prop
  | none : Rep W g .none .none
  | bool (b : Bool) : Rep W g (.bool b) (.bool b)
  | int (i : Int) (t : Tok) : Rep W g (.int i t) (.int i)
  | str (x : Str) (t : Tok) : Rep W g (.str x t) (.str x)
  | list {a : Addr} {vs : List Value} {n : Nat} {ds : List Dt} : g.get? a = some (listOf vs.toArray n) → Reps W g vs ds → Rep W g (.ref a) (.list ds)
  | tuple {a : Addr} {vs : List Value} {ds : List Dt} : g.IsTuple a vs.toArray → Reps W g vs ds → Rep W g (.ref a) (.tuple ds)
  | opq {v : Value} {n : Nat} {ds : List Dt} : W.OB n ds g v → Rep W g v (.opq n ds)
inductive Reps (W : Wd) (g : Heap) : List Value → List Dt → Prop
  | nil : Reps W g [] []
  | cons {v : Value} {vs : List Value} {d : Dt} {ds : List Dt} : Rep W g v d → Reps W g vs ds → Reps W g (v :: vs) (d :: ds)
end

section
variable {W : Wd} {g g' : Heap}
theorem Rep.up (u : Up g g') {v : Value} {d : Dt} (h : Rep W g v d) : Rep W g' v d := Rep.rec (motive_1 := fun v d _ => Rep W g' v d) (motive_2 := fun vs ds _ => Reps W g' vs ds) .none (fun b => .bool b) (fun i t => .int i t) (fun x t => .str x t) (fun e _ r => .list (u _ _ e) r) (fun e _ r => .tuple (e.at (u _)) r) (fun o => .opq (W.obUp _ _ _ _ _ u o)) .nil (fun _ _ a b => .cons a b) h
theorem Reps.up (u : Up g g') {vs : List Value} {ds : List Dt} (h : Reps W g vs ds) : Reps W g' vs ds := Reps.rec (motive_1 := fun v d _ => Rep W g' v d) (motive_2 := fun vs ds _ => Reps W g' vs ds) .none (fun b => .bool b) (fun i t => .int i t) (fun x t => .str x t) (fun e _ r => .list (u _ _ e) r) (fun e _ r => .tuple (e.at (u _)) r) (fun o => .opq (W.obUp _ _ _ _ _ u o)) .nil (fun _ _ a b => .cons a b) h
theorem Reps.length : ∀ {vs : List Value} {ds : List Dt}, Reps W g vs ds → vs.length = ds.length
  | _, _, .nil => rfl
  | _, _, .cons _ r => congrArg (· + 1) r.length
theorem Reps.append {vs ws : List Value} {ds es : List Dt} (h : Reps W g vs ds) (k : Reps W g ws es) : Reps W g (vs ++ ws) (ds ++ es) := by
  induction vs generalizing ds with
  | nil => cases h; exact k
  | cons v vs ih => cases h with | cons h r => exact .cons h (ih r)
theorem Reps.get {vs : List Value} {ds : List Dt} (h : Reps W g vs ds) {k : Nat} {d : Dt} (hk : ds[k]? = some d) : ∃ v, vs[k]? = some v ∧ Rep W g v d := by
  induction vs generalizing ds k with
  | nil => cases h; simp at hk
  | cons v vs ih =>
    cases h with
    | cons h r =>
      cases k with
      | zero => simp at hk; subst hk; exact ⟨v, rfl, h⟩
      | succ k => exact ih r (by simpa using hk)
theorem Reps.take {vs : List Value} {ds : List Dt} (h : Reps W g vs ds) : ∀ k, Reps W g (vs.take k) (ds.take k) := by
  induction vs generalizing ds with
  | nil => cases h; intro k; simp; exact .nil
  | cons v vs ih =>
    cases h with
    | cons h r => intro k; cases k with
      | zero => exact .nil
      | succ k => exact .cons h (ih r k)
theorem Reps.drop {vs : List Value} {ds : List Dt} (h : Reps W g vs ds) : ∀ k, Reps W g (vs.drop k) (ds.drop k) := by
  induction vs generalizing ds with
  | nil => cases h; intro k; simp; exact .nil
  | cons v vs ih =>
    cases h with
    | cons h r => intro k; cases k with
      | zero => exact .cons h r
      | succ k => exact ih r k
end

/-- room on the stacks -/
structure AOk (W : Wd) (k : Nat) (A : Around) : Prop where
  hh : A.handled = none
  hu : A.units + 100 + 10 * k < cLine
  hd : A.depth + 10 + 2 * k < recursionLimit
  fr : W.FR A.frames
theorem AOk.deeper {W : Wd} {k : Nat} {A : Around} (x : AOk W (k + 1) A) (env : Env) (f : ∀ (A : Around) (env : Env), W.FR A.frames → W.FR (A.deeper env).frames) : AOk W k (A.deeper env) := by
  obtain ⟨a, b, c, d⟩ := x
  refine ⟨a, ?_, ?_, f A env d⟩
  · rw [Around.deeper_units]; omega
  · show A.depth + 1 + 10 + 2 * k < _; omega
theorem AOk.in1 {W : Wd} {k : Nat} {A : Around} (x : AOk W (k + 1) A) : AOk W k A.in1 := by
  obtain ⟨a, b, c, d⟩ := x
  refine ⟨a, ?_, ?_, d⟩
  · rw [Around.in1_units]; omega
  · show A.depth + 10 + 2 * k < _; omega
theorem AOk.less {W : Wd} {k : Nat} {A : Around} (x : AOk W (k + 1) A) : AOk W k A := by
  obtain ⟨a, b, c, d⟩ := x
  exact ⟨a, by omega, by omega, d⟩
theorem AOk.le {W : Wd} {k j : Nat} {A : Around} (x : AOk W k A) (h : j ≤ k) : AOk W j A := by
  obtain ⟨a, b, c, d⟩ := x
  exact ⟨a, by omega, by omega, d⟩

/-- the standing state: the base in sight, the table known, every hidden place taken -/
structure Ok (W : Wd) (own : List Addr) (h : Heap) : Prop where
  base : Up W.B (hideAll h own)
  hP : W.P ∈ own
  tab : ∃ ps, h.get? W.P = some (tabObj ps) ∧ W.TS ps (hideAll h own)
  live : ∀ a ∈ own, ∃ o, h.get? a = some o
section
variable {W : Wd} {own own' : List Addr} {h h' : Heap}
theorem Ok.keep (x : Ok W own h) (u : Up (hideAll h own) (hideAll h' own)) (p : h'.get? W.P = h.get? W.P) (l : ∀ a ∈ own, ∃ o, h'.get? a = some o) : Ok W own h' :=
  ⟨x.base.trans u, x.hP, (let ⟨ps, a, b⟩ := x.tab; ⟨ps, p.trans a, W.tsUp _ _ _ u b⟩), l⟩
theorem Ok.up (x : Ok W own h) (u : Up h h') : Ok W own h' := by
  obtain ⟨a, b, ⟨ps, c, d⟩, l⟩ := x
  exact ⟨a.trans (vis_up u), b, ⟨ps, u _ _ c, W.tsUp _ _ _ (vis_up u) d⟩, fun q hq => let ⟨o, e⟩ := l q hq; ⟨o, u _ _ e⟩⟩
theorem Ok.same (x : Ok W own h) {a : Addr} {o : Obj} (ha : a ∈ own) (hne : a ≠ W.P) (u : Heap.SameBut a h h') (e : h'.get? a = some o) : Ok W own h' :=
  x.keep (vis_same ha u) (u.2 _ (Ne.symm hne)) fun q hq => by
    by_cases hqa : q = a
    · exact ⟨o, hqa ▸ e⟩
    · obtain ⟨o', e'⟩ := x.live q hq
      exact ⟨o', (u.2 q hqa).trans e'⟩
/-- more places hidden: new ones -/
theorem Ok.more (x : Ok W own h) (u : Up h h') (s : ∀ a ∈ own, a ∈ own') (n : ∀ a ∈ own', a ∈ own ∨ (h.get? a = none ∧ ∃ o, h'.get? a = some o)) : Ok W own' h' := by
  obtain ⟨a, b, ⟨ps, c, d⟩, l⟩ := x
  have v : Up (hideAll h own) (hideAll h' own') := vis_more (fun b o _ e => u b o e) fun q hq => (n q hq).imp id fun z => z.1
  refine ⟨a.trans v, s _ b, ⟨ps, u _ _ c, W.tsUp _ _ _ v d⟩, fun q hq => ?_⟩
  rcases n q hq with k | k
  · obtain ⟨o, e⟩ := l q k; exact ⟨o, u _ _ e⟩
  · exact k.2
/-- fewer places hidden -/
theorem Ok.sub (x : Ok W own h) (s : ∀ a ∈ own', a ∈ own) (hP : W.P ∈ own') : Ok W own' h := by
  obtain ⟨a, b, ⟨ps, c, d⟩, l⟩ := x
  exact ⟨a.trans (vis_sub s), hP, ⟨ps, c, W.tsUp _ _ _ (vis_sub s) d⟩, fun q hq => l q (s q hq)⟩
theorem Ok.new (x : Ok W own h) {a : Addr} (e : h.get? a = none) : a ∉ own := fun m => by
  obtain ⟨o, q⟩ := x.live a m
  rw [q] at e; cases e
theorem Ok.glob (x : Ok W own h) : h.Ns mainGlobals W.mg := (W.hg.keeps x.base).keeps vis_of
theorem Ok.blt (x : Ok W own h) : h.Ns builtinsNs W.mb := (W.hb.keeps x.base).keeps vis_of
theorem Ok.lim (x : Ok W own h) : h.NoLimit := (W.hlim.keeps x.base).keeps vis_of
theorem Ok.inB (x : Ok W own h) {a : Addr} {o : Obj} (e : W.B.get? a = some o) : h.get? a = some o := vis_of _ _ (x.base _ _ e)
end
end Mine

namespace Mine

inductive SK where | loc | cel | fre
  deriving DecidableEq
/-- what a name is bound to: nothing said; data in sight; an owned list; an object that holds an owned list; a list of owned tables -/
inductive Bd where
  | unb
  | val (d : Dt)
  | lst (i : Nat)
  | ins (i : Nat)
inductive Slot where
  | glob
  | var (k : SK) (b : Bd)
noncomputable abbrev Ro := List (Str × Slot)

/-- what may be read as it stands -/
noncomputable def Bd.frz : Bd → Option Dt
  | .val d => some d
  | _ => none
noncomputable def look (ρ : Ro) (x : Str) : Option Dt := match ρ.lookup x with
  | some (.var _ b) => b.frz
  | some .glob => if x = ("int" : Str) then some (.opq 3 []) else none
  | none => none
noncomputable def isGlob (ρ : Ro) (x : Str) : Bool := match ρ.lookup x with
  | some .glob => true
  | _ => false

noncomputable def put (ρ : Ro) (x : Str) (b : Bd) : Option Ro := match ρ with
  | [] => none
  | (y, sl) :: r => if x = y then (match sl with
      | .var .loc _ => some ((y, .var .loc b) :: r)
      | .var .cel _ => some ((y, .var .cel b) :: r)
      | _ => none) else (put r x b).map ((y, sl) :: ·)

noncomputable def KindOk (env : Env) (x : Str) : SK → Prop
  | .loc => env.kindOf x = some .local
  | .cel => env.kindOf x = some .cell ∧ ∃ c, env.cells.lookup x = some c
  | .fre => (env.kindOf x = some .cell ∨ env.kindOf x = some .free) ∧ (∃ c, env.cells.lookup x = some c) ∧ (x == ("__classdict__" : Str)) = false
noncomputable def Bound (env : Env) (h : Heap) (x : Str) (v : Value) : SK → Prop
  | .loc => ∃ m, h.Ns env.locals m ∧ m x = some v
  | _ => ∃ c, env.cells.lookup x = some c ∧ h.IsCell c (some v)
noncomputable def SeesSlot (W : Wd) (own : List Addr) (env : Env) (h : Heap) (x : Str) : Slot → Prop
  | .glob => env.kindOf x = some .globalImplicit
  | .var k b => KindOk env x k ∧ ∀ d, b.frz = some d → ∃ v, Bound env h x v k ∧ Rep W (hideAll h own) v d
structure EnvOk (env : Env) : Prop where
  kind : env.scope.kind = .function
  gl : env.globals = mainGlobals
  bl : env.builtins = builtinsNs
structure Sees (W : Wd) (own : List Addr) (env : Env) (h : Heap) (ρ : Ro) : Prop where
  envOk : EnvOk env
  ok : Ok W own h
  at' : ∀ x sl, ρ.lookup x = some sl → SeesSlot W own env h x sl
  nodbg : ∀ x sl, ρ.lookup x = some sl → (x == ("__debug__" : Str)) = false
  cells : ∀ x k b c, ρ.lookup x = some (.var k b) → k ≠ .loc → env.cells.lookup x = some c → ∃ v, h.IsCell c v

theorem Bound.up {env : Env} {h h' : Heap} {x : Str} {v : Value} {k : SK} (u : Up h h') (b : Bound env h x v k) : Bound env h' x v k := by
  cases k
  · obtain ⟨m, a, e⟩ := b; exact ⟨m, a.keeps u, e⟩
  · obtain ⟨c, a, e⟩ := b; exact ⟨c, a, e.keeps u⟩
  · obtain ⟨c, a, e⟩ := b; exact ⟨c, a, e.keeps u⟩
theorem Ns.le {P a : Addr} {h h' : Heap} {m : Str → Option Value} (n : h.Ns a m) (u : Le P h h') (ha : a ≠ P) : h'.Ns a m :=
  let ⟨o, es, ep, e, r⟩ := n; ⟨o, es, ep, u _ _ ha e, r⟩
theorem IsCell.le {P c : Addr} {h h' : Heap} {v : Option Value} (n : h.IsCell c v) (u : Le P h h') (ha : c ≠ P) : h'.IsCell c v :=
  let ⟨o, e, r⟩ := n; ⟨o, u _ _ ha e, r⟩
theorem Ok.ns_ne {W : Wd} {own : List Addr} {h : Heap} (x : Ok W own h) {a : Addr} {m : Str → Option Value} (n : h.Ns a m) : a ≠ W.P := by
  rintro rfl
  obtain ⟨o, es, ep, e, hd, _⟩ := n
  obtain ⟨ps, e', _⟩ := x.tab
  rw [e] at e'; cases e'; cases hd
theorem Ok.cell_ne {W : Wd} {own : List Addr} {h : Heap} (x : Ok W own h) {a : Addr} {v : Option Value} (n : h.IsCell a v) : a ≠ W.P := by
  rintro rfl
  obtain ⟨o, e, hd⟩ := n
  obtain ⟨ps, e', _⟩ := x.tab
  rw [e] at e'; cases e'; cases hd
theorem Bound.le {W : Wd} {own : List Addr} {env : Env} {h h' : Heap} {x : Str} {v : Value} {k : SK} (o : Ok W own h) (u : Le W.P h h') (b : Bound env h x v k) : Bound env h' x v k := by
  cases k
  · obtain ⟨m, a, e⟩ := b; exact ⟨m, Ns.le a u (o.ns_ne a), e⟩
  · obtain ⟨c, a, e⟩ := b; exact ⟨c, a, IsCell.le e u (o.cell_ne e)⟩
  · obtain ⟨c, a, e⟩ := b; exact ⟨c, a, IsCell.le e u (o.cell_ne e)⟩
theorem SeesSlot.le {W : Wd} {own : List Addr} {env : Env} {h h' : Heap} {x : Str} {sl : Slot} (o : Ok W own h) (u : Le W.P h h') (b : SeesSlot W own env h x sl) : SeesSlot W own env h' x sl := by
  cases sl with
  | glob => exact b
  | var k bd =>
    obtain ⟨a, b⟩ := b
    refine ⟨a, fun d e => ?_⟩
    obtain ⟨v, p, q⟩ := b d e
    exact ⟨v, p.le o u, q.up (vis_le o.hP u)⟩
theorem Sees.le {W : Wd} {own : List Addr} {env : Env} {h h' : Heap} {ρ : Ro} (S : Sees W own env h ρ) (u : Le W.P h h') (o : Ok W own h') : Sees W own env h' ρ :=
  ⟨S.envOk, o, fun x sl e => (S.at' x sl e).le S.ok u, S.nodbg, fun x k b c e n q => let ⟨v, z⟩ := S.cells x k b c e n q; ⟨v, IsCell.le z u (S.ok.cell_ne z)⟩⟩

section
variable {W : Wd} {own : List Addr} {env : Env} {ρ : Ro} {A : Around} {E : Value → Shared → Prop} {s : Shared}
theorem load_bound {x : Str} {v : Value} {k : SK} {Q : Value → Shared → Prop} (ek : env.scope.kind = .function) (hk : KindOk env x k) (b : Bound env s.heap x v k) (h : Q v s) :
    wpAny W.M A (loadName env x) Q E s := by
  cases k with
  | loc =>
    obtain ⟨m, a, e⟩ := b
    exact wpAny_loadName_local ek hk a e h
  | cel =>
    obtain ⟨c, a, e⟩ := b
    exact wpAny_loadName_cell ek hk.1 a e h
  | fre =>
    obtain ⟨c, a, e⟩ := b
    rcases hk.1 with q | q
    · exact wpAny_loadName_cell ek q a e h
    · exact wpAny_loadName_free ek q a e h hk.2.2
theorem name_val {x : Str} {pos : Pos} {sk : SK} {b : Bd} {d : Dt} {Q : Value → Shared → Prop} (S : Sees W own env s.heap ρ) (hl : ρ.lookup x = some (.var sk b)) (hb : b.frz = some d)
    (h : ∀ v, Rep W (hideAll s.heap own) v d → Q v s) : wpAny W.M A (eval (.Name x pos) env) Q E s := by
  obtain ⟨a, b'⟩ := S.at' _ _ hl
  obtain ⟨v, p, q⟩ := b' d hb
  exact wpAny_Name (load_bound S.envOk.kind a p (h v q)) (S.nodbg _ _ hl)
theorem name_glob {x : Str} {pos : Pos} {v : Value} {Q : Value → Shared → Prop} (S : Sees W own env s.heap ρ) (hl : ρ.lookup x = some .glob) (hv : W.mg x = some v)
    (h : Q v s) : wpAny W.M A (eval (.Name x pos) env) Q E s :=
  Calls.Name_function_global S.envOk.kind (S.at' _ _ hl) (Calls.loadGlobal_global (mg := W.mg) (by rw [S.envOk.gl]; exact S.ok.glob) hv h) (S.nodbg _ _ hl)
theorem name_blt {x : Str} {pos : Pos} {v : Value} {Q : Value → Shared → Prop} (S : Sees W own env s.heap ρ) (hl : ρ.lookup x = some .glob) (hx : x ∈ biNames) (hv : bootBuiltins x = some v)
    (h : Q v s) : wpAny W.M A (eval (.Name x pos) env) Q E s :=
  let ⟨a, b⟩ := W.hbi x hx
  Calls.Name_function_global S.envOk.kind (S.at' _ _ hl) (Calls.loadGlobal_builtin (mg := W.mg) (mb := W.mb) (by rw [S.envOk.gl]; exact S.ok.glob) a (by rw [S.envOk.bl]; exact S.ok.blt) (b.trans hv) h) (S.nodbg _ _ hl)
end
theorem isGlob_iff {ρ : Ro} {x : Str} (h : isGlob ρ x = true) : ρ.lookup x = some .glob := by
  unfold isGlob at h
  split at h
  · assumption
  · cases h
end Mine

namespace Mine

mutual
noncomputable def Dt.toPy : Dt → Option PyData
  | .none => some .none
  | .bool b => some (.bool b)
  | .int i => some (.int i)
  | .str x => some (.str x)
  | .list ds => (toPys ds).map .list
  | .tuple ds => (toPys ds).map .tuple
  | .opq _ _ => none
noncomputable def toPys : List Dt → Option (List PyData)
  | [] => some []
  | d :: ds => match d.toPy, toPys ds with
    | some p, some ps => some (p :: ps)
    | _, _ => none
end

noncomputable def eqD (a b : Dt) : Option Bool := match a.toPy, b.toPy with
  | some p, some q => if SeqAt.shaped p && SeqAt.shaped q then some (PyData.eqv p q) else none
  | _, _ => none

noncomputable def intsOf : List Dt → Option (List Int)
  | [] => some []
  | .int i :: r => (intsOf r).map (i :: ·)
  | _ :: _ => none
noncomputable def boolsOf : List Dt → Option (List Bool)
  | [] => some []
  | .bool i :: r => (boolsOf r).map (i :: ·)
  | _ :: _ => none
noncomputable def smallI (a : Int) : Bool := decide (-4294967296 < a) && decide (a < 4294967296)
theorem noneE {α : Type} {x : α} {p : Prop} (h : (none : Option α) = some x) : p := nomatch h
theorem ite_or {α : Type} {c : Prop} [Decidable c] {x y : Option α} {z : α} (h : (if c then x else y) = some z) : (c ∧ x = some z) ∨ (¬ c ∧ y = some z) := by
  by_cases hc : c
  · rw [if_pos hc] at h; exact .inl ⟨hc, h⟩
  · rw [if_neg hc] at h; exact .inr ⟨hc, h⟩
/-- of two ints -/
noncomputable def ints2 {α : Type} (a b : Dt) (f : Int → Int → Option α) : Option α := match a with
  | .int i => (match b with
    | .int j => f i j
    | _ => none)
  | _ => none
theorem ints2_form {α : Type} {a b : Dt} {f : Int → Int → Option α} {r : α} (h : ints2 a b f = some r) : ∃ i j, a = .int i ∧ b = .int j ∧ f i j = some r := by
  cases a with
  | int i => cases b with
    | int j => exact ⟨i, j, rfl, rfl, h⟩
    | _ => exact noneE h
  | _ => exact noneE h
noncomputable def addD (a b : Dt) : Option Dt := match a with
  | .list xs => (match b with
    | .list ys => if xs.length + ys.length ≤ 4096 then some (.list (xs ++ ys)) else none
    | _ => none)
  | a => ints2 a b fun i j => some (.int (i + j))
noncomputable def mulD (a b : Dt) : Option Dt := match b with
  | .int n => (match a with
    | .int i => if smallI i && smallI n then some (.int (i * n)) else none
    | .list xs => if 0 ≤ n ∧ n ≤ 256 ∧ xs.length * n.toNat ≤ 256 then some (.list (List.replicate n.toNat xs).flatten) else none
    | .str x => if 0 ≤ n ∧ n ≤ 1000 ∧ x.length ≤ 16 then some (.str (PySem.Txt.mul x n)) else none
    | _ => none)
  | _ => none
noncomputable def binD (op : Operator) (a b : Dt) : Option Dt := match op with
  | .Add => addD a b
  | .Sub => ints2 a b fun a b => some (.int (a - b))
  | .Mult => mulD a b
  | .FloorDiv => ints2 a b fun a b => if b ≠ 0 ∧ b.natAbs < 1073741824 then some (.int (a.fdiv b)) else none
  | .Mod => ints2 a b fun a b => if b ≠ 0 then some (.int (a.fmod b)) else none
  | _ => none

noncomputable def isD (a b : Dt) : Option Bool := match b with
  | .bool y => (match a with
    | .bool x => some (x == y)
    | .str _ => some false
    | _ => none)
  | _ => none
noncomputable def cmpD (op : CmpOp) (a b : Dt) : Option Bool := match op with
  | .Eq => eqD a b
  | .NotEq => (eqD a b).map (!·)
  | .Lt => ints2 a b fun a b => some (decide (a < b))
  | .LtE => ints2 a b fun a b => some (decide (a ≤ b))
  | .Gt => ints2 a b fun a b => some (decide (b < a))
  | .GtE => ints2 a b fun a b => some (decide (b ≤ a))
  | .Is => isD a b
  | .IsNot => (isD a b).map (!·)
  | _ => none
noncomputable def truthD : Dt → Option Bool
  | .none => some false
  | .bool b => some b
  | .int i => some (i != 0)
  | .str x => if x.length ≤ 16777216 then some ((x.length : Int) != 0) else none
  | _ => none

noncomputable def idx (i : Int) (n : Nat) : Option Nat := if 0 ≤ i then (if i < n then some i.toNat else none) else if 0 ≤ i + n then some (i + n).toNat else none
noncomputable def subI (a : Dt) (i : Int) : Option Dt := match a with
  | .list ds => if ds.length ≤ 16777216 then (idx i ds.length).bind (ds[·]?) else none
  | .tuple ds => if ds.length ≤ 16777216 then (idx i ds.length).bind (ds[·]?) else none
  | _ => none
noncomputable def subD (a i : Dt) : Option Dt := match i with
  | .int i => subI a i
  | _ => none
noncomputable def pickD (ds : List Dt) (lo hi st : Option Int) : List Dt :=
  (sliceRange (sliceBounds lo hi st ds.length).1 (sliceBounds lo hi st ds.length).2.1 (sliceBounds lo hi st ds.length).2.2).filterMap (ds[·]?)

noncomputable def isort : List Int → List Int := W.sortI
/-- the least of a list by a comparison, the first of equals -/
noncomputable def bestBy (lt : Dt → Dt → Option Bool) : List Dt → Dt → Option Dt
  | [], b => some b
  | d :: ds, b => (lt d b).bind fun c => if c then bestBy lt ds d else bestBy lt ds b
noncomputable def ltFlat : Dt → Dt → Option Bool
  | .int a, .int b => some (decide (a < b))
  | .bool a, .bool b => some (!a && b)
  | _, _ => none
noncomputable def eqFlat : Dt → Dt → Option Bool
  | .int a, .int b => some (a == b)
  | .bool a, .bool b => some (a == b)
  | _, _ => none
noncomputable def ltTup : List Dt → List Dt → Option Bool
  | [], [] => some false
  | a :: r, b :: q => (eqFlat a b).bind fun c => if c then ltTup r q else ltFlat a b
  | _, _ => none
noncomputable def ltD : Dt → Dt → Option Bool
  | .tuple a, .tuple b => if a.length = b.length then ltTup a b else none
  | .int a, .int b => some (decide (a < b))
  | _, _ => none
noncomputable def maxI : List Int → Option Int
  | [] => none
  | x :: r => some (r.foldl (fun b a => if a > b then a else b) x)
noncomputable def dedupI : List Int → List Int
  | [] => []
  | x :: r => x :: (dedupI r).filter (· != x)

noncomputable def one (ds : List Dt) (x : Dt → Option Dt) : Option Dt := match ds with
  | [a] => x a
  | _ => none
noncomputable def two (ds : List Dt) (x : Dt → Dt → Option Dt) : Option Dt := match ds with
  | [a, b] => x a b
  | _ => none
noncomputable def lenD : Dt → Option Dt
  | .list ds => if ds.length ≤ 16777216 then some (.int ds.length) else none
  | .str x => if x.length ≤ 16777216 then some (.int x.length) else none
  | _ => none
noncomputable def sumD : Dt → Option Dt
  | .list ds => (intsOf ds).map fun ns => .int ns.sum
  | _ => none
noncomputable def minD : Dt → Option Dt
  | .list (d :: ds) => bestBy ltD ds d
  | _ => none
noncomputable def maxD : Dt → Option Dt
  | .list ds => (intsOf ds).bind fun ns => (maxI ns).map .int
  | _ => none
noncomputable def sortO (n : Nat) (es : List Dt) : Option Dt := if n = 2 then (one es fun a => match a with
    | .list ds => (intsOf ds).map fun ns => .list ((isort ns).map .int)
    | _ => none) else none
noncomputable def sortD : Dt → Option Dt
  | .list ds => if ds.length < 64 then (intsOf ds).map fun ns => .list ((isort ns).map .int) else none
  | .opq n es => sortO n es
  | _ => none
theorem sortD_opq {n : Nat} {es : List Dt} {d : Dt} (h : n ≠ 2) (e : sortD (.opq n es) = some d) : (none : Option Dt) = some d := by
  replace e : sortO n es = some d := e
  unfold sortO at e
  rwa [if_neg h] at e
noncomputable def setD : Dt → Option Dt
  | .list ds => if ds.length < 8 then (intsOf ds).map fun ns => .opq 2 [.list ((dedupI ns).map .int)] else none
  | _ => none
noncomputable def absD : Dt → Option Dt
  | .int a => some (.int (if a < 0 then -a else a))
  | _ => none
noncomputable def isiD (a b : Dt) : Option Dt := match a with
  | .int _ => (match b with
    | .opq n es => if n = 3 ∧ es.isEmpty = true then some (.bool true) else none
    | _ => none)
  | _ => none
noncomputable def allD : Dt → Option Dt
  | .list ds => (boolsOf ds).map fun bs => .bool (bs.all id)
  | _ => none
noncomputable def callD (f : Str) (args : List Dt) : Option Dt :=
  if f = "len" then one args lenD
  else if f = "sum" then one args sumD
  else if f = "min" then (match args with
    | [a] => minD a
    | _ => two args fun a b => ints2 a b fun a b => some (.int (if b < a then b else a)))
  else if f = "max" then (match args with
    | [a] => maxD a
    | _ => two args fun a b => ints2 a b fun a b => some (.int (if b > a then b else a)))
  else if f = "sorted" then one args sortD
  else if f = "set" then one args setD
  else if f = "abs" then one args absD
  else if f = "isinstance" then two args isiD
  else if f = "all" then one args allD
  else none

noncomputable def iterD : Dt → Option (List Dt)
  | .list ds => some ds
  | .tuple ds => some ds
  | _ => none
noncomputable def rangeD (a b : Int) : Option (List Dt) := if smallI a && smallI b && decide (b - a ≤ 4096) then some ((List.range (b - a).toNat).map fun k => .int (a + (k : Nat))) else none
noncomputable def enumD : Nat → List Dt → List Dt
  | _, [] => []
  | n, d :: r => .tuple [.int n, d] :: enumD (n + 1) r

/-- the laws' own parts: defs of the text, methods and fields of opaque objects -/
structure Own where
  fn : Str → List Dt → Option Dt
  meth : Nat → List Dt → Str → List Dt → Option Dt
  attr : Nat → List Dt → Str → Option Dt
  sets : Bool

structure Ev where
  e : Ro → Expr → Option Dt
  t : Ro → Expr → Option Bool

noncomputable def evs (f : Expr → Option Dt) : List Expr → Option (List Dt)
  | [] => some []
  | x :: r => (f x).bind fun d => (evs f r).map (d :: ·)
noncomputable def evOpt (f : Expr → Option Dt) : Option Expr → Option (Option Int)
  | none => some none
  | some x => match f x with
    | some (.int i) => some (some i)
    | _ => none
noncomputable def boolAll (I : Ev) (ρ : Ro) (op : BoolOp) : List Expr → Option Bool
  | [] => some (op == .And)
  | x :: r => (I.t ρ x).bind fun b => match op, b with
    | .And, false => some false
    | .Or, true => some true
    | _, _ => boolAll I ρ op r
noncomputable def putAll (ρ : Ro) : List Expr → List Dt → Option Ro
  | [], [] => some ρ
  | t :: r, d :: ds => (match t with
    | .Name x _ => put ρ x (.val d)
    | _ => none).bind fun ρ' => putAll ρ' r ds
  | _, _ => none
theorem putAll_inv {ρ ρ' : Ro} {ts : List Expr} {ds : List Dt} (h : putAll ρ ts ds = some ρ') : (ts = [] ∧ ds = [] ∧ ρ' = ρ) ∨ ∃ x p r d ds' q, ts = .Name x p :: r ∧ ds = d :: ds' ∧ put ρ x (.val d) = some q ∧ putAll q r ds' = some ρ' := by
  cases ts with
  | nil => cases ds with
    | nil => cases h; exact .inl ⟨rfl, rfl, rfl⟩
    | cons => exact noneE h
  | cons t r => cases ds with
    | nil => exact noneE h
    | cons d ds' =>
      obtain ⟨q, h1, h2⟩ := Option.bind_eq_some_iff.mp h
      clear h
      cases t with
      | Name x p => exact .inr ⟨x, p, r, d, ds', q, rfl, rfl, h1, h2⟩
      | _ => exact noneE h1
/-- a target is bound -/
noncomputable def bindT (t : Expr) (d : Dt) (ρ : Ro) : Option Ro := match t, d with
  | .Name x _, d => put ρ x (.val d)
  | .Tuple ts _ _, .tuple ds => if ts.length ≤ 16 then putAll ρ ts ds else none
  | _, _ => none
theorem bindT_inv {t : Expr} {d : Dt} {ρ ρ' : Ro} (h : bindT t d ρ = some ρ') : (∃ x p, t = .Name x p ∧ put ρ x (.val d) = some ρ') ∨ ∃ ts k p ds, t = .Tuple ts k p ∧ d = .tuple ds ∧ ts.length ≤ 16 ∧ putAll ρ ts ds = some ρ' := by
  cases t with
  | Name x p => exact .inl ⟨x, p, rfl, h⟩
  | Tuple ts k p => cases d with
    | tuple ds =>
      replace h : (if ts.length ≤ 16 then putAll ρ ts ds else none) = some ρ' := h
      by_cases hl : ts.length ≤ 16
      · rw [if_pos hl] at h; exact .inr ⟨ts, k, p, ds, rfl, rfl, hl, h⟩
      · rw [if_neg hl] at h; cases h
    | _ => exact noneE h
  | _ => exact noneE h
noncomputable def isTupT : Expr → Bool
  | .Tuple .. => true
  | _ => false

theorem ints_eq : ∀ {ds : List Dt} {ns : List Int}, intsOf ds = some ns → ds = ns.map .int
  | [], ns, h => by cases h; rfl
  | .int i :: r, ns, h => by
    rw [intsOf] at h
    obtain ⟨ms, e, rfl⟩ := Option.map_eq_some_iff.mp h
    rw [ints_eq e]; rfl
noncomputable def rangeN : List Int → Option (List Dt)
  | [] => none
  | a :: r => match r with
    | [] => rangeD 0 a
    | b :: q => match q with
      | [] => rangeD a b
      | _ :: _ => none
noncomputable def enumN : List Dt → Option (List Dt)
  | [] => none
  | d :: r => match r with
    | [] => (match d with
      | .list ds => some (enumD 0 ds)
      | _ => none)
    | _ :: _ => none
noncomputable def callOf : Expr → Option (Str × Pos × List Expr × List Keyword × Pos)
  | .Call f args ks q => (match f with
    | .Name f p => some (f, p, args, ks, q)
    | _ => none)
  | _ => none
theorem callOf_form {e : Expr} {f : Str} {p q : Pos} {args : List Expr} {ks : List Keyword} (h : callOf e = some (f, p, args, ks, q)) : e = .Call (.Name f p) args ks q := by
  cases e with
  | Call g as k z => cases g with
    | Name x y => cases h; rfl
    | _ => exact noneE h
  | _ => exact noneE h
noncomputable def iterE (I : Ev) (ρ : Ro) (t : Expr) (it : Expr) : Option (List Dt) := match callOf it with
  | some (f, _, args, ks, _) =>
    if isGlob ρ f = true ∧ f = "range" ∧ ks.isEmpty = true then (evs (I.e ρ) args).bind fun ds => (intsOf ds).bind rangeN
    else if isGlob ρ f = true ∧ f = "enumerate" ∧ ks.isEmpty = true ∧ isTupT t = true then (evs (I.e ρ) args).bind enumN
    else (I.e ρ it).bind iterD
  | none => (I.e ρ it).bind iterD

noncomputable def unbName (ρ : Ro) (x : Str) : Bool := match ρ.lookup x with
  | some (.var _ .unb) => true
  | _ => false
noncomputable def unbT (ρ : Ro) : Expr → Bool
  | .Name x _ => unbName ρ x
  | .Tuple ts _ _ => ts.all fun | .Name x _ => unbName ρ x | _ => false
  | _ => false
noncomputable def testAll (I : Ev) (ρ : Ro) : List Expr → Option Bool
  | [] => some true
  | x :: r => (I.t ρ x).bind fun b => if b then testAll I ρ r else some false

/-- the names of a comprehension, as it begins -/
noncomputable def compRo (ρ : Ro) : List (Str × NameKind) → Option Ro
  | [] => some []
  | (x, k) :: r => (compRo ρ r).bind fun q => match k with
    | .local => if (x == ("__debug__" : Str)) = true then none else some ((x, .var .loc .unb) :: q)
    | .cell => if (x == ("__debug__" : Str)) = true then none else some ((x, .var .cel .unb) :: q)
    | .globalImplicit => if (x == ("__debug__" : Str)) = true then none else some ((x, .glob) :: q)
    | .free => if (x == ("__debug__" : Str)) = true then none else (match ρ.lookup x with
      | some (.var .cel b) => if (x == ("__classdict__" : Str)) = true then none else some ((x, .var .fre b) :: q)
      | some (.var .fre b) => some ((x, .var .fre b) :: q)
      | _ => none)
    | _ => none

/-- a comprehension's clauses from the given one on, its items at hand -/
noncomputable def clauses (I : Ev) (elt : Expr) : List Comprehension → Ro → Option (List Dt)
  | [], ρ => (I.e ρ elt).map fun d => [d]
  | ⟨t, it, ifs, a⟩ :: r, ρ => if a ≠ 0 ∨ unbT ρ t = false then none else (iterE I ρ t it).bind fun ds => go (clauses I elt r) t ifs ρ ds
where
  go (inner : Ro → Option (List Dt)) (t : Expr) (ifs : List Expr) (ρ : Ro) : List Dt → Option (List Dt)
    | [] => some []
    | d :: ds => (bindT t d ρ).bind fun ρ' => (testAll I ρ' ifs).bind fun ok =>
        (if ok then inner ρ' else some []).bind fun now => (go inner t ifs ρ ds).map fun rest => now ++ rest

noncomputable def baseOk : Expr → Bool
  | .Name .. => true
  | .Subscript .. => true
  | .Constant .. => true
  | .Attribute .. => true
  | _ => false
noncomputable def notSlice : Expr → Bool
  | .Slice .. => false
  | _ => true
noncomputable def scopeOk (sc : Scope) : Bool := sc.kind == .function && decide ((sc.names.map (·.1)).Nodup)

noncomputable def compE (I : Ev) (ρ : Ro) (elt : Expr) (gens : List Comprehension) (sc : Scope) : Option (List Dt) := match gens with
  | ⟨t, it, ifs, a⟩ :: r => if a ≠ 0 ∨ scopeOk sc = false ∨ (r.all fun g => g.is_async == 0) = false then none else
      (iterE I ρ t it).bind fun ds => (compRo ρ sc.names).bind fun ρ' => if unbT ρ' t = false then none else (clauses.go I (clauses I elt r) t ifs ρ' ds).bind fun out => if out.length ≤ 4096 then some out else none
  | [] => none

noncomputable def stepE (O : Own) (I : Ev) (ρ : Ro) : Expr → Option Dt
  | .Constant c _ _ => (match c with
    | .int i => some (.int i)
    | .str x => some (.str x)
    | .bool b => some (.bool b)
    | .none => some .none
    | _ => none)
  | .Name x _ => look ρ x
  | .BinOp l op r _ => (I.e ρ l).bind fun a => (I.e ρ r).bind fun b => binD op a b
  | .Compare l [op] [r] _ => if behindInMarks op r = true then none else (I.e ρ l).bind fun a => (I.e ρ r).bind fun b => (cmpD op a b).map .bool
  | .List es _ => (evs (I.e ρ) es).bind fun ds => if ds.length ≤ 4096 then some (.list ds) else none
  | .Tuple es _ _ => (evs (I.e ρ) es).bind fun ds => if ds.length ≤ 4096 then some (.tuple ds) else none
  | .Subscript v i _ => (match i with
    | .Slice lo hi st _ => (I.e ρ v).bind fun a => (evOpt (I.e ρ) lo).bind fun l => (evOpt (I.e ρ) hi).bind fun h => (evOpt (I.e ρ) st).bind fun k => (match a with
      | .list ds => if k = some 0 ∨ ds.length > 4096 then none else some (.list (pickD ds l h k))
      | _ => none)
    | i => (I.e ρ v).bind fun a => (I.e ρ i).bind fun j => subD a j)
  | .ListComp elt gens sc _ => (compE I ρ elt gens sc).map .list
  | .UnaryOp .USub x _ => (match I.e ρ x with
    | some (.int i) => some (.int (-i))
    | _ => none)
  | .Attribute o a _ => if baseOk o = false then none else (match I.e ρ o with
    | some (.opq n ds) => O.attr n ds a
    | _ => none)
  | .Call f args ks pos => if ks.isEmpty = false ∨ args.length > 8 then none else (match f with
    | .Name f _ => if isGlob ρ f = false then none else (evs (I.e ρ) args).bind fun ds => if biNames.contains f = true then (if O.sets = true then callD f ds else none) else O.fn f ds
    | .Attribute o m apos => if (apos.endLine == pos.line) = false ∨ baseOk o = false then none else (I.e ρ o).bind fun d => (evs (I.e ρ) args).bind fun ds => (match d with
      | .opq n es => O.meth n es m ds
      | _ => none)
    | _ => none)
  | _ => none
noncomputable def stepT (O : Own) (I : Ev) (ρ : Ro) : Expr → Option Bool
  | .UnaryOp .Not x _ => (I.t ρ x).map (!·)
  | .BoolOp op vs _ => boolAll I ρ op vs
  | .Compare l [op] [r] _ => if behindInMarks op r = true then none else (I.e ρ l).bind fun a => (I.e ρ r).bind fun b => cmpD op a b
  | .Name x p => (I.e ρ (.Name x p)).bind truthD
  | .Call f a k p => (I.e ρ (.Call f a k p)).bind truthD
  | _ => none
noncomputable def ev (O : Own) : Nat → Ev
  | 0 => ⟨fun _ _ => none, fun _ _ => none⟩
  | n + 1 => ⟨stepE O (ev O n), stepT O (ev O n)⟩
end Mine

namespace Mine

/-- what a sound step hands on -/
noncomputable abbrev Post (W : Wd) (own : List Addr) (s : Shared) (Q : Value → Shared → Prop) (d : Dt) : Prop :=
  ∀ h' tk v, Le W.P s.heap h' → Ok W own h' → Rep W (hideAll h' own) v d → Q v { s with heap := h', toks := tk }

section
variable {W : Wd} {own : List Addr} {A : Around} {E : Value → Shared → Prop} {s : Shared} {Q : Value → Shared → Prop} {d : Dt}
theorem Post.here (o : Ok W own s.heap) (p : Post W own s Q d) {v : Value} {tk : Tok} (r : Rep W (hideAll s.heap own) v d) : Q v { s with toks := tk } :=
  p s.heap tk v (Le.refl _ _) o r
theorem Post.then (p : Post W own s Q d) {h₁ : Heap} {k₁ : Tok} (u : Le W.P s.heap h₁) : Post W own { s with heap := h₁, toks := k₁ } Q d :=
  fun h' tk v l o r => p h' tk v (u.trans l) o r
theorem vis_new {own : List Addr} {h : Heap} (o : Ok W own h) {ob : Obj} (hf : ob.isFreed = false := by rfl) : (hideAll (h.push ob) own).get? h.objs.size = some ob :=
  vis_iff.mpr ⟨Heap.get?_push_size _ hf, o.new (fresh_none (Nat.le_refl _))⟩
theorem Post.list (o : Ok W own s.heap) {ds : List Dt} (p : Post W own s Q (.list ds)) {vs : List Value} {tk : Tok} (r : Reps W (hideAll s.heap own) vs ds) :
    Q (.ref s.heap.objs.size) { s with heap := s.heap.push { cls := .type "list", data := .seq vs.toArray }, toks := tk } :=
  p _ tk _ (Up.push _ _).le (o.up (Up.push _ _)) (.list (n := 0) (vis_new o) (r.up (vis_up (Up.push _ _))))
theorem Post.tuple (o : Ok W own s.heap) {ds : List Dt} (p : Post W own s Q (.tuple ds)) {vs : List Value} {tk : Tok} (r : Reps W (hideAll s.heap own) vs ds) :
    Q (.ref s.heap.objs.size) { s with heap := s.heap.push { cls := .type "tuple", data := .seq vs.toArray }, toks := tk } :=
  p _ tk _ (Up.push _ _).le (o.up (Up.push _ _)) (.tuple ⟨_, vis_new o, rfl, 0, rfl⟩ (r.up (vis_up (Up.push _ _))))

-- reading as the library's data
theorem rep_reads {g : Heap} {v : Value} {d : Dt} {p : PyData} (h : Rep W g v d) (e : d.toPy = some p) : ∃ as, Reads g v p as := by
  refine Rep.rec (motive_1 := fun v d _ => ∀ p, d.toPy = some p → ∃ as, Reads g v p as) (motive_2 := fun vs ds _ => ∀ ps, toPys ds = some ps → ∃ as, ReadsAll g vs ps as) ?_ ?_ ?_ ?_ ?_ ?_ ?_ ?_ ?_ h p e
  · intro p e; cases e; exact ⟨_, .none⟩
  · intro b p e; cases e; exact ⟨_, .bool b⟩
  · intro i t p e; cases e; exact ⟨_, .int i t⟩
  · intro x t p e; cases e; exact ⟨_, .str x t⟩
  · intro a vs n ds h _ ih p e
    obtain ⟨ps, q, rfl⟩ := Option.map_eq_some_iff.mp (show (toPys ds).map PyData.list = some p from e)
    obtain ⟨as, z⟩ := ih ps q
    exact ⟨_, .list h rfl rfl (by simpa using z)⟩
  · intro a vs ds h _ ih p e
    obtain ⟨ps, q, rfl⟩ := Option.map_eq_some_iff.mp (show (toPys ds).map PyData.tuple = some p from e)
    obtain ⟨as, z⟩ := ih ps q
    obtain ⟨o, h1, h2, n, h3⟩ := h
    exact ⟨_, .tuple h1 h2 h3 (by simpa using z)⟩
  · intro v n ds _ p e; exact noneE e
  · intro ps e; cases e; exact ⟨_, .nil⟩
  · intro v vs d ds _ _ ih1 ih2 ps e
    rw [toPys] at e
    cases q : d.toPy with
    | none => rw [q] at e; exact noneE e
    | some p => cases q2 : toPys ds with
      | none => rw [q, q2] at e; exact noneE e
      | some qs =>
        rw [q, q2] at e; cases e
        obtain ⟨as, z⟩ := ih1 _ q
        obtain ⟨bs, z2⟩ := ih2 _ q2
        exact ⟨_, .cons z z2⟩
theorem reads_here {own : List Addr} {h : Heap} {v : Value} {p : PyData} {as : List Addr} (r : Reads (hideAll h own) v p as) : Reads h v p as := Reads.keeps (fun _ _ e => vis_of _ _ e) r

theorem reps_ints {g : Heap} {vs : List Value} {ds : List Dt} {ns : List Int} (r : Reps W g vs ds) (e : intsOf ds = some ns) : IntsAre vs ns := by
  induction vs generalizing ds ns with
  | nil => cases r; cases e; exact .nil
  | cons v vs ih =>
    cases r with
    | cons h r =>
      cases h with
      | int i t =>
        rw [intsOf] at e
        obtain ⟨ms, q, rfl⟩ := Option.map_eq_some_iff.mp e
        exact .cons _ _ (ih r q)
      | _ => simp [intsOf] at e
theorem ints_reps {g : Heap} {vs : List Value} {ns : List Int} (h : IntsAre vs ns) : Reps W g vs (ns.map .int) := by
  induction h with
  | nil => exact .nil
  | cons i t _ ih => exact .cons (.int _ _) ih
theorem reps_bools {g : Heap} {vs : List Value} {ds : List Dt} {bs : List Bool} (r : Reps W g vs ds) (e : boolsOf ds = some bs) : vs = bs.map .bool := by
  induction vs generalizing ds bs with
  | nil => cases r; cases e; rfl
  | cons v vs ih =>
    cases r with
    | cons h r =>
      cases h with
      | bool b =>
        rw [boolsOf] at e
        obtain ⟨ms, q, rfl⟩ := Option.map_eq_some_iff.mp e
        rw [ih r q]; rfl
      | _ => simp [boolsOf] at e
theorem mul_small {a b : Int} (h : (smallI a && smallI b) = true) : IntMulOk a b := by
  simp only [smallI, Bool.and_eq_true, decide_eq_true_eq] at h
  have h1 : a.natAbs < 4294967296 := by omega
  unfold IntMulOk
  have hb : ¬ Builtin.Int.intBits a > shortFactorBits := by
    unfold Builtin.Int.intBits shortFactorBits
    split
    · omega
    · have : a.natAbs.log2 < 32 := (Nat.log2_lt (by simp_all)).mpr (by simpa using h1)
      omega
  simp [hb]

theorem eq_sound {a b : Dt} {va vb : Value} {r : Bool} (e : eqD a b = some r) (ra : Rep W (hideAll s.heap own) va a) (rb : Rep W (hideAll s.heap own) vb b) (K : AOk W 0 A) (h : Q (.bool r) s) :
    wpAny W.M A (compareOp .Eq va vb) Q E s := by
  unfold eqD at e
  split at e
  · rename_i p q hp hq
    split at e
    · rename_i hs
      cases e
      obtain ⟨as, ra⟩ := rep_reads ra hp
      obtain ⟨bs, rb⟩ := rep_reads rb hq
      have hs := Bool.and_eq_true_iff.mp hs
      exact eq_dataH (reads_here ra) (reads_here rb) hs.1 hs.2 (by have := K.hu; omega) h
    · cases e
  · cases e
theorem ne_sound {a b : Dt} {va vb : Value} {r : Bool} (e : eqD a b = some r) (ra : Rep W (hideAll s.heap own) va a) (rb : Rep W (hideAll s.heap own) vb b) (K : AOk W 0 A) (h : Q (.bool !r) s) :
    wpAny W.M A (compareOp .NotEq va vb) Q E s := by
  unfold eqD at e
  split at e
  · rename_i p q hp hq
    split at e
    · rename_i hs
      cases e
      obtain ⟨as, ra⟩ := rep_reads ra hp
      obtain ⟨bs, rb⟩ := rep_reads rb hq
      have hs := Bool.and_eq_true_iff.mp hs
      exact ne_dataH (reads_here ra) (reads_here rb) hs.1 hs.2 (by have := K.hu; omega) h
    · cases e
  · cases e

theorem rep_list {g : Heap} {v : Value} {ds : List Dt} (r : Rep W g v (.list ds)) : ∃ a vs n, v = .ref a ∧ g.get? a = some (listOf vs.toArray n) ∧ Reps W g vs ds := by
  cases r with | list e r => exact ⟨_, _, _, rfl, e, r⟩
theorem rep_tuple {g : Heap} {v : Value} {ds : List Dt} (r : Rep W g v (.tuple ds)) : ∃ a vs, v = .ref a ∧ g.IsTuple a vs.toArray ∧ Reps W g vs ds := by
  cases r with | tuple e r => exact ⟨_, _, rfl, e, r⟩
theorem rep_int {g : Heap} {v : Value} {i : Int} (r : Rep W g v (.int i)) : ∃ t, v = .int i t := by cases r; exact ⟨_, rfl⟩
theorem rep_str {g : Heap} {v : Value} {i : Str} (r : Rep W g v (.str i)) : ∃ t, v = .str i t := by cases r; exact ⟨_, rfl⟩
theorem rep_bool {g : Heap} {v : Value} {i : Bool} (r : Rep W g v (.bool i)) : v = .bool i := by cases r; rfl

theorem reps_flat {g : Heap} {vs : List Value} {ds : List Dt} (r : Reps W g vs ds) : ∀ k, Reps W g (List.replicate k vs).flatten (List.replicate k ds).flatten
  | 0 => .nil
  | k + 1 => by
    rw [List.replicate_succ, List.replicate_succ, List.flatten_cons, List.flatten_cons]
    exact r.append (reps_flat r k)
theorem fold_flat (vs : List Value) : ∀ k, (List.replicate k vs.toArray).foldl (· ++ ·) #[] = ((List.replicate k vs).flatten).toArray := by
  intro k
  have key : ∀ (k : Nat) (acc : Array Value), (List.replicate k vs.toArray).foldl (· ++ ·) acc = acc ++ ((List.replicate k vs).flatten).toArray := by
    intro k
    induction k with
    | zero => intro acc; simp
    | succ k ih => intro acc; rw [List.replicate_succ, List.foldl_cons, ih, List.replicate_succ, List.flatten_cons]; apply Array.toList_inj.mp; simp
  rw [key]; simp

theorem mul_listD {l : Addr} {vs : List Value} {k : Nat} {x : Int} {u : Tok} (hl : s.heap.get? l = some (listOf vs.toArray k)) (h0 : 0 ≤ x) (hx : x ≤ 256) (hsz : vs.length * x.toNat ≤ 256)
    (h : Q (.ref s.heap.objs.size) { s with heap := s.heap.push { cls := .type "list", data := .seq (List.replicate x.toNat vs).flatten.toArray } }) :
    wpAny W.M A (binaryOp .Mult (.ref l) (.int x u)) Q E s := by
  have hsz' : vs.toArray.size * x.toNat ≤ 256 := by simpa using hsz
  refine wpAny_binaryOp_repeat_ref (T := "list") (U := "int") (by decide) ⟨_, hl, rfl⟩ (fun s' => typeIs_int s' x u) noFill_list_mul F.fills_int_mul F.slot_int_rmul repeat_list F.slot_int_index.lookup
    (call_meets F.slot_int_rmul (typeIs_int s x u) F.entry_int_rmul (F.args_int_rmul_2 _ _) (lm_int_rmul_list_any x u l vs.toArray k none #[])
      ⟨hl, rfl, ⟨_, hl, rfl⟩, call_meets F.slot_list_mul ⟨_, hl, rfl⟩ F.entry_list_mul (F.args_list_mul_2 _ _)
        (lm_list_mul_any l vs.toArray k none #[] x u (by simp [Builtin.List.listFitsIndex]; omega) (by omega) (by simp [Builtin.List.listTooLong, sizeLine]; omega))
        ⟨hl, ?_⟩⟩)
  rw [listMul_foldl_if]
  exact h

theorem mulOk_small {x : Str} {n : Int} (h : 0 ≤ n ∧ n ≤ 1000 ∧ x.length ≤ 16) : MulOk x n := by
  obtain ⟨h0, h1, h2⟩ := h
  refine ⟨?_, fun h3 _ => ?_, fun h3 _ => ?_⟩
  · simp; omega
  · have hn : 1 ≤ n := by omega
    have : (16 : Int) ≤ (2 ^ 63 - 1) / n := by
      refine Int.le_ediv_of_mul_le (by omega) ?_
      omega
    omega
  · have hl : x.length * n.toNat ≤ 16 * 1000 := Nat.mul_le_mul h2 (by omega)
    unfold PySem.Builtin.Str.tooLong
    simp [sizeLine]
    omega

theorem bin_sound {op : Operator} {a b : Dt} {va vb : Value} (e : binD op a b = some d) (ra : Rep W (hideAll s.heap own) va a) (rb : Rep W (hideAll s.heap own) vb b) (o : Ok W own s.heap)
    (p : Post W own s Q d) : wpAny W.M A (binaryOp op va vb) Q E s := by
  cases op with
  | Add =>
    replace e : addD a b = some d := e
    cases a with
    | list xs =>
      cases b with
      | list ys =>
        replace e : (if xs.length + ys.length ≤ 4096 then some (Dt.list (xs ++ ys)) else none) = some d := e
        by_cases hs : xs.length + ys.length ≤ 4096
        · rw [if_pos hs] at e
          cases e
          obtain ⟨x, xs, n, rfl, ex, rx⟩ := rep_list ra
          obtain ⟨y, ys, m, rfl, ey, ry⟩ := rep_list rb
          refine PySem.P.add_list (vis_of _ _ ex) (vis_of _ _ ey) ?_ (by rw [List.size_toArray, List.size_toArray, rx.length, ry.length, sizeLine_eq]; omega)
          have := p.list o (tk := s.toks) (rx.append ry)
          simpa using this
        · rw [if_neg hs] at e; cases e
      | _ => exact noneE e
    | int i =>
      obtain ⟨i, j, h1, rfl, h3⟩ := ints2_form (show ints2 (.int i) b (fun i j => some (.int (i + j))) = some d from e)
      cases h1; cases h3; obtain ⟨t, rfl⟩ := rep_int ra; obtain ⟨u, rfl⟩ := rep_int rb
      exact PyProof.Rows.add_int (p.here o (.int _ _))
    | _ => exact noneE e
  | Sub =>
    obtain ⟨i, j, rfl, rfl, h3⟩ := ints2_form e
    cases h3; obtain ⟨t, rfl⟩ := rep_int ra; obtain ⟨u, rfl⟩ := rep_int rb
    exact PyProof.Rows.sub_int (p.here o (.int _ _))
  | Mult =>
    replace e : mulD a b = some d := e
    cases b with
    | int n =>
      obtain ⟨u, rfl⟩ := rep_int rb
      cases a with
      | int i =>
        replace e : (if (smallI i && smallI n) = true then some (Dt.int (i * n)) else none) = some d := e
        by_cases hs : (smallI i && smallI n) = true
        · rw [if_pos hs] at e
          cases e; obtain ⟨t, rfl⟩ := rep_int ra
          exact PyProof.Rows.mul_int (p.here o (.int _ _)) (mul_small hs)
        · rw [if_neg hs] at e; cases e
      | list xs =>
        replace e : (if 0 ≤ n ∧ n ≤ 256 ∧ xs.length * n.toNat ≤ 256 then some (Dt.list (List.replicate n.toNat xs).flatten) else none) = some d := e
        by_cases hs : 0 ≤ n ∧ n ≤ 256 ∧ xs.length * n.toNat ≤ 256
        · rw [if_pos hs] at e
          cases e
          obtain ⟨x, xs, k, rfl, ex, rx⟩ := rep_list ra
          exact mul_listD (vis_of _ _ ex) hs.1 hs.2.1 (by rw [rx.length]; exact hs.2.2) (p.list o (tk := s.toks) (reps_flat rx _))
        · rw [if_neg hs] at e; cases e
      | str x =>
        replace e : (if 0 ≤ n ∧ n ≤ 1000 ∧ x.length ≤ 16 then some (Dt.str (PySem.Txt.mul x n)) else none) = some d := e
        by_cases hs : 0 ≤ n ∧ n ≤ 1000 ∧ x.length ≤ 16
        · rw [if_pos hs] at e
          cases e
          obtain ⟨t, rfl⟩ := rep_str ra
          exact PySem.SB.mul (mulOk_small hs) fun t' k => p.here o (.str _ _)
        · rw [if_neg hs] at e; cases e
      | _ => exact noneE e
    | _ => exact noneE e
  | FloorDiv =>
    obtain ⟨i, j, rfl, rfl, h3⟩ := ints2_form e
    obtain ⟨t, rfl⟩ := rep_int ra; obtain ⟨u, rfl⟩ := rep_int rb
    by_cases hs : j ≠ 0 ∧ j.natAbs < 1073741824
    · rw [if_pos hs] at h3
      cases h3
      exact PyProof.Rows.floordiv_int hs.1 (p.here o (.int _ _)) (Or.inl (PyProof.noPylong_small hs.2))
    · rw [if_neg hs] at h3; cases h3
  | Mod =>
    obtain ⟨i, j, rfl, rfl, h3⟩ := ints2_form e
    obtain ⟨t, rfl⟩ := rep_int ra; obtain ⟨u, rfl⟩ := rep_int rb
    by_cases hs : j ≠ 0
    · rw [if_pos hs] at h3
      cases h3
      exact PyProof.Rows.mod_int hs (p.here o (.int _ _))
    · rw [if_neg hs] at h3; cases h3
  | _ => exact noneE e
end
end Mine

namespace Mine
section
variable {W : Wd} {own : List Addr} {A : Around} {E : Value → Shared → Prop} {s : Shared} {Q : Value → Shared → Prop} {d : Dt}

theorem vbeq (x y : Bool) : (Value.bool x == Value.bool y) = (x == y) := by cases x <;> cases y <;> rfl
theorem cmp_sound {op : CmpOp} {a b : Dt} {va vb : Value} {r : Bool} (e : cmpD op a b = some r) (ra : Rep W (hideAll s.heap own) va a) (rb : Rep W (hideAll s.heap own) vb b) (K : AOk W 0 A)
    (h : ∀ tk, Q (.bool r) { s with toks := tk }) : wpAny W.M A (compareOp op va vb) Q E s := by
  have hu := K.hu
  have nots : ∀ {x : Option Bool}, x.map (!·) = some r → x = some (!r) := fun {x} e => by
    obtain ⟨c, e', hc⟩ := Option.map_eq_some_iff.mp e
    subst hc
    rw [e', Bool.not_not]
  cases op with
  | Eq => exact eq_sound e ra rb K (h s.toks)
  | NotEq =>
    have := ne_sound (nots e) ra rb K (Q := Q) (s := s) (E := E) (by rw [Bool.not_not]; exact h s.toks)
    exact this
  | Lt =>
    obtain ⟨i, j, rfl, rfl, h3⟩ := ints2_form e
    cases h3; obtain ⟨t, rfl⟩ := rep_int ra; obtain ⟨u, rfl⟩ := rep_int rb
    exact PyProof.Rows.lt_int (h s.toks)
  | LtE =>
    obtain ⟨i, j, rfl, rfl, h3⟩ := ints2_form e
    cases h3; obtain ⟨t, rfl⟩ := rep_int ra; obtain ⟨u, rfl⟩ := rep_int rb
    exact PyProof.Rows.le_int (h s.toks)
  | Gt =>
    obtain ⟨i, j, rfl, rfl, h3⟩ := ints2_form e
    cases h3; obtain ⟨t, rfl⟩ := rep_int ra; obtain ⟨u, rfl⟩ := rep_int rb
    exact PyProof.Rows.gt_int (h s.toks)
  | GtE =>
    obtain ⟨i, j, rfl, rfl, h3⟩ := ints2_form e
    cases h3; obtain ⟨t, rfl⟩ := rep_int ra; obtain ⟨u, rfl⟩ := rep_int rb
    exact PyProof.Rows.ge_int (h s.toks)
  | In => exact noneE e
  | NotIn => exact noneE e
  | Is =>
    replace e : isD a b = some r := e
    cases b with
    | bool y => cases a with
      | bool x => cases e; cases rep_bool ra; cases rep_bool rb; exact wpAny_is_plain rfl (by rw [vbeq]; exact h s.toks)
      | str x => cases e; obtain ⟨t, rfl⟩ := rep_str ra; cases rep_bool rb; exact wpAny_is_plain rfl (h s.toks)
      | _ => exact noneE e
    | _ => exact noneE e
  | IsNot =>
    replace e : (isD a b).map (!·) = some r := e
    cases b with
    | bool y => cases a with
      | bool x => cases e; cases rep_bool ra; cases rep_bool rb; exact wpAny_isNot_plain rfl (by rw [vbeq]; exact h s.toks)
      | str x => cases e; obtain ⟨t, rfl⟩ := rep_str ra; cases rep_bool rb; exact wpAny_isNot_plain rfl (h s.toks)
      | _ => exact noneE e
    | _ => exact noneE e

theorem truth_sound {b : Dt} {v : Value} {r : Bool} {Q : Bool → Shared → Prop} (e : truthD b = some r) (ra : Rep W (hideAll s.heap own) v b) (h : ∀ tk, Q r { s with toks := tk }) : wpAny W.M A (truthy v) Q E s := by
  unfold truthD at e
  split at e
  · cases e; cases ra; exact PyProof.Rows.truthy_none (h s.toks)
  · cases e; cases rep_bool ra; exact wpAny_truthy_bool (h s.toks)
  · cases e; obtain ⟨t, rfl⟩ := rep_int ra; exact PyProof.Rows.truthy_int (h s.toks)
  · split at e
    · rename_i hl
      cases e; obtain ⟨t, rfl⟩ := rep_str ra
      exact PySem.P.truthy_str (by omega) (h _)
    · cases e
  · cases e

theorem idx_seq {i : Int} {n k : Nat} (e : idx i n = some k) : k < n ∧ seqIndex? i n = some k ∧ -(n : Int) ≤ i ∧ i < n := by
  unfold idx at e
  by_cases h0 : 0 ≤ i
  · rw [if_pos h0] at e
    by_cases h1 : i < n
    · rw [if_pos h1] at e
      cases e
      have hj : (if i < 0 then i + (n : Int) else i) = i := if_neg (by omega)
      refine ⟨by omega, ?_, by omega, by omega⟩
      show (if (decide (0 ≤ (if i < 0 then i + (n : Int) else i)) && decide ((if i < 0 then i + (n : Int) else i) < n)) = true then some (if i < 0 then i + (n : Int) else i).toNat else none) = _
      rw [hj]
      exact if_pos (by simp; omega)
    · rw [if_neg h1] at e; cases e
  · rw [if_neg h0] at e
    by_cases h1 : 0 ≤ i + n
    · rw [if_pos h1] at e
      cases e
      have hj : (if i < 0 then i + (n : Int) else i) = i + n := if_pos (by omega)
      refine ⟨by omega, ?_, by omega, by omega⟩
      show (if (decide (0 ≤ (if i < 0 then i + (n : Int) else i)) && decide ((if i < 0 then i + (n : Int) else i) < n)) = true then some (if i < 0 then i + (n : Int) else i).toNat else none) = _
      rw [hj]
      exact if_pos (by simp; omega)
    · rw [if_neg h1] at e; cases e

theorem sub_sound {a i : Dt} {va vi : Value} (e : subD a i = some d) (ra : Rep W (hideAll s.heap own) va a) (ri : Rep W (hideAll s.heap own) vi i)
    (h : ∀ v tk, Rep W (hideAll s.heap own) v d → Q v { s with toks := tk }) :
    ∃ T id, (s.TypeIs va T) ∧ typeLookup (.type T) "__getitem__" = pure (some (.builtin id)) ∧ wpAny W.M A (getItem va vi) Q E s := by
  have hif : ∀ {c : Prop} [Decidable c] {x : Option Dt}, (if c then x else none) = some d → c ∧ x = some d := fun {c} _ {x} z => by
    by_cases hc : c
    · rw [if_pos hc] at z; exact ⟨hc, z⟩
    · rw [if_neg hc] at z; cases z
  cases i with
  | int i =>
    replace e : subI a i = some d := e
    obtain ⟨u, rfl⟩ := rep_int ri
    cases a with
    | list ds =>
      obtain ⟨hlen, e⟩ := hif e
      obtain ⟨k, hk, hd⟩ := Option.bind_eq_some_iff.mp e
      obtain ⟨l, vs, n, rfl, hl, rs⟩ := rep_list ra
      obtain ⟨v, hv, rv⟩ := rs.get hd
      have hl' : s.heap.IsList l vs.toArray := ⟨_, vis_of _ _ hl, rfl, n, rfl⟩
      obtain ⟨q1, q2, q3, q4⟩ := idx_seq hk
      refine ⟨"list", _, hl'.typeIs, slot_list_getitem.lookup, ?_⟩
      unfold idx at hk
      by_cases h0 : 0 ≤ i
      · rw [if_pos h0, if_pos q4] at hk
        cases hk
        exact wpAny_getItem_list hl' h0 (by omega) (by simpa using hv) (h v s.toks rv)
      · rw [if_neg h0, if_pos (by omega)] at hk
        cases hk
        refine wpAny_getItem_list_neg hl' (by omega) ?_ (by omega) ?_ (h v s.toks rv)
        · simp [rs.length]; omega
        · simpa [rs.length] using hv
    | tuple ds =>
      obtain ⟨hlen, e⟩ := hif e
      obtain ⟨k, hk, hd⟩ := Option.bind_eq_some_iff.mp e
      obtain ⟨l, vs, rfl, hl, rs⟩ := rep_tuple ra
      obtain ⟨v, hv, rv⟩ := rs.get hd
      obtain ⟨q1, q2, q3, q4⟩ := idx_seq hk
      have ht : PyProof.Rows.IsTup s.heap l vs.toArray := hl.at (vis_of _)
      refine ⟨"tuple", _, (let ⟨o, a, b, _⟩ := ht; ⟨o, a, b⟩), F.slot_tuple_getitem.lookup, ?_⟩
      exact PyProof.Rows.getItem_tuple ht (by omega) (by omega) (by simpa [rs.length] using q2) (by simpa using hv) (h v s.toks rv)
    | _ => exact noneE e
  | _ => exact noneE e
theorem pick_reps {g : Heap} {vs : List Value} {ds : List Dt} (r : Reps W g vs ds) : ∀ is : List Nat, Reps W g (is.filterMap (vs[·]?)) (is.filterMap (ds[·]?))
  | [] => .nil
  | i :: is => by
    have ih := pick_reps r is
    rw [List.filterMap_cons, List.filterMap_cons]
    cases hd : ds[i]? with
    | none =>
      have hv : vs[i]? = none := by rw [List.getElem?_eq_none_iff] at hd ⊢; rw [r.length]; exact hd
      rw [hv]; exact ih
    | some d =>
      obtain ⟨v, hv, rv⟩ := r.get hd
      rw [hv]; exact .cons rv ih
theorem slice_reps {g : Heap} {vs : List Value} {ds : List Dt} (r : Reps W g vs ds) (lo hi st : Option Int) : Reps W g (slicePick vs.toArray lo hi st).toList (pickD ds lo hi st) := by
  unfold slicePick pickD
  have e : vs.toArray.size = ds.length := by simp [r.length]
  rw [e]
  have := pick_reps r (sliceRange (sliceBounds lo hi st ds.length).1 (sliceBounds lo hi st ds.length).2.1 (sliceBounds lo hi st ds.length).2.2)
  simpa using this
end
end Mine

namespace Mine
section
variable {W : Wd} {own : List Addr} {A : Around} {E : Value → Shared → Prop} {s : Shared} {Q : Value → Shared → Prop} {d : Dt}

theorem kept1 {h' : Heap} {o : Obj} (hk : ∀ b x, b ∉ [s.heap.objs.size] → (s.heap.push o).get? b = some x → h'.get? b = some x) : Up s.heap h' := LSm.kept_iter hk

noncomputable def bval (f : Str) : Value :=
  if f = "range" ∨ f = "enumerate" ∨ f = "zip" ∨ f = "set" ∨ f = "int" ∨ f = "str" then .type f.toString else .builtin f.toString
theorem bval_ok : ∀ f ∈ biNames, bootBuiltins f = some (bval f) := by decide +kernel

theorem len_sound {x : Dt} {v : Value} (h : lenD x = some d) (rv : Rep W (hideAll s.heap own) v x) (o : Ok W own s.heap) (p : Post W own s Q d) : wpAny W.M A (call (.builtin "len") [v]) Q E s := by
  cases x with
  | list ds =>
    have h : (if ds.length ≤ 16777216 then some (Dt.int ds.length) else none) = some d := h
    split at h
    · rename_i hl
      cases h
      obtain ⟨a, vs, n, rfl, e, r⟩ := rep_list rv
      refine PyProof.Rows.len_list (items := vs.toArray) ⟨_, vis_of _ _ e, rfl, n, rfl⟩ (by simp [r.length]; omega) ?_
      have z : (vs.toArray.size : Int) = ds.length := by simp [r.length]
      rw [z]
      exact p.here o (.int _ _)
    · cases h
  | str x =>
    have h : (if x.length ≤ 16777216 then some (Dt.int x.length) else none) = some d := h
    split at h
    · rename_i hl
      cases h
      obtain ⟨t, rfl⟩ := rep_str rv
      exact PyProof.Rows.len_str (by omega) (p.here o (.int _ _))
    · cases h
  | _ => cases h

theorem sum_sound {ds : List Dt} {v : Value} {ns : List Int} (hh : A.handled = none) (h : intsOf ds = some ns) (rv : Rep W (hideAll s.heap own) v (.list ds)) (o : Ok W own s.heap) (p : Post W own s Q (.int ns.sum)) :
    wpAny W.M A (call (.builtin "sum") [v]) Q E s := by
  obtain ⟨a, vs, n, rfl, e, r⟩ := rep_list rv
  have hi := reps_ints r h
  obtain ⟨xs, hx⟩ := hi.allInts.items
  have hl : s.heap.IsList a (intItems xs) := hx ▸ ⟨_, vis_of _ _ e, rfl, n, rfl⟩
  refine sum_intListG hh hl fun h' tk t' hk => ?_
  have e1 : ns = xs.toList.map (·.1) := by
    rw [← nums_intItems, ← hx]
    exact hi.numsOf.symm
  have e2 : preSum (numAt xs) xs.size = ns.sum := by
    rw [preSum_eq, List.take_of_length_le (by simp), e1]
  rw [e2]
  exact p h' tk _ (Up.le hk) (o.up hk) (.int _ _)

theorem perm_sort {ns ms : List Int} (h : ms.Perm ns) (hs : ms.Pairwise (· ≤ ·)) : ms = isort ns := eq_sortI h hs
theorem sorted_sound {ds : List Dt} {v : Value} {ns : List Int} (h : intsOf ds = some ns) (hlen : ds.length < 64) (rv : Rep W (hideAll s.heap own) v (.list ds)) (o : Ok W own s.heap) (p : Post W own s Q (.list ((isort ns).map .int))) :
    wpAny W.M A (call (.builtin "sorted") [v]) Q E s := by
  obtain ⟨a, vs, n, rfl, e, r⟩ := rep_list rv
  have hi := reps_ints r h
  refine sorted_ints (vs := vs) ⟨_, vis_of _ _ e, rfl, n, rfl⟩ hi (by rw [r.length]; exact hlen) fun out ns' hi' hp hs => ?_
  obtain ⟨c, hc⟩ := sortedAll_at s.heap vs out
  have u : Up s.heap (sortedAll s.heap vs out) := fun b ob q => sortedAll_old q
  have en := perm_sort hp hs
  subst en
  have hnew : s.heap.objs.size + 1 ∉ own := o.new (fresh_none (Nat.le_succ _))
  refine p _ s.toks _ u.le (o.up u) (.list (vs := out.toList) (n := c) ?_ (ints_reps hi'))
  exact vis_iff.mpr ⟨by simpa using hc, hnew⟩

theorem all_sound {ds : List Dt} {v : Value} {bs : List Bool} (hh : A.handled = none) (h : boolsOf ds = some bs) (rv : Rep W (hideAll s.heap own) v (.list ds)) (o : Ok W own s.heap) (p : Post W own s Q (.bool (bs.all id))) :
    wpAny W.M A (call (.builtin "all") [v]) Q E s := by
  obtain ⟨l, vs, n, rfl, e, r⟩ := rep_list rv
  have hb := reps_bools r h
  have hl : s.heap.IsList l vs.toArray := ⟨_, vis_of _ _ e, rfl, n, rfl⟩
  have hlt : l < s.heap.objs.size := Heap.lt_size (vis_of _ _ e)
  refine call_all_walk (wpAny_pyIter_list hl ?_)
  refine ⟨s.heap.objs.size, [s.heap.objs.size, l], [s.heap.objs.size], vs.toArray.size, _, _, fun i => (bs[i]?).getD true, rfl, Walks.list (A := A.in1) hh _ l (Nat.ne_of_lt hlt) vs.toArray,
    ⟨⟨_, Heap.get?_push_size _ rfl, rfl, rfl⟩, hl.push _⟩, fun i v s' Q' E' hP hQ => ?_, fun h' tk hk => ?_⟩
  · have hP' : vs[i]? = some v := by simpa using hP
    rw [hb, List.getElem?_map] at hP'
    obtain ⟨b, eb, rfl⟩ := Option.map_eq_some_iff.mp hP'
    simp only [eb, Option.getD_some] at hQ
    exact wpAny_truthy_bool hQ
  · have ez : ((List.range vs.toArray.size).all fun i => (bs[i]?).getD true) = bs.all id := by
      rw [List.size_toArray, hb, List.length_map]; exact LSm.range_all bs
    rw [ez]
    exact p h' tk _ (kept1 hk).le (o.up (kept1 hk)) (.bool _)
end
end Mine

namespace Mine

/-- what the built-in sets and the type int are known by -/
structure BltOk (W : Wd) : Prop where
  int3 : ∀ g v, W.OB 3 [] g v ↔ v = .type "int"
  more : ∀ {A : Around} {E : Value → Shared → Prop} {s : Shared} {Q : Value → Shared → Prop} {own : List Addr} {f : Str} {ds : List Dt} {vs : List Value} {d : Dt}, W.sets = true → callD f ds = some d → Reps W (hideAll s.heap own) vs ds → AOk W 2 A → Ok W own s.heap → Post W own s Q d →
    wpAny W.M A (call (bval f) vs) Q E s

section
variable {W : Wd} {own : List Addr} {A : Around} {E : Value → Shared → Prop} {s : Shared} {Q : Value → Shared → Prop} {d : Dt}

theorem Reps.inv1 {g : Heap} {vs : List Value} {a : Dt} (r : Reps W g vs [a]) : ∃ v, vs = [v] ∧ Rep W g v a := by
  cases r with | cons h r => cases r; exact ⟨_, rfl, h⟩
theorem Reps.inv2 {g : Heap} {vs : List Value} {a b : Dt} (r : Reps W g vs [a, b]) : ∃ v u, vs = [v, u] ∧ Rep W g v a ∧ Rep W g u b := by
  cases r with | cons h r => cases r with | cons k r => cases r; exact ⟨_, _, rfl, h, k⟩

theorem opq_of {g : Heap} {v : Value} {n : Nat} {ds : List Dt} (r : Rep W g v (.opq n ds)) : W.OB n ds g v := by cases r with | opq h => exact h

theorem call_sound (B : BltOk W) {f : Str} {ds : List Dt} {vs : List Value} (h : callD f ds = some d) (hs : W.sets = true) (rs : Reps W (hideAll s.heap own) vs ds) (K : AOk W 2 A) (o : Ok W own s.heap) (p : Post W own s Q d) :
    wpAny W.M A (call (bval f) vs) Q E s := B.more hs h rs K o p
end
end Mine

namespace Mine

/-- all that is outside X stays -/
noncomputable def Chg (X : Addr → Prop) (h h' : Heap) : Prop := ∀ b o, ¬ X b → h.get? b = some o → h'.get? b = some o
theorem Chg.refl (X : Addr → Prop) (h : Heap) : Chg X h h := fun _ _ _ e => e
theorem Chg.trans {X : Addr → Prop} {a b c : Heap} (x : Chg X a b) (y : Chg X b c) : Chg X a c := fun d o n e => y d o n (x d o n e)
theorem Chg.weaken {X Y : Addr → Prop} {a b : Heap} (x : Chg X a b) (h : ∀ d, X d → Y d) : Chg Y a b := fun d o n e => x d o (fun z => n (h d z)) e
theorem Up.chg {X : Addr → Prop} {a b : Heap} (x : Up a b) : Chg X a b := fun d o _ e => x d o e
theorem Le.chg {X : Addr → Prop} {P : Addr} {a b : Heap} (x : Le P a b) (h : X P) : Chg X a b := fun d o n e => x d o (fun z => n (z ▸ h)) e
theorem vis_chg {X : Addr → Prop} {l : List Addr} {h h' : Heap} (hX : ∀ a, X a → a ∈ l) (x : Chg X h h') : Up (hideAll h l) (hideAll h' l) := fun b o e =>
  let ⟨a, n⟩ := vis_iff.mp e; vis_iff.mpr ⟨x b o (fun q => n (hX _ q)) a, n⟩
theorem Chg.ext {X : Addr → Prop} {n : Addr} {h h' : Heap} (hn : h.get? n = none) (x : Heap.ExtBut n h h') : Chg X h h' := fun b o _ e => x b o (fun z => by rw [z, hn] at e; cases e) e

/-- the places that a frame's own names are stored at -/
noncomputable def WrF (env : Env) (ρ : Ro) (a : Addr) : Prop := a = env.locals ∨ ∃ x b, ρ.lookup x = some (.var .cel b) ∧ env.cells.lookup x = some a

structure Frm (W : Wd) (own : List Addr) (env : Env) (h : Heap) (ρ : Ro) : Prop where
  sees : Sees W own env h ρ
  ns : ∃ m, h.Ns env.locals m
  lo : env.locals ∈ own
  cel : ∀ x b c, ρ.lookup x = some (.var .cel b) → env.cells.lookup x = some c → c ∈ own ∧ ∃ v, h.IsCell c v
  sep : ∀ x y sx k sy c, ρ.lookup x = some (.var .cel sx) → ρ.lookup y = some (.var k sy) → k ≠ .loc → env.cells.lookup x = some c → env.cells.lookup y = some c → x = y

theorem put_spec : ∀ {ρ : Ro} {x : Str} {b : Bd} {ρ' : Ro}, put ρ x b = some ρ' →
    ∃ k b0, ρ.lookup x = some (.var k b0) ∧ (k = .loc ∨ k = .cel) ∧ ∀ y, ρ'.lookup y = if y = x then some (.var k b) else ρ.lookup y
  | [], _, _, _, h => by simp [put] at h
  | (z, sl) :: r, x, b, ρ', h => by
    unfold put at h
    by_cases hz : x = z
    · subst hz
      simp only [if_true] at h
      split at h
      · cases h
        refine ⟨.loc, _, List.lookup_cons_self, .inl rfl, fun y => ?_⟩
        by_cases hy : y = x
        · subst hy; simp [List.lookup_cons]
        · simp [List.lookup_cons, beq_eq_false_iff_ne.mpr hy, hy]
      · cases h
        refine ⟨.cel, _, List.lookup_cons_self, .inr rfl, fun y => ?_⟩
        by_cases hy : y = x
        · subst hy; simp [List.lookup_cons]
        · simp [List.lookup_cons, beq_eq_false_iff_ne.mpr hy, hy]
      · cases h
    · rw [if_neg hz] at h
      obtain ⟨q, hq, rfl⟩ := Option.map_eq_some_iff.mp h
      obtain ⟨k, b0, h1, h2, h3⟩ := put_spec hq
      refine ⟨k, b0, by simp [List.lookup_cons, beq_eq_false_iff_ne.mpr hz, h1], h2, fun y => ?_⟩
      by_cases hy : y = z
      · subst hy
        have : ¬ y = x := fun e => hz e.symm
        simp [List.lookup_cons, this]
      · have := h3 y
        simp [List.lookup_cons, beq_eq_false_iff_ne.mpr hy, this]

section
variable {W : Wd} {own : List Addr} {env : Env} {ρ ρ' : Ro} {A : Around} {E : Value → Shared → Prop} {s : Shared}

theorem WrF.put {x : Str} {b : Bd} (h : put ρ x b = some ρ') (a : Addr) : WrF env ρ' a ↔ WrF env ρ a := by
  obtain ⟨k, b0, h1, h2, h3⟩ := put_spec h
  unfold WrF
  refine or_congr Iff.rfl ⟨?_, ?_⟩
  · rintro ⟨y, c, e, q⟩
    rw [h3] at e
    by_cases hy : y = x
    · subst hy
      rw [if_pos rfl] at e; cases e
      exact ⟨y, b0, h1, q⟩
    · rw [if_neg hy] at e; exact ⟨y, c, e, q⟩
  · rintro ⟨y, c, e, q⟩
    by_cases hy : y = x
    · subst hy
      rw [h1] at e; cases e
      exact ⟨y, b, by rw [h3, if_pos rfl], q⟩
    · exact ⟨y, c, by rw [h3, if_neg hy]; exact e, q⟩
theorem Frm.wrOwn {h : Heap} (F : Frm W own env h ρ) {a : Addr} (x : WrF env ρ a) : a ∈ own := by
  rcases x with rfl | ⟨y, b, e, q⟩
  · exact F.lo
  · exact (F.cel y b a e q).1
theorem ns_cell {h : Heap} {a : Addr} {m : Str → Option Value} {v : Option Value} (n : h.Ns a m) (c : h.IsCell a v) : False := by
  obtain ⟨o, es, ep, e, hd, _⟩ := n
  obtain ⟨o', e', hd'⟩ := c
  rw [e] at e'; cases e'; rw [hd] at hd'; cases hd'
theorem Frm.wrP {h : Heap} (F : Frm W own env h ρ) : ¬ WrF env ρ W.P := by
  rintro (e | ⟨y, b, e, q⟩)
  · obtain ⟨m, n⟩ := F.ns; exact F.sees.ok.ns_ne n e.symm
  · obtain ⟨v, n⟩ := (F.cel y b _ e q).2; exact F.sees.ok.cell_ne n rfl

/-- the other names keep their values -/
noncomputable def BK (env : Env) (ρ : Ro) (x : Str) (h h' : Heap) : Prop := ∀ y k b v, y ≠ x → ρ.lookup y = some (.var k b) → Bound env h y v k → Bound env h' y v k
/-- a name's place is written -/
theorem Frm.store {h h' : Heap} {x : Str} {b : Bd} {v : Value} {k : SK} {b0 : Bd} (F : Frm W own env h ρ) (hp : put ρ x b = some ρ') (h1 : ρ.lookup x = some (.var k b0)) (P : Addr)
    (hP : match k with | .loc => P = env.locals | _ => env.cells.lookup x = some P) (hs : Heap.SameBut P h h')
    (hb : Bound env h' x v k) (hold : ∀ m, h.Ns env.locals m → k = .loc → ∃ m', h'.Ns env.locals m' ∧ ∀ y, y ≠ x → m' y = m y)
    (hrep : ∀ d, b.frz = some d → Rep W (hideAll h own) v d) (hk : k = .loc ∨ k = .cel) : Frm W own env h' ρ' ∧ Chg (WrF env ρ) h h' ∧ BK env ρ x h h' := by
  obtain ⟨k', b0', g1, g2, g3⟩ := put_spec hp
  rw [h1] at g1; cases g1
  have hW : WrF env ρ P := by
    rcases hk with rfl | rfl
    · exact .inl hP
    · exact .inr ⟨x, b0, h1, hP⟩
  have hPo : P ∈ own := F.wrOwn hW
  have hPne : P ≠ W.P := fun e => F.wrP (e ▸ hW)
  have hC : Chg (WrF env ρ) h h' := fun c o n e => (hs.2 c fun z => n (z ▸ hW)).trans e
  have u : Up (hideAll h own) (hideAll h' own) := vis_same hPo hs
  obtain ⟨m0, n0⟩ := F.ns
  have hlive : ∃ o, h'.get? P = some o := by
    obtain ⟨o, e⟩ := F.sees.ok.live P hPo
    rcases hk with rfl | rfl
    · obtain ⟨m, ⟨o, es, ep, e, _⟩, _⟩ := hb
      have hP' : P = env.locals := hP
      exact ⟨o, hP' ▸ e⟩
    · obtain ⟨c, hc, ⟨o, e, _⟩⟩ := hb
      have hP' : env.cells.lookup x = some P := hP
      rw [hP'] at hc; cases hc
      exact ⟨o, e⟩
  obtain ⟨ol, hol⟩ := hlive
  have ok' : Ok W own h' := F.sees.ok.same hPo hPne hs hol
  -- the local names
  have hns : ∃ m', h'.Ns env.locals m' ∧ ∀ m, h.Ns env.locals m → ∀ y, (y ≠ x ∨ k = .cel) → m' y = m y := by
    rcases hk with rfl | rfl
    · obtain ⟨m', n', e'⟩ := hold m0 n0 rfl
      refine ⟨m', n', fun m n y hy => ?_⟩
      rw [← Heap.Ns.agree n0 n y]
      exact e' y (hy.resolve_right (by decide))
    · have hne : env.locals ≠ P := fun e => by
        obtain ⟨w, hw⟩ := (F.cel x b0 P h1 hP).2
        exact ns_cell n0 (e ▸ hw)
      exact ⟨m0, n0.sameBut hs hne, fun m n y _ => Heap.Ns.agree n0 n y⟩
  have hcell : ∀ c w, h.IsCell c w → c ≠ P → h'.IsCell c w := fun c w q n => q.sameBut hs n
  have hbk : BK env ρ x h h' := by
    intro y ky by' w hy e bw
    cases ky with
    | loc =>
      obtain ⟨m, n, em⟩ := bw
      obtain ⟨m', n', a⟩ := hns
      exact ⟨m', n', (a m n y (.inl hy)).trans em⟩
    | cel =>
      obtain ⟨c, hc, cc⟩ := bw
      refine ⟨c, hc, hcell _ _ cc fun z => ?_⟩
      subst z
      rcases hk with rfl | rfl
      · have hP' : c = env.locals := hP
        exact ns_cell n0 (hP' ▸ cc)
      · exact hy (F.sep x y _ _ _ _ h1 e (by decide) hP hc).symm
    | fre =>
      obtain ⟨c, hc, cc⟩ := bw
      refine ⟨c, hc, hcell _ _ cc fun z => ?_⟩
      subst z
      rcases hk with rfl | rfl
      · have hP' : c = env.locals := hP
        exact ns_cell n0 (hP' ▸ cc)
      · exact hy (F.sep x y _ _ _ _ h1 e (by decide) hP hc).symm
  refine ⟨⟨⟨F.sees.envOk, ok', ?_, ?_, ?_⟩, (let ⟨m', n', _⟩ := hns; ⟨m', n'⟩), F.lo, ?_, ?_⟩, hC, hbk⟩
  · intro y sl e
    rw [g3] at e
    by_cases hy : y = x
    · subst hy
      rw [if_pos rfl] at e; cases e
      refine ⟨(F.sees.at' y _ h1).1, fun d hd => ⟨v, hb, (hrep d hd).up u⟩⟩
    · rw [if_neg hy] at e
      have q := F.sees.at' y sl e
      cases sl with
      | glob => exact q
      | var ky by' =>
        obtain ⟨q1, q2⟩ := q
        refine ⟨q1, fun d hd => ?_⟩
        obtain ⟨w, bw, rw'⟩ := q2 d hd
        exact ⟨w, hbk y ky by' w hy e bw, rw'.up u⟩
  · intro y sl e
    rw [g3] at e
    by_cases hy : y = x
    · subst hy; exact F.sees.nodbg y _ h1
    · rw [if_neg hy] at e; exact F.sees.nodbg y sl e
  · intro y ky by' c e hky hc
    have he : ∃ b1, ρ.lookup y = some (.var ky b1) := by
      rw [g3] at e
      by_cases hy : y = x
      · subst hy; rw [if_pos rfl] at e; cases e; exact ⟨_, h1⟩
      · rw [if_neg hy] at e; exact ⟨_, e⟩
    obtain ⟨b1, e1⟩ := he
    obtain ⟨w, c2⟩ := F.sees.cells y ky b1 c e1 hky hc
    by_cases hcP : c = P
    · subst hcP
      rcases hk with rfl | rfl
      · have hP' : c = env.locals := hP
        exact (ns_cell n0 (hP' ▸ c2)).elim
      · obtain ⟨c', hc', cc'⟩ := hb
        have hP' : env.cells.lookup x = some c := hP
        rw [hP'] at hc'; cases hc'
        exact ⟨_, cc'⟩
    · exact ⟨w, hcell _ _ c2 hcP⟩
  · intro y by' c e hc
    have he : ∃ b1, ρ.lookup y = some (.var .cel b1) := by
      rw [g3] at e
      by_cases hy : y = x
      · subst hy; rw [if_pos rfl] at e; cases e; exact ⟨_, h1⟩
      · rw [if_neg hy] at e; exact ⟨_, e⟩
    obtain ⟨b1, e1⟩ := he
    obtain ⟨c1, w, c2⟩ := F.cel y b1 c e1 hc
    refine ⟨c1, ?_⟩
    by_cases hcP : c = P
    · subst hcP
      rcases hk with rfl | rfl
      · have hP' : c = env.locals := hP
        exact (ns_cell n0 (hP' ▸ c2)).elim
      · obtain ⟨c', hc', cc'⟩ := hb
        have hP' : env.cells.lookup x = some c := hP
        rw [hP'] at hc'; cases hc'
        exact ⟨_, cc'⟩
    · exact ⟨w, hcell _ _ c2 hcP⟩
  · intro y z sy kz sz c ey ez hkz hcy hcz
    have he : ∀ {t kt st}, ρ'.lookup t = some (.var kt st) → ∃ st', ρ.lookup t = some (.var kt st') := by
      intro t kt st e
      rw [g3] at e
      by_cases hy : t = x
      · subst hy; rw [if_pos rfl] at e; cases e; exact ⟨_, h1⟩
      · rw [if_neg hy] at e; exact ⟨_, e⟩
    obtain ⟨sy', ey'⟩ := he ey
    obtain ⟨sz', ez'⟩ := he ez
    exact F.sep y z sy' kz sz' c ey' ez' hkz hcy hcz

theorem store_sound {x : Str} {b : Bd} {v : Value} {Q : Unit → Shared → Prop} (F : Frm W own env s.heap ρ) (hp : put ρ x b = some ρ')
    (hrep : ∀ d, b.frz = some d → Rep W (hideAll s.heap own) v d)
    (h : ∀ h' tk k, Frm W own env h' ρ' → Chg (WrF env ρ) s.heap h' → Bound env h' x v k → ρ'.lookup x = some (.var k b) → BK env ρ x s.heap h' → Q () { s with heap := h', toks := tk }) : wpAny W.M A (storeName env x v) Q E s := by
  obtain ⟨k, b0, h1, hk, h3⟩ := put_spec hp
  have hko := (F.sees.at' x _ h1).1
  have hxx : ρ'.lookup x = some (.var k b) := by rw [h3, if_pos rfl]
  rcases hk with rfl | rfl
  · obtain ⟨m, n⟩ := F.ns
    refine wpAny_storeName_local hko n (fun h' n' hs => ?_) (by rw [F.sees.envOk.kind]; rfl)
    have hb : Bound env h' x v .loc := ⟨_, n', if_pos rfl⟩
    obtain ⟨F', C, bk⟩ := F.store hp h1 env.locals rfl hs hb (fun m₁ n₁ _ => ⟨_, n', fun y hy => by
      show (if y = x then some v else m y) = m₁ y
      rw [if_neg hy]; exact Heap.Ns.agree n n₁ y⟩) hrep (.inl rfl)
    exact h h' _ .loc F' C hb hxx bk
  · obtain ⟨hk1, c, hc⟩ := hko
    obtain ⟨_, w, cc⟩ := F.cel x b0 c h1 hc
    refine wpAny_storeName_cell F.sees.envOk.kind hk1 hc cc fun h' c' hs => ?_
    have hb : Bound env h' x v .cel := ⟨c, hc, c'⟩
    obtain ⟨F', C, bk⟩ := F.store hp h1 c hc hs hb (fun m₁ n₁ e => by cases e) hrep (.inr rfl)
    exact h h' s.toks .cel F' C hb hxx bk

/-- what a for-loop hands out: a value in sight, or a tuple of such -/
noncomputable def RepT (W : Wd) (t : Expr) (g h : Heap) (v : Value) (d : Dt) : Prop := Rep W g v d ∨ ∃ T vs ds, isTupT t = true ∧ v = .ref T ∧ d = .tuple ds ∧ h.IsTuple T vs.toArray ∧ Reps W g vs ds

theorem Frm.chg0 {h h' : Heap} (F : Frm W own env h ρ) (u : Up h h') : Frm W own env h' ρ :=
  ⟨F.sees.le u.le (F.sees.ok.up u), (let ⟨m, n⟩ := F.ns; ⟨m, n.keeps u⟩), F.lo, fun x b c e q => let ⟨a, v, c'⟩ := F.cel x b c e q; ⟨a, v, c'.keeps u⟩, F.sep⟩
theorem Frm.le {h h' : Heap} (F : Frm W own env h ρ) (u : Le W.P h h') (o : Ok W own h') : Frm W own env h' ρ :=
  ⟨F.sees.le u o, (let ⟨m, n⟩ := F.ns; ⟨m, Ns.le n u (F.sees.ok.ns_ne n)⟩), F.lo, fun x b c e q => let ⟨a, v, c'⟩ := F.cel x b c e q; ⟨a, v, IsCell.le c' u (F.sees.ok.cell_ne c')⟩, F.sep⟩

theorem each_starless {ts : List Expr} : ∀ {ds : List Dt} {ρ ρ' : Ro}, putAll ρ ts ds = some ρ' → (assignEach ts env).findIdx? (·.1) = none ∧ (assignEach ts env).length = ds.length := by
  induction ts with
  | nil =>
    intro ds ρ ρ' h
    rcases putAll_inv h with ⟨_, rfl, _⟩ | ⟨_, _, _, _, _, _, e, _⟩
    · exact ⟨rfl, rfl⟩
    · cases e
  | cons t r ih =>
    intro ds ρ ρ' h
    rcases putAll_inv h with ⟨e, _⟩ | ⟨x, p, r', d, ds', q, e, rfl, h1, h2⟩
    · cases e
    · cases e
      obtain ⟨a, b⟩ := ih h2
      rw [show assignEach (.Name x p :: r) env = (false, assign (.Name x p) env) :: assignEach r env from rfl]
      exact ⟨by simp [List.findIdx?_cons, a], by simp [b]⟩

theorem putAll_sound {ts : List Expr} : ∀ {ds : List Dt} {vs : List Value} {ρ ρ' : Ro} {s : Shared} {Q : Unit → Shared → Prop}, putAll ρ ts ds = some ρ' → Frm W own env s.heap ρ → Reps W (hideAll s.heap own) vs ds →
    (∀ h' tk, Frm W own env h' ρ' → Chg (WrF env ρ) s.heap h' → (∀ a, WrF env ρ' a ↔ WrF env ρ a) → Q () { s with heap := h', toks := tk }) →
    wpAny W.M A (assignInOrder ((assignEach ts env).map (·.2)) vs) Q E s := by
  induction ts with
  | nil =>
    intro ds vs ρ ρ' s Q h F rs hQ
    rcases putAll_inv h with ⟨_, rfl, rfl⟩ | ⟨_, _, _, _, _, _, e, _⟩
    · cases rs; exact wpAny_assignInOrder_none (hQ s.heap s.toks F (Chg.refl _ _) fun _ => Iff.rfl)
    · cases e
  | cons t r ih =>
    intro ds vs ρ ρ' s Q h F rs hQ
    rcases putAll_inv h with ⟨e, _⟩ | ⟨x, p, r', d, ds', q, e, rfl, h1, h2⟩
    · cases e
    · cases e
      cases rs with
      | cons hv hr =>
        rw [show assignEach (.Name x p :: r) env = (false, assign (.Name x p) env) :: assignEach r env from rfl]
        refine wpAny_assignInOrder_more (wpAny_assign_Name (store_sound F h1 (fun d' e => by cases e; exact hv) fun h' tk k F' C hb _ _ => ?_))
        have u : Up (hideAll s.heap own) (hideAll h' own) := vis_chg (fun a z => F.wrOwn z) C
        refine ih h2 F' (hr.up u) fun h'' tk' F'' C' hw => ?_
        have hw1 := WrF.put (env := env) h1
        exact hQ h'' tk' F'' (C.trans (C'.weaken fun a z => (hw1 a).mp z)) fun a => (hw a).trans (hw1 a)

theorem bind_sound {t : Expr} {d : Dt} {v : Value} {g : Heap} {Q : Unit → Shared → Prop} (hh : A.handled = none) (h : bindT t d ρ = some ρ') (F : Frm W own env s.heap ρ) (u : Up g (hideAll s.heap own)) (r : RepT W t g s.heap v d)
    (hQ : ∀ h' tk, Frm W own env h' ρ' → Chg (WrF env ρ) s.heap h' → (∀ a, WrF env ρ' a ↔ WrF env ρ a) → Q () { s with heap := h', toks := tk }) : wpAny W.M A (assign t env v) Q E s := by
  rcases bindT_inv h with ⟨x, p, rfl, h⟩ | ⟨ts, k, pos, ds, rfl, rfl, _, h⟩
  · rcases r with r | ⟨T, vs, ds, ht, _⟩
    · exact wpAny_assign_Name (store_sound F h (fun d' e => by cases e; exact r.up u) fun h' tk k F' C hb _ _ => hQ h' tk F' C (WrF.put h))
    · cases ht
  · have hT : ∃ T vs, v = .ref T ∧ s.heap.IsTuple T vs.toArray ∧ Reps W g vs ds := by
      rcases r with r | ⟨T, vs, ds', _, rfl, e, hT, hr⟩
      · obtain ⟨T, vs, rfl, hT, hr⟩ := rep_tuple r
        exact ⟨T, vs, rfl, (hT.at (u _)).at (vis_of _), hr⟩
      · cases e; exact ⟨T, vs, rfl, hT, hr⟩
    obtain ⟨T, vs, rfl, hT, hr⟩ := hT
    obtain ⟨e1, e2⟩ := each_starless (env := env) h
    refine wpAny_assign_Tuple hh hT (by rw [e2, List.size_toArray, hr.length]) e1 fun h' hx => ?_
    have hn : s.heap.get? s.heap.objs.size = none := fresh_none (Nat.le_refl _)
    have u' : Up s.heap h' := fun b o e => hx b o (fun z => by rw [z, hn] at e; cases e) e
    have F' := F.chg0 u'
    refine putAll_sound (s := { s with heap := h' }) h F' ((hr.up u).up (vis_up u')) fun h'' tk F'' C hw => hQ h'' tk F'' (u'.chg.trans C) hw
end
end Mine

namespace Mine

/-- an iterator over the given data -/
structure Its (W : Wd) (A : Around) (t : Expr) (I : Addr) (g : Heap) (ds : List Dt) (fp wr : List Addr) (St : Nat → Heap → Prop) : Prop where
  sub : ∀ b ∈ wr, b ∈ fp
  frame : ∀ i h h', St i h → (∀ b ∈ fp, ∀ o, h.get? b = some o → h'.get? b = some o) → St i h'
  self : ∀ i (s : Shared) (Q : Value → Shared → Prop) (E : Value → Shared → Prop), St i s.heap → Q (.ref I) s → wpAny W.M A (pyIter (.ref I)) Q E s
  live : ∀ i h, St i h → ∀ b ∈ fp, ∃ o, h.get? b = some o
  item : ∀ i d (s : Shared) (Q : Value → Shared → Prop) (E : Value → Shared → Prop), ds[i]? = some d → St i s.heap →
    (∀ v h' tk, RepT W t g h' v d → St (i + 1) h' → (∀ b o, b ∉ wr → s.heap.get? b = some o → h'.get? b = some o) → Q v { s with heap := h', toks := tk }) →
    wpAny W.M A (pyNext (.ref I)) (fun r s₁ => ∃ v, r = some v ∧ wpAny W.M A (letOwnedTupleGo t (.ref I) v) (fun _ s₂ => Q v s₂) E s₁) E s
  done : ∀ (s : Shared) (Q : Option Value → Shared → Prop) (E : Value → Shared → Prop), St ds.length s.heap →
    (∀ h' tk, (∀ b o, b ∉ wr → s.heap.get? b = some o → h'.get? b = some o) → Q none { s with heap := h', toks := tk }) → wpAny W.M A (pyNext (.ref I)) Q E s

theorem Its.ofTurns {W : Wd} {A : Around} {t : Expr} {I : Addr} {g : Heap} {ds : List Dt} {fp wr : List Addr} {n : Nat} {P Md : Nat → Value → Heap → Prop} {St : Nat → Heap → Prop}
    (T : KTurns W.prog W.w A t I fp wr n P Md St) (hn : n = ds.length) (hP : ∀ i v h d, P i v h → ds[i]? = some d → RepT W t g h v d)
    (hself : ∀ i (s : Shared) (Q : Value → Shared → Prop) (E : Value → Shared → Prop), St i s.heap → Q (.ref I) s → wpAny W.M A (pyIter (.ref I)) Q E s) (hlive : ∀ i h, St i h → ∀ b ∈ fp, ∃ o, h.get? b = some o) : Its W A t I g ds fp wr St where
  sub := T.sub
  frame := T.frame
  self := hself
  live := hlive
  item := fun i d s Q E hd hst hQ => T.item i s _ E (by rw [hn]; exact (List.getElem?_eq_some_iff.mp hd).1) hst fun v h' tk hMd hk =>
    ⟨v, rfl, T.go i v _ _ E hMd fun h₂ hp st hk₂ => hQ v h₂ tk (hP i v h₂ d hp hd) st fun b o hb e => hk₂ b o hb (hk b o hb e)⟩
  done := fun s Q E hst hQ => T.done s Q E (by rw [hn]; exact hst) hQ

/-- an iterator has just been made -/
noncomputable def IterAt (W : Wd) (own : List Addr) (A : Around) (t : Expr) (ds : List Dt) (s : Shared) (it : Value) (s₂ : Shared) : Prop :=
  ∃ I fp wr St g h₂ tk, it = .ref I ∧ s₂ = { s with heap := h₂, toks := tk } ∧ Its W A t I g ds fp wr St ∧ St 0 h₂ ∧ Le W.P s.heap h₂ ∧
    Up (hideAll s.heap own) (hideAll h₂ (wr ++ own)) ∧ Up g (hideAll h₂ (wr ++ own)) ∧ Ok W (wr ++ own) h₂ ∧ (∀ b ∈ fp, b ∉ own ∧ b < h₂.objs.size) ∧ ∀ b ∈ wr, s.heap.get? b = none

section
variable {W : Wd} {own : List Addr} {A : Around} {E : Value → Shared → Prop} {s : Shared} {t : Expr}

theorem iter_mk {ds : List Dt} {s s₁ : Shared} {h₂ : Heap} {tk tk₁ : Tok} {I : Addr} {fp wr : List Addr} {St : Nat → Heap → Prop} {h₁ : Heap} (e₁ : s₁ = { s with heap := h₁, toks := tk₁ }) (l : Le W.P s.heap h₁) (o₀ : Ok W own s.heap) (o : Ok W own h₁)
    (u : Up h₁ h₂) (T : Its W A t I (hideAll h₁ own) ds fp wr St) (st : St 0 h₂) (hw : ∀ b ∈ wr, h₁.get? b = none ∧ ∃ ob, h₂.get? b = some ob) (hf : ∀ b ∈ fp, (h₁.get? b = none ∧ b < h₂.objs.size) ∨ ∃ ob, (hideAll h₁ own).get? b = some ob) :
    IterAt W own A t ds s (.ref I) { s₁ with heap := h₂, toks := tk } := by
  subst e₁
  have hg : Up (hideAll h₁ own) (hideAll h₂ (wr ++ own)) := vis_more (fun b ob _ e => u b ob e) fun a ha => by
    rcases List.mem_append.mp ha with h | h
    · exact .inr (hw a h).1
    · exact .inl h
  refine ⟨I, fp, wr, St, hideAll h₁ own, h₂, tk, rfl, rfl, T, st, l.trans u.le, (vis_le o.hP l).trans hg, hg, ?_, fun b hb => ?_, fun b hb => l.none (fun z => by obtain ⟨ps, e, _⟩ := o.tab; have q := (hw b hb).1; rw [z, e] at q; cases q) (hw b hb).1⟩
  · exact o.more u (fun a ha => List.mem_append_right _ ha) fun a ha => by
      rcases List.mem_append.mp ha with h | h
      · exact .inr (hw a h)
      · exact .inl h
  · rcases hf b hb with ⟨h1, h2⟩ | ⟨ob, h1⟩
    · exact ⟨o.new h1, h2⟩
    · obtain ⟨a, n⟩ := vis_iff.mp h1
      exact ⟨n, Heap.lt_size (u _ _ a)⟩

theorem push_new {h : Heap} {o : Obj} (hf : o.isFreed = false := by rfl) : ∃ ob, (h.push o).get? h.objs.size = some ob := ⟨_, Heap.get?_push_size _ hf⟩
theorem lt_push {h : Heap} {o : Obj} : h.objs.size < (h.push o).objs.size := by rw [Heap.size_push]; exact Nat.lt_succ_self _

/-- iterating over a value in sight -/
theorem iter_val {d : Dt} {ds : List Dt} {v : Value} {h₁ : Heap} {tk₁ : Tok} (hh : A.handled = none) (e : iterD d = some ds) (l : Le W.P s.heap h₁) (o₀ : Ok W own s.heap) (o : Ok W own h₁) (r : Rep W (hideAll h₁ own) v d) :
    wpAny W.M A (pyIter v) (fun it s₂ => IterAt W own A t ds s it s₂) E { s with heap := h₁, toks := tk₁ } := by
  have hn : h₁.get? h₁.objs.size = none := fresh_none (Nat.le_refl _)
  unfold iterD at e
  split at e
  · cases e
    obtain ⟨a, vs, n, rfl, ha, rs⟩ := rep_list r
    have hlt : a < h₁.objs.size := Heap.lt_size (vis_of _ _ ha)
    have hl : h₁.IsList a vs.toArray := ⟨_, vis_of _ _ ha, rfl, n, rfl⟩
    refine wpAny_pyIter_list hl ?_
    refine iter_mk (tk := tk₁) (St := fun i h => h.IsListIter h₁.objs.size a i ∧ h.IsList a vs.toArray) rfl l o₀ o (Up.push _ _) (Its.ofTurns (KTurns.ofWalks (Walks.list hh h₁.objs.size a (Nat.ne_of_lt hlt) vs.toArray) fun i v s Q E st q => letGo_listiter st.1 q) (by simp [rs.length]) ?_ ?_ (fun i h st b hb => by
        rcases List.mem_cons.mp hb with rfl | hb
        · exact let ⟨⟨o, e, _⟩, _⟩ := st; ⟨o, e⟩
        · cases List.mem_singleton.mp hb
          exact let ⟨_, ⟨o, e, _⟩⟩ := st; ⟨o, e⟩))
      ⟨⟨_, Heap.get?_push_size _ rfl, rfl, rfl⟩, hl.push _⟩ ?_ ?_
    · intro i v h d hp hd
      obtain ⟨v', hv', rv⟩ := rs.get hd
      have hp' : vs[i]? = some v := by simpa using hp
      rw [hp'] at hv'; cases hv'
      exact .inl rv
    · exact fun i s Q E st h => (Walks.list hh h₁.objs.size a (Nat.ne_of_lt hlt) vs.toArray).self i s Q E st h
    · intro b hb
      cases List.mem_singleton.mp hb
      exact ⟨hn, push_new⟩
    · intro b hb
      rcases List.mem_cons.mp hb with rfl | hb
      · exact .inl ⟨hn, lt_push⟩
      · cases List.mem_singleton.mp hb
        exact .inr ⟨_, ha⟩
  · cases e
    obtain ⟨a, vs, rfl, ha, rs⟩ := rep_tuple r
    have hl : h₁.IsTuple a vs.toArray := ha.at (vis_of _)
    have hlt : a < h₁.objs.size := let ⟨_, q, _⟩ := hl; Heap.lt_size q
    refine wpAny_pyIter_tuple hl ?_
    refine iter_mk (tk := tk₁) (St := fun i h => h.IsTupleIter h₁.objs.size a i ∧ h.IsTuple a vs.toArray) rfl l o₀ o (Up.push _ _) (Its.ofTurns (KTurns.ofWalks (Walks.tuple hh h₁.objs.size a (Nat.ne_of_lt hlt) vs.toArray) fun i v s Q E st q => letGo_tupleiter st.1 q) (by simp [rs.length]) ?_ ?_ (fun i h st b hb => by
        rcases List.mem_cons.mp hb with rfl | hb
        · exact let ⟨⟨o, e, _⟩, _⟩ := st; ⟨o, e⟩
        · cases List.mem_singleton.mp hb
          exact let ⟨_, ⟨o, e, _⟩⟩ := st; ⟨o, e⟩))
      ⟨⟨_, Heap.get?_push_size _ rfl, rfl, rfl⟩, hl.at fun o e => Heap.get?_push_of_some _ e⟩ ?_ ?_
    · intro i v h d hp hd
      obtain ⟨v', hv', rv⟩ := rs.get hd
      have hp' : vs[i]? = some v := by simpa using hp
      rw [hp'] at hv'; cases hv'
      exact .inl rv
    · exact fun i s Q E st h => (Walks.tuple hh h₁.objs.size a (Nat.ne_of_lt hlt) vs.toArray).self i s Q E st h
    · intro b hb
      cases List.mem_singleton.mp hb
      exact ⟨hn, push_new⟩
    · intro b hb
      rcases List.mem_cons.mp hb with rfl | hb
      · exact .inl ⟨hn, lt_push⟩
      · cases List.mem_singleton.mp hb
        obtain ⟨ob, q, _⟩ := ha
        exact .inr ⟨_, q⟩
  · cases e

theorem letGo_rangeiter {target : Expr} {I : Addr} {x l st : Int} {v : Value} {Q' : Unit → Shared → Prop} {s' : Shared} (hit : IsRangeIter s'.heap I x l st) (h : Q' () s') : wpAny W.M A (letOwnedTupleGo target (.ref I) v) Q' E s' := by
  unfold letOwnedTupleGo
  cases target <;> first
    | exact wpAny_pure h
    | (cases v <;> first
        | exact wpAny_pure h
        | (refine wpAny_bind (wpAny_load hit ?_)
           exact wpAny_pure h))

theorem iter_range {r : Addr} {a b : Int} {ds : List Dt} {tk u₁ u₂ u₃ : Tok} {h₁ : Heap} (hh : A.handled = none) (e : rangeD a b = some ds) (l : Le W.P s.heap h₁) (o₀ : Ok W own s.heap) (o : Ok W own h₁)
    (hr : h₁.get? r = some { cls := .type "range", data := .fields #[.int a u₁, .int b u₂, .int 1 u₃] }) :
    wpAny W.M A (pyIter (.ref r)) (fun it s₂ => IterAt W own A t ds s it s₂) E { s with heap := h₁, toks := tk } := by
  unfold rangeD at e
  split at e
  · rename_i hs
    cases e
    have hn : h₁.get? h₁.objs.size = none := fresh_none (Nat.le_refl _)
    simp only [smallI, Bool.and_eq_true, decide_eq_true_eq] at hs
    have hsz : Builtin.Range.rangeSize a b 1 = ((b - a).toNat : Int) := by
      unfold Builtin.Range.rangeSize
      simp
      split <;> omega
    have hfit : ∀ x : Int, -8589934592 ≤ x → x ≤ 8589934592 → Builtin.Range.rangeFitsLong x = true := by
      intro x h1 h2
      unfold Builtin.Range.rangeFitsLong
      simp only [Bool.and_eq_true, decide_eq_true_eq]
      omega
    refine wpAny_pyIter_range (a := a) (b := b) (c := 1) hr ?_ ?_
    · unfold Builtin.Range.small
      rw [hsz]
      rw [hfit a (by omega) (by omega), hfit b (by omega) (by omega), hfit 1 (by omega) (by omega), hfit ((b - a).toNat : Int) (by omega) (by omega), if_pos (by decide), hfit (b + (1 - 1)) (by omega) (by omega)]
      simp
    · rw [hsz]
      refine iter_mk (tk := tk) (St := fun i h => IsRangeIter h h₁.objs.size (a + (i : Nat) * 1) (((b - a).toNat : Int) - (i : Nat)) 1) rfl l o₀ o (Up.push _ _)
        (Its.ofTurns (KTurns.ofWalks (LCg.range_walks hh a (b - a).toNat) (fun i v s Q E st q => letGo_rangeiter st q)) (by simp) ?_ ?_ (fun i h st b hb => by cases List.mem_singleton.mp hb; exact ⟨_, st⟩)) ?_ ?_ ?_
      · rintro i v h d ⟨u, rfl⟩ hd
        rw [List.getElem?_map] at hd
        obtain ⟨j, hj, rfl⟩ := Option.map_eq_some_iff.mp hd
        have hj' := List.getElem?_eq_some_iff.mp hj
        obtain ⟨hj1, hj2⟩ := hj'
        rw [List.getElem_range] at hj2
        subst hj2
        exact .inl (.int _ _)
      · exact fun i s Q E st h => wpAny_pyIter_rangeiter st h
      · show IsRangeIter _ _ _ _ _
        have q := Heap.get?_push_size h₁ (o := { cls := .type "range_iterator", data := .fields #[rawInt a, rawInt ((b - a).toNat : Int), rawInt 1] }) rfl
        simpa using q
      · intro b hb
        cases List.mem_singleton.mp hb
        exact ⟨hn, push_new⟩
      · intro b hb
        cases List.mem_singleton.mp hb
        exact .inl ⟨hn, lt_push⟩
  · cases e

theorem iter_enum {ds : List Dt} {v : Value} {h₁ : Heap} {tk₁ : Tok} (hh : A.handled = none) (ht : isTupT t = true) (l : Le W.P s.heap h₁) (o₀ : Ok W own s.heap) (o : Ok W own h₁) (r : Rep W (hideAll h₁ own) v (.list ds)) :
    wpAny W.M A (call (.type "enumerate") [v]) (fun x s₁ => wpAny W.M A (pyIter x) (fun it s₂ => IterAt W own A t (enumD 0 ds) s it s₂) E s₁) E { s with heap := h₁, toks := tk₁ } := by
  cases t with
  | Tuple elts k pos =>
    obtain ⟨a, vs, n, rfl, ha, rs⟩ := rep_list r
    have hlt : a < h₁.objs.size := Heap.lt_size (vis_of _ _ ha)
    have hl : h₁.IsList a vs.toArray := ⟨_, vis_of _ _ ha, rfl, n, rfl⟩
    refine call_enumerate_list hl fun h' hE hI hsz hk => ?_
    refine wpAny_pyIter_enum hE ?_
    have n0 : h₁.get? h₁.objs.size = none := fresh_none (Nat.le_refl _)
    have n1 : h₁.get? (h₁.objs.size + 1) = none := fresh_none (Nat.le_succ _)
    have hlen : ∀ (l : List Dt) (n : Nat), (enumD n l).length = l.length := by
      intro l; induction l with
      | nil => intro n; rfl
      | cons x r ih => intro n; simp [enumD, ih]
    have hget : ∀ (l : List Dt) (n i : Nat) (d : Dt), (enumD n l)[i]? = some d → ∃ x, l[i]? = some x ∧ d = .tuple [.int ((n + i : Nat) : Int), x] := by
      intro l; induction l with
      | nil => intro n i d h; simp [enumD] at h
      | cons x r ih =>
        intro n i d h
        cases i with
        | zero => simp [enumD] at h; exact ⟨x, rfl, by rw [← h]; simp⟩
        | succ i =>
          rw [enumD, List.getElem?_cons_succ] at h
          obtain ⟨y, hy, e⟩ := ih (n + 1) i d h
          refine ⟨y, by simpa using hy, ?_⟩
          rw [e]
          have : n + 1 + i = n + (i + 1) := by omega
          rw [this]
    refine iter_mk (tk := tk₁) (St := _) rfl l o₀ o hk (Its.ofTurns (KTurns.ofWalksU (WalksT.enumerate hh (h₁.objs.size + 1) h₁.objs.size a (Nat.succ_ne_self _) (ktu_ne 1 hlt) (Nat.ne_of_lt hlt) vs.toArray).toU) (by simp [hlen, rs.length]) ?_ ?_ (fun i h st b hb => by
        have hb' : b = h₁.objs.size + 1 ∨ b = h₁.objs.size ∨ b = a := by simpa using hb
        rcases hb' with rfl | rfl | rfl
        · obtain ⟨old, e⟩ := st.1; exact ⟨_, e⟩
        · obtain ⟨o, e, _⟩ := st.2.1; exact ⟨o, e⟩
        · obtain ⟨o, e, _⟩ := st.2.2; exact ⟨o, e⟩))
      ⟨⟨.none, hE⟩, hI, hl.at fun o e => hk a o e⟩ ?_ ?_
    · rintro i v h d ⟨T, vals, rfl, ⟨u, x, hx, rfl⟩, hT⟩ hd
      obtain ⟨y, hy, rfl⟩ := hget _ _ _ _ hd
      obtain ⟨w, hw, rw'⟩ := rs.get hy
      have hx' : vs[i]? = some x := by simpa using hx
      rw [hx'] at hw; cases hw
      refine .inr ⟨T, [.int i u, x], _, rfl, rfl, rfl, hT, .cons ?_ (.cons rw' .nil)⟩
      simpa using Rep.int (i : Int) u
    · exact fun i s Q E st h => let ⟨old, e⟩ := st.1; wpAny_pyIter_enum e h
    · intro b hb
      have hb' : b = h₁.objs.size + 1 ∨ b = h₁.objs.size := by simpa using hb
      rcases hb' with rfl | rfl
      · exact ⟨n1, _, hE⟩
      · obtain ⟨o, e, _⟩ := hI
        exact ⟨n0, _, e⟩
    · intro b hb
      have hb' : b = h₁.objs.size + 1 ∨ b = h₁.objs.size ∨ b = a := by simpa using hb
      rcases hb' with rfl | rfl | rfl
      · exact .inl ⟨n1, Heap.lt_size hE⟩
      · obtain ⟨o, e, _⟩ := hI
        exact .inl ⟨n0, Heap.lt_size e⟩
      · exact .inr ⟨_, ha⟩
  | _ => cases ht

end
end Mine

namespace Mine

noncomputable abbrev PostB (W : Wd) (own : List Addr) (s : Shared) (Q : Bool → Shared → Prop) (b : Bool) : Prop :=
  ∀ h' tk, Le W.P s.heap h' → Ok W own h' → Q b { s with heap := h', toks := tk }
noncomputable def SE (W : Wd) (K : Nat) (f : Ro → Expr → Option Dt) : Prop := ∀ (ρ : Ro) (e : Expr) (d : Dt) (own : List Addr) (env : Env) (A : Around) (E : Value → Shared → Prop) (s : Shared) (Q : Value → Shared → Prop),
  f ρ e = some d → AOk W (K + 4) A → Sees W own env s.heap ρ → Post W own s Q d → wpAny W.M A (eval e env) Q E s
noncomputable def ST (W : Wd) (K : Nat) (f : Ro → Expr → Option Bool) : Prop := ∀ (ρ : Ro) (e : Expr) (b : Bool) (own : List Addr) (env : Env) (A : Around) (E : Value → Shared → Prop) (s : Shared) (Q : Bool → Shared → Prop),
  f ρ e = some b → AOk W (K + 4) A → Sees W own env s.heap ρ → PostB W own s Q b → wpAny W.M A (isTrue e env (eval e env)) Q E s
structure IOk (W : Wd) (K : Nat) (I : Ev) : Prop where
  e : SE W K I.e
  t : ST W K I.t
  star : ∀ ρ x p, I.e ρ (.Starred x p) = none

/-- a def of the text, or any other callee: what a call of it gives -/
noncomputable def Calls1 (W : Wd) (K : Nat) (v : Value) (args : List Dt) (d : Dt) : Prop :=
  ∀ (A : Around) (E : Value → Shared → Prop) (s : Shared) (Q : Value → Shared → Prop) (own : List Addr) (vs : List Value), AOk W K A → Ok W own s.heap → Reps W (hideAll s.heap own) vs args → Post W own s Q d → wpAny W.M A (call v vs) Q E s
noncomputable def KeepOk (W : Wd) (v : Value) (h : Heap) : Prop := ∃ k, (k = Keeper.frame ∨ k = Keeper.machine ∨ k = Keeper.boundFrame) ∧ Looks W.M h (keeperOf v) k
structure OwnOk (W : Wd) (K : Nat) (O : Own) : Prop where
  sets : O.sets = true → W.sets = true
  fn : ∀ f args d, O.fn f args = some d → ∃ v, W.mg f = some v ∧ (∀ h, Up W.B h → KeepOk W v h) ∧ Calls1 W K v args d
  meth : ∀ n es m args d, O.meth n es m args = some d → ∀ (own : List Addr) (s : Shared) (A : Around) (E : Value → Shared → Prop) (v : Value), AOk W K A → Ok W own s.heap → Rep W (hideAll s.heap own) v (.opq n es) →
    ∃ f first, (∀ pl (Q : Value × List Value → Shared → Prop), (∀ tk, Q (f, first) { s with toks := tk }) → wpAny W.M A (getMethod v m pl) Q E s) ∧ (∀ h, Le W.P s.heap h → Ok W own h → KeepOk W f h) ∧
      ∀ (A : Around) (E : Value → Shared → Prop) (s' : Shared) (Q : Value → Shared → Prop) (vs : List Value), AOk W K A → Le W.P s.heap s'.heap → Ok W own s'.heap → Reps W (hideAll s'.heap own) vs args → Post W own s' Q d → wpAny W.M A (call f (first ++ vs)) Q E s'
  attr : ∀ n es a d, O.attr n es a = some d → ∀ (own : List Addr) (s : Shared) (A : Around) (E : Value → Shared → Prop) (v : Value) (Q : Value → Shared → Prop), AOk W K A → Ok W own s.heap → Rep W (hideAll s.heap own) v (.opq n es) → 
    (∀ v' tk, Rep W (hideAll s.heap own) v' d → Q v' { s with toks := tk }) → wpAny W.M A (getAttr v a true) Q E s

section
variable {W : Wd} {K : Nat} {I : Ev} {own : List Addr} {env : Env} {ρ : Ro} {A : Around} {E : Value → Shared → Prop} {s : Shared} {Q : Value → Shared → Prop} {d : Dt}

theorem Sees.then {own : List Addr} (S : Sees W own env s.heap ρ) {h' : Heap} (l : Le W.P s.heap h') (o : Ok W own h') : Sees W own env h' ρ := S.le l o

theorem args_sound (H : IOk W K I) {pos : Pos} : ∀ {es : List Expr} {ds : List Dt} {s : Shared} {Q : List Value → Shared → Prop}, evs (I.e ρ) es = some ds → AOk W (K + 4) A → Sees W own env s.heap ρ →
    (∀ h' tk vs, Le W.P s.heap h' → Ok W own h' → Reps W (hideAll h' own) vs ds → Q vs { s with heap := h', toks := tk }) → wpAny W.M A (spliced (backTo pos (starEach es env))) Q E s
  | [], _, s, Q, h, k, S, p => by cases h; exact PyProof.Rows.spliced_none (p s.heap s.toks [] (Le.refl _ _) S.ok .nil)
  | e :: es, _, s, Q, h, k, S, p => by
    rw [evs] at h
    obtain ⟨d, hd, h⟩ := Option.bind_eq_some_iff.mp h
    obtain ⟨ds, hds, rfl⟩ := Option.map_eq_some_iff.mp h
    refine PyProof.Rows.spliced_more (H.e ρ e d own env A E s _ hd k S fun h1 t1 v l1 o1 r1 => ?_) ?_
    · refine args_sound H hds k (S.then l1 o1) fun h2 t2 vs l2 o2 r2 => ?_
      exact p h2 t2 _ (l1.trans l2) o2 (.cons (r1.up (vis_le o1.hP l2)) r2)
    · cases e with
      | Starred x p => rw [H.star] at hd; cases hd
      | _ => rfl
theorem starless (H : IOk W K I) : ∀ {es : List Expr} {ds : List Dt}, evs (I.e ρ) es = some ds → starEach es env = es.map fun e => (false, eval e env)
  | [], _, _ => rfl
  | e :: es, _, h => by
    rw [evs] at h
    obtain ⟨d, hd, h⟩ := Option.bind_eq_some_iff.mp h
    obtain ⟨ds, hds, rfl⟩ := Option.map_eq_some_iff.mp h
    have ih := starless (es := es) H hds
    cases e with
    | Starred x p => rw [H.star] at hd; cases hd
    | _ =>
      rw [List.map_cons, ← ih]; rfl
theorem backTo_plain (pos : Pos) (es : List Expr) : backTo pos (es.map fun e => (false, eval e env)) = es.map fun e => (false, eval e env) := by
  unfold backTo
  rw [List.map_map]
  rfl

theorem list_sound (H : IOk W K I) {es : List Expr} {pos : Pos} {ds : List Dt} (h : evs (I.e ρ) es = some ds) (hl : ds.length ≤ 4096) (k : AOk W (K + 4) A) (S : Sees W own env s.heap ρ) (p : Post W own s Q (.list ds)) :
    wpAny W.M A (eval (.List es pos) env) Q E s := by
  refine wpAny_List_spliced (args_sound H h k S fun h' tk vs l o r => ⟨by rw [r.length, sizeLine_eq]; omega, ?_⟩)
  exact Post.list o (p.then l (k₁ := tk)) r
theorem tuple_sound (H : IOk W K I) {es : List Expr} {n} {pos : Pos} {ds : List Dt} (h : evs (I.e ρ) es = some ds) (hl : ds.length ≤ 4096) (k : AOk W (K + 4) A) (S : Sees W own env s.heap ρ) (p : Post W own s Q (.tuple ds)) :
    wpAny W.M A (eval (.Tuple es n pos) env) Q E s := by
  refine wpAny_Tuple_spliced (args_sound H h k S fun h' tk vs l o r => ⟨by rw [r.length, sizeLine_eq]; omega, ?_⟩)
  exact Post.tuple o (p.then l (k₁ := tk)) r

theorem binop_sound (H : IOk W K I) {l r : Expr} {op : Operator} {pos : Pos} {a b : Dt} (ha : I.e ρ l = some a) (hb : I.e ρ r = some b) (h : binD op a b = some d) (k : AOk W (K + 4) A) (S : Sees W own env s.heap ρ) (p : Post W own s Q d) :
    wpAny W.M A (eval (.BinOp l op r pos) env) Q E s :=
  wpAny_BinOp (H.e ρ l a own env A E s _ ha k S fun h1 t1 v l1 o1 r1 => H.e ρ r b own env A E _ _ hb k (S.then l1 o1) fun h2 t2 u l2 o2 r2 =>
    bin_sound h (r1.up (vis_le o1.hP l2)) r2 o2 ((p.then l1 (k₁ := t1)).then l2 (k₁ := t2)))
theorem cmp1_sound (H : IOk W K I) {l r : Expr} {op : CmpOp} {pos : Pos} {a b : Dt} {c : Bool} (hm : behindInMarks op r = false) (ha : I.e ρ l = some a) (hb : I.e ρ r = some b) (h : cmpD op a b = some c) (k : AOk W (K + 4) A) (S : Sees W own env s.heap ρ)
    (p : Post W own s Q (.bool c)) : wpAny W.M A (eval (.Compare l [op] [r] pos) env) Q E s :=
  wpAny_Compare1 (H.e ρ l a own env A E s _ ha k S fun h1 t1 v l1 o1 r1 => H.e ρ r b own env A E _ _ hb k (S.then l1 o1) fun h2 t2 u l2 o2 r2 =>
    cmp_sound h (r1.up (vis_le o1.hP l2)) r2 (k.le (by omega)) fun tk => ((p.then l1 (k₁ := t1)).then l2 (k₁ := t2)).here o2 (.bool _)) hm
theorem cmp1T_sound (H : IOk W K I) {l r : Expr} {op : CmpOp} {pos : Pos} {a b : Dt} {c : Bool} {Q : Bool → Shared → Prop} {whole : Sem Value} (hm : behindInMarks op r = false) (ha : I.e ρ l = some a) (hb : I.e ρ r = some b) (h : cmpD op a b = some c) (k : AOk W (K + 4) A) (S : Sees W own env s.heap ρ)
    (p : PostB W own s Q c) : wpAny W.M A (isTrue (.Compare l [op] [r] pos) env whole) Q E s :=
  wpAny_isTrue_Compare1 (H.e ρ l a own env A E s _ ha k S fun h1 t1 v l1 o1 r1 => H.e ρ r b own env A E _ _ hb k (S.then l1 o1) fun h2 t2 u l2 o2 r2 =>
    cmp_sound h (r1.up (vis_le o1.hP l2)) r2 (k.le (by omega)) fun tk => wpAny_truthy_bool (p h2 tk (l1.trans l2) o2)) hm

theorem boolAll_sound (H : IOk W K I) {op : BoolOp} {Q : Bool → Shared → Prop} {b : Bool} : ∀ {vs : List Expr} {s : Shared}, boolAll I ρ op vs = some b → AOk W (K + 4) A → Sees W own env s.heap ρ → PostB W own s Q b → wpAny W.M A (allTrue op vs env) Q E s
  | [], s, h, k, S, p => by
    cases op <;> cases h
    · exact wpAny_allTrue_And_nil (p s.heap s.toks (Le.refl _ _) S.ok)
    · exact wpAny_allTrue_Or_nil (p s.heap s.toks (Le.refl _ _) S.ok)
  | x :: r, s, h, k, S, p => by
    rw [boolAll] at h
    obtain ⟨c, hc, h⟩ := Option.bind_eq_some_iff.mp h
    cases op with
    | And =>
      refine wpAny_allTrue_And_cons (H.t ρ x c own env A E s _ hc k S fun h1 t1 l1 o1 => ?_)
      cases c with
      | false => cases h; exact p h1 t1 l1 o1
      | true => exact boolAll_sound H (s := { s with heap := h1, toks := t1 }) h k (S.then l1 o1) fun h2 t2 l2 o2 => p h2 t2 (l1.trans l2) o2
    | Or =>
      refine wpAny_allTrue_Or_cons (H.t ρ x c own env A E s _ hc k S fun h1 t1 l1 o1 => ?_)
      cases c with
      | true => cases h; exact p h1 t1 l1 o1
      | false => exact boolAll_sound H (s := { s with heap := h1, toks := t1 }) h k (S.then l1 o1) fun h2 t2 l2 o2 => p h2 t2 (l1.trans l2) o2

theorem subscr_plain {slice : Expr} (h : notSlice slice = true) (o i : Value) : subscripted slice false o i = operate [o, i] (getItem o i) := by
  cases slice with
  | Slice => cases h
  | _ => rfl
theorem subscr_slice {lo hi st : Option Expr} {p : Pos} (o i : Value) : ∃ ops, subscripted (.Slice lo hi st p) false o i = operate ops (getItem o i) := by
  cases st with
  | none => exact ⟨_, rfl⟩
  | some x => exact ⟨_, rfl⟩
theorem subscript_sound (H : IOk W K I) {v i : Expr} {pos : Pos} {a j : Dt} (hn : notSlice i = true) (ha : I.e ρ v = some a) (hj : I.e ρ i = some j) (h : subD a j = some d) (k : AOk W (K + 4) A) (S : Sees W own env s.heap ρ) (p : Post W own s Q d) :
    wpAny W.M A (eval (.Subscript v i pos) env) Q E s := by
  refine Subscript_ (H.e ρ v a own env A E s _ ha k S fun h1 t1 x l1 o1 r1 => H.e ρ i j own env A E _ _ hj k (S.then l1 o1) fun h2 t2 y l2 o2 r2 => ?_)
  obtain ⟨T, id, g1, g2, g3⟩ := sub_sound (A := A) (E := E) (s := { s with heap := h2, toks := t2 }) (Q := Q) h (r1.up (vis_le o1.hP l2)) r2 fun v' tk rv => p h2 tk v' (l1.trans l2) o2 rv
  exact tail_any g1 g2 g3 (subscr_plain hn _ _)

theorem part_sound (H : IOk W K I) {x : Option Expr} {r : Option Int} {Q : Value → Shared → Prop} (h : evOpt (I.e ρ) x = some r) (k : AOk W (K + 4) A) (S : Sees W own env s.heap ρ)
    (p : ∀ h' tk v, Le W.P s.heap h' → Ok W own h' → IsPart v r → Q v { s with heap := h', toks := tk }) : wpAny W.M A (evalPart x env) Q E s := by
  cases x with
  | none => cases h; exact wpAny_pure (p s.heap s.toks _ (Le.refl _ _) S.ok .none)
  | some e =>
    unfold evOpt at h
    dsimp only at h
    split at h
    · rename_i i hi
      cases h
      refine H.e ρ e _ own env A E s _ hi k S fun h1 t1 v l1 o1 r1 => ?_
      obtain ⟨t, rfl⟩ := rep_int r1
      exact p h1 t1 _ l1 o1 (.int _ _)
    · cases h
theorem slice_sound (H : IOk W K I) {v : Expr} {lo hi st : Option Expr} {q pos : Pos} {ds : List Dt} {l h k : Option Int} (hv : I.e ρ v = some (.list ds)) (h1 : evOpt (I.e ρ) lo = some l) (h2 : evOpt (I.e ρ) hi = some h) (h3 : evOpt (I.e ρ) st = some k) (h0 : k ≠ some 0)
    (hlen : ds.length ≤ 4096) (kk : AOk W (K + 4) A) (S : Sees W own env s.heap ρ) (p : Post W own s Q (.list (pickD ds l h k))) : wpAny W.M A (eval (.Subscript v (.Slice lo hi st q) pos) env) Q E s := by
  refine Subscript_ (H.e ρ v _ own env A E s _ hv kk S fun g1 t1 x l1 o1 r1 => wpAny_Slice ?_)
  refine part_sound H h1 kk (S.then l1 o1) fun g2 t2 v2 l2 o2 p2 => ?_
  refine part_sound H h2 kk ((S.then l1 o1).then l2 o2) fun g3 t3 v3 l3 o3 p3 => ?_
  refine part_sound H h3 kk (((S.then l1 o1).then l2 o2).then l3 o3) fun g4 t4 v4 l4 o4 p4 => ?_
  dsimp only at l2 o2 l3 o3 l4 o4
  have L4 : Le W.P g1 g4 := (l2.trans l3).trans l4
  have r4 := r1.up (vis_le o1.hP L4)
  obtain ⟨a, vs, n, rfl, e, rs⟩ := rep_list r4
  have hl : g4.IsList a vs.toArray := ⟨_, vis_of _ _ e, rfl, n, rfl⟩
  obtain ⟨ops, hs⟩ := subscr_slice (lo := lo) (hi := hi) (st := st) (p := q) (.ref a) (.ref g4.objs.size)
  refine tail_any (T := "list") (Heap.IsList.typeIs (s := { s with heap := _, toks := t4 }) (hl.push _)) slot_list_getitem.lookup (wpAny_getItem_list_slice (hl.push _) (Heap.IsSliceOf.new ..) p2 p3 p4 h0 ?_ (by rw [List.size_toArray, rs.length, sizeLine_eq]; omega)) hs
  have u : Up g4 (g4.push { cls := .type "slice", data := .fields #[v2, v3, v4] }) := Up.push _ _
  have r5 := slice_reps (rs.up (vis_up u)) l h k
  have := Post.list (s := { s with heap := _, toks := t4 }) (o4.up u) (tk := t4) (ds := pickD ds l h k) (Post.then p (k₁ := t4) ((l1.trans L4).trans u.le)) r5
  rw [Array.toArray_toList] at this
  exact this
end
end Mine

namespace Mine
section
variable {W : Wd} {K : Nat} {I : Ev} {O : Own} {own : List Addr} {env : Env} {ρ : Ro} {A : Around} {E : Value → Shared → Prop} {s : Shared} {Q : Value → Shared → Prop} {d : Dt}

theorem keep_plain {v : Value} (hv : ∀ a, v ≠ .ref a) (h : Heap) : KeepOk W v h := by
  refine ⟨.machine, .inr (.inl rfl), ?_⟩
  cases v with
  | ref a => exact absurd rfl (hv a)
  | _ => exact Looks.now
theorem bval_plain (f : Str) (a : Addr) : bval f ≠ .ref a := by
  unfold bval
  split <;> exact fun h => nomatch h

theorem evalArgs_sound (H : IOk W K I) {f : Value} {pos : Pos} {es : List Expr} {ds : List Dt} {Q : Args → Shared → Prop} (h : evs (I.e ρ) es = some ds) (k : AOk W (K + 4) A) (S : Sees W own env s.heap ρ)
    (p : ∀ h' tk vs, Le W.P s.heap h' → Ok W own h' → Reps W (hideAll h' own) vs ds → Q ⟨vs, []⟩ { s with heap := h', toks := tk }) : wpAny W.M A (evalArgs f true (backTo pos (starEach es env)) []) Q E s := by
  have q := args_sound (env := env) (E := E) (pos := pos) H h k S p
  have e1 := starless (env := env) H h
  rw [e1, backTo_plain] at q ⊢
  cases es with
  | nil => cases h; exact PySem.evalArgs_none (p s.heap s.toks [] (Le.refl _ _) S.ok .nil)
  | cons e es => exact Calls.evalArgs_plain q

theorem callWith_sound (H : IOk W K I) {f : Value} {first : List Value} {pos : Pos} {es : List Expr} {ds : List Dt} (h : evs (I.e ρ) es = some ds) (k : AOk W (K + 4) A) (S : Sees W own env s.heap ρ)
    (kp : ∀ h', Le W.P s.heap h' → Ok W own h' → KeepOk W f h')
    (p : ∀ h' tk vs, Le W.P s.heap h' → Ok W own h' → Reps W (hideAll h' own) vs ds → wpAny W.M A (call f (first ++ vs)) Q E { s with heap := h', toks := tk }) :
    wpAny W.M A (callWith pos f first (backTo pos (starEach es env)) []) Q E s := by
  have e1 := starless (env := env) H h
  refine callWith_of (P := fun h' => KeepOk W f h') ?_ (fun h' x => x) (evalArgs_sound H h k S fun h' tk vs l o r => ⟨kp h' l o, p h' tk vs l o r⟩)
  rw [e1, backTo_plain]
  simp

/-- a call of a built-in by its name -/
theorem blt_call (H : IOk W K I) {f : Str} {fp pos : Pos} {es : List Expr} {ds : List Dt} (hg : isGlob ρ f = true) (hf : f ∈ biNames) (h : evs (I.e ρ) es = some ds) (k : AOk W (K + 4) A) (S : Sees W own env s.heap ρ)
    (p : ∀ h' tk vs, Le W.P s.heap h' → Ok W own h' → Reps W (hideAll h' own) vs ds → wpAny W.M A (call (bval f) vs) Q E { s with heap := h', toks := tk }) :
    wpAny W.M A (eval (.Call (.Name f fp) es [] pos) env) Q E s := by
  refine wpAny_Call_Name_kw (name_blt S (isGlob_iff hg) hf (bval_ok f hf) ?_)
  exact callWith_sound (first := []) H h k S (fun h' _ _ => keep_plain (bval_plain f) h') fun h' tk vs l o r => p h' tk vs l o r

theorem callName_sound (B : BltOk W) (C : OwnOk W K O) (H : IOk W K I) {f : Str} {fp pos : Pos} {es : List Expr} {ds : List Dt} (hg : isGlob ρ f = true) (h : evs (I.e ρ) es = some ds)
    (e : (if biNames.contains f = true then (if O.sets = true then callD f ds else none) else O.fn f ds) = some d) (k : AOk W (K + 4) A) (S : Sees W own env s.heap ρ) (p : Post W own s Q d) :
    wpAny W.M A (eval (.Call (.Name f fp) es [] pos) env) Q E s := by
  by_cases hf : biNames.contains f = true
  · rw [if_pos hf] at e
    split at e
    rotate_left
    · cases e
    rename_i hse
    exact blt_call H hg (List.contains_iff_mem.mp hf) h k S fun h' tk vs l o r => call_sound B e (C.sets hse) r (k.le (by omega)) o (p.then l)
  · rw [if_neg hf] at e
    obtain ⟨v, hv, hk, hc⟩ := C.fn f ds d e
    refine wpAny_Call_Name_kw (name_glob S (isGlob_iff hg) hv ?_)
    exact callWith_sound (first := []) H h k S (fun h' _ o => hk h' (o.base.trans vis_of)) fun h' tk vs l o r => hc A E _ Q own vs (k.le (by omega)) o r (p.then l)

theorem base_ok {o : Expr} (h : baseOk o = true) (m : Str) (whole : Sem Value) : attributeBase o m env whole = whole := by
  cases o with
  | Name => rfl
  | Subscript => rfl
  | Constant => rfl
  | Attribute => rfl
  | _ => cases h

theorem callMeth_sound (C : OwnOk W K O) (H : IOk W K I) {o : Expr} {m : Str} {apos pos : Pos} {es : List Expr} {ob : Dt} {ds : List Dt} (hb : baseOk o = true) (hl : (apos.endLine == pos.line) = true) (hn : es.length ≤ 8)
    (ho : I.e ρ o = some ob) (h : evs (I.e ρ) es = some ds) (e : (match ob with | .opq n es => O.meth n es m ds | _ => none) = some d) (k : AOk W (K + 4) A) (S : Sees W own env s.heap ρ) (p : Post W own s Q d) :
    wpAny W.M A (eval (.Call (.Attribute o m apos) es [] pos) env) Q E s := by
  have e1 := starless (env := env) H h
  have hform : methodCallForm (es.length + ([] : List Keyword).length) (backTo pos (starEach es env)) (backToKw pos (keywordEach [] env)) = true := by
    unfold methodCallForm
    rw [e1, backTo_plain, show keywordEach [] env = [] from rfl, show backToKw pos [] = [] from rfl]
    simp
    omega
  have hpos : methodCallPos true o env apos pos = pure pos := by unfold methodCallPos; simp [hl]
  rw [arm_eval_Call, base_ok hb]
  refine wpAny_bind (wpAny_mono (H.e ρ o ob own env A E s _ ho k S fun h1 t1 v l1 o1 r1 => ?_) (fun ov s₁ h₁ => wpAny_bind (wpAny_standAt h₁)) fun _ _ x => x)
  unfold methodCall
  rw [hform]
  show wpAny W.M A (holding [v] (getMethod v m _) >>= _) Q E _
  cases ob with
  | opq n es' =>
    obtain ⟨f, first, g1, g2, g3⟩ := C.meth n es' m ds d e own { s with heap := h1, toks := t1 } A E v (k.le (by omega)) o1 r1
    refine wpAny_bind (wpAny_holding (g1 _ _ fun tk => ?_))
    refine wpAny_bind (wpAny_of_eq hpos ?_)
    exact callWith_sound (s := { s with heap := h1, toks := tk }) H h k (S.then l1 o1) (fun h' l o => g2 h' l o) fun h' tk' vs l o r => g3 A E _ Q vs (k.le (by omega)) l o r (p.then (l1.trans l))
  | _ => exact noneE e

theorem attr_sound (C : OwnOk W K O) (H : IOk W K I) {o : Expr} {a : Str} {pos : Pos} {n : Nat} {es : List Dt} (hb : baseOk o = true) (ho : I.e ρ o = some (.opq n es)) (e : O.attr n es a = some d) (k : AOk W (K + 4) A) (S : Sees W own env s.heap ρ) (p : Post W own s Q d) :
    wpAny W.M A (eval (.Attribute o a pos) env) Q E s := by
  rw [arm_eval_Attribute, base_ok hb]
  refine wpAny_bind (wpAny_mono (H.e ρ o _ own env A E s _ ho k S fun h1 t1 v l1 o1 r1 => ?_) (fun ov s₁ h₁ => wpAny_bind (wpAny_standAt h₁)) fun _ _ x => x)
  refine wpAny_bind (wpAny_holding (C.attr n es a d e own { s with heap := h1, toks := t1 } A E v _ (k.le (by omega)) o1 r1 fun v' tk r => ?_))
  exact wpAny_bind (wpAny_letTemporaryGo (wpAny_pure (p h1 tk v' l1 o1 r)))

theorem folded_plain {it : Expr} (h : ∀ (es : List Expr) (k : Nat) (p : Pos), it ≠ .Set es k p) (x : Value) : foldedSetIterable it env x = pure x := by
  cases it with
  | Set es k p => exact absurd rfl (h es k p)
  | _ => rfl

theorem iter_sound (B : BltOk W) (H : IOk W K I) (hset : ∀ ρ es k p, I.e ρ (.Set es k p) = none) {t it : Expr} {ds : List Dt} (e : iterE I ρ t it = some ds) (k : AOk W (K + 4) A) (S : Sees W own env s.heap ρ) :
    wpAny W.M A (eval it env) (fun x s₁ => wpAny W.M A (pyIter x) (fun it' s₂ => IterAt W own A t ds s it' s₂) E s₁) E s ∧ ∀ x, foldedSetIterable it env x = pure x := by
  have plain : ∀ {it : Expr}, (I.e ρ it).bind iterD = some ds → wpAny W.M A (eval it env) (fun x s₁ => wpAny W.M A (pyIter x) (fun it' s₂ => IterAt W own A t ds s it' s₂) E s₁) E s ∧ ∀ x, foldedSetIterable it env x = pure x := by
    intro it e
    obtain ⟨d, hd, e⟩ := Option.bind_eq_some_iff.mp e
    refine ⟨H.e ρ it d own env A E s _ hd k S fun h1 t1 v l1 o1 r1 => iter_val k.hh e l1 S.ok o1 r1, folded_plain fun es n p q => ?_⟩
    subst q
    rw [hset] at hd; cases hd
  unfold iterE at e
  cases hc : callOf it with
  | none => rw [hc] at e; exact plain e
  | some r =>
    obtain ⟨f, fp, args, ks, q⟩ := r
    rw [hc] at e
    dsimp only at e
    have hf := callOf_form hc
    clear hc
    subst hf
    have e' := ite_or e
    clear e
    rcases e' with ⟨⟨hg, rfl, hk⟩, e⟩ | ⟨_, e⟩
    · have hk' : ks = [] := List.isEmpty_iff.mp hk
      subst hk'
      refine ⟨?_, folded_plain fun es n p q => nomatch q⟩
      obtain ⟨ds', hb, e1⟩ := Option.bind_eq_some_iff.mp e
      clear e
      obtain ⟨ns, hn, e2⟩ := Option.bind_eq_some_iff.mp e1
      clear e1
      have hds := ints_eq hn
      subst hds
      cases ns with
      | nil => exact noneE e2
      | cons a r => cases r with
        | nil =>
          refine blt_call H hg (by decide) hb k S fun h' tk vs l o r => ?_
          obtain ⟨v, rfl, rv⟩ := r.inv1
          obtain ⟨u, rfl⟩ := rep_int rv
          refine call_range_1 ?_
          exact iter_range k.hh e2 (l.trans (Up.push _ _).le) S.ok (o.up (Up.push _ _)) (Heap.get?_push_size _ rfl)
        | cons b r => cases r with
          | nil =>
            refine blt_call H hg (by decide) hb k S fun h' tk vs l o r => ?_
            obtain ⟨v, w, rfl, rv, rw'⟩ := r.inv2
            obtain ⟨u, rfl⟩ := rep_int rv
            obtain ⟨u', rfl⟩ := rep_int rw'
            refine call_range_2 ?_
            exact iter_range k.hh e2 (l.trans (Up.push _ _).le) S.ok (o.up (Up.push _ _)) (Heap.get?_push_size _ rfl)
          | cons => exact noneE e2
    have e' := ite_or e
    clear e
    rcases e' with ⟨⟨hg, rfl, hk, ht⟩, e⟩ | ⟨_, e⟩
    · have hk' : ks = [] := List.isEmpty_iff.mp hk
      subst hk'
      refine ⟨?_, folded_plain fun es n p q => nomatch q⟩
      obtain ⟨ds', hb, e⟩ := Option.bind_eq_some_iff.mp e
      cases ds' with
      | nil => exact noneE e
      | cons d r => cases r with
        | cons => exact noneE e
        | nil => cases d with
          | list es =>
            cases e
            refine blt_call H hg (by decide) hb k S fun h' tk vs l o r => ?_
            obtain ⟨v, rfl, rv⟩ := r.inv1
            exact iter_enum k.hh ht l S.ok o rv
          | _ => exact noneE e
    exact plain e
end
end Mine

namespace Mine

noncomputable def turnOf (i t : Expr) (ifs : List Expr) (it : Value) (env : Env) (body : Sem Fin) (c : Code) : Sem Fin :=
  standAt i.pos >>= fun _ => pyNext it >>= fun r => match r with
    | none => pure (.done .next)
    | some v => letOwnedTupleGo t it v >>= fun _ => assign t env v >>= fun _ =>
      (forIn ifs true fun c r => if r = true then do let ok ← isTrue c env (eval c env); pure (ForInStep.yield ok) else pure (ForInStep.yield r)) >>= fun ok =>
        if ok = true then body else again c
noncomputable def emitSem (elt : Expr) (acc : Value) (env : Env) (c : Code) : Sem Fin := (eval elt env >>= fun x => call (.builtin "list.append") [acc, x] >>= fun _ => (pure () : Sem Unit)) >>= fun _ => again c
noncomputable def nextSem (e : Expr) (depth : Nat) (i : Expr) (acc : Value) (env : Env) (c : Code) : Sem Fin :=
  eval i env >>= fun x => standAt i.pos >>= fun _ => foldedSetIterable i env x >>= fun x => holding [x] (pyIter x) >>= fun it => runOwn (.compStart e depth it acc env) env >>= fun _ => again c

theorem compTurn_last {elt : Expr} {gens : List Comprehension} {sc : Scope} {pos : Pos} {n : Nat} {it acc : Value} {env : Env} {t i : Expr} {ifs : List Expr} (h1 : gens[n]? = some ⟨t, i, ifs, 0⟩) (h2 : gens[n + 1]? = none) :
    compTurn (.ListComp elt gens sc pos) n it acc env = turnOf i t ifs it env (emitSem elt acc env (.compLoop (.ListComp elt gens sc pos) n it acc env)) (.compLoop (.ListComp elt gens sc pos) n it acc env) := by
  unfold compTurn
  simp only [h1, h2]
  rfl
theorem compTurn_more {elt : Expr} {gens : List Comprehension} {sc : Scope} {pos : Pos} {n : Nat} {it acc : Value} {env : Env} {t i t' i' : Expr} {ifs ifs' : List Expr} (h1 : gens[n]? = some ⟨t, i, ifs, 0⟩) (h2 : gens[n + 1]? = some ⟨t', i', ifs', 0⟩) :
    compTurn (.ListComp elt gens sc pos) n it acc env = turnOf i t ifs it env (nextSem (.ListComp elt gens sc pos) (n + 1) i' acc env (.compLoop (.ListComp elt gens sc pos) n it acc env)) (.compLoop (.ListComp elt gens sc pos) n it acc env) := by
  unfold compTurn
  simp only [h1, h2]
  rfl
theorem compStart_at {A : Around} {R : Result → Shared → Prop} {s : Shared} {elt : Expr} {gens : List Comprehension} {sc : Scope} {pos : Pos} {n : Nat} {it acc : Value} {env : Env} {t i : Expr} {ifs : List Expr} (hg : gens[n]? = some ⟨t, i, ifs, 0⟩) {prog : Program} {w : World}
    (h0 : codeAny (model prog w) A (.compLoop (.ListComp elt gens sc pos) n it acc env) R s)
    (h : wpAny (model prog w) A (pyIter it) (fun it' s' => codeAny (model prog w) A (.compLoop (.ListComp elt gens sc pos) n it' acc env) R s') (notedBy (model prog w) A env fun x s' => R (.error x) s') s) :
    codeAny (model prog w) A (.compStart (.ListComp elt gens sc pos) n it acc env) R s := by
  refine codeAny_of_tree ?_
  show wpAny _ _ ((compStart (.ListComp elt gens sc pos) n it acc env).onRaise (fun x => do noteFrame x env; standAt theWindowsPlace)) _ _ s
  refine wpAny_notedAt ?_
  unfold compStart
  have e : (clausesOf (.ListComp elt gens sc pos))[n]? = some ⟨t, i, ifs, 0⟩ := hg
  simp only [e]
  show wpAny _ _ (ask >>= _) _ _ s
  refine wpAny_bind (wpAny_askSetting (wpAny_ite ?_))
  split
  · first
      | exact wpAny_bind (wpAny_pure (wpAny_pure (And.intro rfl h0)))
      | exact wpAny_pure (And.intro rfl h0)
  · first
      | exact wpAny_bind (wpAny_rule (wpAny_bind (wpAny_standAt (wpAny_bind (wpAny_mono h (fun it' s' h' => wpAny_pure (And.intro rfl h')) fun _ _ x => x)))))
      | (refine wpAny_bind (wpAny_rule ?_); show wpAny _ _ (standAt i.pos >>= _) _ _ s; exact wpAny_bind (wpAny_standAt (wpAny_bind (wpAny_mono h (fun it' s' h' => wpAny_pure (And.intro rfl h')) fun _ _ x => x))))
end Mine

namespace Mine

theorem Ok.move {W : Wd} {own own' : List Addr} {h h' : Heap} (x : Ok W own h) (u : Up (hideAll h own) (hideAll h' own')) (hP : W.P ∈ own') (hp : ∀ o, h.get? W.P = some o → h'.get? W.P = some o) (l : ∀ a ∈ own', ∃ o, h'.get? a = some o) : Ok W own' h' :=
  ⟨x.base.trans u, hP, (let ⟨ps, a, b⟩ := x.tab; ⟨ps, hp _ a, W.tsUp _ _ _ u b⟩), l⟩

/-- the places that a frame's names are read at -/
noncomputable def RdF (env : Env) (ρ : Ro) (a : Addr) : Prop := a = env.locals ∨ ∃ x k b, ρ.lookup x = some (.var k b) ∧ k ≠ .loc ∧ env.cells.lookup x = some a
theorem WrF.rd {env : Env} {ρ : Ro} {a : Addr} (x : WrF env ρ a) : RdF env ρ a := x.imp id fun ⟨x, b, e, q⟩ => ⟨x, .cel, b, e, by decide, q⟩

/-- as it was, but that some unbound names are bound -/
noncomputable def SubR (ρ ρ' : Ro) : Prop := ∀ x, ρ'.lookup x = ρ.lookup x ∨ ∃ k b', ρ.lookup x = some (.var k .unb) ∧ ρ'.lookup x = some (.var k b')
theorem SubR.refl (ρ : Ro) : SubR ρ ρ := fun _ => .inl rfl
theorem SubR.kind {ρ ρ' : Ro} (S : SubR ρ ρ') {x : Str} {k : SK} : (∃ b, ρ'.lookup x = some (.var k b)) ↔ ∃ b, ρ.lookup x = some (.var k b) := by
  rcases S x with e | ⟨k', b', e1, e2⟩
  · rw [e]
  · rw [e1, e2]
    constructor
    · rintro ⟨b, h⟩; cases h; exact ⟨_, rfl⟩
    · rintro ⟨b, h⟩; cases h; exact ⟨_, rfl⟩
theorem SubR.wr {ρ ρ' : Ro} (S : SubR ρ ρ') (env : Env) (a : Addr) : WrF env ρ' a ↔ WrF env ρ a := by
  unfold WrF
  refine or_congr Iff.rfl ⟨?_, ?_⟩
  · rintro ⟨x, b, e, q⟩; obtain ⟨b', e'⟩ := S.kind.mp ⟨b, e⟩; exact ⟨x, b', e', q⟩
  · rintro ⟨x, b, e, q⟩; obtain ⟨b', e'⟩ := S.kind.mpr ⟨b, e⟩; exact ⟨x, b', e', q⟩
theorem SubR.rd {ρ ρ' : Ro} (S : SubR ρ ρ') (env : Env) (a : Addr) : RdF env ρ' a ↔ RdF env ρ a := by
  unfold RdF
  refine or_congr Iff.rfl ⟨?_, ?_⟩
  · rintro ⟨x, k, b, e, n, q⟩; obtain ⟨b', e'⟩ := S.kind.mp ⟨b, e⟩; exact ⟨x, k, b', e', n, q⟩
  · rintro ⟨x, k, b, e, n, q⟩; obtain ⟨b', e'⟩ := S.kind.mpr ⟨b, e⟩; exact ⟨x, k, b', e', n, q⟩
theorem SubR.put {ρ ρ₁ ρ₂ : Ro} {x : Str} {b : Bd} (S : SubR ρ ρ₁) (hx : unbName ρ x = true) (h : put ρ₁ x b = some ρ₂) : SubR ρ ρ₂ := by
  obtain ⟨k, b0, h1, _, h3⟩ := put_spec h
  have hu : ∃ k', ρ.lookup x = some (.var k' .unb) := by
    unfold unbName at hx
    split at hx
    · exact ⟨_, by assumption⟩
    · cases hx
  obtain ⟨k', hu⟩ := hu
  intro y
  rw [h3]
  by_cases hy : y = x
  · subst hy
    rw [if_pos rfl]
    obtain ⟨b1, hk⟩ := S.kind.mp ⟨b0, h1⟩
    rw [hu] at hk; cases hk
    exact .inr ⟨_, b, hu, rfl⟩
  · rw [if_neg hy]; exact S y
theorem SubR.all {ρ : Ro} {ts : List Expr} : ∀ {ds : List Dt} {ρ₁ ρ₂ : Ro}, SubR ρ ρ₁ → (ts.all fun | .Name x _ => unbName ρ x | _ => false) = true → putAll ρ₁ ts ds = some ρ₂ → SubR ρ ρ₂ := by
  induction ts with
  | nil =>
    intro ds ρ₁ ρ₂ S _ h
    rcases putAll_inv h with ⟨_, _, rfl⟩ | ⟨_, _, _, _, _, _, e, _⟩
    · exact S
    · cases e
  | cons t r ih =>
    intro ds ρ₁ ρ₂ S hu h
    rcases putAll_inv h with ⟨e, _⟩ | ⟨x, p, r', d, ds', q, e, rfl, h1, h2⟩
    · cases e
    · cases e
      rw [List.all_cons, Bool.and_eq_true] at hu
      exact ih (S.put hu.1 h1) hu.2 h2
theorem bind_sub {ρ ρ' : Ro} {t : Expr} {d : Dt} (h : bindT t d ρ = some ρ') (hu : unbT ρ t = true) : SubR ρ ρ' := by
  rcases bindT_inv h with ⟨x, p, rfl, h⟩ | ⟨ts, k, pos, ds, rfl, rfl, _, h⟩
  · exact (SubR.refl ρ).put hu h
  · exact SubR.all (SubR.refl ρ) hu h

section
variable {W : Wd} {own own' : List Addr} {env : Env} {ρ ρ' : Ro} {h h' : Heap}
theorem Frm.moveN (F : Frm W own env h ρ) (u : Up (hideAll h own) (hideAll h' own')) (nsK : ∀ m, h.Ns env.locals m → h'.Ns env.locals m) (keep : ∀ x k b c, ρ.lookup x = some (.var k b) → k ≠ .loc → env.cells.lookup x = some c → ∀ o, h.get? c = some o → h'.get? c = some o) (ok' : Ok W own' h') (hw : ∀ b, WrF env ρ b → b ∈ own') : Frm W own' env h' ρ := by
  have cellK : ∀ x k b c v, ρ.lookup x = some (.var k b) → k ≠ .loc → env.cells.lookup x = some c → h.IsCell c v → h'.IsCell c v := fun x k b c v e n q ⟨o, e1, e2⟩ => ⟨o, keep x k b c e n q o e1, e2⟩
  refine ⟨⟨F.sees.envOk, ok', fun x sl e => ?_, F.sees.nodbg, fun x k b c e n q => let ⟨v, z⟩ := F.sees.cells x k b c e n q; ⟨v, cellK x k b c v e n q z⟩⟩, (let ⟨m, n⟩ := F.ns; ⟨m, nsK m n⟩), hw _ (.inl rfl), fun x b c e q => ⟨hw _ (.inr ⟨x, b, e, q⟩), (let ⟨v, z⟩ := (F.cel x b c e q).2; ⟨v, cellK x _ b c v e (by decide) q z⟩)⟩, F.sep⟩
  have z := F.sees.at' x sl e
  cases sl with
  | glob => exact z
  | var k b =>
    refine ⟨z.1, fun d hd => ?_⟩
    obtain ⟨v, bv, rv⟩ := z.2 d hd
    refine ⟨v, ?_, rv.up u⟩
    cases k with
    | loc => obtain ⟨m, n, e'⟩ := bv; exact ⟨m, nsK m n, e'⟩
    | cel => obtain ⟨c, q, e'⟩ := bv; exact ⟨c, q, cellK x _ b c _ e (by decide) q e'⟩
    | fre => obtain ⟨c, q, e'⟩ := bv; exact ⟨c, q, cellK x _ b c _ e (by decide) q e'⟩

theorem Frm.move (F : Frm W own env h ρ) (u : Up (hideAll h own) (hideAll h' own')) (keep : ∀ b, RdF env ρ b → ∀ o, h.get? b = some o → h'.get? b = some o) (ok' : Ok W own' h') (hw : ∀ b, WrF env ρ b → b ∈ own') : Frm W own' env h' ρ :=
  F.moveN u (fun m n => n.at (keep _ (.inl rfl))) (fun x k b c e n q => keep c (.inr ⟨x, k, b, e, n, q⟩)) ok' hw
theorem Frm.forget (F : Frm W own env h ρ') (S : SubR ρ ρ') : Frm W own env h ρ := by
  refine ⟨⟨F.sees.envOk, F.sees.ok, fun x sl e => ?_, fun x sl e => ?_, fun x k b c e n q => (let ⟨b', e'⟩ := S.kind.mpr ⟨b, e⟩; F.sees.cells x k b' c e' n q)⟩, F.ns, F.lo, fun x b c e q => ?_, fun x y sx k sy c e1 e2 n q1 q2 => ?_⟩
  · rcases S x with z | ⟨k, b', z1, z2⟩
    · exact F.sees.at' x sl (z.trans e)
    · rw [z1] at e; cases e
      exact ⟨(F.sees.at' x _ z2).1, fun d hd => by cases hd⟩
  · rcases S x with z | ⟨k, b', z1, z2⟩
    · exact F.sees.nodbg x sl (z.trans e)
    · exact F.sees.nodbg x _ z2
  · obtain ⟨b', e'⟩ := S.kind.mpr ⟨b, e⟩
    exact F.cel x b' c e' q
  · obtain ⟨b1, e1'⟩ := S.kind.mpr ⟨sx, e1⟩
    obtain ⟨b2, e2'⟩ := S.kind.mpr ⟨sy, e2⟩
    exact F.sep x y b1 k b2 c e1' e2' n q1 q2
end

/-- a comprehension under way: its frame, and the list it fills -/
structure CState (W : Wd) (own : List Addr) (cenv : Env) (ρ : Ro) (D : Addr) (h : Heap) (ds : List Dt) : Prop where
  frm : Frm W own cenv h ρ
  dn : D ∈ own
  dp : D ≠ W.P
  dr : ¬ RdF cenv ρ D
  dat : ∃ vs, h.PlainList D vs.toArray ∧ Reps W (hideAll h own) vs ds
noncomputable def CX (W : Wd) (cenv : Env) (ρ : Ro) (D : Addr) (b : Addr) : Prop := b = W.P ∨ WrF cenv ρ b ∨ b = D

section
variable {W : Wd} {K : Nat} {I : Ev} {own own' : List Addr} {cenv : Env} {ρ ρ' : Ro} {A : Around} {E : Value → Shared → Prop} {s : Shared} {D : Addr} {h h' : Heap} {ds : List Dt}

theorem CState.move (C : CState W own cenv ρ D h ds) (u : Up (hideAll h own) (hideAll h' own')) (keep : ∀ b, RdF cenv ρ b → ∀ o, h.get? b = some o → h'.get? b = some o) (kd : ∀ o, h.get? D = some o → h'.get? D = some o) (ok' : Ok W own' h')
    (hw : ∀ b, WrF cenv ρ b → b ∈ own') (hd : D ∈ own') : CState W own' cenv ρ D h' ds :=
  ⟨C.frm.move u keep ok' hw, hd, C.dp, C.dr, (let ⟨vs, a, b⟩ := C.dat; ⟨vs, a.at kd, b.up u⟩)⟩
theorem CState.le (C : CState W own cenv ρ D h ds) (l : Le W.P h h') (o : Ok W own h') : CState W own cenv ρ D h' ds :=
  ⟨C.frm.le l o, C.dn, C.dp, C.dr, (let ⟨vs, a, b⟩ := C.dat; ⟨vs, a.at fun ob e => l D ob C.dp e, b.up (vis_le o.hP l)⟩)⟩
theorem CState.forget (C : CState W own cenv ρ' D h ds) (S : SubR ρ ρ') : CState W own cenv ρ D h ds := ⟨C.frm.forget S, C.dn, C.dp, fun z => C.dr ((S.rd cenv D).mpr z), C.dat⟩
theorem CX.sub (S : SubR ρ ρ') (b : Addr) : CX W cenv ρ' D b ↔ CX W cenv ρ D b := or_congr Iff.rfl (or_congr (S.wr cenv b) Iff.rfl)
theorem CX.mem (C : CState W own cenv ρ D h ds) {b : Addr} (x : CX W cenv ρ D b) : b ∈ own := by
  rcases x with rfl | x | rfl
  · exact C.frm.sees.ok.hP
  · exact C.frm.wrOwn x
  · exact C.dn

/-- places beside the comprehension's own that a turn may change, and what holds of them -/
structure Xt where
  X : Addr → Prop
  J : Heap → Prop
  st : ∀ h h', (∀ b, X b → ∀ o, h.get? b = some o → h'.get? b = some o) → J h → J h'
noncomputable def Xt.no : Xt := ⟨fun _ => False, fun _ => True, fun _ _ _ _ => trivial⟩
noncomputable def XtOk (W : Wd) (X : Xt) (own : List Addr) (cenv : Env) (ρ : Ro) (D : Addr) : Prop := ∀ b, X.X b → b ∈ own ∧ ¬ RdF cenv ρ b ∧ b ≠ D ∧ b ≠ W.P
/-- what one turn's end does -/
noncomputable def InnerOk (W : Wd) (K : Nat) (A : Around) (cenv : Env) (D : Addr) (X : Xt) (body : Sem Fin) (c : Code) (inner : Ro → Option (List Dt)) : Prop :=
  ∀ (own : List Addr) (ρ : Ro) (out : List Dt) (s : Shared) (ds0 : List Dt) (Q : Fin → Shared → Prop) (E : Value → Shared → Prop), inner ρ = some out → AOk W (K + 4) A → CState W own cenv ρ D s.heap ds0 → ds0.length + out.length ≤ 4096 → XtOk W X own cenv ρ D → X.J s.heap →
    (∀ h' tk, CState W own cenv ρ D h' (ds0 ++ out) → Chg (fun b => CX W cenv ρ D b ∨ X.X b) s.heap h' → X.J h' → Q (.again c) { s with heap := h', toks := tk }) → wpAny W.M A body Q E s

theorem emit_ok {X : Xt} (H : IOk W K I) {elt : Expr} {c : Code} : InnerOk W K A cenv D X (emitSem elt (.ref D) cenv c) c (fun ρ => (I.e ρ elt).map fun d => [d]) := by
  intro own ρ out s ds0 Q E hi k C hl hx hj hQ
  obtain ⟨d, hd, rfl⟩ := Option.map_eq_some_iff.mp hi
  unfold emitSem
  refine wpAny_bind (wpAny_bind (H.e ρ elt d own cenv A E s _ hd k C.frm.sees fun h1 t1 v l1 o1 r1 => ?_))
  have C1 := C.le l1 o1
  obtain ⟨vs, hp, hr⟩ := C1.dat
  refine wpAny_bind (wpAny_list_append_plain hp (fun h2 hp2 hs => ?_) (by rw [List.size_toArray, hr.length, sizeLine_eq]; simp at hl; omega))
  refine wpAny_pure (wpAny_pure ?_)
  have hlive : ∃ o, h2.get? D = some o := let ⟨n, e⟩ := hp2; ⟨_, e⟩
  have u : Up (hideAll h1 own) (hideAll h2 own) := vis_same C.dn hs
  have o2 : Ok W own h2 := o1.same C.dn C.dp hs (Classical.choose_spec hlive)
  have F2 : Frm W own cenv h2 ρ := C1.frm.move u (fun b hb o e => (hs.2 b fun z => C.dr (z ▸ hb)).trans e) o2 fun b hb => C1.frm.wrOwn hb
  refine hQ h2 t1 ⟨F2, C.dn, C.dp, C.dr, vs ++ [v], ?_, (hr.up u).append (.cons (r1.up u) .nil)⟩ (fun b o hb e => ?_) (X.st _ _ (fun b hb o e => (hs.2 b (hx b hb).2.2.1).trans (l1 b o (hx b hb).2.2.2 e)) hj)
  · have : (vs ++ [v]).toArray = vs.toArray.push v := by simp
    rw [this]; exact hp2
  · exact (hs.2 b fun z => hb (.inl (.inr (.inr z)))).trans (l1 b o (fun z => hb (.inl (.inl z))) e)

theorem Its.step {t : Expr} {Ia : Addr} {g : Heap} {ds : List Dt} {fp wr : List Addr} {St : Nat → Heap → Prop} (T : Its W A t Ia g ds fp wr St) {i : Nat} {d : Dt} {Q : Fin → Shared → Prop} {f : Value → Sem Fin} {z : Sem Fin} (hd : ds[i]? = some d) (st : St i s.heap)
    (h : ∀ v h' tk, RepT W t g h' v d → St (i + 1) h' → (∀ b o, b ∉ wr → s.heap.get? b = some o → h'.get? b = some o) → wpAny W.M A (f v) Q E { s with heap := h', toks := tk }) :
    wpAny W.M A (pyNext (.ref Ia) >>= fun r => match r with | none => z | some v => letOwnedTupleGo t (.ref Ia) v >>= fun _ => f v) Q E s :=
  wpAny_bind (wpAny_mono (T.item i d s (fun v s₂ => wpAny W.M A (f v) Q E s₂) E hd st h) (fun r s₁ ⟨v, e, hv⟩ => by subst e; exact wpAny_bind hv) fun _ _ e => e)

theorem Its.turn {t : Expr} {Ia : Addr} {g : Heap} {ds : List Dt} {fp wr : List Addr} {St : Nat → Heap → Prop} (T : Its W A t Ia g ds fp wr St) {i : Nat} {d : Dt} {F : Option Value → Shared → Prop} {G : Value → Shared → Prop} (hd : ds[i]? = some d) (st : St i s.heap)
    (hF : ∀ v s₁, F (some v) s₁ = wpAny W.M A (letOwnedTupleGo t (.ref Ia) v) (fun _ s₂ => G v s₂) E s₁)
    (h : ∀ v h' tk, RepT W t g h' v d → St (i + 1) h' → (∀ b o, b ∉ wr → s.heap.get? b = some o → h'.get? b = some o) → G v { s with heap := h', toks := tk }) :
    wpAny W.M A (pyNext (.ref Ia)) F E s :=
  wpAny_mono (T.item i d s G E hd st h) (fun r s₁ ⟨v, e, hv⟩ => by subst e; rw [hF]; exact hv) fun _ _ e => e

theorem tests_false {ifs : List Expr} {Q : Bool → Shared → Prop} {s : Shared} (h : Q false s) : wpAny W.M A (forIn ifs false fun c r => if r = true then do let ok ← isTrue c cenv (eval c cenv); pure (ForInStep.yield ok) else pure (ForInStep.yield r)) Q E s := by
  induction ifs with
  | nil => rw [List.forIn_nil]; exact wpAny_pure h
  | cons c r ih =>
    rw [List.forIn_cons]
    exact wpAny_bind (wpAny_pure ih)
theorem tests_sound (H : IOk W K I) {Q : Bool → Shared → Prop} {ok : Bool} : ∀ {ifs : List Expr} {s : Shared}, testAll I ρ ifs = some ok → AOk W (K + 4) A → Sees W own cenv s.heap ρ → PostB W own s Q ok →
    wpAny W.M A (forIn ifs true fun c r => if r = true then do let ok ← isTrue c cenv (eval c cenv); pure (ForInStep.yield ok) else pure (ForInStep.yield r)) Q E s
  | [], s, h, k, S, p => by cases h; rw [List.forIn_nil]; exact wpAny_pure (p s.heap s.toks (Le.refl _ _) S.ok)
  | c :: r, s, h, k, S, p => by
    rw [testAll] at h
    obtain ⟨b, hb, h⟩ := Option.bind_eq_some_iff.mp h
    rw [List.forIn_cons]
    refine wpAny_bind (wpAny_bind (H.t ρ c b own cenv A E s _ hb k S fun h1 t1 l1 o1 => wpAny_pure ?_))
    cases b with
    | true => exact tests_sound H (s := { s with heap := h1, toks := t1 }) h k (S.then l1 o1) fun h2 t2 l2 o2 => p h2 t2 (l1.trans l2) o2
    | false => cases h; exact tests_false (p h1 t1 l1 o1)

theorem loop_ok (X : Xt) (H : IOk W K I) {elt : Expr} {gens : List Comprehension} {sc : Scope} {pos : Pos} {j : Nat} {t i : Expr} {ifs : List Expr} {Ia : Addr} {g : Heap} {fp wr : List Addr} {St : Nat → Heap → Prop} {body : Sem Fin} {inner : Ro → Option (List Dt)}
    {ds0 out : List Dt} {s : Shared} {R : Result → Shared → Prop} (hg : gens[j]? = some ⟨t, i, ifs, 0⟩)
    (hturn : compTurn (.ListComp elt gens sc pos) j (.ref Ia) (.ref D) cenv = turnOf i t ifs (.ref Ia) cenv body (.compLoop (.ListComp elt gens sc pos) j (.ref Ia) (.ref D) cenv))
    (hin : InnerOk W K A cenv D X body (.compLoop (.ListComp elt gens sc pos) j (.ref Ia) (.ref D) cenv) inner)
    (T : Its W A t Ia g ds fp wr St) (st : St 0 s.heap) (hgo : clauses.go I inner t ifs ρ ds = some out) (hu : unbT ρ t = true) (k : AOk W (K + 4) A)
    (C : CState W (wr ++ own) cenv ρ D s.heap ds0) (Cn : ∀ b, CX W cenv ρ D b → b ∈ own) (hfp : ∀ b ∈ fp, b ∉ own) (hrd : ∀ b ∈ wr, ¬ RdF cenv ρ b) (ug : Up g (hideAll s.heap (wr ++ own))) (hl : ds0.length + out.length ≤ 4096) (hX : XtOk W X own cenv ρ D) (hJ : X.J s.heap)
    (hR : ∀ h' tk, CState W own cenv ρ D h' (ds0 ++ out) → Chg (fun b => (CX W cenv ρ D b ∨ X.X b) ∨ b ∈ wr) s.heap h' → X.J h' → R (.ok .next) { s with heap := h', toks := tk }) :
    codeAny W.M A (.compLoop (.ListComp elt gens sc pos) j (.ref Ia) (.ref D) cenv) R s := by
  have hfx : ∀ b ∈ fp, ¬ CX W cenv ρ D b := fun b hb x => hfp b hb (Cn b x)
  have hfX : ∀ b ∈ fp, ¬ X.X b := fun b hb x => hfp b hb (hX b x).1
  have hXw : ∀ b, X.X b → b ∉ wr := fun b x m => hfX b (T.sub b m) x
  have hXc : ∀ b, X.X b → ¬ CX W cenv ρ D b := fun b x z => by
    rcases z with z | z | z
    · exact (hX b x).2.2.2 z
    · exact (hX b x).2.1 z.rd
    · exact (hX b x).2.2.1 z
  have hwx : ∀ b ∈ wr, ¬ CX W cenv ρ D b := fun b hb => hfx b (T.sub b hb)
  have hwo : ∀ b ∈ wr, b ∉ own := fun b hb => hfp b (T.sub b hb)
  refine codeAny_loop rfl
    (fun n s' => ∃ h' tk q done rest, s' = { s with heap := h', toks := tk } ∧ St q h' ∧ clauses.go I inner t ifs ρ (ds.drop q) = some rest ∧ out = done ++ rest ∧ CState W (wr ++ own) cenv ρ D h' (ds0 ++ done) ∧
      Chg (fun b => (CX W cenv ρ D b ∨ X.X b) ∨ b ∈ wr) s.heap h' ∧ X.J h' ∧ Up g (hideAll h' (wr ++ own)) ∧ q ≤ ds.length ∧ n = ds.length + 1 - q) ?_ (ds.length + 1)
    ⟨s.heap, s.toks, 0, [], out, rfl, st, by simpa using hgo, rfl, by simpa using C, Chg.refl _ _, hJ, ug, Nat.zero_le _, rfl⟩
  rintro n s' ⟨h₁, tk₁, q, done, rest, rfl, st₁, hgo₁, rfl, C₁, ch₁, j₁, ug₁, hq, rfl⟩
  show wpAny _ A ((compTurn (.ListComp elt gens sc pos) j (.ref Ia) (.ref D) cenv).onRaise (fun x => do noteFrame x cenv; theTreesLotGoes x)) _ _ _
  refine wpAny_noted ?_
  rw [hturn]
  unfold turnOf
  refine wpAny_bind (wpAny_standAt ?_)
  by_cases hlt : q < ds.length
  · have hd : ds[q]? = some ds[q] := List.getElem?_eq_getElem hlt
    rw [List.drop_eq_getElem_cons hlt, clauses.go] at hgo₁
    obtain ⟨ρ₂, hb, hgo₁⟩ := Option.bind_eq_some_iff.mp hgo₁
    obtain ⟨ok, hok, hgo₁⟩ := Option.bind_eq_some_iff.mp hgo₁
    obtain ⟨now, hnow, hgo₁⟩ := Option.bind_eq_some_iff.mp hgo₁
    obtain ⟨rest', hrest, hr⟩ := Option.map_eq_some_iff.mp hgo₁
    have S₂ := bind_sub hb hu
    refine T.step hd st₁ fun v h₂ tk₂ rv st₂ ch₂ => ?_
    -- the item is at hand
    have kx : ∀ b o, ¬ ((CX W cenv ρ D b ∨ X.X b) ∨ b ∈ wr) → h₁.get? b = some o → h₂.get? b = some o := fun b o n e => ch₂ b o (fun z => n (.inr z)) e
    have u₂ : Up (hideAll h₁ (wr ++ own)) (hideAll h₂ (wr ++ own)) := fun b o e => by
      obtain ⟨a, n⟩ := vis_iff.mp e
      exact vis_iff.mpr ⟨ch₂ b o (fun z => n (List.mem_append_left _ z)) a, n⟩
    have live₂ : ∀ a ∈ wr ++ own, ∃ o, h₂.get? a = some o := fun a ha => by
      by_cases haw : a ∈ wr
      · exact T.live _ _ st₂ a (T.sub a haw)
      · obtain ⟨o, e⟩ := C₁.frm.sees.ok.live a ha
        exact ⟨o, ch₂ a o haw e⟩
    have hPw : W.P ∉ wr := fun z => hwx _ z (.inl rfl)
    have ok₂ : Ok W (wr ++ own) h₂ := C₁.frm.sees.ok.move u₂ C₁.frm.sees.ok.hP (fun o e => ch₂ _ o hPw e) live₂
    have C₂ : CState W (wr ++ own) cenv ρ D h₂ (ds0 ++ done) := C₁.move u₂ (fun b hb o e => ch₂ b o (fun z => hrd b z hb) e) (fun o e => ch₂ D o (fun z => hwx D z (.inr (.inr rfl))) e) ok₂ (fun b hb => C₁.frm.wrOwn hb) C₁.dn
    refine wpAny_bind (bind_sound (s := { s with heap := h₂, toks := tk₂ }) k.hh hb C₂.frm (ug₁.trans u₂) rv fun h₃ tk₃ F₃ ch₃ hw₃ => ?_)
    have C₃ : CState W (wr ++ own) cenv ρ₂ D h₃ (ds0 ++ done) := by
      have u₃ : Up (hideAll h₂ (wr ++ own)) (hideAll h₃ (wr ++ own)) := vis_chg (fun a z => C₂.frm.wrOwn z) ch₃
      refine ⟨F₃, C₂.dn, C₂.dp, fun z => C₂.dr ((S₂.rd cenv D).mp z), ?_⟩
      obtain ⟨vs, a, b⟩ := C₂.dat
      exact ⟨vs, a.at fun o e => ch₃ D o (fun z => C₂.dr z.rd) e, b.up u₃⟩
    refine wpAny_bind (tests_sound H hok k C₃.frm.sees fun h₄ tk₄ l₄ o₄ => ?_)
    have C₄ := C₃.le l₄ o₄
    have st₄ : St (q + 1) h₄ := T.frame _ _ _ st₂ fun b hb o e => l₄ b o (fun z => hfx b hb (.inl z)) (ch₃ b o (fun z => hfx b hb (.inr (.inl z))) e)
    have ch₄ : Chg (fun b => (CX W cenv ρ D b ∨ X.X b) ∨ b ∈ wr) s.heap h₄ := fun b o n e => l₄ b o (fun z => n (.inl (.inl (.inl z)))) (ch₃ b o (fun z => n (.inl (.inl (.inr (.inl z))))) (kx b o n (ch₁ b o n e)))
    have j₄ : X.J h₄ := X.st _ _ (fun b hb o e => l₄ b o (fun z => hXc b hb (.inl z)) (ch₃ b o (fun z => hXc b hb (.inr (.inl z))) (ch₂ b o (hXw b hb) e))) j₁
    have hX₂ : XtOk W X (wr ++ own) cenv ρ₂ D := fun b hb => let ⟨x1, x2, x3⟩ := hX b hb; ⟨List.mem_append_right _ x1, fun z => x2 ((S₂.rd cenv b).mp z), x3⟩
    have ug₄ : Up g (hideAll h₄ (wr ++ own)) := ((ug₁.trans u₂).trans (vis_chg (fun a z => C₂.frm.wrOwn z) ch₃)).trans (vis_le o₄.hP l₄)
    have hlen : (ds0 ++ done).length + now.length ≤ 4096 := by
      rw [← hr] at hl
      simp only [List.length_append] at hl ⊢
      omega
    cases ok with
    | false =>
      cases hnow
      refine wpAny_pure ⟨rfl, ds.length + 1 - (q + 1), by omega, h₄, tk₄, q + 1, done, rest', rfl, st₄, hrest, by rw [← hr]; rfl, C₄.forget S₂, ch₄, j₄, ug₄, hlt, rfl⟩
    | true =>
      refine hin (wr ++ own) ρ₂ now _ (ds0 ++ done) _ _ hnow k C₄ hlen hX₂ j₄ fun h₅ tk₅ C₅ ch₅ j₅ => ?_
      have ch₅' : Chg (fun b => CX W cenv ρ D b ∨ X.X b) h₄ h₅ := ch₅.weaken fun b z => z.imp (CX.sub S₂ b).mp id
      refine ⟨rfl, ds.length + 1 - (q + 1), by omega, h₅, tk₅, q + 1, done ++ now, rest', rfl, ?_, hrest, by rw [← hr, List.append_assoc], ?_, ?_, j₅, ?_, hlt, rfl⟩
      · exact T.frame _ _ _ st₄ fun b hb o e => ch₅' b o (fun z => z.elim (hfx b hb) (hfX b hb)) e
      · rw [← List.append_assoc]; exact C₅.forget S₂
      · exact ch₄.trans (ch₅'.weaken fun b z => .inl z)
      · exact ug₄.trans (vis_chg (fun a z => z.elim (fun z => CX.mem C₄ z) fun z => (hX₂ a z).1) ch₅)
  · have hq' : q = ds.length := by omega
    subst hq'
    rw [List.drop_length, clauses.go] at hgo₁
    cases hgo₁
    refine wpAny_bind (T.done _ _ _ st₁ fun h₂ tk₂ ch₂ => wpAny_pure ?_)
    rw [List.append_nil] at *
    have u₂ : Up (hideAll h₁ (wr ++ own)) (hideAll h₂ own) := fun b o e => by
      obtain ⟨a, n⟩ := vis_iff.mp e
      exact vis_iff.mpr ⟨ch₂ b o (fun z => n (List.mem_append_left _ z)) a, fun z => n (List.mem_append_right _ z)⟩
    have hPw : W.P ∉ wr := fun z => hwx _ z (.inl rfl)
    have ok₂ : Ok W own h₂ := C₁.frm.sees.ok.move u₂ (Cn _ (.inl rfl)) (fun o e => ch₂ _ o hPw e) fun a ha => by
      obtain ⟨o, e⟩ := C₁.frm.sees.ok.live a (List.mem_append_right _ ha)
      exact ⟨o, ch₂ a o (fun z => hwo a z ha) e⟩
    have C₂ : CState W own cenv ρ D h₂ (ds0 ++ done) := C₁.move u₂ (fun b hb o e => ch₂ b o (fun z => hrd b z hb) e) (fun o e => ch₂ D o (fun z => hwx D z (.inr (.inr rfl))) e) ok₂ (fun b hb => Cn b (.inr (.inl hb))) (Cn _ (.inr (.inr rfl)))
    exact hR h₂ tk₂ C₂ (ch₁.trans fun b o n e => ch₂ b o (fun z => n (.inr z)) e) (X.st _ _ (fun b hb o e => ch₂ b o (hXw b hb) e) j₁)
end
end Mine

namespace Mine

noncomputable def closOf (env : Env) : List (Str × NameKind) → List (Str × Addr) → List (Str × Addr)
  | [], acc => acc
  | (n, k) :: r, acc => if k == .free then closOf env r ((n, (env.cells.lookup n).getD 0) :: acc) else closOf env r acc
theorem closure_eq {sc : Scope} {env : Env} (h : ∀ x ∈ sc.names, x.2 = .free → ∃ c, env.cells.lookup x.1 = some c) : closureFor sc env = pure (closOf env sc.names []) := by
  unfold closureFor
  have key : ∀ (l : List (Str × NameKind)) (acc : List (Str × Addr)), (∀ x ∈ l, x.2 = .free → ∃ c, env.cells.lookup x.1 = some c) →
      (forIn l acc (fun x (r : List (Str × Addr)) => if x.2 == .free then cellOf env x.1 >>= fun a => pure (.yield ((x.1, a) :: r)) else pure (.yield r)) : Sem (List (Str × Addr))) = pure (closOf env l acc) := by
    intro l
    induction l with
    | nil => intro acc _; rfl
    | cons p r ih =>
      intro acc hl
      obtain ⟨n, k⟩ := p
      rw [List.forIn_cons]
      unfold closOf
      have ih' := fun acc => ih acc fun x hx => hl x (List.mem_cons_of_mem _ hx)
      by_cases hk : (k == NameKind.free) = true
      · obtain ⟨c, hc⟩ := hl (n, k) List.mem_cons_self (by simpa using hk)
        have hc' : env.cells.lookup n = some c := hc
        simp only [hk, if_true]
        rw [hc']
        have e : cellOf env n = pure c := by unfold cellOf; rw [hc']
        rw [e, pure_bind, pure_bind]
        exact ih' _
      · simp only [hk]
        rw [if_neg (by simp), pure_bind]
        exact ih' _
  show (forIn sc.names [] _ >>= pure) = _
  rw [bind_pure]
  refine Eq.trans ?_ (key sc.names [] h)
  congr 1
theorem clos_lookup {env : Env} : ∀ {l : List (Str × NameKind)} {acc : List (Str × Addr)} {x : Str}, (closOf env l acc).lookup x = if (x, NameKind.free) ∈ l then some ((env.cells.lookup x).getD 0) else acc.lookup x
  | [], acc, x => by simp [closOf]
  | (n, k) :: r, acc, x => by
    unfold closOf
    by_cases hk : (k == NameKind.free) = true
    · have hk' : k = .free := by simpa using hk
      subst hk'
      simp only [beq_self_eq_true, if_true]
      rw [clos_lookup (l := r)]
      by_cases hr : (x, NameKind.free) ∈ r
      · simp [hr]
      · simp only [hr, if_false]
        by_cases hx : x = n
        · subst hx; simp [List.lookup_cons]
        · have : (x == n) = false := by simpa using hx
          simp [List.lookup_cons, this, hr, hx]
    · simp only [hk]
      rw [if_neg (by simp), clos_lookup (l := r)]
      have hk' : ¬ k = .free := by simpa using hk
      have : ((x, NameKind.free) ∈ (n, k) :: r) ↔ (x, NameKind.free) ∈ r := by
        rw [List.mem_cons]
        constructor
        · rintro (e | e)
          · cases e; exact absurd rfl hk'
          · exact e
        · exact .inr
      simp only [this]

theorem cellsFrom_acc : ∀ (l : List (Str × NameKind)) (n : Nat) (acc : List (Str × Addr)), cellsFrom n l acc = cellsFrom n l [] ++ acc
  | [], _, _ => rfl
  | (x, k) :: r, n, acc => by
    unfold cellsFrom
    split
    · rw [cellsFrom_acc r (n + 1) ((x, n) :: acc), cellsFrom_acc r (n + 1) [(x, n)]]; simp
    · exact cellsFrom_acc r n acc
theorem cellsFrom_mem : ∀ {l : List (Str × NameKind)} {n : Nat} {x : Str} {c : Addr}, (x, c) ∈ cellsFrom n l [] → (x, NameKind.cell) ∈ l
  | [], _, _, _, h => by simp [cellsFrom] at h
  | (y, k) :: r, n, x, c, h => by
    unfold cellsFrom at h
    split at h
    · rename_i hk
      rw [cellsFrom_acc] at h
      rcases List.mem_append.mp h with h | h
      · exact List.mem_cons_of_mem _ (cellsFrom_mem h)
      · cases List.mem_singleton.mp h
        have : k = .cell := by simpa using hk
        subst this; exact List.mem_cons_self
    · exact List.mem_cons_of_mem _ (cellsFrom_mem h)
theorem cellsFrom_has : ∀ {l : List (Str × NameKind)} {n : Nat} {x : Str}, (x, NameKind.cell) ∈ l → ∃ c, (cellsFrom n l []).lookup x = some c
  | [], _, _, h => nomatch h
  | (y, k) :: r, n, x, h => by
    unfold cellsFrom
    rcases List.mem_cons.mp h with e | h
    · have e1 : x = y := (Prod.mk.inj e).1
      have e2 : NameKind.cell = k := (Prod.mk.inj e).2
      subst e1 e2
      simp only [beq_self_eq_true, if_true]
      rw [cellsFrom_acc]
      cases hq : (cellsFrom (n + 1) r []).lookup x with
      | some c => exact ⟨c, by rw [List.lookup_append, hq]; rfl⟩
      | none => exact ⟨n, by rw [List.lookup_append, hq]; simp⟩
    · split
      · obtain ⟨c, hc⟩ := cellsFrom_has (n := n + 1) h
        exact ⟨c, by rw [cellsFrom_acc, List.lookup_append, hc]; rfl⟩
      · exact cellsFrom_has h

theorem newEnv_comp {M : Model} {A : Around} {E : Value → Shared → Prop} {s : Shared} {sc : Scope} {globals : Addr} {cl : List (Str × Addr)} {qual : Str} {env : Env} {Q : Env → Shared → Prop}
    (h : Q { scope := sc, locals := s.heap.objs.size, globals := globals, cells := cellsFrom (s.heap.objs.size + 1) sc.names [] ++ cl, qual := qual, func := none, code := env.code, frame := env.frame, builtins := env.builtins }
      { s with heap := pushCells (s.heap.push { cls := .type "dict", data := .dict #[] }) sc.names }) :
    wpAny M A (newFunctionEnv sc globals cl [] qual none .none (some env)) Q E s := by
  simp only [newFunctionEnv, Option.isSome_some, if_true]
  refine wpAny_bind (wpAny_alloc ?_)
  refine wpAny_bind (wpAny_layCells _ (fun name kind cells => by cases hkc : kind == NameKind.cell <;> simp [hkc]) _ _ _ _ ?_)
  rw [show ({ s with heap := s.heap.push { cls := .type "dict", data := .dict #[] } } : Shared).heap.objs.size = s.heap.objs.size + 1 from Heap.size_push .., cellsFrom_acc]
  exact wpAny_bind (wpAny_pure (wpAny_pure h))

noncomputable def slotRel (ρ : Ro) (x : Str) (k : NameKind) (sl : Slot) : Prop := match k with
  | .local => sl = .var .loc .unb
  | .cell => sl = .var .cel .unb
  | .globalImplicit => sl = .glob
  | .free => ∃ k' b, ρ.lookup x = some (.var k' b) ∧ (k' = .fre ∨ (k' = .cel ∧ (x == ("__classdict__" : Str)) = false)) ∧ sl = .var .fre b
  | _ => False
theorem compRo_spec {ρ : Ro} : ∀ {l : List (Str × NameKind)} {ρ' : Ro} {x : Str} {sl : Slot}, compRo ρ l = some ρ' → ρ'.lookup x = some sl → ∃ k, l.lookup x = some k ∧ slotRel ρ x k sl ∧ (k ≠ .free → (x == ("__debug__" : Str)) = false)
  | [], ρ', x, sl, h, e => by rw [compRo] at h; cases h; cases e
  | (y, k) :: r, ρ', x, sl, h, e => by
    rw [compRo] at h
    obtain ⟨q, hq, h⟩ := Option.bind_eq_some_iff.mp h
    have step : ∀ {slx : Slot}, ρ' = (y, slx) :: q → slotRel ρ y k slx → (k ≠ .free → (y == ("__debug__" : Str)) = false) → ∃ k', ((y, k) :: r).lookup x = some k' ∧ slotRel ρ x k' sl ∧ (k' ≠ .free → (x == ("__debug__" : Str)) = false) := by
      intro slx he hs hb
      subst he
      by_cases hx : x = y
      · subst hx
        rw [List.lookup_cons_self] at e ⊢
        cases e
        exact ⟨k, rfl, hs, hb⟩
      · have hx' : (x == y) = false := by simpa using hx
        rw [List.lookup_cons, hx'] at e ⊢
        exact compRo_spec hq e
    cases k with
    | «local» =>
      dsimp only at h
      split at h
      · cases h
      · rename_i hd; cases h; exact step rfl rfl fun _ => by simpa using hd
    | cell =>
      dsimp only at h
      split at h
      · cases h
      · rename_i hd; cases h; exact step rfl rfl fun _ => by simpa using hd
    | globalImplicit =>
      dsimp only at h
      split at h
      · cases h
      · rename_i hd; cases h; exact step rfl rfl fun _ => by simpa using hd
    | free =>
      dsimp only at h
      split at h
      · cases h
      · split at h
        · rename_i b hb
          split at h
          · cases h
          · rename_i hc; cases h; exact step rfl ⟨_, b, hb, .inr ⟨rfl, by simpa using hc⟩, rfl⟩ fun z => absurd rfl z
        · rename_i b hb
          cases h; exact step rfl ⟨_, b, hb, .inl rfl, rfl⟩ fun z => absurd rfl z
        · cases h
    | globalExplicit => cases h

theorem lookup_mapK {g : Str → NameKind → NameKind} : ∀ {l : List (Str × NameKind)} {x : Str}, (l.map fun (n, k) => (n, g n k)).lookup x = (l.lookup x).map (g x)
  | [], _ => rfl
  | (n, k) :: r, x => by
    rw [List.map_cons]
    by_cases hx : x = n
    · subst hx; rw [List.lookup_cons_self, List.lookup_cons_self]; rfl
    · have hx' : (x == n) = false := by simpa using hx
      rw [List.lookup_cons, hx', List.lookup_cons, hx']
      exact lookup_mapK
theorem relabel_lookup (sc : Scope) (env : Env) (x : Str) : (relabel sc env).names.lookup x = (sc.names.lookup x).map fun k => if (k == .free && env.scope.kind == .function && env.kindOf x == some .cell) then .cell else k := by
  unfold relabel
  rw [← lookup_mapK (g := fun n k => if (k == .free && env.scope.kind == .function && env.kindOf n == some .cell) then .cell else k)]
  congr 1
  apply List.map_congr_left
  rintro ⟨n, k⟩ _
  dsimp only
  split <;> rfl
theorem relabel_kind (sc : Scope) (env : Env) : (relabel sc env).kind = sc.kind := rfl

theorem nodup_lookup {α : Type} : ∀ {l : List (Str × α)} {x : Str} {k k' : α}, (l.map (·.1)).Nodup → l.lookup x = some k → (x, k') ∈ l → k' = k
  | [], _, _, _, _, h, _ => by cases h
  | (n, a) :: r, x, k, k', hn, h, hm => by
    rw [List.map_cons, List.nodup_cons] at hn
    by_cases hx : x = n
    · subst hx
      rw [List.lookup_cons_self] at h
      cases h
      rcases List.mem_cons.mp hm with e | e
      · cases e; rfl
      · exact absurd (List.mem_map.mpr ⟨_, e, rfl⟩) hn.1
    · have hx' : (x == n) = false := by simpa using hx
      rw [List.lookup_cons, hx'] at h
      rcases List.mem_cons.mp hm with e | e
      · cases e; exact absurd rfl hx
      · exact nodup_lookup hn.2 h e
end Mine

namespace Mine

section
variable {W : Wd} {K : Nat} {I : Ev} {own wr : List Addr} {env cenv : Env} {ρ ρ' : Ro} {A : Around} {E : Value → Shared → Prop} {s : Shared}

noncomputable def compHeap (h₂ : Heap) (sc : Scope) : Heap := pushCells ((h₂.push { cls := .type "list", data := .seq ([] : List Value).toArray }).push { cls := .type "dict", data := .dict #[] }) sc.names
noncomputable def compCells (h₂ : Heap) (sc : Scope) : List (Str × Addr) := cellsFrom (h₂.objs.size + 2) sc.names []
structure CompEnv (cenv env : Env) (sc : Scope) (h₂ : Heap) : Prop where
  scp : cenv.scope = relabel sc env
  loc : cenv.locals = h₂.objs.size + 1
  gl : cenv.globals = env.globals
  bl : cenv.builtins = env.builtins
  cells : cenv.cells = compCells h₂ sc ++ closOf env sc.names []

theorem compHeap_up (h₂ : Heap) (sc : Scope) : Up h₂ (compHeap h₂ sc) := fun b o e => pushCells_keeps _ _ b o (Heap.get?_push_of_some _ (Heap.get?_push_of_some _ e))
theorem compCells_ok (h₂ : Heap) (sc : Scope) : CellsOk (compHeap h₂ sc) (h₂.objs.size + 2) (compCells h₂ sc) := by
  have e : ((h₂.push { cls := .type "list", data := .seq ([] : List Value).toArray }).push { cls := .type "dict", data := .dict #[] }).objs.size = h₂.objs.size + 2 := by rw [Heap.size_push, Heap.size_push]
  have := cellsFrom_ok sc.names ((h₂.push { cls := .type "list", data := .seq ([] : List Value).toArray }).push { cls := .type "dict", data := .dict #[] }) (h₂.objs.size + 2) [] ⟨fun _ _ hm => (nomatch hm), List.Pairwise.nil⟩ (by rw [e]; exact Nat.le_refl _)
  rw [e] at this
  exact this
theorem compHeap_D (h₂ : Heap) (sc : Scope) : (compHeap h₂ sc).get? h₂.objs.size = some { cls := .type "list", data := .seq ([] : List Value).toArray } :=
  pushCells_keeps _ _ _ _ (Heap.get?_push_of_some _ (Heap.get?_push_size _ rfl))
theorem compHeap_C (h₂ : Heap) (sc : Scope) : (compHeap h₂ sc).Ns (h₂.objs.size + 1) fun _ => none := by
  have e := Heap.Ns.new (h₂.push { cls := .type "list", data := .seq ([] : List Value).toArray }) (.type "dict")
  rw [Heap.size_push] at e
  exact e.keeps (pushCells_keeps _ _)

theorem comp_frame {sc : Scope} {h₂ : Heap} (S : Sees W own env s.heap ρ) (hs : scopeOk sc = true) (hr : compRo ρ sc.names = some ρ') (l : Le W.P s.heap h₂) (u : Up (hideAll s.heap own) (hideAll h₂ (wr ++ own))) (ok₂ : Ok W (wr ++ own) h₂)
    (hw : ∀ b ∈ wr, s.heap.get? b = none) (X : CompEnv cenv env sc h₂) :
    CState W (wr ++ (h₂.objs.size :: (h₂.objs.size + 1) :: ((compCells h₂ sc).map (·.2) ++ own))) cenv ρ' h₂.objs.size (compHeap h₂ sc) [] ∧ (∀ b ∈ wr, ¬ RdF cenv ρ' b) ∧
      (∀ b, CX W cenv ρ' h₂.objs.size b → b ∈ (h₂.objs.size :: (h₂.objs.size + 1) :: ((compCells h₂ sc).map (·.2) ++ own))) := by
  simp only [scopeOk, Bool.and_eq_true, beq_iff_eq, decide_eq_true_eq] at hs
  obtain ⟨hk, hnd⟩ := hs
  have up := compHeap_up h₂ sc
  have ck := compCells_ok h₂ sc
  -- own cells
  have ownc : ∀ x, sc.names.lookup x = some .cell → ∃ c, cenv.cells.lookup x = some c ∧ (x, c) ∈ compCells h₂ sc := by
    intro x hx
    obtain ⟨c, hc⟩ := cellsFrom_has (n := h₂.objs.size + 2) (mem_of_lookup hx)
    exact ⟨c, by rw [X.cells, List.lookup_append]; unfold compCells; rw [hc]; rfl, mem_of_lookup hc⟩
  -- outer cells
  have outc : ∀ x, sc.names.lookup x = some .free → cenv.cells.lookup x = some ((env.cells.lookup x).getD 0) := by
    intro x hx
    have n : (compCells h₂ sc).lookup x = none := by
      cases q : (compCells h₂ sc).lookup x with
      | none => rfl
      | some c =>
        have := cellsFrom_mem (mem_of_lookup q)
        have := nodup_lookup hnd hx this
        cases this
    rw [X.cells, List.lookup_append, n, clos_lookup, if_pos (mem_of_lookup hx)]
    rfl
  have knd : ∀ x, cenv.kindOf x = (sc.names.lookup x).map fun k => if (k == .free && env.scope.kind == .function && env.kindOf x == some .cell) then .cell else k := by
    intro x
    show cenv.scope.names.lookup x = _
    rw [X.scp]; exact relabel_lookup sc env x
  have spec : ∀ {x sl}, ρ'.lookup x = some sl → ∃ k, sc.names.lookup x = some k ∧ slotRel ρ x k sl ∧ (k ≠ .free → (x == ("__debug__" : Str)) = false) := fun e => compRo_spec hr e
  -- what a cell of a name is
  have cellAt : ∀ x k b c, ρ'.lookup x = some (.var k b) → k ≠ .loc → cenv.cells.lookup x = some c →
      (k = .cel ∧ b = .unb ∧ (x, c) ∈ compCells h₂ sc) ∨ (k = .fre ∧ ∃ k', k' ≠ .loc ∧ ρ.lookup x = some (.var k' b) ∧ env.cells.lookup x = some c) := by
    intro x k b c e hkl hc
    obtain ⟨kk, h1, h2, _⟩ := spec e
    cases kk with
    | «local» => cases h2; exact absurd rfl hkl
    | cell =>
      cases h2
      obtain ⟨c', h3, h4⟩ := ownc x h1
      rw [hc] at h3; cases h3
      exact .inl ⟨rfl, rfl, h4⟩
    | free =>
      obtain ⟨k', b', h3, h4, h5⟩ := h2
      cases h5
      have hc' := outc x h1
      rw [hc] at hc'
      have hko := S.at' x _ h3
      have hlk : ∃ c, env.cells.lookup x = some c := by
        rcases h4 with rfl | ⟨rfl, _⟩
        · exact hko.1.2.1
        · exact hko.1.2
      obtain ⟨c0, hc0⟩ := hlk
      rw [hc0] at hc'
      cases hc'
      exact .inr ⟨rfl, k', by rcases h4 with rfl | ⟨rfl, _⟩ <;> decide, h3, hc0⟩
    | globalImplicit => cases h2
    | globalExplicit => cases h2
  have outLive : ∀ {x k b c}, ρ.lookup x = some (.var k b) → k ≠ .loc → env.cells.lookup x = some c → ∃ v, s.heap.IsCell c v ∧ (compHeap h₂ sc).IsCell c v := by
    intro x k b c e n q
    obtain ⟨v, z⟩ := S.cells x k b c e n q
    exact ⟨v, z, (IsCell.le z l (S.ok.cell_ne z)).keeps up⟩
  have hlt : ∀ b, (∃ o, s.heap.get? b = some o) → b < h₂.objs.size := by
    rintro b ⟨o, e⟩
    by_cases hb : b = W.P
    · obtain ⟨ps, e', _⟩ := ok₂.tab
      rw [hb]; exact Heap.lt_size e'
    · exact Heap.lt_size (l b o hb e)
  have wlt : ∀ b ∈ wr, b < h₂.objs.size := fun b hb => by
    obtain ⟨o, e⟩ := ok₂.live b (List.mem_append_left _ hb)
    exact Heap.lt_size e
  -- where WrF lies
  have wrf : ∀ b, WrF cenv ρ' b → b = h₂.objs.size + 1 ∨ b ∈ (compCells h₂ sc).map (·.2) := by
    rintro b (e | ⟨x, bd, e, q⟩)
    · exact .inl (e.trans X.loc)
    · rcases cellAt x _ bd b e (by decide) q with ⟨_, _, h⟩ | ⟨h, _⟩
      · exact .inr (List.mem_map.mpr ⟨_, h, rfl⟩)
      · cases h
  have cge : ∀ b, b ∈ (compCells h₂ sc).map (·.2) → h₂.objs.size + 2 ≤ b ∧ (compHeap h₂ sc).IsCell b none := by
    intro b hb
    obtain ⟨⟨x, c⟩, hm, rfl⟩ := List.mem_map.mp hb
    exact ⟨(ck.empty x c hm).2, (ck.empty x c hm).1⟩
  have rdf : ∀ b, RdF cenv ρ' b → (h₂.objs.size + 1 ≤ b) ∨ ∃ o, s.heap.get? b = some o := by
    rintro b (e | ⟨x, k, bd, e, n, q⟩)
    · exact .inl (by rw [e, X.loc]; exact Nat.le_refl _)
    · rcases cellAt x k bd b e n q with ⟨_, _, h⟩ | ⟨_, k', n', e', q'⟩
      · have := (ck.empty x b h).2
        exact .inl (by omega)
      · obtain ⟨v, ⟨o, z, _⟩, _⟩ := outLive e' n' q'
        exact .inr ⟨o, z⟩
  have hPlt : W.P < h₂.objs.size := by
    obtain ⟨ps, e', _⟩ := ok₂.tab
    exact Heap.lt_size e'
  have u5 : Up (hideAll h₂ (wr ++ own)) (hideAll (compHeap h₂ sc) (wr ++ (h₂.objs.size :: (h₂.objs.size + 1) :: ((compCells h₂ sc).map (·.2) ++ own)))) := by
    refine vis_more (fun b o _ e => up b o e) fun a ha => ?_
    rcases List.mem_append.mp ha with h | h
    · exact .inl (List.mem_append_left _ h)
    · rcases List.mem_cons.mp h with rfl | h
      · exact .inr (fresh_none (Nat.le_refl _))
      · rcases List.mem_cons.mp h with rfl | h
        · exact .inr (fresh_none (Nat.le_succ _))
        · rcases List.mem_append.mp h with h | h
          · exact .inr (fresh_none (Nat.le_trans (Nat.le_add_right _ 2) (cge a h).1))
          · exact .inl (List.mem_append_right _ h)
  have ok5 : Ok W (wr ++ (h₂.objs.size :: (h₂.objs.size + 1) :: ((compCells h₂ sc).map (·.2) ++ own))) (compHeap h₂ sc) := by
    refine ok₂.move u5 ?_ (fun o e => up _ o e) fun a ha => ?_
    · rcases List.mem_append.mp ok₂.hP with h | h
      · exact List.mem_append_left _ h
      · exact List.mem_append_right _ (List.mem_cons_of_mem _ (List.mem_cons_of_mem _ (List.mem_append_right _ h)))
    · have old : ∀ {a}, a ∈ wr ++ own → ∃ o, (compHeap h₂ sc).get? a = some o := fun h => let ⟨o, e⟩ := ok₂.live _ h; ⟨o, up _ o e⟩
      rcases List.mem_append.mp ha with h | h
      · exact old (List.mem_append_left _ h)
      · rcases List.mem_cons.mp h with rfl | h
        · exact ⟨_, compHeap_D h₂ sc⟩
        · rcases List.mem_cons.mp h with rfl | h
          · obtain ⟨o, es, ep, e, _⟩ := compHeap_C h₂ sc; exact ⟨o, e⟩
          · rcases List.mem_append.mp h with h | h
            · obtain ⟨o, e, _⟩ := (cge a h).2; exact ⟨o, e⟩
            · exact old (List.mem_append_right _ h)
  have hD : h₂.objs.size ∈ wr ++ (h₂.objs.size :: (h₂.objs.size + 1) :: ((compCells h₂ sc).map (·.2) ++ own)) := List.mem_append_right _ List.mem_cons_self
  have wrOwn : ∀ b, WrF cenv ρ' b → b ∈ (h₂.objs.size :: (h₂.objs.size + 1) :: ((compCells h₂ sc).map (·.2) ++ own)) := fun b hb => by
    rcases wrf b hb with rfl | h
    · exact List.mem_cons_of_mem _ List.mem_cons_self
    · exact List.mem_cons_of_mem _ (List.mem_cons_of_mem _ (List.mem_append_left _ h))
  refine ⟨⟨⟨⟨⟨by rw [X.scp, relabel_kind]; exact hk, X.gl.trans S.envOk.gl, X.bl.trans S.envOk.bl⟩, ok5, ?_, ?_, ?_⟩, ⟨_, X.loc ▸ compHeap_C h₂ sc⟩, List.mem_append_right _ (wrOwn _ (.inl rfl)), ?_, ?_⟩, hD, fun e => by rw [← e] at hPlt; exact Nat.lt_irrefl _ hPlt, ?_, [], ⟨0, compHeap_D h₂ sc⟩, .nil⟩, ?_, ?_⟩
  · intro x sl e
    obtain ⟨k, h1, h2, _⟩ := spec e
    have hkx := knd x
    rw [h1] at hkx
    cases k with
    | «local» => cases h2; exact ⟨by simpa [KindOk] using hkx, fun d hd => by cases hd⟩
    | cell =>
      cases h2
      obtain ⟨c, hc, _⟩ := ownc x h1
      exact ⟨⟨by simpa using hkx, c, hc⟩, fun d hd => by cases hd⟩
    | globalImplicit => cases h2; simpa [SeesSlot] using hkx
    | globalExplicit => cases h2
    | free =>
      obtain ⟨k', b, h3, h4, rfl⟩ := h2
      have hcl : (x == ("__classdict__" : Str)) = false := by
        rcases h4 with rfl | ⟨rfl, z⟩
        · exact (S.at' x _ h3).1.2.2
        · exact z
      refine ⟨⟨?_, ⟨_, outc x h1⟩, hcl⟩, fun d hd => ?_⟩
      · simp only [Option.map_some, beq_self_eq_true, Bool.true_and] at hkx
        by_cases hq : (env.scope.kind == ScopeKind.function && env.kindOf x == some NameKind.cell) = true
        · rw [if_pos hq] at hkx; exact .inl hkx
        · rw [if_neg hq] at hkx; exact .inr hkx
      · obtain ⟨v, bv, rv⟩ := (S.at' x _ h3).2 d hd
        refine ⟨v, ?_, (rv.up u).up u5⟩
        have bc : ∃ c, env.cells.lookup x = some c ∧ s.heap.IsCell c (some v) := by
          rcases h4 with rfl | ⟨rfl, _⟩
          · exact bv
          · exact bv
        obtain ⟨c, q, z⟩ := bc
        refine ⟨c, ?_, (IsCell.le z l (S.ok.cell_ne z)).keeps up⟩
        rw [outc x h1, q]; rfl
  · intro x sl e
    obtain ⟨k, h1, h2, h3⟩ := spec e
    cases k with
    | free => obtain ⟨k', b, h4, _⟩ := h2; exact S.nodbg x _ h4
    | _ => exact h3 (by decide)
  · intro x k b c e n q
    rcases cellAt x k b c e n q with ⟨_, _, h⟩ | ⟨_, k', n', e', q'⟩
    · exact ⟨none, (ck.empty x c h).1⟩
    · obtain ⟨v, _, z⟩ := outLive e' n' q'
      exact ⟨v, z⟩
  · intro x b c e q
    rcases cellAt x _ b c e (by decide) q with ⟨_, _, h⟩ | ⟨h, _⟩
    · exact ⟨List.mem_append_right _ (wrOwn c (.inr ⟨x, b, e, q⟩)), none, (ck.empty x c h).1⟩
    · cases h
  · intro x y sx k sy c e1 e2 n q1 q2
    rcases cellAt x _ sx c e1 (by decide) q1 with ⟨_, _, h1⟩ | ⟨h1, _⟩
    · rcases cellAt y k sy c e2 n q2 with ⟨_, _, h2⟩ | ⟨_, k', n', e', q'⟩
      · exact name_of_addr ck.apart h1 h2
      · obtain ⟨v, ⟨o, z, _⟩, _⟩ := outLive e' n' q'
        have a1 := hlt c ⟨o, z⟩
        have a2 := (ck.empty x c h1).2
        exact absurd a1 (Nat.not_lt.mpr (Nat.le_trans (Nat.le_add_right _ 2) a2))
    · cases h1
  · intro z
    rcases rdf _ z with h | h
    · omega
    · exact Nat.lt_irrefl _ (hlt _ h)
  · intro b hb z
    rcases rdf b z with h | ⟨o, h⟩
    · exact absurd (wlt b hb) (Nat.not_lt.mpr (Nat.le_trans (Nat.le_succ _) h))
    · rw [hw b hb] at h; cases h
  · rintro b (rfl | h | rfl)
    · rcases List.mem_append.mp ok₂.hP with h | h
      · have := hw _ h
        obtain ⟨ps, e', _⟩ := S.ok.tab
        rw [this] at e'; cases e'
      · exact List.mem_cons_of_mem _ (List.mem_cons_of_mem _ (List.mem_append_right _ h))
    · exact wrOwn b h
    · exact List.mem_cons_self
end
end Mine

namespace Mine

section
variable {W : Wd} {K : Nat} {I : Ev} {own wr : List Addr} {env cenv : Env} {ρ ρ' : Ro} {A : Around} {E : Value → Shared → Prop} {s : Shared} {D : Addr}

theorem Frm.rdLive {h : Heap} (F : Frm W own env h ρ) {b : Addr} (x : RdF env ρ b) : b ≠ W.P ∧ ∃ o, h.get? b = some o := by
  rcases x with rfl | ⟨x, k, bd, e, n, q⟩
  · obtain ⟨m, z⟩ := F.ns
    exact ⟨F.sees.ok.ns_ne z, let ⟨o, _, _, e, _⟩ := z; ⟨o, e⟩⟩
  · obtain ⟨v, z⟩ := F.sees.cells x k bd b e n q
    exact ⟨F.sees.ok.cell_ne z, let ⟨o, e, _⟩ := z; ⟨o, e⟩⟩

theorem clauses_ok (B : BltOk W) (H : IOk W K I) (hset : ∀ ρ es k p, I.e ρ (.Set es k p) = none) {elt : Expr} {gens : List Comprehension} {sc : Scope} {pos : Pos} : ∀ (r : List Comprehension) (j : Nat) (t i : Expr) (ifs : List Expr), gens[j]? = some ⟨t, i, ifs, 0⟩ →
    gens.drop (j + 1) = r → (r.all fun g => g.is_async == 0) = true → ∀ Ia, ∃ body, compTurn (.ListComp elt gens sc pos) j (.ref Ia) (.ref D) cenv = turnOf i t ifs (.ref Ia) cenv body (.compLoop (.ListComp elt gens sc pos) j (.ref Ia) (.ref D) cenv) ∧
      InnerOk W K A cenv D Xt.no body (.compLoop (.ListComp elt gens sc pos) j (.ref Ia) (.ref D) cenv) (clauses I elt r)
  | [], j, t, i, ifs, h1, h2, _, Ia => by
    have h3 : gens[j + 1]? = none := by
      have : (gens.drop (j + 1))[0]? = none := by rw [h2]; rfl
      rw [List.getElem?_drop] at this; simpa using this
    refine ⟨_, compTurn_last h1 h3, ?_⟩
    have e : clauses I elt [] = fun ρ => (I.e ρ elt).map fun d => [d] := by funext ρ; rw [clauses]
    rw [e]
    exact emit_ok H
  | ⟨t', i', ifs', a'⟩ :: r, j, t, i, ifs, h1, h2, ha, Ia => by
    rw [List.all_cons, Bool.and_eq_true] at ha
    have ha0 : a' = 0 := by simpa using ha.1
    subst ha0
    have h3 : gens[j + 1]? = some ⟨t', i', ifs', 0⟩ := by
      have : (gens.drop (j + 1))[0]? = some ⟨t', i', ifs', 0⟩ := by rw [h2]; rfl
      rw [List.getElem?_drop] at this; simpa using this
    have h4 : gens.drop (j + 1 + 1) = r := by
      have : (gens.drop (j + 1)).drop 1 = r := by rw [h2]; rfl
      rw [List.drop_drop] at this; exact this
    have ih := clauses_ok (elt := elt) (sc := sc) (pos := pos) (gens := gens) B H hset r (j + 1) t' i' ifs' h3 h4 ha.2
    refine ⟨_, compTurn_more h1 h3, ?_⟩
    intro own ρ out s ds0 Q E hi k C hl _ _ hQ
    rw [clauses] at hi
    split at hi
    · cases hi
    · rename_i hc
      obtain ⟨ds, hds, hgo⟩ := Option.bind_eq_some_iff.mp hi
      have hu : unbT ρ t' = true := by
        cases q : unbT ρ t' with
        | true => rfl
        | false => exact absurd (.inr q) hc
      have it := iter_sound (A := A) (E := E) B H hset hds k C.frm.sees
      unfold nextSem
      refine wpAny_bind (wpAny_mono it.1 (fun x s₁ h₁ => wpAny_bind (wpAny_standAt (wpAny_bind (wpAny_of_eq (it.2 x) (wpAny_bind (wpAny_holding (wpAny_mono h₁ (fun it' s₂ h₂ => ?_) fun _ _ e => e))))))) fun _ _ e => e)
      obtain ⟨Ib, fp, wr, St, g, h₂, tk, rfl, rfl, T, st, l, u, ug, ok₂, hfp, hw⟩ := h₂
      obtain ⟨body', ht', hin'⟩ := ih Ib
      have C₂ : CState W (wr ++ own) cenv ρ D h₂ ds0 := C.move u (fun b hb o e => l b o (C.frm.rdLive hb).1 e) (fun o e => l D o C.dp e) ok₂ (fun b hb => List.mem_append_right _ (C.frm.wrOwn hb)) (List.mem_append_right _ C.dn)
      refine wpAny_bind (wpAny_runOwn (h := none) ?_)
      rw [Around.mark_none]
      have loop : codeAny W.M A (.compLoop (.ListComp elt gens sc pos) (j + 1) (.ref Ib) (.ref D) cenv) (fun r s' => match r with | .ok f => wpAny W.M A ((fun _ => again (.compLoop (.ListComp elt gens sc pos) j (.ref Ia) (.ref D) cenv)) f) Q E s' | .error e => cameBackBy W.M A cenv E e s') { s with heap := h₂, toks := tk } := by
        refine loop_ok Xt.no H (own := own) (wr := wr) (s := { s with heap := h₂, toks := tk }) h3 ht' hin' T st hgo hu k C₂ (fun b hb => CX.mem C hb) (fun b hb => (hfp b hb).1) (fun b hb z => ?_) ug hl (fun b hb => nomatch (show False from hb)) trivial fun h' tk' C' ch _ => ?_
        · obtain ⟨_, o, e⟩ := C.frm.rdLive z
          rw [hw b hb] at e; cases e
        · refine wpAny_pure (hQ h' tk' C' (fun b o n e => ?_) trivial)
          refine ch b o (fun z => ?_) (l b o (fun z => n (.inl (.inl z))) e)
          rcases z with z | z
          · exact n z
          · rw [hw b z] at e; cases e
      exact compStart_at h3 loop (T.self 0 _ _ _ st loop)

theorem compRo_free {ρ : Ro} : ∀ {l : List (Str × NameKind)} {ρ' : Ro} {x : Str}, compRo ρ l = some ρ' → (x, NameKind.free) ∈ l → ∃ k b, ρ.lookup x = some (.var k b) ∧ (k = .fre ∨ k = .cel)
  | [], _, _, _, h => nomatch h
  | (y, k) :: r, ρ', x, h, hm => by
    rw [compRo] at h
    obtain ⟨q, hq, h⟩ := Option.bind_eq_some_iff.mp h
    rcases List.mem_cons.mp hm with e | hm
    · have e1 : x = y := (Prod.mk.inj e).1
      have e2 : NameKind.free = k := (Prod.mk.inj e).2
      subst e1 e2
      dsimp only at h
      split at h
      · cases h
      · split at h
        · rename_i b hb; exact ⟨_, b, hb, .inr rfl⟩
        · rename_i b hb; exact ⟨_, b, hb, .inl rfl⟩
        · cases h
    · exact compRo_free hq hm

theorem comp_coreX (X : Xt) (B : BltOk W) (H : IOk W K I) (hset : ∀ ρ es k p, I.e ρ (.Set es k p) = none) {elt t it : Expr} {ifs : List Expr} {r : List Comprehension} {sc : Scope} {pos : Pos} {ds out : List Dt} {inner : Ro → Option (List Dt)}
    (hcl : ∀ (cenv : Env) (D Ia : Addr), ∃ body, compTurn (.ListComp elt (⟨t, it, ifs, 0⟩ :: r) sc pos) 0 (.ref Ia) (.ref D) cenv = turnOf it t ifs (.ref Ia) cenv body (.compLoop (.ListComp elt (⟨t, it, ifs, 0⟩ :: r) sc pos) 0 (.ref Ia) (.ref D) cenv) ∧
      InnerOk W K A cenv D X body (.compLoop (.ListComp elt (⟨t, it, ifs, 0⟩ :: r) sc pos) 0 (.ref Ia) (.ref D) cenv) inner)
    (hsc : scopeOk sc = true) (hds : iterE I ρ t it = some ds) (hro : compRo ρ sc.names = some ρ') (hu : unbT ρ' t = true) (hgo : clauses.go I inner t ifs ρ' ds = some out) (hlen : out.length ≤ 4096) (k : AOk W (K + 4) A) (S : Sees W own env s.heap ρ)
    (hX : ∀ b, X.X b → b ∈ own ∧ b ≠ W.P ∧ ∃ o, s.heap.get? b = some o ∧ ∀ v, o.data ≠ .cell v) (hJ : X.J s.heap) {RR : Value → Addr → Result → Shared → Prop}
    (hR : ∀ C D h' tk, s.heap.get? C = none → s.heap.get? D = none → C ≠ D → (∃ m, h'.Ns C m) → Chg (fun b => b = W.P ∨ X.X b) s.heap h' → X.J h' → Ok W (C :: own) h' → Rep W (hideAll h' (C :: own)) (.ref D) (.list out) → RR (.ref D) C (.ok .next) { s with heap := h', toks := tk }) :
    (wpAny W.M A (eval it env) (fun x s₁ => wpAny W.M A (pyIter x) (fun it' s₂ => wpAny W.M A (newList []) (fun acc s₃ => wpAny W.M A (newFunctionEnv sc env.globals (closOf env sc.names []) [] env.qual none .none (some env)) (fun cenv s₄ =>
      codeAny W.M A (.compStart (.ListComp elt (⟨t, it, ifs, 0⟩ :: r) sc pos) 0 it' acc { cenv with scope := relabel sc env }) (RR acc cenv.locals) s₄) E s₃) E s₂) E s₁) E s) ∧
    (∀ x, foldedSetIterable it env x = pure x) ∧ closureFor sc env = pure (closOf env sc.names []) ∧ sc.kind = .function ∧ ∀ x ∈ sc.names, x.2 = .local → sc.names.lookup x.1 = some .local := by
        have hsk := hsc
        have hit := iter_sound (A := A) (E := E) B H hset hds k S
        simp only [scopeOk, Bool.and_eq_true, beq_iff_eq, decide_eq_true_eq] at hsk
        refine ⟨?_, hit.2, closure_eq fun x hx hf => ?_, hsk.1, fun x hx hl => ?_⟩
        · refine wpAny_mono hit.1 (fun x s₁ h₁ => wpAny_mono h₁ (fun it' s₂ h₂ => ?_) fun _ _ e => e) fun _ _ e => e
          obtain ⟨Ib, fp, wr, St, g, h₂, tk, rfl, rfl, T, st, l, u, ug, ok₂, hfp, hw⟩ := h₂
          refine wpAny_newObj_type (newEnv_comp ?_)
          have hsz : (h₂.push { cls := .type "list", data := .seq ([] : List Value).toArray }).objs.size = h₂.objs.size + 1 := Heap.size_push _ _
          dsimp only
          rw [hsz]
          generalize hce : ({ scope := relabel sc env, locals := h₂.objs.size + 1, globals := env.globals, cells := cellsFrom (h₂.objs.size + 1 + 1) sc.names [] ++ closOf env sc.names [], qual := env.qual, func := none, code := env.code, frame := env.frame, builtins := env.builtins } : Env) = cenv
          have XE : CompEnv cenv env sc h₂ := by subst hce; exact ⟨rfl, rfl, rfl, rfl, rfl⟩
          obtain ⟨C, hrd, hcx⟩ := comp_frame S hsc hro l u ok₂ hw XE
          obtain ⟨body, ht, hin⟩ := hcl cenv h₂.objs.size Ib
          have hkeepX : ∀ b, X.X b → ∀ o, s.heap.get? b = some o → (compHeap h₂ sc).get? b = some o := fun b hb o e => compHeap_up h₂ sc b o (l b o (hX b hb).2.1 e)
          have hlt : ∀ b, X.X b → b < h₂.objs.size := fun b hb => let ⟨_, n, o, e, _⟩ := hX b hb; Heap.lt_size (l b o n e)
          have up := compHeap_up h₂ sc
          have st5 : St 0 (compHeap h₂ sc) := T.frame _ _ _ st fun b _ o e => up b o e
          have loop : codeAny W.M A (.compLoop (.ListComp elt (⟨t, it, ifs, 0⟩ :: r) sc pos) 0 (.ref Ib) (.ref h₂.objs.size) cenv) (RR (.ref h₂.objs.size) (h₂.objs.size + 1)) { s with heap := compHeap h₂ sc, toks := tk } := by
            refine loop_ok X H (s := { s with heap := compHeap h₂ sc, toks := tk }) rfl ht hin T st5 hgo hu k C hcx (fun b hb m => ?_) hrd (ug.trans ?_) (by simpa using hlen) (fun b hb => ?_) (X.st _ _ hkeepX hJ) fun h' tk' C' ch j' => ?_
            · obtain ⟨n1, n2⟩ := hfp b hb
              rcases List.mem_cons.mp m with rfl | m
              · exact Nat.lt_irrefl _ n2
              · rcases List.mem_cons.mp m with rfl | m
                · exact absurd n2 (Nat.not_lt.mpr (Nat.le_succ _))
                · rcases List.mem_append.mp m with m | m
                  · obtain ⟨⟨x, c⟩, hm, rfl⟩ := List.mem_map.mp m
                    exact absurd n2 (Nat.not_lt.mpr (Nat.le_trans (Nat.le_add_right _ 2) ((compCells_ok h₂ sc).empty x c hm).2))
                  · exact n1 m
            · refine vis_more (fun b o _ e => up b o e) fun a ha => ?_
              rcases List.mem_append.mp ha with m | m
              · exact .inl (List.mem_append_left _ m)
              · rcases List.mem_cons.mp m with rfl | m
                · exact .inr (fresh_none (Nat.le_refl _))
                · rcases List.mem_cons.mp m with rfl | m
                  · exact .inr (fresh_none (Nat.le_succ _))
                  · rcases List.mem_append.mp m with m | m
                    · obtain ⟨⟨x, c⟩, hm, rfl⟩ := List.mem_map.mp m
                      exact .inr (fresh_none (Nat.le_trans (Nat.le_add_right _ 2) ((compCells_ok h₂ sc).empty x c hm).2))
                    · exact .inl (List.mem_append_right _ m)
            · obtain ⟨x1, x2, o, e, nc⟩ := hX b hb
              refine ⟨List.mem_cons_of_mem _ (List.mem_cons_of_mem _ (List.mem_append_right _ x1)), fun z => ?_, Nat.ne_of_lt (hlt b hb), x2⟩
              rcases z with z | ⟨x, kk, bd, e1, n1, q⟩
              · have h3 := hlt b hb
                rw [z, XE.loc] at h3
                exact absurd h3 (Nat.not_lt.mpr (Nat.le_succ _))
              · obtain ⟨v, ob, e2, hd⟩ := C.frm.sees.cells x kk bd b e1 n1 q
                rw [hkeepX b hb o e] at e2
                cases e2
                exact nc _ hd
            · have newS : ∀ a, h₂.objs.size ≤ a → s.heap.get? a = none := fun a ha => by
                refine l.none (fun z => ?_) (fresh_none ha)
                obtain ⟨ps, e, _⟩ := ok₂.tab
                have := Heap.lt_size e
                rw [z] at ha
                exact absurd this (Nat.not_lt.mpr ha)
              have hCown : (h₂.objs.size + 1) ∉ own := S.ok.new (newS _ (Nat.le_succ _))
              have hDown : h₂.objs.size ∉ own := S.ok.new (newS _ (Nat.le_refl _))
              have hsub : ∀ a ∈ ((h₂.objs.size + 1) :: own), a ∈ (h₂.objs.size :: (h₂.objs.size + 1) :: ((compCells h₂ sc).map (·.2) ++ own)) := fun a ha => by
                rcases List.mem_cons.mp ha with rfl | ha
                · exact List.mem_cons_of_mem _ List.mem_cons_self
                · exact List.mem_cons_of_mem _ (List.mem_cons_of_mem _ (List.mem_append_right _ ha))
              obtain ⟨vs, ⟨n, hp⟩, hr⟩ := C'.dat
              have hne : h₂.objs.size ≠ h₂.objs.size + 1 := Nat.ne_of_lt (Nat.lt_succ_self _)
              refine hR (h₂.objs.size + 1) h₂.objs.size h' tk' (newS _ (Nat.le_succ _)) (newS _ (Nat.le_refl _)) (Ne.symm hne) (XE.loc ▸ C'.frm.ns) (fun b o nb e => ?_) j' (C'.frm.sees.ok.sub hsub (List.mem_cons_of_mem _ S.ok.hP)) ?_
              · refine ch b o (fun z => ?_) (up b o (l b o (fun z => nb (.inl z)) e))
                rcases z with ((z | z | z) | z) | z
                · exact nb (.inl z)
                · rcases z with z | ⟨x, bd, e1, q⟩
                  · rw [z, XE.loc, newS _ (Nat.le_succ _)] at e; cases e
                  · have z' : b ∈ (h₂.objs.size :: (h₂.objs.size + 1) :: ((compCells h₂ sc).map (·.2) ++ own)) := hcx b (.inr (.inl (.inr ⟨x, bd, e1, q⟩)))
                    obtain ⟨kk, w1, w2, w3⟩ := compRo_spec hro e1
                    have hcl : ∃ c, (x, c) ∈ compCells h₂ sc ∧ cenv.cells.lookup x = some c := by
                      cases kk with
                      | cell =>
                        obtain ⟨c, hc⟩ := cellsFrom_has (n := h₂.objs.size + 2) (mem_of_lookup w1)
                        exact ⟨c, mem_of_lookup hc, by rw [XE.cells, List.lookup_append]; unfold compCells; rw [hc]; rfl⟩
                      | «local» => cases w2
                      | free => obtain ⟨_, _, _, _, w⟩ := w2; cases w
                      | globalImplicit => cases w2
                      | globalExplicit => cases w2
                    obtain ⟨c, hm, hq⟩ := hcl
                    rw [hq] at q; cases q
                    rw [newS _ (Nat.le_trans (Nat.le_add_right _ 2) ((compCells_ok h₂ sc).empty x b hm).2)] at e; cases e
                · rw [z, newS _ (Nat.le_refl _)] at e; cases e
                · exact nb (.inr z)
                · rw [hw b z] at e; cases e
              · refine .list (vs := vs) (n := n) (vis_iff.mpr ⟨hp, fun m => ?_⟩) (hr.up (vis_sub hsub))
                rcases List.mem_cons.mp m with e | m
                · exact hne e
                · exact hDown m
          exact compStart_at rfl loop (T.self 0 _ _ _ st5 loop)
        · obtain ⟨kk, b, e, hk⟩ := compRo_free hro (x := x.1) (by obtain ⟨a, b⟩ := x; cases hf; exact hx)
          have := (S.at' x.1 _ e).1
          rcases hk with rfl | rfl
          · exact this.2.1
          · exact this.2
        · cases q : sc.names.lookup x.1 with
          | none =>
            have : ∀ (l : List (Str × NameKind)), x ∈ l → l.lookup x.1 ≠ none := by
              intro l
              induction l with
              | nil => intro h; nomatch h
              | cons p r ih =>
                intro h
                rw [List.lookup_cons]
                cases q : x.1 == p.1 with
                | true => exact fun h => nomatch h
                | false =>
                  rcases List.mem_cons.mp h with e | h
                  · subst e; simp at q
                  · exact ih h
            exact absurd q (this _ hx)
          | some kk =>
            have := nodup_lookup hsk.2 q hx
            rw [← this, hl]

theorem comp_core (B : BltOk W) (H : IOk W K I) (hset : ∀ ρ es k p, I.e ρ (.Set es k p) = none) {elt t it : Expr} {ifs : List Expr} {r : List Comprehension} {sc : Scope} {pos : Pos} {out : List Dt}
    (hc : compE I ρ elt (⟨t, it, ifs, 0⟩ :: r) sc = some out) (k : AOk W (K + 4) A) (S : Sees W own env s.heap ρ) {RR : Value → Addr → Result → Shared → Prop}
    (hR : ∀ C D h' tk, s.heap.get? C = none → s.heap.get? D = none → C ≠ D → (∃ m, h'.Ns C m) → Le W.P s.heap h' → Ok W (C :: own) h' → Rep W (hideAll h' (C :: own)) (.ref D) (.list out) → RR (.ref D) C (.ok .next) { s with heap := h', toks := tk }) :
    (wpAny W.M A (eval it env) (fun x s₁ => wpAny W.M A (pyIter x) (fun it' s₂ => wpAny W.M A (newList []) (fun acc s₃ => wpAny W.M A (newFunctionEnv sc env.globals (closOf env sc.names []) [] env.qual none .none (some env)) (fun cenv s₄ =>
      codeAny W.M A (.compStart (.ListComp elt (⟨t, it, ifs, 0⟩ :: r) sc pos) 0 it' acc { cenv with scope := relabel sc env }) (RR acc cenv.locals) s₄) E s₃) E s₂) E s₁) E s) ∧
    (∀ x, foldedSetIterable it env x = pure x) ∧ closureFor sc env = pure (closOf env sc.names []) ∧ sc.kind = .function ∧ ∀ x ∈ sc.names, x.2 = .local → sc.names.lookup x.1 = some .local := by
  unfold compE at hc
  dsimp only at hc
  have hcond : ¬ ((0 : Int) ≠ 0 ∨ scopeOk sc = false ∨ (r.all fun g => g.is_async == 0) = false) := fun q => by rw [if_pos q] at hc; cases hc
  rw [if_neg hcond] at hc
  · skip
    have hsc : scopeOk sc = true := by
      cases q : scopeOk sc with
      | true => rfl
      | false => exact absurd (.inr (.inl q)) hcond
    have hall : (r.all fun g => g.is_async == 0) = true := by
      cases q : (r.all fun g => g.is_async == 0) with
      | true => rfl
      | false => exact absurd (.inr (.inr q)) hcond
    obtain ⟨ds, hds, hc⟩ := Option.bind_eq_some_iff.mp hc
    obtain ⟨ρ', hro, hc⟩ := Option.bind_eq_some_iff.mp hc
    split at hc
    · cases hc
    · rename_i hub
      have hu : unbT ρ' t = true := by
        cases q : unbT ρ' t with
        | true => rfl
        | false => exact absurd q hub
      obtain ⟨out', hgo, hc⟩ := Option.bind_eq_some_iff.mp hc
      split at hc
      · rename_i hlen
        cases hc
        obtain ⟨h1, h2⟩ := comp_coreX (E := E) (pos := pos) (elt := elt) (r := r) Xt.no B H hset (fun cenv D Ib => clauses_ok (A := A) (cenv := cenv) (D := D) (pos := pos) (elt := elt) (gens := ⟨t, it, ifs, 0⟩ :: r) (sc := sc) B H hset r 0 t it ifs rfl rfl hall Ib) hsc hds hro hu hgo hlen k S (fun b hb => nomatch (show False from hb)) trivial
          (RR := RR) fun C D h' tk a1 a2 a3 a4 ch _ a5 a6 => hR C D h' tk a1 a2 a3 a4 (fun b o n e => ch b o (fun z => z.elim n id) e) a5 a6
        exact ⟨h1, h2⟩
      · cases hc

theorem listcomp_sound (B : BltOk W) (H : IOk W K I) (hset : ∀ ρ es k p, I.e ρ (.Set es k p) = none) {elt : Expr} {gens : List Comprehension} {sc : Scope} {pos : Pos} {out : List Dt} {Q : Value → Shared → Prop}
    (hc : compE I ρ elt gens sc = some out) (k : AOk W (K + 4) A) (S : Sees W own env s.heap ρ) (p : Post W own s Q (.list out)) : wpAny W.M A (eval (.ListComp elt gens sc pos) env) Q E s := by
  cases gens with
  | nil => cases hc
  | cons g r =>
    obtain ⟨t, it, ifs, a⟩ := g
    have ha : a = 0 := by
      by_cases h : a = 0
      · exact h
      · unfold compE at hc; dsimp only at hc; rw [if_pos (.inl h)] at hc; cases hc
    subst ha
    obtain ⟨h1, h2, h3, h4, h5⟩ := comp_core (E := E) (pos := pos) (RR := fun acc C => compPost W.M A E none Q acc C) B H hset hc k S fun C D h' tk hC hD hne hns l o rp => by
      obtain ⟨m, hm⟩ := hns
      refine ⟨m, hm, fun h'' hs => ?_⟩
      have hCo : C ∉ own := S.ok.new hC
      have hCP : C ≠ W.P := fun z => hCo (z ▸ S.ok.hP)
      have u : Up (hideAll h' (C :: own)) (hideAll h'' own) := fun b o e => by
        obtain ⟨q, n⟩ := vis_iff.mp e
        exact vis_iff.mpr ⟨(hs.2 b fun z => n (z ▸ List.mem_cons_self)).trans q, fun z => n (List.mem_cons_of_mem _ z)⟩
      have ok' : Ok W own h'' := o.move u S.ok.hP (fun ob e => (hs.2 _ (Ne.symm hCP)).trans e) fun a ha => by
        obtain ⟨ob, e⟩ := o.live a (List.mem_cons_of_mem _ ha)
        exact ⟨ob, (hs.2 a fun z => hCo (z ▸ ha)).trans e⟩
      refine p h'' tk _ (fun b ob nb e => (hs.2 b fun z => ?_).trans (l b ob nb e)) ok' (rp.up u)
      rw [z, hC] at e; cases e
    rw [eval_ListComp]
    exact wpAny_comprehension_free (use := none) rfl h2 h3 h4 h5 h1
end
end Mine

namespace Mine
section
variable {W : Wd} {K : Nat} {I : Ev} {O : Own} {own : List Addr} {env : Env} {ρ : Ro} {A : Around} {E : Value → Shared → Prop} {s : Shared}

theorem ifn {α : Type} {c : Prop} [Decidable c] {x : Option α} {d : α} (z : (if c then none else x) = some d) : ¬ c ∧ x = some d := by
  by_cases hc : c
  · rw [if_pos hc] at z; cases z
  · rw [if_neg hc] at z; exact ⟨hc, z⟩
theorem ifp {α : Type} {c : Prop} [Decidable c] {x : Option α} {d : α} (z : (if c then x else none) = some d) : c ∧ x = some d := by
  by_cases hc : c
  · rw [if_pos hc] at z; exact ⟨hc, z⟩
  · rw [if_neg hc] at z; cases z
theorem bt : ∀ b : Bool, ¬ b = false → b = true := by decide
theorem bf : ∀ b : Bool, ¬ b = true → b = false := by decide
theorem subE_sound (H : IOk W K I) {v i : Expr} {pos : Pos} {d : Dt} {Q : Value → Shared → Prop} (h : stepE O I ρ (.Subscript v i pos) = some d) (k : AOk W (K + 4) A) (S : Sees W own env s.heap ρ) (p : Post W own s Q d) : wpAny W.M A (eval (.Subscript v i pos) env) Q E s := by
  by_cases hn : notSlice i = true
  · replace h : ((I.e ρ v).bind fun a => (I.e ρ i).bind fun j => subD a j) = some d := by
      cases i with
      | Slice => cases hn
      | _ => exact h
    obtain ⟨a, ha, h⟩ := Option.bind_eq_some_iff.mp h
    obtain ⟨j, hj, h⟩ := Option.bind_eq_some_iff.mp h
    exact subscript_sound H hn ha hj h k S p
  · have : ∃ lo hi st q, i = .Slice lo hi st q := by
      cases i with
      | Slice lo hi st q => exact ⟨lo, hi, st, q, rfl⟩
      | _ => exact absurd rfl hn
    obtain ⟨lo, hi, st, q, rfl⟩ := this
    obtain ⟨a, ha, h⟩ := Option.bind_eq_some_iff.mp h
    obtain ⟨l, hl, h⟩ := Option.bind_eq_some_iff.mp h
    obtain ⟨hi, hhi, h⟩ := Option.bind_eq_some_iff.mp h
    obtain ⟨st, hst, h⟩ := Option.bind_eq_some_iff.mp h
    cases a with
    | list ds =>
      obtain ⟨hc, h⟩ := ifn (show (if st = some 0 ∨ ds.length > 4096 then none else some (Dt.list (pickD ds l hi st))) = some d from h)
      cases h
      exact slice_sound H ha hl hhi hst (fun z => hc (.inl z)) (Nat.le_of_not_lt fun z => hc (.inr z)) k S p
    | _ => exact noneE h
theorem callE_sound (B : BltOk W) (C : OwnOk W K O) (H : IOk W K I) {f : Expr} {args : List Expr} {ks : List Keyword} {pos : Pos} {d : Dt} {Q : Value → Shared → Prop} (h : stepE O I ρ (.Call f args ks pos) = some d) (k : AOk W (K + 4) A) (S : Sees W own env s.heap ρ) (p : Post W own s Q d) : wpAny W.M A (eval (.Call f args ks pos) env) Q E s := by
  cases ks with
  | cons => exact noneE h
  | nil =>
    obtain ⟨hk, h⟩ := ifn (show (if List.isEmpty ([] : List Keyword) = false ∨ args.length > 8 then none else (match f with
      | .Name f _ => if isGlob ρ f = false then none else (evs (I.e ρ) args).bind fun ds => if biNames.contains f = true then (if O.sets = true then callD f ds else none) else O.fn f ds
      | .Attribute o m apos => if (apos.endLine == pos.line) = false ∨ baseOk o = false then none else (I.e ρ o).bind fun d => (evs (I.e ρ) args).bind fun ds => (match d with
        | .opq n es => O.meth n es m ds
        | _ => none)
      | _ => none)) = some d from h)
    cases f with
    | Name f fp =>
      obtain ⟨hg, h⟩ := ifn (show (if isGlob ρ f = false then none else (evs (I.e ρ) args).bind fun ds => if biNames.contains f = true then (if O.sets = true then callD f ds else none) else O.fn f ds) = some d from h)
      obtain ⟨ds, hds, h⟩ := Option.bind_eq_some_iff.mp h
      exact callName_sound B C H (bt _ hg) hds h k S p
    | Attribute o m apos =>
      obtain ⟨hc, h⟩ := ifn (show (if (apos.endLine == pos.line) = false ∨ baseOk o = false then none else (I.e ρ o).bind fun d => (evs (I.e ρ) args).bind fun ds => (match d with
        | .opq n es => O.meth n es m ds
        | _ => none)) = some d from h)
      obtain ⟨ob, hob, h⟩ := Option.bind_eq_some_iff.mp h
      obtain ⟨ds, hds, h⟩ := Option.bind_eq_some_iff.mp h
      refine callMeth_sound C H (bt _ fun z => hc (.inr z)) (bt _ fun z => hc (.inl z)) (Nat.le_of_not_lt fun z => hk (.inr z)) hob hds ?_ k S p
      cases ob <;> exact h
    | _ => exact noneE h
theorem stepE_sound (B : BltOk W) (C : OwnOk W K O) (H : IOk W K I) (hset : ∀ ρ es k p, I.e ρ (.Set es k p) = none) : SE W K (stepE O I) := by
  intro ρ e d own env A E s Q h k S p
  cases e with
  | Constant c ck cp =>
    cases c with
    | int => cases h; exact wpAny_Constant_int (p.here S.ok (.int _ _))
    | str => cases h; exact wpAny_Constant_str (p.here S.ok (.str _ _))
    | bool => cases h; exact wpAny_Constant_bool (p.here S.ok (tk := s.toks) (.bool _))
    | none => cases h; exact wpAny_Constant_none (p.here S.ok (tk := s.toks) .none)
    | _ => exact noneE h
  | Name x pos =>
    replace h : look ρ x = some d := h
    unfold look at h
    split at h
    · rename_i sk b hl
      exact name_val S hl h fun v r => p.here S.ok (tk := s.toks) r
    · rename_i hl
      split at h
      · rename_i hx
        subst hx
        cases h
        exact name_blt S hl (by decide) (bval_ok _ (by decide)) (p.here S.ok (tk := s.toks) (.opq ((B.int3 _ _).mpr rfl)))
      · cases h
    · cases h
  | BinOp l op r bp =>
    obtain ⟨a, ha, h⟩ := Option.bind_eq_some_iff.mp h
    obtain ⟨b, hb, h⟩ := Option.bind_eq_some_iff.mp h
    exact binop_sound H ha hb h k S p
  | Compare l ops rs cp =>
    cases ops with
    | nil => exact noneE h
    | cons op ops => cases ops with
      | cons => exact noneE h
      | nil => cases rs with
        | nil => exact noneE h
        | cons r rs => cases rs with
          | cons => exact noneE h
          | nil =>
            obtain ⟨hm, h⟩ := ifn (show (if behindInMarks op r = true then none else (I.e ρ l).bind fun a => (I.e ρ r).bind fun b => (cmpD op a b).map Dt.bool) = some d from h)
            obtain ⟨a, ha, h⟩ := Option.bind_eq_some_iff.mp h
            obtain ⟨b, hb, h⟩ := Option.bind_eq_some_iff.mp h
            obtain ⟨c, hc, rfl⟩ := Option.map_eq_some_iff.mp h
            exact cmp1_sound H (bf _ hm) ha hb hc k S p
  | List es lp =>
    obtain ⟨ds, hds, h⟩ := Option.bind_eq_some_iff.mp h
    obtain ⟨hl, h⟩ := ifp h
    cases h; exact list_sound H hds hl k S p
  | Tuple es tk tp =>
    obtain ⟨ds, hds, h⟩ := Option.bind_eq_some_iff.mp h
    obtain ⟨hl, h⟩ := ifp h
    cases h; exact tuple_sound H hds hl k S p
  | Subscript v i pos => exact subE_sound H h k S p
  | ListComp elt gens sc lp =>
    obtain ⟨ds, hds, rfl⟩ := Option.map_eq_some_iff.mp h
    exact listcomp_sound B H hset hds k S p
  | UnaryOp op x up =>
    cases op with
    | USub =>
      replace h : (match I.e ρ x with
        | some (.int i) => some (Dt.int (-i))
        | _ => none) = some d := h
      split at h
      · rename_i i hi
        cases h
        refine UnaryOp_ (H.e ρ _ _ own env A E s _ hi k S fun h1 t1 v l1 o1 r1 => ?_)
        obtain ⟨t, rfl⟩ := rep_int r1
        exact PyProof.Rows.neg_int (p h1 _ _ l1 o1 (.int _ _))
      · cases h
    | _ => exact noneE h
  | Attribute o a ap =>
    obtain ⟨hb, h⟩ := ifn (show (if baseOk o = false then none else (match I.e ρ o with
      | some (.opq n ds) => O.attr n ds a
      | _ => none)) = some d from h)
    split at h
    · rename_i n es ho
      exact attr_sound C H (bt _ hb) ho h k S p
    · cases h
  | Call f args ks pos => exact callE_sound B C H h k S p
  | _ => exact noneE h

theorem stepT_sound (H : IOk W K I) : ST W K (stepT O I) := by
  intro ρ e b own env A E s Q h k S p
  cases e with
  | UnaryOp op x up =>
    cases op with
    | Not =>
      obtain ⟨c, hc, rfl⟩ := Option.map_eq_some_iff.mp h
      exact wpAny_isTrue_Not (H.t ρ _ c own env A E s _ hc k S p)
    | _ => exact noneE h
  | BoolOp op vs bp => exact wpAny_isTrue_BoolOp (boolAll_sound H h k S p)
  | Compare l ops rs cp =>
    cases ops with
    | nil => exact noneE h
    | cons op ops => cases ops with
      | cons => exact noneE h
      | nil => cases rs with
        | nil => exact noneE h
        | cons r rs => cases rs with
          | cons => exact noneE h
          | nil =>
            obtain ⟨hm, h⟩ := ifn (show (if behindInMarks op r = true then none else (I.e ρ l).bind fun a => (I.e ρ r).bind fun b => cmpD op a b) = some b from h)
            obtain ⟨x, hx, h⟩ := Option.bind_eq_some_iff.mp h
            obtain ⟨y, hy, h⟩ := Option.bind_eq_some_iff.mp h
            exact cmp1T_sound H (bf _ hm) hx hy h k S p
  | Name x xp =>
    obtain ⟨d, hd, h⟩ := Option.bind_eq_some_iff.mp h
    exact wpAny_isTrue_value (H.e ρ _ d own env A E s _ hd k S fun h1 t1 v l1 o1 r1 => truth_sound (s := { s with heap := h1, toks := t1 }) h r1 fun tk => p h1 tk l1 o1)
  | Call f a ks cp =>
    obtain ⟨d, hd, h⟩ := Option.bind_eq_some_iff.mp h
    exact wpAny_isTrue_value (H.e ρ _ d own env A E s _ hd k S fun h1 t1 v l1 o1 r1 => truth_sound (s := { s with heap := h1, toks := t1 }) h r1 fun tk => p h1 tk l1 o1)
  | _ => exact noneE h

theorem ev_sound (B : BltOk W) (C : OwnOk W K O) : ∀ n, IOk W K (ev O n) ∧ ∀ ρ es k p, (ev O n).e ρ (.Set es k p) = none
  | 0 => by
    refine ⟨⟨?_, ?_, fun _ _ _ => rfl⟩, fun _ _ _ _ => rfl⟩
    · intro ρ e d own env A E s Q h; cases h
    · intro ρ e d own env A E s Q h; cases h
  | n + 1 => by
    obtain ⟨H, hset⟩ := ev_sound B C n
    exact ⟨⟨stepE_sound B C H hset, stepT_sound (O := O) H, fun ρ x p => rfl⟩, fun _ _ _ _ => rfl⟩
end
end Mine

namespace Mine

/-- a thing that the running function owns -/
inductive OD where
  | list (ds : List Dt)
  | gone
structure St where
  ρ : Ro
  σ : List OD
noncomputable def allRule (ds : List Dt) : Bool := ds.all fun | .opq n _ => n == 5 | _ => false
noncomputable def Bd.thaw (σ : List OD) : Bd → Bd
  | .lst i => match σ[i]? with
    | some (.list ds) => .val (.list ds)
    | _ => .unb
  | .ins i => match σ[i]? with
    | some (.list ds) => if allRule ds = true then .val (.opq 6 [.list ds]) else .unb
    | _ => .unb
  | b => b
noncomputable def Bd.idx : Bd → List Nat
  | .lst i => [i]
  | .ins i => [i]
  | _ => []
noncomputable def Slot.thaw (σ : List OD) : Slot → Slot
  | .var k b => .var k (b.thaw σ)
  | s => s
noncomputable def lend (st : St) : Ro := st.ρ.map fun p => (p.1, p.2.thaw st.σ)
noncomputable def Slot.set (b : Bd) : Slot → Slot
  | .var k _ => .var k b
  | s => s
noncomputable def setB (ρ : Ro) (x : Str) (b : Bd) : Ro := ρ.map fun p => if p.1 = x then (p.1, p.2.set b) else p
noncomputable def gone (σ : List OD) (is : List Nat) : List OD := is.foldl (fun σ i => σ.set i .gone) σ
noncomputable def thaw1 (n₀ : Nat) (st : St) (x : Str) : St := match st.ρ.lookup x with
  | some (.var _ b) => if b.idx.isEmpty = true ∨ (b.idx.any fun i => decide (i < n₀)) = true then st else ⟨setB st.ρ x (b.thaw st.σ), gone st.σ b.idx⟩
  | _ => st

theorem lookup_map {α β : Type} {f : Str → α → β} : ∀ {l : List (Str × α)} {x : Str}, (l.map fun p => (p.1, f p.1 p.2)).lookup x = (l.lookup x).map (f x)
  | [], _ => rfl
  | (n, k) :: r, x => by
    rw [List.map_cons]
    by_cases hx : x = n
    · subst hx; rw [List.lookup_cons_self, List.lookup_cons_self]; rfl
    · have hx' : (x == n) = false := by simpa using hx
      rw [List.lookup_cons, hx', List.lookup_cons, hx']
      exact lookup_map
theorem lend_lookup (st : St) (x : Str) : (lend st).lookup x = (st.ρ.lookup x).map (Slot.thaw st.σ) := lookup_map (f := fun _ => Slot.thaw st.σ)
theorem setB_lookup (ρ : Ro) (x y : Str) (b : Bd) : (setB ρ x b).lookup y = if y = x then (ρ.lookup y).map (Slot.set b) else ρ.lookup y := by
  have e : setB ρ x b = ρ.map fun p => (p.1, (fun n (s : Slot) => if n = x then s.set b else s) p.1 p.2) := by
    unfold setB
    apply List.map_congr_left
    rintro ⟨n, s⟩ _
    dsimp only
    split <;> rfl
  rw [e, lookup_map (f := fun n (s : Slot) => if n = x then s.set b else s)]
  by_cases h : y = x
  · subst h; simp
  · simp [h]
theorem gone_get : ∀ {is : List Nat} {σ : List OD} {i : Nat} {x : OD}, (gone σ is)[i]? = some x → x ≠ .gone → σ[i]? = some x ∧ i ∉ is
  | [], _, _, _, h, _ => ⟨h, fun m => nomatch m⟩
  | j :: r, σ, i, x, h, hx => by
    obtain ⟨a, b⟩ := gone_get (is := r) (σ := σ.set j .gone) h hx
    rw [List.getElem?_set] at a
    by_cases hj : j = i
    · subst hj
      rw [if_pos rfl] at a
      split at a
      · cases a; exact absurd rfl hx
      · cases a
    · rw [if_neg hj] at a
      exact ⟨a, fun m => by
        rcases List.mem_cons.mp m with e | m
        · exact hj e.symm
        · exact b m⟩

noncomputable def live (σ : List OD) (i : Nat) : Bool := match σ[i]? with
  | some .gone => false
  | some _ => true
  | none => false
theorem live_of {σ : List OD} {i : Nat} {x : OD} (e : σ[i]? = some x) (n : x ≠ .gone) : live σ i = true := by
  unfold live; rw [e]
  cases x with
  | gone => exact absurd rfl n
  | _ => rfl
theorem of_live {σ : List OD} {i : Nat} (e : live σ i = true) : ∃ x, σ[i]? = some x ∧ x ≠ .gone := by
  unfold live at e
  split at e
  · cases e
  · rename_i x h n; exact ⟨x, n, fun z => by subst z; exact h rfl⟩
  · cases e
theorem gone_len : ∀ (is : List Nat) (σ : List OD), (gone σ is).length = σ.length
  | [], _ => rfl
  | i :: r, σ => (gone_len r (σ.set i .gone)).trans (List.length_set ..)
noncomputable def ODAt (W : Wd) (own : List Addr) (h : Heap) (a : Addr) : OD → Prop
  | .list ds => ∃ vs, h.PlainList a vs.toArray ∧ Reps W (hideAll h own) vs ds
  | .gone => True
noncomputable def BdAt (W : Wd) (g : Heap) (ad : Nat → Addr) (v : Value) : Bd → Prop
  | .lst i => v = .ref (ad i)
  | .ins i => W.INS g v (ad i)
  | _ => True

structure Run (W : Wd) (own₀ : List Addr) (Pr : Addr → Obj → Prop) (Vs : Heap) (n₀ : Nat) (ad₀ : Nat → Addr) (env : Env) (ad : Nat → Addr) (own : List Addr) (h : Heap) (st : St) : Prop where
  frm : Frm W own env h st.ρ
  sub : ∀ a ∈ own₀, a ∈ own
  hP₀ : W.P ∈ own₀
  prot : ∀ a o, Pr a o → h.get? a = some o ∧ a ≠ W.P ∧ ¬ WrF env st.ρ a ∧ ∀ i x, st.σ[i]? = some x → x ≠ .gone → a ≠ ad i
  od : ∀ i x, st.σ[i]? = some x → x ≠ .gone → ad i ∈ own ∧ (ad i ∉ own₀ ∨ i < n₀) ∧ ad i ≠ W.P ∧ ¬ RdF env st.ρ (ad i) ∧ ODAt W own h (ad i) x
  inj : ∀ i j x y, st.σ[i]? = some x → st.σ[j]? = some y → x ≠ .gone → y ≠ .gone → ad i = ad j → i = j
  bd : ∀ x k b, st.ρ.lookup x = some (.var k b) → b.idx ≠ [] → ∃ v, Bound env h x v k ∧ BdAt W (hideAll h own) ad v b
  base : ∀ i, i < n₀ → ad i = ad₀ i
  len : n₀ ≤ st.σ.length
  ix : ∀ x k b, st.ρ.lookup x = some (.var k b) → ∀ i ∈ b.idx, i < st.σ.length
  vis : Up Vs (hideAll h own)
  nf : ∀ a, RdF env st.ρ a → WrF env st.ρ a

section
variable {W : Wd} {K : Nat} {own₀ own own' : List Addr} {Pr : Addr → Obj → Prop} {Vs : Heap} {n₀ : Nat} {ad₀ ad : Nat → Addr} {env : Env} {h h' : Heap} {st : St}

theorem ODAt.move {a : Addr} {x : OD} (u : Up (hideAll h own) (hideAll h' own')) (k : ∀ o, h.get? a = some o → h'.get? a = some o) (d : ODAt W own h a x) : ODAt W own' h' a x := by
  cases x with
  | list ds => obtain ⟨vs, p, r⟩ := d; exact ⟨vs, p.at k, r.up u⟩
  | gone => trivial
theorem BdAt.up {g g' : Heap} {v : Value} {b : Bd} (u : Up g g') (x : BdAt W g ad v b) : BdAt W g' ad v b := by
  cases b with
  | unb => trivial
  | val d => trivial
  | lst i => exact x
  | ins i => exact W.insUp _ _ _ _ u x
theorem bound_keep {x : Str} {v : Value} {k : SK} {b : Bd} (hl : st.ρ.lookup x = some (.var k b)) (keep : ∀ a, RdF env st.ρ a → ∀ o, h.get? a = some o → h'.get? a = some o) (B : Bound env h x v k) : Bound env h' x v k := by
  cases k with
  | loc => obtain ⟨m, n, e⟩ := B; exact ⟨m, n.at (keep _ (.inl rfl)), e⟩
  | cel => obtain ⟨c, q, o, e, d⟩ := B; exact ⟨c, q, o, keep c (.inr ⟨x, _, b, hl, by decide, q⟩) o e, d⟩
  | fre => obtain ⟨c, q, o, e, d⟩ := B; exact ⟨c, q, o, keep c (.inr ⟨x, _, b, hl, by decide, q⟩) o e, d⟩

/-- the heap moves on, and the hidden places with it; nothing of the function's own is touched -/
theorem Run.move (R : Run W own₀ Pr Vs n₀ ad₀ env ad own h st) {own₁ : List Addr} {Pr₁ : Addr → Obj → Prop} {Vs₁ : Heap} (u : Up (hideAll h own) (hideAll h' own')) (keep : ∀ a, RdF env st.ρ a → ∀ o, h.get? a = some o → h'.get? a = some o)
    (keepO : ∀ i x, st.σ[i]? = some x → x ≠ .gone → ∀ o, h.get? (ad i) = some o → h'.get? (ad i) = some o) (ok' : Ok W own' h') (hw : ∀ a, WrF env st.ρ a → a ∈ own') (ho : ∀ i x, st.σ[i]? = some x → x ≠ .gone → ad i ∈ own' ∧ (ad i ∉ own₁ ∨ i < n₀))
    (sub : ∀ a ∈ own₁, a ∈ own') (hP : W.P ∈ own₁) (prot : ∀ a o, Pr₁ a o → h'.get? a = some o ∧ a ≠ W.P ∧ ¬ WrF env st.ρ a ∧ ∀ i x, st.σ[i]? = some x → x ≠ .gone → a ≠ ad i) (vs : Up Vs₁ (hideAll h' own')) : Run W own₁ Pr₁ Vs₁ n₀ ad₀ env ad own' h' st where
  frm := R.frm.move u keep ok' hw
  sub := sub
  hP₀ := hP
  prot := prot
  od := fun i x e n => let ⟨_, _, c, d, q⟩ := R.od i x e n; ⟨(ho i x e n).1, (ho i x e n).2, c, d, q.move u (keepO i x e n)⟩
  inj := R.inj
  bd := fun x k b e n => let ⟨v, a, q⟩ := R.bd x k b e n; ⟨v, bound_keep e keep a, q.up u⟩
  base := R.base
  len := R.len
  ix := R.ix
  vis := vs
  nf := R.nf
theorem Run.le (R : Run W own₀ Pr Vs n₀ ad₀ env ad own h st) (l : Le W.P h h') (o : Ok W own h') : Run W own₀ Pr Vs n₀ ad₀ env ad own h' st :=
  R.move (vis_le o.hP l) (fun a ha o e => l a o (R.frm.rdLive ha).1 e) (fun i x e n o q => l _ o (R.od i x e n).2.2.1 q) o (fun a ha => R.frm.wrOwn ha) (fun i x e n => ⟨(R.od i x e n).1, (R.od i x e n).2.1⟩) R.sub R.hP₀
    (fun a o p => let ⟨p1, p2, p3⟩ := R.prot a o p; ⟨l a o p2 p1, p2, p3⟩) (R.vis.trans (vis_le o.hP l))

theorem put_rd {ρ ρ' : Ro} {x : Str} {b : Bd} (hp : put ρ x b = some ρ') (a : Addr) : RdF env ρ' a ↔ RdF env ρ a := by
  obtain ⟨k, b0, h1, h2, h3⟩ := put_spec hp
  unfold RdF
  refine or_congr Iff.rfl ⟨?_, ?_⟩
  · rintro ⟨y, k', c, e, n, q⟩
    rw [h3] at e
    by_cases hy : y = x
    · subst hy
      rw [if_pos rfl] at e; cases e
      exact ⟨y, _, b0, h1, n, q⟩
    · rw [if_neg hy] at e; exact ⟨y, k', c, e, n, q⟩
  · rintro ⟨y, k', c, e, n, q⟩
    by_cases hy : y = x
    · subst hy
      rw [h1] at e; cases e
      exact ⟨y, _, b, by rw [h3, if_pos rfl], n, q⟩
    · exact ⟨y, k', c, by rw [h3, if_neg hy]; exact e, n, q⟩

/-- a name is bound anew -/
theorem Run.put (R : Run W own₀ Pr Vs n₀ ad₀ env ad own h st) {x : Str} {b : Bd} {ρ' : Ro} {v : Value} {k : SK} (hp : put st.ρ x b = some ρ') (F' : Frm W own env h' ρ') (C : Chg (WrF env st.ρ) h h') (B : Bound env h' x v k) (hl : ρ'.lookup x = some (.var k b))
    (bk : BK env st.ρ x h h') (hi : ∀ i ∈ b.idx, i < st.σ.length) (hb : b.idx ≠ [] → BdAt W (hideAll h' own) ad v b) : Run W own₀ Pr Vs n₀ ad₀ env ad own h' ⟨ρ', st.σ⟩ := by
  have u : Up (hideAll h own) (hideAll h' own) := vis_chg (fun a z => R.frm.wrOwn z) C
  have hw := WrF.put (env := env) hp
  have hr := put_rd (env := env) hp
  refine ⟨F', R.sub, R.hP₀, fun a o p => ?_, fun i y e n => ?_, R.inj, fun y k' b' e n => ?_, R.base, R.len, fun y k' b' e => ?_, R.vis.trans u, fun a z => (hw a).mpr (R.nf a ((hr a).mp z))⟩
  · obtain ⟨p1, p2, p3, p4⟩ := R.prot a o p
    exact ⟨C a o p3 p1, p2, fun z => p3 ((hw a).mp z), p4⟩
  · obtain ⟨a1, a2, a3, a4, a5⟩ := R.od i y e n
    exact ⟨a1, a2, a3, fun z => a4 ((hr _).mp z), a5.move u fun o q => C _ o (fun z => a4 z.rd) q⟩
  · obtain ⟨k0, b0, g1, g2, g3⟩ := put_spec hp
    have e' : ρ'.lookup y = some (.var k' b') := e
    by_cases hy : y = x
    · subst hy
      rw [hl] at e'; cases e'
      exact ⟨v, B, hb n⟩
    · rw [g3, if_neg hy] at e'
      obtain ⟨w, a, q⟩ := R.bd y k' b' e' n
      exact ⟨w, bk y k' b' w hy e' a, q.up u⟩
  · obtain ⟨k0, b0, g1, g2, g3⟩ := put_spec hp
    have e' : ρ'.lookup y = some (.var k' b') := e
    rw [g3] at e'
    by_cases hy : y = x
    · rw [if_pos hy] at e'; cases e'; exact hi
    · rw [if_neg hy] at e'; exact R.ix y k' b' e'

theorem BdAt.cong {g : Heap} {ad' : Nat → Addr} {v : Value} {b : Bd} (x : BdAt W g ad v b) (e : ∀ i ∈ b.idx, ad' i = ad i) : BdAt W g ad' v b := by
  cases b with
  | unb => trivial
  | val d => trivial
  | lst i => have q : v = .ref (ad i) := x; show v = _; rw [q, e i List.mem_cons_self]
  | ins i => have q : W.INS g v (ad i) := x; show W.INS g v _; rw [e i List.mem_cons_self]; exact q

/-- a new owned thing -/
theorem Run.newOD (R : Run W own₀ Pr Vs n₀ ad₀ env ad own h st) {a : Addr} {x : OD} (ha : h.get? a = none) (l : Le W.P h h') (ok' : Ok W (a :: own) h') (hx : x ≠ .gone) (d : ODAt W (a :: own) h' a x) :
    Run W own₀ Pr Vs n₀ ad₀ env (fun i => if i = st.σ.length then a else ad i) (a :: own) h' ⟨st.ρ, st.σ ++ [x]⟩ := by
  have hao : a ∉ own := R.frm.sees.ok.new ha
  have uv : Up (hideAll h own) (hideAll h' (a :: own)) := fun b o e => by
    obtain ⟨q1, q2⟩ := vis_iff.mp e
    refine vis_iff.mpr ⟨l b o (fun z => q2 (z ▸ R.frm.sees.ok.hP)) q1, fun m => ?_⟩
    rcases List.mem_cons.mp m with z | m
    · rw [z, ha] at q1; cases q1
    · exact q2 m
  have F' : Frm W (a :: own) env h' st.ρ := R.frm.move uv (fun b hb o e => l b o (R.frm.rdLive hb).1 e) ok' fun b hb => List.mem_cons_of_mem _ (R.frm.wrOwn hb)
  have old : ∀ {i y}, (st.σ ++ [x])[i]? = some y → i ≠ st.σ.length → st.σ[i]? = some y ∧ i < st.σ.length := fun {i y} e n => by
    rcases Nat.lt_or_ge i st.σ.length with hlt | hge
    · rw [List.getElem?_append_left hlt] at e; exact ⟨e, hlt⟩
    · rw [List.getElem?_append_right hge] at e
      have : i - st.σ.length = 0 := by
        by_cases q : i - st.σ.length = 0
        · exact q
        · rw [List.getElem?_eq_none (by simp; omega)] at e; cases e
      omega
  have new : ∀ {y}, (st.σ ++ [x])[st.σ.length]? = some y → y = x := fun {y} e => by simpa using e.symm
  have ne : ∀ {i y}, st.σ[i]? = some y → y ≠ .gone → ad i ≠ a := fun {i y} e n z => hao (z ▸ (R.od i y e n).1)
  have nrd : ¬ RdF env st.ρ a := fun z => by obtain ⟨_, o, e⟩ := R.frm.rdLive z; rw [ha] at e; cases e
  refine ⟨F', fun b hb => List.mem_cons_of_mem _ (R.sub b hb), R.hP₀, fun b o p => ?_, fun i y e n => ?_, fun i j y z e1 e2 n1 n2 q => ?_, fun y k b e n => ?_, fun i hi => ?_, ?_, fun y k b e i hi => ?_, R.vis.trans uv, R.nf⟩
  · obtain ⟨p1, p2, p3, p4⟩ := R.prot b o p
    refine ⟨l b o p2 p1, p2, p3, fun i y e n => ?_⟩
    dsimp only at e ⊢
    by_cases hi : i = st.σ.length
    · rw [if_pos hi]; exact fun z => by rw [z, ha] at p1; cases p1
    · rw [if_neg hi]; exact p4 i y (old e hi).1 n
  · dsimp only at e ⊢
    by_cases hi : i = st.σ.length
    · rw [if_pos hi]
      subst hi
      cases new e
      refine ⟨List.mem_cons_self, .inl fun z => hao (R.sub a z), fun z => ?_, nrd, d⟩
      obtain ⟨ps, e', _⟩ := R.frm.sees.ok.tab
      rw [← z, ha] at e'; cases e'
    · rw [if_neg hi]
      obtain ⟨a1, a2, a3, a4, a5⟩ := R.od i y (old e hi).1 n
      exact ⟨List.mem_cons_of_mem _ a1, a2, a3, a4, a5.move uv fun o q => l _ o a3 q⟩
  · dsimp only at e1 e2 q
    by_cases hi : i = st.σ.length
    · by_cases hj : j = st.σ.length
      · rw [hi, hj]
      · rw [if_pos hi, if_neg hj] at q
        exact absurd q.symm (ne (old e2 hj).1 n2)
    · by_cases hj : j = st.σ.length
      · rw [if_neg hi, if_pos hj] at q
        exact absurd q (ne (old e1 hi).1 n1)
      · rw [if_neg hi, if_neg hj] at q
        exact R.inj i j y z (old e1 hi).1 (old e2 hj).1 n1 n2 q
  · obtain ⟨v, B, q⟩ := R.bd y k b e n
    refine ⟨v, B.le R.frm.sees.ok l, (q.up uv).cong fun i hi => ?_⟩
    exact if_neg (Nat.ne_of_lt (R.ix y k b e i hi))
  · exact (if_neg (by have := R.len; omega) : (if i = st.σ.length then a else ad i) = ad i).trans (R.base i hi)
  · have := R.len
    show n₀ ≤ (st.σ ++ [x]).length
    rw [List.length_append]; omega
  · show i < (st.σ ++ [x]).length
    have := R.ix y k b e i hi
    rw [List.length_append]; omega
end
end Mine

namespace Mine

/-- an object with its list let go is the opaque object 6 -/
structure InsOk (W : Wd) : Prop where
  frd : ∀ (A : Around) (env : Env), W.FR A.frames → W.FR (A.deeper env).frames
  thaw : ∀ g v a ds, W.INS g v a → Rep W g (.ref a) (.list ds) → allRule ds = true → Rep W g v (.opq 6 [.list ds])
  attr : ∀ (own : List Addr) (A : Around) (E : Value → Shared → Prop) (s : Shared) (Q : Value → Shared → Prop) (v : Value) (a : Addr), Ok W own s.heap → W.INS (hideAll s.heap own) v a → (∀ tk, Q (.ref a) { s with toks := tk }) → wpAny W.M A (getAttr v "rulelines" true) Q E s
  new : ∃ C, W.mg "Entry" = some C ∧ (∀ h, Up W.B h → KeepOk W C h) ∧ ∀ (own : List Addr) (A : Around) (E : Value → Shared → Prop) (s : Shared) (Q : Value → Shared → Prop), AOk W 2 A → Ok W own s.heap →
    (∀ h' tk v a, Le W.P s.heap h' → Ok W (a :: own) h' → s.heap.get? a = none → h'.PlainList a #[] → W.INS (hideAll h' (a :: own)) v a → Q v { s with heap := h', toks := tk }) → wpAny W.M A (call C []) Q E s

noncomputable def KSame (ρ ρ' : Ro) : Prop := ∀ x, (ρ.lookup x = none ∧ ρ'.lookup x = none) ∨ (ρ.lookup x = some .glob ∧ ρ'.lookup x = some .glob) ∨ ∃ k b b', ρ.lookup x = some (.var k b) ∧ ρ'.lookup x = some (.var k b')
theorem KSame.kind {ρ ρ' : Ro} (S : KSame ρ ρ') {x : Str} {k : SK} : (∃ b, ρ'.lookup x = some (.var k b)) ↔ ∃ b, ρ.lookup x = some (.var k b) := by
  rcases S x with ⟨a, b⟩ | ⟨a, b⟩ | ⟨k', c, c', a, b⟩
  · simp [a, b]
  · simp [a, b]
  · rw [a, b]
    constructor
    · rintro ⟨_, h⟩; cases h; exact ⟨_, rfl⟩
    · rintro ⟨_, h⟩; cases h; exact ⟨_, rfl⟩
theorem KSame.wr {ρ ρ' : Ro} (S : KSame ρ ρ') (env : Env) (a : Addr) : WrF env ρ' a ↔ WrF env ρ a := by
  unfold WrF
  refine or_congr Iff.rfl ⟨?_, ?_⟩
  · rintro ⟨x, b, e, q⟩; obtain ⟨b', e'⟩ := S.kind.mp ⟨b, e⟩; exact ⟨x, b', e', q⟩
  · rintro ⟨x, b, e, q⟩; obtain ⟨b', e'⟩ := S.kind.mpr ⟨b, e⟩; exact ⟨x, b', e', q⟩
theorem KSame.rd {ρ ρ' : Ro} (S : KSame ρ ρ') (env : Env) (a : Addr) : RdF env ρ' a ↔ RdF env ρ a := by
  unfold RdF
  refine or_congr Iff.rfl ⟨?_, ?_⟩
  · rintro ⟨x, k, b, e, n, q⟩; obtain ⟨b', e'⟩ := S.kind.mp ⟨b, e⟩; exact ⟨x, k, b', e', n, q⟩
  · rintro ⟨x, k, b, e, n, q⟩; obtain ⟨b', e'⟩ := S.kind.mpr ⟨b, e⟩; exact ⟨x, k, b', e', n, q⟩
theorem lend_same (st : St) : KSame st.ρ (lend st) := fun x => by
  rw [lend_lookup]
  cases h : st.ρ.lookup x with
  | none => exact .inl ⟨rfl, rfl⟩
  | some sl => cases sl with
    | glob => exact .inr (.inl ⟨rfl, rfl⟩)
    | var k b => exact .inr (.inr ⟨k, b, b.thaw st.σ, rfl, rfl⟩)
theorem setB_same (ρ : Ro) (x : Str) (b : Bd) : KSame ρ (setB ρ x b) := fun y => by
  rw [setB_lookup]
  cases h : ρ.lookup y with
  | none => exact .inl ⟨rfl, by split <;> rfl⟩
  | some sl => cases sl with
    | glob => exact .inr (.inl ⟨rfl, by split <;> rfl⟩)
    | var k b0 => exact .inr (.inr (by split <;> exact ⟨k, b0, _, rfl, rfl⟩))

section
variable {W : Wd} {K : Nat} {own₀ own own' : List Addr} {Pr : Addr → Obj → Prop} {Vs : Heap} {n₀ : Nat} {ad₀ ad : Nat → Addr} {env : Env} {h h' : Heap} {st : St} {ρ ρ' : Ro}

theorem Sees.rebind (S : Sees W own env h ρ) (k : KSame ρ ρ') (H : ∀ x k b', ρ'.lookup x = some (.var k b') → ∀ d, b'.frz = some d → ∃ v, Bound env h x v k ∧ Rep W (hideAll h own) v d) : Sees W own env h ρ' := by
  refine ⟨S.envOk, S.ok, fun x sl e => ?_, fun x sl e => ?_, fun x kk b c e n q => ?_⟩
  · rcases k x with ⟨a, b⟩ | ⟨a, b⟩ | ⟨k', c, c', a, b⟩
    · rw [b] at e; cases e
    · rw [b] at e; cases e; exact S.at' x _ a
    · rw [b] at e; cases e
      exact ⟨(S.at' x _ a).1, H x k' c' b⟩
  · rcases k x with ⟨a, b⟩ | ⟨a, b⟩ | ⟨k', c, c', a, b⟩
    · rw [b] at e; cases e
    · exact S.nodbg x _ a
    · exact S.nodbg x _ a
  · obtain ⟨b', e'⟩ := k.kind.mp ⟨b, e⟩
    exact S.cells x kk b' c e' n q
theorem Frm.rebind (F : Frm W own env h ρ) (k : KSame ρ ρ') (H : ∀ x k b', ρ'.lookup x = some (.var k b') → ∀ d, b'.frz = some d → ∃ v, Bound env h x v k ∧ Rep W (hideAll h own) v d) : Frm W own env h ρ' := by
  refine ⟨F.sees.rebind k H, F.ns, F.lo, fun x b c e q => ?_, fun x y sx kk sy c e1 e2 n q1 q2 => ?_⟩
  · obtain ⟨b', e'⟩ := k.kind.mp ⟨b, e⟩
    exact F.cel x b' c e' q
  · obtain ⟨b1, e1'⟩ := k.kind.mp ⟨sx, e1⟩
    obtain ⟨b2, e2'⟩ := k.kind.mp ⟨sy, e2⟩
    exact F.sep x y b1 kk b2 c e1' e2' n q1 q2

/-- what an owned thing is, once in sight -/
theorem thaw_rep (N : InsOk W) (R : Run W own₀ Pr Vs n₀ ad₀ env ad own h st) (s : ∀ a ∈ own', a ∈ own) {x : Str} {k : SK} {b : Bd} {d : Dt} (hl : st.ρ.lookup x = some (.var k b)) (ho : ∀ i ∈ b.idx, live st.σ i = true → ad i ∉ own') (hd : (b.thaw st.σ).frz = some d) :
    ∃ v, Bound env h x v k ∧ Rep W (hideAll h own') v d := by
  have u : Up (hideAll h own) (hideAll h own') := vis_sub s
  have lst : ∀ {i ds}, st.σ[i]? = some (.list ds) → ad i ∉ own' → Rep W (hideAll h own') (.ref (ad i)) (.list ds) := fun {i ds} e n => by
    obtain ⟨_, _, _, _, vs, ⟨c, p⟩, r⟩ := R.od i _ e (by intro z; cases z)
    exact .list (n := c) (vis_iff.mpr ⟨p, n⟩) (r.up u)
  cases b with
  | unb => cases hd
  | val d' =>
    cases hd
    obtain ⟨v, B, r⟩ := (R.frm.sees.at' x _ hl).2 d rfl
    exact ⟨v, B, r.up u⟩
  | lst i =>
    unfold Bd.thaw at hd
    dsimp only at hd
    split at hd
    · rename_i ds e
      cases hd
      obtain ⟨v, B, q⟩ := R.bd x k _ hl (by intro z; cases z)
      have q' : v = .ref (ad i) := q
      subst q'
      exact ⟨_, B, lst e (ho i List.mem_cons_self (live_of e (by intro z; cases z)))⟩
    · cases hd
  | ins i =>
    unfold Bd.thaw at hd
    dsimp only at hd
    split at hd
    · rename_i ds e
      split at hd
      · rename_i hr
        cases hd
        obtain ⟨v, B, q⟩ := R.bd x k _ hl (by intro z; cases z)
        exact ⟨_, B, N.thaw _ _ _ _ (W.insUp _ _ _ _ u q) (lst e (ho i List.mem_cons_self (live_of e (by intro z; cases z)))) hr⟩
      · cases hd
    · cases hd

theorem Run.thaw1 (N : InsOk W) (R : Run W own₀ Pr Vs n₀ ad₀ env ad own h st) (x : Str) : ∃ own', Run W own₀ Pr Vs n₀ ad₀ env ad own' h (thaw1 n₀ st x) := by
  unfold Mine.thaw1
  split
  · rename_i k b hl
    split
    · exact ⟨own, R⟩
    · rename_i hc
      have hb0 : ∀ i ∈ b.idx, n₀ ≤ i := fun i hi => by
        by_cases q : i < n₀
        · exact absurd (.inr (List.any_eq_true.mpr ⟨i, hi, by simpa using q⟩)) hc
        · omega
      let rem := (b.idx.filter (live st.σ)).map ad
      let own' := own.filter fun a => !rem.contains a
      have hm : ∀ a, a ∈ own' ↔ a ∈ own ∧ ∀ i ∈ b.idx, live st.σ i = true → a ≠ ad i := fun a => by
        rw [List.mem_filter]
        refine and_congr Iff.rfl ?_
        rw [Bool.not_eq_true', List.contains_eq_mem, decide_eq_false_iff_not, List.mem_map]
        constructor
        · intro q i hi hl z; exact q ⟨i, List.mem_filter.mpr ⟨hi, hl⟩, z.symm⟩
        · rintro q ⟨i, hi, z⟩; obtain ⟨hi, hl⟩ := List.mem_filter.mp hi; exact q i hi hl z.symm
      have sub : ∀ a ∈ own', a ∈ own := fun a ha => ((hm a).mp ha).1
      have u : Up (hideAll h own) (hideAll h own') := vis_sub sub
      have od : ∀ i ∈ b.idx, live st.σ i = true → ad i ≠ W.P ∧ ¬ RdF env st.ρ (ad i) ∧ ad i ∉ own₀ := fun i hi hl => by
        obtain ⟨y, e, n⟩ := of_live hl
        obtain ⟨_, a2, a3, a4, _⟩ := R.od i y e n
        exact ⟨a3, a4, a2.resolve_right (Nat.not_lt.mpr (hb0 i hi))⟩
      have hP' : W.P ∈ own' := (hm _).mpr ⟨R.frm.sees.ok.hP, fun i hi hl z => (od i hi hl).1 z.symm⟩
      have hw' : ∀ a, WrF env st.ρ a → a ∈ own' := fun a ha => (hm a).mpr ⟨R.frm.wrOwn ha, fun i hi hl z => (od i hi hl).2.1 (z ▸ ha.rd)⟩
      have ok' : Ok W own' h := R.frm.sees.ok.sub sub hP'
      have F1 : Frm W own' env h st.ρ := R.frm.move u (fun _ _ _ e => e) ok' hw'
      have ks := setB_same st.ρ x (b.thaw st.σ)
      have rep : ∀ d, (b.thaw st.σ).frz = some d → ∃ v, Bound env h x v k ∧ Rep W (hideAll h own') v d := fun d hd =>
        thaw_rep N R sub hl (fun i hi hlv m => ((hm _).mp m).2 i hi hlv rfl) hd
      have F2 : Frm W own' env h (setB st.ρ x (b.thaw st.σ)) := F1.rebind ks fun y k' b' e d hd => by
        rw [setB_lookup] at e
        by_cases hy : y = x
        · subst hy
          rw [if_pos rfl, hl] at e
          cases e
          exact rep d hd
        · rw [if_neg hy] at e
          exact (F1.sees.at' y _ e).2 d hd
      have noidx : (b.thaw st.σ).idx = [] := by
        cases b with
        | unb => rfl
        | val d => rfl
        | lst i => unfold Bd.thaw; dsimp only; split <;> rfl
        | ins i => unfold Bd.thaw; dsimp only; split <;> (try split) <;> rfl
      have gg : ∀ {i y}, (gone st.σ b.idx)[i]? = some y → y ≠ .gone → st.σ[i]? = some y ∧ i ∉ b.idx := fun e n => gone_get e n
      have mem' : ∀ {i y}, st.σ[i]? = some y → y ≠ .gone → i ∉ b.idx → ad i ∈ own' := fun {i y} e n hi => (hm _).mpr ⟨(R.od i y e n).1, fun j hj hlj z => by
        obtain ⟨yj, ej, nj⟩ := of_live hlj
        exact hi (R.inj i j y yj e ej n nj z ▸ hj)⟩
      refine ⟨own', F2, fun a ha => (hm a).mpr ⟨R.sub a ha, fun i hi hlv z => (od i hi hlv).2.2 (z ▸ ha)⟩, R.hP₀, fun a o p => ?_, fun i y e n => ?_, fun i j y z e1 e2 n1 n2 q => ?_, fun y k' b' e n => ?_, R.base, ?_, fun y k' b' e i hi => ?_, R.vis.trans u, fun a z => (ks.wr env a).mpr (R.nf a ((ks.rd env a).mp z))⟩
      · obtain ⟨p1, p2, p3, p4⟩ := R.prot a o p
        exact ⟨p1, p2, fun z => p3 ((ks.wr env a).mp z), fun i y e n => p4 i y (gg e n).1 n⟩
      · obtain ⟨e', hi⟩ := gg e n
        obtain ⟨a1, a2, a3, a4, a5⟩ := R.od i y e' n
        exact ⟨mem' e' n hi, a2, a3, fun z => a4 ((ks.rd env _).mp z), a5.move u fun _ q => q⟩
      · exact R.inj i j y z (gg e1 n1).1 (gg e2 n2).1 n1 n2 q
      · have e' : (setB st.ρ x (b.thaw st.σ)).lookup y = some (.var k' b') := e
        rw [setB_lookup] at e'
        by_cases hy : y = x
        · subst hy
          rw [if_pos rfl, hl] at e'
          cases e'
          exact absurd noidx n
        · rw [if_neg hy] at e'
          obtain ⟨v, B, q⟩ := R.bd y k' b' e' n
          exact ⟨v, B, q.up u⟩
      · show n₀ ≤ (gone st.σ b.idx).length
        rw [gone_len]; exact R.len
      · show i < (gone st.σ b.idx).length
        rw [gone_len]
        have e' : (setB st.ρ x (b.thaw st.σ)).lookup y = some (.var k' b') := e
        rw [setB_lookup] at e'
        by_cases hy : y = x
        · subst hy
          rw [if_pos rfl, hl] at e'
          cases e'
          rw [noidx] at hi; nomatch hi
        · rw [if_neg hy] at e'
          exact R.ix y k' b' e' i hi
  · exact ⟨own, R⟩

noncomputable def thawAll (n₀ : Nat) (st : St) (xs : List Str) : St := xs.foldl (Mine.thaw1 n₀) st
theorem Run.thawAll (N : InsOk W) : ∀ (xs : List Str) {own : List Addr} {st : St}, Run W own₀ Pr Vs n₀ ad₀ env ad own h st → ∃ own', Run W own₀ Pr Vs n₀ ad₀ env ad own' h (thawAll n₀ st xs)
  | [], own, st, R => ⟨own, R⟩
  | x :: r, own, st, R => by
    obtain ⟨own1, R1⟩ := R.thaw1 N x
    exact Run.thawAll N r R1

/-- all that is owned is lent for reading -/
theorem Run.lend (N : InsOk W) (R : Run W own₀ Pr Vs n₀ ad₀ env ad own h st) : ∃ own', Sees W own' env h (lend st) ∧ ∀ h', Le W.P h h' → Ok W own' h' → Run W own₀ Pr Vs n₀ ad₀ env ad own h' st := by
  let rem := ((List.range st.σ.length).filter (live st.σ)).map ad
  let own' := own.filter fun a => !rem.contains a
  have hm : ∀ a, a ∈ own' ↔ a ∈ own ∧ ∀ i, live st.σ i = true → a ≠ ad i := fun a => by
    rw [List.mem_filter]
    refine and_congr Iff.rfl ?_
    rw [Bool.not_eq_true', List.contains_eq_mem, decide_eq_false_iff_not, List.mem_map]
    constructor
    · intro q i hl z
      obtain ⟨y, e, _⟩ := of_live hl
      exact q ⟨i, List.mem_filter.mpr ⟨List.mem_range.mpr (List.getElem?_eq_some_iff.mp e).1, hl⟩, z.symm⟩
    · rintro q ⟨i, hi, z⟩; obtain ⟨hi, hl⟩ := List.mem_filter.mp hi; exact q i hl z.symm
  have sub : ∀ a ∈ own', a ∈ own := fun a ha => ((hm a).mp ha).1
  have u : Up (hideAll h own) (hideAll h own') := vis_sub sub
  have od : ∀ i, live st.σ i = true → ad i ≠ W.P := fun i hl => by
    obtain ⟨y, e, n⟩ := of_live hl
    exact (R.od i y e n).2.2.1
  have hP' : W.P ∈ own' := (hm _).mpr ⟨R.frm.sees.ok.hP, fun i hl z => od i hl z.symm⟩
  have ok' : Ok W own' h := R.frm.sees.ok.sub sub hP'
  have S1 : Sees W own' env h st.ρ := ⟨R.frm.sees.envOk, ok', fun x sl e => by
    have z := R.frm.sees.at' x sl e
    cases sl with
    | glob => exact z
    | var k b => exact ⟨z.1, fun d hd => let ⟨v, B, r⟩ := z.2 d hd; ⟨v, B, r.up u⟩⟩, R.frm.sees.nodbg, R.frm.sees.cells⟩
  refine ⟨own', S1.rebind (lend_same st) fun x k b' e d hd => ?_, fun h' l o => ?_⟩
  · rw [lend_lookup] at e
    obtain ⟨sl, e1, e2⟩ := Option.map_eq_some_iff.mp e
    cases sl with
    | glob => cases e2
    | var k0 b =>
      cases e2
      exact thaw_rep N R sub e1 (fun i hi hlv m => ((hm _).mp m).2 i hlv rfl) hd
  · refine R.le l ?_
    obtain ⟨ps, e, t⟩ := o.tab
    have x := R.frm.sees.ok
    refine ⟨x.base.trans (vis_le x.hP l), x.hP, ⟨ps, e, W.tsDrop _ _ _ (fun b ob q n1 n2 => ?_) t⟩, fun a ha => ?_⟩
    · obtain ⟨q1, q2⟩ := vis_iff.mp q
      refine vis_iff.mpr ⟨q1, fun m => ?_⟩
      have : ∃ i, live st.σ i = true ∧ b = ad i := by
        refine Classical.byContradiction fun z => q2 ((hm b).mpr ⟨m, fun i hl e => z ⟨i, hl, e⟩⟩)
      obtain ⟨i, hl, rfl⟩ := this
      obtain ⟨y, ey, ny⟩ := of_live hl
      obtain ⟨_, _, a3, _, a5⟩ := R.od i y ey ny
      cases y with
      | list ds =>
        obtain ⟨vs, ⟨c, p⟩, _⟩ := a5
        have := l _ _ a3 p
        rw [q1] at this; cases this
        exact n1 _ _ rfl
      | gone => exact ny rfl
    · obtain ⟨ob, q⟩ := x.live a ha
      by_cases hb : a = W.P
      · exact ⟨_, hb ▸ e⟩
      · exact ⟨ob, l a ob hb q⟩
end
end Mine

namespace Mine

noncomputable def insD {α : Type} (ds : List α) (i : Int) (d : α) : List α :=
  ds.take (if i < 0 then (i + (ds.length : Int)).toNat else min i.toNat ds.length) ++ d :: ds.drop (if i < 0 then (i + (ds.length : Int)).toNat else min i.toNat ds.length)
noncomputable def mutD (m : Str) (ds : List Dt) (args : List Dt) : Option (List Dt) :=
  if m = "append" then (match args with
    | [d] => if ds.length < 4096 then some (ds ++ [d]) else none
    | _ => none)
  else if m = "insert" then (match args with
    | [.int i, d] => if ds.length < 4096 ∧ smallI i = true then some (insD ds i d) else none
    | _ => none)
  else if m = "extend" then (match args with
    | [.list es] => if ds.length + es.length ≤ 4096 then some (ds ++ es) else none
    | _ => none)
  else none

theorem mapSeq_is {f : Array Value → Array Value} {xs ys : Array Value} {n : Nat} (e : f xs = ys) : ∃ n', some (Obj.mapSeq f { cls := .type "list", data := .seq xs n }) = some ({ cls := .type "list", data := .seq ys n' } : Obj) := by
  subst e; exact ⟨_, rfl⟩
section
variable {W : Wd} {own : List Addr} {A : Around} {E : Value → Shared → Prop} {s : Shared} {Q : Value → Shared → Prop}

theorem mut_sound {m : Str} {ds ds' : List Dt} {args : List Dt} {a : Addr} (e : mutD m ds args = some ds') :
    ∃ id, PySem.Slot "list" m id ∧ typeOf (.builtin id) = pure (.type "method_descriptor") ∧
      ∀ (s : Shared) (Q : Value → Shared → Prop) (own : List Addr) (vs us : List Value), s.heap.PlainList a vs.toArray → Reps W (hideAll s.heap own) vs ds → Reps W (hideAll s.heap own) us args →
        (∀ h' tk vs', Heap.SameBut a s.heap h' → h'.PlainList a vs'.toArray → Reps W (hideAll s.heap own) vs' ds' → Q .none { s with heap := h', toks := tk }) → wpAny W.M A (call (.builtin id) (.ref a :: us)) Q E s := by
  unfold mutD at e
  by_cases h1 : m = "append"
  · subst h1
    rw [if_pos rfl] at e
    split at e
    · rename_i d
      split at e
      · rename_i hl
        cases e
        refine ⟨"list.append", F.slot_list_append, F.type_list_append, fun s Q own vs us hp hr ha hQ => ?_⟩
        obtain ⟨v, rfl, rv⟩ := ha.inv1
        refine wpAny_list_append_plain hp (fun h' hp' hs => hQ h' s.toks (vs ++ [v]) hs ?_ (hr.append (.cons rv .nil))) (by rw [List.size_toArray, hr.length, sizeLine_eq]; omega)
        have : (vs ++ [v]).toArray = vs.toArray.push v := by simp
        rw [this]; exact hp'
      · cases e
    · cases e
  rw [if_neg h1] at e
  by_cases h2 : m = "insert"
  · subst h2
    rw [if_pos rfl] at e
    split at e
    · rename_i i d
      split at e
      · rename_i hl
        cases e
        refine ⟨"list.insert", F.slot_list_insert, F.type_list_insert, fun s Q own vs us hp hr ha hQ => ?_⟩
        obtain ⟨u, v, rfl, ru, rv⟩ := ha.inv2
        obtain ⟨t, rfl⟩ := rep_int ru
        obtain ⟨n, hn⟩ := hp
        have hi := hl.2
        simp only [smallI, Bool.and_eq_true, decide_eq_true_eq] at hi
        have hf : Builtin.List.listFitsIndex i = true := by simp [Builtin.List.listFitsIndex]; omega
        refine call_meets PySem.F.slot_list_insert ⟨_, hn, rfl⟩ PySem.F.entry_list_insert (PySem.F.args_list_insert_3 _ _ _) (PySem.AutoSeq1.list_insert_list_int_val_1 a _ n i t v (by simp [hf]) (by rw [List.size_toArray, hr.length, sizeLine_eq]; omega)) ⟨hn, ?_⟩
        have hlen := hr.length
        obtain ⟨n', hn'⟩ := mapSeq_is (n := n) (f := fun xs => have k := if i < 0 then (i + ((xs.size : Nat) : Int)).toNat else min i.toNat xs.size; (xs.extract 0 k).push v ++ xs.extract k) (xs := vs.toArray) (ys := (insD vs i v).toArray) (by
          dsimp only
          unfold insD
          rw [kl_ins_eq, List.size_toArray])
        refine hQ _ _ (insD vs i v) (Heap.SameBut.update ..) ⟨n', Eq.trans (Heap.get?_update_self _ hn rfl) hn'⟩ ?_
        unfold insD
        rw [hlen]
        exact (hr.take _).append (.cons rv (hr.drop _))
      · cases e
    · cases e
  rw [if_neg h2] at e
  by_cases h3 : m = "extend"
  · subst h3
    rw [if_pos rfl] at e
    split at e
    · rename_i es
      split at e
      · rename_i hl
        cases e
        refine ⟨"list.extend", F.slot_list_extend, F.type_list_extend, fun s Q own vs us hp hr ha hQ => ?_⟩
        obtain ⟨v, rfl, rv⟩ := ha.inv1
        obtain ⟨b, ws, n2, rfl, hb, rb⟩ := rep_list rv
        obtain ⟨n, hn⟩ := hp
        have hlen := hr.length
        have hlen2 := rb.length
        refine call_meets PySem.F.slot_list_extend ⟨_, hn, rfl⟩ PySem.F.entry_list_extend (PySem.F.args_list_extend_2 _ _) (PySem.AutoSeq1.list_extend_list_list_0 a vs.toArray n b ws.toArray n2 ?_ ?_ ?_) ⟨hn, vis_of _ _ hb, ?_⟩
        · simp [Builtin.List.listTooLong, sizeLine]; omega
        · rw [List.size_toArray, sizeLine_eq]; omega
        · rw [List.size_toArray, List.size_toArray, sizeLine_eq]; omega
        · obtain ⟨n', hn'⟩ := mapSeq_is (n := n) (f := fun xs => xs ++ ws.toArray) (xs := vs.toArray) (ys := (vs ++ ws).toArray) (by simp)
          exact hQ _ _ (vs ++ ws) (Heap.SameBut.update ..) ⟨n', Eq.trans (Heap.get?_update_self _ hn rfl) hn'⟩ (hr.append rb)
      · cases e
    · cases e
  rw [if_neg h3] at e
  cases e

variable {own₀ : List Addr} {Pr : Addr → Obj → Prop} {Vs : Heap} {n₀ : Nat} {ad₀ ad : Nat → Addr} {env : Env} {h h' : Heap} {st : St}
/-- an owned thing is written -/
theorem Run.upd (R : Run W own₀ Pr Vs n₀ ad₀ env ad own h st) {i : Nat} {x y : OD} (e : st.σ[i]? = some x) (n : x ≠ .gone) (hs : Heap.SameBut (ad i) h h') (hy : y ≠ .gone) (live : ∃ o, h'.get? (ad i) = some o) (d : ODAt W own h' (ad i) y) :
    Run W own₀ Pr Vs n₀ ad₀ env ad own h' ⟨st.ρ, st.σ.set i y⟩ := by
  obtain ⟨a1, a2, a3, a4, a5⟩ := R.od i x e n
  have u : Up (hideAll h own) (hideAll h' own) := vis_same a1 hs
  obtain ⟨o, ho⟩ := live
  have ok' : Ok W own h' := R.frm.sees.ok.same a1 a3 hs ho
  have kr : ∀ a, RdF env st.ρ a → ∀ o, h.get? a = some o → h'.get? a = some o := fun a ha o q => (hs.2 a fun z => a4 (z ▸ ha)).trans q
  have gt : ∀ {j z}, (st.σ.set i y)[j]? = some z → z ≠ .gone → (j = i ∧ z = y) ∨ (j ≠ i ∧ st.σ[j]? = some z) := fun {j z} q nz => by
    rw [List.getElem?_set] at q
    by_cases hj : i = j
    · rw [if_pos hj] at q
      split at q
      · cases q; exact .inl ⟨hj.symm, rfl⟩
      · cases q
    · rw [if_neg hj] at q; exact .inr ⟨fun z => hj z.symm, q⟩
  refine ⟨R.frm.move u kr ok' fun a ha => R.frm.wrOwn ha, R.sub, R.hP₀, fun a o p => ?_, fun j z q nz => ?_, fun j k z w q1 q2 n1 n2 q => ?_, fun z k b q nb => ?_, R.base, ?_, fun z k b q j hj => ?_, R.vis.trans u, R.nf⟩
  · obtain ⟨p1, p2, p3, p4⟩ := R.prot a o p
    refine ⟨(hs.2 a (p4 i x e n)).trans p1, p2, p3, fun j z q nz => ?_⟩
    rcases gt q nz with ⟨rfl, _⟩ | ⟨_, q'⟩
    · exact p4 j x e n
    · exact p4 j z q' nz
  · rcases gt q nz with ⟨rfl, rfl⟩ | ⟨hj, q'⟩
    · exact ⟨a1, a2, a3, a4, d⟩
    · obtain ⟨b1, b2, b3, b4, b5⟩ := R.od j z q' nz
      exact ⟨b1, b2, b3, b4, b5.move u fun o q => (hs.2 _ fun w => hj (R.inj j i z x q' e nz n w)).trans q⟩
  · have q1' : ∃ z', st.σ[j]? = some z' ∧ z' ≠ .gone := by
      rcases gt q1 n1 with ⟨rfl, _⟩ | ⟨_, q'⟩
      · exact ⟨x, e, n⟩
      · exact ⟨z, q', n1⟩
    have q2' : ∃ z', st.σ[k]? = some z' ∧ z' ≠ .gone := by
      rcases gt q2 n2 with ⟨rfl, _⟩ | ⟨_, q'⟩
      · exact ⟨x, e, n⟩
      · exact ⟨w, q', n2⟩
    obtain ⟨z1, e1, m1⟩ := q1'
    obtain ⟨z2, e2, m2⟩ := q2'
    exact R.inj j k z1 z2 e1 e2 m1 m2 q
  · obtain ⟨v, B, w⟩ := R.bd z k b q nb
    exact ⟨v, bound_keep q kr B, w.up u⟩
  · show n₀ ≤ (st.σ.set i y).length
    rw [List.length_set]; exact R.len
  · show j < (st.σ.set i y).length
    rw [List.length_set]; exact R.ix z k b q j hj
end
end Mine

namespace Mine

/-- the names read in an expression -/
noncomputable def nm : Nat → Expr → List Str
  | 0, _ => []
  | n + 1, e => match e with
    | .Name x _ => [x]
    | .BinOp l _ r _ => nm n l ++ nm n r
    | .UnaryOp _ x _ => nm n x
    | .BoolOp _ vs _ => vs.flatMap (nm n)
    | .Compare l _ rs _ => nm n l ++ rs.flatMap (nm n)
    | .Call f as _ _ => nm n f ++ as.flatMap (nm n)
    | .Attribute o _ _ => nm n o
    | .Subscript v i _ => nm n v ++ nm n i
    | .Slice lo hi st _ => lo.elim [] (nm n) ++ hi.elim [] (nm n) ++ st.elim [] (nm n)
    | .List es _ => es.flatMap (nm n)
    | .Tuple es _ _ => es.flatMap (nm n)
    | .ListComp elt gens _ _ => nm n elt ++ gens.flatMap fun g => nm n g.iter ++ g.ifs.flatMap (nm n)
    | _ => []

inductive Fl where
  | nxt (st : St)
  | ret (d : Dt) (σ : List OD)

noncomputable def thE (n₀ : Nat) (st : St) (e : Expr) : St := thawAll n₀ st (nm 12 e)
noncomputable def ownList (st : St) (x : Str) : Option (Nat × List Dt) := match st.ρ.lookup x with
  | some (.var _ (.lst i)) => (match st.σ[i]? with
    | some (.list ds) => some (i, ds)
    | _ => none)
  | _ => none
noncomputable def ownIns (st : St) (x : Str) : Option (Nat × List Dt) := match st.ρ.lookup x with
  | some (.var _ (.ins i)) => (match st.σ[i]? with
    | some (.list ds) => some (i, ds)
    | _ => none)
  | _ => none

noncomputable def isNew : Expr → Bool
  | .Call (.Name f _) [] [] _ => f = ("Entry" : Str)
  | _ => false
noncomputable def lstOf : Expr → Option (List Expr)
  | .List es _ => some es
  | _ => none
theorem lstOf_form {v : Expr} {es : List Expr} (h : lstOf v = some es) : ∃ p, v = .List es p := by
  cases v with
  | List es' p => cases h; exact ⟨p, rfl⟩
  | _ => exact nomatch (show (none : Option (List Expr)) = some es from h)
/-- a value is stored under a name -/
noncomputable def asgn (I : Ev) (n₀ : Nat) (st : St) (x : Str) (v : Expr) : Option Fl := if isNew v = true ∧ isGlob st.ρ "Entry" = true then (put st.ρ x (.ins st.σ.length)).map fun ρ' => .nxt ⟨ρ', st.σ ++ [.list []]⟩ else match lstOf v with
  | some es => (evs (I.e (thE n₀ st v).ρ) es).bind fun ds => if ds.length ≤ 4096 then
      (put (thE n₀ st v).ρ x (.lst (thE n₀ st v).σ.length)).map fun ρ' => .nxt ⟨ρ', (thE n₀ st v).σ ++ [.list ds]⟩ else none
  | none => (I.e (thE n₀ st v).ρ v).bind fun d => (put (thE n₀ st v).ρ x (.val d)).map fun ρ' => .nxt ⟨ρ', (thE n₀ st v).σ⟩
/-- an owned list is changed in place -/
noncomputable def mutS (I : Ev) (n₀ : Nat) (st : St) (own : St → Option (Nat × List Dt)) (m : Str) (args : List Expr) : Option Fl :=
  (evs (I.e (args.foldl (thE n₀) st).ρ) args).bind fun ds => (own (args.foldl (thE n₀) st)).bind fun p => (mutD m p.2 ds).map fun ds' => .nxt ⟨(args.foldl (thE n₀) st).ρ, (args.foldl (thE n₀) st).σ.set p.1 (.list ds')⟩

noncomputable abbrev Fx := Unit
noncomputable def noFx : Fx := ()
noncomputable def FxOk (W : Wd) (K : Nat) (F : Fx) : Prop := True
theorem noFx_ok (W : Wd) (K : Nat) : FxOk W K noFx := trivial

noncomputable def exB (f : Stmt → St → Option Fl) : List Stmt → St → Option Fl
  | [], st => some (.nxt st)
  | s :: r, st => (f s st).bind fun
    | .nxt st' => exB f r st'
    | .ret d σ => some (.ret d σ)
noncomputable def forGo (f : St → Option Fl) (t : Expr) : List Dt → St → Option Fl
  | [], st => some (.nxt st)
  | d :: ds, st => (bindT t d st.ρ).bind fun ρ' => (f ⟨ρ', st.σ⟩).bind fun
    | .nxt st' => forGo f t ds st'
    | .ret d σ => some (.ret d σ)
noncomputable def exS (I : Ev) (F : Fx) (n₀ : Nat) : Nat → Stmt → St → Option Fl
  | 0, _, _ => none
  | n + 1, s, st => match s with
    | .Assign [.Name x _] v _ => asgn I n₀ st x v
    | .Expr (.Call (.Attribute (.Name x _) m ap) args [] cp) _ => if (ap.endLine == cp.line) = false ∨ args.length > 8 then none else mutS I n₀ st (fun st => ownList st x) m args
    | .Expr (.Call (.Attribute (.Attribute (.Name x _) a _) m ap) args [] cp) _ => if a = "rulelines" then (if (ap.endLine == cp.line) = false ∨ args.length > 8 then none else mutS I n₀ st (fun st => ownIns st x) m args) else none
    | .If t b o _ => (I.t (lend st) t).bind fun c => exB (exS I F n₀ n) (if c then b else o) st
    | .For t it b [] _ => (iterE I (thE n₀ st it).ρ t it).bind fun ds => forGo (exB (exS I F n₀ n) b) t ds (thE n₀ st it)
    | .Return (some e) _ => (I.e (thE n₀ st e).ρ e).map fun d => .ret d (thE n₀ st e).σ
    | _ => none
end Mine

namespace Mine

/-- what the statements need of the evaluator -/
structure XOk (W : Wd) (K : Nat) (I : Ev) : Prop where
  H : IOk W K I
  B : BltOk W
  N : InsOk W
  set : ∀ ρ es k p, I.e ρ (.Set es k p) = none
  sc : ∀ ρ a b c d, I.e ρ (.SetComp a b c d) = none
  dc : ∀ ρ a b c d e, I.e ρ (.DictComp a b c d e) = none
  comp : ∀ ρ elt gens sc p d, I.e ρ (.ListComp elt gens sc p) = some d → ∃ out I', d = .list out ∧ IOk W K I' ∧ (∀ ρ es k p, I'.e ρ (.Set es k p) = none) ∧ compE I' ρ elt gens sc = some out

noncomputable def FQ (W : Wd) (own₀ : List Addr) (Pr : Addr → Obj → Prop) (Vs : Heap) (n₀ : Nat) (ad₀ : Nat → Addr) (env : Env) (s : Shared) (Q : Flow → Shared → Prop) : Fl → Prop
  | .nxt st' => ∀ h' tk own' ad', Run W own₀ Pr Vs n₀ ad₀ env ad' own' h' st' → Q .next { s with heap := h', toks := tk }
  | .ret d σ' => ∀ h' tk own' ad' ρ' v, Run W own₀ Pr Vs n₀ ad₀ env ad' own' h' ⟨ρ', σ'⟩ → Rep W (hideAll h' own') v d → Q (.ret v) { s with heap := h', toks := tk }
noncomputable def SS (W : Wd) (K n₀ : Nat) (f : Stmt → St → Option Fl) : Prop := ∀ (own₀ : List Addr) (Pr : Addr → Obj → Prop) (Vs : Heap) (ad₀ ad : Nat → Addr) (own : List Addr) (env : Env) (st : St) (stm : Stmt) (fl : Fl) (A : Around) (E : Value → Shared → Prop) (s : Shared) (Q : Flow → Shared → Prop),
  f stm st = some fl → AOk W (K + 4) A → Run W own₀ Pr Vs n₀ ad₀ env ad own s.heap st → FQ W own₀ Pr Vs n₀ ad₀ env s Q fl → wpAny W.M A (exec stm env) Q E s
noncomputable def SB (W : Wd) (K n₀ : Nat) (f : St → Option Fl) (b : List Stmt) : Prop := ∀ (own₀ : List Addr) (Pr : Addr → Obj → Prop) (Vs : Heap) (ad₀ ad : Nat → Addr) (own : List Addr) (env : Env) (st : St) (fl : Fl) (A : Around) (E : Value → Shared → Prop) (s : Shared) (Q : Flow → Shared → Prop),
  f st = some fl → AOk W (K + 4) A → Run W own₀ Pr Vs n₀ ad₀ env ad own s.heap st → FQ W own₀ Pr Vs n₀ ad₀ env s Q fl → wpAny W.M A (execs b env) Q E s

section
variable {W : Wd} {K n₀ : Nat} {I : Ev} {own₀ own : List Addr} {Pr : Addr → Obj → Prop} {Vs : Heap} {ad₀ ad : Nat → Addr} {env : Env} {st : St} {A : Around} {E : Value → Shared → Prop} {s : Shared} {Q : Flow → Shared → Prop}

theorem FQ.then {fl : Fl} {h₁ : Heap} {k₁ : Tok} (q : FQ W own₀ Pr Vs n₀ ad₀ env s Q fl) : FQ W own₀ Pr Vs n₀ ad₀ env { s with heap := h₁, toks := k₁ } Q fl := by
  cases fl with
  | nxt st' => exact fun h' tk own' ad' R => q h' tk own' ad' R
  | ret d σ' => exact fun h' tk own' ad' ρ' v R r => q h' tk own' ad' ρ' v R r

theorem exB_sound {f : Stmt → St → Option Fl} (H : SS W K n₀ f) : ∀ b, SB W K n₀ (exB f b) b
  | [] => fun own₀ Pr Vs ad₀ ad own env st fl A E s Q h k R q => by
    cases h
    exact wpAny_execs_nil (q s.heap s.toks own ad R)
  | stm :: r => fun own₀ Pr Vs ad₀ ad own env st fl A E s Q h k R q => by
    rw [exB] at h
    obtain ⟨fl1, h1, h2⟩ := Option.bind_eq_some_iff.mp h
    refine wpAny_execs_cons (H own₀ Pr Vs ad₀ ad own env st stm fl1 A E s _ h1 k R ?_)
    cases fl1 with
    | nxt st' => exact fun h' tk own' ad' R' => exB_sound H r own₀ Pr Vs ad₀ ad' own' env st' fl A E _ Q h2 k R' q.then
    | ret d σ =>
      cases h2
      exact fun h' tk own' ad' ρ' v R' rv => q h' tk own' ad' ρ' v R' rv

theorem swap_pure (v : Expr) (x : Str) (p : Pos) (line : Nat) (env : Env) : ∃ b, swapsWith v (some (.Name x p)) line env = pure b := by
  cases v with
  | ListComp => exact ⟨_, rfl⟩
  | SetComp => exact ⟨_, rfl⟩
  | DictComp => exact ⟨_, rfl⟩
  | _ => exact ⟨false, rfl⟩

theorem store_run {ρ' : Ro} {x : Str} {b : Bd} {v : Value} {Q : Unit → Shared → Prop} (R : Run W own₀ Pr Vs n₀ ad₀ env ad own s.heap st) (hp : put st.ρ x b = some ρ') (hi : ∀ i ∈ b.idx, i < st.σ.length) (hr : ∀ d, b.frz = some d → Rep W (hideAll s.heap own) v d)
    (hb : b.idx ≠ [] → BdAt W (hideAll s.heap own) ad v b) (hQ : ∀ h' tk, Run W own₀ Pr Vs n₀ ad₀ env ad own h' ⟨ρ', st.σ⟩ → Chg (WrF env st.ρ) s.heap h' → Q () { s with heap := h', toks := tk }) : wpAny W.M A (storeName env x v) Q E s :=
  store_sound R.frm hp hr fun h' tk k F' C B hl bk => hQ h' tk (R.put hp F' C B hl bk hi fun n => (hb n).up (vis_chg (fun a z => R.frm.wrOwn z) C)) C

theorem asgn_val (X : XOk W K I) {x : Str} {v : Expr} {p pos : Pos} {d : Dt} {ρ' : Ro} (hv : I.e st.ρ v = some d) (hp : put st.ρ x (.val d) = some ρ') (k : AOk W (K + 4) A) (R : Run W own₀ Pr Vs n₀ ad₀ env ad own s.heap st)
    (q : FQ W own₀ Pr Vs n₀ ad₀ env s Q (.nxt ⟨ρ', st.σ⟩)) : wpAny W.M A (exec (.Assign [.Name x p] v pos) env) Q E s := by
  obtain ⟨b, hb⟩ := swap_pure v x p pos.line env
  cases b with
  | false =>
    refine wpAny_Assign_Name (X.H.e st.ρ v d own env A E s _ hv k R.frm.sees fun h1 t1 u l1 o1 r1 => ?_) hb
    refine store_run (s := { s with heap := h1, toks := t1 }) (R.le l1 o1) hp (fun i hi => nomatch hi) (fun d' e => by cases e; exact r1) (fun n => absurd rfl n) fun h2 t2 R2 _ => ?_
    exact q h2 t2 own ad R2
  | true =>
    cases v with
    | ListComp elt gens sc cp =>
      obtain ⟨out, I', rfl, H', set', hc⟩ := X.comp _ _ _ _ _ _ hv
      rw [exec_Assign_Name_used _ _ _ _ hb]
      refine wpAny_bind (wpAny_standAt (wpAny_bind ?_))
      cases gens with
      | nil => cases hc
      | cons g r =>
        obtain ⟨t, it, ifs, a⟩ := g
        have ha : a = 0 := by
          by_cases h : a = 0
          · exact h
          · unfold compE at hc; dsimp only at hc; rw [if_pos (.inl h)] at hc; cases hc
        subst ha
        obtain ⟨h1, h2, h3, h4, h5⟩ := comp_core (E := E) (pos := cp) (RR := fun acc C => compPost W.M A E (some (assign (.Name x p) env)) (fun _ s' => Q .next s') acc C) X.B H' set' hc k R.frm.sees fun C D h' tk hC hD hne hns l o rp => by
          obtain ⟨m, hm⟩ := hns
          show wpAny _ A (assign (.Name x p) env (.ref D)) _ _ _
          have hCo : C ∉ own := R.frm.sees.ok.new hC
          have hCP : C ≠ W.P := fun z => hCo (z ▸ R.frm.sees.ok.hP)
          have u : Up (hideAll s.heap own) (hideAll h' (C :: own)) := fun b ob e => by
            obtain ⟨e1, n1⟩ := vis_iff.mp e
            refine vis_iff.mpr ⟨l b ob (fun z => n1 (z ▸ R.frm.sees.ok.hP)) e1, fun z => ?_⟩
            rcases List.mem_cons.mp z with rfl | z
            · rw [hC] at e1; cases e1
            · exact n1 z
          have R1 : Run W own₀ Pr Vs n₀ ad₀ env ad (C :: own) h' st := R.move u (fun a ha ob e => l a ob (R.frm.rdLive ha).1 e) (fun i y e n ob w => l _ ob (R.od i y e n).2.2.1 w) o (fun a ha => List.mem_cons_of_mem _ (R.frm.wrOwn ha))
            (fun i y e n => ⟨List.mem_cons_of_mem _ (R.od i y e n).1, (R.od i y e n).2.1⟩) (fun a ha => List.mem_cons_of_mem _ (R.sub a ha)) R.hP₀ (fun a ob pr => let ⟨p1, p2, p3⟩ := R.prot a ob pr; ⟨l a ob p2 p1, p2, p3⟩) (R.vis.trans u)
          have hnC : ¬ RdF env st.ρ C := fun z => by obtain ⟨_, ob, e⟩ := R.frm.rdLive z; rw [hC] at e; cases e
          refine wpAny_assign_Name (store_run (s := { s with heap := h', toks := tk }) R1 hp (fun i hi => nomatch hi) (fun d' e => by cases e; exact rp) (fun n => absurd rfl n) fun h'' tk'' R2 ch => ?_)
          refine ⟨m, hm.at fun ob e => ch C ob (fun z => hnC z.rd) e, fun h3 hs => ?_⟩
          have u3 : Up (hideAll h'' (C :: own)) (hideAll h3 own) := fun b ob e => by
            obtain ⟨e1, n1⟩ := vis_iff.mp e
            exact vis_iff.mpr ⟨(hs.2 b fun z => n1 (z ▸ List.mem_cons_self)).trans e1, fun z => n1 (List.mem_cons_of_mem _ z)⟩
          have keepC : ∀ a, a ≠ C → ∀ ob, h''.get? a = some ob → h3.get? a = some ob := fun a n ob e => (hs.2 a n).trans e
          have ok3 : Ok W own h3 := R2.frm.sees.ok.move u3 R.frm.sees.ok.hP (keepC _ (Ne.symm hCP)) fun a ha => by
            obtain ⟨ob, e⟩ := R2.frm.sees.ok.live a (List.mem_cons_of_mem _ ha)
            exact ⟨ob, keepC a (fun z => hCo (z ▸ ha)) ob e⟩
          have hr := put_rd (env := env) hp
          have hw := WrF.put (env := env) hp
          have adne : ∀ i y, st.σ[i]? = some y → y ≠ .gone → ad i ≠ C := fun i y e n z => hCo (z ▸ (R.od i y e n).1)
          refine q h3 tk'' own ad (R2.move u3 (fun a ha ob e => keepC a (fun z => hnC (z ▸ (hr a).mp ha)) ob e) (fun i y e n ob w => keepC _ (adne i y e n) ob w) ok3 (fun a ha => R.frm.wrOwn ((hw a).mp ha))
            (fun i y e n => ⟨(R.od i y e n).1, (R.od i y e n).2.1⟩) R.sub R.hP₀ (fun a ob pr => ?_) (R2.vis.trans u3))
          obtain ⟨p1, p2, p3⟩ := R2.prot a ob pr
          refine ⟨keepC a (fun z => ?_) ob p1, p2, p3⟩
          have := (R.prot a ob pr).1
          rw [z, hC] at this; cases this
        show wpAny W.M A (comprehension (.ListComp elt (⟨t, it, ifs, 0⟩ :: r) sc cp) sc env _ (newList []) false (eval it env) (some (assign (.Name x p) env)) >>= fun _ => pure ()) _ _ s
        refine wpAny_bind <| wpAny_mono (wpAny_comprehension_free (use := some (assign (.Name x p) env)) (Q := fun _ s' => Q .next s') rfl h2 h3 h4 h5 h1) (fun _ s' hq => ?_) fun _ _ e => e
        exact wpAny_pure (wpAny_pure hq)
    | SetComp a b c d => rw [X.sc] at hv; cases hv
    | DictComp a b c d e => rw [X.dc] at hv; cases hv
    | _ => cases hb
end
end Mine

namespace Mine
section
variable {W : Wd} {K n₀ : Nat} {I : Ev} {own₀ own : List Addr} {Pr : Addr → Obj → Prop} {Vs : Heap} {ad₀ ad : Nat → Addr} {env : Env} {st : St} {A : Around} {E : Value → Shared → Prop} {s : Shared} {Q : Flow → Shared → Prop}

theorem asgn_list (X : XOk W K I) {x : Str} {es : List Expr} {lp p pos : Pos} {ds : List Dt} {ρ' : Ro} (hv : evs (I.e st.ρ) es = some ds) (hl : ds.length ≤ 4096) (hp : put st.ρ x (.lst st.σ.length) = some ρ') (k : AOk W (K + 4) A) (R : Run W own₀ Pr Vs n₀ ad₀ env ad own s.heap st)
    (q : FQ W own₀ Pr Vs n₀ ad₀ env s Q (.nxt ⟨ρ', st.σ ++ [.list ds]⟩)) : wpAny W.M A (exec (.Assign [.Name x p] (.List es lp) pos) env) Q E s := by
  refine wpAny_Assign_Name (wpAny_List_spliced (args_sound X.H hv k R.frm.sees fun h1 t1 vs l o r => ⟨by rw [r.length, sizeLine_eq]; omega, ?_⟩)) rfl
  have R1 := R.le l o
  have ha : h1.get? h1.objs.size = none := fresh_none (Nat.le_refl _)
  have u : Up h1 (h1.push { cls := .type "list", data := .seq vs.toArray }) := Up.push _ _
  have hg : (h1.push { cls := .type "list", data := .seq vs.toArray }).get? h1.objs.size = some { cls := .type "list", data := .seq vs.toArray } := Heap.get?_push_size _ rfl
  have uv : Up (hideAll h1 own) (hideAll (h1.push { cls := .type "list", data := .seq vs.toArray }) (h1.objs.size :: own)) := vis_more (fun b o _ e => u b o e) fun b hb => by
    rcases List.mem_cons.mp hb with rfl | hb
    · exact .inr ha
    · exact .inl hb
  have ok2 : Ok W (h1.objs.size :: own) (h1.push { cls := .type "list", data := .seq vs.toArray }) := o.more u (fun b hb => List.mem_cons_of_mem _ hb) fun b hb => by
    rcases List.mem_cons.mp hb with rfl | hb
    · exact .inr ⟨ha, _, hg⟩
    · exact .inl hb
  have R2 := R1.newOD (x := .list ds) ha u.le ok2 (by intro z; cases z) ⟨vs, ⟨0, hg⟩, r.up uv⟩
  refine store_run (s := { s with heap := _, toks := t1 }) (st := ⟨st.ρ, st.σ ++ [.list ds]⟩) R2 hp (fun i hi => ?_) (fun d' e => by cases e) (fun _ => ?_) fun h2 t2 R3 _ => q h2 t2 _ _ R3
  · cases List.mem_singleton.mp hi
    show st.σ.length < (st.σ ++ [OD.list ds]).length
    simp
  · show Value.ref _ = Value.ref (if st.σ.length = st.σ.length then h1.objs.size else ad st.σ.length)
    rw [if_pos rfl]

theorem mut_tail (X : XOk W K I) {o : Expr} {m : Str} {ap cp : Pos} {args : List Expr} {das ds ds' : List Dt} {i : Nat} (e : mutD m ds das = some ds') (ha : evs (I.e st.ρ) args = some das) (hσ : st.σ[i]? = some (.list ds)) (hl : (ap.endLine == cp.line) = true) (hn : args.length ≤ 8)
    (k : AOk W (K + 4) A) (R : Run W own₀ Pr Vs n₀ ad₀ env ad own s.heap st) (q : FQ W own₀ Pr Vs n₀ ad₀ env s Q (.nxt ⟨st.ρ, st.σ.set i (.list ds')⟩)) :
    wpAny W.M A (methodCall o m ap cp env (.ref (ad i)) (args.length + ([] : List Keyword).length) (backTo cp (starEach args env)) (backToKw cp (keywordEach [] env))) (fun v s' => match v with | .ref _ => False | _ => Q .next s') E s := by
  have e1 := starless (env := env) X.H ha
  have hform : methodCallForm (args.length + ([] : List Keyword).length) (backTo cp (starEach args env)) (backToKw cp (keywordEach [] env)) = true := by
    unfold methodCallForm
    rw [e1, backTo_plain]
    simp [keywordEach, backToKw]
    omega
  have hpos : methodCallPos true o env ap cp = pure cp := by unfold methodCallPos; simp [hl]
  obtain ⟨id, slot, hty, hm⟩ := mut_sound (W := W) (A := A) (E := E) (a := ad i) e
  have nz : ∀ {l : List Dt}, OD.list l ≠ .gone := fun z => by cases z
  unfold methodCall
  rw [hform]
  show wpAny W.M A (holding _ (getMethod _ m _) >>= _) _ E _
  obtain ⟨vs, ⟨n, hp⟩, hr⟩ := (R.od i _ hσ nz).2.2.2.2
  refine wpAny_bind (wpAny_holding (getMethod_builtin (T := "list") ⟨_, hp, rfl⟩ F.plainAttrs_list slot hty (fun a z => by cases z; exact ⟨_, hp, rfl⟩) ?_))
  refine wpAny_bind (wpAny_of_eq hpos ?_)
  refine callWith_sound (first := [.ref (ad i)]) X.H ha k R.frm.sees (fun h' _ _ => keep_plain (fun a q => by cases q) h') fun h1 t1 us l o r => ?_
  have R1 := R.le l o
  obtain ⟨vs, hp, hr⟩ := (R1.od i _ hσ nz).2.2.2.2
  refine hm { s with heap := h1, toks := t1 } _ own vs us hp hr r fun h2 t2 vs' hs hp' hr' => ?_
  have u : Up (hideAll h1 own) (hideAll h2 own) := vis_same (R1.od i _ hσ nz).1 hs
  exact q h2 t2 own ad (R1.upd hσ nz hs nz (let ⟨n, e⟩ := hp'; ⟨_, e⟩) ⟨vs', hp', hr'.up u⟩)

theorem mut_list (X : XOk W K I) {x m : Str} {xp ap cp pos : Pos} {args : List Expr} {das ds ds' : List Dt} {i : Nat} (ho : ownList st x = some (i, ds)) (e : mutD m ds das = some ds') (ha : evs (I.e st.ρ) args = some das) (hl : (ap.endLine == cp.line) = true) (hn : args.length ≤ 8)
    (k : AOk W (K + 4) A) (R : Run W own₀ Pr Vs n₀ ad₀ env ad own s.heap st) (q : FQ W own₀ Pr Vs n₀ ad₀ env s Q (.nxt ⟨st.ρ, st.σ.set i (.list ds')⟩)) :
    wpAny W.M A (exec (.Expr (.Call (.Attribute (.Name x xp) m ap) args [] cp) pos) env) Q E s := by
  unfold ownList at ho
  split at ho
  · rename_i kk j hlk
    split at ho
    · rename_i ds' hσ
      cases ho
      obtain ⟨v, B, hv⟩ := R.bd x kk _ hlk (by intro z; cases z)
      have hv' : v = .ref (ad i) := hv
      subst hv'
      refine wpAny_Expr ?_ (by unfold interactive; rw [R.frm.sees.envOk.kind]; rfl) rfl
      rw [arm_eval_Call, base_ok rfl]
      refine wpAny_bind (wpAny_Name (load_bound R.frm.sees.envOk.kind (R.frm.sees.at' x _ hlk).1 B ?_) (R.frm.sees.nodbg x _ hlk))
      exact wpAny_bind (wpAny_standAt (mut_tail X e ha hσ hl hn k R q))
    · cases ho
  · cases ho

theorem mut_ins (X : XOk W K I) {x m : Str} {xp yp ap cp pos : Pos} {args : List Expr} {das ds ds' : List Dt} {i : Nat} (ho : ownIns st x = some (i, ds)) (e : mutD m ds das = some ds') (ha : evs (I.e st.ρ) args = some das) (hl : (ap.endLine == cp.line) = true) (hn : args.length ≤ 8)
    (k : AOk W (K + 4) A) (R : Run W own₀ Pr Vs n₀ ad₀ env ad own s.heap st) (q : FQ W own₀ Pr Vs n₀ ad₀ env s Q (.nxt ⟨st.ρ, st.σ.set i (.list ds')⟩)) :
    wpAny W.M A (exec (.Expr (.Call (.Attribute (.Attribute (.Name x xp) "rulelines" yp) m ap) args [] cp) pos) env) Q E s := by
  unfold ownIns at ho
  split at ho
  · rename_i kk j hlk
    split at ho
    · rename_i ds' hσ
      cases ho
      obtain ⟨v, B, hv⟩ := R.bd x kk _ hlk (by intro z; cases z)
      have hv' : W.INS (hideAll s.heap own) v (ad i) := hv
      refine wpAny_Expr ?_ (by unfold interactive; rw [R.frm.sees.envOk.kind]; rfl) rfl
      rw [arm_eval_Call, base_ok rfl, arm_eval_Attribute, base_ok rfl]
      refine wpAny_bind (wpAny_bind (wpAny_Name (load_bound R.frm.sees.envOk.kind (R.frm.sees.at' x _ hlk).1 B ?_) (R.frm.sees.nodbg x _ hlk)))
      refine wpAny_bind (wpAny_standAt (wpAny_bind (wpAny_holding (X.N.attr own A E s _ v (ad i) R.frm.sees.ok hv' fun tk => ?_))))
      refine wpAny_bind (wpAny_letTemporaryGo (wpAny_pure ?_))
      exact wpAny_bind (wpAny_standAt (mut_tail (s := { s with toks := tk }) X e ha hσ hl hn k R q.then))
    · cases ho
  · cases ho

theorem Run.weaken {own₁ : List Addr} {Pr₁ : Addr → Obj → Prop} {Vs₁ : Heap} {h : Heap} (R : Run W own₁ Pr₁ Vs₁ n₀ ad₀ env ad own h st) (s : ∀ a ∈ own₀, a ∈ own₁) (hP : W.P ∈ own₀) (p : ∀ a o, Pr a o → Pr₁ a o) (v : Up Vs Vs₁) : Run W own₀ Pr Vs n₀ ad₀ env ad own h st :=
  ⟨R.frm, fun a ha => R.sub a (s a ha), hP, fun a o q => R.prot a o (p a o q), fun i x e n => let ⟨a1, a2, a3⟩ := R.od i x e n; ⟨a1, a2.imp (fun z m => z (s _ m)) id, a3⟩, R.inj, R.bd, R.base, R.len, R.ix, v.trans R.vis, R.nf⟩

theorem If_sound (X : XOk W K I) {t : Expr} {b o : List Stmt} {pos : Pos} {c : Bool} {fl : Fl} {f : Stmt → St → Option Fl} (H : SS W K n₀ f) (ht : I.t (lend st) t = some c) (hf : exB f (if c then b else o) st = some fl) (k : AOk W (K + 4) A) (R : Run W own₀ Pr Vs n₀ ad₀ env ad own s.heap st)
    (q : FQ W own₀ Pr Vs n₀ ad₀ env s Q fl) : wpAny W.M A (exec (.If t b o pos) env) Q E s := by
  obtain ⟨own', S, back⟩ := R.lend X.N
  refine wpAny_If (X.H.t _ t c own' env A E s _ ht k S fun h1 t1 l1 o1 => ?_)
  have R1 := back h1 l1 o1
  cases c with
  | true => exact exB_sound H b own₀ Pr Vs ad₀ ad own env st fl A E _ Q hf k R1 q.then
  | false => exact exB_sound H o own₀ Pr Vs ad₀ ad own env st fl A E _ Q hf k R1 q.then

end
end Mine

namespace Mine
section
variable {W : Wd} {K n₀ : Nat} {I : Ev} {own₀ own : List Addr} {Pr : Addr → Obj → Prop} {Vs : Heap} {ad₀ ad : Nat → Addr} {env : Env} {st : St} {A : Around} {E : Value → Shared → Prop} {s : Shared} {Q : Flow → Shared → Prop}

/-- names are bound to data in sight -/
theorem assign_run {ρ' : Ro} {t : Expr} {d : Dt} {v : Value} {g : Heap} {Q : Unit → Shared → Prop} (hh : A.handled = none) (h : bindT t d st.ρ = some ρ') (R : Run W own₀ Pr Vs n₀ ad₀ env ad own s.heap st) (u : Up g (hideAll s.heap own)) (r : RepT W t g s.heap v d)
    (hQ : ∀ h' tk, Run W own₀ Pr Vs n₀ ad₀ env ad own h' ⟨ρ', st.σ⟩ → Q () { s with heap := h', toks := tk }) : wpAny W.M A (assign t env v) Q E s := by
  have many : ∀ {ts : List Expr} {ds : List Dt} {vs : List Value} {st : St} {ρ' : Ro} {s : Shared} {Q : Unit → Shared → Prop}, putAll st.ρ ts ds = some ρ' → Run W own₀ Pr Vs n₀ ad₀ env ad own s.heap st → Reps W (hideAll s.heap own) vs ds →
      (∀ h' tk, Run W own₀ Pr Vs n₀ ad₀ env ad own h' ⟨ρ', st.σ⟩ → Q () { s with heap := h', toks := tk }) → wpAny W.M A (assignInOrder ((assignEach ts env).map (·.2)) vs) Q E s := by
    intro ts
    induction ts with
    | nil =>
      intro ds vs st ρ' s Q h R rs hQ
      rcases putAll_inv h with ⟨_, rfl, rfl⟩ | ⟨_, _, _, _, _, _, e, _⟩
      · cases rs; exact wpAny_assignInOrder_none (hQ s.heap s.toks R)
      · cases e
    | cons t ts ih =>
      intro ds vs st ρ' s Q h R rs hQ
      rcases putAll_inv h with ⟨e, _⟩ | ⟨x, p, r', d, ds', q, e, rfl, h1, h2⟩
      · cases e
      · cases e
        cases rs with
        | cons hv hr =>
          rw [show assignEach (.Name x p :: ts) env = (false, assign (.Name x p) env) :: assignEach ts env from rfl]
          refine wpAny_assignInOrder_more (wpAny_assign_Name (store_run R h1 (fun i hi => nomatch hi) (fun d' e => by cases e; exact hv) (fun n => absurd rfl n) fun h' tk R' C => ?_))
          have u : Up (hideAll s.heap own) (hideAll h' own) := vis_chg (fun a z => R.frm.wrOwn z) C
          exact ih (st := ⟨q, st.σ⟩) (s := { s with heap := h', toks := tk }) h2 R' (hr.up u) fun h'' tk' R'' => hQ h'' tk' R''
  rcases bindT_inv h with ⟨x, p, rfl, h⟩ | ⟨ts, k, pos, ds, rfl, rfl, _, h⟩
  · rcases r with r | ⟨T, vs, ds, ht, _⟩
    · exact wpAny_assign_Name (store_run R h (fun i hi => nomatch hi) (fun d' e => by cases e; exact r.up u) (fun n => absurd rfl n) fun h' tk R' C => hQ h' tk R')
    · cases ht
  · have hT : ∃ T vs, v = .ref T ∧ s.heap.IsTuple T vs.toArray ∧ Reps W g vs ds := by
      rcases r with r | ⟨T, vs, ds', _, rfl, e, hT, hr⟩
      · obtain ⟨T, vs, rfl, hT, hr⟩ := rep_tuple r
        exact ⟨T, vs, rfl, (hT.at (u _)).at (vis_of _), hr⟩
      · cases e; exact ⟨T, vs, rfl, hT, hr⟩
    obtain ⟨T, vs, rfl, hT, hr⟩ := hT
    obtain ⟨e1, e2⟩ := each_starless (env := env) h
    refine wpAny_assign_Tuple hh hT (by rw [e2, List.size_toArray, hr.length]) e1 fun h' hx => ?_
    have hn : s.heap.get? s.heap.objs.size = none := fresh_none (Nat.le_refl _)
    have u' : Up s.heap h' := fun b o e => hx b o (fun z => by rw [z, hn] at e; cases e) e
    have R' := R.le u'.le (R.frm.sees.ok.up u')
    exact many (s := { s with heap := h' }) h R' ((hr.up u).up (vis_up u')) fun h'' tk R'' => hQ h'' tk R''

theorem For_sound (X : XOk W K I) {t it : Expr} {b : List Stmt} {pos : Pos} {fl : Fl} {f : St → Option Fl} {ds : List Dt} (H : SB W K n₀ f b) (hit : iterE I st.ρ t it = some ds) (hf : forGo f t ds st = some fl) (k : AOk W (K + 4) A) (R : Run W own₀ Pr Vs n₀ ad₀ env ad own s.heap st)
    (q : FQ W own₀ Pr Vs n₀ ad₀ env s Q fl) : wpAny W.M A (exec (.For t it b [] pos) env) Q E s := by
  have hI := iter_sound (A := A) (E := E) X.B X.H X.set hit k R.frm.sees
  refine wpAny_For (wpAny_mono hI.1 (fun x s₁ h₁ => wpAny_mono h₁ (fun it' s₂ h₂ => ?_) fun _ _ e => e) fun _ _ e => e) hI.2
  obtain ⟨Ia, fp, wr, St, g, h₂, tk, rfl, rfl, T, st0, l, u, ug, ok₂, hfp, hw⟩ := h₂
  have hwo : ∀ a ∈ wr, a ∉ own := fun a ha => (hfp a (T.sub a ha)).1
  have adw : ∀ i y, st.σ[i]? = some y → y ≠ .gone → ad i ∉ wr := fun i y e n m => hwo _ m (R.od i y e n).1
  have R₂ : Run W (wr ++ own₀) Pr (hideAll h₂ (wr ++ own)) n₀ ad₀ env ad (wr ++ own) h₂ st := R.move u (fun a ha ob e => l a ob (R.frm.rdLive ha).1 e) (fun i y e n ob z => l _ ob (R.od i y e n).2.2.1 z) ok₂ (fun a ha => List.mem_append_right _ (R.frm.wrOwn ha))
    (fun i y e n => ⟨List.mem_append_right _ (R.od i y e n).1, (R.od i y e n).2.1.imp (fun z m => (List.mem_append.mp m).elim (adw i y e n) z) id⟩)
    (fun a ha => by
      rcases List.mem_append.mp ha with h | h
      · exact List.mem_append_left _ h
      · exact List.mem_append_right _ (R.sub a h)) (List.mem_append_right _ R.hP₀) (fun a ob pr => let ⟨p1, p2, p3⟩ := R.prot a ob pr; ⟨l a ob p2 p1, p2, p3⟩) (Up.refl _)
  have hvs : Up Vs (hideAll h₂ (wr ++ own)) := R.vis.trans u
  have hPw : W.P ∉ wr := fun m => hwo _ m R.frm.sees.ok.hP
  have fpr : ∀ b ∈ fp, b ∉ own := fun b hb => (hfp b hb).1
  obtain ⟨V2, hV2⟩ : ∃ V2, V2 = hideAll h₂ (wr ++ own) := ⟨_, rfl⟩
  rw [← hV2] at R₂ hvs ug
  refine codeAny_forLoop_any (fun n s' => ∃ h tk q own₁ ad₁ st', s' = { s with heap := h, toks := tk } ∧ St q h ∧ forGo f t (ds.drop q) st' = some fl ∧ Run W (wr ++ own₀) Pr V2 n₀ ad₀ env ad₁ own₁ h st' ∧
      (∀ b ∈ fp, b ≠ W.P ∧ ¬ WrF env st'.ρ b ∧ ∀ i y, st'.σ[i]? = some y → y ≠ .gone → b ≠ ad₁ i) ∧ q ≤ ds.length ∧ n = ds.length + 1 - q) ?_ (ds.length + 1)
    ⟨h₂, tk, 0, wr ++ own, ad, st, rfl, st0, by simpa using hf, R₂, fun b hb => ⟨fun z => fpr b hb (z ▸ R.frm.sees.ok.hP), fun z => fpr b hb (R.frm.wrOwn z), fun i y e n z => fpr b hb (z ▸ (R.od i y e n).1)⟩, Nat.zero_le _, rfl⟩
  rintro n s' ⟨h₁, tk₁, j, own₁, ad₁, st₁, rfl, hst, hgo, R₁, hfp₁, hj, rfl⟩
  have wown : ∀ a ∈ wr, a ∈ own₁ := fun a ha => R₁.sub a (List.mem_append_left _ ha)
  have prw : ∀ a o, Pr a o → a ∉ wr := fun a o p m => by
    have := (R.prot a o p).1
    rw [hw a m] at this; cases this
  have wrd : ∀ a ∈ wr, ¬ RdF env st₁.ρ a := fun a ha z => (hfp₁ a (T.sub a ha)).2.1 (R₁.nf a z)
  by_cases hlt : j < ds.length
  · have hd : ds[j]? = some ds[j] := List.getElem?_eq_getElem hlt
    rw [List.drop_eq_getElem_cons hlt, forGo] at hgo
    obtain ⟨ρ₂, hb, hgo⟩ := Option.bind_eq_some_iff.mp hgo
    obtain ⟨fl1, hf1, hf2⟩ := Option.bind_eq_some_iff.mp hgo
    refine T.turn hd hst (fun v s₁ => rfl) fun v h₃ tk₃ rv st₃ ch₃ => ?_
    have u₃ : Up (hideAll h₁ own₁) (hideAll h₃ own₁) := fun b o e => by
      obtain ⟨a, n⟩ := vis_iff.mp e
      exact vis_iff.mpr ⟨ch₃ b o (fun z => n (wown b z)) a, n⟩
    have ok₃ : Ok W own₁ h₃ := R₁.frm.sees.ok.move u₃ R₁.frm.sees.ok.hP (fun o e => ch₃ _ o hPw e) fun a ha => by
      by_cases haw : a ∈ wr
      · exact T.live _ _ st₃ a (T.sub a haw)
      · obtain ⟨o, e⟩ := R₁.frm.sees.ok.live a ha
        exact ⟨o, ch₃ a o haw e⟩
    have R₃ : Run W (wr ++ own₀) (fun a o => Pr a o ∨ (a ∈ fp ∧ h₃.get? a = some o)) V2 n₀ ad₀ env ad₁ own₁ h₃ st₁ := R₁.move u₃ (fun a ha ob e => ch₃ a ob (fun z => wrd a z ha) e)
      (fun i y e n ob z => ch₃ _ ob (fun m => (hfp₁ _ (T.sub _ m)).2.2 i y e n rfl) z) ok₃ (fun a ha => R₁.frm.wrOwn ha) (fun i y e n => ⟨(R₁.od i y e n).1, (R₁.od i y e n).2.1⟩) R₁.sub R₁.hP₀
      (fun a ob pr => by
        rcases pr with pr | ⟨m, e⟩
        · obtain ⟨p1, p2, p3⟩ := R₁.prot a ob pr
          exact ⟨ch₃ a ob (prw a ob pr) p1, p2, p3⟩
        · exact ⟨e, hfp₁ a m⟩) (R₁.vis.trans u₃)
    refine assign_run (s := { s with heap := h₃, toks := tk₃ }) k.hh hb R₃ (ug.trans R₃.vis) rv fun h₄ tk₄ R₄ => ?_
    refine H _ _ _ ad₀ ad₁ own₁ env ⟨ρ₂, st₁.σ⟩ fl1 A _ _ _ hf1 k R₄ ?_
    cases fl1 with
    | nxt st₅ =>
      intro h₅ tk₅ own₅ ad₅ R₅
      have keepF : ∀ b ∈ fp, ∀ o, h₃.get? b = some o → h₅.get? b = some o := fun b hb o e => (R₅.prot b o (.inr ⟨hb, e⟩)).1
      refine ⟨ds.length + 1 - (j + 1), by omega, h₅, tk₅, j + 1, own₅, ad₅, st₅, rfl, T.frame _ _ _ st₃ keepF, hf2, R₅.weaken (fun a h => h) R₅.hP₀ (fun a o p => .inl p) (Up.refl _), fun b hb => ?_, hlt, rfl⟩
      obtain ⟨o, e⟩ := T.live _ _ st₃ b hb
      exact (R₅.prot b o (.inr ⟨hb, e⟩)).2
    | ret d σ =>
      cases hf2
      intro h₅ tk₅ own₅ ad₅ ρ' v R₅ rv
      exact q h₅ tk₅ own₅ ad₅ ρ' v (R₅.weaken (fun a h => List.mem_append_right _ h) R.hP₀ (fun a o p => .inl p) hvs) rv
  · have hq' : j = ds.length := by omega
    subst hq'
    rw [List.drop_length, forGo] at hgo
    cases hgo
    refine T.done _ _ _ hst fun h₃ tk₃ ch₃ => wpAny_execs_nil ?_
    let own₃ := own₁.filter fun a => !wr.contains a
    have hm : ∀ a, a ∈ own₃ ↔ a ∈ own₁ ∧ a ∉ wr := fun a => by
      rw [List.mem_filter, Bool.not_eq_true', List.contains_eq_mem, decide_eq_false_iff_not]
    have u₃ : Up (hideAll h₁ own₁) (hideAll h₃ own₃) := fun b o e => by
      obtain ⟨a, n⟩ := vis_iff.mp e
      exact vis_iff.mpr ⟨ch₃ b o (fun z => n (wown b z)) a, fun z => n ((hm b).mp z).1⟩
    have ok₃ : Ok W own₃ h₃ := R₁.frm.sees.ok.move u₃ ((hm _).mpr ⟨R₁.frm.sees.ok.hP, hPw⟩) (fun o e => ch₃ _ o hPw e) fun a ha => by
      obtain ⟨a1, a2⟩ := (hm a).mp ha
      obtain ⟨o, e⟩ := R₁.frm.sees.ok.live a a1
      exact ⟨o, ch₃ a o a2 e⟩
    have adw₁ : ∀ i y, st₁.σ[i]? = some y → y ≠ .gone → ad₁ i ∉ wr := fun i y e n m => (hfp₁ _ (T.sub _ m)).2.2 i y e n rfl
    have R₃ : Run W own₀ Pr Vs n₀ ad₀ env ad₁ own₃ h₃ st₁ := R₁.move u₃ (fun a ha ob e => ch₃ a ob (fun z => wrd a z ha) e) (fun i y e n ob z => ch₃ _ ob (adw₁ i y e n) z) ok₃
      (fun a ha => (hm a).mpr ⟨R₁.frm.wrOwn ha, fun z => (hfp₁ a (T.sub a z)).2.1 ha⟩)
      (fun i y e n => ⟨(hm _).mpr ⟨(R₁.od i y e n).1, adw₁ i y e n⟩, (R₁.od i y e n).2.1.imp (fun z m => z (List.mem_append_right _ m)) id⟩)
      (fun a ha => (hm a).mpr ⟨R₁.sub a (List.mem_append_right _ ha), fun z => hwo a z (R.sub a ha)⟩) R.hP₀
      (fun a ob pr => let ⟨p1, p2, p3⟩ := R₁.prot a ob pr; ⟨ch₃ a ob (prw a ob pr) p1, p2, p3⟩) ((hvs.trans R₁.vis).trans u₃)
    exact q h₃ tk₃ own₃ ad₁ R₃
end
end Mine

namespace Mine
section
variable {W : Wd} {K n₀ : Nat} {I : Ev} {own₀ own : List Addr} {Pr : Addr → Obj → Prop} {Vs : Heap} {ad₀ ad : Nat → Addr} {env : Env} {st : St} {A : Around} {E : Value → Shared → Prop} {s : Shared} {Q : Flow → Shared → Prop}

theorem Run.thEs (N : InsOk W) : ∀ (es : List Expr) {own : List Addr} {st : St} {h : Heap}, Run W own₀ Pr Vs n₀ ad₀ env ad own h st → ∃ own', Run W own₀ Pr Vs n₀ ad₀ env ad own' h (es.foldl (thE n₀) st)
  | [], own, st, h, R => ⟨own, R⟩
  | e :: r, own, st, h, R => by
    obtain ⟨o1, R1⟩ := R.thawAll N (nm 12 e)
    exact Run.thEs N r R1

theorem asgn_new (X : XOk W K I) {x : Str} {fp cp p pos : Pos} {ρ' : Ro} (hg : isGlob st.ρ "Entry" = true) (hp : put st.ρ x (.ins st.σ.length) = some ρ') (k : AOk W (K + 4) A) (R : Run W own₀ Pr Vs n₀ ad₀ env ad own s.heap st)
    (q : FQ W own₀ Pr Vs n₀ ad₀ env s Q (.nxt ⟨ρ', st.σ ++ [.list []]⟩)) : wpAny W.M A (exec (.Assign [.Name x p] (.Call (.Name "Entry" fp) [] [] cp) pos) env) Q E s := by
  obtain ⟨C, hC, hk, hc⟩ := X.N.new
  refine wpAny_Assign_Name (wpAny_Call_Name_kw (name_glob R.frm.sees (isGlob_iff hg) hC ?_)) rfl
  refine callWith_sound (es := []) (ds := []) (first := []) X.H rfl k R.frm.sees (fun h' _ o => hk h' (o.base.trans vis_of)) fun h1 t1 vs l1 o1 rs => ?_
  cases rs
  have R1 := R.le l1 o1
  refine hc own A E { s with heap := h1, toks := t1 } _ (k.le (by omega)) o1 fun h2 t2 v a l2 o2 ha hp2 hi => ?_
  have R2 := R1.newOD (x := .list []) ha l2 o2 (by intro z; cases z) ⟨[], hp2, .nil⟩
  refine store_run (s := { s with heap := h2, toks := t2 }) (st := ⟨st.ρ, st.σ ++ [.list []]⟩) R2 hp (fun i hi => ?_) (fun d' e => by cases e) (fun _ => ?_) fun h3 t3 R3 _ => q h3 t3 _ _ R3
  · cases List.mem_singleton.mp hi
    show st.σ.length < (st.σ ++ [OD.list []]).length
    simp
  · show W.INS _ _ (if st.σ.length = st.σ.length then a else ad st.σ.length)
    rw [if_pos rfl]; exact hi

theorem isNew_form {v : Expr} (h : isNew v = true) : ∃ fp cp, v = .Call (.Name "Entry" fp) [] [] cp := by
  have ff : ∀ {p : Prop}, false = true → p := fun z => nomatch z
  cases v with
  | Call f as ks cp =>
    cases f with
    | Name f fp =>
      cases as with
      | cons => exact ff h
      | nil =>
        cases ks with
        | cons => exact ff h
        | nil =>
          have hf : f = ("Entry" : Str) := of_decide_eq_true h
          exact ⟨fp, cp, by rw [hf]⟩
    | _ => exact ff h
  | _ => exact ff h
theorem asgn_sound (X : XOk W K I) {x : Str} {v : Expr} {p pos : Pos} {fl : Fl} (h : asgn I n₀ st x v = some fl) (k : AOk W (K + 4) A) (R : Run W own₀ Pr Vs n₀ ad₀ env ad own s.heap st) (q : FQ W own₀ Pr Vs n₀ ad₀ env s Q fl) :
    wpAny W.M A (exec (.Assign [.Name x p] v pos) env) Q E s := by
  obtain ⟨o1, R1⟩ := R.thawAll X.N (nm 12 v)
  unfold asgn at h
  by_cases hn : isNew v = true ∧ isGlob st.ρ "Entry" = true
  · rw [if_pos hn] at h
    obtain ⟨ρ', hp, rfl⟩ := Option.map_eq_some_iff.mp h
    obtain ⟨hn1, hn2⟩ := hn
    obtain ⟨fp, cp, rfl⟩ := isNew_form hn1
    exact asgn_new X hn2 hp k R q
  rw [if_neg hn] at h
  cases hv : lstOf v with
  | some es =>
    obtain ⟨lp, rfl⟩ := lstOf_form hv
    rw [hv] at h
    dsimp only at h
    obtain ⟨ds, hds, h⟩ := Option.bind_eq_some_iff.mp h
    split at h
    · rename_i hl
      obtain ⟨ρ', hp, rfl⟩ := Option.map_eq_some_iff.mp h
      exact asgn_list X hds hl hp k R1 q
    · cases h
  | none =>
    rw [hv] at h
    obtain ⟨d, hd, h⟩ := Option.bind_eq_some_iff.mp h
    obtain ⟨ρ', hp, rfl⟩ := Option.map_eq_some_iff.mp h
    exact asgn_val X hd hp k R1 q

theorem b1' : ∀ b : Bool, ¬ b = false → b = true := by decide
theorem ex_mutL (X : XOk W K I) {F : Fx} {x m : Str} {xp ap cp pos : Pos} {args : List Expr} {n : Nat} {fl : Fl} (h : exS I F n₀ (n + 1) (.Expr (.Call (.Attribute (.Name x xp) m ap) args [] cp) pos) st = some fl) (k : AOk W (K + 4) A) (R : Run W own₀ Pr Vs n₀ ad₀ env ad own s.heap st) (q : FQ W own₀ Pr Vs n₀ ad₀ env s Q fl) :
    wpAny W.M A (exec (.Expr (.Call (.Attribute (.Name x xp) m ap) args [] cp) pos) env) Q E s := by
  replace h : (if (ap.endLine == cp.line) = false ∨ args.length > 8 then none else mutS I n₀ st (fun st => ownList st x) m args) = some fl := h
  by_cases hc : (ap.endLine == cp.line) = false ∨ args.length > 8
  · rw [if_pos hc] at h; cases h
  · rw [if_neg hc] at h
    unfold mutS at h
    obtain ⟨das, hd, h⟩ := Option.bind_eq_some_iff.mp h
    obtain ⟨pr, hp, h⟩ := Option.bind_eq_some_iff.mp h
    obtain ⟨ds', hm, rfl⟩ := Option.map_eq_some_iff.mp h
    obtain ⟨o1, R1⟩ := R.thEs X.N args
    exact mut_list X (i := pr.1) (ds := pr.2) hp hm hd (b1' _ fun z => hc (.inl z)) (Nat.le_of_not_lt fun z => hc (.inr z)) k R1 q
theorem ex_mutI (X : XOk W K I) {F : Fx} {x a m : Str} {xp yp ap cp pos : Pos} {args : List Expr} {n : Nat} {fl : Fl} (h : exS I F n₀ (n + 1) (.Expr (.Call (.Attribute (.Attribute (.Name x xp) a yp) m ap) args [] cp) pos) st = some fl) (k : AOk W (K + 4) A) (R : Run W own₀ Pr Vs n₀ ad₀ env ad own s.heap st) (q : FQ W own₀ Pr Vs n₀ ad₀ env s Q fl) :
    wpAny W.M A (exec (.Expr (.Call (.Attribute (.Attribute (.Name x xp) a yp) m ap) args [] cp) pos) env) Q E s := by
  replace h : (if a = "rulelines" then (if (ap.endLine == cp.line) = false ∨ args.length > 8 then none else mutS I n₀ st (fun st => ownIns st x) m args) else none) = some fl := h
  by_cases ha : a = "rulelines"
  · subst ha
    rw [if_pos rfl] at h
    by_cases hc : (ap.endLine == cp.line) = false ∨ args.length > 8
    · rw [if_pos hc] at h; cases h
    · rw [if_neg hc] at h
      unfold mutS at h
      obtain ⟨das, hd, h⟩ := Option.bind_eq_some_iff.mp h
      obtain ⟨pr, hp, h⟩ := Option.bind_eq_some_iff.mp h
      obtain ⟨ds', hm, rfl⟩ := Option.map_eq_some_iff.mp h
      obtain ⟨o1, R1⟩ := R.thEs X.N args
      exact mut_ins X (i := pr.1) (ds := pr.2) hp hm hd (b1' _ fun z => hc (.inl z)) (Nat.le_of_not_lt fun z => hc (.inr z)) k R1 q
  · rw [if_neg ha] at h; cases h
theorem exS_sound (X : XOk W K I) {F : Fx} (XF : FxOk W K F) : ∀ n, SS W K n₀ (exS I F n₀ n)
  | 0 => fun own₀ Pr Vs ad₀ ad own env st stm fl A E s Q h k R q => by cases h
  | n + 1 => by
    have ih := exS_sound X XF n
    intro own₀ Pr Vs ad₀ ad own env st stm fl A E s Q h k R q
    cases stm with
    | Assign ts v pos =>
      cases ts with
      | nil => exact noneE h
      | cons t r =>
        cases t with
        | Name x xp =>
          cases r with
          | nil => exact asgn_sound X h k R q
          | cons => exact noneE h
        | _ => exact noneE h
    | Expr e pos =>
      cases e with
      | Call f args ks cp =>
        cases f with
        | Attribute b m ap =>
          cases b with
          | Name x xp =>
            cases ks with
            | nil => exact ex_mutL X h k R q
            | cons => exact noneE h
          | Attribute b2 a yp =>
            cases b2 with
            | Name x xp =>
              cases ks with
              | nil => exact ex_mutI X h k R q
              | cons => exact noneE h
            | _ => exact noneE h
          | _ => exact noneE h
        | _ => exact noneE h
      | _ => exact noneE h
    | If t b o pos =>
      obtain ⟨c, hc, h⟩ := Option.bind_eq_some_iff.mp h
      exact If_sound X ih hc h k R q
    | For t it b o pos =>
      cases o with
      | cons => exact noneE h
      | nil =>
        replace h : ((iterE I (thE n₀ st it).ρ t it).bind fun ds => forGo (exB (exS I F n₀ n) b) t ds (thE n₀ st it)) = some fl := h
        obtain ⟨ds, hds, h⟩ := Option.bind_eq_some_iff.mp h
        obtain ⟨o1, R1⟩ := R.thawAll X.N (nm 12 it)
        exact For_sound X (exB_sound ih b) hds h k R1 q
    | Return e pos =>
      cases e with
      | none => exact noneE h
      | some e =>
        replace h : ((I.e (thE n₀ st e).ρ e).map fun d => Fl.ret d (thE n₀ st e).σ) = some fl := h
        obtain ⟨d, hd, rfl⟩ := Option.map_eq_some_iff.mp h
        obtain ⟨o1, R1⟩ := R.thawAll X.N (nm 12 e)
        refine wpAny_Return_some (X.H.e _ e d o1 env A E s _ hd k R1.frm.sees fun h1 t1 v l1 o r => ?_)
        exact q h1 t1 o1 ad _ v (R1.le l1 o) r
    | _ => exact noneE h

/-- the executor on the evaluator -/
noncomputable abbrev runF (O : Own) (F : Fx) (n₀ m n : Nat) (b : List Stmt) (st : St) : Option Fl := exB (exS (ev O (m + 1)) F n₀ n) b st
noncomputable abbrev run (O : Own) (n₀ m n : Nat) (b : List Stmt) (st : St) : Option Fl := runF O noFx n₀ m n b st
theorem xok {O : Own} (B : BltOk W) (N : InsOk W) (C : OwnOk W K O) (m : Nat) : XOk W K (ev O (m + 1)) := by
  obtain ⟨H, hs⟩ := ev_sound B C (m + 1)
  obtain ⟨H', hs'⟩ := ev_sound B C m
  refine ⟨H, B, N, hs, fun _ _ _ _ _ => rfl, fun _ _ _ _ _ _ => rfl, fun ρ elt gens sc p d h => ?_⟩
  have h' : (compE (ev O m) ρ elt gens sc).map Dt.list = some d := h
  obtain ⟨out, hc, rfl⟩ := Option.map_eq_some_iff.mp h'
  exact ⟨out, ev O m, rfl, H', hs', hc⟩
theorem runF_sound {O : Own} {F : Fx} (B : BltOk W) (N : InsOk W) (C : OwnOk W K O) (XF : FxOk W K F) (m n : Nat) (b : List Stmt) : SB W K n₀ (runF O F n₀ m n b) b := exB_sound (exS_sound (xok B N C m) XF n) b
theorem run_sound {O : Own} (B : BltOk W) (N : InsOk W) (C : OwnOk W K O) (m n : Nat) (b : List Stmt) : SB W K n₀ (run O n₀ m n b) b := runF_sound B N C (noFx_ok W K) m n b
end
end Mine

namespace Mine

noncomputable def entryB (ps : List (Str × Dt)) (x : Str) : Bd := match ps.lookup x with
  | some d => .val d
  | none => .unb
/-- the names of a function, as it is entered -/
noncomputable def entryRo (ps : List (Str × Dt)) : List (Str × NameKind) → Option Ro
  | [] => some []
  | (x, k) :: r => (entryRo ps r).bind fun q => if (x == ("__debug__" : Str)) = true then none else match k with
    | .local => some ((x, .var .loc (entryB ps x)) :: q)
    | .cell => some ((x, .var .cel (entryB ps x)) :: q)
    | .globalImplicit => some ((x, .glob) :: q)
    | _ => none
noncomputable def entryRel (ps : List (Str × Dt)) (x : Str) (k : NameKind) (sl : Slot) : Prop := match k with
  | .local => sl = .var .loc (entryB ps x)
  | .cell => sl = .var .cel (entryB ps x)
  | .globalImplicit => sl = .glob
  | _ => False
theorem entryRo_spec {ps : List (Str × Dt)} : ∀ {l : List (Str × NameKind)} {ρ : Ro} {x : Str} {sl : Slot}, entryRo ps l = some ρ → ρ.lookup x = some sl → ∃ k, l.lookup x = some k ∧ entryRel ps x k sl ∧ (x == ("__debug__" : Str)) = false
  | [], ρ, x, sl, h, e => by rw [entryRo] at h; cases h; cases e
  | (y, k) :: r, ρ, x, sl, h, e => by
    rw [entryRo] at h
    obtain ⟨q, hq, h⟩ := Option.bind_eq_some_iff.mp h
    split at h
    · cases h
    · rename_i hd
      have hd' : (y == ("__debug__" : Str)) = false := by simpa using hd
      have step : ∀ {slx : Slot}, ρ = (y, slx) :: q → entryRel ps y k slx → ∃ k', ((y, k) :: r).lookup x = some k' ∧ entryRel ps x k' sl ∧ (x == ("__debug__" : Str)) = false := by
        intro slx he hs
        subst he
        by_cases hx : x = y
        · subst hx
          rw [List.lookup_cons_self] at e ⊢
          cases e
          exact ⟨k, rfl, hs, hd'⟩
        · have hx' : (x == y) = false := by simpa using hx
          rw [List.lookup_cons, hx'] at e ⊢
          exact entryRo_spec hq e
      cases k with
      | «local» => cases h; exact step rfl rfl
      | cell => cases h; exact step rfl rfl
      | globalImplicit => cases h; exact step rfl rfl
      | free => cases h
      | globalExplicit => cases h

theorem bindL_keep {kf : Str → Option NameKind} : ∀ {l : List (Str × Value)} {m : Str → Option Value} {x : Str}, x ∉ l.map (·.1) → bindL kf l m x = m x
  | [], _, _, _ => rfl
  | (n, v) :: r, m, x, h => by
    rw [List.map_cons, List.mem_cons, not_or] at h
    unfold bindL
    rw [bindL_keep h.2]
    split
    · exact if_neg h.1
    · rfl
theorem bindC_keep {kf : Str → Option NameKind} : ∀ {l : List (Str × Value)} {m : Str → Option Value} {x : Str}, x ∉ l.map (·.1) → bindC kf l m x = m x
  | [], _, _, _ => rfl
  | (n, v) :: r, m, x, h => by
    rw [List.map_cons, List.mem_cons, not_or] at h
    unfold bindC
    rw [bindC_keep h.2]
    split
    · rfl
    · exact if_neg h.1
theorem bindL_get {kf : Str → Option NameKind} : ∀ {l : List (Str × Value)} {m : Str → Option Value} {x : Str} {v : Value}, (l.map (·.1)).Nodup → (x, v) ∈ l → kf x = some .local → bindL kf l m x = some v
  | [], _, _, _, _, h, _ => nomatch h
  | (n, w) :: r, m, x, v, hn, h, hk => by
    rw [List.map_cons, List.nodup_cons] at hn
    unfold bindL
    rcases List.mem_cons.mp h with e | h
    · cases e
      rw [bindL_keep hn.1, if_pos hk]
      exact if_pos rfl
    · exact bindL_get hn.2 h hk
theorem bindC_get {kf : Str → Option NameKind} : ∀ {l : List (Str × Value)} {m : Str → Option Value} {x : Str} {v : Value}, (l.map (·.1)).Nodup → (x, v) ∈ l → kf x = some .cell → bindC kf l m x = some v
  | [], _, _, _, _, h, _ => nomatch h
  | (n, w) :: r, m, x, v, hn, h, hk => by
    rw [List.map_cons, List.nodup_cons] at hn
    unfold bindC
    rcases List.mem_cons.mp h with e | h
    · cases e
      rw [bindC_keep hn.1, if_neg (by rw [hk]; decide)]
      exact if_pos rfl
    · exact bindC_get hn.2 h hk
theorem zip_lookup {W : Wd} {g : Heap} : ∀ {xs : List Str} {vs : List Value} {ds : List Dt} {x : Str} {d : Dt}, Reps W g vs ds → (xs.zip ds).lookup x = some d → ∃ v, (x, v) ∈ xs.zip vs ∧ Rep W g v d
  | [], _, _, _, _, _, e => by simp at e
  | _ :: _, _, _, _, _, .nil, e => by simp at e
  | y :: ys, _, _, x, d, .cons (v := v) hv hr, e => by
    rw [List.zip_cons_cons] at e ⊢
    by_cases hx : x = y
    · subst hx
      rw [List.lookup_cons_self] at e
      cases e
      exact ⟨v, List.mem_cons_self, hv⟩
    · have hx' : (x == y) = false := by simpa using hx
      rw [List.lookup_cons, hx'] at e
      obtain ⟨w, hm, r⟩ := zip_lookup hr e
      exact ⟨w, List.mem_cons_of_mem _ hm, r⟩

/-- a plain def of the text -/
structure FnInfo (fd : FuncData) (params : List Str) (body : List Stmt) : Prop where
  body : fd.body = .stmts body
  clo : fd.closure = []
  gl : fd.globals = mainGlobals
  bl : fd.builtins = builtinsNs
  kind : fd.scope.kind = .function
  co : fd.scope.isCoroutine = false
  gen : fd.scope.isGenerator = false
  nd : params.Nodup
  snd : (fd.scope.names.map (·.1)).Nodup
  par : ∀ x ∈ params, fd.scope.names.lookup x = some .local ∨ fd.scope.names.lookup x = some .cell
  bind : ∀ vs : List Value, vs.length = params.length → bindArgs fd ⟨vs, []⟩ = pure (params.zip vs)

section
variable {W : Wd} {K : Nat} {O : Own}

theorem fn_runB {fd : FuncData} {params : List Str} {body : List Stmt} {ps : List (Str × Dt)} {ρ : Ro} {fa : Addr} {o : Obj} {A : Around} {s : Shared} {own : List Addr} {vs : List Value} (Fi : FnInfo fd params body) (hlv : vs.length = params.length) (hρ : entryRo ps fd.scope.names = some ρ)
    (ho : W.B.get? fa = some o) (hd : o.data = .func fd) (hcd : W.B.CodeRec fd.code fd.qualname) (k : AOk W 0 A) (ok : Ok W own s.heap) (hps : ∀ y d, ps.lookup y = some d → ∃ v, (y, v) ∈ params.zip vs ∧ Rep W (hideAll s.heap own) v d) {R : Result → Shared → Prop}
    (h : ∀ (env : Env) (own' : List Addr) (s₁ : Shared), env.code = fd.code → env.qual = fd.qualname ++ ".<locals>." → (∃ h' tk, s₁ = { s with heap := h', toks := tk }) →
      (∀ y v, (y, v) ∈ params.zip vs → fd.scope.names.lookup y = some .local → Bound env s₁.heap y v .loc) →
      Run W own (fun a o => s.heap.get? a = some o ∧ a ≠ W.P) (hideAll s.heap own) 0 (fun _ => 0) env (fun _ => 0) own' s₁.heap ⟨ρ, []⟩ →
      (env.frame = some env.locals ∧ s.heap.get? env.locals = none ∧ Up s.heap s₁.heap) →
      wpAny W.M (A.deeper env) (execs body env) (fun f s' => R (.ok (.ret (match f with | .ret v => v | _ => .none))) s')
        (fun e s' => wpAny W.M (A.deeper env) (leaving env e) (fun _ s'' => R (.error e) s'') (fun e' s'' => R (.error e') s'') s') s₁) :
    codeAny W.M A (.call (.ref fa) ⟨vs, []⟩) R s := by
  have up0 : Up W.B s.heap := ok.base.trans vis_of
  have hz : (params.zip vs).map (·.1) = params := by rw [List.map_fst_zip (by omega)]
  refine codeAny_call_cells (binds := params.zip vs) (body := body) (by have := k.hd; omega) (up0 _ _ ho) hd ok.lim (hcd.keeps up0) Fi.body (Fi.bind vs hlv) Fi.clo (fun x hx => ?_) (fun s₁ x => ?_) Fi.co Fi.gen Fi.kind
  · have hx1 : x.1 ∈ params := by rw [← hz]; exact List.mem_map.mpr ⟨x, hx, rfl⟩
    rcases Fi.par x.1 hx1 with q | q
    · exact .inl q
    · obtain ⟨c, hc⟩ := cellsFrom_has (n := s.heap.objs.size + 1) (mem_of_lookup q)
      exact .inr ⟨q, by rw [hc]; rfl⟩
  · obtain ⟨h', tk, rfl⟩ := x.toInCall.same
    have hLs : s.heap.objs.size ≤ (callEnvC fd s.heap.objs.size fa).locals := Nat.le_refl _
    have up : Up s.heap h' := x.toInCall.keep
    refine h (callEnvC fd s.heap.objs.size fa) ((callEnvC fd s.heap.objs.size fa).locals :: ((fd.scope.names.filterMap fun p => (callEnvC fd s.heap.objs.size fa).cells.lookup p.1) ++ own)) _ rfl rfl ⟨h', tk, rfl⟩ (fun y v hm hk => ⟨_, x.toInCall.ns, bindL_get (by rw [hz]; exact Fi.nd) hm hk⟩) ?_ ⟨rfl, fresh_none hLs, up⟩
    have hsck : (callEnvC fd s.heap.objs.size fa).scope.kind = .function := Fi.kind
    have hgl : (callEnvC fd s.heap.objs.size fa).globals = mainGlobals := Fi.gl
    have hbl : (callEnvC fd s.heap.objs.size fa).builtins = builtinsNs := Fi.bl
    generalize henv : callEnvC fd s.heap.objs.size fa = env at *
    have hkf : ∀ y, env.kindOf y = fd.scope.names.lookup y := fun y => by rw [← henv]; rfl
    have hcl : ∀ y, fd.scope.names.lookup y = some .cell → ∃ c, env.cells.lookup y = some c := fun y hy => by
      obtain ⟨c, hc⟩ := cellsFrom_has (n := s.heap.objs.size + 1) (mem_of_lookup hy)
      exact ⟨c, by rw [← henv]; exact hc⟩
    generalize hcs : (fd.scope.names.filterMap fun p => env.cells.lookup p.1) = cs
    have csm : ∀ c, c ∈ cs → ∃ y, env.cells.lookup y = some c := fun c hc => by
      rw [← hcs] at hc
      obtain ⟨p, _, e⟩ := List.mem_filterMap.mp hc
      exact ⟨p.1, e⟩
    have csi : ∀ y c, fd.scope.names.lookup y = some .cell → env.cells.lookup y = some c → c ∈ cs := fun y c hy hc => by
      rw [← hcs]
      exact List.mem_filterMap.mpr ⟨(y, .cell), mem_of_lookup hy, hc⟩
    have cge : ∀ y c, env.cells.lookup y = some c → s.heap.objs.size ≤ c := fun y c hc => Nat.le_trans hLs (Nat.le_of_lt (x.above y c (mem_of_lookup hc)))
    have ccell : ∀ y c, env.cells.lookup y = some c → h'.IsCell c (bindC env.kindOf (params.zip vs) (fun _ => none) y) := x.cell
    have hns : h'.Ns env.locals (bindL env.kindOf (params.zip vs) fun _ => none) := x.toInCall.ns
    have spec : ∀ {y sl}, ρ.lookup y = some sl → ∃ k, fd.scope.names.lookup y = some k ∧ entryRel ps y k sl ∧ (y == ("__debug__" : Str)) = false := fun e => entryRo_spec hρ e
    -- a stored name is a cell or a local of the scope
    have celOf : ∀ {y b}, ρ.lookup y = some (.var .cel b) → fd.scope.names.lookup y = some .cell ∧ b = entryB ps y := fun {y b} e => by
      obtain ⟨k, h1, h2, _⟩ := spec e
      cases k with
      | cell => cases h2; exact ⟨h1, rfl⟩
      | «local» => cases h2
      | globalImplicit => cases h2
      | free => cases h2
      | globalExplicit => cases h2
    have noFre : ∀ {y b}, ρ.lookup y ≠ some (.var .fre b) := fun {y b} e => by
      obtain ⟨k, h1, h2, _⟩ := spec e
      cases k <;> cases h2
    have newS : ∀ a, s.heap.objs.size ≤ a → s.heap.get? a = none := fun a ha => fresh_none ha
    have uv : Up (hideAll s.heap own) (hideAll h' (env.locals :: (cs ++ own))) := vis_more (fun b ob _ e => up b ob e) fun a ha => by
      rcases List.mem_cons.mp ha with rfl | ha
      · exact .inr (newS _ hLs)
      · rcases List.mem_append.mp ha with m | m
        · obtain ⟨y, hc⟩ := csm a m; exact .inr (newS _ (cge y a hc))
        · exact .inl m
    have ok' : Ok W (env.locals :: (cs ++ own)) h' := ok.move uv (List.mem_cons_of_mem _ (List.mem_append_right _ ok.hP)) (fun ob e => up _ ob e) fun a ha => by
      rcases List.mem_cons.mp ha with rfl | ha
      · obtain ⟨ob, _, _, e, _⟩ := hns; exact ⟨ob, e⟩
      · rcases List.mem_append.mp ha with m | m
        · obtain ⟨y, hc⟩ := csm a m; obtain ⟨ob, e, _⟩ := ccell y a hc; exact ⟨ob, e⟩
        · obtain ⟨ob, e⟩ := ok.live a m; exact ⟨ob, up _ _ e⟩
    have ndz : ((params.zip vs).map (·.1)).Nodup := by rw [hz]; exact Fi.nd
    have valAt : ∀ {y d}, (entryB ps y).frz = some d → ∃ v, (y, v) ∈ params.zip vs ∧ Rep W (hideAll h' (env.locals :: (cs ++ own))) v d := fun {y d} e => by
      unfold entryB at e
      split at e
      · rename_i d' hd'
        cases e
        obtain ⟨v, hm, r⟩ := hps _ _ hd'
        exact ⟨v, hm, r.up uv⟩
      · cases e
    have wrNew : ∀ a, WrF env ρ a → s.heap.get? a = none := fun a ha => by
      rcases ha with rfl | ⟨y, b, e, q⟩
      · exact newS _ hLs
      · exact newS _ (cge y a q)
    have F : Frm W (env.locals :: (cs ++ own)) env h' ρ := by
      refine ⟨⟨⟨hsck, hgl, hbl⟩, ok', fun y sl e => ?_, fun y sl e => (let ⟨_, _, _, d⟩ := spec e; d), fun y kk b c e n q => ⟨_, ccell y c q⟩⟩, ⟨_, hns⟩, List.mem_cons_self, fun y b c e q => ⟨List.mem_cons_of_mem _ (List.mem_append_left _ (csi y c (celOf e).1 q)), _, ccell y c q⟩,
        fun y z sy kk sz c e1 e2 n q1 q2 => name_of_addr x.apart (mem_of_lookup q1) (mem_of_lookup q2)⟩
      obtain ⟨kk, h1, h2, _⟩ := spec e
      cases kk with
      | «local» =>
        cases h2
        refine ⟨(hkf y).trans h1, fun d hd => ?_⟩
        obtain ⟨v, hm, r⟩ := valAt hd
        exact ⟨v, ⟨_, hns, bindL_get ndz hm ((hkf y).trans h1)⟩, r⟩
      | cell =>
        cases h2
        obtain ⟨c, hc⟩ := hcl y h1
        refine ⟨⟨(hkf y).trans h1, c, hc⟩, fun d hd => ?_⟩
        obtain ⟨v, hm, r⟩ := valAt hd
        have := ccell y c hc
        rw [bindC_get ndz hm ((hkf y).trans h1)] at this
        exact ⟨v, ⟨c, hc, this⟩, r⟩
      | globalImplicit => cases h2; exact (hkf y).trans h1
      | free => cases h2
      | globalExplicit => cases h2
    have nb : ∀ {y kk b}, ρ.lookup y = some (.var kk b) → b.idx = [] := fun {y kk b} e => by
      obtain ⟨k', h1, h2, _⟩ := spec e
      cases k' with
      | «local» => cases h2; unfold entryB; split <;> rfl
      | cell => cases h2; unfold entryB; split <;> rfl
      | globalImplicit => cases h2
      | free => cases h2
      | globalExplicit => cases h2
    exact {
      frm := F
      sub := fun a ha => List.mem_cons_of_mem _ (List.mem_append_right _ ha)
      hP₀ := ok.hP
      prot := fun a ob pr => ⟨up a ob pr.1, pr.2, fun z => (by have p1 := pr.1; rw [wrNew a z] at p1; cases p1), fun i y e _ => nomatch (show (none : Option OD) = some y from e)⟩
      od := fun i y e => nomatch (show (none : Option OD) = some y from e)
      inj := fun i j y z e1 => nomatch (show (none : Option OD) = some y from e1)
      bd := fun y kk b e n => absurd (nb e) n
      base := fun i hi => absurd hi (Nat.not_lt_zero _)
      len := Nat.zero_le _
      ix := fun y kk b e i hi => (by rw [nb e] at hi; nomatch hi)
      vis := uv
      nf := fun a ha => by
        rcases ha with e | ⟨y, kk, b, e, n, q⟩
        · exact .inl e
        · cases kk with
          | loc => exact absurd rfl n
          | cel => exact .inr ⟨y, b, e, q⟩
          | fre => exact absurd e noFre }

theorem fn_run {fd : FuncData} {params : List Str} {body : List Stmt} {args : List Dt} {ρ : Ro} {fa : Addr} {o : Obj} {A : Around} {s : Shared} {own : List Addr} {vs : List Value} (Fi : FnInfo fd params body) (hlen : args.length = params.length) (hρ : entryRo (params.zip args) fd.scope.names = some ρ)
    (ho : W.B.get? fa = some o) (hd : o.data = .func fd) (hcd : W.B.CodeRec fd.code fd.qualname) (k : AOk W 0 A) (ok : Ok W own s.heap) (rs : Reps W (hideAll s.heap own) vs args) {R : Result → Shared → Prop}
    (h : ∀ (env : Env) (own' : List Addr) (s₁ : Shared), env.code = fd.code → env.qual = fd.qualname ++ ".<locals>." → (∃ h' tk, s₁ = { s with heap := h', toks := tk }) →
      Run W own (fun a o => s.heap.get? a = some o ∧ a ≠ W.P) (hideAll s.heap own) 0 (fun _ => 0) env (fun _ => 0) own' s₁.heap ⟨ρ, []⟩ → 
      ∀ E, wpAny W.M (A.deeper env) (execs body env) (fun f s' => R (.ok (.ret (match f with | .ret v => v | _ => .none))) s') E s₁) :
    codeAny W.M A (.call (.ref fa) ⟨vs, []⟩) R s :=
  fn_runB Fi (rs.length.trans hlen) hρ ho hd hcd k ok (fun y d e => zip_lookup rs e) fun env own' s₁ a b c _ R' _ => h env own' s₁ a b c R' _

theorem fn_contractF {F : Fx} {fd : FuncData} {params : List Str} {body : List Stmt} {args : List Dt} {ρ : Ro} {fa : Addr} {o : Obj} {d : Dt} {σ : List OD} (m n : Nat) (B : BltOk W) (N : InsOk W) (C : OwnOk W K O) (XF : FxOk W K F) (Fi : FnInfo fd params body) (hlen : args.length = params.length) (hρ : entryRo (params.zip args) fd.scope.names = some ρ)
    (ho : W.B.get? fa = some o) (hd : o.data = .func fd) (hcd : W.B.CodeRec fd.code fd.qualname) (hrun : runF O F 0 m n body ⟨ρ, []⟩ = some (.ret d σ)) : Calls1 W (K + 5) (.ref fa) args d := by
  intro A E s Q own vs k ok rs p
  refine wpAny_call (fn_run Fi hlen hρ ho hd hcd (k.le (by omega)) ok rs fun env own' s₁ _ _ ⟨h', tk, e⟩ R E' => ?_)
  subst e
  refine runF_sound B N C XF m n body own _ _ _ _ own' env _ _ _ _ _ _ hrun (k.deeper env N.frd) R ?_
  intro h'' tk' own'' ad' ρ' v R' rv
  have ok'' : Ok W own h'' := R'.frm.sees.ok.sub R'.sub ok.hP
  exact p h'' tk' v (fun b ob nb e => (R'.prot b ob ⟨e, nb⟩).1) ok'' (rv.up (vis_sub R'.sub))
theorem fn_contract {fd : FuncData} {params : List Str} {body : List Stmt} {args : List Dt} {ρ : Ro} {fa : Addr} {o : Obj} {d : Dt} {σ : List OD} (m n : Nat) (B : BltOk W) (N : InsOk W) (C : OwnOk W K O) (Fi : FnInfo fd params body) (hlen : args.length = params.length) (hρ : entryRo (params.zip args) fd.scope.names = some ρ)
    (ho : W.B.get? fa = some o) (hd : o.data = .func fd) (hcd : W.B.CodeRec fd.code fd.qualname) (hrun : run O 0 m n body ⟨ρ, []⟩ = some (.ret d σ)) : Calls1 W (K + 5) (.ref fa) args d :=
  fn_contractF m n B N C (noFx_ok W K) Fi hlen hρ ho hd hcd hrun
end
end Mine

open Builtin Builtin.ObjectAttr
namespace Mine

theorem store_fn : StoreFacts "function" [.type "function", .type "object"] "object.__setattr__" "object" where
  mro := by kernel_rfl
  slot := .of (owner := "object") (n := "__setattr__") (by rw [typeLookup_type, builtinLookup_eq_fast]; kernel_rfl) (by decide +kernel) (by decide +kernel) (by decide +kernel)
    (by first | exact .inl (by decide +kernel) | exact .inr (by decide +kernel)) (by rw [isSubtype_type]; kernel_rfl)
  entry := PySem.F.entry_object_sa
  kind := by decide +kernel
  split := by decide +kernel
  hasOwner := by decide +kernel
  args := fun a b c => by unfold argsOk; kernel_rfl
  passes := fun self => by kernel_rfl

section
variable {prog : Program} {w : World} {A : Around} {E : Value → Shared → Prop} {s : Shared}
theorem fn_update {h : Heap} {f : Addr} {fd : FuncData} {dct : Option Addr} {sl : Array (Option Value)} {g : Obj → Obj} {D : Addr} (hx : h.get? f = some { cls := .type "function", dict := dct, data := .func fd, slots := sl }) (hg : g { cls := .type "function", dict := dct, data := .func fd, slots := sl } = { cls := .type "function", dict := some D, data := .func fd, slots := sl }) :
    (h.update f g).get? f = some { cls := .type "function", dict := some D, data := .func fd, slots := sl } := by
  have := Heap.get?_update_self g hx (by rw [hg]; rfl)
  rw [hg] at this
  exact this

/-- an attribute is laid on a function -/
theorem fn_set {f : Addr} {fd : FuncData} {sl : Array (Option Value)} {dct : Option Addr} {mA : Str → Option Value} {name : Str} {v : Value} {ns : List Str} {Q : Unit → Shared → Prop}
    (hx : s.heap.get? f = some { cls := .type "function", dict := dct, data := .func fd, slots := sl }) (hd : (dct = none ∧ ∀ n, mA n = none) ∨ ∃ D, dct = some D ∧ D ≠ f ∧ s.heap.Ns1 D mA)
    (hB : typeLookup (.type "function") name = pure none) (hw : Within mA ns) (hsz : ns.length ≤ 1000)
    (hq : ∀ h' tk D, h'.get? f = some { cls := .type "function", dict := some D, data := .func fd, slots := sl } → D ≠ f → h'.Ns1 D (fun y => if y = name then some v else mA y) →
      (∀ b o, b ≠ f → (∀ D, dct = some D → b ≠ D) → s.heap.get? b = some o → h'.get? b = some o) → (∀ D0, dct = some D0 → D = D0) → (dct = none → s.heap.objs.size ≤ D) → Q () { s with heap := h', toks := tk }) :
    wpAny (model prog w) A (setAttr (.ref f) name v) Q E s := by
  have SF := store_fn
  have hT : ∀ tk, ({ s with toks := tk } : Shared).TypeIs (.ref f) "function" := fun tk => ⟨_, hx, rfl⟩
  refine wpAny_bind (wpAny_mkText (wpAny_bind (wpAny_callSpecial?_slot (hT _) SF.slot ?_)))
  refine wpAny_call (codeAny_call_builtin SF.slot.plain SF.entry (SF.slot.check _ _ _ _ _ _ _ _ (hT _) (SF.args _ _ _) ?_))
  rw [osa_eq, refuse_eq]
  refine wpAny_bind (wpAny_bind (wpAny_typeOf (hT _) (wpAny_bind (wpAny_of_eq SF.mro ?_))))
  rw [SF.passes]
  refine wpAny_pure (wpAny_bind (wpAny_typeOf (hT _) (wpAny_bind (wpAny_of_eq hB ?_))))
  refine wpAny_bind (wpAny_pure ?_)
  show wpAny _ _ (storeInOwnDict (.ref f) (.type "function") _ name v _) _ _ _
  unfold storeInOwnDict
  have e1 : ownStreamTells (.ref f) (.type "function") = pure () := by kernel_rfl
  refine wpAny_bind (wpAny_of_eq e1 ?_)
  rw [if_neg (by decide)]
  unfold ownDictForStores instanceDict
  dsimp only
  rcases hd with ⟨rfl, hmA⟩ | ⟨D, rfl, hne, hns⟩
  · refine wpAny_bind (wpAny_bind (wpAny_loadPart hx ?_))
    have e2 : (!true || !typeHasDict (.type "function")) = false := by decide +kernel
    dsimp only
    rw [e2, if_neg (by decide)]
    have hx₁ : (s.heap.push { cls := .type "dict", data := .dict #[] }).get? f = some { cls := .type "function", dict := none, data := .func fd, slots := sl } := Heap.get?_push_of_some _ hx
    have hxs : f ≠ s.heap.objs.size := Nat.ne_of_lt (Heap.lt_size hx)
    refine wpAny_bind (wpAny_alloc ?_)
    refine wpAny_bind (wpAny_update hx₁ ?_)
    have e3 : ∀ d, dictMade (.type "function") f d = pure (some d) := fun d => by kernel_rfl
    refine wpAny_of_eq (e3 _) ?_
    have hgd : ((s.heap.push { cls := .type "dict", data := .dict #[] }).update f fun o => { o with dict := some s.heap.objs.size }).get? s.heap.objs.size = some { cls := .type "dict", data := .dict #[] } :=
      (Heap.get?_update_other _ _ hxs).trans (Heap.get?_push_size _ rfl)
    have hnd : ((s.heap.push { cls := .type "dict", data := .dict #[] }).update f fun o => { o with dict := some s.heap.objs.size }).Ns s.heap.objs.size (fun _ => none) :=
      ⟨_, #[], _, hgd, rfl, fun e he => absurd he (by simp), fun _ => rfl⟩
    show wpAny _ _ (storeInDict s.heap.objs.size (.str name _) name v) _ _ _
    unfold storeInDict newKeyGuard
    refine wpAny_bind (wpAny_pure (wpAny_bind (wpAny_nsSet1 (Heap.Ns1.of_empty hnd) fun h' hn' hs => ?_)))
    obtain ⟨oD, esD, epD, hoD, hdD, hcD⟩ := hn'.count (Within.cons name v Within.nil)
    refine wpAny_bind (wpAny_lookBehind hoD (by rw [hdD]; exact pastItsLine_dict (Nat.le_trans hcD (by rw [List.length_cons, List.length_nil, sizeLine_eq]; omega))) ?_)
    refine wpAny_pure (wpAny_pure ?_)
    have hx' := fn_update (g := fun o => { o with dict := some s.heap.objs.size }) hx₁ rfl
    refine hq h' _ s.heap.objs.size ((hs.2 f hxs).trans hx') hxs.symm ?_ (fun b ob hbx _ hb => ?_) (fun D0 e => by cases e) fun _ => Nat.le_refl _
    · obtain ⟨o', es, ep, e1, e2, e3, eu, e4⟩ := hn'
      exact ⟨o', es, ep, e1, e2, e3, eu, fun y => by rw [e4 y]; by_cases hy : y = name <;> simp [hy, hmA]⟩
    · exact (hs.2 b (Nat.ne_of_lt (Heap.lt_size hb))).trans ((Heap.get?_update_other _ _ (Ne.symm hbx)).trans (Heap.get?_push_of_some _ hb))
  · refine wpAny_bind (wpAny_bind (wpAny_loadPart hx ?_))
    refine wpAny_pure ?_
    show wpAny _ _ (storeInDict D (.str name _) name v) _ _ _
    unfold storeInDict newKeyGuard
    refine wpAny_bind (wpAny_pure (wpAny_bind (wpAny_nsSet1 hns fun h' hn' hs => ?_)))
    obtain ⟨oD, esD, epD, hoD, hdD, hcD⟩ := hn'.count (Within.cons name v hw)
    refine wpAny_bind (wpAny_lookBehind hoD (by rw [hdD]; exact pastItsLine_dict (Nat.le_trans hcD (by rw [List.length_cons, sizeLine_eq]; omega))) ?_)
    refine wpAny_pure (wpAny_pure ?_)
    exact hq h' _ D ((hs.2 f (Ne.symm hne)).trans hx) hne hn' (fun b ob hbx hbd hb => (hs.2 b (hbd D rfl)).trans hb) (fun D0 e => by cases e; rfl) fun e => by cases e
end
end Mine
namespace Mine
theorem slot_fn_ga : PySem.Slot "function" "__getattribute__" "object.__getattribute__" :=
  .of (owner := "object") (n := "__getattribute__") (by rw [typeLookup_type, builtinLookup_eq_fast]; kernel_rfl) (by decide +kernel) (by decide +kernel) (by decide +kernel)
    (by first | exact .inl (by decide +kernel) | exact .inr (by decide +kernel)) (by rw [isSubtype_type]; kernel_rfl)
theorem lk_fn_getattr : typeLookup (.type "function") "__getattr__" = pure none := by rw [typeLookup_type, builtinLookup_eq_fast]; kernel_rfl
end Mine
namespace Mine
theorem sub_fn_static : isSubtype (.type "function") (.type "staticmethod") = pure false := by rw [isSubtype_type]; kernel_rfl
theorem sub_fn_classm : isSubtype (.type "function") (.type "classmethod") = pure false := by rw [isSubtype_type]; kernel_rfl
section
variable {prog : Program} {w : World} {A : Around} {E : Value → Shared → Prop} {h : Heap} {g : Array GenState} {d : Drawn} {t : Nat} {os : OsState}
theorem fn_entry {f D : Addr} {fd : FuncData} {sl : Array (Option Value)} {mA : Str → Option Value} {name : Str} {tk : Tok} {v : Value} {Q : Fin → Shared → Prop}
    (hx : h.get? f = some { cls := .type "function", dict := some D, data := .func fd, slots := sl }) (hD : h.Ns D mA) (hnm : typeLookup (.type "function") name = pure none) (hv : mA name = some v)
    (hq : Q (.done (.ret v)) ⟨h, g, d, t, os⟩) : wpAny (model prog w) A (Builtin.«object.__getattribute__» ⟨[.ref f, .str name tk], []⟩) Q E ⟨h, g, d, t, os⟩ := by
  have hT : (⟨h, g, d, t, os⟩ : Shared).TypeIs (.ref f) "function" := ⟨_, hx, rfl⟩
  have f1 := sub_fn_static
  have f2 := sub_fn_classm
  unfold Builtin.«object.__getattribute__»
  repeat (any_goals (first | assumption | with_reducible apply Flt.wpAny_nsGet_known | with_reducible apply Flt.wpAny_loadPart_known | wp_step))

theorem fn_getAttr {f D : Addr} {fd : FuncData} {sl : Array (Option Value)} {mA : Str → Option Value} {name : Str} {v : Value} {ex : Bool} {Q : Value → Shared → Prop}
    (hx : h.get? f = some { cls := .type "function", dict := some D, data := .func fd, slots := sl }) (hD : h.Ns D mA) (hnm : typeLookup (.type "function") name = pure none) (hv : mA name = some v) (hh : handedOut v = pure v)
    (hq : Q v ⟨h, g, d, t + 1, os⟩) : wpAny (model prog w) A (getAttr (.ref f) name ex) Q E ⟨h, g, d, t, os⟩ := by
  have hT : (⟨h, g, d, t, os⟩ : Shared).TypeIs (.ref f) "function" := ⟨_, hx, rfl⟩
  have hT1 : (⟨h, g, d, t + 1, os⟩ : Shared).TypeIs (.ref f) "function" := ⟨_, hx, rfl⟩
  have f1 := slot_fn_ga.lookup
  have f2 := lk_fn_getattr
  have f4 := slot_fn_ga.bind (.ref f)
  cases ex
  all_goals (
    repeat (any_goals (first | assumption | (rw [if_neg (show ¬ (true && onTheHeap (Value.builtin "object.__getattribute__")) = true by decide)]) | wp_step))
    refine codeAny_call_builtin slot_fn_ga.plain PySem.F.entry_object_getattribute (slot_fn_ga.check _ _ _ _ _ _ _ _ hT1 (PySem.F.args_object_getattribute_2 _ _) (fn_entry hx hD hnm hv ?_))
    repeat (any_goals (first | assumption | wp_step)))
theorem fn_getMethod {f D : Addr} {fd : FuncData} {sl : Array (Option Value)} {mA : Str → Option Value} {name : Str} {v : Value} {pl : Sem Bool} {Q : Value × List Value → Shared → Prop}
    (hx : h.get? f = some { cls := .type "function", dict := some D, data := .func fd, slots := sl }) (hD : h.Ns D mA) (hnm : typeLookup (.type "function") name = pure none) (hv : mA name = some v) (hh : handedOut v = pure v)
    (hq : Q (v, []) ⟨h, g, d, t + 1, os⟩) : wpAny (model prog w) A (getMethod (.ref f) name pl) Q E ⟨h, g, d, t, os⟩ := by
  have hT : (⟨h, g, d, t, os⟩ : Shared).TypeIs (.ref f) "function" := ⟨_, hx, rfl⟩
  unfold getMethod
  refine wpAny_bind (wpAny_specialOf hT slot_fn_ga.lookup ?_)
  show wpAny _ A (if (Manifest.canonical "object.__getattribute__" != "object.__getattribute__") = true then _ else _) Q E _
  rw [PySem.F.canon_object_ga, if_neg (by decide)]
  refine wpAny_bind ?_
  unfold specialOf
  refine wpAny_bind (wpAny_typeOf hT (wpAny_of_eq lk_fn_getattr ?_))
  rw [if_neg (by decide)]
  refine wpAny_bind (wpAny_bind (wpAny_typeOf hT (wpAny_of_eq hnm ?_)))
  refine wpAny_bind (fn_getAttr hx hD hnm hv hh (wpAny_pure hq))
end
end Mine

namespace Mine

theorem triples_ind {P : List Value → Prop} (h0 : P []) (h1 : ∀ a t b u x l, TriplesOk l → P l → P (.int a t :: .int b u :: x :: l)) {l : List Value} (h : TriplesOk l) : P l := by
  have go : ∀ n (l : List Value), l.length ≤ n → TriplesOk l → P l := by
    intro n
    induction n with
    | zero => intro l hl _; cases l with
      | nil => exact h0
      | cons => exact absurd hl (Nat.not_succ_le_zero _)
    | succ n ih =>
      intro l hl h
      cases l with
      | nil => exact h0
      | cons v l => cases v with
        | int a t => cases l with
          | nil => exact False.elim h
          | cons w l => cases w with
            | int b u => cases l with
              | nil => exact False.elim h
              | cons x l => exact h1 a t b u x l h (ih l (Nat.le_of_succ_le (Nat.le_of_succ_le (Nat.le_of_succ_le_succ hl))) h)
            | _ => exact False.elim h
        | _ => exact False.elim h
  exact go l.length l (Nat.le_refl _) h
theorem codeAmong_more {q : Pos} {l r : List Value} {c : Value} (h : TriplesOk l) : codeAmong q l = some c → codeAmong q (l ++ r) = some c := by
  refine triples_ind (P := fun l => codeAmong q l = some c → codeAmong q (l ++ r) = some c) (fun e => nomatch e) (fun a t b u x l _ ih e => ?_) h
  simp only [List.cons_append, codeAmong] at e ⊢
  split at e
  · rename_i hc; rw [if_pos hc]; exact e
  · rename_i hc; rw [if_neg hc]; exact ih e
theorem codeAmong_not {q p : Pos} {c : Value} (hne : ¬ (q.line = p.line ∧ q.col = p.col)) {l : List Value} (h : TriplesOk l) : codeAmong q l = none → codeAmong q (l ++ [rawInt p.line, rawInt p.col, c]) = none := by
  refine triples_ind (P := fun l => codeAmong q l = none → codeAmong q (l ++ [rawInt p.line, rawInt p.col, c]) = none) (fun _ => ?_) (fun a t b u x l _ ih e => ?_) h
  · simp only [List.nil_append, codeAmong, rawInt]
    rw [if_neg]
    simp only [Bool.and_eq_true, beq_iff_eq, not_and]
    intro a b
    exact hne ⟨by omega, by omega⟩
  · simp only [List.cons_append, codeAmong] at e ⊢
    split at e
    · cases e
    · rename_i hc; rw [if_neg hc]; exact ih e

/-- the table of the codes of the lambdas: each is laid once -/
noncomputable def lamTS (q : Str) (poss : List Pos) (ps : Array Value) (g : Heap) : Prop :=
  TriplesOk ps.toList ∧ ∀ p ∈ poss, codeAmong p ps.toList = none ∨ ∃ c, codeAmong p ps.toList = some (.ref c) ∧ g.CodeRec (.ref c) q
theorem lamTS_drop {q : Str} {poss : List Pos} (ps : Array Value) (g g' : Heap) (u : ∀ b o, g.get? b = some o → (∀ x n, o.data ≠ .seq x n) → (∀ x n, o.data ≠ .dict x n) → g'.get? b = some o) (t : lamTS q poss ps g) : lamTS q poss ps g' := by
  refine ⟨t.1, fun p hp => ?_⟩
  rcases t.2 p hp with h | ⟨c, h, ⟨c', o, vs, tk, e, ho, hd, hv⟩⟩
  · exact .inl h
  · exact .inr ⟨c, h, c', o, vs, tk, e, u _ _ ho (fun x n => by rw [hd]; exact fun z => nomatch z) (fun x n => by rw [hd]; exact fun z => nomatch z), hd, hv⟩

structure LamOk (W : Wd) (q : Str) (poss : List Pos) (c : Addr) : Prop where
  ts : W.TS = lamTS q poss
  hd : CodeHd W.B c W.P
  bi : W.B.BuiltinsAt W.mg W.P
  far : ∀ a ∈ poss, ∀ b ∈ poss, a.line = b.line → a.col = b.col → a = b

section
variable {W : Wd} {own : List Addr} {A : Around} {E : Value → Shared → Prop} {s : Shared} {Q : Value → Shared → Prop} {q : Str} {poss : List Pos} {c : Addr}

/-- a lambda is made: a new function in sight -/
theorem lam_sound (L : LamOk W q poss c) {env : Env} {params : Arguments} {body : Expr} {scope : Scope} {pos : Pos} {clos : List (Str × Addr)} (hp : pos ∈ poss) (hpar : defaultsOf params env = ([], [])) (hq : env.qual ++ "<lambda>" = q) (hcl : closureFor scope env = pure clos)
    (hgl : env.globals = mainGlobals) (hcode : env.code = .ref c) (ok : Ok W own s.heap)
    (h : ∀ f h' tk pm cdv ctv, h'.get? f = some { cls := .type "function", data := .func (kla_fn "<lambda>" q params body scope clos pm cdv ctv) } → s.heap.objs.size ≤ f → h'.CodeRec cdv q → (∀ c', cdv = .ref c' → c' ∉ own) → Le W.P s.heap h' → Ok W own h' → 
      (hideAll h' own).CodeRec cdv q → Q (.ref f) { s with heap := h', toks := tk }) :
    wpAny W.M A (eval (.Lambda params body scope pos) env) Q E s := by
  rw [arm_eval_Lambda, hpar]
  obtain ⟨ps, hP, hT⟩ := ok.tab
  rw [L.ts] at hT
  have up0 : Up W.B s.heap := ok.base.trans vis_of
  have hgn := ok.glob
  have hgP : mainGlobals ≠ W.P := ok.ns_ne hgn
  have hb := L.bi.keeps up0
  have hC := L.hd.keeps up0
  show wpAny W.M A (evalAll [] >>= _) Q E s
  refine wpAny_bind (wpAny_of_eq (show evalAll [] = pure [] from rfl) ?_)
  refine wpAny_bind (wpAny_holding (wpAny_of_eq (show evalAllOpt [] = pure [] from rfl) ?_))
  rw [hq]
  rcases hT.2 pos hp with hn | ⟨cc, hh, hrec⟩
  · refine kla_makeFunction hcl hgl hgn hcode hC hP hT.1 hn hgP hb fun c' ctv h1 tk hx hge hlt hrec htb => ?_
    have l1 : Le W.P s.heap h1 := fun b o nb e => hx b o nb e
    have ub : Up h1 (h1.push (kla_obj "<lambda>" q params body scope clos ((W.mg "__name__").getD .none) c' ctv)) := Up.push _ _
    have hnew : ∀ b, s.heap.objs.size ≤ b → b ∉ own := fun b hb' m => by
      obtain ⟨o, e⟩ := ok.live b m
      exact absurd (Heap.lt_size e) (Nat.not_lt.mpr hb')
    have hPlt : W.P < h1.objs.size := Heap.lt_size htb
    have hrv : (hideAll h1 own).CodeRec (.ref c') q := by
      obtain ⟨c2, o, vs, t, e, ho, hd, hv⟩ := hrec
      cases e
      exact ⟨_, o, vs, t, rfl, vis_iff.mpr ⟨ho, hnew _ hge⟩, hd, hv⟩
    have ts' : lamTS q poss (ps ++ #[rawInt pos.line, rawInt pos.col, .ref c']) (hideAll h1 own) := by
      rw [lamTS, Array.toList_append]
      refine ⟨TriplesOk_snoc _ _ _ _ hT.1, fun p hp' => ?_⟩
      by_cases hpp : p = pos
      · subst hpp
        exact .inr ⟨c', codeAmong_snoc _ hT.1 hn, hrv⟩
      · rcases hT.2 p hp' with h2 | ⟨c2, h2, h3⟩
        · exact .inl (codeAmong_not (fun z => hpp (L.far p hp' pos hp z.1 z.2)) hT.1 h2)
        · exact .inr ⟨c2, codeAmong_more hT.1 h2, h3.keeps (vis_le ok.hP l1)⟩
    have ok1 : Ok W own h1 := ⟨ok.base.trans (vis_le ok.hP l1), ok.hP, ⟨_, htb, by rw [L.ts]; exact ts'⟩, fun a ha => by
      by_cases hap : a = W.P
      · exact ⟨_, hap ▸ htb⟩
      · obtain ⟨o, e⟩ := ok.live a ha; exact ⟨o, l1 a o hap e⟩⟩
    refine h _ _ tk _ _ _ (Heap.get?_push_size _ rfl) (Nat.le_trans hge (Nat.le_of_lt hlt)) (hrec.push _) (fun c2 e => by cases e; exact hnew _ hge) (l1.trans ub.le) (ok1.up ub) (hrv.keeps (vis_up ub))
  · refine kla_makeFunctionHit hcl hgl hgn hcode hC hP hT.1 hh hb fun ctv h1 tk hk hsz => ?_
    have u1 : Up s.heap (h1.push { cls := .type "function", data := .func (kla_fn "<lambda>" q params body scope clos ((W.mg "__name__").getD .none) (.ref cc) ctv) }) := fun b o e => Heap.get?_push_of_some _ (hk b o e)
    have hcc : cc ∉ own := by
      obtain ⟨c2, o, vs, t, e, ho, _⟩ := hrec
      cases e
      exact (vis_iff.mp ho).2
    exact h _ _ tk _ _ _ (Heap.get?_push_size _ rfl) hsz (hrec.keeps (vis_of.trans u1)) (fun c2 e => by cases e; exact hcc) u1.le (ok.up u1) (hrec.keeps (vis_up u1))
end
end Mine

namespace Mine

/-- flat data, read without a heap -/
noncomputable def FlatV : Dt → Value → Prop
  | .int i, v => ∃ t, v = .int i t
  | .str x, v => ∃ t, v = .str x t
  | .bool b, v => v = .bool b
  | _, _ => False
theorem FlatV.rep {W : Wd} {g : Heap} {d : Dt} {v : Value} (h : FlatV d v) : Rep W g v d := by
  cases d with
  | int i => obtain ⟨t, rfl⟩ := h; exact .int _ _
  | str x => obtain ⟨t, rfl⟩ := h; exact .str _ _
  | bool b => cases h; exact .bool _
  | _ => exact h.elim
noncomputable def isFlat : Dt → Bool
  | .int _ => true
  | .str _ => true
  | .bool _ => true
  | _ => false
theorem FlatV.of {W : Wd} {g : Heap} {d : Dt} {v : Value} (h : isFlat d = true) (r : Rep W g v d) : FlatV d v := by
  cases d with
  | int i => exact rep_int r
  | str x => exact rep_str r
  | bool b => exact rep_bool r
  | _ => cases h

/-- the rules of a law: the lambda, and what its free names and its verdict are by the maker's arguments -/
structure RuleKit where
  q : Str
  poss : List Pos
  p1 : Pos
  par1 : Arguments
  body1 : Expr
  sc1 : Scope
  p2 : Pos
  par2 : Arguments
  body2 : Expr
  sc2 : Scope
  arg : Str
  frees : List Dt → List (Str × Dt)
  verdict : List Dt → Dt

noncomputable def RuleAt (K : RuleKit) (g : Heap) (v : Value) (es : List Dt) : Prop :=
  ∃ f D fd1 mA f2 pm cdv ctv clos va, v = .ref f ∧ g.get? f = some { cls := .type "function", dict := some D, data := .func fd1 } ∧ g.Ns D mA ∧ mA "applies_to" = some (.ref f2) ∧ mA "allowance" = some va ∧ FlatV (K.verdict es) va ∧
    g.get? f2 = some { cls := .type "function", data := .func (kla_fn "<lambda>" K.q K.par2 K.body2 K.sc2 clos pm cdv ctv) } ∧ g.CodeRec cdv K.q ∧ ∀ x d, (K.frees es).lookup x = some d → ∃ c vx, clos.lookup x = some c ∧ g.IsCell c (some vx) ∧ FlatV d vx
theorem RuleAt.up {K : RuleKit} {g g' : Heap} {v : Value} {es : List Dt} (u : Up g g') (x : RuleAt K g v es) : RuleAt K g' v es := by
  obtain ⟨f, D, fd1, mA, f2, pm, cdv, ctv, clos, va, e, h1, h2, h3, h4, h5, h6, h7, h8⟩ := x
  exact ⟨f, D, fd1, mA, f2, pm, cdv, ctv, clos, va, e, u _ _ h1, h2.keeps u, h3, h4, h5, u _ _ h6, h7.keeps u, fun x d hx => let ⟨c, vx, a, b, c'⟩ := h8 x d hx; ⟨c, vx, a, b.keeps u, c'⟩⟩

/-- the names of the rule's lambda as it is called -/
noncomputable def lamRo (frees : List (Str × Dt)) (arg : Str) (d : Dt) : List (Str × NameKind) → Option Ro
  | [] => some []
  | (x, k) :: r => (lamRo frees arg d r).bind fun q => if (x == ("__debug__" : Str)) = true ∨ (x == ("__classdict__" : Str)) = true then none else match k with
    | .local => if x = arg then some ((x, .var .loc (.val d)) :: q) else none
    | .globalImplicit => some ((x, .glob) :: q)
    | .free => (frees.lookup x).map fun e => (x, .var .fre (.val e)) :: q
    | _ => none
noncomputable def lamRel (frees : List (Str × Dt)) (arg : Str) (d : Dt) (x : Str) (k : NameKind) (sl : Slot) : Prop := match k with
  | .local => x = arg ∧ sl = .var .loc (.val d)
  | .globalImplicit => sl = .glob
  | .free => ∃ e, frees.lookup x = some e ∧ sl = .var .fre (.val e)
  | _ => False
theorem lamRo_spec {frees : List (Str × Dt)} {arg : Str} {d : Dt} : ∀ {l : List (Str × NameKind)} {ρ : Ro} {x : Str} {sl : Slot}, lamRo frees arg d l = some ρ → ρ.lookup x = some sl →
    ∃ k, l.lookup x = some k ∧ lamRel frees arg d x k sl ∧ (x == ("__debug__" : Str)) = false ∧ (x == ("__classdict__" : Str)) = false
  | [], ρ, x, sl, h, e => by rw [lamRo] at h; cases h; cases e
  | (y, k) :: r, ρ, x, sl, h, e => by
    rw [lamRo] at h
    obtain ⟨q, hq, h⟩ := Option.bind_eq_some_iff.mp h
    split at h
    · cases h
    · rename_i hd
      have hd1 : (y == ("__debug__" : Str)) = false := by
        cases z : (y == ("__debug__" : Str)) with
        | false => rfl
        | true => exact absurd (.inl z) hd
      have hd2 : (y == ("__classdict__" : Str)) = false := by
        cases z : (y == ("__classdict__" : Str)) with
        | false => rfl
        | true => exact absurd (.inr z) hd
      have step : ∀ {slx : Slot}, ρ = (y, slx) :: q → lamRel frees arg d y k slx → ∃ k', ((y, k) :: r).lookup x = some k' ∧ lamRel frees arg d x k' sl ∧ (x == ("__debug__" : Str)) = false ∧ (x == ("__classdict__" : Str)) = false := by
        intro slx he hs
        subst he
        by_cases hx : x = y
        · subst hx
          rw [List.lookup_cons_self] at e ⊢
          cases e
          exact ⟨k, rfl, hs, hd1, hd2⟩
        · have hx' : (x == y) = false := by simpa using hx
          rw [List.lookup_cons, hx'] at e ⊢
          exact lamRo_spec hq e
      cases k with
      | «local» =>
        dsimp only at h
        split at h
        · rename_i ha; cases h; exact step rfl ⟨ha, rfl⟩
        · cases h
      | globalImplicit => cases h; exact step rfl rfl
      | free => obtain ⟨e', he, rfl⟩ := Option.map_eq_some_iff.mp h; exact step rfl ⟨e', he, rfl⟩
      | cell => cases h
      | globalExplicit => cases h

structure KitOk (K : RuleKit) : Prop where
  kind : K.sc2.kind = .function
  co : K.sc2.isCoroutine = false
  gen : K.sc2.isGenerator = false
  nocell : ∀ x ∈ K.sc2.names, x.2 ≠ .cell
  argl : K.sc2.names.lookup K.arg = some .local
  bind : ∀ (clos : List (Str × Addr)) (pm cdv ctv v : Value), bindArgs (kla_fn "<lambda>" K.q K.par2 K.body2 K.sc2 clos pm cdv ctv) ⟨[v], []⟩ = pure [(K.arg, v)]

section
variable {W : Wd} {K : Nat} {O : Own} {own : List Addr} {A : Around} {E : Value → Shared → Prop} {s : Shared} {Q : Value → Shared → Prop} {R : RuleKit}

/-- the rule's lambda is called -/
theorem lam_call (frd : ∀ (A : Around) (env : Env), W.FR A.frames → W.FR (A.deeper env).frames) (B : BltOk W) (C : OwnOk W K O) (hR : KitOk R) (n : Nat) {f2 : Addr} {pm cdv ctv : Value} {clos : List (Str × Addr)} {frees : List (Str × Dt)} {d d' : Dt} {ρ : Ro} {v : Value}
    (h6 : (hideAll s.heap own).get? f2 = some { cls := .type "function", data := .func (kla_fn "<lambda>" R.q R.par2 R.body2 R.sc2 clos pm cdv ctv) }) (h7 : (hideAll s.heap own).CodeRec cdv R.q)
    (h8 : ∀ x d, frees.lookup x = some d → ∃ c vx, clos.lookup x = some c ∧ (hideAll s.heap own).IsCell c (some vx) ∧ FlatV d vx) (hρ : lamRo frees R.arg d R.sc2.names = some ρ) (he : (ev O n).e ρ R.body2 = some d')
    (k : AOk W (K + 5) A) (ok : Ok W own s.heap) (rv : Rep W (hideAll s.heap own) v d) (p : Post W own s Q d') : wpAny W.M A (call (.ref f2) [v]) Q E s := by
  refine wpAny_call (kla_callFunE (by have := k.hd; omega) (vis_of _ _ h6) rfl hR.co hR.gen rfl (h7.keeps vis_of) (wpAny_of_eq (hR.bind clos pm cdv ctv v) ?_))
  refine wpAny_newFunctionEnv hR.nocell (fun x hx => by cases List.mem_singleton.mp hx; exact hR.argl) (fun h' hns hsb => ?_) hR.kind
  have hL : s.heap.get? s.heap.objs.size = none := fresh_none (Nat.le_refl _)
  have up : Up s.heap h' := fun b o e => (hsb.2 b (fun z => by rw [z, hL] at e; cases e)).trans (Heap.get?_push_of_some _ e)
  have ok' : Ok W own h' := ok.up up
  refine ⟨ok'.lim, kla_codeExpr ?_⟩
  have uv := vis_up (l := own) up
  generalize henv : newEnv R.sc2 s.heap.objs.size mainGlobals clos _ (some f2) cdv none builtinsNs = env
  have hkf : ∀ y, env.kindOf y = R.sc2.names.lookup y := fun y => by rw [← henv]; rfl
  have hcells : env.cells = clos := by rw [← henv]; rfl
  have hloc : env.locals = s.heap.objs.size := by rw [← henv]; rfl
  have S : Sees W own env h' ρ := by
    refine ⟨⟨by rw [← henv]; exact hR.kind, by rw [← henv]; rfl, by rw [← henv]; rfl⟩, ok', fun x sl e => ?_, fun x sl e => (let ⟨_, _, _, a, _⟩ := lamRo_spec hρ e; a), fun x kk b c e nl q => ?_⟩
    · obtain ⟨kk, h1, h2, _, hcd⟩ := lamRo_spec hρ e
      cases kk with
      | «local» =>
        obtain ⟨rfl, rfl⟩ := h2
        refine ⟨(hkf _).trans h1, fun d0 hd => ?_⟩
        cases hd
        exact ⟨v, ⟨_, hloc ▸ hns, by simp [List.lookup_cons]⟩, rv.up uv⟩
      | globalImplicit => cases h2; exact (hkf x).trans h1
      | free =>
        obtain ⟨e', he', rfl⟩ := h2
        obtain ⟨c, vx, q1, q2, q3⟩ := h8 x e' he'
        refine ⟨⟨.inr ((hkf x).trans h1), ⟨c, by rw [hcells]; exact q1⟩, hcd⟩, fun d0 hd => ?_⟩
        cases hd
        exact ⟨vx, ⟨c, by rw [hcells]; exact q1, (q2.keeps vis_of).keeps up⟩, q3.rep⟩
      | cell => exact h2.elim
      | globalExplicit => exact h2.elim
    · obtain ⟨kk', h1, h2, _, _⟩ := lamRo_spec hρ e
      cases kk' with
      | free =>
        obtain ⟨e', he', h3⟩ := h2
        obtain ⟨c', vx, q1, q2, q3⟩ := h8 x e' he'
        rw [hcells, q1] at q; cases q
        exact ⟨_, (q2.keeps vis_of).keeps up⟩
      | «local» => obtain ⟨_, h3⟩ := h2; cases h3; exact absurd rfl nl
      | globalImplicit => cases h2
      | cell => exact h2.elim
      | globalExplicit => exact h2.elim
  refine (ev_sound B C n).1.e ρ R.body2 d' own env _ _ _ _ he (k.deeper env frd) S fun h'' tk v' l o r => ?_
  exact p h'' tk v' (up.le.trans l) o r
end
end Mine

namespace Mine
section
variable {W : Wd} {K : Nat} {O : Own} {own own₀ : List Addr} {A : Around} {E : Value → Shared → Prop} {s : Shared} {R : RuleKit} {env : Env} {ρ : Ro}

/-- a new function goes out of sight -/
theorem lamTS_hide {q : Str} {poss : List Pos} {ps : Array Value} {h : Heap} {own own' : List Addr} (t : lamTS q poss ps (hideAll h own)) (n : ∀ b o, (hideAll h own).get? b = some o → (∃ vs, o.data = .fields vs) → b ∉ own') : lamTS q poss ps (hideAll h own') := by
  refine ⟨t.1, fun p hp => ?_⟩
  rcases t.2 p hp with e | ⟨c, e, ⟨c', o, vs, tk, e', ho, hd, hv⟩⟩
  · exact .inl e
  · exact .inr ⟨c, e, c', o, vs, tk, e', vis_iff.mpr ⟨(vis_iff.mp ho).1, n _ _ ho ⟨vs, hd⟩⟩, hd, hv⟩
theorem Ok.hide {c : Addr} (L : LamOk W R.q R.poss c) {h : Heap} (ok : Ok W own h) {h₁ : Heap} (ok₁ : Ok W own h₁) (l : Le W.P h₁ h) {f : Addr} {o : Obj} (hf : h.get? f = some o) (nf : ∀ vs, o.data ≠ .fields vs) (new : h₁.get? f = none) : Ok W (f :: own) h := by
  obtain ⟨ps, e, t⟩ := ok.tab
  have hb : ∀ b, W.B.get? b ≠ none → b ≠ f := fun b hb z => by
    cases q : W.B.get? b with
    | none => exact hb q
    | some ob =>
      have := vis_of _ _ (ok₁.base _ _ q)
      rw [z, new] at this; cases this
  refine ⟨fun b ob q => ?_, List.mem_cons_of_mem _ ok.hP, ⟨ps, e, ?_⟩, fun a ha => ?_⟩
  · obtain ⟨q1, q2⟩ := vis_iff.mp (ok.base _ _ q)
    refine vis_iff.mpr ⟨q1, fun m => ?_⟩
    rcases List.mem_cons.mp m with z | m
    · exact hb b (by rw [q]; intro z; cases z) z
    · exact q2 m
  · rw [L.ts] at t ⊢
    refine lamTS_hide t fun b ob q ⟨vs, hd⟩ m => ?_
    obtain ⟨q1, q2⟩ := vis_iff.mp q
    rcases List.mem_cons.mp m with z | m
    · subst z; rw [hf] at q1; cases q1; exact nf vs hd
    · exact q2 m
  · rcases List.mem_cons.mp ha with z | ha
    · subst z; exact ⟨o, hf⟩
    · exact ok.live a ha
/-- a place out of sight goes with what stands before it -/
theorem Frm.hide {h₁ h : Heap} (F : Frm W own env h₁ ρ) (l : Le W.P h₁ h) {f : Addr} (new : h₁.get? f = none) (ok : Ok W (f :: own) h) : Frm W (f :: own) env h ρ := by
  refine F.move (fun b o e => ?_) (fun a ha o e => l a o (F.rdLive ha).1 e) ok fun a ha => List.mem_cons_of_mem _ (F.wrOwn ha)
  obtain ⟨q1, q2⟩ := vis_iff.mp e
  refine vis_iff.mpr ⟨l b o (fun z => q2 (z ▸ F.sees.ok.hP)) q1, fun m => ?_⟩
  rcases List.mem_cons.mp m with z | m
  · rw [z, new] at q1; cases q1
  · exact q2 m

/-- what the maker's text is -/
structure MakerOk (R : RuleKit) (O : Own) (body : List Stmt) (ρ : Ro) (es : List Dt) (n : Nat) : Prop where
  body : ∃ (x : Str) (e : Expr) (a1 a2 a3 a4 a5 a6 a7 a8 a9 a10 : Pos) (ρ' : Ro), body = [.Assign [.Name x a1] (.Lambda R.par1 R.body1 R.sc1 R.p1) a2, .Assign [.Attribute (.Name x a3) "applies_to" a4] (.Lambda R.par2 R.body2 R.sc2 R.p2) a5,
    .Assign [.Attribute (.Name x a6) "allowance" a7] e a8, .Return (some (.Name x a9)) a10] ∧ put ρ x .unb = some ρ' ∧ ρ' = ρ ∧ (ev O n).e ρ e = some (R.verdict es) ∧ swapsWith e (some (.Attribute (.Name x a6) "allowance" a7)) a8.line = fun _ => pure false
  flat : isFlat (R.verdict es) = true
  p1 : R.p1 ∈ R.poss
  p2 : R.p2 ∈ R.poss
  d1 : ∀ env, defaultsOf R.par1 env = ([], [])
  d2 : ∀ env, defaultsOf R.par2 env = ([], [])
  free1 : ∀ x ∈ R.sc1.names, x.2 ≠ .free
  free2 : ∀ x ∈ R.sc2.names, x.2 = .free → ∃ d, ρ.lookup x.1 = some (.var .cel (.val d))
  frees : ∀ x d, (R.frees es).lookup x = some d → (x, NameKind.free) ∈ R.sc2.names ∧ ρ.lookup x = some (.var .cel (.val d)) ∧ isFlat d = true

theorem lk_fn_applies : typeLookup (.type "function") "applies_to" = pure none := by rw [typeLookup_type, builtinLookup_eq_fast]; kernel_rfl
theorem lk_fn_allowance : typeLookup (.type "function") "allowance" = pure none := by rw [typeLookup_type, builtinLookup_eq_fast]; kernel_rfl
end
end Mine

namespace Mine
section
variable {W : Wd} {K : Nat} {O : Own} {own own₀ : List Addr} {A : Around} {E : Value → Shared → Prop} {s : Shared} {R : RuleKit} {env : Env} {ρ : Ro}

theorem make_rule (frd : ∀ (A : Around) (env : Env), W.FR A.frames → W.FR (A.deeper env).frames) (B : BltOk W) (C : OwnOk W K O) {c : Addr} (L : LamOk W R.q R.poss c) {fd : FuncData} {params : List Str} {body : List Stmt} {es : List Dt} {fa : Addr} {o : Obj} {n : Nat} (Fi : FnInfo fd params body) (hlen : es.length = params.length)
    (hρ : entryRo (params.zip es) fd.scope.names = some ρ) (ho : W.B.get? fa = some o) (hd : o.data = .func fd) (hcd : W.B.CodeRec fd.code fd.qualname) (hcode : fd.code = .ref c) (hq : fd.qualname ++ ".<locals>." ++ "<lambda>" = R.q)
    (M : MakerOk R O body ρ es n) (hOB : ∀ g v, RuleAt R g v es → W.OB 5 es g v) : Calls1 W (K + 5) (.ref fa) es (.opq 5 es) := by
  intro A E s Q own₀ vs k ok₀ rs p
  refine wpAny_call (fn_run Fi hlen hρ ho hd hcd (k.le (by omega)) ok₀ rs fun env own₁ s₁ ec eq ⟨h₁, t₁, e⟩ R₁ E' => ?_)
  subst e
  obtain ⟨x, e, a1, a2, a3, a4, a5, a6, a7, a8, a9, a10, ρ', rfl, hp, rfl, he, hsw⟩ := M.body
  have k4 := k.deeper env frd
  have hcode' : env.code = .ref c := ec.trans hcode
  have hq' : env.qual ++ "<lambda>" = R.q := by rw [eq]; exact hq
  have F₁ : Frm W own₁ env h₁ ρ' := R₁.frm
  -- what stood at the call stays
  have prot : ∀ b ob, s.heap.get? b = some ob → b ≠ W.P → h₁.get? b = some ob ∧ ¬ WrF env ρ' b := fun b ob e n => let ⟨p1, _, p3, _⟩ := R₁.prot b ob ⟨e, n⟩; ⟨p1, p3⟩
  have lt1 : ∀ b, (∃ ob, s.heap.get? b = some ob) → b < h₁.objs.size := fun b ⟨ob, e⟩ => by
    by_cases hb : b = W.P
    · obtain ⟨ps, e', _⟩ := F₁.sees.ok.tab; rw [hb]; exact Heap.lt_size e'
    · exact Heap.lt_size (prot b ob e hb).1
  have clos1 : closureFor R.sc1 env = pure (closOf env R.sc1.names []) := closure_eq fun x hx hf => absurd hf (M.free1 x hx)
  have clos2 : closureFor R.sc2 env = pure (closOf env R.sc2.names []) := closure_eq fun x hx hf => by
    obtain ⟨d, hl⟩ := M.free2 x hx hf
    exact (F₁.sees.at' x.1 _ hl).1.2
  -- rule = lambda: None
  refine wpAny_execs_cons (wpAny_Assign_Name (lam_sound L M.p1 (M.d1 env) hq' clos1 F₁.sees.envOk.gl hcode' F₁.sees.ok fun f h₂ t₂ pm cdv ctv hf hge hrec _ l₂ ok₂ _ => ?_) rfl)
  have newf : h₁.get? f = none := fresh_none hge
  have ok₂' : Ok W (f :: own₁) h₂ := ok₂.hide L F₁.sees.ok l₂ hf (fun vs z => nomatch z) newf
  have F₂ : Frm W (f :: own₁) env h₂ ρ' := F₁.hide l₂ newf ok₂'
  refine store_sound (s := { s with heap := h₂, toks := t₂ }) (b := .unb) F₂ hp (fun d z => nomatch z) fun h₃ t₃ kx F₃ c₃ b₃ hl₃ _ => ?_
  -- f is not a place of the frame
  have nWf : ¬ WrF env ρ' f := fun z => by obtain ⟨_, ob, e⟩ := F₁.rdLive z.rd; rw [newf] at e; cases e
  have nRf : ¬ RdF env ρ' f := fun z => by obtain ⟨_, ob, e⟩ := F₁.rdLive z; rw [newf] at e; cases e
  have hf₃ := c₃ f _ nWf hf
  -- rule.applies_to = lambda ..
  refine wpAny_execs_cons (plainObj_wpAny_Assign_Attribute (lam_sound (s := { s with heap := h₃, toks := t₃ }) L M.p2 (M.d2 env) hq' clos2 F₃.sees.envOk.gl hcode' F₃.sees.ok fun f2 h₄ t₄ pm2 cdv2 ctv2 hf2 hge2 hrec2 hcn2 l₄ ok₄ hrv2 => ?_) rfl)
  have F₄ : Frm W (f :: own₁) env h₄ ρ' := F₃.le l₄ ok₄
  have b₄ : Bound env h₄ x (.ref f) kx := b₃.le F₃.sees.ok l₄
  refine wpAny_Name (load_bound F₄.sees.envOk.kind (F₄.sees.at' x _ hl₃).1 b₄ ?_) (F₄.sees.nodbg x _ hl₃)
  have hfP : f ≠ W.P := fun z => by obtain ⟨ps, e, _⟩ := F₁.sees.ok.tab; rw [← z, newf] at e; cases e
  have hf₄ := l₄ f _ hfP hf₃
  refine fn_set (s := { s with heap := h₄, toks := t₄ }) (mA := fun _ => none) (ns := []) hf₄ (.inl ⟨rfl, fun _ => rfl⟩) lk_fn_applies Within.nil (by simp) fun h₅ t₅ D hf₅ hDf hD₅ ch₅ _ hDn => ?_
  have D4 : ∀ b ob, h₄.get? b = some ob → b ≠ D := fun b ob e z => absurd (Heap.lt_size e) (Nat.not_lt.mpr (z ▸ hDn rfl))
  have ok₄' : Ok W (f :: own₁) h₄ := F₄.sees.ok
  have u₅ : Up (hideAll h₄ (f :: own₁)) (hideAll h₅ (D :: f :: own₁)) := fun b ob e => by
    obtain ⟨q1, q2⟩ := vis_iff.mp e
    refine vis_iff.mpr ⟨ch₅ b ob (fun z => q2 (z ▸ List.mem_cons_self)) (fun _ z => nomatch z) q1, fun m => ?_⟩
    rcases List.mem_cons.mp m with z | m
    · exact D4 b ob q1 z
    · exact q2 m
  have keep₅ : ∀ a, a ≠ f → ∀ ob, h₄.get? a = some ob → h₅.get? a = some ob := fun a n ob e => ch₅ a ob n (fun _ z => nomatch z) e
  have ok₅ : Ok W (D :: f :: own₁) h₅ := ok₄'.move u₅ (List.mem_cons_of_mem _ ok₄'.hP) (keep₅ _ (Ne.symm hfP)) fun a ha => by
    rcases List.mem_cons.mp ha with z | ha
    · obtain ⟨ob, _, _, e, _⟩ := hD₅; exact ⟨ob, z ▸ e⟩
    · by_cases haf : a = f
      · exact ⟨_, haf ▸ hf₅⟩
      · obtain ⟨ob, e⟩ := ok₄'.live a ha; exact ⟨ob, keep₅ a haf ob e⟩
  have F₅ : Frm W (D :: f :: own₁) env h₅ ρ' := F₄.move u₅ (fun a ha ob e => keep₅ a (fun z => nRf (z ▸ ha)) ob e) ok₅ fun a ha => List.mem_cons_of_mem _ (F₄.wrOwn ha)
  have b₅ : Bound env h₅ x (.ref f) kx := bound_keep (st := ⟨ρ', []⟩) hl₃ (fun a ha ob e => keep₅ a (fun z => nRf (z ▸ ha)) ob e) b₄
  -- rule.allowance = ..
  refine wpAny_execs_cons (plainObj_wpAny_Assign_Attribute ((ev_sound B C n).1.e ρ' e _ _ env _ _ _ _ he k4 F₅.sees fun h₆ t₆ va l₆ ok₆ rva => ?_) (by rw [hsw]))
  have F₆ := F₅.le l₆ ok₆
  have b₆ : Bound env h₆ x (.ref f) kx := b₅.le F₅.sees.ok l₆
  refine wpAny_Name (load_bound F₆.sees.envOk.kind (F₆.sees.at' x _ hl₃).1 b₆ ?_) (F₆.sees.nodbg x _ hl₃)
  have hDP : D ≠ W.P := fun z => by
    obtain ⟨ps, e, _⟩ := ok₄'.tab
    exact D4 _ _ e z.symm
  have hf₆ := l₆ f _ hfP hf₅
  have hD₆ := hD₅.at (l₆ D · hDP)
  refine fn_set (s := { s with heap := h₆, toks := t₆ }) (ns := ["applies_to"]) hf₆ (.inr ⟨D, rfl, hDf, hD₆⟩) lk_fn_allowance (Within.cons _ _ Within.nil) (by simp) fun h₇ t₇ D' hf₇ _ hD₇ ch₇ hD' _ => ?_
  cases hD' D rfl
  have ch₇' : ∀ b, b ≠ f → b ≠ D → ∀ ob, h₆.get? b = some ob → h₇.get? b = some ob := fun b n1 n2 ob e => ch₇ b ob n1 (fun D0 z => by cases z; exact n2) e
  have u₇ : Up (hideAll h₆ (D :: f :: own₁)) (hideAll h₇ (D :: f :: own₁)) := fun b ob e => by
    obtain ⟨q1, q2⟩ := vis_iff.mp e
    exact vis_iff.mpr ⟨ch₇' b (fun z => q2 (z ▸ List.mem_cons_of_mem _ List.mem_cons_self)) (fun z => q2 (z ▸ List.mem_cons_self)) ob q1, q2⟩
  have ok₇ : Ok W (D :: f :: own₁) h₇ := ok₆.move u₇ ok₆.hP (ch₇' _ (Ne.symm hfP) (Ne.symm hDP)) fun a ha => by
    by_cases haf : a = f
    · exact ⟨_, haf ▸ hf₇⟩
    · by_cases haD : a = D
      · obtain ⟨ob, _, _, e, _⟩ := hD₇; exact ⟨ob, haD ▸ e⟩
      · obtain ⟨ob, e⟩ := ok₆.live a ha; exact ⟨ob, ch₇' a haf haD ob e⟩
  have nRD : ¬ RdF env ρ' D := fun z => by obtain ⟨_, ob, e⟩ := F₄.rdLive z; exact D4 _ _ e rfl
  have keep₇ : ∀ a, RdF env ρ' a → ∀ ob, h₆.get? a = some ob → h₇.get? a = some ob := fun a ha ob e => ch₇' a (fun z => nRf (z ▸ ha)) (fun z => nRD (z ▸ ha)) ob e
  have F₇ : Frm W (D :: f :: own₁) env h₇ ρ' := F₆.move u₇ keep₇ ok₇ fun a ha => F₆.wrOwn ha
  have b₇ : Bound env h₇ x (.ref f) kx := bound_keep (st := ⟨ρ', []⟩) hl₃ keep₇ b₆
  -- return rule
  refine wpAny_execs_cons (wpAny_Return_some (wpAny_Name (load_bound F₇.sees.envOk.kind (F₇.sees.at' x _ hl₃).1 b₇ ?_) (F₇.sees.nodbg x _ hl₃)))
  have old : ∀ b ob, s.heap.get? b = some ob → b ≠ W.P → h₃.get? b = some ob ∧ h₄.get? b = some ob ∧ h₇.get? b = some ob := fun b ob e n => by
    obtain ⟨p1, p3⟩ := prot b ob e n
    have bf : b ≠ f := fun z => by rw [z, newf] at p1; cases p1
    have e3 := c₃ b ob p3 (l₂ b ob n p1)
    have e4 := l₄ b ob n e3
    exact ⟨e3, e4, ch₇' b bf (D4 b ob e4) ob (l₆ b ob n (keep₅ b bf ob e4))⟩
  have own0 : ∀ b, b ∈ own₀ → ∃ ob, s.heap.get? b = some ob := ok₀.live
  have hP0 : ∀ h : Heap, (∃ own, Ok W own h) → ∃ ob, h.get? W.P = some ob := fun h ⟨_, o⟩ => let ⟨ps, e, _⟩ := o.tab; ⟨_, e⟩
  have lv3 : ∀ b, b ∈ own₀ → ∃ ob, h₃.get? b = some ob := fun b hb => by
    by_cases n : b = W.P
    · rw [n]; exact hP0 _ ⟨_, F₃.sees.ok⟩
    · obtain ⟨ob, e⟩ := own0 b hb; exact ⟨ob, (old b ob e n).1⟩
  have lv4 : ∀ b, b ∈ own₀ → ∃ ob, h₄.get? b = some ob := fun b hb => by
    by_cases n : b = W.P
    · rw [n]; exact hP0 _ ⟨_, ok₄'⟩
    · obtain ⟨ob, e⟩ := own0 b hb; exact ⟨ob, (old b ob e n).2.1⟩
  have nf0 : f ∉ own₀ := fun m => by
    by_cases n : f = W.P
    · exact hfP n
    · obtain ⟨ob, e⟩ := own0 f m
      have := (prot f ob e n).1
      rw [newf] at this; cases this
  have nD0 : D ∉ own₀ := fun m => by obtain ⟨ob, e⟩ := lv4 D m; exact D4 _ _ e rfl
  have sub0 : ∀ a ∈ own₀, a ∈ D :: f :: own₁ := fun a ha => List.mem_cons_of_mem _ (List.mem_cons_of_mem _ (R₁.sub a ha))
  have ok0 : Ok W own₀ h₇ := ok₇.sub sub0 ok₀.hP
  have u47 : Up (hideAll h₄ (f :: own₁)) (hideAll h₇ own₀) := ((u₅.trans (vis_le ok₆.hP l₆)).trans u₇).trans (vis_sub sub0)
  have hf2v : (hideAll h₄ (f :: own₁)).get? f2 = some { cls := .type "function", data := .func (kla_fn "<lambda>" R.q R.par2 R.body2 R.sc2 (closOf env R.sc2.names []) pm2 cdv2 ctv2) } := vis_iff.mpr ⟨hf2, fun m => by
    obtain ⟨ob, e⟩ := F₃.sees.ok.live f2 m
    exact absurd (Heap.lt_size e) (Nat.not_lt.mpr hge2)⟩
  refine p h₇ t₇ (.ref f) (fun b ob n e => (old b ob e n).2.2) ok0 (.opq (hOB _ _ ⟨f, D, _, (fun y => if y = ("allowance" : Str) then some va else if y = ("applies_to" : Str) then some (.ref f2) else none), f2, pm2, cdv2, ctv2, _, va, rfl, vis_iff.mpr ⟨hf₇, nf0⟩, ?_, ?_, ?_, FlatV.of M.flat rva, u47 _ _ hf2v, hrv2.keeps u47, fun y d hy => ?_⟩))
  · obtain ⟨ob, es', ep, e1, e2, e3, _, e4⟩ := hD₇
    exact ⟨ob, es', ep, vis_iff.mpr ⟨e1, nD0⟩, e2, e3, e4⟩
  · dsimp only
    rw [if_neg (by decide +kernel), if_pos rfl]
  · exact if_pos rfl
  · obtain ⟨m1, m2, m3⟩ := M.frees y d hy
    obtain ⟨⟨_, c0, hc0⟩, H⟩ := F₇.sees.at' y _ m2
    obtain ⟨vx, ⟨c1, q1, q2⟩, rx⟩ := H d rfl
    rw [hc0] at q1; cases q1
    refine ⟨c0, vx, by rw [clos_lookup, if_pos m1, hc0]; rfl, ?_, FlatV.of m3 rx⟩
    obtain ⟨ob, e1, e2⟩ := q2
    refine ⟨ob, vis_iff.mpr ⟨e1, fun m => ?_⟩, e2⟩
    obtain ⟨ob', e'⟩ := own0 c0 m
    by_cases n : c0 = W.P
    · exact F₇.sees.ok.cell_ne ⟨ob, e1, e2⟩ n
    · exact (prot c0 ob' e' n).2 (.inr ⟨y, _, m2, hc0⟩)
end
end Mine

namespace Mine

noncomputable def MethSpec (W : Wd) (K : Nat) (n : Nat) (es : List Dt) (m : Str) (args : List Dt) (d : Dt) : Prop := ∀ (own : List Addr) (s : Shared) (A : Around) (E : Value → Shared → Prop) (v : Value), AOk W K A → Ok W own s.heap → Rep W (hideAll s.heap own) v (.opq n es) →
    ∃ f first, (∀ pl (Q : Value × List Value → Shared → Prop), (∀ tk, Q (f, first) { s with toks := tk }) → wpAny W.M A (getMethod v m pl) Q E s) ∧ (∀ h, Le W.P s.heap h → Ok W own h → KeepOk W f h) ∧
      ∀ (A : Around) (E : Value → Shared → Prop) (s' : Shared) (Q : Value → Shared → Prop) (vs : List Value), AOk W K A → Le W.P s.heap s'.heap → Ok W own s'.heap → Reps W (hideAll s'.heap own) vs args → Post W own s' Q d → wpAny W.M A (call f (first ++ vs)) Q E s'
noncomputable def AttrSpec (W : Wd) (K : Nat) (n : Nat) (es : List Dt) (a : Str) (d : Dt) : Prop := ∀ (own : List Addr) (s : Shared) (A : Around) (E : Value → Shared → Prop) (v : Value) (Q : Value → Shared → Prop), AOk W K A → Ok W own s.heap → Rep W (hideAll s.heap own) v (.opq n es) → 
    (∀ v' tk, Rep W (hideAll s.heap own) v' d → Q v' { s with toks := tk }) → wpAny W.M A (getAttr v a true) Q E s

section
variable {W : Wd} {K : Nat} {O : Own} {R : RuleKit}
theorem rule_applies (frd : ∀ (A : Around) (env : Env), W.FR A.frames → W.FR (A.deeper env).frames) (B : BltOk W) (C : OwnOk W K O) (hR : KitOk R) (n : Nat) {es : List Dt} {d d' : Dt} {ρ : Ro} (hOB : ∀ g v, W.OB 5 es g v → RuleAt R g v es) (hρ : lamRo (R.frees es) R.arg d R.sc2.names = some ρ) (he : (ev O n).e ρ R.body2 = some d') :
    MethSpec W (K + 5) 5 es "applies_to" [d] d' := by
  intro own s A E v k ok r
  obtain ⟨f, D, fd1, mA, f2, pm, cdv, ctv, clos, va, rfl, h1, h2, h3, h4, h5, h6, h7, h8⟩ := hOB _ _ (opq_of r)
  refine ⟨.ref f2, [], fun pl Q hQ => ?_, fun h l o => ?_, fun A E s' Q vs k' l o rs p => ?_⟩
  · obtain ⟨hh, g, dr, t, os⟩ := s
    exact fn_getMethod (vis_of _ _ h1) (h2.keeps vis_of) lk_fn_applies h3 rfl (hQ _)
  · refine keeps_F h ⟨_, _, _, _, vis_of _ _ (vis_le o.hP l _ _ h6)⟩
  · obtain ⟨w, rfl, rw'⟩ := rs.inv1
    have u := vis_le o.hP l
    exact lam_call (R := R) frd B C hR n (u _ _ h6) (h7.keeps u) (fun x d hx => let ⟨c, vx, a, b, c'⟩ := h8 x d hx; ⟨c, vx, a, b.keeps u, c'⟩) hρ he k' o rw' p
theorem rule_allows {es : List Dt} (hOB : ∀ g v, W.OB 5 es g v → RuleAt R g v es) : AttrSpec W K 5 es "allowance" (R.verdict es) := by
  intro own s A E v Q k ok r hQ
  obtain ⟨f, D, fd1, mA, f2, pm, cdv, ctv, clos, va, rfl, h1, h2, h3, h4, h5, h6, h7, h8⟩ := hOB _ _ (opq_of r)
  obtain ⟨hh, g, dr, t, os⟩ := s
  refine fn_getAttr (vis_of _ _ h1) (h2.keeps vis_of) lk_fn_allowance h4 ?_ (hQ va _ h5.rep)
  cases h : R.verdict es with
  | int i => rw [h] at h5; obtain ⟨t, rfl⟩ := h5; rfl
  | str x => rw [h] at h5; obtain ⟨t, rfl⟩ := h5; rfl
  | bool b => rw [h] at h5; cases h5; rfl
  | _ => rw [h] at h5; exact h5.elim
end
end Mine

open Builtin Builtin.ObjectAttr
namespace Mine

/-- what the text's class is known by -/
structure EntOk (K : Frag) (C fI fA : Addr) : Prop where
  makes : makesIn K C = true
  init : findIn K (.ref C) "__init__" = some (some (.ref fI))
  initF : typeIn K (.ref fI) = some (.type "function")
  sa : findIn K (.ref C) "__setattr__" = some (some (.builtin "object.__setattr__"))
  po : plainOver K C = true
  tk : ∀ name ∈ (["useragents", "rulelines", "delay", "req_rate"] : List Str), takerIn K C name = some none
  hd : (clsIn K C).any (·.hasDict) = true
  ga : findIn K (.ref C) "__getattribute__" = some (some (.builtin "object.__getattribute__"))
  gk : findIn K (.ref C) "__getattr__" = some none
  rl : findIn K (.ref C) "rulelines" = some none
  al : findIn K (.ref C) "allowance" = some (some (.ref fA))
  alF : typeIn K (.ref fA) = some (.type "function")

section
variable {prog : Program} {w : World} {A : Around} {E : Value → Shared → Prop} {s : Shared} {K : Frag} {C fI fA x dx : Addr}
theorem ent_set (Y : EntOk K C fI fA) (X : K.In s.heap) {mA : Str → Option Value} {name : Str} {v : Value} {ns : List Str} {Q : Unit → Shared → Prop} (hx : s.heap.get? x = some (instObj C dx)) (hne : dx ≠ x) (hD : s.heap.Ns1 dx mA)
    (hnm : name ∈ (["useragents", "rulelines", "delay", "req_rate"] : List Str)) (hw : Within mA ns) (hsz : ns.length ≤ 1000)
    (hq : ∀ h' tk, h'.Ns1 dx (fun y => if y = name then some v else mA y) → Heap.SameBut dx s.heap h' → Q () { s with heap := h', toks := tk }) : wpAny (model prog w) A (setAttr (.ref x) name v) Q E s := by
  obtain ⟨od, es, ep, ho, hdd, hrest⟩ := id hD
  have I : InstAt s.heap x (instObj C dx) C (some od) := ⟨hx, rfl, rfl, ho⟩
  have I1 : InstAt ({ s with toks := s.toks + 1 } : Shared).heap x (instObj C dx) C (some od) := ⟨hx, rfl, rfl, ho⟩
  refine set_plain X I Y.sa (osa_open (s := { s with toks := s.toks + 1 }) X I1 Y.po (Y.tk name hnm) fun b => ?_)
  obtain ⟨cd, hc, hd'⟩ := any_some Y.hd
  refine wpAny_bind (wpAny_pure (wpAny_bind (wpAny_bind (wpAny_loadPart hx (wpAny_bind ((looks_clsIn X hc) _ _ _ _ (fun _ _ e => e) ?_))))))
  rw [hd']
  refine wpAny_pure (a := some dx) ?_
  show wpAny _ _ (storeInDict dx _ name v) _ _ _
  unfold storeInDict newKeyGuard
  refine wpAny_bind (wpAny_pure (wpAny_bind (wpAny_nsSet1 hD fun h' hn' hs => ?_)))
  obtain ⟨oD, esD, epD, hoD, hdD, hcD⟩ := hn'.count (Within.cons name v hw)
  refine wpAny_bind (wpAny_lookBehind hoD (by rw [hdD]; exact pastItsLine_dict (Nat.le_trans hcD (by rw [List.length_cons, sizeLine_eq]; omega))) ?_)
  exact wpAny_pure (hq h' _ hn' hs)

theorem lookIn_ns {h : Heap} {D : Addr} {mA : Str → Option Value} {name : Str} {v : Value} (hD : h.Ns D mA) (hv : mA name = some v) : ∃ od, h.get? D = some od ∧ lookIn name od = some (some v) := by
  obtain ⟨o, es, ep, e, hd, hk, hf⟩ := hD
  refine ⟨o, e, ?_⟩
  have := hf name
  rw [hv] at this
  unfold lookIn
  rw [hd]
  dsimp only
  unfold nsFind findBy at this
  rw [← Array.find?_toList] at this
  obtain ⟨en, h1, h2⟩ := Option.map_eq_some_iff.mp this
  rw [h1]
  exact congrArg (fun z => some (some z)) h2
end
end Mine

open Builtin Builtin.ObjectAttr
namespace Mine

section
variable {W : Wd} {A : Around} {E : Value → Shared → Prop} {s : Shared} {K : Frag} {C fI fA x dx : Addr} {own : List Addr} {env : Env} {ρ : Ro}

/-- the frame goes on over a change at a hidden place that is not its own -/
theorem Frm.same {h h' : Heap} (F : Frm W own env h ρ) {D : Addr} (hD : D ∈ own) (hP : D ≠ W.P) (hr : ¬ RdF env ρ D) (hs : Heap.SameBut D h h') (live : ∃ o, h'.get? D = some o) : Frm W own env h' ρ := by
  obtain ⟨o, e⟩ := live
  have ok' := F.sees.ok.same hD hP hs e
  exact F.move (vis_same hD hs) (fun a ha ob q => (hs.2 a fun z => hr (z ▸ ha)).trans q) ok' fun a ha => F.wrOwn ha

theorem init_set (Y : EntOk K C fI fA) (hK : K.In W.B) (hOB : ∀ g v (i : Int), W.OB 7 [.int i] g v → v = .ref i.toNat) {mA : Str → Option Value} {name : Str} {ns : List Str} {a1 a2 a3 : Pos} {v : Expr} {Q : Flow → Shared → Prop} (F : Frm W own env s.heap ρ)
    (hself : ρ.lookup ("self" : Str) = some (Slot.var .loc (.val (.opq 7 [.int (x : Nat)])))) (hx : s.heap.get? x = some (instObj C dx)) (hne : dx ≠ x) (hdo : dx ∈ own) (hdP : dx ≠ W.P) (hdr : ¬ RdF env ρ dx) (hD : s.heap.Ns1 dx mA)
    (hnm : name ∈ (["useragents", "rulelines", "delay", "req_rate"] : List Str)) (hw : Within mA ns) (hsz : ns.length ≤ 1000) (hs : swapsWith v (some (.Attribute (.Name "self" a1) name a2)) a3.line env = pure false)
    {V : Value → Heap → Prop} (hV : ∀ (Q : Value → Shared → Prop), (∀ h' tk vv, Up s.heap h' → V vv h' → Q vv { s with heap := h', toks := tk }) → wpAny W.M A (eval v env) Q E s) (hVk : ∀ vv h h', Heap.SameBut dx h h' → V vv h → V vv h') 
    (hq : ∀ h' tk vv, V vv h' → Frm W own env h' ρ → h'.get? x = some (instObj C dx) → h'.Ns1 dx (fun y => if y = name then some vv else mA y) → (∀ b o, b ≠ dx → s.heap.get? b = some o → h'.get? b = some o) → Q .next { s with heap := h', toks := tk }) :
    wpAny W.M A (exec (.Assign [.Attribute (.Name "self" a1) name a2] v a3) env) Q E s := by
  refine plainObj_wpAny_Assign_Attribute (hV _ fun h1 t1 vv u1 hv1 => ?_) hs
  have ok1 := F.sees.ok.up u1
  have F1 := F.le u1.le ok1
  refine name_val (s := { s with heap := h1, toks := t1 }) F1.sees hself rfl fun u ru => ?_
  have hu := hOB _ _ _ (opq_of ru)
  have hu' : u = .ref x := hu
  subst hu'
  refine ent_set (s := { s with heap := h1, toks := t1 }) Y (fun a o e => vis_of _ _ (F1.sees.ok.base _ _ (hK a o e))) (u1 _ _ hx) hne (hD.at (u1 dx)) hnm hw hsz fun h2 t2 hD2 hs2 => ?_
  have F2 := F1.same hdo hdP hdr hs2 (let ⟨o, _, _, e, _⟩ := hD2; ⟨o, e⟩)
  exact hq h2 t2 vv (hVk vv h1 h2 hs2 hv1) F2 ((hs2.2 x (Ne.symm hne)).trans (u1 _ _ hx)) hD2 fun b o nb e => (hs2.2 b nb).trans (u1 b o e)
end
end Mine

open Builtin Builtin.ObjectAttr
namespace Mine

/-- an object of the text's class whose list of rules is the given one -/
noncomputable def InstG (C : Addr) (g : Heap) (v : Value) (a : Addr) : Prop :=
  ∃ x dx mA, v = .ref x ∧ g.get? x = some (instObj C dx) ∧ g.Ns dx mA ∧ mA "rulelines" = some (.ref a) ∧ mA "allowance" = none
theorem InstG.up {C : Addr} {g g' : Heap} {v : Value} {a : Addr} (u : Up g g') (h : InstG C g v a) : InstG C g' v a := by
  obtain ⟨x, dx, mA, e, h1, h2, h3⟩ := h
  exact ⟨x, dx, mA, e, u _ _ h1, h2.keeps u, h3⟩

theorem tc_weight (C : Addr) : (Code.builtin "type.__call__" ⟨[.ref C], []⟩).weight ≤ 1 := by
  have : (Code.builtin "type.__call__" ⟨[.ref C], []⟩).weight = 1 := by kernel_rfl
  omega
theorem tc_units (args : Args) : (Code.builtin "type.__call__" args).cUnits ≤ 10 := by
  first
    | (have : (Code.builtin "type.__call__" args).cUnits = 1 := by kernel_rfl
       omega)
    | (have : (Code.builtin "type.__call__" args).cUnits = 0 := by kernel_rfl
       omega)
    | (have : (Code.builtin "type.__call__" args).cUnits = 2 := by kernel_rfl
       omega)
theorem AOk.under_tc {W : Wd} {k : Nat} {A : Around} (x : AOk W (k + 1) A) (C : Addr) : AOk W k (A.under (.builtin "type.__call__" ⟨[.ref C], []⟩)) := by
  obtain ⟨a, b, c, d⟩ := x
  have := tc_weight C
  have := tc_units ⟨[.ref C], []⟩
  refine ⟨a, ?_, ?_, d⟩
  · show A.units + _ + 100 + 10 * k < _; omega
  · show A.depth + _ + 10 + 2 * k < _; omega

section
variable {W : Wd} {A : Around} {E : Value → Shared → Prop} {s : Shared} {K : Frag} {C fI fA x dx : Addr} {own : List Addr} {env : Env} {ρ : Ro}

theorem val_list {n0 : Nat} {s0 : Heap} {p : Pos} (up : ∀ b, s0.objs.size ≤ b → True) : ∀ (Q : Value → Shared → Prop), (∀ h' tk vv, Up s.heap h' → (∃ a, vv = .ref a ∧ a = s.heap.objs.size ∧ h'.PlainList a #[]) → Q vv { s with heap := h', toks := tk }) → wpAny W.M A (eval (.List [] p) env) Q E s := fun Q h => by
  refine wpAny_List_spliced (PyProof.Rows.spliced_none ⟨by simp [sizeLine_eq], ?_⟩)
  exact h _ s.toks _ (Up.push _ _) ⟨s.heap.objs.size, rfl, rfl, 0, Heap.get?_push_size _ rfl⟩
theorem val_none {k : Nat} {p : Pos} : ∀ (Q : Value → Shared → Prop), (∀ h' tk vv, Up s.heap h' → vv = .none → Q vv { s with heap := h', toks := tk }) → wpAny W.M A (eval (.Constant .none k p) env) Q E s := fun Q h =>
  wpAny_Constant_none (h s.heap s.toks _ (Up.refl _) rfl)

structure InitOk (W : Wd) (fI : Addr) (fd : FuncData) (o : Obj) (body : List Stmt) : Prop where
  fi : FnInfo fd ["self"] body
  ho : W.B.get? fI = some o
  hd : o.data = .func fd
  hcd : W.B.CodeRec fd.code fd.qualname
  nm : ∀ d, entryRo [(("self" : Str), d)] fd.scope.names = some [(("self" : Str), Slot.var .loc (.val d))]
  body : ∃ (a1 a2 a3 a4 b1 b2 b3 b4 c1 c2 c3 c4 d1 d2 d3 d4 : Pos) (k1 k2 : Nat), body = [.Assign [.Attribute (.Name "self" a1) "useragents" a2] (.List [] a3) a4, .Assign [.Attribute (.Name "self" b1) "rulelines" b2] (.List [] b3) b4,
    .Assign [.Attribute (.Name "self" c1) "delay" c2] (.Constant .none k1 c3) c4, .Assign [.Attribute (.Name "self" d1) "req_rate" d2] (.Constant .none k2 d3) d4]

theorem ent_new (Y : EntOk K C fI fA) (hK : K.In W.B) (hOB : ∀ g v (i : Int), W.OB 7 [.int i] g v ↔ v = .ref i.toNat) {fd : FuncData} {o : Obj} {body : List Stmt} (J : InitOk W fI fd o body) {Q : Value → Shared → Prop} (k : AOk W 2 A) (ok : Ok W own s.heap)
    (hQ : ∀ h' tk x a, Le W.P s.heap h' → Ok W (a :: own) h' → s.heap.get? a = none → h'.PlainList a #[] → InstG C (hideAll h' (a :: own)) (.ref x) a → Q (.ref x) { s with heap := h', toks := tk }) :
    wpAny W.M A (call (.ref C) []) Q E s := by
  have X : K.In s.heap := fun a o e => vis_of _ _ (ok.base _ _ (hK a o e))
  obtain ⟨hh, g, dr, t, os⟩ := s
  dsimp only at X ok hQ
  refine wpAny_call (make_core (makes_of X Y.makes) (looks_findIn X Y.init) (fun self => bind_fn X self Y.initF) (.inl rfl) ?_)
  have e1 : (hh.push emptyDict).objs.size = hh.objs.size + 1 := Heap.size_push _ _
  have gdx : ((hh.push emptyDict).push (instObj C hh.objs.size)).get? hh.objs.size = some emptyDict := Heap.get?_push_of_some _ (Heap.get?_push_size _ rfl)
  have gx : ((hh.push emptyDict).push (instObj C hh.objs.size)).get? (hh.objs.size + 1) = some (instObj C hh.objs.size) := by
    have := Heap.get?_push_size (hh.push emptyDict) (o := instObj C hh.objs.size) rfl
    rwa [e1] at this
  have u2 : Up hh ((hh.push emptyDict).push (instObj C hh.objs.size)) := (Up.push _ _).trans (Up.push _ _)
  have nx : hh.get? hh.objs.size = none := fresh_none (Nat.le_refl _)
  have nx1 : hh.get? (hh.objs.size + 1) = none := fresh_none (Nat.le_succ _)
  have ok2 : Ok W (hh.objs.size :: own) ((hh.push emptyDict).push (instObj C hh.objs.size)) := ok.more u2 (fun b hb => List.mem_cons_of_mem _ hb) fun b hb => by
    rcases List.mem_cons.mp hb with rfl | hb
    · exact .inr ⟨nx, _, gdx⟩
    · exact .inl hb
  generalize hH : (hh.push emptyDict).push (instObj C hh.objs.size) = H at *
  have rs : Reps W (hideAll H (hh.objs.size :: own)) [Value.ref (hh.objs.size + 1)] [.opq 7 [.int ((hh.objs.size + 1 : Nat) : Int)]] := .cons (.opq ((hOB _ _ _).mpr (by simp))) .nil
  refine fn_run J.fi rfl (by simpa using J.nm _) J.ho J.hd J.hcd (k.less.under_tc _) ok2 rs fun env own₁ s₁ ec eq ⟨h₁, t₁, e⟩ R₁ E' => ?_
  subst e
  obtain ⟨a1, a2, a3, a4, b1, b2, b3, b4, c1, c2, c3, c4, d1, d2, d3, d4, k1, k2, rfl⟩ := J.body
  have F₁ : Frm W own₁ env h₁ _ := R₁.frm
  have prot : ∀ b ob, H.get? b = some ob → b ≠ W.P → h₁.get? b = some ob ∧ ¬ WrF env _ b := fun b ob e n => let ⟨p1, _, p3, _⟩ := R₁.prot b ob ⟨e, n⟩; ⟨p1, p3⟩
  have hdP : hh.objs.size ≠ W.P := fun z => by obtain ⟨ps, e, _⟩ := ok.tab; rw [← z, nx] at e; cases e
  have hxP : hh.objs.size + 1 ≠ W.P := fun z => by obtain ⟨ps, e, _⟩ := ok.tab; rw [← z, nx1] at e; cases e
  obtain ⟨g1, w1⟩ := prot _ _ gdx hdP
  obtain ⟨g2, _⟩ := prot _ _ gx hxP
  have hdr : ¬ RdF env _ hh.objs.size := fun z => w1 (R₁.nf _ z)
  have hdo : hh.objs.size ∈ own₁ := R₁.sub _ List.mem_cons_self
  have hne : hh.objs.size ≠ hh.objs.size + 1 := Nat.ne_of_lt (Nat.lt_succ_self _)
  have hD1 : h₁.Ns1 hh.objs.size (fun _ => none) := Heap.Ns1.of_empty ⟨_, #[], _, g1, rfl, fun e he => absurd he (by simp), fun _ => rfl⟩
  have hself : ([(("self" : Str), Slot.var .loc (.val (.opq 7 [.int ((hh.objs.size + 1 : Nat) : Int)])))] : Ro).lookup ("self" : Str) = some (Slot.var .loc (.val (.opq 7 [.int ((hh.objs.size + 1 : Nat) : Int)]))) := List.lookup_cons_self
  have old1 : ∀ b ob, hh.get? b = some ob → b ≠ W.P → h₁.get? b = some ob := fun b ob e n => (prot b ob (u2 _ _ e) n).1
  -- self.useragents = []
  refine wpAny_execs_cons (init_set (s := ⟨h₁, g, dr, t₁, os⟩) (V := fun _ _ => True) Y hK (fun g v i => (hOB g v i).mp) F₁ hself g2 hne hdo hdP hdr hD1 (by decide) Within.nil (by simp) rfl (fun Q h => val_list (n0 := 0) (s0 := h₁) (fun _ _ => trivial) Q fun h' tk vv u _ => h h' tk vv u trivial) (fun _ _ _ _ _ => trivial) fun h₂ t₂ v₂ _ F₂ gx2 hD2 keep2 => ?_)
  -- self.rulelines = []
  refine wpAny_execs_cons (init_set (s := ⟨h₂, g, dr, t₂, os⟩) (V := fun vv h => ∃ a, vv = .ref a ∧ a = h₂.objs.size ∧ h.PlainList a #[]) Y hK (fun g v i => (hOB g v i).mp) F₂ hself gx2 hne hdo hdP hdr hD2 (by decide) (Within.cons _ _ Within.nil) (by simp) rfl
    (fun Q h => val_list (n0 := 0) (s0 := h₁) (fun _ _ => trivial) Q h) (fun vv h h' hs ⟨a, e1, e2, n, e3⟩ => ⟨a, e1, e2, n, (hs.2 a (fun z => by
      obtain ⟨ob, _, _, e, _⟩ := hD2
      have := Heap.lt_size e
      rw [← z, e2] at this
      exact Nat.lt_irrefl _ this)).trans e3⟩) fun h₃ t₃ v₃ hv3 F₃ gx3 hD3 keep3 => ?_)
  obtain ⟨a, rfl, ha, hl3⟩ := hv3
  refine wpAny_execs_cons (init_set (s := ⟨h₃, g, dr, t₃, os⟩) (V := fun vv _ => vv = .none) Y hK (fun g v i => (hOB g v i).mp) F₃ hself gx3 hne hdo hdP hdr hD3 (by decide) (Within.cons _ _ (Within.cons _ _ Within.nil)) (by simp) rfl (fun Q h => val_none Q h) (fun _ _ _ _ e => e) fun h₄ t₄ v₄ hv4 F₄ gx4 hD4 keep4 => ?_)
  refine wpAny_execs_cons (init_set (s := ⟨h₄, g, dr, t₄, os⟩) (V := fun vv _ => vv = .none) Y hK (fun g v i => (hOB g v i).mp) F₄ hself gx4 hne hdo hdP hdr hD4 (by decide) (Within.cons _ _ (Within.cons _ _ (Within.cons _ _ Within.nil))) (by simp) rfl (fun Q h => val_none Q h) (fun _ _ _ _ e => e) fun h₅ t₅ v₅ hv5 F₅ gx5 hD5 keep5 => ?_)
  refine wpAny_execs_nil ⟨rfl, ?_⟩
  -- what stands at the end
  have kp : ∀ b, b ≠ hh.objs.size → ∀ ob, h₁.get? b = some ob → h₅.get? b = some ob := fun b n ob e => keep5 b ob n (keep4 b ob n (keep3 b ob n (keep2 b ob n e)))
  have lt1 : ∀ b, (∃ ob, H.get? b = some ob) → b < h₂.objs.size := fun b ⟨ob, e⟩ => by
    by_cases hb : b = W.P
    · obtain ⟨ps, e', _⟩ := F₂.sees.ok.tab; rw [hb]; exact Heap.lt_size e'
    · by_cases hbd : b = hh.objs.size
      · obtain ⟨ob', _, _, e', _⟩ := hD2; rw [hbd]; exact Heap.lt_size e'
      · exact Heap.lt_size (keep2 b ob hbd (prot b ob e hb).1)
  have hao : ∀ b, (∃ ob, H.get? b = some ob) → b ≠ a := fun b hb z => by
    have := lt1 b hb
    rw [z, ha] at this
    exact Nat.lt_irrefl _ this
  have had : a ≠ hh.objs.size := fun z => hao _ ⟨_, gdx⟩ z.symm
  have hla : h₅.PlainList a #[] := let ⟨n, e⟩ := hl3; ⟨n, keep5 a _ had (keep4 a _ had e)⟩
  have hPl : ∃ ob, H.get? W.P = some ob := let ⟨ps, e, _⟩ := ok2.tab; ⟨_, e⟩
  have liveO : ∀ b ∈ own, ∃ ob, H.get? b = some ob := fun b hb => let ⟨ob, e⟩ := ok.live b hb; ⟨ob, u2 _ _ e⟩
  have hnone : hh.get? a = none := by
    cases q : hh.get? a with
    | none => rfl
    | some ob => exact absurd rfl (hao a ⟨ob, u2 _ _ q⟩)
  have ndo : hh.objs.size ∉ own := ok.new nx
  have nxo : hh.objs.size + 1 ∉ own := ok.new nx1
  have nao : a ∉ own := ok.new hnone
  have sub1 : ∀ b ∈ own, b ∈ own₁ := fun b hb => R₁.sub b (List.mem_cons_of_mem _ hb)
  have ok5 : Ok W own h₅ := F₅.sees.ok.sub sub1 ok.hP
  obtain ⟨ps, etab, ttab⟩ := ok5.tab
  have dseq : ∀ b ob, h₅.get? b = some ob → b = a → ∃ x n, ob.data = .seq x n := fun b ob e z => by
    obtain ⟨n, e'⟩ := hla
    rw [z, e'] at e; cases e; exact ⟨_, _, rfl⟩
  have ok6 : Ok W (a :: own) h₅ := by
    refine ⟨fun b ob e => ?_, List.mem_cons_of_mem _ ok.hP, ⟨ps, etab, W.tsDrop _ _ _ (fun b ob e n1 _ => ?_) ttab⟩, fun b hb => ?_⟩
    · obtain ⟨q1, q2⟩ := vis_iff.mp (ok5.base b ob e)
      refine vis_iff.mpr ⟨q1, fun m => ?_⟩
      rcases List.mem_cons.mp m with z | m
      · have := vis_of _ _ (ok.base b ob e)
        exact hao b ⟨ob, u2 _ _ this⟩ z
      · exact q2 m
    · obtain ⟨q1, q2⟩ := vis_iff.mp e
      refine vis_iff.mpr ⟨q1, fun m => ?_⟩
      rcases List.mem_cons.mp m with z | m
      · obtain ⟨x, n, hd⟩ := dseq b ob q1 z
        exact n1 x n hd
      · exact q2 m
    · rcases List.mem_cons.mp hb with z | hb
      · obtain ⟨n, e⟩ := hla; exact ⟨_, z ▸ e⟩
      · exact ok5.live b hb
  refine hQ h₅ t₅ (hh.objs.size + 1) a (fun b ob n e => ?_) ok6 hnone hla ⟨hh.objs.size + 1, hh.objs.size, (fun y => if y = ("req_rate" : Str) then some v₅ else if y = ("delay" : Str) then some v₄ else if y = ("rulelines" : Str) then some (.ref a) else if y = ("useragents" : Str) then some v₂ else none), rfl, vis_iff.mpr ⟨gx5, fun m => ?_⟩, ?_, ?_, ?_⟩
  · have e2 := u2 _ _ e
    exact kp b (fun z => by rw [z, nx] at e; cases e) ob (prot b ob e2 n).1
  · rcases List.mem_cons.mp m with z | m
    · exact hao _ ⟨_, gx⟩ z
    · exact nxo m
  · obtain ⟨ob, es', ep, e1, e2, e3, _, e4⟩ := hD5
    refine ⟨ob, es', ep, vis_iff.mpr ⟨e1, fun m => ?_⟩, e2, e3, e4⟩
    rcases List.mem_cons.mp m with z | m
    · exact had z.symm
    · exact ndo m
  · dsimp only
    rw [if_neg (by decide +kernel), if_neg (by decide +kernel), if_pos rfl]
  · dsimp only
    rw [if_neg (by decide +kernel), if_neg (by decide +kernel), if_neg (by decide +kernel), if_neg (by decide +kernel)]
end
end Mine

open Builtin Builtin.ObjectAttr
namespace Mine

noncomputable def RulesAt (R : RuleKit) (g : Heap) : List Value → List Dt → Prop
  | [], [] => True
  | v :: vs, d :: ds => (∃ es, d = .opq 5 es ∧ RuleAt R g v es) ∧ RulesAt R g vs ds
  | _, _ => False
theorem RulesAt.up {R : RuleKit} {g g' : Heap} (u : Up g g') : ∀ {vs : List Value} {ds : List Dt}, RulesAt R g vs ds → RulesAt R g' vs ds
  | [], [], _ => trivial
  | _ :: _, _ :: _, ⟨⟨es, e, r⟩, q⟩ => ⟨⟨es, e, r.up u⟩, q.up u⟩
  | [], _ :: _, h => h.elim
  | _ :: _, [], h => h.elim

/-- what the opaque objects of a law are; S: the sets -/
noncomputable def obOf (R : RuleKit) (C : Addr) (S : List Dt → Heap → Value → Prop) (n : Nat) (es : List Dt) (g : Heap) (v : Value) : Prop :=
  (n = 2 ∧ S es g v) ∨ (n = 3 ∧ es = [] ∧ v = .type "int") ∨ (n = 5 ∧ RuleAt R g v es) ∨ (n = 6 ∧ ∃ ds a vs k, es = [.list ds] ∧ InstG C g v a ∧ g.get? a = some (listOf vs.toArray k) ∧ RulesAt R g vs ds) ∨ (n = 7 ∧ ∃ i : Int, es = [.int i] ∧ v = .ref i.toNat)
theorem obOf_up {R : RuleKit} {C : Addr} {S : List Dt → Heap → Value → Prop} (hS : ∀ es g g' v, Up g g' → S es g v → S es g' v) (n : Nat) (es : List Dt) (g g' : Heap) (v : Value) (u : Up g g') (h : obOf R C S n es g v) : obOf R C S n es g' v := by
  rcases h with ⟨a, b⟩ | h | ⟨a, b⟩ | ⟨e, ds, a, vs, k, h1, h2, h3, h4⟩ | h
  · exact .inl ⟨a, hS _ _ _ _ u b⟩
  · exact .inr (.inl h)
  · exact .inr (.inr (.inl ⟨a, b.up u⟩))
  · exact .inr (.inr (.inr (.inl ⟨e, ds, a, vs, k, h1, h2.up u, u _ _ h3, h4.up u⟩)))
  · exact .inr (.inr (.inr (.inr h)))

structure ObOk (W : Wd) (R : RuleKit) (C : Addr) (S : List Dt → Heap → Value → Prop) : Prop where
  ob : W.OB = obOf R C S
  ins : W.INS = InstG C

section
variable {W : Wd} {R : RuleKit} {C fI fA : Addr} {S : List Dt → Heap → Value → Prop} {K : Frag}
theorem ObOk.five (Z : ObOk W R C S) {es : List Dt} {g : Heap} {v : Value} : W.OB 5 es g v ↔ RuleAt R g v es := by
  rw [Z.ob]; unfold obOf
  constructor
  · rintro (⟨a, _⟩ | ⟨a, _⟩ | ⟨_, b⟩ | ⟨a, _⟩ | ⟨a, _⟩)
    · cases a
    · cases a
    · exact b
    · cases a
    · cases a
  · exact fun h => .inr (.inr (.inl ⟨rfl, h⟩))
theorem ObOk.three (Z : ObOk W R C S) {g : Heap} {v : Value} : W.OB 3 [] g v ↔ v = .type "int" := by
  rw [Z.ob]; unfold obOf
  constructor
  · rintro (⟨a, _⟩ | ⟨_, _, b⟩ | ⟨a, _⟩ | ⟨a, _⟩ | ⟨a, _⟩)
    · cases a
    · exact b
    · cases a
    · cases a
    · cases a
  · exact fun h => .inr (.inl ⟨rfl, rfl, h⟩)
theorem ObOk.seven (Z : ObOk W R C S) {g : Heap} {v : Value} {i : Int} : W.OB 7 [.int i] g v ↔ v = .ref i.toNat := by
  rw [Z.ob]; unfold obOf
  constructor
  · rintro (⟨a, _⟩ | ⟨a, _⟩ | ⟨a, _⟩ | ⟨a, _⟩ | ⟨_, j, e, h⟩)
    · cases a
    · cases a
    · cases a
    · cases a
    · cases e; exact h
  · exact fun h => .inr (.inr (.inr (.inr ⟨rfl, i, rfl, h⟩)))
theorem ObOk.two (Z : ObOk W R C S) {es : List Dt} {g : Heap} {v : Value} : W.OB 2 es g v ↔ S es g v := by
  rw [Z.ob]; unfold obOf
  constructor
  · rintro (⟨_, b⟩ | ⟨a, _⟩ | ⟨a, _⟩ | ⟨a, _⟩ | ⟨a, _⟩)
    · exact b
    · cases a
    · cases a
    · cases a
    · cases a
  · exact fun h => .inl ⟨rfl, h⟩
theorem rules_reps (Z : ObOk W R C S) {g : Heap} : ∀ {vs : List Value} {ds : List Dt}, RulesAt R g vs ds → Reps W g vs ds
  | [], [], _ => .nil
  | _ :: _, _ :: _, ⟨⟨es, e, r⟩, q⟩ => by subst e; exact .cons (.opq (Z.five.mpr r)) (rules_reps Z q)
  | [], _ :: _, h => h.elim
  | _ :: _, [], h => h.elim
theorem reps_rules (Z : ObOk W R C S) {g : Heap} : ∀ {vs : List Value} {ds : List Dt}, Reps W g vs ds → allRule ds = true → RulesAt R g vs ds
  | _, _, .nil, _ => trivial
  | _, d :: ds, .cons h q, e => by
    unfold allRule at e
    rw [List.all_cons, Bool.and_eq_true] at e
    refine ⟨?_, reps_rules Z q e.2⟩
    cases d with
    | opq n es =>
      have hn : n = 5 := by simpa using e.1
      subst hn
      exact ⟨es, rfl, Z.five.mp (opq_of h)⟩
    | _ => simp at e
theorem ObOk.six (Z : ObOk W R C S) {ds : List Dt} {g : Heap} {v : Value} : W.OB 6 [.list ds] g v ↔ ∃ a vs k, InstG C g v a ∧ g.get? a = some (listOf vs.toArray k) ∧ RulesAt R g vs ds := by
  rw [Z.ob]; unfold obOf
  constructor
  · rintro (⟨a, _⟩ | ⟨a, _⟩ | ⟨a, _⟩ | ⟨_, ds', a, vs, k, e, h⟩ | ⟨a, _⟩)
    · cases a
    · cases a
    · cases a
    · cases e; exact ⟨a, vs, k, h⟩
    · cases a
  · exact fun ⟨a, vs, k, h⟩ => .inr (.inr (.inr (.inl ⟨rfl, ds, a, vs, k, rfl, h⟩)))

theorem inst_at {h : Heap} {v : Value} {a : Addr} (I : InstG C h v a) : ∃ x ox od, v = .ref x ∧ InstAt h x ox C (some od) ∧ lookIn "rulelines" od = some (some (.ref a)) ∧ shadowIn (some od) "allowance" = some false := by
  obtain ⟨x, dx, mA, rfl, h1, h2, h3, h4⟩ := I
  obtain ⟨o, es, ep, e, hd, hk, hf⟩ := id h2
  obtain ⟨od, e', hl⟩ := lookIn_ns h2 h3
  rw [e] at e'; cases e'
  refine ⟨x, _, o, rfl, ⟨h1, rfl, rfl, e⟩, hl, ?_⟩
  have := hf "allowance"
  rw [h4] at this
  unfold shadowIn lookIn
  dsimp only
  rw [hd]
  dsimp only
  unfold nsFind findBy at this
  rw [← Array.find?_toList] at this
  have hn := Option.map_eq_none_iff.mp this
  rw [hn]
  have hr : es.toList.any (·.refKey) = false := by
    rw [List.any_eq_false]
    intro en hen
    obtain ⟨n, t, hkey⟩ := hk en (by simpa using hen)
    simp [DictEntry.refKey, hkey]
  rw [hr]; rfl

theorem ent_attr (Y : EntOk K C fI fA) (hK : K.In W.B) (Z : ObOk W R C S) (own : List Addr) (A : Around) (E : Value → Shared → Prop) (s : Shared) (Q : Value → Shared → Prop) (v : Value) (a : Addr) (ok : Ok W own s.heap) (I : InstG C (hideAll s.heap own) v a)
    (hQ : ∀ tk, Q (.ref a) { s with toks := tk }) : wpAny W.M A (getAttr v "rulelines" true) Q E s := by
  obtain ⟨x, ox, od, rfl, I', hl, _⟩ := inst_at (I.up vis_of)
  exact get_value (fun a o e => vis_of _ _ (ok.base _ _ (hK a o e))) I' Y.ga (findObj_own Y.hd Y.rl rfl hl) rfl (hQ _)
end
end Mine

open Builtin Builtin.ObjectAttr
namespace Mine
section
variable {W : Wd} {R : RuleKit} {C fI fA : Addr} {S : List Dt → Heap → Value → Prop} {K : Frag}

theorem insOk (frd : ∀ (A : Around) (env : Env), W.FR A.frames → W.FR (A.deeper env).frames) (Y : EntOk K C fI fA) (hK : K.In W.B) (Z : ObOk W R C S) {fd : FuncData} {o : Obj} {body : List Stmt} (J : InitOk W fI fd o body) (hE : W.mg "Entry" = some (.ref C)) (hkeep : ∀ h, Up W.B h → KeepOk W (.ref C) h) : InsOk W := by
  refine ⟨frd, fun g v a ds hi hr ha => ?_, fun own A E s Q v a ok hi hQ => ?_, .ref C, hE, hkeep, fun own A E s Q k ok hQ => ?_⟩
  · rw [Z.ins] at hi
    obtain ⟨b, vs, n, e, h1, h2⟩ := rep_list hr
    cases e
    exact .opq (Z.six.mpr ⟨a, vs, n, hi, h1, reps_rules Z h2 ha⟩)
  · rw [Z.ins] at hi
    exact ent_attr Y hK Z own A E s Q v a ok hi hQ
  · exact ent_new Y hK (fun g v i => Z.seven) J k ok fun h' tk x a l o ha hp hi => hQ h' tk _ a l o ha hp (by rw [Z.ins]; exact hi)

theorem ent_rules {n : Nat} (Y : EntOk K C fI fA) (hK : K.In W.B) (Z : ObOk W R C S) {ds : List Dt} : AttrSpec W n 6 [.list ds] "rulelines" (.list ds) := by
  intro own s A E v Q k ok r hQ
  obtain ⟨a, vs, c, h1, h2, h3⟩ := Z.six.mp (opq_of r)
  exact ent_attr Y hK Z own A E s Q v a ok h1 fun tk => hQ _ tk (.list h2 (rules_reps Z h3))

theorem ent_allow {n : Nat} (Y : EntOk K C fI fA) (hK : K.In W.B) (Z : ObOk W R C S) {ds : List Dt} {d d' : Dt} (hkeep : ∀ h, Up W.B h → KeepOk W (.ref fA) h) (hc : Calls1 W n (.ref fA) [.opq 6 [.list ds], d] d') : MethSpec W n 6 [.list ds] "allowance" [d] d' := by
  intro own s A E v k ok r
  obtain ⟨a, vs, c, h1, h2, h3⟩ := Z.six.mp (opq_of r)
  obtain ⟨x, ox, od, rfl, I', hl, hsh⟩ := inst_at (h1.up vis_of)
  refine ⟨.ref fA, [.ref x], fun pl Q hQ => ?_, fun h l o => hkeep h (o.base.trans vis_of), fun A E s' Q us k' l o rs p => ?_⟩
  · exact method_fn (fun a o e => vis_of _ _ (ok.base _ _ (hK a o e))) I' Y.ga Y.gk Y.al Y.alF hsh (hQ s.toks)
  · exact hc A E s' Q own (.ref x :: us) k' o (.cons (r.up (vis_le o.hP l)) rs) p
end
end Mine

namespace Mine

noncomputable def nthS (l : List Stmt) (i : Nat) : Stmt := l.getD i (.Pass ⟨0, 0, 0, 0⟩)
noncomputable def asV : Stmt → Expr
  | .Assign _ v _ => v
  | .Return (some e) _ => e
  | .If t _ _ _ => t
  | .For _ it _ _ _ => it
  | .Expr e _ => e
  | _ => .Constant .none 0 ⟨0, 0, 0, 0⟩
noncomputable def bodyS : Stmt → List Stmt
  | .For _ _ b _ _ => b
  | .If _ b _ _ => b
  | .While _ b _ _ => b
  | .FunctionDef (body := b) .. => b
  | _ => []
noncomputable def tgtS : Stmt → Expr
  | .For t _ _ _ _ => t
  | _ => .Constant .none 0 ⟨0, 0, 0, 0⟩
noncomputable def eltE : Expr → Expr
  | .ListComp e _ _ _ => e
  | e => e
noncomputable def argE : Expr → Nat → Expr
  | .Call _ as _ _, i => as.getD i (.Constant .none 0 ⟨0, 0, 0, 0⟩)
  | e, _ => e

section
variable {I : Ev} {ρ : Ro}
theorem go_fm {inner : Ro → Option (List Dt)} {t : Expr} {ifs : List Expr} {p : Dt → Bool} {g : Dt → List Dt} : ∀ {ds : List Dt}, (∀ d ∈ ds, ∃ ρ', bindT t d ρ = some ρ' ∧ testAll I ρ' ifs = some (p d) ∧ (p d = true → inner ρ' = some (g d))) →
    clauses.go I inner t ifs ρ ds = some ((ds.filter p).flatMap g)
  | [], _ => rfl
  | d :: ds, H => by
    obtain ⟨ρ', h1, h2, h3⟩ := H d List.mem_cons_self
    rw [clauses.go, h1]
    show (testAll I ρ' ifs).bind _ = _
    rw [h2]
    show ((if p d = true then inner ρ' else some []).bind _) = _
    rw [go_fm fun x hx => H x (List.mem_cons_of_mem _ hx)]
    cases hp : p d with
    | true => rw [if_pos rfl, h3 hp, List.filter_cons_of_pos hp]; rfl
    | false => rw [if_neg (by decide), List.filter_cons_of_neg (by simp [hp])]; rfl
theorem go_map {inner : Ro → Option (List Dt)} {t : Expr} {ifs : List Expr} {g : Dt → List Dt} : ∀ {ds : List Dt}, (∀ d ∈ ds, ∃ ρ', bindT t d ρ = some ρ' ∧ testAll I ρ' ifs = some true ∧ inner ρ' = some (g d)) →
    clauses.go I inner t ifs ρ ds = some (ds.flatMap g)
  | [], _ => rfl
  | d :: ds, H => by
    obtain ⟨ρ', h1, h2, h3⟩ := H d List.mem_cons_self
    rw [clauses.go, h1]
    show (testAll I ρ' ifs).bind _ = _
    rw [h2]
    show ((if true = true then inner ρ' else some []).bind _) = _
    rw [go_map fun x hx => H x (List.mem_cons_of_mem _ hx), if_pos rfl, h3]
    rfl

theorem compE_of {elt t it : Expr} {ifs : List Expr} {r : List Comprehension} {sc : Scope} {ds out : List Dt} {ρ' : Ro} (h1 : scopeOk sc = true) (h2 : (r.all fun g => g.is_async == 0) = true) (h3 : iterE I ρ t it = some ds) (h4 : compRo ρ sc.names = some ρ') (h5 : unbT ρ' t = true)
    (h6 : clauses.go I (clauses I elt r) t ifs ρ' ds = some out) (h7 : out.length ≤ 4096) : compE I ρ elt (⟨t, it, ifs, 0⟩ :: r) sc = some out := by
  unfold compE
  dsimp only
  rw [if_neg (by rw [h1, h2]; simp), h3]
  show (compRo ρ sc.names).bind _ = _
  rw [h4]
  show (if unbT ρ' t = false then none else _) = _
  rw [if_neg (by rw [h5]; decide), h6]
  show (if out.length ≤ 4096 then some out else none) = some out
  rw [if_pos h7]
theorem flat1 {f : Dt → Dt} : ∀ l : List Dt, l.flatMap (fun d => [f d]) = l.map f
  | [] => rfl
  | d :: r => by rw [List.flatMap_cons, flat1 r]; rfl
/-- a comprehension with one clause and no test, item by item -/
theorem comp_map {O : Own} {n : Nat} {elt t it : Expr} {sc : Scope} {pos : Pos} {ds : List Dt} {f : Dt → Dt} {ρ' : Ro} (h3 : iterE (ev O n) ρ t it = some ds) (h1 : scopeOk sc = true) (h4 : compRo ρ sc.names = some ρ') (h5 : unbT ρ' t = true)
    (h6 : ∀ d ∈ ds, ∃ ρ'', bindT t d ρ' = some ρ'' ∧ (ev O n).e ρ'' elt = some (f d)) (h7 : ds.length ≤ 4096) : (ev O (n + 1)).e ρ (.ListComp elt [⟨t, it, [], 0⟩] sc pos) = some (.list (ds.map f)) := by
  have e := flat1 (f := f) ds
  have := compE_of (I := ev O n) (elt := elt) (r := []) (ifs := []) (out := ds.map f) h1 rfl h3 h4 h5 (by
    rw [← e]
    refine go_map fun d hd => ?_
    obtain ⟨ρ'', a, b⟩ := h6 d hd
    refine ⟨ρ'', a, rfl, ?_⟩
    rw [clauses, b]; rfl) (by rw [List.length_map]; exact h7)
  show (compE (ev O n) ρ elt [⟨t, it, [], 0⟩] sc).map Dt.list = _
  rw [this]; rfl
/-- with tests -/
theorem comp_filter {O : Own} {n : Nat} {elt t it : Expr} {ifs : List Expr} {sc : Scope} {pos : Pos} {ds : List Dt} {p : Dt → Bool} {f : Dt → Dt} {ρ' : Ro} (h3 : iterE (ev O n) ρ t it = some ds) (h1 : scopeOk sc = true) (h4 : compRo ρ sc.names = some ρ') (h5 : unbT ρ' t = true)
    (h6 : ∀ d ∈ ds, ∃ ρ'', bindT t d ρ' = some ρ'' ∧ testAll (ev O n) ρ'' ifs = some (p d) ∧ (p d = true → (ev O n).e ρ'' elt = some (f d))) (h7 : ds.length ≤ 4096) : (ev O (n + 1)).e ρ (.ListComp elt [⟨t, it, ifs, 0⟩] sc pos) = some (.list ((ds.filter p).map f)) := by
  have e := flat1 (f := f) (ds.filter p)
  have := compE_of (I := ev O n) (elt := elt) (r := []) (ifs := ifs) (out := (ds.filter p).map f) h1 rfl h3 h4 h5 (by
    rw [← e]
    refine go_fm fun d hd => ?_
    obtain ⟨ρ'', a, b, c⟩ := h6 d hd
    refine ⟨ρ'', a, b, fun hp => ?_⟩
    rw [clauses, c hp]; rfl) (by rw [List.length_map]; exact Nat.le_trans (List.length_filter_le ..) h7)
  show (compE (ev O n) ρ elt [⟨t, it, ifs, 0⟩] sc).map Dt.list = _
  rw [this]; rfl
end

section
variable {f : Stmt → St → Option Fl} {st st' : St} {R : Option Fl}
theorem exB_at {l : List Stmt} {s : Stmt} (i : Nat) (e : l.drop i = s :: l.drop (i + 1)) (h1 : f s st = some (.nxt st')) (h2 : exB f (l.drop (i + 1)) st' = R) : exB f (l.drop i) st = R := by
  rw [e, exB, h1]; exact h2
theorem exB_ret {l : List Stmt} {s : Stmt} {d : Dt} {σ : List OD} (i : Nat) (e : l.drop i = s :: l.drop (i + 1)) (h1 : f s st = some (.ret d σ)) : exB f (l.drop i) st = some (.ret d σ) := by
  rw [e, exB, h1]; rfl
theorem forGo_cons {g : St → Option Fl} {t : Expr} {d : Dt} {ds : List Dt} {ρ' : Ro} (h0 : bindT t d st.ρ = some ρ') (h1 : g ⟨ρ', st.σ⟩ = some (.nxt st')) (h2 : forGo g t ds st' = R) : forGo g t (d :: ds) st = R := by
  rw [forGo, h0]
  show (g ⟨ρ', st.σ⟩).bind _ = _
  rw [h1]; exact h2
end

section
variable {I : Ev} {F : Fx} {n₀ n : Nat} {st : St}
theorem exS_mut {x m : Str} {xp ap cp pos : Pos} {args : List Expr} {ds l l' : List Dt} {i : Nat} (hc : (ap.endLine == cp.line) = true) (hn : args.length ≤ 8) (hev : evs (I.e (args.foldl (thE n₀) st).ρ) args = some ds) (ho : ownList (args.foldl (thE n₀) st) x = some (i, l)) (hm : mutD m l ds = some l') :
    exS I F n₀ (n + 1) (.Expr (.Call (.Attribute (.Name x xp) m ap) args [] cp) pos) st = some (.nxt ⟨(args.foldl (thE n₀) st).ρ, (args.foldl (thE n₀) st).σ.set i (.list l')⟩) := by
  show (if (ap.endLine == cp.line) = false ∨ args.length > 8 then none else mutS I n₀ st (fun st => ownList st x) m args) = _
  rw [if_neg (by rw [hc]; simp; omega)]
  unfold mutS
  rw [hev]
  show (ownList (args.foldl (thE n₀) st) x).bind _ = _
  rw [ho]
  show (mutD m l ds).map _ = _
  rw [hm]; rfl
theorem exS_val {x : Str} {xp pos : Pos} {v : Expr} {d : Dt} {ρ' : Ro} (h0 : isNew v = false) (h1 : lstOf v = none) (hv : I.e (thE n₀ st v).ρ v = some d) (hp : put (thE n₀ st v).ρ x (.val d) = some ρ') :
    exS I F n₀ (n + 1) (.Assign [.Name x xp] v pos) st = some (.nxt ⟨ρ', (thE n₀ st v).σ⟩) := by
  show asgn I n₀ st x v = _
  unfold asgn
  rw [if_neg (by rw [h0]; simp), h1]
  show (I.e _ _).bind _ = _
  rw [hv]
  show (put _ x _).map _ = _
  rw [hp]; rfl
theorem exS_val' {x : Str} {xp pos : Pos} {v : Expr} {d : Dt} {ρ' : Ro} {st₁ : St} (h0 : isNew v = false) (h1 : lstOf v = none) (ht : thE n₀ st v = st₁) (hv : I.e st₁.ρ v = some d) (hp : put st₁.ρ x (.val d) = some ρ') :
    exS I F n₀ (n + 1) (.Assign [.Name x xp] v pos) st = some (.nxt ⟨ρ', st₁.σ⟩) := by
  subst ht; exact exS_val h0 h1 hv hp
theorem exS_ret {e : Expr} {pos : Pos} {d : Dt} (hv : I.e (thE n₀ st e).ρ e = some d) : exS I F n₀ (n + 1) (.Return (some e) pos) st = some (.ret d (thE n₀ st e).σ) := by
  show (I.e _ _).map _ = _
  rw [hv]; rfl
theorem exS_for {t it : Expr} {b : List Stmt} {pos : Pos} {ds : List Dt} {R : Option Fl} (h : iterE I (thE n₀ st it).ρ t it = some ds) (hg : forGo (exB (exS I F n₀ n) b) t ds (thE n₀ st it) = R) : exS I F n₀ (n + 1) (.For t it b [] pos) st = R := by
  show (iterE I (thE n₀ st it).ρ t it).bind _ = _
  rw [h]; exact hg
theorem exS_if {t : Expr} {b o : List Stmt} {pos : Pos} {c : Bool} {R : Option Fl} (h : I.t (lend st) t = some c) (hg : exB (exS I F n₀ n) (if c then b else o) st = R) : exS I F n₀ (n + 1) (.If t b o pos) st = R := by
  show (I.t (lend st) t).bind _ = _
  rw [h]; exact hg
end
end Mine

namespace Mine
section
variable {I : Ev} {F : Fx} {n₀ n : Nat} {st st₁ st₂ : St}
theorem exS_lst {x : Str} {xp lp pos : Pos} {es : List Expr} {ds : List Dt} {ρ' : Ro} (ht : thE n₀ st (.List es lp) = st₁) (hev : evs (I.e st₁.ρ) es = some ds) (hl : ds.length ≤ 4096) (hp : put st₁.ρ x (.lst st₁.σ.length) = some ρ') :
    exS I F n₀ (n + 1) (.Assign [.Name x xp] (.List es lp) pos) st = some (.nxt ⟨ρ', st₁.σ ++ [.list ds]⟩) := by
  subst ht
  show asgn I n₀ st x (.List es lp) = _
  unfold asgn
  rw [if_neg (by show ¬ (false = true ∧ _); simp)]
  show (evs _ es).bind _ = _
  rw [hev]
  show (if ds.length ≤ 4096 then _ else _) = _
  rw [if_pos hl, hp]
  rfl
theorem exS_for' {t it : Expr} {b : List Stmt} {pos : Pos} {ds : List Dt} {R : Option Fl} (ht : thE n₀ st it = st₁) (h : iterE I st₁.ρ t it = some ds) (hg : forGo (exB (exS I F n₀ n) b) t ds st₁ = R) : exS I F n₀ (n + 1) (.For t it b [] pos) st = R := by
  subst ht; exact exS_for h hg
theorem exS_if' {t : Expr} {b o : List Stmt} {pos : Pos} {c : Bool} {ρ : Ro} {R : Option Fl} (hl : lend st = ρ) (h : I.t ρ t = some c) (hg : exB (exS I F n₀ n) (if c then b else o) st = R) : exS I F n₀ (n + 1) (.If t b o pos) st = R := by
  subst hl; exact exS_if h hg
theorem thaw_last {ρ : Ro} {σ : List OD} {x : Str} {k : SK} {ds : List Dt} {i : Nat} (hi : i = σ.length) (h : ρ.lookup x = some (.var k (.lst i))) : thaw1 0 ⟨ρ, σ ++ [.list ds]⟩ x = ⟨setB ρ x (.val (.list ds)), σ ++ [.gone]⟩ := by
  subst hi
  unfold thaw1
  dsimp only
  rw [h]
  dsimp only
  rw [if_neg (by simp [Bd.idx])]
  have e : (σ ++ [OD.list ds])[σ.length]? = some (.list ds) := by simp
  have e2 : (Bd.lst σ.length).thaw (σ ++ [OD.list ds]) = .val (.list ds) := by
    show (match (σ ++ [OD.list ds])[σ.length]? with
      | some (.list ds) => Bd.val (.list ds)
      | _ => .unb) = _
    rw [e]
  rw [e2]
  show (⟨_, (σ ++ [OD.list ds]).set σ.length .gone⟩ : St) = _
  congr 1
  simp
end
end Mine

namespace Mine

theorem all_of {α : Type} {l : List α} {p : α → Prop} (h : l.foldr (fun a r => p a ∧ r) True) : ∀ a ∈ l, p a := by
  induction l with
  | nil => intro a ha; cases ha
  | cons b r ih =>
    intro a ha
    rcases List.mem_cons.mp ha with rfl | ha
    · exact h.1
    · exact ih h.2 a ha
/-- a function that stands in the written part -/
noncomputable def fdGet (K : Frag) (a : Addr) : FuncData := match K.lookup a with
  | some ⟨_, _, .func fd, _⟩ => fd
  | _ => default
noncomputable def fdIs (K : Frag) (a : Addr) : Bool := match K.lookup a with
  | some ⟨_, _, .func _, _⟩ => true
  | _ => false
noncomputable def CodeAt (K : Frag) (code : Value) (q : Str) : Prop := ∃ c x y vs z t, code = .ref c ∧ K.lookup c = some ⟨x, y, .fields vs, z⟩ ∧ (vs[1]? : Option Value) = some (.str q t)
theorem fd_at {K : Frag} {h : Heap} {a : Addr} (X : K.In h) (e : fdIs K a = true) : ∃ o, h.get? a = some o ∧ o.data = .func (fdGet K a) := by
  unfold fdIs at e
  unfold fdGet
  split at e
  · rename_i h0
    exact ⟨_, X _ _ h0, rfl⟩
  · cases e
theorem code_at {K : Frag} {h : Heap} {code : Value} {q : Str} (X : K.In h) (e : CodeAt K code q) : h.CodeRec code q :=
  let ⟨_, _, _, _, _, _, h0, h1, h2⟩ := e
  ⟨_, _, _, _, h0, X _ _ h1, rfl, h2⟩

/-- what a plain def of the text shows in the written part -/
structure FnK (K : Frag) (a : Addr) (params : List Str) (body : List Stmt) (sc : List (Str × NameKind)) : Prop where
  is : fdIs K a = true
  code : CodeAt K (fdGet K a).code (fdGet K a).qualname
  body : (fdGet K a).body = .stmts body
  scn : (fdGet K a).scope.names = sc
  clo : (fdGet K a).closure = []
  gl : (fdGet K a).globals = mainGlobals
  bl : (fdGet K a).builtins = builtinsNs
  kind : (fdGet K a).scope.kind = .function
  co : (fdGet K a).scope.isCoroutine = false
  gen : (fdGet K a).scope.isGenerator = false
  nd : params.Nodup
  snd : (sc.map (·.1)).Nodup
  par : ∀ x ∈ params, sc.lookup x = some .local ∨ sc.lookup x = some .cell
  bind : ∀ vs : List Value, vs.length = params.length → bindArgs (fdGet K a) ⟨vs, []⟩ = pure (params.zip vs)
theorem FnK.info {K : Frag} {a : Addr} {params : List Str} {body : List Stmt} {sc : List (Str × NameKind)} (F : FnK K a params body sc) : FnInfo (fdGet K a) params body :=
  ⟨F.body, F.clo, F.gl, F.bl, F.kind, F.co, F.gen, F.nd, by rw [F.scn]; exact F.snd, fun x hx => by rw [F.scn]; exact F.par x hx, F.bind⟩

theorem Calls1.le {W : Wd} {j k : Nat} {v : Value} {as : List Dt} {d : Dt} (h : Calls1 W j v as d) (l : j ≤ k) : Calls1 W k v as d := fun A E s Q own vs K => h A E s Q own vs (K.le l)
/-- a function in sight keeps -/
theorem keep_fn {W : Wd} {K : Frag} {a : Addr} (X : K.In W.B) (e : fdIs K a = true) : ∀ h, Up W.B h → KeepOk W (.ref a) h := fun h u => by
  unfold fdIs at e
  split at e
  · rename_i h0
    exact keeps_F h ⟨_, _, _, _, u _ _ (X _ _ h0)⟩
  · cases e

/-- a def of the text, its names as the evaluator has them -/
structure Fd where
  params : List Str
  body : List Stmt
  sc : List (Str × NameKind)
/-- what the evaluator says of a call of a def -/
noncomputable def callF (O : Own) (F : Fx) (m n : Nat) (f : Fd) (ds : List Dt) : Option Dt :=
  if ds.length = f.params.length then (entryRo (f.params.zip ds) f.sc).bind fun ρ => match runF O F 0 m n f.body ⟨ρ, []⟩ with
    | some (.ret d _) => some d
    | _ => none
  else none
theorem callF_ok {W : Wd} {k : Nat} {O : Own} {F : Fx} {K : Frag} {a : Addr} {m n : Nat} {f : Fd} {ds : List Dt} {d : Dt} (B : BltOk W) (N : InsOk W) (C : OwnOk W k O) (XF : FxOk W k F) (X : K.In W.B) (G : FnK K a f.params f.body f.sc) (h : callF O F m n f ds = some d) : Calls1 W (k + 5) (.ref a) ds d := by
  unfold callF at h
  split at h
  · rename_i hl
    obtain ⟨ρ, hρ, h⟩ := Option.bind_eq_some_iff.mp h
    split at h
    · rename_i d' σ hr
      cases h
      obtain ⟨o, ho, hd⟩ := fd_at X G.is
      exact fn_contractF m n B N C XF G.info hl (by rw [G.scn]; exact hρ) ho hd (code_at X G.code) hr
    · cases h
  · cases h
end Mine

namespace Mine
open PySem.SeqAt PySem.MeetsSeq PySem.AutoSeq1

noncomputable def eqV : Value → Value → Option Bool
  | .int a _, .int b _ => some (a == b)
  | .bool a, .bool b => some (a == b)
  | _, _ => none
noncomputable def ltV1 : Value → Value → Option Bool
  | .int a _, .int b _ => some (decide (a < b))
  | .bool a, .bool b => some (!a && b)
  | _, _ => none
noncomputable def ltPairs : List (Value × Value) → Option Bool
  | [] => some false
  | (x, y) :: q => (eqV x y).bind fun c => if c then ltPairs q else ltV1 x y

theorem eqV_at {x y : Value} {c : Bool} (h : eqV x y = some c) (A : Around) (s : Shared) : EqAt A s x y c := by
  unfold eqV at h
  split at h
  · cases h; exact EqAt.int_int _ _ _ _
  · cases h; exact EqAt.bool_bool _ _
  · cases h
theorem ltV1_at {x y : Value} {c : Bool} (h : ltV1 x y = some c) {prog : Program} {w : World} {A : Around} {E : Value → Shared → Prop} {s : Shared} {Q : Value → Shared → Prop} (hq : Q (.bool c) s) :
    wpAny (model prog w) A (richCompare .Lt x y) Q E s := by
  unfold ltV1 at h
  split at h
  · cases h
    exact (PyProof.Rows.lt_int hq : wpAny (model prog w) A (compareOp .Lt _ _) Q E s)
  · cases h
    rename_i a b
    have e : decide (b2i a < b2i b) = (!a && b) := by cases a <;> cases b <;> rfl
    exact (PyProof.Rows.lt_bool (by rw [e]; exact hq) : wpAny (model prog w) A (compareOp .Lt _ _) Q E s)
  · cases h

theorem tuple_ltAt (l b : Addr) (o1 o2 : Obj) (items items2 : Array Value) (n n2 : Nat) (hc1 : o1.cls = .type "tuple") (hc2 : o2.cls = .type "tuple") (hd1 : o1.data = .seq items n) (hd2 : o2.data = .seq items2 n2) (hsz : items.size = items2.size) (r : Bool) (hr : ltPairs (items.toList.zip items2.toList) = some r) :
    Meets (Builtin.«tuple.__lt__» ⟨[.ref l, .ref b], []⟩)
      (fun A R s => s.heap.get? l = some o1 ∧ s.heap.get? b = some o2 ∧
        R (.ok (.ret (.bool r))) s) :=
  .of_wp fun prog w A R s h => by
    obtain ⟨c1, di1, da1, sl1⟩ := o1; cases hd1; cases hc1
    obtain ⟨c2, di2, da2, sl2⟩ := o2; cases hd2; cases hc2
    obtain ⟨hp, g, d, tk, os⟩ := s; obtain ⟨hl, hb, h⟩ := h
    have f2 := AutoSeq1.sub_tuple_tuple
    wp_walk using wpAny_loadPart' hl, wpAny_loadPart' hb, wpAny_forIn_list _ (fun rest b s' => b.1 = none ∧ s' = ⟨hp, g, d, tk, os⟩ ∧ ltPairs rest = some r) _
    case turn =>
      rintro ⟨x, y⟩ rest b s' ⟨hb', rfl, hz⟩
      rw [ltPairs] at hz
      obtain ⟨c, hc, hz⟩ := Option.bind_eq_some_iff.mp hz
      refine wpAny_bind (eqV_at hc _ _ prog w _ _ ?_)
      cases c with
      | true =>
        wp_walk
        exact ⟨rfl, rfl, by simpa using hz⟩
      | false =>
        have hz' : ltV1 x y = some r := by simpa using hz
        wp_walk using (ltV1_at hz')
        exact ⟨_, rfl, h⟩
    case fin =>
      rintro ⟨b1, b2⟩ s' ⟨hb', rfl, hz⟩
      simp only at hb'
      subst hb'
      cases hz
      wp_walk
      refine ⟨_, rfl, ?_⟩
      have e : Builtin.Tuple.tupleCompareSizes .Lt items.size items2.size = .bool false := by simp [Builtin.Tuple.tupleCompareSizes, hsz]
      rw [e]; exact h
    case h =>
      exact ⟨rfl, rfl, hr⟩

section
variable {W : Wd} {own : List Addr} {A : Around} {E : Value → Shared → Prop} {s : Shared} {Q : Value → Shared → Prop} {d : Dt}

theorem eqFlat_V {g : Heap} {a b : Dt} {x y : Value} {c : Bool} (h : eqFlat a b = some c) (ra : Rep W g x a) (rb : Rep W g y b) : eqV x y = some c := by
  unfold eqFlat at h
  split at h
  · obtain ⟨t, rfl⟩ := rep_int ra; obtain ⟨u, rfl⟩ := rep_int rb; exact h
  · cases rep_bool ra; cases rep_bool rb; exact h
  · cases h
theorem ltFlat_V {g : Heap} {a b : Dt} {x y : Value} {c : Bool} (h : ltFlat a b = some c) (ra : Rep W g x a) (rb : Rep W g y b) : ltV1 x y = some c := by
  unfold ltFlat at h
  split at h
  · obtain ⟨t, rfl⟩ := rep_int ra; obtain ⟨u, rfl⟩ := rep_int rb; exact h
  · cases rep_bool ra; cases rep_bool rb; exact h
  · cases h
theorem ltTup_V {g : Heap} {as : List Dt} : ∀ {bs : List Dt} {xs ys : List Value} {c : Bool}, ltTup as bs = some c → Reps W g xs as → Reps W g ys bs → ltPairs (xs.zip ys) = some c := by
  induction as with
  | nil =>
    intro bs xs ys c h ra rb
    cases bs with
    | nil => cases ra; cases rb; cases h; rfl
    | cons => exact noneE h
  | cons a as ih =>
    intro bs xs ys c h ra rb
    cases bs with
    | nil => exact noneE h
    | cons b bs => cases ra with
      | cons ha ra => cases rb with
        | cons hb rb =>
          obtain ⟨e, he, h⟩ := Option.bind_eq_some_iff.mp (show (eqFlat a b).bind (fun c => if c then ltTup as bs else ltFlat a b) = some c from h)
          have he' := eqFlat_V he ha hb
          rw [List.zip_cons_cons, ltPairs, he']
          cases e with
          | true => exact ih h ra rb
          | false => exact ltFlat_V h ha hb

theorem lt_sound {a b : Dt} {x y : Value} {c : Bool} {g : Heap} (u : Up g s.heap) (e : ltD a b = some c) (ra : Rep W g x a) (rb : Rep W g y b) (K : AOk W 0 A) (h : Q (.bool c) s) : wpAny W.M A (richCompare .Lt x y) Q E s := by
  unfold ltD at e
  split at e
  · split at e
    · rename_i a b hl
      obtain ⟨l, xs, rfl, h1, r1⟩ := rep_tuple ra
      obtain ⟨m, ys, rfl, h2, r2⟩ := rep_tuple rb
      obtain ⟨o1, h1, c1, n1, d1⟩ := h1
      obtain ⟨o2, h2, c2, n2, d2⟩ := h2
      refine richCompare_meets_room (op := .Lt) ⟨_, u _ _ h1, c1⟩ ⟨_, u _ _ h2, c2⟩ F.slot_tuple_lt F.entry_tuple_lt (F.args_tuple_lt_2 _ _)
        (tuple_ltAt l m o1 o2 xs.toArray ys.toArray n1 n2 c1 c2 d1 d2 (by simp [r1.length, r2.length, hl]) c (by simpa using ltTup_V e r1 r2)) ⟨u _ _ h1, u _ _ h2, ?_⟩ (by have := K.hu; omega)
      exact ⟨(fun x => nomatch x), h⟩
    · cases e
  · cases e; obtain ⟨t, rfl⟩ := rep_int ra; obtain ⟨v, rfl⟩ := rep_int rb
    exact (PyProof.Rows.lt_int h : wpAny W.M A (compareOp .Lt _ _) Q E s)
  · cases e
end
end Mine

namespace Mine
section
variable {W : Wd} {own : List Addr} {A : Around} {E : Value → Shared → Prop} {R : Result → Shared → Prop} {s : Shared} {Q : Value → Shared → Prop} {d : Dt}

/-- the loop of min over a list whose items are read in a standing view g -/
theorem min_loop {g : Heap} {I l S : Addr} {vs : List Value} (hh : A.handled = none) (K : AOk W 0 A.in1) (hlI : l ≠ I) (hSI : S ≠ I) (hSl : S ≠ l) (gI : g.get? I = none) (gS : g.get? S = none)
    (base : Heap) (rest : List Dt) : ∀ (j : Nat) (s : Shared) (vb : Value) (b : Dt) (c : Nat), Reps W g (vs.drop j) rest → s.heap.IsListIter I l j → s.heap.IsList l vs.toArray → Up g s.heap →
    (∀ b o, b ≠ I → b ≠ S → base.get? b = some o → s.heap.get? b = some o) → Rep W g vb b → s.heap.get? S = some { cls := .type "list", dict := none, data := .seq #[vb, vb] c, slots := #[] } → bestBy ltD rest b = some d →
    (∀ v h' tk, Rep W g v d → (∀ b o, b ≠ I → b ≠ S → base.get? b = some o → h'.get? b = some o) → R (.ok (.ret v)) { s with heap := h', toks := tk }) →
    codeAny W.M A (.builtin "min.loop" ⟨[.ref I, .none, .ref S], []⟩) R s := by
  have hname : (toString "min" ++ toString ".loop" : String) = "min.loop" := by decide
  induction rest with
  | nil =>
    intro j s vb b c hr hit hl u hb rb hS e hR
    cases e
    have hv : vs.drop j = [] := by cases hq : vs.drop j with
      | nil => rfl
      | cons _ _ => rw [hq] at hr; cases hr
    refine codeAny_builtin F.entry_min_loop ?_
    rw [Around.under_plainId F.plain_min_loop _]
    show wpAny _ A.in1 (seqItems? (.ref S) >>= _) _ _ s
    refine wpAny_bind (wpAny_seqItems hS rfl ?_)
    show wpAny _ A.in1 (tryCatch (pyNext (.ref I)) _ >>= _) _ _ s
    refine wpAny_bind (wpAny_tryCatch (wpAny_pyNext_list_end (by exact hh) hit hl (by simpa using hv) fun h' he' => ?_))
    have hS' := he' S _ hSI hS
    show wpAny _ A.in1 (updateSeq S (fun _ => #[]) >>= _) _ _ _
    refine wpAny_bind ?_
    refine wpAny_updateSeq hS' rfl (wpAny_bind (wpAny_letGo (wpAny_pure ?_)))
    exact hR vb _ _ rb fun a o h1 h2 q => (Heap.get?_update_other _ _ (Ne.symm h2)).trans (he' a o h1 (hb a o h1 h2 q))
  | cons x rest ih =>
    intro j s vb b c hr hit hl u hb rb hS e hR
    cases hq : vs.drop j with
    | nil => rw [hq] at hr; cases hr
    | cons v vr =>
      rw [hq] at hr
      cases hr with
      | cons hx hr =>
        rw [bestBy] at e
        obtain ⟨t, ht, e⟩ := Option.bind_eq_some_iff.mp e
        have hj : vs[j]? = some v := by
          have : (vs.drop j)[0]? = some v := by rw [hq]; rfl
          rw [List.getElem?_drop] at this; simpa using this
        have hd : vs.drop (j + 1) = vr := by
          have : (vs.drop j).drop 1 = vr := by rw [hq]; rfl
          rw [List.drop_drop] at this; exact this
        refine codeAny_builtin F.entry_min_loop ?_
        rw [Around.under_plainId F.plain_min_loop _]
        show wpAny _ A.in1 (seqItems? (.ref S) >>= _) _ _ s
        refine wpAny_bind (wpAny_seqItems hS rfl ?_)
        show wpAny _ A.in1 (tryCatch (pyNext (.ref I)) _ >>= _) _ _ s
        refine wpAny_bind (wpAny_tryCatch (wpAny_pyNext_list_item hit hl (x := v) (by simpa using hj) fun h' hit' hs' => ?_))
        have hS' := hs'.extBut S _ hSI hS
        have u' : Up g h' := fun a o q => hs'.extBut a o (fun z => by rw [z, gI] at q; cases q) (u a o q)
        have hb' : ∀ a o, a ≠ I → a ≠ S → base.get? a = some o → h'.get? a = some o := fun a o h1 h2 q => hs'.extBut a o h1 (hb a o h1 h2 q)
        show wpAny _ A.in1 (tryCatch (holding [v, v] (richCompare .Lt v vb >>= _)) _ >>= _) _ _ _
        refine wpAny_bind (wpAny_tryCatch (wpAny_holding (wpAny_bind (lt_sound (s := { s with heap := h' }) u' ht hx rb K ?_))))
        refine wpAny_bind (wpAny_holding (wpAny_truthy_bool ?_))
        refine wpAny_bind (wpAny_letGo (wpAny_pure ?_))
        have hl' := hl.extBut hs'.extBut hlI
        cases t with
        | true =>
          simp only [if_true]
          refine wpAny_bind ?_
          refine wpAny_updateSeq hS' rfl (wpAny_bind (wpAny_letGo ?_))
          rw [hname]
          refine wpAny_pure ⟨plainId_quiet F.plain_min_loop _, ih (j + 1) _ v x _ (by rw [hd]; exact hr) ?_ ?_ ?_ ?_ hx (Heap.get?_update_self _ hS' rfl) (by simpa using e) fun v' h'' tk'' r'' hk'' => ?_⟩
          · exact hit'.at fun o q => (Heap.get?_update_other _ _ hSI).trans q
          · exact hl'.at fun o q => (Heap.get?_update_other _ _ hSl).trans q
          · exact fun a o q => (Heap.get?_update_other _ _ (fun z => by rw [← z, gS] at q; cases q)).trans (u' a o q)
          · exact fun a o h1 h2 q => (Heap.get?_update_other _ _ (Ne.symm h2)).trans (hb' a o h1 h2 q)
          · exact hR v' h'' tk'' r'' hk''
        | false =>
          simp only [Bool.false_eq_true, if_false]
          refine wpAny_bind (wpAny_letGo ?_)
          rw [hname]
          exact wpAny_pure ⟨plainId_quiet F.plain_min_loop _, ih (j + 1) _ vb b _ (by rw [hd]; exact hr) hit' hl' u' hb' rb hS' (by simpa using e) fun v' h'' tk'' r'' hk'' => hR v' h'' tk'' r'' hk''⟩

theorem min_loop_first {g : Heap} {I l S : Addr} {vs : List Value} {x : Dt} {rest : List Dt} (hh : A.handled = none) (K : AOk W 0 A.in1) (hlI : l ≠ I) (hSI : S ≠ I) (hSl : S ≠ l) (gI : g.get? I = none) (gS : g.get? S = none)
    (s : Shared) (c : Nat) (hr : Reps W g vs (x :: rest)) (hit : s.heap.IsListIter I l 0) (hl : s.heap.IsList l vs.toArray) (u : Up g s.heap)
    (hS : s.heap.get? S = some { cls := .type "list", dict := none, data := .seq #[] c, slots := #[] }) (e : bestBy ltD rest x = some d)
    (hR : ∀ v h' tk, Rep W g v d → (∀ b o, b ≠ I → b ≠ S → s.heap.get? b = some o → h'.get? b = some o) → R (.ok (.ret v)) { s with heap := h', toks := tk }) :
    codeAny W.M A (.builtin "min.loop" ⟨[.ref I, .none, .ref S], []⟩) R s := by
  have hname : (toString "min" ++ toString ".loop" : String) = "min.loop" := by decide
  cases hr with
  | @cons v vs _ _ hx hr =>
    refine codeAny_builtin F.entry_min_loop ?_
    rw [Around.under_plainId F.plain_min_loop _]
    show wpAny _ A.in1 (seqItems? (.ref S) >>= _) _ _ s
    refine wpAny_bind (wpAny_seqItems hS rfl ?_)
    show wpAny _ A.in1 (tryCatch (pyNext (.ref I)) _ >>= _) _ _ s
    refine wpAny_bind (wpAny_tryCatch (wpAny_pyNext_list_item hit hl (x := v) rfl fun h' hit' hs' => ?_))
    have hS' := hs'.extBut S _ hSI hS
    have u' : Up g h' := fun a o q => hs'.extBut a o (fun z => by rw [z, gI] at q; cases q) (u a o q)
    show wpAny _ A.in1 (updateSeq S (fun _ => #[v, v]) >>= _) _ _ _
    refine wpAny_bind ?_
    refine wpAny_updateSeq hS' rfl ?_
    rw [hname]
    have hl' := hl.extBut hs'.extBut hlI
    refine wpAny_pure ⟨plainId_quiet F.plain_min_loop _, min_loop (vs := v :: vs) hh K hlI hSI hSl gI gS s.heap rest 1 _ v x _ hr ?_ ?_ ?_ ?_ hx (Heap.get?_update_self _ hS' rfl) e fun v' h'' tk'' r'' hk'' => ?_⟩
    · exact hit'.at fun o q => (Heap.get?_update_other _ _ hSI).trans q
    · exact hl'.at fun o q => (Heap.get?_update_other _ _ hSl).trans q
    · exact fun a o q => (Heap.get?_update_other _ _ (fun z => by rw [← z, gS] at q; cases q)).trans (u' a o q)
    · exact fun a o h1 h2 q => (Heap.get?_update_other _ _ (Ne.symm h2)).trans (hs'.extBut a o h1 q)
    · exact hR v' h'' tk'' r'' hk''

theorem min_sound {l : Value} {x : Dt} {ds : List Dt} (K : AOk W 2 A) (o : Ok W own s.heap) (e : bestBy ltD ds x = some d) (rl : Rep W (hideAll s.heap own) l (.list (x :: ds))) (p : Post W own s Q d) :
    wpAny W.M A (call (.builtin "min") [l]) Q E s := by
  have hname : (toString "min" ++ toString ".loop" : String) = "min.loop" := by decide
  obtain ⟨a, vs, n, rfl, hl, rs⟩ := rep_list rl
  refine call_function_tree F.kind_min F.plain_min F.entry_min (F.args_min1 _) ?_
  show wpAny _ A.in1 (Builtin.Builtins.bindParams "min" ["key", "default"] 0 ⟨[], []⟩ >>= _) _ _ s
  refine wpAny_bind (wpAny_of_eq (show Builtin.Builtins.bindParams "min" ["key", "default"] 0 ⟨[], []⟩ = pure [none, none] from rfl) ?_)
  refine wpAny_bind (wpAny_pure ?_)
  have hl' : s.heap.IsList a vs.toArray := ⟨_, vis_of _ _ hl, rfl, n, rfl⟩
  have hlt : a < s.heap.objs.size := Heap.lt_size (vis_of _ _ hl)
  refine wpAny_bind (wpAny_pyIter_list hl' ?_)
  refine wpAny_bind (wpAny_newObj_type ?_)
  rw [hname]
  have hz : (s.heap.push { cls := Value.type "list_iterator", data := Data.fields #[Value.ref a, Value.int 0 0] }).objs.size = s.heap.objs.size + 1 := Heap.size_push _ _
  have up2 : Up s.heap ((s.heap.push { cls := Value.type "list_iterator", data := Data.fields #[Value.ref a, Value.int 0 0] }).push { cls := Value.type "list", data := .seq ([] : List Value).toArray }) := (Up.push _ _).trans (Up.push _ _)
  have gI : (hideAll s.heap own).get? s.heap.objs.size = none := fresh_none (by rw [hideAll_size]; exact Nat.le_refl _)
  have gS : (hideAll s.heap own).get? (s.heap.objs.size + 1) = none := fresh_none (by rw [hideAll_size]; exact Nat.le_succ _)
  refine wpAny_pure ⟨plainId_quiet F.plain_min_loop _, ?_⟩
  rw [hz]
  refine min_loop_first (g := hideAll s.heap own) (l := a) (vs := vs) K.hh K.less.in1 (Nat.ne_of_lt hlt) (Nat.ne_of_gt (Nat.lt_succ_self _)) (Nat.ne_of_gt (Nat.lt_succ_of_lt hlt)) gI gS _ 0 rs ?_ ?_ (vis_of.trans up2) ?_ e ?_
  · exact ⟨_, Heap.get?_push_of_some _ (Heap.get?_push_size _ rfl), rfl, rfl⟩
  · exact (hl'.push _).push _
  · have q := Heap.get?_push_size (s.heap.push { cls := Value.type "list_iterator", data := Data.fields #[Value.ref a, Value.int 0 0] }) (o := { cls := Value.type "list", data := .seq ([] : List Value).toArray }) rfl
    rw [hz] at q
    exact q
  · intro v h' tk rv hk
    have u : Up s.heap h' := fun b ob q => hk b ob (Nat.ne_of_lt (Heap.lt_size q)) (Nat.ne_of_lt (Nat.lt_succ_of_lt (Heap.lt_size q))) (up2 _ _ q)
    exact p h' tk v u.le (o.up u) (rv.up (vis_up u))
end
end Mine

namespace Mine
open PySem.SetTable

/-- the search in a rising row -/
theorem below_go {xs : Array Nat} {j : Nat} (hr : xs.toList.Pairwise (· < ·)) : ∀ (fuel lo hi : Nat), hi - lo ≤ fuel → lo ≤ hi → hi ≤ xs.size → (∀ i v, i < lo → xs[i]? = some v → v < j) → (∀ i v, hi ≤ i → xs[i]? = some v → j ≤ v) →
    lo ≤ below.go xs j fuel lo hi ∧ below.go xs j fuel lo hi ≤ hi ∧ (∀ i v, i < below.go xs j fuel lo hi → xs[i]? = some v → v < j) ∧ ∀ i v, below.go xs j fuel lo hi ≤ i → xs[i]? = some v → j ≤ v
  | 0, lo, hi, hf, hl, hh, h1, h2 => by
    have e : lo = hi := by omega
    subst e
    exact ⟨Nat.le_refl _, Nat.le_refl _, h1, h2⟩
  | f + 1, lo, hi, hf, hl, hh, h1, h2 => by
    unfold below.go
    by_cases hlt : lo < hi
    · rw [if_pos hlt]
      dsimp only
      have hm : (lo + hi) / 2 < xs.size := by omega
      have hg : xs.getD ((lo + hi) / 2) j = xs[(lo + hi) / 2] := by simp [hm]
      have mono : ∀ i k v w, i ≤ k → xs[i]? = some v → xs[k]? = some w → v ≤ w := fun i k v w hik e1 e2 => by
        rcases Nat.lt_or_eq_of_le hik with hlt' | rfl
        · rw [← Array.getElem?_toList] at e1 e2
          obtain ⟨a1, a2⟩ := List.getElem?_eq_some_iff.mp e1
          obtain ⟨b1, b2⟩ := List.getElem?_eq_some_iff.mp e2
          have := List.pairwise_iff_getElem.mp hr i k a1 b1 hlt'
          rw [a2, b2] at this
          exact Nat.le_of_lt this
        · rw [e1] at e2; cases e2; exact Nat.le_refl _
      have em : xs[(lo + hi) / 2]? = some xs[(lo + hi) / 2] := by simp [hm]
      rw [hg]
      by_cases hc : xs[(lo + hi) / 2] < j
      · rw [if_pos hc]
        obtain ⟨a, b, c, d⟩ := below_go hr f ((lo + hi) / 2 + 1) hi (by omega) (by omega) hh (fun i v hi' e => Nat.lt_of_le_of_lt (mono i _ v _ (by omega) e em) hc) h2
        exact ⟨by omega, b, c, d⟩
      · rw [if_neg hc]
        obtain ⟨a, b, c, d⟩ := below_go hr f lo ((lo + hi) / 2) (by omega) (by omega) (by omega) h1 fun i v hi' e => Nat.le_trans (Nat.le_of_not_lt hc) (mono _ i _ v hi' em e)
        exact ⟨a, by omega, c, d⟩
    · rw [if_neg hlt]
      have e : lo = hi := by omega
      subst e
      exact ⟨Nat.le_refl _, Nat.le_refl _, h1, h2⟩
theorem below_spec {xs : Array Nat} (hr : xs.toList.Pairwise (· < ·)) (j : Nat) : below xs j ≤ xs.size ∧ (∀ i v, i < below xs j → xs[i]? = some v → v < j) ∧ ∀ i v, below xs j ≤ i → xs[i]? = some v → j ≤ v := by
  obtain ⟨_, b, c, d⟩ := below_go (j := j) hr xs.size 0 xs.size (by omega) (by omega) (Nat.le_refl _) (fun i v h => absurd h (Nat.not_lt_zero _)) (fun i v h e => by rw [Array.getElem?_eq_none h] at e; cases e)
  exact ⟨b, c, d⟩
theorem below_zero {xs : Array Nat} (hr : xs.toList.Pairwise (· < ·)) : below xs 0 = 0 := by
  obtain ⟨a, b, c⟩ := below_spec hr 0
  rcases Nat.eq_zero_or_pos (below xs 0) with h | h
  · exact h
  · have := b 0 (xs[0]'(by omega)) h (by simp)
    omega
theorem below_next {xs : Array Nat} (hr : xs.toList.Pairwise (· < ·)) {i v : Nat} (e : xs[i]? = some v) : below xs (v + 1) = i + 1 := by
  obtain ⟨a, b, c⟩ := below_spec hr (v + 1)
  have hi : i < xs.size := (Array.getElem?_eq_some_iff.mp e).1
  rcases Nat.lt_trichotomy (below xs (v + 1)) (i + 1) with h | h | h
  · have := c i v (by omega) e; omega
  · exact h
  · have h2 : i + 1 < xs.size := by omega
    have e2 : xs[i + 1]? = some xs[i + 1] := by simp [h2]
    have h3 := b (i + 1) _ h e2
    have h4 : xs.toList[i]'(by simpa using hi) < xs.toList[i + 1]'(by simpa using h2) := List.pairwise_iff_getElem.mp hr i (i + 1) _ _ (by omega)
    have e3 : xs[i] = v := by
      have := (Array.getElem?_eq_some_iff.mp e).2
      exact this
    simp only [Array.getElem_toList] at h4
    omega

/-- what the tables of this law's sets are like: n elements, at most b in a table of the first size -/
structure TInv (t : SetTable) (led : Bool) (n b : Nat) : Prop where
  rise : t.place.toList.Pairwise (· < ·)
  dm : t.dummies = #[]
  led : t.led = led
  plain : t.plain = true
  size : t.place.size = n
  mask : (t.mask = 7 ∧ n ≤ b) ∨ (t.mask = 31 ∧ n ≤ 7)

section
variable {t : SetTable} {led : Bool} {n b : Nat}
theorem slot_empty (I : TInv t led n b) {j : Nat} (h : t.slot j = .empty) : j ∉ t.place.toList := fun m => by
  obtain ⟨i, hi, e⟩ := List.mem_iff_getElem.mp m
  obtain ⟨a, b, c⟩ := below_spec I.rise j
  have hi' : i < t.place.size := by simpa using hi
  have ei : t.place[i]? = some j := by rw [← Array.getElem?_toList, List.getElem?_eq_getElem hi, e]
  have hb : below t.place j ≤ i := Nat.le_of_not_lt fun h' => Nat.lt_irrefl _ (b i j h' ei)
  have hb2 : below t.place j < t.place.size := by omega
  have eb : t.place[below t.place j]? = some t.place[below t.place j] := by simp [hb2]
  have h1 := c _ _ (Nat.le_refl _) eb
  have h2 : t.place[below t.place j] ≤ j := by
    rcases Nat.lt_or_eq_of_le hb with h' | h'
    · have := List.pairwise_iff_getElem.mp I.rise _ i (by simpa using hb2) hi h'
      rw [e] at this
      simp only [Array.getElem_toList] at this
      omega
    · have e4 : some j = some t.place[below t.place j] := by rw [← ei, ← h']; exact eb
      exact Nat.le_of_eq (Option.some.inj e4).symm
  have h3 : t.place[below t.place j]? = some j := by rw [eb]; congr 1; omega
  unfold SetTable.slot at h
  dsimp only at h
  rw [h3] at h
  simp at h
theorem slot_no_dummy (I : TInv t led n b) (j : Nat) : t.slot j ≠ .dummy := fun h => by
  unfold SetTable.slot at h
  dsimp only at h
  split at h
  · cases h
  · split at h
    · rename_i hh
      rw [I.dm] at hh
      simp [has] at hh
    · cases h
theorem slot_live {j i : Nat} (h : t.slot j = .live i) : j ∈ t.place.toList := by
  unfold SetTable.slot at h
  dsimp only at h
  split at h
  · rename_i hh
    have e : t.place[below t.place j]? = some j := by simpa using hh
    rw [← Array.getElem?_toList] at e
    exact List.mem_of_getElem? e
  · split at h <;> cases h

/-- one turn of the search for a place -/
noncomputable def lp (mask : Nat) (q : Nat × Nat) : Nat × Nat := leap mask q.1 q.2
noncomputable def lpN (mask : Nat) : Nat → Nat × Nat → Nat × Nat
  | 0, q => q
  | k + 1, q => lpN mask k (lp mask q)
theorem lpN_add (mask : Nat) : ∀ (a c : Nat) (q : Nat × Nat), lpN mask (a + c) q = lpN mask c (lpN mask a q)
  | 0, c, q => by rw [Nat.zero_add]; rfl
  | a + 1, c, q => by rw [Nat.succ_add]; exact lpN_add mask a c _
theorem lpN_snd (mask : Nat) : ∀ (k : Nat) (q : Nat × Nat), (lpN mask k q).2 = q.2 / 32 ^ k
  | 0, q => by simp [lpN]
  | k + 1, q => by
    rw [lpN, lpN_snd mask k]
    show q.2 / 32 / 32 ^ k = _
    rw [Nat.div_div_eq_div_mul, Nat.pow_succ, Nat.mul_comm]
theorem lpN_lt (mask : Nat) : ∀ (k : Nat) (q : Nat × Nat), q.1 ≤ mask → (lpN mask k q).1 ≤ mask
  | 0, q, h => h
  | k + 1, q, h => lpN_lt mask k _ (Nat.le_of_lt_succ (Nat.mod_lt _ (Nat.succ_pos _)))
theorem cover7 : ∀ i < 8, ∀ j < 8, ∃ k, k < 8 ∧ (lpN 7 k (i, 0)).1 = j := by decide +kernel
theorem cover31 : ∀ i < 32, ∀ j < 32, ∃ k, k < 32 ∧ (lpN 31 k (i, 0)).1 = j := by decide +kernel
theorem cover {mask : Nat} (hm : mask = 7 ∨ mask = 31) {q : Nat × Nat} (h1 : q.1 ≤ mask) (h2 : q.2 < 2 ^ 64) {j : Nat} (hj : j ≤ mask) : ∃ k, k < mask + 14 ∧ (lpN mask k q).1 = j := by
  have h0 : lpN mask 13 q = ((lpN mask 13 q).1, 0) := by
    refine Prod.ext rfl ?_
    rw [lpN_snd]
    exact Nat.div_eq_of_lt (Nat.lt_of_lt_of_le h2 (by decide))
  have h3 := lpN_lt mask 13 q h1
  rcases hm with rfl | rfl
  · obtain ⟨k, hk, e⟩ := cover7 _ (Nat.lt_succ_of_le h3) j (Nat.lt_succ_of_le hj)
    exact ⟨13 + k, by omega, by rw [lpN_add, h0]; exact e⟩
  · obtain ⟨k, hk, e⟩ := cover31 _ (Nat.lt_succ_of_le h3) j (Nat.lt_succ_of_le hj)
    exact ⟨13 + k, by omega, by rw [lpN_add, h0]; exact e⟩
theorem bits_lt (x : Int) : bits x < 2 ^ 64 := by
  unfold SetTable.bits
  have h1 : (0 : Int) < 2 ^ 64 := by decide
  have := Int.emod_lt_of_pos x h1
  have := Int.emod_nonneg x (Int.ne_of_gt h1)
  omega
theorem pigeon : ∀ (n : Nat) (l : List Nat), (∀ j, j < n → j ∈ l) → n ≤ l.length
  | 0, l, _ => Nat.zero_le _
  | n + 1, l, h => by
    have hn := h n (Nat.lt_succ_self _)
    have := pigeon n (l.erase n) fun j hj => (List.mem_erase_of_ne (Nat.ne_of_lt hj)).mpr (h j (Nat.lt_succ_of_lt hj))
    rw [List.length_erase_of_mem hn] at this
    have := List.length_pos_of_mem hn
    omega

/-- the search along one run -/
theorem go_run (I : TInv t led n b) {x : Int} : ∀ (m f : Nat) (p : Probe), p.more = m → p.dummy = none → m + 1 ≤ f → (∃ j, probe.go t (fun _ => x + 1) x f p = some (.empty j none) ∧ t.slot j = .empty) ∨
    (t.slot p.j ≠ .empty ∧ ∃ p', (p'.i, p'.perturb) = lp t.mask (p.i, p.perturb) ∧ p'.j = p'.i ∧ p'.more = runEnd t.mask p'.i - p'.i ∧ p'.dummy = none ∧ probe.go t (fun _ => x + 1) x f p = probe.go t (fun _ => x + 1) x (f - (m + 1)) p')
  | m, 0, p, _, _, h => by omega
  | m, f + 1, p, hm, hd, hf => by
    have hne : ((x + 1 : Int) == x) = false := by simp; omega
    have hgo : probe.go t (fun _ => x + 1) x (f + 1) p = (match t.slot p.j with
      | .empty => some (.empty p.j p.dummy)
      | .dummy => probe.go t (fun _ => x + 1) x f (t.advance { p with dummy := some p.j })
      | .live i => if ((x + 1 : Int) == x) = true then some (.candidate p.j i (t.advance p)) else probe.go t (fun _ => x + 1) x f (t.advance p)) := by
      rw [probe.go]
      cases t.slot p.j <;> rfl
    cases hs : t.slot p.j with
    | empty => rw [hs] at hgo; exact .inl ⟨p.j, by rw [hgo, hd], hs⟩
    | dummy => exact absurd hs (slot_no_dummy I _)
    | live i =>
      rw [hs, hne] at hgo
      replace hgo : probe.go t (fun _ => x + 1) x (f + 1) p = probe.go t (fun _ => x + 1) x f (t.advance p) := hgo
      cases m with
      | zero =>
        refine .inr ⟨(by simp), t.advance p, ?_⟩
        rw [hgo]
        have ha : t.advance p = { p with j := (leap t.mask p.i p.perturb).1, more := runEnd t.mask (leap t.mask p.i p.perturb).1 - (leap t.mask p.i p.perturb).1, i := (leap t.mask p.i p.perturb).1, perturb := (leap t.mask p.i p.perturb).2 } := by
          unfold SetTable.advance
          rw [if_neg (by omega)]
        rw [ha]
        exact ⟨rfl, rfl, rfl, hd, rfl⟩
      | succ m =>
        have ha : t.advance p = { p with j := p.j + 1, more := p.more - 1 } := by
          unfold SetTable.advance
          rw [if_pos (by omega)]
        rw [hgo, ha]
        rcases go_run I (x := x) m f { p with j := p.j + 1, more := p.more - 1 } (by show p.more - 1 = m; omega) hd (by omega) with q | ⟨_, p', e1, e2, e3, e4, e5⟩
        · exact .inl q
        · exact .inr ⟨(by simp), p', e1, e2, e3, e4, by rw [e5, show f + 1 - (m + 1 + 1) = f - (m + 1) by omega]⟩
theorem go_heads (I : TInv t led n b) {x : Int} : ∀ (K f : Nat) (p : Probe), p.j = p.i → p.more = runEnd t.mask p.i - p.i → p.dummy = none → 10 * K ≤ f → (∃ j, probe.go t (fun _ => x + 1) x f p = some (.empty j none) ∧ t.slot j = .empty) ∨
    ∀ k, k < K → t.slot (lpN t.mask k (p.i, p.perturb)).1 ≠ .empty
  | 0, f, p, _, _, _, _ => .inr fun k hk => absurd hk (Nat.not_lt_zero _)
  | K + 1, f, p, hj, hm, hd, hf => by
    have hr : runEnd t.mask p.i - p.i ≤ 9 := by unfold SetTable.runEnd; split <;> omega
    rcases go_run I (x := x) p.more f p rfl hd (by omega) with q | ⟨h1, p', e1, e2, e3, e4, e5⟩
    · exact .inl q
    · rcases go_heads I (x := x) K (f - (p.more + 1)) p' e2 e3 e4 (by omega) with ⟨j, q⟩ | q
      · exact .inl ⟨j, by rw [e5]; exact q⟩
      · refine .inr fun k hk => ?_
        cases k with
        | zero => rw [hj] at h1; exact h1
        | succ k =>
          have := q k (by omega)
          rw [e1] at this
          exact this
theorem mask_or (I : TInv t led n b) : t.mask = 7 ∨ t.mask = 31 := I.mask.imp (·.1) (·.1)
/-- a place is found -/
theorem free_some (I : TInv t led n b) (hn : n ≤ t.mask) (x : Int) : ∃ j, t.freeSlot x = some (j, false) ∧ j ∉ t.place.toList := by
  have hi : bits x % (t.mask + 1) ≤ t.mask := Nat.le_of_lt_succ (Nat.mod_lt _ (Nat.succ_pos _))
  rcases go_heads I (x := x) (t.mask + 14) (10 * turns t.mask) (t.probeStart x) rfl rfl rfl (by unfold SetTable.turns; omega) with ⟨j, h1, h2⟩ | h
  · refine ⟨j, ?_, slot_empty I h2⟩
    unfold SetTable.freeSlot SetTable.probe
    rw [h1]
    rfl
  · have : t.mask + 1 ≤ t.place.toList.length := pigeon _ _ fun j hj => by
      obtain ⟨k, hk, e⟩ := cover (mask_or I) (q := (bits x % (t.mask + 1), bits x)) hi (bits_lt x) (Nat.le_of_lt_succ hj)
      have h1 : t.slot (lpN t.mask k (bits x % (t.mask + 1), bits x)).1 ≠ .empty := h k hk
      rw [e] at h1
      cases hs : t.slot j with
      | empty => exact absurd hs h1
      | dummy => exact absurd hs (slot_no_dummy I _)
      | live i => exact slot_live hs
    rw [Array.length_toList, I.size] at this
    omega

theorem put_rise (I : TInv t led n b) {j : Nat} (hj : j ∉ t.place.toList) : (t.put j).1.place.toList.Pairwise (· < ·) ∧ (t.put j).1.place.size = n + 1 := by
  obtain ⟨a, b, c⟩ := below_spec I.rise j
  refine ⟨?_, ?_⟩
  · show (insertAt t.place (below t.place j) j).toList.Pairwise (· < ·)
    rw [SetTable.toList_insertAt]
    refine List.pairwise_append.mpr ⟨I.rise.sublist (List.take_sublist _ _), List.pairwise_cons.mpr ⟨fun y hy => ?_, I.rise.sublist (List.drop_sublist _ _)⟩, fun y hy z hz => ?_⟩
    · obtain ⟨i, hi, rfl⟩ := List.mem_iff_getElem.mp hy
      rw [List.getElem_drop]
      have hi' : below t.place j + i < t.place.size := by simpa [List.length_drop, Nat.add_comm, Nat.lt_sub_iff_add_lt] using hi
      have h1 := c (below t.place j + i) _ (by omega) (Array.getElem?_eq_some_iff.mpr ⟨hi', rfl⟩)
      have h2 : t.place[below t.place j + i] ≠ j := fun e => hj (by rw [← e]; simp)
      simp only [Array.getElem_toList]
      omega
    · have hyj : y < j := by
        obtain ⟨i, hi, rfl⟩ := List.mem_iff_getElem.mp hy
        rw [List.getElem_take]
        have hi' : i < below t.place j ∧ i < t.place.size := by simpa [List.length_take, Nat.lt_min] using hi
        simp only [Array.getElem_toList]
        exact b i _ hi'.1 (Array.getElem?_eq_some_iff.mpr ⟨hi'.2, rfl⟩)
      rcases List.mem_cons.mp hz with rfl | hz
      · exact hyj
      · obtain ⟨i, hi, rfl⟩ := List.mem_iff_getElem.mp hz
        rw [List.getElem_drop]
        have hi' : below t.place j + i < t.place.size := by simpa [List.length_drop, Nat.add_comm, Nat.lt_sub_iff_add_lt] using hi
        have h1 := c (below t.place j + i) _ (by omega) (Array.getElem?_eq_some_iff.mpr ⟨hi', rfl⟩)
        simp only [Array.getElem_toList]
        omega
  · show (insertAt t.place (below t.place j) j).size = n + 1
    rw [← Array.length_toList, SetTable.toList_insertAt, List.length_append, List.length_cons, List.length_take, List.length_drop, Array.length_toList, ← I.size]
    omega
theorem fits_of (I : TInv t led n b) (hn : n ≤ t.mask) : t.fits n = true := by
  unfold SetTable.fits SetTable.fill
  rw [I.size, I.dm]
  simp [hn]
/-- a new element is laid, and the table does not give way -/
theorem layNew_ok (I : TInv t led n 4) (hn : n ≤ 6) (es : Array (Int × Value)) (he : es.size = n) (x : Int) (v : Value) : ∃ es' t', layNew t es x v = (es', t', false, false) ∧ TInv t' led (n + 1) 5 := by
  have hm : n + 1 ≤ t.mask := by rcases I.mask with ⟨h, h'⟩ | ⟨h, h'⟩ <;> omega
  obtain ⟨j, h1, h2⟩ := free_some I (by omega) x
  obtain ⟨p1, p2⟩ := put_rise I h2
  have I' : TInv (t.put j).1 led (n + 1) 5 := by
    refine ⟨p1, ?_, I.led, I.plain, p2, ?_⟩
    · show (if has t.dummies j then _ else t.dummies) = #[]
      rw [I.dm]
      simp [has]
    · show (t.mask = 7 ∧ _) ∨ (t.mask = 31 ∧ _)
      rcases I.mask with ⟨h, h'⟩ | ⟨h, h'⟩
      · exact .inl ⟨h, by omega⟩
      · exact .inr ⟨h, by omega⟩
  have hs : (insertAt es (t.put j).2 (x, v)).size = n + 1 := by
    have hp : (t.put j).2 ≤ es.size := by
      show below t.place j ≤ es.size
      rw [he, ← I.size]
      exact (below_spec I.rise j).1
    rw [← Array.length_toList, SetTable.toList_insertAt, List.length_append, List.length_cons, List.length_take, List.length_drop, Array.length_toList, he]
    omega
  refine ⟨insertAt es (t.put j).2 (x, v), (t.put j).1, ?_, I'⟩
  have hf : (t.put j).1.fits (n + 1) = true := fits_of I' hm
  unfold layNew
  rw [h1]
  dsimp only
  rw [hs, hf]
  unfold SetTable.orStandIn
  rw [if_pos hf]
  rfl

/-- the numbers laid in a clean table -/
noncomputable def laidIn (owner : Array (Option Nat)) : List Nat := owner.toList.filterMap id
theorem laidIn_set {owner : Array (Option Nat)} {j k : Nat} (hj : owner[j]? = some none) : (laidIn (owner.setIfInBounds j (some k))).Perm (k :: laidIn owner) := by
  unfold laidIn
  rw [Array.toList_setIfInBounds]
  rw [← Array.getElem?_toList] at hj
  obtain ⟨h1, h2⟩ := List.getElem?_eq_some_iff.mp hj
  rw [List.set_eq_take_append_cons_drop, if_pos h1]
  have e : owner.toList = owner.toList.take j ++ none :: owner.toList.drop (j + 1) := by
    rw [← h2, List.getElem_cons_drop, List.take_append_drop]
  have e2 : owner.toList.filterMap id = (owner.toList.take j).filterMap id ++ (owner.toList.drop (j + 1)).filterMap id := by
    conv => lhs; rw [e]
    rw [List.filterMap_append]; rfl
  rw [e2, List.filterMap_append]
  exact List.perm_middle
theorem getD_none {owner : Array (Option Nat)} {j : Nat} (h : (owner.getD j (some 0)).isNone = true) : owner[j]? = some none := by
  rw [Array.getD_eq_getD_getElem?] at h
  cases q : owner[j]? with
  | none => rw [q] at h; cases h
  | some o =>
    rw [q] at h
    cases o with
    | none => rfl
    | some _ => cases h
theorem free_heads {mask : Nat} {owner : Array (Option Nat)} : ∀ (K f i p : Nat), K ≤ f → (∃ j, layClean.free mask owner f i p = some j ∧ owner[j]? = some none) ∨ ∀ k, k < K → owner[(lpN mask k (i, p)).1]? ≠ some none
  | 0, f, i, p, _ => .inr fun k hk => absurd hk (Nat.not_lt_zero _)
  | K + 1, 0, i, p, h => by omega
  | K + 1, f + 1, i, p, h => by
    unfold layClean.free
    cases hf : (List.range (runEnd mask i + 1 - i)).find? (fun k => (owner.getD (i + k) (some 0)).isNone) with
    | some k => exact .inl ⟨i + k, rfl, getD_none (by simpa using List.find?_some hf)⟩
    | none =>
      dsimp only
      rcases free_heads (mask := mask) (owner := owner) K f (leap mask i p).1 (leap mask i p).2 (by omega) with q | q
      · exact .inl q
      · refine .inr fun k hk => ?_
        cases k with
        | zero =>
          intro e
          have hr : 0 < runEnd mask i + 1 - i := by unfold SetTable.runEnd; split <;> omega
          have := List.find?_eq_none.mp hf 0 (List.mem_range.mpr hr)
          rw [Array.getD_eq_getD_getElem?, Nat.add_zero] at this
          have e' : owner[i]? = some none := e
          rw [e'] at this
          exact this rfl
        | succ k => exact q k (by omega)
theorem full_len : ∀ (l : List (Option Nat)), (∀ o ∈ l, o ≠ none) → (l.filterMap id).length = l.length
  | [], _ => rfl
  | none :: r, h => absurd rfl (h none (.head _))
  | some a :: r, h => by
    rw [List.filterMap_cons]
    show (a :: r.filterMap id).length = _
    rw [List.length_cons, List.length_cons, full_len r fun o ho => h o (.tail _ ho)]
theorem clean_free {owner : Array (Option Nat)} (hs : owner.size = 32) (hl : (laidIn owner).length < 32) (x : Int) : ∃ j, layClean.free 31 owner (turns 31) (bits x % 32) (bits x) = some j ∧ owner[j]? = some none := by
  have hi : bits x % 32 ≤ 31 := Nat.le_of_lt_succ (Nat.mod_lt _ (by decide))
  rcases free_heads (mask := 31) (owner := owner) 45 (turns 31) (bits x % 32) (bits x) (by decide) with q | q
  · exact q
  · have : (laidIn owner).length = 32 := by
      unfold laidIn
      rw [full_len, Array.length_toList, hs]
      intro o ho e
      subst e
      obtain ⟨j, hj, ej⟩ := List.mem_iff_getElem.mp ho
      have hj' : j < 32 := by rw [← hs]; simpa using hj
      obtain ⟨k, hk, e2⟩ := cover (.inr rfl) (q := (bits x % 32, bits x)) hi (bits_lt x) (Nat.le_of_lt_succ hj')
      refine q k (by omega) ?_
      rw [e2, ← Array.getElem?_toList, List.getElem?_eq_getElem hj, ej]
    omega
theorem clean_fold : ∀ (hs : List Int) (owner : Array (Option Nat)) (k : Nat), owner.size = 32 → (laidIn owner).Perm (List.range k) → k + hs.length < 32 →
    ∃ owner', hs.foldl (init := some (owner, k)) (fun acc h => do
      let (owner, k) ← acc
      let j ← layClean.free 31 owner (turns 31) (bits h % (31 + 1)) (bits h)
      pure (owner.setIfInBounds j (some k), k + 1)) = some (owner', k + hs.length) ∧ owner'.size = 32 ∧ (laidIn owner').Perm (List.range (k + hs.length))
  | [], owner, k, h1, h2, _ => ⟨owner, rfl, h1, h2⟩
  | x :: hs, owner, k, h1, h2, h3 => by
    rw [List.length_cons] at h3
    have hl := h2.length_eq
    rw [List.length_range] at hl
    obtain ⟨j, e, hj⟩ := clean_free h1 (by omega) x
    have p : (laidIn (owner.setIfInBounds j (some k))).Perm (List.range (k + 1)) := by
      refine (laidIn_set hj).trans ?_
      rw [List.range_succ]
      exact (List.perm_append_singleton _ _).symm.trans ((List.Perm.append_right _ h2)) |>.trans (List.Perm.refl _)
    obtain ⟨o', q1, q2, q3⟩ := clean_fold hs (owner.setIfInBounds j (some k)) (k + 1) (by simp [h1]) p (by omega)
    refine ⟨o', ?_, q2, ?_⟩
    · rw [List.foldl_cons, List.length_cons, show k + (hs.length + 1) = k + 1 + hs.length by omega, ← q1]
      congr 1
      show (layClean.free 31 owner (turns 31) (bits x % 32) (bits x)).bind _ = _
      rw [e]; rfl
    · rw [List.length_cons, show k + (hs.length + 1) = k + 1 + hs.length by omega]; exact q3
theorem range_lay {owner : Array (Option Nat)} (hs : owner.size = 32) : ((List.range 32).filterMap fun j => (owner.getD j none).map (j, ·)).map (·.2) = laidIn owner := by
  unfold laidIn
  rw [List.map_filterMap]
  have : owner.toList = (List.range 32).map fun j => owner.getD j none := by
    refine List.ext_getElem (by simp [hs]) fun i h1 h2 => ?_
    have h1' : i < owner.size := by simpa using h1
    simp [Array.getElem_toList, h1']
  rw [this, List.filterMap_map]
  congr 1
  funext j
  show Option.map _ (Option.map _ _) = owner.getD j none
  cases owner.getD j none <;> rfl
/-- the table grows, and does not give way -/
theorem relayAll_ok (I : TInv t led 5 5) (es : Array (Int × Value)) (he : es.size = 5) : ∃ es' t', relayAll t es (SetTable.grown es.size) = (es', t', false) ∧ TInv t' led 5 4 := by
  have hg : sizeAbove (SetTable.grown es.size) - 1 = 31 := by rw [he]; decide
  have hinit : (laidIn (Array.replicate 32 none)).Perm (List.range 0) := by decide
  obtain ⟨owner, f1, f2, f3⟩ := clean_fold (es.map (·.1)).toList (Array.replicate 32 none) 0 (by simp) hinit (by simp [he])
  have hlen : (es.map (·.1)).toList.length = 5 := by simp [he]
  rw [hlen, Nat.zero_add] at f1 f3
  have hc : layClean 31 (es.map (·.1)) = some owner := by
    unfold layClean
    rw [← Array.foldl_toList]
    exact congrArg (Option.map (·.1)) f1
  have hr : t.relaid (es.map (·.1)) (SetTable.grown es.size) = some ({ mask := 31, place := (((List.range 32).filterMap fun j => (owner.getD j none).map (j, ·)).map (·.1)).toArray, dummies := #[], finger := t.finger, led := t.led, moves := t.movedTo 31, plain := t.plain }, (((List.range 32).filterMap fun j => (owner.getD j none).map (j, ·)).map (·.2)).toArray) := by
    unfold SetTable.relaid SetTable.laid
    rw [hg, hc]
    rfl
  have hord : (((List.range 32).filterMap fun j => (owner.getD j none).map (j, ·)).map (·.2)) = laidIn owner := range_lay f2
  have hl5 : ((List.range 32).filterMap fun j => (owner.getD j none).map (j, ·)).length = 5 := by
    rw [← List.length_map (f := (·.2)), hord, f3.length_eq, List.length_range]
  have I' : TInv { mask := 31, place := (((List.range 32).filterMap fun j => (owner.getD j none).map (j, ·)).map (·.1)).toArray, dummies := #[], finger := t.finger, led := t.led, moves := t.movedTo 31, plain := t.plain } led 5 4 := by
    refine ⟨?_, rfl, I.led, I.plain, by rw [List.size_toArray, List.length_map, hl5], .inr ⟨rfl, by omega⟩⟩
    dsimp only
    refine List.pairwise_map.mpr (List.Pairwise.filterMap _ ?_ List.pairwise_lt_range)
    intro a b hab x hx y hy
    obtain ⟨_, _, rfl⟩ := Option.map_eq_some_iff.mp hx
    obtain ⟨_, _, rfl⟩ := Option.map_eq_some_iff.mp hy
    exact hab
  have cov : coversAll (((List.range 32).filterMap fun j => (owner.getD j none).map (j, ·)).map (·.2)).toArray es.size = true := by
    unfold coversAll
    rw [he]
    rw [hord]
    exact List.isPerm_iff.mpr f3
  have hsz : ((((List.range 32).filterMap fun j => (owner.getD j none).map (j, ·)).map (·.2)).toArray.filterMap (es[·]?)).size = 5 := by
    have hp : (((List.range 32).filterMap fun j => (owner.getD j none).map (j, ·)).map (·.2)).Perm (List.range 5) := by rw [hord]; exact f3
    rw [← Array.length_toList, Array.toList_filterMap]
    rw [(hp.filterMap _).length_eq]
    rw [show (List.range 5).filterMap (fun x => es[x]?) = es.toList from ?_, Array.length_toList, he]
    have := PySem.List.filterMap_getElem?_range_length es.toList
    rw [Array.length_toList, he] at this
    rw [← this]
    congr 1
    funext i
    rw [Array.getElem?_toList]
  refine ⟨(((List.range 32).filterMap fun j => (owner.getD j none).map (j, ·)).map (·.2)).toArray.filterMap (es[·]?), _, ?_, I'⟩
  unfold relayAll
  rw [hr]
  dsimp only
  rw [cov, hsz, fits_of I' (show 5 ≤ 31 by decide)]
  rfl
end
end Mine

namespace Mine

noncomputable def keyOf (e : Int × Value) : Int := match e.2 with
  | .int k _ => k
  | _ => 0
noncomputable def IntEls (l : List (Int × Value)) : Prop := ∀ e ∈ l, ∃ k t, e = (hashInt k, .int k t)
theorem IntEls.els {prog : Program} {w : World} {l : List (Int × Value)} (h : IntEls l) : ElemsOf (intKind prog w) l := fun e he => by
  obtain ⟨k, t, rfl⟩ := h e he
  exact ⟨⟨k, intKind_is _ _ _ _, rfl⟩, rfl⟩
theorem IntEls.perm {l l' : List (Int × Value)} (h : IntEls l) (p : l'.Perm l) : IntEls l' := fun e he => h e (p.mem_iff.mp he)
noncomputable def ledOf (w : World) : Bool := !(w.params.followText "set-order")
/-- a set of the given ints -/
noncomputable def SetT (w : World) (h : Heap) (a : Addr) (l : List Int) : Prop :=
  ∃ o es ep t, h.get? a = some o ∧ o.ExactSet ∧ o.data = .set es ep t ∧ IntEls es.toList ∧ (es.toList.map keyOf).Perm l ∧ TInv t (ledOf w) es.size 4
theorem SetT.up {w : World} {h h' : Heap} {a : Addr} {l : List Int} (x : SetT w h a l) (u : ∀ o, h.get? a = some o → h'.get? a = some o) : SetT w h' a l :=
  let ⟨o, es, ep, t, e, r⟩ := x; ⟨o, es, ep, t, u o e, r⟩
theorem TInv.le7 {t : SetTable} {led : Bool} {n b : Nat} (I : TInv t led n b) (h : b ≤ 7) : n ≤ 7 := by
  rcases I.mask with ⟨_, q⟩ | ⟨_, q⟩
  · exact Nat.le_trans q h
  · exact q
theorem TInv.fits {t : SetTable} {led : Bool} {n b : Nat} (I : TInv t led n b) (h : b ≤ 7) : t.fits n = true := fits_of I (by
  rcases I.mask with ⟨e, q⟩ | ⟨e, q⟩ <;> omega)

section
variable {prog : Program} {w : World} {A : Around} {E : Value → Shared → Prop} {s : Shared}
theorem put_T {a : Addr} {h : Heap} {o : Obj} {es : Array (Int × Value)} {ep : Nat} {t : SetTable} (es' : Array (Int × Value)) (t' : SetTable) (ho : h.get? a = some o) (hd : o.data = .set es ep t) : (h.update a (Obj.putSet es' t')).get? a = some { o with data := .set es' (ep + 1) t' } := by
  have e := Heap.get?_update_self (Obj.putSet es' t') ho (by rw [putSet_of es' t' hd]; rfl)
  rw [putSet_of es' t' hd] at e
  exact e

/-- the item's place among the elements -/
theorem find_key {l : List (Int × Value)} (h : IntEls l) (k : Int) : (l.findIdx? fun e => (intKind prog w).is k e.2) = none ↔ k ∉ l.map keyOf := by
  rw [List.findIdx?_eq_none_iff]
  constructor
  · intro q m
    obtain ⟨e, he, rfl⟩ := List.mem_map.mp m
    obtain ⟨k', t, rfl⟩ := h e he
    have := q _ he
    rw [show keyOf (hashInt k', Value.int k' t) = k' from rfl, intKind_is] at this
    cases this
  · intro q e he
    obtain ⟨k', t, rfl⟩ := h e he
    cases hv : (intKind prog w).is k (Value.int k' t) with
    | false => rfl
    | true =>
      have : k = k' := (intKind prog w).inj _ _ _ hv (intKind_is _ _ _ _)
      exact absurd (List.mem_map.mpr ⟨_, he, rfl⟩) (this ▸ q)

theorem add_T {a : Addr} {l : List Int} {k : Int} {tk : Tok} {Q : Bool → Shared → Prop} (hS : SetT w s.heap a l) (hr : l.length ≤ 6)
    (h : ∀ h' b, Heap.SameBut a s.heap h' → SetT w h' a (if k ∈ l then l else l ++ [k]) → Q b { s with heap := h' }) : wpAny (model prog w) A (setAddHashed a (.int k tk) (hashInt k)) Q E s := by
  obtain ⟨o, es, ep, t, ho, hx, hd, hi, hp, hI⟩ := id hS
  have hel : ElemsOf (intKind prog w) es.toList := hi.els
  have hlen := hp.length_eq
  rw [List.length_map, Array.length_toList] at hlen
  have hf := hI.fits (by decide)
  unfold setAddHashed setAddHashedIn
  refine wpAny_holding (wpAny_bind (wpAny_setState_of ho hd hf ?_))
  dsimp only
  rw [byScan_of (x := .int k tk) rfl (by unfold scanBound; omega) hel]
  simp only [if_true]
  unfold setAddByScan
  refine wpAny_bind (wpAny_bind (wpAny_rule (wpAny_bind (wpAny_setScan_of (knd := intKind prog w) (k := k) (intKind_is _ _ _ _) ho hd hf hel ?_))))
  cases hfi : es.toList.findIdx? (fun e => (intKind prog w).is k e.2) with
  | some j =>
    have hk : k ∈ l := by
      rcases Decidable.em (k ∈ es.toList.map keyOf) with m | m
      · exact hp.mem_iff.mp m
      · rw [(find_key hi k).mpr m] at hfi; cases hfi
    dsimp only
    refine wpAny_pure (wpAny_pure ?_)
    exact h s.heap false (Heap.SameBut.refl a s.heap) (by rw [if_pos hk]; exact hS)
  | none =>
    have hk : k ∉ l := fun m => (find_key hi k).mp hfi (hp.mem_iff.mpr m)
    rw [if_neg hk] at h
    dsimp only
    obtain ⟨es1, t1, hL, I1⟩ := layNew_ok hI (by omega) es rfl (hashInt k) (.int k tk)
    have q1 := layNew_perm t es (hashInt k) (.int k tk)
    rw [hL] at q1 ⊢
    dsimp only at q1 ⊢
    rw [Array.toList_push] at q1
    have i1 : IntEls (es.toList ++ [(hashInt k, Value.int k tk)]) := fun e he => by
      rcases List.mem_append.mp he with he | he
      · exact hi e he
      · cases List.mem_singleton.mp he; exact ⟨k, tk, rfl⟩
    have i2 := i1.perm q1
    have p2 : (es1.toList.map keyOf).Perm (l ++ [k]) := (q1.map keyOf).trans (by rw [List.map_append]; exact hp.append (List.Perm.refl _))
    have z1 : es1.size = es.size + 1 := by rw [← Array.length_toList, q1.length_eq, List.length_append, Array.length_toList]; rfl
    refine wpAny_bind (wpAny_pure ?_)
    rw [I1.plain, hashByValue_scannable 8 (x := .int k tk) rfl]
    refine wpAny_bind (wpAny_pure ?_)
    simp only [plainKind, if_true]
    have e3 := put_T es1 t1 ho hd
    refine wpAny_bind (wpAny_storeSet_of (es' := es1) (t' := t1) ho hd ?_ (by rw [sizeLine_eq]; omega))
    have sb := Heap.SameBut.update s.heap a (Obj.putSet es1 t1)
    have hfull : t1.tooFull = decide ((es.size + 1) * 5 ≥ t1.mask * 3) := by
      unfold SetTable.tooFull SetTable.fill
      rw [I1.size, I1.dm]; rfl
    by_cases hfl : t1.tooFull = true
    · rw [hfl]
      have h5 : es.size + 1 = 5 := by
        rw [hfull, decide_eq_true_eq] at hfl
        rcases I1.mask with ⟨m, q⟩ | ⟨m, q⟩ <;> omega
      rw [h5] at I1
      obtain ⟨es2, t3, hR, I3⟩ := relayAll_ok I1 es1 (z1.trans h5)
      have r1 := relayAll_perm t1 es1 (SetTable.grown es1.size)
      rw [hR] at r1 ⊢
      dsimp only at r1 ⊢
      have z2 : es2.size = 5 := by rw [← Array.length_toList, r1.length_eq, Array.length_toList, z1, h5]
      simp only [Bool.not_false, Bool.true_and, if_true]
      refine wpAny_bind (wpAny_pure (wpAny_bind (wpAny_storeSet_of (es' := es2) (t' := t3) e3 rfl ?_ (by rw [sizeLine_eq]; omega))))
      refine wpAny_pure (wpAny_pure (h _ true (sb.trans (Heap.SameBut.update _ a _)) ⟨_, es2, ep + 1 + 1, t3, put_T es2 t3 e3 rfl, hx, rfl, i2.perm r1, (r1.map keyOf).trans p2, by rw [z2]; exact I3⟩))
    · have hfl' : t1.tooFull = false := by simpa using hfl
      rw [hfl']
      simp only [Bool.not_false, Bool.true_and, Bool.false_eq_true, if_false]
      refine wpAny_pure (wpAny_pure (h _ true sb ⟨_, es1, ep + 1, t1, e3, hx, rfl, i2, p2, I1.rise, I1.dm, I1.led, I1.plain, by rw [I1.size, z1], ?_⟩))
      rw [hfull, decide_eq_true_eq] at hfl
      rcases I1.mask with ⟨m, q⟩ | ⟨m, q⟩
      · exact .inl ⟨m, by omega⟩
      · exact .inr ⟨m, by omega⟩
end
end Mine

namespace Mine

noncomputable def stepL (l : List Int) (k : Int) : List Int := if k ∈ l then l else l ++ [k]
theorem stepL_len (l : List Int) (k : Int) : (stepL l k).length ≤ l.length + 1 := by
  unfold stepL; split
  · omega
  · simp
theorem stepL_nodup {l : List Int} (h : l.Nodup) (k : Int) : (stepL l k).Nodup := by
  unfold stepL; split
  · exact h
  · rename_i hk
    rw [List.nodup_append]
    exact ⟨h, by simp, fun a ha b hb => by cases List.mem_singleton.mp hb; exact fun e => hk (e ▸ ha)⟩
theorem stepL_mem (l : List Int) (k a : Int) : a ∈ stepL l k ↔ a ∈ l ∨ a = k := by
  unfold stepL; split
  · rename_i hk
    exact ⟨.inl, fun h => h.elim id fun e => e ▸ hk⟩
  · simp
theorem foldL_nodup : ∀ (ns : List Int) {l : List Int}, l.Nodup → (ns.foldl stepL l).Nodup
  | [], _, h => h
  | k :: r, _, h => foldL_nodup r (stepL_nodup h k)
theorem foldL_mem : ∀ (ns : List Int) {l : List Int} {a : Int}, a ∈ ns.foldl stepL l ↔ a ∈ l ∨ a ∈ ns
  | [], l, a => by simp
  | k :: r, l, a => by rw [List.foldl_cons, foldL_mem r, stepL_mem, List.mem_cons, or_assoc]
theorem foldL_len : ∀ (ns : List Int) {l : List Int}, (ns.foldl stepL l).length ≤ l.length + ns.length
  | [], _ => Nat.le_refl _
  | k :: r, l => by
    rw [List.foldl_cons, List.length_cons]
    have := foldL_len r (l := stepL l k)
    have := stepL_len l k
    omega
theorem dedup_mem : ∀ (ns : List Int) {a : Int}, a ∈ dedupI ns ↔ a ∈ ns
  | [], a => by simp [dedupI]
  | k :: r, a => by
    rw [dedupI, List.mem_cons, List.mem_cons, List.mem_filter, dedup_mem r]
    by_cases h : a = k
    · simp [h]
    · simp [h]
theorem dedup_nodup : ∀ (ns : List Int), (dedupI ns).Nodup
  | [] => by simp [dedupI]
  | k :: r => by
    rw [dedupI, List.nodup_cons]
    exact ⟨fun m => by simp at m, (dedup_nodup r).filter _⟩
theorem dedup_perm (ns : List Int) : (ns.foldl stepL []).Perm (dedupI ns) := (List.perm_ext_iff_of_nodup (foldL_nodup ns List.nodup_nil) (dedup_nodup ns)).mpr fun a => by rw [foldL_mem, dedup_mem]; simp

section
variable {prog : Program} {w : World} {A : Around} {E : Value → Shared → Prop} {s : Shared} {I S : Addr} {fp wr : List Addr} {St : Nat → Heap → Prop} {items : Array Value} {ns : List Int}

theorem loop_T {R : Result → Shared → Prop} (W : Walks prog w A.in1 I fp wr items.size (fun i v => items[i]? = some v) St) (hSf : S ∉ fp) (hi : IntsAre items.toList ns) : ∀ (rest : List Int) (i : Nat) (l : List Int) (s : Shared), ns.drop i = rest → i ≤ ns.length → St i s.heap → SetT w s.heap S l → l.length + rest.length ≤ 7 →
    (∀ h' tk, SetT w h' S (rest.foldl stepL l) → (∀ b o, b ∉ S :: wr → s.heap.get? b = some o → h'.get? b = some o) → R (.ok (.ret .none)) { s with heap := h', toks := tk }) →
    codeAny (model prog w) A (.builtin "set.update.loop" ⟨[.ref S, .ref I], []⟩) R s := by
  have hSw : S ∉ wr := fun h => hSf (W.sub _ h)
  have hlen : items.size = ns.length := by rw [← Array.length_toList]; exact hi.length
  intro rest
  induction rest with
  | nil =>
    intro i l s hd hil st hS hl hR
    have hin : i = items.size := by
      have := List.drop_eq_nil_iff.mp hd
      omega
    subst hin
    refine codeAny_builtin F.entry_set_update_loop ?_
    rw [Around.under_plainId F.plain_set_update_loop _]
    refine wpAny_bind (m := pyNext (.ref I)) (W.done s _ _ st fun h' tk hk => ?_)
    exact wpAny_pure (hR h' tk (hS.up fun o e => hk S o hSw e) fun b o nb e => hk b o (fun z => nb (List.mem_cons_of_mem _ z)) e)
  | cons k r ih =>
    intro i l s hd hil st hS hl hR
    rw [List.length_cons] at hl
    have hlt : i < ns.length := by
      rcases Nat.lt_or_ge i ns.length with h | h
      · exact h
      · rw [List.drop_eq_nil_iff.mpr h] at hd; cases hd
    have hk : ns.getD i 0 = k ∧ ns.drop (i + 1) = r := by
      rw [List.drop_eq_getElem_cons hlt] at hd
      cases hd
      exact ⟨by simp [hlt], rfl⟩
    refine codeAny_builtin F.entry_set_update_loop ?_
    rw [Around.under_plainId F.plain_set_update_loop _]
    refine wpAny_bind (m := pyNext (.ref I)) (W.item i s _ _ (by omega) st fun v h' tk hP st' hk' => ?_)
    obtain ⟨u, rfl⟩ := IntsAre.int_at hi i v (by rw [Array.getElem?_toList]; exact hP)
    rw [hk.1]
    show wpAny _ A.in1 (holding [Value.int k u] (setAdd S (.int k u)) >>= _) _ _ _
    refine wpAny_bind (wpAny_holding ?_)
    unfold setAdd
    refine wpAny_holding (wpAny_bind ((intKind prog w).pyHash (k := k) (intKind_is _ _ _ _) ?_))
    refine add_T (w := w) (l := l) (hS.up fun o e => hk' S o hSw e) (by omega) fun h2 b sb hS2 => ?_
    refine wpAny_pure ⟨plainId_quiet F.plain_set_update_loop _, ih (i + 1) (stepL l k) _ hk.2 hlt (W.frame _ _ _ st' fun b hb o e => (sb.2 b fun z => hSf (z ▸ hb)).trans e) hS2 (by have := stepL_len l k; omega) fun h3 tk3 hS3 hk3 => ?_⟩
    exact hR h3 tk3 hS3 fun b o nb e => hk3 b o nb ((sb.2 b fun z => nb (z ▸ List.mem_cons_self)).trans (hk' b o (fun z => nb (List.mem_cons_of_mem _ z)) e))

theorem newSet_code (a : Value) {R : Result → Shared → Prop}
    (h : R (.ok (.ret (.ref s.heap.objs.size))) { s with heap := s.heap.push { cls := .type "set", dict := none, data := .set #[] 0 (.fresh 0 0 (ledOf w)) } }) :
    codeAny (model prog w) A (.call (.builtin "set.__new__") ⟨[.type "set", a], []⟩) R s := by
  refine codeAny_of_tree ?_
  refine wpAny_bind (m := checkBuiltinCall "set.__new__" ⟨[.type "set", a], []⟩) (wpAny_of_eq (F.newCall_set_1 a) (wpAny_pure ⟨plainId_quiet F.plain_set_new _, codeAny_builtin F.entry_set_new ?_⟩))
  rw [Around.under_plainId F.plain_set_new _]
  unfold Builtin.«set.__new__» Builtin.Frozenset.newClass
  have hsub := sub_set_self
  obtain ⟨hp, g, d, tk, os⟩ := s
  dsimp only
  wp_walk
  refine wpAny_askSetting (wpAny_pure ?_)
  dsimp only
  simp only [newObj]
  refine wpAny_bind (wpAny_alloc (wpAny_pure ?_))
  exact wpAny_pure h

theorem fresh_T (w : World) {h : Heap} {a : Addr} (e : h.get? a = some { cls := .type "set", dict := none, data := .set #[] 0 (.fresh 0 0 (ledOf w)) }) : SetT w h a [] :=
  ⟨_, #[], 0, _, e, ⟨rfl, rfl, rfl⟩, rfl, fun e he => by simp at he, by simp, List.Pairwise.nil, rfl, rfl, rfl, rfl, .inl ⟨rfl, Nat.zero_le _⟩⟩

set_option maxHeartbeats 4000000 in
/-- set(list of ints) -/
theorem call_set_T {l : Addr} {Q : Value → Shared → Prop} (hh : A.handled = none) (hl : s.heap.IsList l items) (hi : IntsAre items.toList ns) (hb : ns.length ≤ 7)
    (h : ∀ h' tk, SetT w h' s.heap.objs.size (ns.foldl stepL []) → (∀ b o, b < s.heap.objs.size → s.heap.get? b = some o → h'.get? b = some o) → Q (.ref s.heap.objs.size) { s with heap := h', toks := tk }) :
    wpAny (model prog w) A (call (.type "set") [.ref l]) Q E s := by
  obtain ⟨c, tl, hmro⟩ := F.called_set.mro
  have hmade := F.called_set.made
  have hsub := F.called_set.sub
  refine wpAny_call (codeAny_of_tree ?_)
  show wpAny _ _ (callAny (.type "set") _) _ _ _
  refine wpAny_pure ⟨Code.quiet_builtin _ (by decide +kernel), codeAny_builtin F.entry_type_call ?_⟩
  rw [Around.under_plain (weight_type_call_type "set" [.ref l] []) rfl]
  have h1 := F.called_set.notType
  have h2 := F.called_set.canCreate
  have hct := F.typeCall_set_1 (.ref l)
  repeat (any_goals (first | assumption | wp_step))
  refine newSet_code (.ref l) ?_
  have hS : (s.heap.push { cls := .type "set", dict := none, data := .set #[] 0 (.fresh 0 0 (ledOf w)) }).get? s.heap.objs.size = some { cls := .type "set", dict := none, data := .set #[] 0 (.fresh 0 0 (ledOf w)) } := Heap.get?_push_size _ rfl
  have hT : Shared.TypeIs { s with heap := s.heap.push { cls := .type "set", dict := none, data := .set #[] 0 (.fresh 0 0 (ledOf w)) } } (.ref s.heap.objs.size) "set" := ⟨_, hS, rfl⟩
  have hli := F.called_set.init.lookup
  have hbi := F.called_set.init.bind (.ref s.heap.objs.size)
  repeat (any_goals (first | assumption | wp_step))
  refine codeAny_mono (codeAny_call_builtin (R := fun r s₂ => r = .ok (.ret .none) ∧ ∃ h' tk, s₂ = { s with heap := h', toks := tk } ∧ SetT w h' s.heap.objs.size (ns.foldl stepL []) ∧ ∀ b o, b < s.heap.objs.size → s.heap.get? b = some o → h'.get? b = some o) F.called_set.init.plain F.entry_set_init (check_set_init_1 hT ?_)) fun r₂ s₂ hr₂ => ?_
  · obtain ⟨ol, hol, hcl, nl, hdl⟩ := hl
    obtain ⟨ocls, odict, odata, oslots⟩ := ol
    simp only at hcl hdl
    subst hcl; subst hdl
    have hol' : (s.heap.push { cls := .type "set", dict := none, data := .set #[] 0 (.fresh 0 0 (ledOf w)) }).get? l = some { cls := .type "list", dict := odict, data := .seq items nl, slots := oslots } := Heap.get?_push_of_some _ hol
    have hsls := F.sub_list_set
    have hslf := F.sub_list_frozenset
    have hne : (Value.type "list" == Value.type "dict") = false := by decide
    have hl1 : (s.heap.push { cls := .type "set", dict := none, data := .set #[] 0 (.fresh 0 0 (ledOf w)) }).IsList l items := ⟨_, hol', rfl, nl, rfl⟩
    unfold Builtin.«set.__init__» noKeywords Builtin.Frozenset.updateFrom
    generalize hPI : pyIter = PI
    wp_walk
    subst hPI
    refine wpAny_pyIter_list hl1 (wpAny_bind (wpAny_runValue ?_))
    have hlS : l < s.heap.objs.size := Heap.lt_size hol
    have hsz : (s.heap.push { cls := .type "set", dict := none, data := .set #[] 0 (.fresh 0 0 (ledOf w)) }).objs.size = s.heap.objs.size + 1 := Heap.size_push ..
    have hneI : l ≠ (s.heap.push { cls := .type "set", dict := none, data := .set #[] 0 (.fresh 0 0 (ledOf w)) }).objs.size := by rw [hsz]; exact Nat.ne_of_lt (Nat.lt_succ_of_lt hlS)
    refine loop_T (Walks.list (A := A.in1.in1.in1) (by simp [hh]) _ l hneI items) (S := s.heap.objs.size) ?_ hi ns 0 [] _ rfl (Nat.zero_le _) ⟨⟨_, Heap.get?_push_size _ rfl, rfl, rfl⟩, hl1.push _⟩ (fresh_T w (Heap.get?_push_of_some _ hS)) (by simpa using hb) fun h' tk hS' hk => ?_
    · intro m
      rcases List.mem_cons.mp m with e | m
      · exact absurd (e.trans hsz) (Nat.ne_of_lt (Nat.lt_succ_self _))
      · exact absurd (List.mem_singleton.mp m).symm (Nat.ne_of_lt hlS)
    · refine wpAny_pure (wpAny_pure ⟨rfl, h', tk, rfl, hS', fun b o hb' e => hk b o (fun m => ?_) (Heap.get?_push_of_some _ (Heap.get?_push_of_some _ e))⟩)
      rcases List.mem_cons.mp m with e | m
      · exact absurd e (Nat.ne_of_lt hb')
      · exact absurd ((List.mem_singleton.mp m).trans hsz) (Nat.ne_of_lt (Nat.lt_succ_of_lt hb'))
  · obtain ⟨rfl, h', tk, rfl, hS', hk'⟩ := hr₂
    repeat (any_goals (first | assumption | wp_step))
    exact h _ _ hS' hk'
end
end Mine

namespace Mine
open PySem.SetTable

theorem entry_set_iter : entryFor table "set.__iter__" = some Builtin.«frozenset.__iter__» := entryFor_alias (id' := "frozenset.__iter__") (by kernel_rfl) rfl (by decide +kernel) (by kernel_rfl)
theorem slot_si_next : PySem.Slot "set_iterator" "__next__" "set_iterator.__next__" :=
  PySem.Slot.of (owner := "set_iterator") (n := "__next__") (by rw [typeLookup_type, builtinLookup_eq_fast]; kernel_rfl) (by decide +kernel) (by decide +kernel) (by decide +kernel)
    (by first | exact .inl (by decide +kernel) | exact .inr (by decide +kernel)) (by rw [isSubtype_type]; kernel_rfl)
theorem entry_si_next : entryFor table "set_iterator.__next__" = some Builtin.«set_iterator.__next__» := entryFor_of_tree (by kernel_rfl)
theorem args_si_next (a : Value) : argsOk "set_iterator.__next__" ⟨[a], []⟩ := by unfold argsOk; kernel_rfl
theorem slot_si_iter : PySem.Slot "set_iterator" "__iter__" "set_iterator.__iter__" :=
  PySem.Slot.of (owner := "set_iterator") (n := "__iter__") (by rw [typeLookup_type, builtinLookup_eq_fast]; kernel_rfl) (by decide +kernel) (by decide +kernel) (by decide +kernel)
    (by first | exact .inl (by decide +kernel) | exact .inr (by decide +kernel)) (by rw [isSubtype_type]; kernel_rfl)
theorem entry_si_iter : entryFor table "set_iterator.__iter__" = some Builtin.«dict_keyiterator.__iter__» := entryFor_alias (id' := "dict_keyiterator.__iter__") (by kernel_rfl) rfl (by decide +kernel) (by kernel_rfl)
theorem args_si_iter (a : Value) : argsOk "set_iterator.__iter__" ⟨[a], []⟩ := by unfold argsOk; kernel_rfl

/-- the order in which a set is walked -/
noncomputable def orderOf (w : World) (a : Addr) (es : Array (Int × Value)) (ep : Nat) : Array (Int × Value) := if w.params.followText "set-order" = true then pickOrder (w.params.setOrder a ep) es else es
theorem pick_go {α : Type} (next : Nat → Nat) : ∀ (f k : Nat) (l : List α) (out : Array α), l.length ≤ f → (pickOrder.go next f k l out).toList.Perm (out.toList ++ l)
  | 0, k, l, out, h => by
    have : l = [] := List.length_eq_zero_iff.mp (by omega)
    subst this
    unfold pickOrder.go
    simp
  | f + 1, k, l, out, h => by
    unfold pickOrder.go
    cases e : l[next k % l.length]? with
    | none =>
      dsimp only
      have h1 := List.getElem?_eq_none_iff.mp e
      have : l.length = 0 := by
        rcases Nat.eq_zero_or_pos l.length with h0 | h0
        · exact h0
        · have := Nat.mod_lt (next k) h0; omega
      rw [List.length_eq_zero_iff.mp this]; simp
    | some x =>
      dsimp only
      obtain ⟨h1, h2⟩ := List.getElem?_eq_some_iff.mp e
      have hl : (l.eraseIdx (next k % l.length)).length ≤ f := by rw [List.length_eraseIdx_of_lt h1]; omega
      refine (pick_go next f (k + 1) _ _ hl).trans ?_
      rw [Array.toList_push, List.append_assoc]
      refine List.Perm.append_left _ ?_
      rw [List.eraseIdx_eq_take_drop_succ]
      have e3 : l = l.take (next k % l.length) ++ x :: l.drop (next k % l.length + 1) := by rw [← h2, List.getElem_cons_drop, List.take_append_drop]
      conv => rhs; rw [e3]
      show (x :: (List.take _ l ++ List.drop _ l)).Perm _
      exact List.perm_middle.symm
theorem order_perm (w : World) (a : Addr) (es : Array (Int × Value)) (ep : Nat) : (orderOf w a es ep).toList.Perm es.toList := by
  unfold orderOf
  split
  · unfold pickOrder
    have := pick_go (w.params.setOrder a ep) es.size 0 es.toList #[] (by simp)
    simpa using this
  · exact List.Perm.refl _

/-- an iterator over a set, before the i-th item -/
noncomputable def SetIt (w : World) (h : Heap) (I a : Addr) (es : Array (Int × Value)) (ep : Nat) (t : SetTable) (i : Nat) : Prop :=
  (∃ slot : Nat, h.get? I = some { cls := .type "set_iterator", data := .fields #[rawInt slot, rawInt i, .ref a, rawInt es.size, rawInt ep] } ∧ (w.params.followText "set-order" = false → below t.place slot = i)) ∧
    ∃ o, h.get? a = some o ∧ o.data = .set es ep t

section
variable {prog : Program} {w : World} {A : Around} {E : Value → Shared → Prop} {s : Shared} {I a : Addr} {es : Array (Int × Value)} {ep : Nat} {t : SetTable}

theorem byText_of {Q : Bool → Shared → Prop} (h : Q (w.params.followText "set-order") s) : wpAny (model prog w) A setsByText Q E s := by
  unfold setsByText
  exact wpAny_bind (wpAny_askSetting (wpAny_pure h))

theorem setNext_of {o : Obj} {slot i : Nat} {Q : Option (Value × Nat) → Shared → Prop} (ho : s.heap.get? a = some o) (hd : o.data = .set es ep t) (hI : TInv t (ledOf w) es.size 4) (hs : w.params.followText "set-order" = false → below t.place slot = i)
    (h : ∀ nx : Nat, (w.params.followText "set-order" = false → i < es.size → below t.place nx = i + 1) → Q (((orderOf w a es ep)[i]?).map fun e => (e.2, nx)) s) : wpAny (model prog w) A (setNext a slot i ep) Q E s := by
  have hf := hI.fits (by decide)
  unfold setNext
  refine wpAny_bind (wpAny_setState_of ho hd hf (wpAny_bind (byText_of ?_)))
  cases hb : w.params.followText "set-order" with
  | true =>
    rw [if_pos rfl, if_neg (by simp)]
    unfold setWalk
    refine wpAny_bind (wpAny_bind (wpAny_setState_of ho hd hf (wpAny_bind (byText_of ?_))))
    rw [hb, if_pos rfl]
    refine wpAny_bind (wpAny_askSetting (wpAny_pure (wpAny_pure ?_)))
    have := h slot fun e => by rw [hb] at e; cases e
    unfold orderOf at this
    rw [if_pos hb] at this
    exact this
  | false =>
    rw [if_neg (by decide)]
    have hx := h
    obtain ⟨mask, place, dm, fg, led, mv, pl⟩ := t
    have hpl : pl = true := hI.plain
    have hled : led = true := by have := hI.led; unfold ledOf at this; rw [hb] at this; exact this
    subst hpl; subst hled
    refine wpAny_bind (wpAny_pure ?_)
    rw [hs hb]
    have e1 : orderOf w a es ep = es := by unfold orderOf; rw [if_neg (by rw [hb]; decide)]
    have hsz : place.size = es.size := hI.size
    by_cases hi : i < es.size
    · have e2 : es[i]? = some es[i] := by simp [hi]
      have e3 : place[i]? = some (place[i]'(by omega)) := by simp [hsz, hi]
      simp only [e2, e3]
      refine wpAny_pure ?_
      have := h (place[i]'(by omega) + 1) fun _ _ => below_next hI.rise e3
      rw [e1, e2] at this
      exact this
    · have e2 : es[i]? = none := by simp; omega
      simp only [e2]
      refine wpAny_pure ?_
      have := h 0 fun _ hi' => absurd hi' hi
      rw [e1, e2] at this
      exact this

theorem next_item {i : Nat} {x : Int × Value} {Q : Option Value → Shared → Prop} (hit : SetIt w s.heap I a es ep t i) (hne : a ≠ I) (hI : TInv t (ledOf w) es.size 4) (hx : (orderOf w a es ep)[i]? = some x)
    (hQ : ∀ h', SetIt w h' I a es ep t (i + 1) → Heap.SameBut I s.heap h' → Q (some x.2) { s with heap := h' }) : wpAny (model prog w) A (pyNext (.ref I)) Q E s := by
  obtain ⟨⟨slot, ho, hs⟩, oa, hoa, hda⟩ := id hit
  have hT : s.TypeIs (.ref I) "set_iterator" := ⟨_, ho, rfl⟩
  have hf := hI.fits (by decide)
  unfold pyNext
  refine wpAny_bind (wpAny_attempt (wpAny_callSpecial?_slot (name := Str.ofString "__next__") hT slot_si_next (wpAny_call_entry slot_si_next hT entry_si_next ?_ (args_si_next _))))
  unfold Builtin.«set_iterator.__next__»
  refine wpAny_bind (m := slotArgs "__next__" 0 ⟨[.ref I], []⟩) (wpAny_pure ?_)
  refine wpAny_bind (wpAny_fieldsOf ho rfl ?_)
  dsimp only [rawInt]
  refine wpAny_bind (wpAny_setEntries_of hoa hda hf ?_)
  rw [if_neg (by simp)]
  rw [Int.toNat_natCast, Int.toNat_natCast, Int.toNat_natCast]
  refine wpAny_bind (setNext_of (i := i) hoa hda hI hs fun nx hnx => ?_)
  rw [hx]
  dsimp only [Option.map]
  refine wpAny_bind (wpAny_setField ho rfl (by simp) ?_)
  have e1 := Heap.get?_update_self (Obj.mapFields (·.setIfInBounds 0 (rawInt nx))) ho (Obj.isFreed_of_fields (Obj.data_mapFields rfl _))
  refine wpAny_bind (wpAny_setField e1 rfl (by simp) ?_)
  have e2 := Heap.get?_update_self (Obj.mapFields (·.setIfInBounds 1 (rawInt ((i : Int) + 1)))) e1 (Obj.isFreed_of_fields (Obj.data_mapFields rfl _))
  have sb : Heap.SameBut I s.heap _ := (Heap.SameBut.update s.heap I (Obj.mapFields (·.setIfInBounds 0 (rawInt nx)))).trans (Heap.SameBut.update _ I (Obj.mapFields (·.setIfInBounds 1 (rawInt ((i : Int) + 1)))))
  refine wpAny_pure ⟨x.2, rfl, wpAny_pure (hQ _ ⟨⟨nx, e2, fun hb => hnx hb ?_⟩, oa, (sb.2 a hne).trans hoa, hda⟩ sb)⟩
  have := (Array.getElem?_eq_some_iff.mp hx).1
  have hl := (order_perm w a es ep).length_eq
  rw [Array.length_toList, Array.length_toList] at hl
  omega

theorem next_end {i : Nat} {Q : Option Value → Shared → Prop} (hh : A.handled = none) (hit : SetIt w s.heap I a es ep t i) (hI : TInv t (ledOf w) es.size 4) (hx : (orderOf w a es ep)[i]? = none)
    (hQ : ∀ h', Heap.ExtBut I s.heap h' → Q none { s with heap := h' }) : wpAny (model prog w) A (pyNext (.ref I)) Q E s := by
  obtain ⟨⟨slot, ho, hs⟩, oa, hoa, hda⟩ := id hit
  have hT : s.TypeIs (.ref I) "set_iterator" := ⟨_, ho, rfl⟩
  have hf := hI.fits (by decide)
  unfold pyNext
  refine wpAny_bind (wpAny_attempt (wpAny_callSpecial?_slot (name := Str.ofString "__next__") hT slot_si_next (wpAny_call_entry slot_si_next hT entry_si_next ?_ (args_si_next _))))
  unfold Builtin.«set_iterator.__next__»
  refine wpAny_bind (m := slotArgs "__next__" 0 ⟨[.ref I], []⟩) (wpAny_pure ?_)
  refine wpAny_bind (wpAny_fieldsOf ho rfl ?_)
  dsimp only [rawInt]
  refine wpAny_bind (wpAny_setEntries_of hoa hda hf ?_)
  rw [if_neg (by simp)]
  rw [Int.toNat_natCast, Int.toNat_natCast, Int.toNat_natCast]
  refine wpAny_bind (setNext_of (i := i) hoa hda hI hs fun nx hnx => ?_)
  rw [hx]
  dsimp only [Option.map]
  refine wpAny_bind (wpAny_setField ho rfl (by simp) ?_)
  show wpAny _ _ (newExc (.type "StopIteration") [] >>= _) _ _ _
  refine wpAny_bind ?_
  simp only [newExc, newTuple]
  refine wpAny_bind (wpAny_newObj_type ?_ (by size_fits))
  refine wpAny_bind (m := firstArgMember _ _) (wpAny_of_eq (a := Value.none) (by first | rfl | (simp only [firstArgMember]; rfl)) ?_)
  refine wpAny_newObj_type ?_ (by size_fits)
  simp only [raiseNew]
  refine wpAny_bind (wpAny_handled ?_)
  first | rw [show A.in1.handled = none from hh] | rw [hh]
  refine wpAny_bind (wpAny_pure (wpAny_throw ?_))
  refine wpAny_bind (wpAny_isInstance (T := "StopIteration") (b := true) ⟨_, Heap.get?_push_size _ rfl, rfl⟩ isSubtype_stop ?_)
  exact wpAny_pure (hQ _ (((Heap.SameBut.update ..).extBut.push _).push _))

theorem iter_self {i : Nat} {Q : Value → Shared → Prop} (hit : SetIt w s.heap I a es ep t i) (h : Q (.ref I) s) : wpAny (model prog w) A (pyIter (.ref I)) Q E s := by
  obtain ⟨⟨slot, ho, hs⟩, _⟩ := hit
  have hT : s.TypeIs (.ref I) "set_iterator" := ⟨_, ho, rfl⟩
  refine wpAny_pyIter_slot hT slot_si_iter (wpAny_call_entry slot_si_iter hT entry_si_iter ?_ (args_si_iter _))
  show wpAny _ _ (ret (.ref I)) _ _ s
  exact wpAny_pure ⟨_, rfl, "set_iterator", _, hT, slot_si_next.lookup, h⟩

theorem SetIt.at {h h' : Heap} {i : Nat} (x : SetIt w h I a es ep t i) (u : ∀ b, b = I ∨ b = a → ∀ o, h.get? b = some o → h'.get? b = some o) : SetIt w h' I a es ep t i := by
  obtain ⟨⟨slot, ho, hs⟩, oa, hoa, hda⟩ := x
  exact ⟨⟨slot, u I (.inl rfl) _ ho, hs⟩, oa, u a (.inr rfl) _ hoa, hda⟩
theorem walks_set (hh : A.handled = none) (hne : a ≠ I) (hI : TInv t (ledOf w) es.size 4) : Walks prog w A I [I, a] [I] (orderOf w a es ep).size (fun i v => ((orderOf w a es ep).map (·.2))[i]? = some v) (fun i h => SetIt w h I a es ep t i) where
  sub := fun b hb => by simp at hb; simp [hb]
  frame := fun i h h' st hk => st.at fun b hb o e => hk b (by rcases hb with rfl | rfl <;> simp) o e
  item := fun i s Q E hi st hQ => by
    refine next_item st hne hI (x := (orderOf w a es ep)[i]) (by simp [hi]) fun h' st' sb => ?_
    exact hQ _ h' s.toks (by simp [hi]) st' fun b o hb e => sb.extBut b o (fun h => hb (by simp [h])) e
  done := fun s Q E st hQ => next_end hh st hI (by simp) fun h' he => hQ h' s.toks fun b o hb e => he b o (fun h => hb (by simp [h])) e
  self := fun i s Q E st hQ => iter_self st hQ

/-- a walk over a set begins -/
theorem iter_set {o : Obj} {Q : Value → Shared → Prop} (ho : s.heap.get? a = some o) (hx : o.ExactSet) (hd : o.data = .set es ep t) (hI : TInv t (ledOf w) es.size 4)
    (hQ : SetIt w (s.heap.push { cls := .type "set_iterator", data := .fields #[rawInt (0 : Nat), rawInt (0 : Nat), .ref a, rawInt es.size, rawInt ep] }) s.heap.objs.size a es ep t 0 → 
      Q (.ref s.heap.objs.size) { s with heap := s.heap.push { cls := .type "set_iterator", data := .fields #[rawInt (0 : Nat), rawInt (0 : Nat), .ref a, rawInt es.size, rawInt ep] } }) : wpAny (model prog w) A (pyIter (.ref a)) Q E s := by
  have hT : s.TypeIs (.ref a) "set" := ⟨o, ho, hx.1⟩
  have hf := hI.fits (by decide)
  refine wpAny_pyIter_slot hT F.slot_set_iter (wpAny_call_entry F.slot_set_iter hT entry_set_iter ?_ (F.args_set_iter_1 _))
  unfold Builtin.«frozenset.__iter__» Builtin.Frozenset.slot0
  refine wpAny_bind (wpAny_bind (m := slotArgs "__iter__" 0 ⟨[.ref a], []⟩) (wpAny_pure (wpAny_pure ?_)))
  unfold Builtin.Frozenset.sizeOf
  refine wpAny_bind (wpAny_bind (wpAny_setEntries_of ho hd hf (wpAny_pure ?_)))
  have drw : ∀ {Q : Bool → Shared → Prop}, Q false s → wpAny (model prog w) A.in1 (setDrawn a) Q E s := fun {Q} h => by
    unfold setDrawn
    obtain ⟨mask, place, dm, fg, led, mv, pl⟩ := t
    have hpl : pl = true := hI.plain
    subst hpl
    refine wpAny_bind (wpAny_setState_of ho hd hf (wpAny_bind (byText_of ?_)))
    refine wpAny_pure ?_
    have : ∀ b : Bool, (!b && false) = false := by decide
    exact (this _).symm ▸ h
  refine wpAny_bind (wpAny_mono (drw (Q := fun b s' => b = false ∧ s' = s) ⟨rfl, rfl⟩) (fun b s' hb => ?_) fun _ _ e => e)
  obtain ⟨rfl, rfl⟩ := hb
  rw [if_neg (by decide)]
  refine wpAny_bind (wpAny_pure (wpAny_bind (wpAny_setEpoch_of ho hd hf ?_)))
  unfold newFields
  refine wpAny_bind (wpAny_newObj_type (wpAny_pure ⟨_, rfl, "set_iterator", _, ⟨_, Heap.get?_push_size _ rfl, rfl⟩, slot_si_next.lookup, ?_⟩))
  refine hQ ⟨⟨0, Heap.get?_push_size _ rfl, fun _ => below_zero hI.rise⟩, o, Heap.get?_push_of_some _ ho, hd⟩
end
end Mine

namespace Mine
section
variable {prog : Program} {w : World} {A : Around} {E : Value → Shared → Prop} {s : Shared} {I a : Addr} {es : Array (Int × Value)} {ep : Nat} {t : SetTable}

theorem collect_set {o : Obj} {Q : List Value → Shared → Prop} (hh : A.handled = none) (ho : s.heap.get? a = some o) (hx : o.ExactSet) (hd : o.data = .set es ep t) (hI : TInv t (ledOf w) es.size 4)
    (hQ : ∀ h' tk, (∀ b o, s.heap.get? b = some o → h'.get? b = some o) → Q ((orderOf w a es ep).toList.map (·.2)) { s with heap := h', toks := tk }) : wpAny (model prog w) A (collect (.ref a)) Q E s := by
  have hlt : a < s.heap.objs.size := Heap.lt_size ho
  unfold collect
  refine wpAny_bind (wpAny_runValue (codeAny_builtin F.entry_proto_collect ?_))
  rw [Around.under_plainId F.plain_proto_collect _]
  show wpAny _ A.in1 (newList [] >>= fun l => again (.builtin "list.__iadd__" ⟨[l, .ref a], []⟩)) _ _ s
  refine wpAny_bind (wpAny_newObj_type (wpAny_pure ⟨plainId_quiet F.plain_list_iadd _, codeAny_builtin F.entry_list_iadd ?_⟩))
  rw [Around.under_plainId F.plain_list_iadd _]
  have ho1 : (s.heap.push { cls := .type "list", data := .seq ([] : List Value).toArray }).get? a = some o := Heap.get?_push_of_some _ ho
  have hL1 : (s.heap.push { cls := .type "list", data := .seq ([] : List Value).toArray }).get? s.heap.objs.size = some { cls := .type "list", data := .seq ([] : List Value).toArray } := Heap.get?_push_size _ rfl
  have hT : Shared.TypeIs { s with heap := s.heap.push { cls := .type "list", data := .seq ([] : List Value).toArray } } (.ref a) "set" := ⟨o, ho1, hx.1⟩
  have hsz : (s.heap.push { cls := .type "list", data := .seq ([] : List Value).toArray }).objs.size = s.heap.objs.size + 1 := Heap.size_push ..
  show wpAny _ A.in1 (Builtin.List.listExtendWith (.ref s.heap.objs.size) (.ref a) (.ref s.heap.objs.size)) _ _ _
  unfold Builtin.List.listExtendWith
  refine wpAny_bind (wpAny_typeOf hT ?_)
  have hne : s.heap.objs.size ≠ a := Nat.ne_of_gt hlt
  rw [if_neg (by simp [Builtin.List.listSameRef, hne])]
  refine wpAny_bind (iter_set ho1 hx hd hI fun it => ?_)
  have hneI : a ≠ (s.heap.push { cls := .type "list", data := .seq ([] : List Value).toArray }).objs.size := by rw [hsz]; exact Nat.ne_of_lt (Nat.lt_succ_of_lt hlt)
  have ho2 := Heap.get?_push_of_some { cls := .type "set_iterator", data := .fields #[rawInt (0 : Nat), rawInt (0 : Nat), .ref a, rawInt es.size, rawInt ep] } ho1
  have hL2 := Heap.get?_push_of_some { cls := .type "set_iterator", data := .fields #[rawInt (0 : Nat), rawInt (0 : Nat), .ref a, rawInt es.size, rawInt ep] } hL1
  refine wpAny_bind (wpAny_holding ?_)
  unfold Builtin.List.listLengthHint
  refine wpAny_bind (wpAny_specialOf (T := "set") ⟨o, ho2, hx.1⟩ F.slot_set_len.lookup ?_)
  generalize hid : ("set.__len__" : String) = id0
  dsimp only
  rw [show splitId id0 = some ("set", "__len__") from by subst hid; decide +kernel]
  dsimp only
  refine wpAny_bind (wpAny_isInstance (T := "set") (b := true) ⟨o, ho2, hx.1⟩ sub_set_self ?_)
  rw [if_neg (by decide)]
  subst hid
  rw [if_pos (by decide +kernel)]
  refine wpAny_bind (wpAny_typeOf (T := "set") ⟨o, ho2, hx.1⟩ ?_)
  dsimp only
  refine wpAny_pure ?_
  rw [if_pos (by decide +kernel)]
  refine wpAny_bind (wpAny_rule ?_)
  unfold Builtin.List.listTouch
  refine wpAny_bind (wpAny_bind (listUpdate_at hL2 rfl ?_))
  have hL3 := get?_update_seq (c := "list") (xs := #[]) (n := 0) hL2 (fun xs => xs.push Value.none)
  refine listUpdate_at hL3 rfl ?_
  have hL4 := get?_update_seq (c := "list") hL3 (fun xs => xs.pop)
  have sb4 := (Heap.SameBut.update ((s.heap.push { cls := .type "list", data := .seq ([] : List Value).toArray }).push { cls := .type "set_iterator", data := .fields #[rawInt (0 : Nat), rawInt (0 : Nat), .ref a, rawInt es.size, rawInt ep] }) s.heap.objs.size (Obj.mapSeq fun xs => xs.push Value.none)).trans (Heap.SameBut.update _ s.heap.objs.size (Obj.mapSeq fun xs => xs.pop))
  generalize ((((s.heap.push { cls := .type "list", data := .seq ([] : List Value).toArray }).push { cls := .type "set_iterator", data := .fields #[rawInt (0 : Nat), rawInt (0 : Nat), .ref a, rawInt es.size, rawInt ep] }).update s.heap.objs.size (Obj.mapSeq fun xs => xs.push Value.none)).update s.heap.objs.size (Obj.mapSeq fun xs => xs.pop)) = h4 at hL4 sb4 ⊢
  obtain ⟨c4, hL4'⟩ : ∃ c, h4.get? s.heap.objs.size = some { cls := .type "list", dict := none, data := .seq #[] c, slots := #[] } := ⟨_, hL4⟩
  have neI : (s.heap.push { cls := .type "list", data := .seq ([] : List Value).toArray }).objs.size ≠ s.heap.objs.size := by rw [hsz]; exact Nat.ne_of_gt (Nat.lt_succ_self _)
  have it4 : SetIt w h4 (s.heap.push { cls := .type "list", data := .seq ([] : List Value).toArray }).objs.size a es ep t 0 := it.at fun b hb ob e => (sb4.2 b (by
    rcases hb with rfl | rfl
    · exact neI
    · exact Ne.symm hne)).trans e
  have hsize : (orderOf w a es ep).size = es.size := by
    have := (order_perm w a es ep).length_eq
    rwa [Array.length_toList, Array.length_toList] at this
  have h7 := hI.le7 (by decide)
  refine wpAny_pure ⟨plainId_quiet F.plain_extend_loop _, codeAny_extend_loopS (walks_set (A := A.in1) hh hneI hI).toS (by rw [hsize, sizeLine_eq]; omega) s.heap.objs.size ?_ _ (orderOf w a es ep).size 0 { s with heap := h4 } #[] c4 (Nat.sub_zero _) (Nat.zero_le _) it4 hL4' (ItemsOf.nil _) fun s' acc' c' hm hS' hacc => ?_⟩
  · intro m
    rcases List.mem_cons.mp m with e | m
    · exact neI e.symm
    · exact hne (List.mem_singleton.mp m)
  · show wpAny _ A (load s.heap.objs.size >>= _) _ _ s'
    refine wpAny_bind (wpAny_load hS' (wpAny_pure ?_))
    have eq := hm.eq_with
    rw [eq]
    have ev : acc'.toList = (orderOf w a es ep).toList.map (·.2) := by
      have e1 : acc' = (orderOf w a es ep).map (·.2) := by
        refine Array.ext (by rw [hacc.1, Array.size_map]) fun i h1 h2 => ?_
        have := hacc.2 i acc'[i] (by simp [h1])
        obtain ⟨_, q⟩ := Array.getElem?_eq_some_iff.mp this
        exact q.symm
      rw [e1, Array.toList_map]
    rw [ev]
    refine hQ s'.heap s'.toks fun b ob e => ?_
    have hb : b < s.heap.objs.size := Heap.lt_size e
    refine hm.heap b ob (fun m => ?_) ((sb4.2 b (Nat.ne_of_lt hb)).trans (Heap.get?_push_of_some _ (Heap.get?_push_of_some _ e)))
    rcases List.mem_cons.mp m with e1 | m
    · exact absurd e1 (Nat.ne_of_lt hb)
    · have e2 := (List.mem_singleton.mp m).trans hsz
      exact absurd e2 (Nat.ne_of_lt (Nat.lt_succ_of_lt hb))

theorem els_ints {l : List (Int × Value)} (h : IntEls l) : IntsAre (l.map (·.2)) (l.map keyOf) := by
  induction l with
  | nil => exact .nil
  | cons e r ih =>
    obtain ⟨k, u, rfl⟩ := h e (.head _)
    exact .cons k u (ih fun x hx => h x (.tail _ hx))

/-- sorted(set of ints) -/
theorem sorted_set {l : List Int} {Q : Value → Shared → Prop} (hh : A.handled = none) (hS : SetT w s.heap a l)
    (h : ∀ h' tk out b ns', (∀ b o, s.heap.get? b = some o → h'.get? b = some o) → (∃ n, h'.get? b = some (listOf out n)) → s.heap.get? b = none → IntsAre out.toList ns' → ns'.Perm l → ns'.Pairwise (· ≤ ·) → Q (.ref b) { s with heap := h', toks := tk }) :
    wpAny (model prog w) A (call (.builtin "sorted") [.ref a]) Q E s := by
  obtain ⟨o, es, ep, t, ho, hx, hd, hi, hp, hI⟩ := hS
  refine Calls.call_function_entry kind_sorted plain_sorted entry_sorted (args_sorted1 _) ?_
  unfold Builtin.«sorted»
  refine wpAny_bind (m := checkCount "sorted" 1 1 _) (wpAny_pure ?_)
  refine wpAny_bind (collect_set (A := A.in1) hh ho hx hd hI fun h1 tk1 k1 => ?_)
  have hi2 : IntEls (orderOf w a es ep).toList := hi.perm (order_perm w a es ep)
  have hints := els_ints hi2
  have hp2 : ((orderOf w a es ep).toList.map keyOf).Perm l := ((order_perm w a es ep).map keyOf).trans hp
  have hlen : ((orderOf w a es ep).toList.map (·.2)).length < 64 := by
    rw [List.length_map, (order_perm w a es ep).length_eq, Array.length_toList]
    have := hI.le7 (by decide)
    omega
  refine wpAny_bind (wpAny_newList ?_)
  have hoL : (h1.push (seqObj "list" ((orderOf w a es ep).toList.map (·.2)).toArray 0)).get? h1.objs.size = some (seqObj "list" ((orderOf w a es ep).toList.map (·.2)).toArray 0) := Heap.get?_push_size _ rfl
  have hnew : s.heap.get? h1.objs.size = none := by
    cases q : s.heap.get? h1.objs.size with
    | none => rfl
    | some ob => exact absurd (Heap.lt_size (k1 _ _ q)) (Nat.lt_irrefl _)
  refine wpAny_bind (wpAny_holding (wpAny_call_entry slot_list_sort ⟨_, hoL, rfl⟩ entry_list_sort (list_sort_tree hoL hints hlen fun out ns' a1 a2 a3 => ⟨_, rfl, ?_⟩) (args_list_sort _)))
  refine wpAny_pure ⟨_, rfl, ?_⟩
  have e1 := get?_update_seq (c := "list") hoL (fun _ => #[])
  have e3 := Heap.get?_push_of_some (seqObj "list" #[] 0) (Heap.get?_push_of_some (seqObj "tuple" ((orderOf w a es ep).toList.map (·.2)).toArray 0) e1)
  have e4 := get?_update_seq (c := "list") e3 (fun _ => out)
  refine h _ tk1 out h1.objs.size ns' (fun b ob e => ?_) ⟨_, e4⟩ hnew a1 (a2.trans hp2) a3
  have q := k1 b ob e
  have hb : h1.objs.size ≠ b := Nat.ne_of_gt (Heap.lt_size q)
  unfold sortedHeap
  rw [Heap.get?_update_other _ _ hb]
  refine Heap.get?_push_of_some _ (Heap.get?_push_of_some _ ?_)
  rw [Heap.get?_update_other _ _ hb]
  exact Heap.get?_push_of_some _ q
end

/-- what sets mean: their members -/
noncomputable def setOb (w : World) (ds : List Dt) (g : Heap) (v : Value) : Prop := ∃ a ns, v = .ref a ∧ SetT w g a ns ∧ ds = [.list (ns.map .int)]
theorem setOb_up {w : World} {ds : List Dt} {g g' : Heap} {v : Value} (u : Up g g') (h : setOb w ds g v) : setOb w ds g' v :=
  let ⟨a, ns, e, S, d⟩ := h; ⟨a, ns, e, S.up fun o q => u _ _ q, d⟩
theorem SetT.perm {w : World} {h : Heap} {a : Addr} {l l' : List Int} (x : SetT w h a l) (p : l.Perm l') : SetT w h a l' :=
  let ⟨o, es, ep, t, e, h1, h2, h3, h4, h5⟩ := x; ⟨o, es, ep, t, e, h1, h2, h3, h4.trans p, h5⟩
theorem ints_map : ∀ (ns : List Int), intsOf (ns.map .int) = some ns
  | [] => rfl
  | n :: r => by rw [List.map_cons, intsOf, ints_map r]; rfl
end Mine

namespace Mine
theorem fold_max : ∀ (r : List Int) (x : Int), (r.foldl (fun b a => if a > b then a else b) x = x ∨ r.foldl (fun b a => if a > b then a else b) x ∈ r) ∧ x ≤ r.foldl (fun b a => if a > b then a else b) x ∧ ∀ a ∈ r, a ≤ r.foldl (fun b a => if a > b then a else b) x
  | [], x => ⟨.inl rfl, Int.le_refl _, fun _ h => nomatch h⟩
  | y :: r, x => by
    rw [List.foldl_cons]
    obtain ⟨h1, h2, h3⟩ := fold_max r (if y > x then y else x)
    refine ⟨?_, ?_, fun a ha => ?_⟩
    · rcases h1 with e | e
      · by_cases h : y > x
        · rw [if_pos h] at e ⊢; exact .inr (by rw [e]; exact .head _)
        · rw [if_neg h] at e ⊢; exact .inl e
      · exact .inr (.tail _ e)
    · by_cases h : y > x
      · rw [if_pos h] at h2 ⊢; omega
      · rw [if_neg h] at h2 ⊢; omega
    · rcases List.mem_cons.mp ha with rfl | ha
      · by_cases h : a > x
        · rw [if_pos h] at h2 ⊢; exact h2
        · rw [if_neg h] at h2 ⊢; omega
      · exact h3 a ha
theorem maxI_eq {ns : List Int} {M m : Int} (h : maxI ns = some m) (h1 : M ∈ ns) (h2 : ∀ a ∈ ns, a ≤ M) : M = m := by
  cases ns with
  | nil => cases h1
  | cons x r =>
    cases h
    obtain ⟨a, b, c⟩ := fold_max r x
    have d := h2 _ (show r.foldl (fun b a => if a > b then a else b) x ∈ x :: r by
      rcases a with a | a
      · rw [a]; exact .head _
      · exact .tail _ a)
    rcases List.mem_cons.mp h1 with e | e
    · omega
    · have := c M e; omega

section
variable {W : Wd} {own : List Addr} {A : Around} {E : Value → Shared → Prop} {s : Shared} {Q : Value → Shared → Prop} {d : Dt}


theorem max_sound {ds : List Dt} {v : Value} {ns : List Int} {m : Int} (hh : A.handled = none) (h : intsOf ds = some ns) (hm : maxI ns = some m) (rv : Rep W (hideAll s.heap own) v (.list ds)) (o : Ok W own s.heap) (p : Post W own s Q (.int m)) :
    wpAny W.M A (call (.builtin "max") [v]) Q E s := by
  obtain ⟨a, vs, n, rfl, e, r⟩ := rep_list rv
  have hi := reps_ints r h
  obtain ⟨xs, hx⟩ := hi.allInts.items
  have hl : s.heap.IsList a (intItems xs) := hx ▸ ⟨_, vis_of _ _ e, rfl, n, rfl⟩
  have hns : ns = xs.toList.map (·.1) := by rw [← hi.numsOf, ← nums_intItems, ← hx]
  have hne : 0 < ns.length := by cases ns with | nil => cases hm | cons _ _ => simp
  have hsz : 0 < xs.size := by rw [hns, List.length_map, Array.length_toList] at hne; exact hne
  refine max_intList hh hl hsz fun v h' tk hv hk => ?_
  obtain ⟨t, rfl⟩ := intItems_at hv
  obtain ⟨h1, h2⟩ := argBest_gt (numAt xs) (xs.size - 1)
  have key : numAt xs (argBest (fun i j => decide (numAt xs i > numAt xs j)) (xs.size - 1)) = m := by
    refine maxI_eq hm ?_ fun b hb => ?_
    · rw [hns, numAt_eq]; exact getD_mem (by rw [List.length_map, Array.length_toList]; omega)
    · rw [hns] at hb
      obtain ⟨j, hj, rfl⟩ := mem_getD hb
      have := h2 j (by rw [List.length_map, Array.length_toList] at hj; omega)
      rw [numAt_eq] at this
      exact this
  rw [key]
  exact p h' tk _ (Up.le hk) (o.up hk) (.int _ _)


/-- what sets owe -/
structure SetOk (W : Wd) : Prop where
  mkset : ∀ {A : Around} {E : Value → Shared → Prop} {s : Shared} {Q : Value → Shared → Prop} {own : List Addr} {ds : List Dt} {v : Value} {ns : List Int}, W.sets = true → AOk W 2 A → intsOf ds = some ns → ds.length < 8 →
    Rep W (hideAll s.heap own) v (.list ds) → Ok W own s.heap → Post W own s Q (.opq 2 [.list ((dedupI ns).map .int)]) → wpAny W.M A (call (.type "set") [v]) Q E s
  sortset : ∀ {A : Around} {E : Value → Shared → Prop} {s : Shared} {Q : Value → Shared → Prop} {own : List Addr} {ds : List Dt} {v : Value} {ns : List Int}, W.sets = true → AOk W 2 A → intsOf ds = some ns →
    Rep W (hideAll s.heap own) v (.opq 2 [.list ds]) → Ok W own s.heap → Post W own s Q (.list ((isort ns).map .int)) → wpAny W.M A (call (.builtin "sorted") [v]) Q E s

theorem one_inv {ds : List Dt} {vs : List Value} {g : Heap} {x : Dt → Option Dt} (e : one ds x = some d) (rs : Reps W g vs ds) : ∃ a v, ds = [a] ∧ vs = [v] ∧ Rep W g v a ∧ x a = some d := by
  cases ds with
  | nil => exact noneE e
  | cons a r => cases r with
    | nil =>
      obtain ⟨v, rfl, rv⟩ := rs.inv1
      exact ⟨a, v, rfl, rfl, rv, e⟩
    | cons => exact noneE e
theorem two_inv {ds : List Dt} {vs : List Value} {g : Heap} {x : Dt → Dt → Option Dt} (e : two ds x = some d) (rs : Reps W g vs ds) : ∃ a b v u, vs = [v, u] ∧ Rep W g v a ∧ Rep W g u b ∧ x a b = some d := by
  cases ds with
  | nil => exact noneE e
  | cons a r => cases r with
    | nil => exact noneE e
    | cons b r => cases r with
      | nil =>
        obtain ⟨v, u, rfl, rv, ru⟩ := rs.inv2
        exact ⟨a, b, v, u, rfl, rv, ru, e⟩
      | cons => exact noneE e
theorem ints2_inv {a b : Dt} {x : Int → Int → Option Dt} (e : ints2 a b x = some d) : ∃ m n, a = .int m ∧ b = .int n ∧ x m n = some d := by
  cases a with
  | int m => cases b with
    | int n => exact ⟨m, n, rfl, rfl, e⟩
    | _ => exact noneE e
  | _ => exact noneE e

theorem blt_more (S : SetOk W) (i3 : ∀ g v, W.OB 3 [] g v ↔ v = .type "int") {f : Str} {ds : List Dt} {vs : List Value} (hs : W.sets = true) (h : callD f ds = some d) (rs : Reps W (hideAll s.heap own) vs ds) (K : AOk W 2 A) (o : Ok W own s.heap) (p : Post W own s Q d) :
    wpAny W.M A (call (bval f) vs) Q E s := by
  unfold callD at h
  have h1 := ite_or h
  clear h
  rcases h1 with ⟨e1, h⟩ | ⟨e1, h⟩
  · subst e1
    obtain ⟨a, v, rfl, rfl, rv, e⟩ := one_inv h rs
    exact len_sound e rv o p
  have h2 := ite_or h
  clear h
  rcases h2 with ⟨e2, h⟩ | ⟨e2, h⟩
  · subst e2
    obtain ⟨a, v, rfl, rfl, rv, e⟩ := one_inv h rs
    cases a with
    | list ds =>
      obtain ⟨ns, hn, rfl⟩ := Option.map_eq_some_iff.mp e
      exact sum_sound K.hh hn rv o p
    | _ => exact noneE e
  have h3 := ite_or h
  clear h
  rcases h3 with ⟨e3, h⟩ | ⟨e3, h⟩
  · subst e3
    have tw : two ds (fun a b => ints2 a b fun a b => some (.int (if b < a then b else a))) = some d → wpAny W.M A (call (bval "min") vs) Q E s := fun h => by
      obtain ⟨a, b, v, u, rfl, rv, ru, e⟩ := two_inv h rs
      obtain ⟨m, n, rfl, rfl, e⟩ := ints2_inv e
      cases e
      obtain ⟨t, rfl⟩ := rep_int rv
      obtain ⟨t', rfl⟩ := rep_int ru
      refine min_two_ints K.hh fun h' tk hk => p h' tk _ (Up.le hk) (o.up hk) ?_
      split
      · exact .int _ _
      · exact .int _ _
    cases ds with
    | nil => exact tw h
    | cons a r => cases r with
      | nil =>
        obtain ⟨v, rfl, rv⟩ := rs.inv1
        replace h : minD a = some d := h
        cases a with
        | list es => cases es with
          | nil => exact noneE h
          | cons x es => exact min_sound K o h rv p
        | _ => exact noneE h
      | cons => exact tw h
  have h4 := ite_or h
  clear h
  rcases h4 with ⟨e4, h⟩ | ⟨e4, h⟩
  · subst e4
    have tw : two ds (fun a b => ints2 a b fun a b => some (.int (if b > a then b else a))) = some d → wpAny W.M A (call (bval "max") vs) Q E s := fun h => by
      obtain ⟨a, b, v, u, rfl, rv, ru, e⟩ := two_inv h rs
      obtain ⟨m, n, rfl, rfl, e⟩ := ints2_inv e
      cases e
      obtain ⟨t, rfl⟩ := rep_int rv
      obtain ⟨t', rfl⟩ := rep_int ru
      refine max_two_ints K.hh fun h' tk hk => p h' tk _ (Up.le hk) (o.up hk) ?_
      split
      · exact .int _ _
      · exact .int _ _
    cases ds with
    | nil => exact tw h
    | cons a r => cases r with
      | nil =>
        obtain ⟨v, rfl, rv⟩ := rs.inv1
        replace h : maxD a = some d := h
        cases a with
        | list es =>
          obtain ⟨ns, hn, h⟩ := Option.bind_eq_some_iff.mp h
          obtain ⟨m, hm, rfl⟩ := Option.map_eq_some_iff.mp h
          exact max_sound K.hh hn hm rv o p
        | _ => exact noneE h
      | cons => exact tw h
  have h5 := ite_or h
  clear h
  rcases h5 with ⟨e5, h⟩ | ⟨e5, h⟩
  · subst e5
    obtain ⟨a, v, rfl, rfl, rv, e⟩ := one_inv h rs
    cases a with
    | list ds =>
      replace e : (if ds.length < 64 then (intsOf ds).map fun ns => Dt.list ((isort ns).map .int) else none) = some d := e
      by_cases hl : ds.length < 64
      · rw [if_pos hl] at e
        obtain ⟨ns, hn, rfl⟩ := Option.map_eq_some_iff.mp e
        exact sorted_sound hn hl rv o p
      · rw [if_neg hl] at e; cases e
    | opq n es =>
      by_cases h2 : n = 2
      · subst h2
        obtain ⟨b, hb, e⟩ : ∃ b, es = [b] ∧ (match b with | Dt.list ds => (intsOf ds).map fun ns => Dt.list ((isort ns).map .int) | _ => none) = some d := by
          replace e : sortO 2 es = some d := e
          unfold sortO at e
          rw [if_pos rfl] at e
          cases es with
          | nil => exact noneE e
          | cons b r => cases r with
            | nil => exact ⟨b, rfl, e⟩
            | cons => exact noneE e
        subst hb
        cases b with
        | list ds =>
          obtain ⟨ns, hn, rfl⟩ := Option.map_eq_some_iff.mp e
          exact S.sortset hs K hn rv o p
        | _ => exact noneE e
      · exact noneE (sortD_opq h2 e)
    | _ => exact noneE e
  have h6 := ite_or h
  clear h
  rcases h6 with ⟨e6, h⟩ | ⟨e6, h⟩
  · subst e6
    obtain ⟨a, v, rfl, rfl, rv, e⟩ := one_inv h rs
    cases a with
    | list ds =>
      replace e : (if ds.length < 8 then (intsOf ds).map fun ns => Dt.opq 2 [.list ((dedupI ns).map .int)] else none) = some d := e
      by_cases hl : ds.length < 8
      · rw [if_pos hl] at e
        obtain ⟨ns, hn, rfl⟩ := Option.map_eq_some_iff.mp e
        exact S.mkset hs K hn hl rv o p
      · rw [if_neg hl] at e; cases e
    | _ => exact noneE e
  have h7 := ite_or h
  clear h
  rcases h7 with ⟨e7, h⟩ | ⟨e7, h⟩
  · subst e7
    obtain ⟨a, v, rfl, rfl, rv, e⟩ := one_inv h rs
    cases a with
    | int a =>
      cases e
      obtain ⟨t, rfl⟩ := rep_int rv
      exact PyProof.Rows.call_abs_int fun u tk => p.here o (.int _ _)
    | _ => exact noneE e
  have h8 := ite_or h
  clear h
  rcases h8 with ⟨e8, h⟩ | ⟨e8, h⟩
  · subst e8
    obtain ⟨a, b, v, u, rfl, rv, ru, e⟩ := two_inv h rs
    cases a with
    | int a =>
      cases b with
      | opq n es =>
        replace e : (if n = 3 ∧ es.isEmpty = true then some (Dt.bool true) else none) = some d := e
        by_cases hc : n = 3 ∧ es.isEmpty = true
        · rw [if_pos hc] at e
          cases e
          obtain ⟨rfl, he⟩ := hc
          cases es with
          | cons => cases he
          | nil =>
            obtain ⟨t, rfl⟩ := rep_int rv
            have e := (i3 _ _).mp (opq_of ru)
            subst e
            exact PySem.IsiPair.int_int (p.here o (tk := s.toks) (.bool _))
        · rw [if_neg hc] at e; cases e
      | _ => exact noneE e
    | _ => exact noneE e
  have h9 := ite_or h
  clear h
  rcases h9 with ⟨e9, h⟩ | ⟨e9, h⟩
  · subst e9
    obtain ⟨a, v, rfl, rfl, rv, e⟩ := one_inv h rs
    cases a with
    | list ds =>
      obtain ⟨bs, hb, rfl⟩ := Option.map_eq_some_iff.mp e
      exact all_sound K.hh hb rv o p
    | _ => exact noneE e
  cases h

theorem blt_of (S : SetOk W) (i3 : ∀ g v, W.OB 3 [] g v ↔ v = .type "int") : BltOk W where
  int3 := i3
  more := fun hs h rs K o p => blt_more S i3 hs h rs K o p
end
end Mine

open Builtin Builtin.Str Builtin.BaseException
namespace Mine
section
variable {prog : Program} {w : World} {A : Around} {E : Value → Shared → Prop} {h : Heap} {g : Array GenState} {d : Drawn} {t : Nat} {os : OsState} {a t0 : Addr} {o : Obj} {vs : Array Value}
  {nm q : Str} {C N : Addr} {bs bm bmB : List Value} {hdct : Bool} {sn : List Str} {sub : List Value} {ab : Bool} {col : Option Bool} {dd : Option Addr} {k0 k1 k2 k3 k5 : Option Value} {B newId : String} {mN : Str → Option Value}

theorem bexcArgs_own {M : Model} {items : List Value} {Q : Value × List Value → Shared → Prop} (hx : h.get? a = some o) (hd : o.data = .fields vs) (h0 : vs[0]? = some (.ref t0)) (ht : h.TupAt t0 items) (hq : Q (.ref t0, items) ⟨h, g, d, t, os⟩) :
    wpAny M A (bexcArgs (.ref a)) Q E ⟨h, g, d, t, os⟩ := by
  obtain ⟨ot, k, hto, _, htd⟩ := ht
  unfold bexcArgs
  refine wpAny_bind (wpAny_field (s := ⟨h, g, d, t, os⟩) hx hd h0 (wpAny_bind (wpAny_seqItems (s := ⟨h, g, d, t, os⟩) hto htd ?_)))
  have : items.toArray.toList = items := by simp
  show wpAny M A (pure (Value.ref t0, items.toArray.toList)) Q E _
  rw [this]; exact wpAny_pure hq
theorem bexcStr_own {m : Str} {tk : Tok} {Q : Fin → Shared → Prop} (hx : h.get? a = some o) (hd : o.data = .fields vs) (h0 : vs[0]? = some (.ref t0)) (ht : h.TupAt t0 [.str m tk]) (hq : Q (.done (.ret (.str m tk))) ⟨h, g, d, t, os⟩) :
    wpAny (model prog w) A (Builtin.«BaseException.__str__» ⟨[.ref a], []⟩) Q E ⟨h, g, d, t, os⟩ := by
  unfold Builtin.«BaseException.__str__»
  repeat (first | with_reducible refine bexcArgs_own hx hd h0 ht ?_ | wp_step)
  exact hq
theorem check_str_own {M : Model} {Q : Unit → Shared → Prop} (hcB : bm.contains (.type "BaseException") = true) (hC : h.get? C = some (excClassObj nm q C N bs bm hdct sn sub ab col dd k0 k1 k2 k3 k5 newId))
    (hx : h.get? a = some o) (hc : o.cls = .ref C) (hq : Q () ⟨h, g, d, t, os⟩) : wpAny M A (checkBuiltinCall "BaseException.__str__" ⟨[.ref a], []⟩) Q E ⟨h, g, d, t, os⟩ := by
  have hk : builtinKind "BaseException.__str__" = some .slot := by decide +kernel
  have hsplit : splitId "BaseException.__str__" = some ("BaseException", "__str__") := by decide +kernel
  have hcB' : (Value.ref C :: bm).contains (.type "BaseException") = true := by rw [List.contains_cons, hcB]; rfl
  have ha := F.args_bexc_str (.ref a)
  simp only [checkBuiltinCall, hk, hsplit]
  refine wpAny_bind ?_
  unfold isInstance
  repeat (first | (with_reducible refine wpAny_loadPart_at hx ?_; rw [hc]) | (with_reducible refine wpAny_isSubtype_exc hC ?_; rw [hcB']) | wp_step)
  exact hq
theorem special_str_own {M : Model} {Q : Option Value → Shared → Prop} (hC : h.get? C = some (excClassObj nm q C N bs bm hdct sn sub ab col dd k0 k1 k2 k3 k5 newId)) (hN : h.Ns N mN) (hmN : mN "__str__" = none)
    (hbm : mroOf (.type B) = pure bm) (FX : ExcStrFacts B nb) (hx : h.get? a = some o) (hc : o.cls = .ref C) (hq : Q (some (.builtin "BaseException.__str__")) ⟨h, g, d, t, os⟩) :
    wpAny M A (specialOf (.ref a) "__str__") Q E ⟨h, g, d, t, os⟩ := by
  unfold specialOf
  repeat (first | (with_reducible refine wpAny_loadPart_at hx ?_; rw [hc]) | (with_reducible refine wpAny_typeLookup_exc hC hN hbm FX.str.lookup ?_; rw [hmN]) | wp_step)
  exact hq
theorem strOf_own (hu : A.units < cLine) {m : Str} {tk : Tok} {Q : Value → Shared → Prop} (hC : h.get? C = some (excClassObj nm q C N bs bm hdct sn sub ab col dd k0 k1 k2 k3 k5 newId)) (hN : h.Ns N mN) (hmN : mN "__str__" = none)
    (hbm : mroOf (.type B) = pure bm) (FX : ExcStrFacts B nb) (hcB : bm.contains (.type "BaseException") = true) (hx : h.get? a = some o) (hc : o.cls = .ref C) (hd : o.data = .fields vs) (h0 : vs[0]? = some (.ref t0)) (ht : h.TupAt t0 [.str m tk])
    (hq : Q (.str m tk) ⟨h, g, d, t, os⟩) : wpAny (model prog w) A (Builtin.Str.strOf (.ref a)) Q E ⟨h, g, d, t, os⟩ := by
  unfold Builtin.Str.strOf
  have sp : wpAny (model prog w) A (callSpecial? (.ref a) (Str.ofString "__str__")) (fun r s => ∃ v, r = some v ∧ v = .str m tk ∧ Q (.str m tk) s) E ⟨h, g, d, t, os⟩ := by
    unfold callSpecial?
    refine wpAny_bind (special_str_own hC hN hmN hbm FX hx hc ?_)
    simp only [FX.str.bind]
    refine wpAny_holding (wpAny_bind (wpAny_pure (wpAny_bind ?_)))
    refine wpAny_call (codeAny_call_builtin FX.str.plain F.entry_bexc_str (check_str_own hcB hC hx hc (bexcStr_own hx hd h0 ht ?_)))
    exact wpAny_pure ⟨_, rfl, rfl, hq⟩
  repeat (first | with_reducible refine wpAny_cRoomFor hu ?_ | (with_reducible refine wpAny_bind (wpAny_mono sp (fun r s' hs => ?_) fun _ _ e => e); obtain ⟨v, rfl, rfl, hq'⟩ := hs) | wp_step)
  exact hq'
theorem str_own (hu : A.units + 2 < cLine) {m : Str} {tk : Tok} {Q : Value → Shared → Prop} (hC : h.get? C = some (excClassObj nm q C N bs bm hdct sn sub ab col dd k0 k1 k2 k3 k5 newId)) (hN : h.Ns N mN) (hmN : mN "__str__" = none)
    (hbm : mroOf (.type B) = pure bm) (FX : ExcStrFacts B nb) (hcB : bm.contains (.type "BaseException") = true) (hx : h.get? a = some o) (hc : o.cls = .ref C) (hd : o.data = .fields vs) (h0 : vs[0]? = some (.ref t0)) (ht : h.TupAt t0 [.str m tk])
    (hq : Q (.str m tk) ⟨h, g, d, t, os⟩) : wpAny (model prog w) A (call (.type "str") [.ref a]) Q E ⟨h, g, d, t, os⟩ :=
  callType_new F.called_str (by decide) (F.typeCall_str_1 _) (F.newCall_str_1 _) (fun obj => F.args_object_init_2 obj _) F.entry_str_new
    (meets_str_new (S := fun A' R s' => A'.units + 1 < cLine ∧ s' = ⟨h, g, d, t, os⟩ ∧ R (.ok (.ret (.str m tk))) s')
      fun _ _ A' _ s' hq => by obtain ⟨h1, rfl, h3⟩ := hq; exact strOf_own (A := A'.in1) h1 hC hN hmN hbm FX hcB hx hc hd h0 ht h3)
    ⟨(show A.units + 1 + 1 < cLine from hu), rfl, typeIs_str _ _ _, hq⟩
end
end Mine

namespace Mine

/-- the built-in classes over the text's own exception -/
noncomputable abbrev bmVE : List Value := [.type "ValueError", .type "Exception", .type "BaseException", .type "object"]
/-- the text's own exception class -/
structure XCls (W : Wd) (x : Str) (C : Addr) : Prop where
  mg : W.mg x = some (.ref C)
  obj : ∃ N nm q bs hdct sn sub ab col dd k0 k1 k2 k3 k5 mN, W.B.get? C = some (excClassObj nm q C N bs bmVE hdct sn sub ab col dd k0 k1 k2 k3 k5 "ValueError.__new__") ∧ W.B.Ns N mN ∧ (∀ n ∈ quietNames, mN n = none) ∧ mN "__str__" = none

/-- frames whose names lie in tables -/
noncomputable def FrOk (W : Wd) (h : Heap) (l : List Env) : Prop := ∀ env ∈ l, env.scope.kind = .function ∧ ∃ L m, env.frame = some L ∧ L ≠ W.P ∧ h.Ns L m
theorem FrOk.funs {W : Wd} {h : Heap} {fs : List Addr} : ∀ {l : List Env}, FrOk W h l → (∀ env ∈ l, ∀ L, env.frame = some L → L ∈ fs) → h.FunFrames (hideAll h fs) l
  | [], _, _ => trivial
  | env :: r, x, y => by
    obtain ⟨h1, L, m, h2, _, o, es, ep, h3, h4, _⟩ := x env List.mem_cons_self
    exact ⟨by rw [h1]; decide, ⟨L, o, h2, hideAll_none _ (y env List.mem_cons_self L h2), h3, fun vs e => by rw [h4] at e; cases e⟩, FrOk.funs (fun e he => x e (List.mem_cons_of_mem _ he)) fun e he => y e (List.mem_cons_of_mem _ he)⟩
theorem FrOk.le {W : Wd} {h h' : Heap} {l : List Env} (x : FrOk W h l) (u : Le W.P h h') : FrOk W h' l := fun env he =>
  let ⟨a, L, m, b, c, d⟩ := x env he; ⟨a, L, m, b, c, Ns.le d u c⟩
theorem stays_hide {h : Heap} {fs : List Addr} : (hideAll h fs).StaysIn h := fun b o e => vis_of _ _ e

section
variable {W : Wd} {K n₀ : Nat} {O : Own} {own₀ own : List Addr} {Pr : Addr → Obj → Prop} {Vs : Heap} {ad₀ ad : Nat → Addr} {env : Env} {A : Around} {E : Value → Shared → Prop} {s : Shared}
theorem exB_front {f : Stmt → St → Option Fl} (H : SS W K n₀ f) {b : List Stmt} {Q : Flow → Shared → Prop} {st' : St} : ∀ {a : List Stmt} {st : St} {s : Shared} {own : List Addr} {ad : Nat → Addr}, exB f a st = some (.nxt st') → AOk W (K + 4) A → Run W own₀ Pr Vs n₀ ad₀ env ad own s.heap st →
    (∀ h' tk own' ad', Run W own₀ Pr Vs n₀ ad₀ env ad' own' h' st' → wpAny W.M A (execs b env) Q E { s with heap := h', toks := tk }) → wpAny W.M A (execs (a ++ b) env) Q E s
  | [], st, s, own, ad, h, k, R, q => by cases h; exact q s.heap s.toks own ad R
  | stm :: r, st, s, own, ad, h, k, R, q => by
    rw [exB] at h
    obtain ⟨fl1, h1, h2⟩ := Option.bind_eq_some_iff.mp h
    cases fl1 with
    | nxt st1 =>
      exact wpAny_execs_cons (H own₀ Pr Vs ad₀ ad own env st stm (.nxt st1) A E s _ h1 k R fun h' tk own' ad' R' => exB_front H (s := { s with heap := h', toks := tk }) h2 k R' q)
    | ret d σ => cases h2

/-- what a refused call leaves behind: the exception, its text, all else as it stood, but for the frames' records -/
structure Refused (W : Wd) (own : List Addr) (h₀ : Heap) (outer : List Env) (C : Addr) (msg : Str) (h' : Heap) (e : Value) : Prop where
  out : ∃ h₂ fs t ea tk, e = .ref ea ∧ Le W.P h₀ h₂ ∧ Ok W own h₂ ∧ (∀ env ∈ outer, ∀ L, env.frame = some L → L ∈ fs) ∧ (∀ a ∈ fs, (∃ env ∈ outer, env.frame = some a) ∨ h₀.get? a = none) ∧ (∀ a ∈ fs, a ≠ W.P ∧ ∃ m, h₂.Ns a m) ∧ Heap.FlyingW (hideAll h₂ fs) outer ea (.ref C) (.ref t) h' ∧
    h'.TupAt t [.str msg tk] ∧ h₂.UpToSlots h'

theorem raise_call {fd : FuncData} {params : List Str} {a rest o : List Stmt} {t : Expr} {x msg : Str} {ck : Nat} {np cpos mp rpos ipos : Pos} {args : List Dt} {ρ : Ro} {st2 : St} {fa C : Addr} {ob : Obj} {vs : List Value} {outer : List Env} {Q : Value → Shared → Prop} {m n : Nat}
    (B : BltOk W) (N : InsOk W) (OO : OwnOk W K O) (Fi : FnInfo fd params (a ++ .If t [.Raise (some (.Call (.Name x np) [.Constant (.str msg) ck mp] [] cpos)) none rpos] o ipos :: rest)) (hlen : args.length = params.length) (hρ : entryRo (params.zip args) fd.scope.names = some ρ)
    (ho : W.B.get? fa = some ob) (hd : ob.data = .func fd) (hcd : W.B.CodeRec fd.code fd.qualname) (h1 : runF O noFx 0 m n a ⟨ρ, []⟩ = some (.nxt st2)) (h2 : (ev O (m + 1)).t (Mine.lend st2) t = some true) (hx : (Mine.lend st2).lookup x = some .glob) (hxb : (x == ("__debug__" : Str)) = false)
    (X : XCls W x C) (k : AOk W (K + 5) A) (hf : A.frames = some outer) (ok : Ok W own s.heap) (fo : FrOk W s.heap outer) (rs : Reps W (hideAll s.heap own) vs args)
    (hE : ∀ h' tk e, Refused W own s.heap outer C msg h' e → E e { s with heap := h', toks := tk }) : wpAny W.M A (call (.ref fa) vs) Q E s := by
  obtain ⟨Nn, nm, q, bs, hdct, sn, sub, ab, col, dd, k0, k1, k2, k3, k5, mN, hC, hN, hq, _⟩ := X.obj
  refine wpAny_call (fn_runB Fi (rs.length.trans hlen) hρ ho hd hcd (k.le (by omega)) ok (fun y d e => zip_lookup rs e) fun env own' s₁ _ _ ⟨h', tk, e⟩ _ R ⟨fr, fnew, up⟩ => ?_)
  subst e
  have k' : AOk W (K + 4) (A.deeper env) := k.deeper env N.frd
  have XX := xok B N OO m
  refine exB_front (exS_sound XX (noFx_ok W K) n) (s := { s with heap := h', toks := tk }) h1 k' R fun h₂ t₂ own₂ ad₂ R₂ => ?_
  obtain ⟨own₃, S₃, mv⟩ := R₂.lend N
  refine wpAny_execs_cons (wpAny_If (XX.H.t _ t true own₃ env _ _ { s with heap := h₂, toks := t₂ } _ h2 k' S₃ fun h₃ t₃ l₃ o₃ => ?_))
  have R₃ := mv h₃ l₃ o₃
  have S4 := S₃.then (s := { s with heap := h₂, toks := t₂ }) l₃ o₃
  rw [if_pos rfl]
  refine wpAny_execs_cons (wpAny_Raise_call_subT (C := C) (nm := nm) (q := q) (N := Nn) (bs := bs) (bm := bmVE) (bmB := bmVE) (hdct := hdct) (sn := sn) (sub := sub) (ab := ab) (col := col) (dd := dd) (k0 := k0) (k1 := k1) (k2 := k2) (k3 := k3) (k5 := k5) (newId := "ValueError.__new__") F.excBase_ValueError (mN := mN) F.excBase_ValueError.hasBase k'.hh rfl (hq _ (.head _)) ?_)
  refine name_glob (s := { s with heap := h₃, toks := t₃ }) S4 hx X.mg ⟨rfl, ?_⟩
  refine evalArgs_sound (s := { s with heap := h₃, toks := t₃ }) XX.H (ds := [.str msg]) rfl k' S4 fun h₄ t₄ ws l₄ o₄ r₄ => ?_
  obtain ⟨v, rfl, rv⟩ := r₄.inv1
  obtain ⟨tv, rfl⟩ := rep_str rv
  have okB : Up W.B h₄ := o₄.base.trans vis_of
  refine ⟨rfl, by size_fits, okB _ _ hC, hN.keeps okB, .base, fun h₅ ea mk => ?_⟩
  have R₄ := mv h₄ (l₃.trans l₄) o₄
  have lh : Le W.P s.heap h₄ := fun b ob nb e => (R₄.prot b ob ⟨e, nb⟩).1
  have okh : Ok W own h₄ := R₄.frm.sees.ok.sub R₄.sub ok.hP
  obtain ⟨mm, nsE⟩ := R₄.frm.ns
  have nP : env.locals ≠ W.P := fun z => R₄.frm.wrP (.inl z.symm)
  have FO : FrOk W h₄ (env :: outer) := fun e he => by
    rcases List.mem_cons.mp he with rfl | he
    · exact ⟨S4.envOk.kind, _, mm, fr, nP, nsE⟩
    · exact (fo.le lh) e he
  have hfs : ∀ e ∈ env :: outer, ∀ L, e.frame = some L → L ∈ (env :: outer).filterMap (·.frame) := fun e he L hL => List.mem_filterMap.mpr ⟨e, he, hL⟩
  refine wpAny_leaves_madeW (base := hideAll h₄ ((env :: outer).filterMap (·.frame))) (h := h₄) (outer := outer) (Around.frames_deeper hf) fr stays_hide (FO.funs hfs) mk fun h₆ t' fl tup _ us => ?_
  refine hE h₆ _ _ ⟨h₄, (env :: outer).filterMap (·.frame), t', ea, tv, rfl, lh, okh, fun e he L hL => hfs e (List.mem_cons_of_mem _ he) L hL, fun a ha => ?_, fun a ha => ?_, fl, tup, (Heap.UpToSlots.of_keeps mk.keeps).trans us⟩
  · obtain ⟨e, he, hL⟩ := List.mem_filterMap.mp ha
    rcases List.mem_cons.mp he with rfl | he
    · rw [fr] at hL; cases hL; exact .inr fnew
    · exact .inl ⟨e, he, hL⟩
  · obtain ⟨e, he, hL⟩ := List.mem_filterMap.mp ha
    obtain ⟨_, L, m, z1, z2, z3⟩ := FO e he
    rw [hL] at z1; cases z1
    exact ⟨z2, m, z3⟩
end
end Mine

namespace Mine
section
variable {W : Wd} {K : Nat} {O : Own} {own : List Addr} {env : Env} {A : Around} {E : Value → Shared → Prop} {s : Shared}

/-- behind a raise the standing state stands -/
theorem Ok.after {h₁ h₂ h₈ : Heap} {fs : List Addr} {outer l : List Env} {e : Addr} {c t : Value} (o₁ : Ok W own h₁) (o : Ok W own h₂) (fo : ∀ env ∈ outer, ∀ L, env.frame = some L → L ∈ own) (hf : ∀ a ∈ fs, (∃ env ∈ outer, env.frame = some a) ∨ h₁.get? a = none) (hn : ∀ a ∈ fs, a ≠ W.P ∧ ∃ m, h₂.Ns a m)
    (fl : Heap.FlyingW (hideAll h₂ fs) l e c t h₈) (us : h₂.UpToSlots h₈) : Ok W own h₈ := by
  have keep : ∀ b o, h₂.get? b = some o → b ∉ fs → h₈.get? b = some o := fun b o e n => fl.1 b o (vis_iff.mpr ⟨e, n⟩)
  refine ⟨fun b ob e => ?_, o.hP, ?_, fun a ha => ?_⟩
  · have e2 := o.base b ob e
    obtain ⟨e3, n3⟩ := vis_iff.mp e2
    refine vis_iff.mpr ⟨keep b ob e3 fun m => ?_, n3⟩
    rcases hf b m with ⟨env, he, q⟩ | q
    · exact n3 (fo env he b q)
    · rw [o₁.inB e] at q; cases q
  · obtain ⟨ps, e1, e2⟩ := o.tab
    refine ⟨ps, keep _ _ e1 fun m => (hn _ m).1 rfl, W.tsDrop _ _ _ (fun b ob e n1 n2 => ?_) e2⟩
    obtain ⟨e3, n3⟩ := vis_iff.mp e
    refine vis_iff.mpr ⟨keep b ob e3 fun m => ?_, n3⟩
    obtain ⟨_, m', o', es, ep, q1, q2, _⟩ := hn b m
    rw [e3] at q1; cases q1
    exact n2 _ _ q2
  · obtain ⟨ob, e1⟩ := o.live a ha
    by_cases m : a ∈ fs
    · obtain ⟨_, m', o', es, ep, q1, q2, _⟩ := hn a m
      obtain ⟨sl, q⟩ := us a o' q1 fun vs z => by rw [q2] at z; cases z
      exact ⟨_, q⟩
    · exact ⟨ob, keep a ob e1 m⟩

/-- what a call that raised and caught leaves -/
structure Back (W : Wd) (outer : List Env) (h h' : Heap) : Prop where
  keep : ∀ b o, h.get? b = some o → b ≠ W.P → (∀ env ∈ outer, env.frame ≠ some b) → h'.get? b = some o
  fr : ∀ env ∈ outer, ∀ L o, env.frame = some L → h.get? L = some o → ∃ sl, h'.get? L = some { o with slots := sl }

theorem refusal_call {fd : FuncData} {x n msg : Str} {t : Expr} {f1 f0 : Str} {p1 p2 p3 p4 p5 p6 p7 p8 p9 q1 q2 q3 q4 q5 q6 q7 : Pos} {u : Dt} {b : Bool} {ρ : Ro} {fa C : Addr} {ob : Obj} {vs : List Value} {outer : List Env} {Q : Value → Shared → Prop} {m : Nat}
    (B : BltOk W) (N : InsOk W) (OO : OwnOk W K O) (Fi : FnInfo fd ["upper"] [.Try [.Return (some (.List [.IfExp t (.Call (.Name f1 p1) [.List [] p2] [] p3) (.Call (.Name f0 p4) [.List [] p5] [] p6) p7] p8)) p9] [.ExceptHandler (some (.Name x q1)) (some n) [.Return (some (.Call (.Name "str" q2) [.Name n q3] [] q4)) q5] q6] [] [] q7])
    (hρ : entryRo ((["upper"] : List Str).zip [u]) fd.scope.names = some ρ) (ho : W.B.get? fa = some ob) (hd : ob.data = .func fd) (hcd : W.B.CodeRec fd.code fd.qualname) (ht : (ev O (m + 1)).t ρ t = some b) (hx : ρ.lookup x = some .glob) (hs : ρ.lookup ("str" : Str) = some .glob)
    (hf : ρ.lookup (if b then f1 else f0) = some .glob) (hn : ∃ bd, ρ.lookup n = some (.var .loc bd)) (X : XCls W x C) {fv : Value} (hfv : W.mg (if b then f1 else f0) = some fv) (hkf : ∀ h, Up W.B h → KeepOk W fv h)
    (hc : ∀ (A : Around) (E : Value → Shared → Prop) (s : Shared) (own : List Addr) (outer : List Env) (Q : Value → Shared → Prop) (vs : List Value), AOk W (K + 5) A → A.frames = some outer → Ok W own s.heap → FrOk W s.heap outer → Reps W (hideAll s.heap own) vs [.list []] →
      (∀ h' tk e, Refused W own s.heap outer C msg h' e → E e { s with heap := h', toks := tk }) → wpAny W.M A (call fv vs) Q E s)
    (k : AOk W (K + 6) A) (hfr : A.frames = some outer) (ok : Ok W own s.heap) (fo : FrOk W s.heap outer) (fw : ∀ env ∈ outer, ∀ L, env.frame = some L → L ∈ own) (rs : Reps W (hideAll s.heap own) vs [u])
    (hQ : ∀ h' tk v, Back W outer s.heap h' → Ok W own h' → Rep W (hideAll h' own) v (.str msg) → Q v { s with heap := h', toks := tk }) : wpAny W.M A (call (.ref fa) vs) Q E s := by
  obtain ⟨Nn, nm, q, bs, hdct, sn, sub, ab, col, dd, k0, k1, k2, k3, k5, mN, hC, hN, hq, hstr⟩ := X.obj
  refine wpAny_call (fn_runB Fi rs.length hρ ho hd hcd (k.le (by omega)) ok (fun y d e => zip_lookup rs e) fun env own' s₁ _ _ ⟨h₁, tk₁, e⟩ _ R ⟨fr, fnew, up⟩ => ?_)
  subst e
  have k' : AOk W (K + 5) (A.deeper env) := k.deeper env N.frd
  have k4 : AOk W (K + 4) (A.deeper env) := k'.le (by omega)
  have XX := xok B N OO m
  have S := R.frm.sees
  obtain ⟨mm, nsE⟩ := R.frm.ns
  have nP : env.locals ≠ W.P := fun z => R.frm.wrP (.inl z.symm)
  have hfr' : (A.deeper env).frames = some (env :: outer) := Around.frames_deeper hfr
  -- what follows a raise
  have after : ∀ (Qf : Flow → Shared → Prop) (hQf : ∀ v s', Q v s' → Qf (.ret v) s') h₆ t₆ e, Refused W own' h₁ (env :: outer) C msg h₆ e → ∀ E', wpAny W.M (A.deeper env) (noteFrame e env) (fun _ s₂ => wpAny W.M (A.deeper env) (setFlight e none) (fun _ s₃ => wpAny W.M (A.deeper env) (handleBy e env [.ExceptHandler (some (.Name x q1)) (some n) [.Return (some (.Call (.Name "str" q2) [.Name n q3] [] q4)) q5] q6])
      Qf E' s₃) E' s₂) E' { s with heap := h₆, toks := t₆ } := by
    intro Qf hQf h₆ t₆ e RF E'
    obtain ⟨h₂, fs, t, ea, tk, rfl, l₂, o₂, g1, g2, g3, fl₆, tup, us⟩ := RF.out
    refine wpAny_looks_onW (s := { s with heap := h₆, toks := t₆ }) hfr' fr fl₆ fun h₇ held us₇ => ?_
    refine wpAny_landsW (s := { s with heap := h₇, toks := t₆ }) held fun h₈ fl₈ us₈ => ?_
    have U8 : h₂.UpToSlots h₈ := (us.trans us₇).trans us₈
    have fo' : ∀ env' ∈ env :: outer, ∀ L, env'.frame = some L → L ∈ own' := fun e he L hL => by
      rcases List.mem_cons.mp he with rfl | he
      · rw [fr] at hL; cases hL; exact R.frm.lo
      · exact R.sub _ (fw e he L hL)
    have o₈ : Ok W own' h₈ := S.ok.after o₂ fo' g2 g3 fl₈ U8
    have glb : ∀ {h : Heap}, Ok W own' h → Sees W own' env h [(x, .glob), (("str" : Str), .glob)] := fun {h} o => by
      have key : ∀ y sl, List.lookup y [(x, Slot.glob), (("str" : Str), Slot.glob)] = some sl → sl = .glob ∧ ρ.lookup y = some .glob := fun y sl e => by
        rw [List.lookup_cons] at e
        by_cases hy : y = x
        · subst hy; rw [beq_self_eq_true] at e; cases e; exact ⟨rfl, hx⟩
        · rw [beq_eq_false_iff_ne.mpr hy, List.lookup_cons] at e
          by_cases hy : y = ("str" : Str)
          · subst hy; rw [beq_self_eq_true] at e; cases e; exact ⟨rfl, hs⟩
          · rw [beq_eq_false_iff_ne.mpr hy] at e; cases e
      refine ⟨S.envOk, o, fun y sl e => ?_, fun y sl e => S.nodbg y _ (key y sl e).2, fun y kk b c e => ?_⟩
      · obtain ⟨rfl, e'⟩ := key y sl e
        exact S.at' y _ e'
      · cases (key y _ e).1
    have B8 : Up W.B h₈ := o₈.base.trans vis_of
    refine handleBy_own_as (s := { s with heap := h₈, toks := t₆ }) (C := C) (x := x) (bmB := bmVE) (newId := "ValueError.__new__") (mg := W.mg) F.excBase_ValueError.hasBase ?_
    refine name_glob (s := { s with heap := h₈, toks := t₆ }) (glb o₈) (by rw [List.lookup_cons_self]) X.mg ⟨rfl, ⟨X.mg, bmVE, Nn, nm, q, bs, hdct, sn, sub, ab, col, dd, k0, k1, k2, k3, k5, mN, B8 _ _ hC, hN.keeps B8, hq, .base⟩, fl₈.there, ?_⟩
    refine lands_againW (s := { s with heap := h₈, toks := t₆ }) fl₈ fun h₉ fl₉ us₉ => ?_
    have U9 : h₂.UpToSlots h₉ := U8.trans us₉
    have o₉ : Ok W own' h₉ := S.ok.after o₂ fo' g2 g3 fl₉ U9
    obtain ⟨_, m2, ns2⟩ := g3 env.locals (g1 env List.mem_cons_self _ fr)
    obtain ⟨bd, hnl⟩ := hn
    have kn : env.kindOf n = some .local := (S.at' n _ hnl).1
    have nsp : (env.scope.kind == .class || (env.scope.kind == .module && env.locals != env.globals)) = false := by rw [S.envOk.kind]; rfl
    refine wpAny_storeName_local (s := { s with heap := h₉, toks := t₆ }) kn (U9.ns ns2) (fun h₁₀ ns₁₀ sb₁₀ => ?_) nsp
    obtain ⟨oL, esL, epL, eL, hL, _⟩ := id ns₁₀
    have o₁₀ : Ok W own' h₁₀ := o₉.same R.frm.lo nP sb₁₀ eL
    have B10 : Up W.B h₁₀ := o₁₀.base.trans vis_of
    obtain ⟨oe, ws, f1', f2', f3', f4'⟩ := fl₉.first
    obtain ⟨oL9, esL9, epL9, eL9, hL9, _⟩ := U9.ns ns2
    have neL : ea ≠ env.locals := fun z => by rw [z, eL9] at f1'; cases f1'; rw [hL9] at f3'; cases f3'
    have tup9 : h₉.TupAt t [.str msg tk] := ((tup.of_slots us₇).of_slots us₈).of_slots us₉
    have tup10 : h₁₀.TupAt t [.str msg tk] := by
      obtain ⟨ot, nt, r1, r2, r3⟩ := tup9
      exact ⟨ot, nt, (sb₁₀.2 t fun z => by rw [z, eL9] at r1; cases r1; rw [hL9] at r3; cases r3).trans r1, r2, r3⟩
    refine wpAny_execs_cons (wpAny_Return_some (wpAny_Call_Name_kw (name_blt (s := { s with heap := h₁₀, toks := t₆ + 1 }) (glb o₁₀) ?_ (by decide) (bval_ok _ (by decide)) ?_)))
    · rw [List.lookup_cons]
      by_cases hy : ("str" : Str) = x
      · rw [hy]; simp
      · rw [beq_eq_false_iff_ne.mpr hy]; rfl
    refine callWith_of (P := fun h' => KeepOk W (bval "str") h') rfl (fun h' x => x) (Calls.evalArgs_plain (Calls.spliced_cons (wpAny_Name (load_bound (k := .loc) S.envOk.kind kn ⟨_, ns₁₀, if_pos rfl⟩ ?_) (S.nodbg _ _ hnl))))
    refine Calls.spliced_nil ⟨keep_plain (bval_plain _) _, ?_⟩
    show wpAny W.M _ (call (.type "str") [.ref ea]) _ _ _
    obtain ⟨hh, gg, dr, tk0, os⟩ := s
    refine str_own (by have := k'.hu; show (A.deeper env).units + 2 < cLine; omega) (B10 _ _ hC) (hN.keeps B10) hstr F.excBase_ValueError.mroIs F.excStr_ValueError F.excBase_ValueError.hasBase ((sb₁₀.2 ea neL).trans f1') f2' f3' f4' tup10 ?_
    refine wpAny_nameGoes (s := ⟨h₁₀, gg, dr, t₆ + 1, os⟩) kn ns₁₀ nsp fun h₁₁ m₁₁ ns₁₁ sb₁₁ => ?_
    obtain ⟨oL1, esL1, epL1, eL1, hL1, _⟩ := id ns₁₁
    have o₁₁ : Ok W own' h₁₁ := o₁₀.same R.frm.lo nP sb₁₁ eL1
    have nfs : ∀ b o, hh.get? b = some o → b ≠ W.P → (∀ env ∈ outer, env.frame ≠ some b) → b ∉ fs := fun b o e1 e2 e3 m => by
      rcases g2 b m with ⟨e, he, z⟩ | z
      · rcases List.mem_cons.mp he with rfl | he
        · rw [fr] at z; cases z; rw [e1] at fnew; cases fnew
        · exact e3 e he z
      · rw [up b o e1] at z; cases z
    have nL : ∀ b o, hh.get? b = some o → b ≠ env.locals := fun b o e z => by rw [z, fnew] at e; cases e
    refine hQf _ _ (hQ h₁₁ _ _ ⟨fun b o e1 e2 e3 => ?_, fun en he L o e1 e2 => ?_⟩ (o₁₁.sub R.sub ok.hP) (.str _ _))
    · have e4 := l₂ b o e2 (up b o e1)
      have e5 := fl₉.1 b o (vis_iff.mpr ⟨e4, nfs b o e1 e2 e3⟩)
      exact (sb₁₁.2 b (nL b o e1)).trans ((sb₁₀.2 b (nL b o e1)).trans e5)
    · obtain ⟨_, L', mL, z1, z2, z3⟩ := fo en he
      rw [e1] at z1; cases z1
      obtain ⟨oD, esD, epD, eD, hD, _⟩ := z3
      rw [e2] at eD; cases eD
      have e4 := l₂ L o z2 (up L o e2)
      obtain ⟨sl, e5⟩ := U9 L o e4 fun vs z => by rw [hD] at z; cases z
      exact ⟨sl, (sb₁₁.2 L (nL L o e2)).trans ((sb₁₀.2 L (nL L o e2)).trans e5)⟩
  have FO : FrOk W h₁ (env :: outer) := fun e he => by
    rcases List.mem_cons.mp he with rfl | he
    · exact ⟨S.envOk.kind, _, mm, fr, nP, nsE⟩
    · exact (fo.le (up.le)) e he
  refine wpAny_execs_cons (wpAny_Try_except (wpAny_execs_cons (wpAny_Return_some (wpAny_List_spliced (PyProof.Rows.spliced_more (wpAny_IfExp ?_))))))
  refine XX.H.t ρ t b own' env _ _ { s with heap := h₁, toks := tk₁ } _ ht k4 S fun h₃ t₃ l₃ o₃ => ?_
  have S3 : Sees W own' env h₃ ρ := S.then (s := { s with heap := h₁, toks := tk₁ }) l₃ o₃
  have calls : ∀ (f : Str) (pa pb pc : Pos) (Qv : Value → Shared → Prop) (E' : Value → Shared → Prop), ρ.lookup f = some .glob → W.mg f = some fv → (∀ h' tk e, Refused W own' h₁ (env :: outer) C msg h' e → E' e { s with heap := h', toks := tk }) →
      wpAny W.M (A.deeper env) (eval (.Call (.Name f pa) [.List [] pb] [] pc) env) Qv E' { s with heap := h₃, toks := t₃ } := by
    intro f pa pb pc Qv E' hf hfv hE
    refine wpAny_Call_Name_kw (name_glob (s := { s with heap := h₃, toks := t₃ }) S3 hf hfv ?_)
    refine callWith_sound (s := { s with heap := h₃, toks := t₃ }) (first := []) XX.H (ds := [.list []]) rfl k4 S3 (fun h' l o => hkf h' (o.base.trans vis_of)) fun h₄ t₄ ws l₄ o₄ r₄ => ?_
    refine hc _ E' { s with heap := h₄, toks := t₄ } own' (env :: outer) Qv ws k' hfr' o₄ ((FO.le l₃).le l₄) r₄ fun h' tk e RF => hE h' tk e ?_
    obtain ⟨h₂, fs, t, ea, tk', e1, l₂, o₂, g1, g2, g3⟩ := RF.out
    refine ⟨h₂, fs, t, ea, tk', e1, (l₃.trans l₄).trans l₂, o₂, g1, fun a ha => (g2 a ha).imp id fun z => (l₃.trans l₄).none (fun zz => (g3.1 a ha).1 zz) z, g3⟩
  cases b with
  | true => exact calls f1 _ _ _ _ _ hf hfv fun h' tk e RF => after _ (fun v s' h => h) h' tk e RF _
  | false => exact calls f0 _ _ _ _ _ hf hfv fun h' tk e RF => after _ (fun v s' h => h) h' tk e RF _
end
end Mine

namespace Mine
section
variable {W : Wd} {K : Nat} {I : Ev} {own own' : List Addr} {env : Env} {ρ ρ' : Ro} {A : Around} {E : Value → Shared → Prop} {s : Shared} {h h' : Heap}

/-- the frame's own record may change -/
noncomputable def xL (L : Addr) (o : Obj) : Xt where
  X := fun b => b = L
  J := fun h => ∃ sl, h.get? L = some { o with slots := sl }
  st := fun h h' k ⟨sl, e⟩ => ⟨sl, k L rfl _ e⟩

/-- the call of the def that refuses, in a frame of the given record -/
noncomputable def RefCall (W : Wd) (K : Nat) (env : Env) (fv : Value) (msg : Str) : Prop := ∀ (u : Int) (A : Around) (E : Value → Shared → Prop) (s : Shared) (own : List Addr) (Q : Value → Shared → Prop) (vs : List Value), u = 0 ∨ u = 1 → AOk W K A → A.frames = some [env] → Ok W own s.heap → FrOk W s.heap [env] → env.locals ∈ own →
  Reps W (hideAll s.heap own) vs [.int u] → (∀ h' tk v, Back W [env] s.heap h' → Ok W own h' → Rep W (hideAll h' own) v (.str msg) → Q v { s with heap := h', toks := tk }) → wpAny W.M A (call fv vs) Q E s

noncomputable def refIn (I : Ev) (f : Str) (arg : Expr) (msg : Str) (ρ : Ro) : Option (List Dt) := if isGlob ρ f = true then (match I.e ρ arg with
  | some (.int u) => if u = 0 ∨ u = 1 then some [.str msg] else none
  | _ => none) else none

theorem emit_ref (H : IOk W K I) {cenv : Env} {f : Str} {arg : Expr} {fp cp : Pos} {c : Code} {fv : Value} {msg : Str} {L D : Addr} {oL : Obj} (hk : env.scope.kind = .function) (hfL : env.frame = some L) (hL : env.locals = L) (hLP : L ≠ W.P)
    (hns : ∃ m, ∀ (h : Heap) (sl : Array (Option Value)), h.get? L = some { oL with slots := sl } → h.Ns L m) (hfr : A.frames = some [env]) (hmg : W.mg f = some fv) (hkf : ∀ h, Up W.B h → KeepOk W fv h) (hc : RefCall W (K + 4) env fv msg) :
    InnerOk W K A cenv D (xL L oL) (emitSem (.Call (.Name f fp) [arg] [] cp) (.ref D) cenv c) c (refIn I f arg msg) := by
  intro own ρ out s ds0 Q E hi k C hl hx hj hQ
  unfold refIn at hi
  split at hi
  · rename_i hg
    split at hi
    · rename_i u hu
      split at hi
      · rename_i hu2
        cases hi
        obtain ⟨m, hm⟩ := hns
        have hLo : L ∈ own := (hx L rfl).1
        unfold emitSem
        refine wpAny_bind (wpAny_bind (wpAny_Call_Name_kw (name_glob C.frm.sees (isGlob_iff hg) hmg ?_)))
        refine callWith_sound (first := []) H (ds := [.int u]) (by rw [evs, hu]; rfl) k C.frm.sees (fun h' l o => hkf h' (o.base.trans vis_of)) fun h4 t4 ws l4 o4 r4 => ?_
        have C4 := C.le l4 o4
        have j4 : (xL L oL).J h4 := (xL L oL).st _ _ (fun b hb o e => l4 b o (by cases hb; exact hLP) e) hj
        obtain ⟨sl4, e4⟩ := j4
        refine hc u A E { s with heap := h4, toks := t4 } own _ ws hu2 k hfr o4 (fun e he => ?_) (hL ▸ hLo) r4 fun h5 t5 v bk o5 rv => ?_
        · cases List.mem_singleton.mp he
          exact ⟨hk, L, m, hfL, hLP, hm _ _ e4⟩
        have fne : ∀ b, b ≠ L → ∀ e ∈ [env], e.frame ≠ some b := fun b hb e he z => by
          cases List.mem_singleton.mp he
          rw [hfL] at z; cases z; exact hb rfl
        have u5 : Up (hideAll h4 own) (hideAll h5 own) := fun b o e => by
          obtain ⟨e1, n1⟩ := vis_iff.mp e
          exact vis_iff.mpr ⟨bk.keep b o e1 (fun z => n1 (z ▸ o4.hP)) (fne b fun z => n1 (z ▸ hLo)), n1⟩
        have keep5 : ∀ b, RdF cenv ρ b → ∀ o, h4.get? b = some o → h5.get? b = some o := fun b hb o e => bk.keep b o e (C4.frm.rdLive hb).1 (fne b fun z => (hx L rfl).2.1 (z ▸ hb))
        have C5 := C4.move u5 keep5 (fun o e => bk.keep D o e C.dp (fne D fun z => (hx L rfl).2.2.1 z.symm)) o5 (fun b hb => C4.frm.wrOwn hb) C.dn
        obtain ⟨sl5, e5⟩ := bk.fr env (List.mem_singleton.mpr rfl) L _ hfL e4
        obtain ⟨vs, hp, hr⟩ := C5.dat
        refine wpAny_bind (wpAny_list_append_plain (s := { s with heap := h5, toks := t5 }) hp (fun h2 hp2 hs => ?_) (by rw [List.size_toArray, hr.length, sizeLine_eq]; simp at hl; omega))
        refine wpAny_pure (wpAny_pure ?_)
        have hlive : ∃ o, h2.get? D = some o := let ⟨n, e⟩ := hp2; ⟨_, e⟩
        have u2 : Up (hideAll h5 own) (hideAll h2 own) := vis_same C.dn hs
        have o2 : Ok W own h2 := o5.same C.dn C.dp hs (Classical.choose_spec hlive)
        have F2 : Frm W own cenv h2 ρ := C5.frm.move u2 (fun b hb o e => (hs.2 b fun z => C.dr (z ▸ hb)).trans e) o2 fun b hb => C5.frm.wrOwn hb
        refine hQ h2 t5 ⟨F2, C.dn, C.dp, C.dr, vs ++ [v], ?_, (hr.up u2).append (.cons (rv.up u2) .nil)⟩ (fun b o hb e => ?_) ⟨sl5, (hs.2 L (hx L rfl).2.2.1).trans e5⟩
        · have : (vs ++ [v]).toArray = vs.toArray.push v := by simp
          rw [this]; exact hp2
        · have nP : b ≠ W.P := fun z => hb (.inl (.inl z))
          have nL : b ≠ L := fun z => hb (.inr z)
          have nD : b ≠ D := fun z => hb (.inl (.inr (.inr z)))
          exact (hs.2 b nD).trans (bk.keep b o (l4 b o nP e) nP (fne b nL))
      · cases hi
    · cases hi
  · cases hi

theorem comp_ref (B : BltOk W) (H : IOk W K I) (hset : ∀ ρ es k p, I.e ρ (.Set es k p) = none) {f : Str} {arg t it : Expr} {fp cp pos : Pos} {sc : Scope} {fv : Value} {msg : Str} {L : Addr} {oL : Obj} {Q : Value → Shared → Prop} {ds out : List Dt} (hk : env.scope.kind = .function) (hfL : env.frame = some L) (hL : env.locals = L) (hLP : L ≠ W.P)
    (hns : ∃ m, ∀ (h : Heap) (sl : Array (Option Value)), h.get? L = some { oL with slots := sl } → h.Ns L m) (hnc : ∀ v, oL.data ≠ .cell v) (hfr : A.frames = some [env]) (hmg : W.mg f = some fv) (hkf : ∀ h, Up W.B h → KeepOk W fv h) (hc : RefCall W (K + 4) env fv msg) (hoL : s.heap.get? L = some oL) (hLo : L ∈ own)
    (hsc : scopeOk sc = true) (hds : iterE I ρ t it = some ds) (hro : compRo ρ sc.names = some ρ') (hu : unbT ρ' t = true) (hgo : clauses.go I (refIn I f arg msg) t [] ρ' ds = some out) (hlen : out.length ≤ 4096) (k : AOk W (K + 4) A) (S : Sees W own env s.heap ρ)
    (p : ∀ h' tk v, Chg (fun b => b = W.P ∨ b = L) s.heap h' → (∃ sl, h'.get? L = some { oL with slots := sl }) → Ok W own h' → Rep W (hideAll h' own) v (.list out) → Q v { s with heap := h', toks := tk }) :
    wpAny W.M A (eval (.ListComp (.Call (.Name f fp) [arg] [] cp) [⟨t, it, [], 0⟩] sc pos) env) Q E s := by
  obtain ⟨h1, h2, h3, h4, h5⟩ := comp_coreX (E := E) (pos := pos) (elt := .Call (.Name f fp) [arg] [] cp) (r := []) (ifs := []) (RR := fun acc C => compPost W.M A E none Q acc C) (xL L oL) B H hset (fun cenv D Ia => ⟨_, compTurn_last rfl rfl, emit_ref H hk hfL hL hLP hns hfr hmg hkf hc⟩) hsc hds hro hu hgo hlen k S
    (fun b hb => by cases hb; exact ⟨hLo, hLP, oL, hoL, hnc⟩) ⟨oL.slots, hoL⟩ fun C D h' tk hC hD hne hns' l j o rp => by
      obtain ⟨m, hm⟩ := hns'
      refine ⟨m, hm, fun h'' hs => ?_⟩
      have hCo : C ∉ own := S.ok.new hC
      have hCP : C ≠ W.P := fun z => hCo (z ▸ S.ok.hP)
      have u : Up (hideAll h' (C :: own)) (hideAll h'' own) := fun b o e => by
        obtain ⟨q, n⟩ := vis_iff.mp e
        exact vis_iff.mpr ⟨(hs.2 b fun z => n (z ▸ List.mem_cons_self)).trans q, fun z => n (List.mem_cons_of_mem _ z)⟩
      have ok' : Ok W own h'' := o.move u S.ok.hP (fun ob e => (hs.2 _ (Ne.symm hCP)).trans e) fun a ha => by
        obtain ⟨ob, e⟩ := o.live a (List.mem_cons_of_mem _ ha)
        exact ⟨ob, (hs.2 a fun z => hCo (z ▸ ha)).trans e⟩
      obtain ⟨sl, ej⟩ := j
      refine p h'' tk _ (fun b ob nb e => (hs.2 b fun z => ?_).trans (l b ob nb e)) ⟨sl, (hs.2 L fun z => ?_).trans ej⟩ ok' (rp.up u)
      · rw [z, hC] at e; cases e
      · rw [z, hC] at hoL; cases hoL
  rw [eval_ListComp]
  exact wpAny_comprehension_free (use := none) rfl h2 h3 h4 h5 h1

variable {own₀ : List Addr} {Pr : Addr → Obj → Prop} {Vs : Heap} {ad₀ ad : Nat → Addr}
/-- a frame that has bound nothing but its arguments goes on behind a change of its record -/
theorem Run.slots (R : Run W own₀ Pr Vs 0 ad₀ env ad own h ⟨ρ, []⟩) {L : Addr} {oL : Obj} (hL : env.locals = L) (hoL : h.get? L = some oL) (ch : Chg (fun b => b = W.P ∨ b = L) h h') (sl : ∃ sl, h'.get? L = some { oL with slots := sl }) (o' : Ok W own h')
    (nb : ∀ x k b, ρ.lookup x = some (.var k b) → b.idx = []) : Run W own₀ Pr Vs 0 ad₀ env ad own h' ⟨ρ, []⟩ := by
  have u : Up (hideAll h own) (hideAll h' own) := vis_chg (fun a z => by
    rcases z with rfl | rfl
    · exact R.frm.sees.ok.hP
    · exact hL ▸ R.frm.lo) ch
  obtain ⟨sl, e⟩ := sl
  have nsK : ∀ m, h.Ns env.locals m → h'.Ns env.locals m := fun m n => by
    obtain ⟨o, es, ep, e1, e2, r⟩ := n
    rw [hL, hoL] at e1; cases e1
    exact ⟨{ oL with slots := sl }, es, ep, by rw [hL]; exact e, e2, r⟩
  have F := R.frm.moveN u nsK (fun x k b c e1 n q o e2 => by
    obtain ⟨v, ic⟩ := R.frm.sees.cells x k b c e1 n q
    refine ch c o (fun z => ?_) e2
    rcases z with z | z
    · exact R.frm.sees.ok.cell_ne ic z
    · obtain ⟨m, nm⟩ := R.frm.ns
      exact ns_cell nm (by rw [hL, ← z]; exact ic)) o' fun b hb => R.frm.wrOwn hb
  exact {
    frm := F
    sub := R.sub
    hP₀ := R.hP₀
    prot := fun a o p => let ⟨p1, p2, p3, p4⟩ := R.prot a o p; ⟨ch a o (fun z => z.elim p2 fun z => p3 (.inl (z.trans hL.symm))) p1, p2, p3, p4⟩
    od := fun i y e => nomatch (show (none : Option OD) = some y from e)
    inj := fun i j y z e1 => nomatch (show (none : Option OD) = some y from e1)
    bd := fun y kk b e n => absurd (nb y kk b e) n
    base := fun i hi => absurd hi (Nat.not_lt_zero _)
    len := Nat.zero_le _
    ix := fun y kk b e i hi => (by rw [nb y kk b e] at hi; nomatch hi)
    vis := R.vis.trans u
    nf := R.nf }
end
end Mine

namespace Mine.L1
open PySem PySem.W

/-- the middle one of three -/
noncomputable def mid3 (a b c : Int) : Int := max (min a b) (min (max a b) c)
noncomputable def maj (a b c : Bool) : Bool := (a && b) || ((a || b) && c)
theorem mid3_ge (L a b c : Int) : decide (L ≤ mid3 a b c) = maj (decide (L ≤ a)) (decide (L ≤ b)) (decide (L ≤ c)) := by
  unfold mid3 maj
  by_cases h1 : L ≤ a <;> by_cases h2 : L ≤ b <;> by_cases h3 : L ≤ c <;> simp [h1, h2, h3, Int.max_def, Int.min_def] <;> (repeat' split) <;> omega
theorem mid3_mem (a b c : Int) : mid3 a b c = a ∨ mid3 a b c = b ∨ mid3 a b c = c := by
  unfold mid3; simp only [Int.max_def, Int.min_def]; (repeat' split) <;> omega

section
variable {α β : Type}
/-- one round: each takes the middle of its own and its neighbours' (at an end its own twice) -/
noncomputable def rdGo (m : α → α → α → α) : α → List α → List α
  | _, [] => []
  | p, [x] => [m p x x]
  | p, x :: y :: r => m p x y :: rdGo m x (y :: r)
noncomputable def rd (m : α → α → α → α) : List α → List α
  | [] => []
  | x :: r => rdGo m x (x :: r)
theorem rdGo_map {m : α → α → α → α} {m' : β → β → β → β} {f : α → β} (h : ∀ a b c, f (m a b c) = m' (f a) (f b) (f c)) : ∀ (p : α) (l : List α), (rdGo m p l).map f = rdGo m' (f p) (l.map f)
  | _, [] => rfl
  | p, [x] => by simp [rdGo, h]
  | p, x :: y :: r => by
    rw [rdGo, List.map_cons, h, rdGo_map h x (y :: r)]
    rfl
theorem rd_map {m : α → α → α → α} {m' : β → β → β → β} {f : α → β} (h : ∀ a b c, f (m a b c) = m' (f a) (f b) (f c)) : ∀ (l : List α), (rd m l).map f = rd m' (l.map f)
  | [] => rfl
  | x :: r => rdGo_map h x (x :: r)
theorem rdGo_len {m : α → α → α → α} : ∀ (p : α) (l : List α), (rdGo m p l).length = l.length
  | _, [] => rfl
  | p, [x] => rfl
  | p, x :: y :: r => by rw [rdGo, List.length_cons, rdGo_len x (y :: r)]; rfl
theorem rd_len {m : α → α → α → α} : ∀ (l : List α), (rd m l).length = l.length
  | [] => rfl
  | x :: r => rdGo_len x (x :: r)
theorem rdGo_mem {m : α → α → α → α} (hm : ∀ a b c, m a b c = a ∨ m a b c = b ∨ m a b c = c) : ∀ (p : α) (l : List α) (z : α), z ∈ rdGo m p l → z = p ∨ z ∈ l
  | _, [], z, h => nomatch h
  | p, [x], z, h => by
    cases List.mem_singleton.mp h
    rcases hm p x x with e | e | e <;> rw [e] <;> simp
  | p, x :: y :: r, z, h => by
    rw [rdGo] at h
    rcases List.mem_cons.mp h with e | h
    · rcases hm p x y with q | q | q <;> rw [e, q] <;> simp
    · rcases rdGo_mem hm x (y :: r) z h with e | e
      · rw [e]; simp
      · exact .inr (List.mem_cons_of_mem _ e)
theorem rd_mem {m : α → α → α → α} (hm : ∀ a b c, m a b c = a ∨ m a b c = b ∨ m a b c = c) {l : List α} {z : α} (h : z ∈ rd m l) : z ∈ l := by
  cases l with
  | nil => exact h
  | cons x r =>
    rcases rdGo_mem hm x (x :: r) z h with e | e
    · rw [e]; simp
    · exact e
noncomputable def rdN (m : α → α → α → α) : Nat → List α → List α
  | 0, l => l
  | t + 1, l => rd m (rdN m t l)
theorem rdN_map {m : α → α → α → α} {m' : β → β → β → β} {f : α → β} (h : ∀ a b c, f (m a b c) = m' (f a) (f b) (f c)) : ∀ (t : Nat) (l : List α), (rdN m t l).map f = rdN m' t (l.map f)
  | 0, l => rfl
  | t + 1, l => by rw [rdN, rd_map h, rdN_map h t l]; rfl
theorem rdN_len {m : α → α → α → α} : ∀ (t : Nat) (l : List α), (rdN m t l).length = l.length
  | 0, _ => rfl
  | t + 1, l => by rw [rdN, rd_len, rdN_len]
theorem rdN_mem {m : α → α → α → α} (hm : ∀ a b c, m a b c = a ∨ m a b c = b ∨ m a b c = c) : ∀ (t : Nat) {l : List α} {z : α}, z ∈ rdN m t l → z ∈ l
  | 0, _, _, h => h
  | t + 1, _, _, h => rdN_mem hm t (rd_mem hm h)
end

/-- the steady pages of a row of bits -/
noncomputable def steadyGo : Bool → List Bool → Nat → List Nat
  | _, [], _ => []
  | _, [_], _ => []
  | p, x :: y :: r, k => if x == p || x == y then k :: steadyGo x (y :: r) (k + 1) else steadyGo x (y :: r) (k + 1)
noncomputable def steadyB : List Bool → List Nat
  | [] => []
  | [_] => [0, 0]
  | x :: r => 0 :: (steadyGo x r 1 ++ [r.length])
/-- every second one, those at even places first -/
noncomputable def evens {α : Type} : List α → List α
  | [] => []
  | [x] => [x]
  | x :: _ :: r => x :: evens r
noncomputable def odds {α : Type} : List α → List α
  | [] => []
  | _ :: r => evens r
noncomputable def shuf {α : Type} (l : List α) : List α := evens l ++ odds l
/-- what the record answers: the best reach so far and its verdict's page; none: True -/
noncomputable def astep (n q : Int) (p : Int × Option Nat) (s : Nat) : Int × Option Nat :=
  if n - (Int.natAbs (q - s) : Int) = 0 then p else if p.1 < n - (Int.natAbs (q - s) : Int) then (n - (Int.natAbs (q - s) : Int), some s) else if n - (Int.natAbs (q - s) : Int) = p.1 ∧ p.2 = some 0 then (p.1, some s) else p
noncomputable def answer (n : Int) (q : Int) : List Nat → Int × Option Nat → Int × Option Nat
  | [], p => p
  | s :: r, p => answer n q r (astep n q p s)
/-- the least of the tuples (distance, whether it is the first page, parity of the place, page) -/
noncomputable def keyLt (a b : Int × Bool × Int × Int) : Bool := if a.1 = b.1 then (if a.2.1 = b.2.1 then (if a.2.2.1 = b.2.2.1 then decide (a.2.2.2 < b.2.2.2) else decide (a.2.2.1 < b.2.2.1)) else (!a.2.1 && b.2.1)) else decide (a.1 < b.1)
noncomputable def keyMin : List (Int × Bool × Int × Int) → Int × Bool × Int × Int → Int × Bool × Int × Int
  | [], b => b
  | a :: r, b => if keyLt a b then keyMin r a else keyMin r b
noncomputable def keys (page : Nat) : Nat → List Nat → List (Int × Bool × Int × Int)
  | _, [] => []
  | i, s :: r => ((Int.natAbs ((page : Int) - s) : Int), s == 0, ((i % 2 : Nat) : Int), (s : Int)) :: keys page (i + 1) r
noncomputable def nearB (st : List Nat) (page : Nat) : Int := match keys page 0 st with
  | [] => 0
  | k :: r => (keyMin r k).2.2.2
noncomputable def stepB (st : List Nat) (page : Nat) : Nat := ((page : Int) - nearB st page).natAbs
noncomputable def allBits : Nat → List (List Bool)
  | 0 => [[]]
  | n + 1 => (allBits n).flatMap fun l => [false :: l, true :: l]
theorem mem_allBits : ∀ (l : List Bool), l ∈ allBits l.length
  | [] => by simp [allBits]
  | b :: r => by
    rw [List.length_cons, allBits, List.mem_flatMap]
    exact ⟨r, mem_allBits r, by cases b <;> simp⟩
/-- what the law asks of a row of bits -/
noncomputable def okBits (l : List Bool) : Bool :=
  (answer l.length (2 * l.length - 1) (shuf (steadyB l)) (-1, none)).2 == none &&
  (List.range l.length).all fun page => (0 ≤ nearB (steadyB l) page) && (nearB (steadyB l) page < l.length) && ((answer l.length page (shuf (steadyB l)) (-1, none)).2 == some (nearB (steadyB l) page).toNat) &&
    [1, 2, 3, 4].all fun t => (rdN maj t l).getD page false == (l.getD page false != (min t (stepB (steadyB l) page) % 2 == 1))
theorem ok5 : (allBits 5).all okBits = true := by decide +kernel
theorem ok6 : (allBits 6).all okBits = true := by decide +kernel
theorem ok7 : (allBits 7).all okBits = true := by decide +kernel
end Mine.L1

namespace Mine.L1

noncomputable def fnBody (n : Str) : List Stmt → List Stmt
  | [] => []
  | .FunctionDef (name := m) (body := b) .. :: r => if m = n then b else fnBody n r
  | _ :: r => fnBody n r
noncomputable def fnScope (n : Str) : List Stmt → List (Str × NameKind)
  | [] => []
  | .FunctionDef (name := m) (scope := sc) .. :: r => if m = n then sc.names else fnScope n r
  | _ :: r => fnScope n r
noncomputable def clsBody (n : Str) : List Stmt → List Stmt
  | [] => []
  | .ClassDef (name := m) (body := b) .. :: r => if m = n then b else clsBody n r
  | _ :: r => clsBody n r
noncomputable def top : List Stmt := PySem.Challenge.pw_rw0025_01.main.body
noncomputable def entB : List Stmt := clsBody "Entry" top
noncomputable def O0 : Own := ⟨fun _ _ => none, fun _ _ _ _ => none, fun _ _ _ => none, true⟩
noncomputable def fRule : Fd := ⟨["page", "size"], fnBody "_law_rule" top, fnScope "_law_rule" top⟩
noncomputable def fSteady : Fd := ⟨["bits"], fnBody "_law_steady" top, fnScope "_law_steady" top⟩
noncomputable def fWins : Fd := ⟨["row"], fnBody "_law_windows" top, fnScope "_law_windows" top⟩
noncomputable def fRef : Fd := ⟨["upper"], fnBody "_law_refusal" top, fnScope "_law_refusal" top⟩
noncomputable def fLow : Fd := ⟨["data"], fnBody "median_low" top, fnScope "median_low" top⟩
noncomputable def fHigh : Fd := ⟨["data"], fnBody "median_high" top, fnScope "median_high" top⟩
noncomputable def fLaw : Fd := ⟨["script"], fnBody "law" top, fnScope "law" top⟩
noncomputable def fInit : Fd := ⟨["self"], fnBody "__init__" entB, fnScope "__init__" entB⟩
noncomputable def fAllow : Fd := ⟨["self", "filename"], fnBody "allowance" entB, fnScope "allowance" entB⟩

noncomputable def lamPar : Expr → Arguments
  | .Lambda p _ _ _ => p
  | _ => ⟨[], [], none, [], [], none, []⟩
noncomputable def lamBody : Expr → Expr
  | .Lambda _ b _ _ => b
  | e => e
noncomputable def lamSc : Expr → Scope
  | .Lambda _ _ s _ => s
  | _ => default
noncomputable def lamPos : Expr → Pos
  | .Lambda _ _ _ p => p
  | _ => ⟨0, 0, 0, 0⟩
noncomputable def lam1 : Expr := asV (nthS fRule.body 0)
noncomputable def lam2 : Expr := asV (nthS fRule.body 1)
noncomputable def verd : List Dt → Dt
  | [.int p, _] => .str (PySem.Txt.mul "a" p)
  | _ => .none
noncomputable def kit : RuleKit where
  q := "_law_rule.<locals>.<lambda>"
  poss := [lamPos lam1, lamPos lam2]
  p1 := lamPos lam1
  par1 := lamPar lam1
  body1 := lamBody lam1
  sc1 := lamSc lam1
  p2 := lamPos lam2
  par2 := lamPar lam2
  body2 := lamBody lam2
  sc2 := lamSc lam2
  arg := "name"
  frees := fun | [p, s] => [("page", p), ("size", s)] | _ => []
  verdict := verd
noncomputable def mkRule (ds : List Dt) : Option Dt := two ds fun a b => ints2 a b fun p z => if 0 ≤ p ∧ p ≤ 1000 then some (.opq 5 [.int p, .int z]) else none
noncomputable def appRule (es ds : List Dt) : Option Dt := two es fun a b => one ds fun d => (lamRo (kit.frees [a, b]) kit.arg d kit.sc2.names).bind fun ρ => (ev O0 12).e ρ kit.body2
noncomputable def alwRule (es : List Dt) : Option Dt := two es fun a b => ints2 a b fun p z => some (verd [.int p, .int z])
noncomputable def entRules (es : List Dt) : Option Dt := one es fun a => match a with
  | .list ds => some (.list ds)
  | _ => none
noncomputable def O1 : Own where
  fn := fun f ds =>
    if f = "_law_steady" then callF O0 noFx 11 8 fSteady ds
    else if f = "_law_windows" then callF O0 noFx 11 8 fWins ds
    else if f = "median_low" then callF O0 noFx 11 8 fLow ds
    else if f = "median_high" then callF O0 noFx 11 8 fHigh ds
    else if f = "_law_rule" then mkRule ds
    else none
  meth := fun n es m ds => if n = 5 ∧ m = "applies_to" then appRule es ds
    else none
  attr := fun n es a => if n = 5 ∧ a = "allowance" then alwRule es
    else if n = 6 ∧ a = "rulelines" then entRules es
    else none
  sets := true
noncomputable def alwEnt (es ds : List Dt) : Option Dt := one es fun a => one ds fun d => match a with
  | .list rs => callF O1 noFx 11 8 fAllow [.opq 6 [.list rs], d]
  | _ => none
noncomputable def O2 : Own where
  fn := O1.fn
  meth := fun n es m ds => if n = 6 ∧ m = "allowance" then alwEnt es ds
    else none
  attr := fun _ _ _ => none
  sets := true
/-- the law behind its first statement -/
noncomputable def restF (ns : List Int) : Option Dt := (entryRo [("script", .list (ns.map .int))] fLaw.sc).bind fun ρ => match run O2 0 13 10 (fLaw.body.drop 1) ⟨ρ, []⟩ with
    | some (.ret d _) => some d
    | _ => none
end Mine.L1

namespace Mine

theorem intsOf_map : ∀ l : List Int, intsOf (l.map .int) = some l
  | [] => rfl
  | i :: r => by
    show (intsOf (r.map .int)).map (i :: ·) = _
    rw [intsOf_map r]; rfl
theorem subD_at {ds : List Dt} {k : Nat} {d : Dt} (hl : ds.length ≤ 16777216) (e : ds[k]? = some d) : subD (.list ds) (.int k) = some d := by
  have hk := (List.getElem?_eq_some_iff.mp e).1
  show (if ds.length ≤ 16777216 then (idx k ds.length).bind (ds[·]?) else none) = _
  rw [if_pos hl]
  unfold idx
  rw [if_pos (Int.natCast_nonneg k), if_pos (by omega)]
  exact e
theorem subD_neg {ds : List Dt} {k : Nat} {d : Dt} (hl : ds.length ≤ 16777216) (hk0 : 0 < k) (hk : k ≤ ds.length) (e : ds[ds.length - k]? = some d) : subD (.list ds) (.int (-(k : Int))) = some d := by
  show (if ds.length ≤ 16777216 then (idx _ ds.length).bind (ds[·]?) else none) = _
  rw [if_pos hl]
  unfold idx
  rw [if_neg (by omega), if_pos (by omega)]
  show ds[(-(k : Int) + (ds.length : Int)).toNat]? = _
  rw [show (-(k : Int) + (ds.length : Int)).toNat = ds.length - k from by omega]
  exact e
theorem sortI_len (l : List Int) : (sortI l).length = l.length := (sortI_perm l).length_eq
/-- the median: the lower (0) or the higher (1) -/
noncomputable def mid (u : Int) (n : Nat) : Nat := if u = 1 then n / 2 else (n - 1) / 2
noncomputable def med (u : Int) (l : List Int) : Int := (sortI l).getD (mid u l.length) 0
theorem mid_lt {u : Int} {n : Nat} (h : 0 < n) : mid u n < n := by unfold mid; split <;> omega
theorem sub_med {u : Int} {l : List Int} (h : 0 < l.length) (hl : l.length ≤ 4096) : subD (.list ((sortI l).map .int)) (.int (mid u l.length : Nat)) = some (.int (med u l)) := by
  have hm : mid u l.length < (sortI l).length := by rw [sortI_len]; exact mid_lt h
  refine subD_at (by rw [List.length_map, sortI_len]; omega) ?_
  rw [List.getElem?_map, List.getElem?_eq_getElem hm]
  unfold med
  rw [List.getD_eq_getElem?_getD, List.getElem?_eq_getElem hm]; rfl
theorem callF_def {O : Own} {F : Fx} {m n : Nat} {f : Fd} {ds : List Dt} {ρ : Ro} {d : Dt} {σ : List OD} (hl : ds.length = f.params.length) (hρ : entryRo (f.params.zip ds) f.sc = some ρ) (h : runF O F m' m n f.body ⟨ρ, []⟩ = some (.ret d σ)) (e : m' = 0) : callF O F m n f ds = some d := by
  subst e
  unfold callF
  rw [if_pos hl, hρ]
  show (match runF O F 0 m n f.body ⟨ρ, []⟩ with
    | some (.ret d _) => some d
    | _ => none) = _
  rw [h]
theorem eqD_str {a b : Str} (ha : SeqAt.shaped (.str a) = true) (hb : SeqAt.shaped (.str b) = true) : eqD (.str a) (.str b) = some (a == b) := by
  show (if SeqAt.shaped (.str a) && SeqAt.shaped (.str b) then some (PyData.eqv (.str a) (.str b)) else none) = _
  rw [ha, hb]
  rfl
theorem tA1 {I : Ev} {ρ : Ro} {x : Expr} {b : Bool} (h : I.t ρ x = some b) : testAll I ρ [x] = some b := by
  show ((I.t ρ x).bind fun b => if b then testAll I ρ [] else some false) = _
  rw [h]; cases b <;> rfl
end Mine
namespace Mine.L1
noncomputable abbrev iL (l : List Int) : Dt := .list (l.map .int)
noncomputable abbrev bL (l : List Bool) : Dt := .list (l.map .bool)
noncomputable abbrev nL (l : List Nat) : Dt := .list (l.map fun k : Nat => .int (k : Int))
noncomputable def elseS : Stmt → List Stmt
  | .If _ _ o _ => o
  | _ => []
theorem shaped_int (a : Int) : SeqAt.shaped (.int a) = true := rfl
theorem eqD_int (a b : Int) : eqD (.int a) (.int b) = some (a == b) := by
  show (if SeqAt.shaped (.int a) && SeqAt.shaped (.int b) then some (PyData.eqv (.int a) (.int b)) else none) = _
  rw [shaped_int, shaped_int]
  rfl
noncomputable abbrev roM (data n : Bd) : Ro := [("data", .var .loc data), ("n", .var .loc n), ("sorted", .glob), ("len", .glob), ("StatisticsError", .glob)]
section
variable {O : Own} {l : List Int}
theorem high_run (hO : O.sets = true) (h0 : 0 < l.length) (h1 : l.length < 64) : callF O noFx 11 8 fHigh [iL l] = some (.int (med 1 l)) := by
  have hs : (ev O 12).e (roM (.val (iL l)) .unb) (asV (nthS fHigh.body 0)) = some (iL (sortI l)) := by
    have e : (ev O 12).e (roM (.val (iL l)) .unb) (asV (nthS fHigh.body 0)) = if O.sets = true then callD "sorted" [iL l] else none := by kernel_rfl
    rw [e, if_pos hO]
    show (if (l.map Dt.int).length < 64 then (intsOf (l.map .int)).map fun ns => Dt.list ((isort ns).map .int) else none) = _
    rw [if_pos (by rw [List.length_map]; exact h1), intsOf_map]
    rfl
  have hn : (ev O 12).e (roM (.val (iL (sortI l))) .unb) (asV (nthS fHigh.body 1)) = some (.int l.length) := by
    have e : (ev O 12).e (roM (.val (iL (sortI l))) .unb) (asV (nthS fHigh.body 1)) = if O.sets = true then callD "len" [iL (sortI l)] else none := by kernel_rfl
    rw [e, if_pos hO]
    show (if ((sortI l).map Dt.int).length ≤ 16777216 then some (Dt.int ((sortI l).map Dt.int).length) else none) = _
    rw [List.length_map, sortI_len, if_pos (by omega)]
  refine callF_def (ρ := roM (.val (iL l)) .unb) rfl rfl (σ := []) (m' := 0) ?_ rfl
  show exB _ (fHigh.body.drop 0) _ = _
  refine exB_at (s := nthS fHigh.body 0) 0 rfl (exS_val' (st₁ := ⟨roM (.val (iL l)) .unb, []⟩) (ρ' := roM (.val (iL (sortI l))) .unb) rfl rfl (by kernel_rfl) hs (by kernel_rfl)) ?_
  refine exB_at (s := nthS fHigh.body 1) 1 rfl (exS_val' (st₁ := ⟨roM (.val (iL (sortI l))) .unb, []⟩) (ρ' := roM (.val (iL (sortI l))) (.val (.int l.length))) rfl rfl (by kernel_rfl) hn (by kernel_rfl)) ?_
  refine exB_at (s := nthS fHigh.body 2) 2 rfl (st' := ⟨roM (.val (iL (sortI l))) (.val (.int l.length)), []⟩) (exS_if (c := false) ?_ rfl) ?_
  · show eqD (.int l.length) (.int 0) = _
    rw [eqD_int]
    have : ((l.length : Int) == 0) = false := by simp; intro h; simp [h] at h0
    rw [this]
  refine exB_ret (s := nthS fHigh.body 3) 3 rfl (exS_ret ?_)
  have e : (ev O 12).e (roM (.val (iL (sortI l))) (.val (.int l.length))) (asV (nthS fHigh.body 3)) = subD (iL (sortI l)) (.int ((l.length : Int).fdiv 2)) := by kernel_rfl
  have := sub_med (u := 1) h0 (by omega : l.length ≤ 4096)
  have e3 : (l.length : Int).fdiv 2 = ((mid 1 l.length : Nat) : Int) := by
    unfold mid; rw [if_pos rfl, Int.fdiv_eq_ediv_of_nonneg _ (by decide)]; omega
  exact e.trans (by rw [e3]; exact this)
theorem low_run (hO : O.sets = true) (h0 : 0 < l.length) (h1 : l.length < 64) : callF O noFx 11 8 fLow [iL l] = some (.int (med 0 l)) := by
  have hs : (ev O 12).e (roM (.val (iL l)) .unb) (asV (nthS fLow.body 0)) = some (iL (sortI l)) := by
    have e : (ev O 12).e (roM (.val (iL l)) .unb) (asV (nthS fLow.body 0)) = if O.sets = true then callD "sorted" [iL l] else none := by kernel_rfl
    rw [e, if_pos hO]
    show (if (l.map Dt.int).length < 64 then (intsOf (l.map .int)).map fun ns => Dt.list ((isort ns).map .int) else none) = _
    rw [if_pos (by rw [List.length_map]; exact h1), intsOf_map]
    rfl
  have hn : (ev O 12).e (roM (.val (iL (sortI l))) .unb) (asV (nthS fLow.body 1)) = some (.int l.length) := by
    have e : (ev O 12).e (roM (.val (iL (sortI l))) .unb) (asV (nthS fLow.body 1)) = if O.sets = true then callD "len" [iL (sortI l)] else none := by kernel_rfl
    rw [e, if_pos hO]
    show (if ((sortI l).map Dt.int).length ≤ 16777216 then some (Dt.int ((sortI l).map Dt.int).length) else none) = _
    rw [List.length_map, sortI_len, if_pos (by omega)]
  have hsub := sub_med (u := 0) h0 (by omega : l.length ≤ 4096)
  have hmid : mid 0 l.length = (l.length - 1) / 2 := by unfold mid; rw [if_neg (by decide)]
  refine callF_def (ρ := roM (.val (iL l)) .unb) rfl rfl (σ := []) (m' := 0) ?_ rfl
  show exB _ (fLow.body.drop 0) _ = _
  refine exB_at (s := nthS fLow.body 0) 0 rfl (exS_val' (st₁ := ⟨roM (.val (iL l)) .unb, []⟩) (ρ' := roM (.val (iL (sortI l))) .unb) rfl rfl (by kernel_rfl) hs (by kernel_rfl)) ?_
  refine exB_at (s := nthS fLow.body 1) 1 rfl (exS_val' (st₁ := ⟨roM (.val (iL (sortI l))) .unb, []⟩) (ρ' := roM (.val (iL (sortI l))) (.val (.int l.length))) rfl rfl (by kernel_rfl) hn (by kernel_rfl)) ?_
  refine exB_at (s := nthS fLow.body 2) 2 rfl (st' := ⟨roM (.val (iL (sortI l))) (.val (.int l.length)), []⟩) (exS_if (c := false) ?_ rfl) ?_
  · show eqD (.int l.length) (.int 0) = _
    rw [eqD_int]
    have : ((l.length : Int) == 0) = false := by simp; intro h; simp [h] at h0
    rw [this]
  have hp : (l.length : Int).fmod 2 = (l.length : Int) % 2 := Int.fmod_eq_emod_of_nonneg _ (by decide)
  have hq : (l.length : Int).fdiv 2 = (l.length : Int) / 2 := Int.fdiv_eq_ediv_of_nonneg _ (by decide)
  refine exB_ret (s := nthS fLow.body 3) 3 rfl (exS_if (c := (l.length : Int) % 2 == 1) ?_ ?_)
  · have e : (ev O 12).t (lend ⟨roM (.val (iL (sortI l))) (.val (.int l.length)), []⟩) (asV (nthS fLow.body 3)) = eqD (.int ((l.length : Int).fmod 2)) (.int 1) := by kernel_rfl
    exact e.trans (by rw [eqD_int, hp])
  · by_cases hodd : (l.length : Int) % 2 = 1
    · have e0 : ((l.length : Int) % 2 == 1) = true := by simpa using hodd
      rw [e0, if_pos rfl]
      show exB _ ((bodyS (nthS fLow.body 3)).drop 0) _ = _
      refine exB_ret (s := nthS (bodyS (nthS fLow.body 3)) 0) 0 rfl (exS_ret ?_)
      have e : (ev O 12).e (roM (.val (iL (sortI l))) (.val (.int l.length))) (asV (nthS (bodyS (nthS fLow.body 3)) 0)) = subD (iL (sortI l)) (.int ((l.length : Int).fdiv 2)) := by kernel_rfl
      refine e.trans ?_
      rw [hq, show (l.length : Int) / 2 = ((mid 0 l.length : Nat) : Int) from by rw [hmid]; omega]
      exact hsub
    · have e0 : ((l.length : Int) % 2 == 1) = false := by simpa using hodd
      rw [e0, if_neg (by decide)]
      show exB _ ((elseS (nthS fLow.body 3)).drop 0) _ = _
      refine exB_ret (s := nthS (elseS (nthS fLow.body 3)) 0) 0 rfl (exS_ret ?_)
      have e : (ev O 12).e (roM (.val (iL (sortI l))) (.val (.int l.length))) (asV (nthS (elseS (nthS fLow.body 3)) 0)) = subD (iL (sortI l)) (.int ((l.length : Int).fdiv 2 - 1)) := by kernel_rfl
      refine e.trans ?_
      rw [hq, show (l.length : Int) / 2 - 1 = ((mid 0 l.length : Nat) : Int) from by rw [hmid]; omega]
      exact hsub
end
/-- what one rule does to the best reach and the verdict so far -/
noncomputable def stepA (p : Int × Dt) (m : Int) (v : Dt) : Int × Dt :=
  if m = 0 then p else if p.1 < m then (m, v) else if m = p.1 ∧ truthD p.2 = some false then (p.1, v) else p
noncomputable abbrev roA (self filename best allowance line m : Bd) : Ro := [("self", .var .loc self), ("filename", .var .loc filename), ("best_match", .var .loc best), ("allowance", .var .loc allowance), ("line", .var .loc line), ("m", .var .loc m)]
noncomputable abbrev bA := bodyS (nthS fAllow.body 2)

theorem stepA_run {O : Own} {e : Bd} {q al v : Dt} {es : List Dt} {b m : Int} {t : Bool} {mB : Bd} (hm : O.meth 5 es "applies_to" [q] = some (.int m)) (hv : O.attr 5 es "allowance" = some v) (ht : truthD al = some t) :
    exB (exS (ev O 12) noFx 0 7) bA ⟨roA e (.val q) (.val (.int b)) (.val al) (.val (.opq 5 es)) mB, []⟩ = some (.nxt ⟨roA e (.val q) (.val (.int (stepA (b, al) m v).1)) (.val (stepA (b, al) m v).2) (.val (.opq 5 es)) (.val (.int m)), []⟩) := by
  show exB _ (bA.drop 0) _ = _
  refine exB_at (s := nthS bA 0) 0 rfl (st' := ⟨roA e (.val q) (.val (.int b)) (.val al) (.val (.opq 5 es)) (.val (.int m)), []⟩) (exS_val rfl rfl hm rfl) ?_
  refine exB_at (s := nthS bA 1) 1 rfl (st' := ⟨roA e (.val q) (.val (.int (stepA (b, al) m v).1)) (.val (stepA (b, al) m v).2) (.val (.opq 5 es)) (.val (.int m)), []⟩) ?_ rfl
  refine exS_if (c := m != 0) rfl ?_
  unfold stepA
  by_cases h0 : m = 0
  · subst h0; rfl
  · rw [if_neg h0]
    have h0' : (m != 0) = true := by simpa using h0
    rw [h0', if_pos rfl]
    show exB _ ((bodyS (nthS bA 1)).drop 0) _ = _
    refine exB_at (s := nthS (bodyS (nthS bA 1)) 0) 0 rfl (st' := ⟨roA e (.val q) (.val (.int (if b < m then (m, v) else if m = b ∧ truthD al = some false then (b, v) else (b, al)).1)) (.val (if b < m then (m, v) else if m = b ∧ truthD al = some false then (b, v) else (b, al)).2) (.val (.opq 5 es)) (.val (.int m)), []⟩) ?_ rfl
    refine exS_if (c := decide (b < m)) rfl ?_
    by_cases h1 : b < m
    · rw [if_pos h1, decide_eq_true h1, if_pos rfl]
      show exB _ ((bodyS (nthS (bodyS (nthS bA 1)) 0)).drop 0) _ = _
      refine exB_at (s := nthS (bodyS (nthS (bodyS (nthS bA 1)) 0)) 0) 0 rfl (st' := ⟨roA e (.val q) (.val (.int m)) (.val al) (.val (.opq 5 es)) (.val (.int m)), []⟩) rfl ?_
      refine exB_at (s := nthS (bodyS (nthS (bodyS (nthS bA 1)) 0)) 1) 1 rfl (st' := ⟨roA e (.val q) (.val (.int m)) (.val v) (.val (.opq 5 es)) (.val (.int m)), []⟩) (exS_val rfl rfl hv rfl) rfl
    · rw [if_neg h1, decide_eq_false h1, if_neg (by decide)]
      show exB _ ((elseS (nthS (bodyS (nthS bA 1)) 0)).drop 0) _ = _
      refine exB_at (s := nthS (elseS (nthS (bodyS (nthS bA 1)) 0)) 0) 0 rfl (st' := ⟨roA e (.val q) (.val (.int (if m = b ∧ truthD al = some false then (b, v) else (b, al)).1)) (.val (if m = b ∧ truthD al = some false then (b, v) else (b, al)).2) (.val (.opq 5 es)) (.val (.int m)), []⟩) ?_ rfl
      refine exS_if (c := decide (m = b ∧ truthD al = some false)) ?_ ?_
      · show (eqD (.int m) (.int b)).bind (fun b' => match BoolOp.And, b' with
          | .And, false => some false
          | .Or, true => some true
          | _, _ => ((truthD al).map (!·)).bind fun b' => match BoolOp.And, b' with
            | .And, false => some false
            | .Or, true => some true
            | _, _ => some true) = _
        rw [eqD_int, ht]
        by_cases h2 : m = b
        · subst h2; cases t <;> simp
        · have : (m == b) = false := by simpa using h2
          rw [this]; simp [h2]
      by_cases h2 : m = b ∧ truthD al = some false
      · rw [if_pos h2, decide_eq_true h2, if_pos rfl]
        show exB _ ((bodyS (nthS (elseS (nthS (bodyS (nthS bA 1)) 0)) 0)).drop 0) _ = _
        exact exB_at (s := nthS (bodyS (nthS (elseS (nthS (bodyS (nthS bA 1)) 0)) 0)) 0) 0 rfl (st' := ⟨roA e (.val q) (.val (.int b)) (.val v) (.val (.opq 5 es)) (.val (.int m)), []⟩) (exS_val rfl rfl hv rfl) rfl
      · rw [if_neg h2, decide_eq_false h2, if_neg (by decide)]
        rfl

noncomputable def foldA (app : List Dt → Int) (ver : List Dt → Dt) (rs : List (List Dt)) (p : Int × Dt) : Int × Dt := rs.foldl (fun p es => stepA p (app es) (ver es)) p
theorem foldA_run {O : Own} {e : Bd} {q : Dt} {app : List Dt → Int} {ver : List Dt → Dt} : ∀ {rs : List (List Dt)} {b : Int} {al : Dt} {line mB : Bd}, (∀ es ∈ rs, O.meth 5 es "applies_to" [q] = some (.int (app es)) ∧ O.attr 5 es "allowance" = some (ver es) ∧ ∃ t, truthD (ver es) = some t) → (∃ t, truthD al = some t) →
    ∃ line' mB', forGo (exB (exS (ev O 12) noFx 0 7) bA) (tgtS (nthS fAllow.body 2)) (rs.map (.opq 5 ·)) ⟨roA e (.val q) (.val (.int b)) (.val al) line mB, []⟩ = some (.nxt ⟨roA e (.val q) (.val (.int (foldA app ver rs (b, al)).1)) (.val (foldA app ver rs (b, al)).2) line' mB', []⟩)
  | [], b, al, line, mB, _, _ => ⟨line, mB, rfl⟩
  | es :: rs, b, al, line, mB, H, ⟨t, ht⟩ => by
    obtain ⟨h1, h2, t2, h3⟩ := H es List.mem_cons_self
    have ht' : ∃ t, truthD (stepA (b, al) (app es) (ver es)).2 = some t := by
      unfold stepA
      split
      · exact ⟨t, ht⟩
      split
      · exact ⟨t2, h3⟩
      split
      · exact ⟨t2, h3⟩
      · exact ⟨t, ht⟩
    obtain ⟨l', m', ih⟩ := foldA_run (rs := rs) (e := e) (q := q) (app := app) (ver := ver) (b := (stepA (b, al) (app es) (ver es)).1) (al := (stepA (b, al) (app es) (ver es)).2) (line := .val (.opq 5 es)) (mB := .val (.int (app es))) (fun x hx => H x (List.mem_cons_of_mem _ hx)) ht'
    refine ⟨l', m', ?_⟩
    exact forGo_cons rfl (stepA_run h1 h2 ht) ih
theorem allow_run {O : Own} {q : Dt} {app : List Dt → Int} {ver : List Dt → Dt} {rs : List (List Dt)} (H : ∀ es ∈ rs, O.meth 5 es "applies_to" [q] = some (.int (app es)) ∧ O.attr 5 es "allowance" = some (ver es) ∧ ∃ t, truthD (ver es) = some t)
    (hr : O.attr 6 [.list (rs.map (.opq 5 ·))] "rulelines" = some (.list (rs.map (.opq 5 ·)))) : callF O noFx 11 8 fAllow [.opq 6 [.list (rs.map (.opq 5 ·))], q] = some (foldA app ver rs (-1, .bool true)).2 := by
  obtain ⟨l', m', h⟩ := foldA_run (O := O) (e := .val (.opq 6 [.list (rs.map (.opq 5 ·))])) (b := -1) (al := .bool true) (line := .unb) (mB := .unb) H ⟨true, rfl⟩
  have : runF O noFx 0 11 8 fAllow.body ⟨roA (.val (.opq 6 [.list (rs.map (.opq 5 ·))])) (.val q) .unb .unb .unb .unb, []⟩ = some (.ret (foldA app ver rs (-1, .bool true)).2 []) := by
    show exB _ (fAllow.body.drop 0) _ = _
    refine exB_at (s := nthS fAllow.body 0) 0 rfl (st' := ⟨roA (.val (.opq 6 [.list (rs.map (.opq 5 ·))])) (.val q) (.val (.int (-1))) .unb .unb .unb, []⟩) rfl ?_
    refine exB_at (s := nthS fAllow.body 1) 1 rfl (st' := ⟨roA (.val (.opq 6 [.list (rs.map (.opq 5 ·))])) (.val q) (.val (.int (-1))) (.val (.bool true)) .unb .unb, []⟩) rfl ?_
    refine exB_at (s := nthS fAllow.body 2) 2 rfl (exS_for (ds := rs.map (.opq 5 ·)) ?_ h) ?_
    · show ((O.attr 6 [.list (rs.map (.opq 5 ·))] "rulelines").bind iterD) = _
      rw [hr]; rfl
    · exact exB_ret (s := nthS fAllow.body 3) 3 rfl rfl
  show (match runF O noFx 0 11 8 fAllow.body ⟨roA (.val (.opq 6 [.list (rs.map (.opq 5 ·))])) (.val q) .unb .unb .unb .unb, []⟩ with
    | some (.ret d _) => some d
    | _ => none) = _
  rw [this]

/-! the steady pages -/
theorem steady5 : (allBits 5).map (fun l => callF O0 noFx 11 8 fSteady [bL l]) = (allBits 5).map fun l => some (nL (steadyB l)) := by kernel_rfl
theorem steady6 : (allBits 6).map (fun l => callF O0 noFx 11 8 fSteady [bL l]) = (allBits 6).map fun l => some (nL (steadyB l)) := by kernel_rfl
theorem steady7 : (allBits 7).map (fun l => callF O0 noFx 11 8 fSteady [bL l]) = (allBits 7).map fun l => some (nL (steadyB l)) := by kernel_rfl
theorem of_maps {α β : Type} {f g : α → β} {l : List α} (h : l.map f = l.map g) {a : α} (ha : a ∈ l) : f a = g a := by
  induction l with
  | nil => cases ha
  | cons x r ih =>
    rw [List.map_cons, List.map_cons, List.cons.injEq] at h
    rcases List.mem_cons.mp ha with rfl | ha
    · exact h.1
    · exact ih h.2 ha
noncomputable def Sz (n : Nat) : Prop := n = 5 ∨ n = 6 ∨ n = 7
theorem steady_run {l : List Bool} (h : Sz l.length) : callF O0 noFx 11 8 fSteady [bL l] = some (nL (steadyB l)) := by
  have hm := mem_allBits l
  rcases h with e | e | e <;> rw [e] at hm
  · exact of_maps steady5 hm
  · exact of_maps steady6 hm
  · exact of_maps steady7 hm
theorem ok_bits {l : List Bool} (h : Sz l.length) : okBits l = true := by
  have hm := mem_allBits l
  rcases h with e | e | e <;> rw [e] at hm
  · exact List.all_eq_true.mp ok5 l hm
  · exact List.all_eq_true.mp ok6 l hm
  · exact List.all_eq_true.mp ok7 l hm

/-! the windows -/
noncomputable def wGo : Int → List Int → List (List Int)
  | _, [] => []
  | p, [x] => [[x, p, x]]
  | p, x :: y :: r => [y, p, x] :: wGo x (y :: r)
noncomputable def wins : List Int → List (List Int)
  | [] => []
  | x :: r => wGo x (x :: r)
theorem consL {α : Type} {n : Nat} : ∀ {l : List α}, l.length = n + 1 → ∃ a r, l = a :: r ∧ r.length = n
  | a :: r, h => ⟨a, r, rfl, Nat.succ.inj h⟩
theorem len5 {α : Type} {l : List α} (h : l.length = 5) : ∃ a b c d e, l = [a, b, c, d, e] := by
  obtain ⟨a, r1, e1, h1⟩ := consL h
  obtain ⟨b, r2, e2, h2⟩ := consL h1
  obtain ⟨c, r3, e3, h3⟩ := consL h2
  obtain ⟨d, r4, e4, h4⟩ := consL h3
  obtain ⟨e, r5, e5, h5⟩ := consL h4
  exact ⟨a, b, c, d, e, by rw [e1, e2, e3, e4, e5, List.length_eq_zero_iff.mp h5]⟩
theorem len6 {α : Type} {l : List α} (h : l.length = 6) : ∃ a b c d e f, l = [a, b, c, d, e, f] := by
  obtain ⟨a, r1, e1, h1⟩ := consL h
  obtain ⟨b, c, d, e, f, e2⟩ := len5 h1
  exact ⟨a, b, c, d, e, f, by rw [e1, e2]⟩
theorem len7 {α : Type} {l : List α} (h : l.length = 7) : ∃ a b c d e f g, l = [a, b, c, d, e, f, g] := by
  obtain ⟨a, r1, e1, h1⟩ := consL h
  obtain ⟨b, c, d, e, f, g, e2⟩ := len6 h1
  exact ⟨a, b, c, d, e, f, g, by rw [e1, e2]⟩
theorem wins_run {l : List Int} (h : Sz l.length) : callF O0 noFx 11 8 fWins [iL l] = some (.list ((wins l).map iL)) := by
  rcases h with e | e | e
  · obtain ⟨a, b, c, d, f, rfl⟩ := len5 e
    kernel_rfl
  · obtain ⟨a, b, c, d, f, g, rfl⟩ := len6 e
    kernel_rfl
  · obtain ⟨a, b, c, d, f, g, k, rfl⟩ := len7 e
    kernel_rfl
end Mine.L1

namespace Mine.L1

noncomputable def aS (k : Nat) : Str := PySem.Txt.mul "a" (k : Int)
noncomputable def absI (a : Int) : Int := if a < 0 then -a else a
theorem absI_nat (a : Int) : absI a = (a.natAbs : Int) := by unfold absI; split <;> omega
noncomputable def upTo (P : Nat → Prop) : Nat → Prop
  | 0 => True
  | n + 1 => upTo P n ∧ P n
theorem upTo_get {P : Nat → Prop} : ∀ {n : Nat}, upTo P n → ∀ {k : Nat}, k < n → P k
  | n + 1, h, k, hk => (Nat.lt_or_eq_of_le (Nat.le_of_lt_succ hk)).elim (fun q => upTo_get h.1 q) fun q => q ▸ h.2
theorem app_run {k : Nat} (h : k < 14) (p n : Int) : appRule [.int p, .int n] [.str (aS k)] = some (.int (n - absI ((k : Int) - p))) :=
  upTo_get (P := fun k : Nat => appRule [.int p, .int n] [.str (aS k)] = some (.int (n - absI ((k : Int) - p)))) (n := 14) ⟨⟨⟨⟨⟨⟨⟨⟨⟨⟨⟨⟨⟨⟨trivial, by kernel_rfl⟩, by kernel_rfl⟩, by kernel_rfl⟩, by kernel_rfl⟩, by kernel_rfl⟩, by kernel_rfl⟩, by kernel_rfl⟩, by kernel_rfl⟩, by kernel_rfl⟩, by kernel_rfl⟩, by kernel_rfl⟩, by kernel_rfl⟩, by kernel_rfl⟩, by kernel_rfl⟩ h
theorem truth_aS {k : Nat} (h : k < 14) : truthD (.str (aS k)) = some (k != 0) :=
  upTo_get (P := fun k : Nat => truthD (.str (aS k)) = some (k != 0)) (n := 14) ⟨⟨⟨⟨⟨⟨⟨⟨⟨⟨⟨⟨⟨⟨trivial, by kernel_rfl⟩, by kernel_rfl⟩, by kernel_rfl⟩, by kernel_rfl⟩, by kernel_rfl⟩, by kernel_rfl⟩, by kernel_rfl⟩, by kernel_rfl⟩, by kernel_rfl⟩, by kernel_rfl⟩, by kernel_rfl⟩, by kernel_rfl⟩, by kernel_rfl⟩, by kernel_rfl⟩ h
theorem shaped_aS {k : Nat} (h : k < 14) : SeqAt.shaped (.str (aS k)) = true :=
  upTo_get (P := fun k : Nat => SeqAt.shaped (.str (aS k)) = true) (n := 14) ⟨⟨⟨⟨⟨⟨⟨⟨⟨⟨⟨⟨⟨⟨trivial, by kernel_rfl⟩, by kernel_rfl⟩, by kernel_rfl⟩, by kernel_rfl⟩, by kernel_rfl⟩, by kernel_rfl⟩, by kernel_rfl⟩, by kernel_rfl⟩, by kernel_rfl⟩, by kernel_rfl⟩, by kernel_rfl⟩, by kernel_rfl⟩, by kernel_rfl⟩, by kernel_rfl⟩ h

/-- the verdict so far -/
noncomputable def enc : Option Nat → Dt
  | none => .bool true
  | some s => .str (aS s)
theorem truth_enc : ∀ {o : Option Nat}, (∀ s, o = some s → s < 14) → truthD (enc o) = some (o != some 0)
  | none, _ => rfl
  | some s, h => (truth_aS (h s rfl)).trans (by cases s <;> rfl)
noncomputable def ruleE (n : Nat) (p : Nat) : List Dt := [.int p, .int n]
theorem fold_answer {n k : Nat} (hk : k < 14) : ∀ (l : List Nat) (b : Int) (o : Option Nat), (∀ s ∈ l, s < 14) → (∀ s, o = some s → s < 14) →
    foldA (fun es => match es with | [.int p, .int n] => n - absI ((k : Int) - p) | _ => 0) verd (l.map (ruleE n)) (b, enc o) = ((answer n k l (b, o)).1, enc (answer n k l (b, o)).2)
  | [], b, o, _, _ => rfl
  | s :: r, b, o, hl, ho => by
    have hs : s < 14 := hl s List.mem_cons_self
    have e1 : stepA (b, enc o) ((n : Int) - absI ((k : Int) - s)) (enc (some s)) = ((astep n k (b, o) s).1, enc (astep n k (b, o) s).2) := by
      unfold stepA astep
      rw [absI_nat]
      dsimp only
      rw [truth_enc ho]
      have e2 : (some (o != some 0) = some false) ↔ o = some 0 := by simp
      split
      · rfl
      split
      · rfl
      by_cases h : (n : Int) - (Int.natAbs ((k : Int) - s) : Int) = b ∧ o = some 0
      · rw [if_pos h, if_pos ⟨h.1, e2.mpr h.2⟩]
      · rw [if_neg h, if_neg fun q => h ⟨q.1, e2.mp q.2⟩]
    have ho' : ∀ x, (astep n k (b, o) s).2 = some x → x < 14 := by
      intro x hx
      unfold astep at hx
      split at hx
      · exact ho x hx
      split at hx
      · cases hx; exact hs
      split at hx
      · cases hx; exact hs
      · exact ho x hx
    have ih := fold_answer (n := n) hk r (astep n k (b, o) s).1 (astep n k (b, o) s).2 (fun x hx => hl x (List.mem_cons_of_mem _ hx)) ho'
    show foldA _ _ (r.map (ruleE n)) (stepA (b, enc o) ((n : Int) - absI ((k : Int) - s)) (enc (some s))) = _
    rw [e1]
    exact ih
noncomputable def rulesD (n : Nat) (l : List Nat) : Dt := .list (l.map fun p => .opq 5 (ruleE n p))
theorem rules_eq (n : Nat) (l : List Nat) : rulesD n l = .list ((l.map (ruleE n)).map (.opq 5 ·)) := by unfold rulesD; rw [List.map_map]; rfl
theorem allow_fn {n k : Nat} (hk : k < 14) {l : List Nat} (hl : ∀ s ∈ l, s < 14) : O2.meth 6 [rulesD n l] "allowance" [.str (aS k)] = some (enc (answer n k l (-1, none)).2) := by
  have H := allow_run (O := O1) (q := .str (aS k)) (app := fun es => match es with | [.int p, .int n] => n - absI ((k : Int) - p) | _ => 0) (ver := verd) (rs := l.map (ruleE n)) (fun es hes => by
    obtain ⟨p, hp, rfl⟩ := List.mem_map.mp hes
    exact ⟨app_run hk _ _, rfl, _, truth_aS (hl p hp)⟩) rfl
  rw [← rules_eq] at H
  have e : O2.meth 6 [rulesD n l] "allowance" [.str (aS k)] = callF O1 noFx 11 8 fAllow [.opq 6 [rulesD n l], .str (aS k)] := rfl
  rw [e, H]
  have := fold_answer (n := n) hk l (-1) none hl (fun _ h => nomatch h)
  exact congrArg (fun z : Int × Dt => some z.2) this
end Mine.L1

namespace Mine
section
variable {I : Ev} {F : Fx} {n₀ n : Nat} {st st₁ : St}
theorem exS_new {x : Str} {fp cp p pos : Pos} {ρ' : Ro} (hg : isGlob st.ρ "Entry" = true) (hp : put st.ρ x (.ins st.σ.length) = some ρ') : exS I F n₀ (n + 1) (.Assign [.Name x p] (.Call (.Name "Entry" fp) [] [] cp) pos) st = some (.nxt ⟨ρ', st.σ ++ [.list []]⟩) := by
  show asgn I n₀ st x _ = _
  unfold asgn
  rw [if_pos ⟨by unfold isNew; exact decide_eq_true rfl, hg⟩, hp]
  rfl
theorem exS_mutI {x m : Str} {xp yp ap cp pos : Pos} {args : List Expr} {ds l l' : List Dt} {i : Nat} (hc : (ap.endLine == cp.line) = true) (hn : args.length ≤ 8) (ht : args.foldl (thE n₀) st = st₁) (hev : evs (I.e st₁.ρ) args = some ds) (ho : ownIns st₁ x = some (i, l)) (hm : mutD m l ds = some l') :
    exS I F n₀ (n + 1) (.Expr (.Call (.Attribute (.Attribute (.Name x xp) "rulelines" yp) m ap) args [] cp) pos) st = some (.nxt ⟨st₁.ρ, st₁.σ.set i (.list l')⟩) := by
  subst ht
  show (if ("rulelines" : Str) = "rulelines" then (if (ap.endLine == cp.line) = false ∨ args.length > 8 then none else mutS I n₀ st (fun st => ownIns st x) m args) else none) = _
  rw [if_pos rfl, if_neg (by rw [hc]; simp; omega)]
  unfold mutS
  rw [hev]
  show (ownIns _ x).bind _ = _
  rw [ho]
  show (mutD m l ds).map _ = _
  rw [hm]; rfl
theorem exS_mut' {x m : Str} {xp ap cp pos : Pos} {args : List Expr} {ds l l' : List Dt} {i : Nat} (hc : (ap.endLine == cp.line) = true) (hn : args.length ≤ 8) (ht : args.foldl (thE n₀) st = st₁) (hev : evs (I.e st₁.ρ) args = some ds) (ho : ownList st₁ x = some (i, l)) (hm : mutD m l ds = some l') :
    exS I F n₀ (n + 1) (.Expr (.Call (.Attribute (.Name x xp) m ap) args [] cp) pos) st = some (.nxt ⟨st₁.ρ, st₁.σ.set i (.list l')⟩) := by
  subst ht; exact exS_mut hc hn hev ho hm
end
end Mine
namespace Mine.L1
noncomputable abbrev roL (script size start k row least greatest told level bits steady record page steps near turn windows more due shown : Bd) : Ro := [("script", .var .cel script), ("size", .var .cel size), ("start", .var .cel start), ("k", .var .cel k), ("row", .var .loc row), ("least", .var .cel least),
  ("greatest", .var .cel greatest), ("told", .var .loc told), ("level", .var .cel level), ("bits", .var .loc bits), ("steady", .var .loc steady), ("record", .var .loc record), ("page", .var .cel page), ("steps", .var .loc steps), ("near", .var .loc near), ("turn", .var .cel turn),
  ("windows", .var .loc windows), ("more", .var .cel more), ("due", .var .loc due), ("shown", .var .loc shown), ("len", .glob), ("range", .glob), ("min", .glob), ("max", .glob), ("sorted", .glob), ("set", .glob), ("_law_steady", .glob), ("Entry", .glob), ("enumerate", .glob), ("abs", .glob), ("_law_windows", .glob), ("all", .glob)]
noncomputable def Plain (b : Bd) : Prop := b = .unb ∨ ∃ d, b = .val d
theorem entry_ro (d : Dt) : entryRo [("script", d)] fLaw.sc = some (roL (.val d) .unb .unb .unb .unb .unb .unb .unb .unb .unb .unb .unb .unb .unb .unb .unb .unb .unb .unb .unb) := by kernel_rfl
noncomputable abbrev b7 := bodyS (nthS fLaw.body 7)
noncomputable abbrev b76 := bodyS (nthS b7 6)
section
variable {P : Own} {script start k row least greatest told level bits steady record page steps near turn windows more due shown : Bd} {L : Int} {r : List Int} {n : Nat}
/-- bits -/
theorem bits_ev : (ev P 14).e (roL script (.val (.int n)) start k (.val (iL r)) least greatest told (.val (.int L)) bits steady record page steps near turn windows more due shown) (asV (nthS b7 0)) = some (bL (r.map fun x => decide (L ≤ x))) ∨ 4096 < r.length := by
  by_cases h : r.length ≤ 4096
  · left
    refine Eq.trans (comp_map (n := 13) (ds := r.map .int) (f := fun d => match d with | .int x => .bool (decide (L ≤ x)) | _ => .none) (ρ' := [(".0", .var .loc .unb), ("x", .var .loc .unb), ("level", .var .fre (.val (.int L)))]) (by kernel_rfl) rfl (by kernel_rfl) (by kernel_rfl) ?_ (by rw [List.length_map]; exact h)) ?_
    · intro d hd
      obtain ⟨i, hi, rfl⟩ := List.mem_map.mp hd
      exact ⟨[(".0", .var .loc .unb), ("x", .var .loc (.val (.int i))), ("level", .var .fre (.val (.int L)))], by kernel_rfl, by kernel_rfl⟩
    · simp only [bL, List.map_map]; rfl
  · right; omega
theorem steady_ev {d : Dt} : (ev P 14).e (roL script (.val (.int n)) start k row least greatest told level (.val d) steady record page steps near turn windows more due shown) (asV (nthS b7 1)) = P.fn "_law_steady" [d] := by kernel_rfl
theorem pick2 : ∀ (ds : List Dt), ds.length ≤ 7 → pickD ds none none (some 2) = evens ds ∧ pickD ds (some 1) none (some 2) = odds ds
  | [], _ => ⟨by kernel_rfl, by kernel_rfl⟩
  | [_], _ => ⟨by kernel_rfl, by kernel_rfl⟩
  | [_, _], _ => ⟨by kernel_rfl, by kernel_rfl⟩
  | [_, _, _], _ => ⟨by kernel_rfl, by kernel_rfl⟩
  | [_, _, _, _], _ => ⟨by kernel_rfl, by kernel_rfl⟩
  | [_, _, _, _, _], _ => ⟨by kernel_rfl, by kernel_rfl⟩
  | [_, _, _, _, _, _], _ => ⟨by kernel_rfl, by kernel_rfl⟩
  | [_, _, _, _, _, _, _], _ => ⟨by kernel_rfl, by kernel_rfl⟩
  | _ :: _ :: _ :: _ :: _ :: _ :: _ :: _ :: _, h => by simp at h
theorem evens_map {α β : Type} (f : α → β) : ∀ (l : List α), (evens l).map f = evens (l.map f)
  | [] => rfl
  | [_] => rfl
  | x :: y :: r => by show f x :: (evens r).map f = _; rw [evens_map f r]; rfl
theorem odds_map {α β : Type} (f : α → β) : ∀ (l : List α), (odds l).map f = odds (l.map f)
  | [] => rfl
  | x :: r => evens_map f r
theorem evens_mem {α : Type} : ∀ (l : List α) (x : α), x ∈ evens l → x ∈ l
  | [], _, h => h
  | [_], _, h => h
  | a :: b :: r, x, h => by
    rcases List.mem_cons.mp h with rfl | h
    · exact List.mem_cons_self
    · exact List.mem_cons_of_mem _ (List.mem_cons_of_mem _ (evens_mem r x h))
theorem shuf_mem {α : Type} {l : List α} {x : α} (h : x ∈ shuf l) : x ∈ l := by
  rcases List.mem_append.mp h with h | h
  · exact evens_mem l x h
  · cases l with
    | nil => exact h
    | cons a r => exact List.mem_cons_of_mem _ (evens_mem r x h)
theorem evens_len {α : Type} : ∀ (l : List α), (evens l).length ≤ l.length
  | [] => Nat.le_refl _
  | [_] => Nat.le_refl _
  | a :: b :: r => by have := evens_len r; show (evens r).length + 1 ≤ r.length + 1 + 1; omega
theorem shuf_len {α : Type} (l : List α) : (shuf l).length ≤ 2 * l.length := by
  unfold shuf
  rw [List.length_append]
  have h1 := evens_len l
  have h2 : (odds l).length ≤ l.length := by
    cases l with
    | nil => exact Nat.le_refl _
    | cons a r => have := evens_len r; show (evens r).length ≤ r.length + 1; omega
  omega
theorem itE {O : Own} {f : Nat} {ρ : Ro} {it : Expr} {st : List Nat} {a b : Expr} {bp : Pos} (he : it = .BinOp a .Add b bp) (h1 : (ev O f).e ρ a = some (nL (evens st))) (h2 : (ev O f).e ρ b = some (nL (odds st))) (hl : st.length ≤ 7) : (ev O (f + 1)).e ρ it = some (nL (shuf st)) := by
  subst he
  show (((ev O f).e ρ a).bind fun x => ((ev O f).e ρ b).bind fun y => binD .Add x y) = _
  rw [h1, h2]
  show (if ((evens st).map _).length + ((odds st).map _).length ≤ 4096 then some (Dt.list _) else none) = _
  have := shuf_len st
  unfold shuf at this
  rw [List.length_append] at this
  rw [if_pos (by rw [List.length_map, List.length_map]; omega)]
  unfold nL shuf
  rw [List.map_append]
theorem slice_ev {O : Own} {f : Nat} {ρ : Ro} {v : Expr} {lo st : Option Expr} {p q : Pos} {ds : List Dt} {l k : Option Int} (hv : (ev O f).e ρ v = some (.list ds)) (h1 : evOpt ((ev O f).e ρ) lo = some l) (h3 : evOpt ((ev O f).e ρ) st = some k) (hk : k ≠ some 0) (hl : ds.length ≤ 4096) :
    (ev O (f + 1)).e ρ (.Subscript v (.Slice lo none st p) q) = some (.list (pickD ds l none k)) := by
  show (((ev O f).e ρ v).bind fun a => (evOpt ((ev O f).e ρ) lo).bind fun l => (some none : Option (Option Int)).bind fun h => (evOpt ((ev O f).e ρ) st).bind fun k => (match a with
      | .list ds => if k = some 0 ∨ ds.length > 4096 then none else some (Dt.list (pickD ds l h k))
      | _ => none)) = _
  rw [hv, h1, h3]
  show (if k = some 0 ∨ ds.length > 4096 then none else some (Dt.list (pickD ds l none k))) = _
  rw [if_neg (by rintro (h | h); exact hk h; omega)]
noncomputable abbrev genOf : Expr → Expr
  | .ListComp _ (⟨_, it, _, _⟩ :: _) _ _ => it
  | e => e
noncomputable abbrev opL : Expr → Expr
  | .BinOp l _ _ _ => l
  | .Compare l _ _ _ => l
  | e => e
noncomputable abbrev opR : Expr → Expr
  | .BinOp _ _ r _ => r
  | .Compare _ _ (r :: _) _ => r
  | e => e
theorem rules_it {st : List Nat} (hl : st.length ≤ 7) : (ev P 13).e (roL script (.val (.int n)) start k row least greatest told level bits (.val (nL st)) record page steps near turn windows more due shown) (genOf (argE (asV (nthS b7 3)) 0)) = some (nL (shuf st)) := by
  have hl' : (st.map fun k : Nat => Dt.int (k : Int)).length ≤ 7 := by rw [List.length_map]; exact hl
  obtain ⟨q1, q2⟩ := pick2 _ hl'
  refine itE (a := opL (genOf (argE (asV (nthS b7 3)) 0))) (b := opR (genOf (argE (asV (nthS b7 3)) 0))) rfl ?_ ?_ hl
  · refine (slice_ev (ds := st.map fun k : Nat => Dt.int (k : Int)) (l := none) (k := some 2) (by kernel_rfl) rfl rfl (by decide) (by omega)).trans ?_
    rw [q1, ← evens_map]
  · refine (slice_ev (ds := st.map fun k : Nat => Dt.int (k : Int)) (l := some 1) (k := some 2) (by kernel_rfl) rfl rfl (by decide) (by omega)).trans ?_
    rw [q2, ← odds_map]
theorem rules_ev {st : List Nat} (hl : st.length ≤ 7) (hs : ∀ s ∈ st, s < 14) (hp : Plain page) (hP : ∀ s : Nat, s < 14 → P.fn "_law_rule" [.int s, .int n] = some (.opq 5 (ruleE n s))) :
    (ev P 14).e (roL script (.val (.int n)) start k row least greatest told level bits (.val (nL st)) record page steps near turn windows more due shown) (argE (asV (nthS b7 3)) 0) = some (rulesD n (shuf st)) := by
  have h14 := shuf_len st
  refine Eq.trans (comp_map (n := 13) (ds := (shuf st).map fun k : Nat => Dt.int (k : Int)) (f := fun d => match d with | .int x => .opq 5 [.int x, .int n] | _ => .none) (ρ' := [(".0", .var .loc .unb), ("page", .var .loc .unb), ("_law_rule", .glob), ("size", .var .fre (.val (.int n)))]) ?_ rfl (by kernel_rfl) (by kernel_rfl) ?_ (by rw [List.length_map]; omega)) ?_
  · show ((ev P 13).e _ (genOf (argE (asV (nthS b7 3)) 0))).bind iterD = _
    rw [rules_it hl]; rfl
  · intro d hd
    obtain ⟨i, hi, rfl⟩ := List.mem_map.mp hd
    refine ⟨[(".0", .var .loc .unb), ("page", .var .loc (.val (.int (i : Int)))), ("_law_rule", .glob), ("size", .var .fre (.val (.int n)))], by kernel_rfl, ?_⟩
    have e : (ev P 13).e [(".0", .var .loc .unb), ("page", .var .loc (.val (.int (i : Int)))), ("_law_rule", .glob), ("size", .var .fre (.val (.int n)))] (eltE (argE (asV (nthS b7 3)) 0)) = P.fn "_law_rule" [.int (i : Int), .int n] := by kernel_rfl
    exact e.trans (hP i (hs i (shuf_mem hi)))
  · rw [List.map_map]; rfl
end
end Mine.L1

namespace Mine.L1

/-- callees that know sets -/
noncomputable abbrev PS (pf : Str → List Dt → Option Dt) (pm : Nat → List Dt → Str → List Dt → Option Dt) (pa : Nat → List Dt → Str → Option Dt) : Own := ⟨pf, pm, pa, true⟩
theorem at0 {α : Type} (g : List α) (a b : α) : (g ++ [a, b])[g.length]? = some a := by simp
theorem at1 {α : Type} (g : List α) (a b : α) : (g ++ [a, b])[g.length + 1]? = some b := by simp
theorem set1 {α : Type} (g : List α) (a b c : α) : (g ++ [a, b]).set (g.length + 1) c = g ++ [a, c] := by simp
theorem mul_aS {k : Nat} (h : k < 14) : mulD (.str "a") (.int (k : Int)) = some (.str (aS k)) := by
  show (if 0 ≤ (k : Int) ∧ (k : Int) ≤ 1000 ∧ ("a" : Str).length ≤ 16 then some (Dt.str (PySem.Txt.mul "a" (k : Int))) else none) = _
  rw [if_pos ⟨by omega, by omega, by decide⟩]
  rfl
noncomputable def kD (k : Int × Bool × Int × Int) : Dt := .tuple [.int k.1, .bool k.2.1, .int k.2.2.1, .int k.2.2.2]
theorem kD_lt (a b : Int × Bool × Int × Int) : ltD (kD a) (kD b) = some (keyLt a b) := by
  obtain ⟨a1, a2, a3, a4⟩ := a
  obtain ⟨b1, b2, b3, b4⟩ := b
  show ((some (a1 == b1)).bind fun c => if c = true then ((some (a2 == b2)).bind fun c => if c = true then ((some (a3 == b3)).bind fun c => if c = true then ((some (a4 == b4)).bind fun c => if c = true then some false else some (decide (a4 < b4))) else some (decide (a3 < b3))) else some (!a2 && b2)) else some (decide (a1 < b1))) = _
  unfold keyLt
  dsimp only [Option.bind_some]
  by_cases h1 : a1 = b1
  · have e1 : (a1 == b1) = true := by simpa using h1
    rw [e1, if_pos rfl, if_pos h1]
    by_cases h2 : a2 = b2
    · have e2 : (a2 == b2) = true := by simpa using h2
      rw [e2, if_pos rfl, if_pos h2]
      by_cases h3 : a3 = b3
      · have e3 : (a3 == b3) = true := by simpa using h3
        rw [e3, if_pos rfl, if_pos h3]
        by_cases h4 : a4 = b4
        · have e4 : (a4 == b4) = true := by simpa using h4
          rw [e4, if_pos rfl, decide_eq_false (by omega)]
        · have e4 : (a4 == b4) = false := by simpa using h4
          rw [e4, if_neg (by decide)]
      · have e3 : (a3 == b3) = false := by simpa using h3
        rw [e3, if_neg (by decide), if_neg h3]
    · have e2 : (a2 == b2) = false := by simpa using h2
      rw [e2, if_neg (by decide), if_neg h2]
  · have e1 : (a1 == b1) = false := by simpa using h1
    rw [e1, if_neg (by decide), if_neg h1]
theorem best_keys : ∀ (ks : List (Int × Bool × Int × Int)) (b : Int × Bool × Int × Int), bestBy ltD (ks.map kD) (kD b) = some (kD (keyMin ks b))
  | [], _ => rfl
  | a :: r, b => by
    show ((ltD (kD a) (kD b)).bind fun c => if c = true then bestBy ltD (r.map kD) (kD a) else bestBy ltD (r.map kD) (kD b)) = _
    rw [kD_lt]
    show (if keyLt a b = true then bestBy ltD (r.map kD) (kD a) else bestBy ltD (r.map kD) (kD b)) = some (kD (if keyLt a b = true then keyMin r a else keyMin r b))
    rw [best_keys r a, best_keys r b]
    split <;> rfl
section
variable {pf : Str → List Dt → Option Dt} {pm : Nat → List Dt → Str → List Dt → Option Dt} {pa : Nat → List Dt → Str → Option Dt} {script start k row least greatest told level bits steady record page steps near turn windows more due shown : Bd} {L : Int} {r : List Int} {n : Nat}
noncomputable def keyF (p : Int) : Dt → Dt
  | .tuple [.int i, .int s] => .tuple [.int (absI (p - s)), .bool (s == 0), .int (i.fmod 2), .int s]
  | _ => .none
theorem keys_map (page : Nat) : ∀ (l : List Nat) (i : Nat), (enumD i (l.map fun k : Nat => Dt.int (k : Int))).map (keyF page) = (keys page i l).map kD
  | [], _ => rfl
  | s :: r, i => by
    rw [List.map_cons, enumD, List.map_cons, keys_map page r (i + 1), keys, List.map_cons]
    congr 1
    show Dt.tuple [.int (absI ((page : Int) - s)), .bool ((s : Int) == 0), .int ((i : Int).fmod 2), .int s] = Dt.tuple [.int ((Int.natAbs ((page : Int) - s) : Int)), .bool (s == 0), .int ((i % 2 : Nat) : Int), .int s]
    rw [absI_nat]
    have e1 : ((s : Int) == 0) = (s == 0) := by cases s <;> rfl
    have e2 : (i : Int).fmod 2 = ((i % 2 : Nat) : Int) := by rw [Int.fmod_eq_emod_of_nonneg _ (by decide)]; omega
    rw [e1, e2]
noncomputable abbrev subB : Expr → Expr
  | .Subscript v _ _ => v
  | e => e
theorem near_ev {st : List Nat} (hl : st.length ≤ 7) (h0 : st ≠ []) {p : Nat} : (ev (PS pf pm pa) 14).e (roL script (.val (.int n)) start k row least greatest told level bits (.val (nL st)) record (.val (.int p)) steps near turn windows more due shown) (asV (nthS b76 0)) = some (.int (nearB st p)) := by
  have hc : (ev (PS pf pm pa) 12).e (roL script (.val (.int n)) start k row least greatest told level bits (.val (nL st)) record (.val (.int p)) steps near turn windows more due shown) (argE (subB (asV (nthS b76 0))) 0) = some (.list ((keys p 0 st).map kD)) := by
    rw [← keys_map p st 0]
    have hlen : (enumD 0 (st.map fun k : Nat => Dt.int (k : Int))).length = st.length := by
      have := congrArg List.length (keys_map p st 0)
      rw [List.length_map, List.length_map] at this
      rw [this]
      have : ∀ (l : List Nat) (i : Nat), (keys p i l).length = l.length := by
        intro l
        induction l with
        | nil => intro i; rfl
        | cons a r ih => intro i; rw [keys, List.length_cons, ih, List.length_cons]
      exact this st 0
    refine comp_map (n := 11) (ds := enumD 0 (st.map fun k : Nat => Dt.int (k : Int))) (f := keyF p) (ρ' := [(".0", .var .loc .unb), ("place", .var .loc .unb), ("one", .var .loc .unb), ("abs", .glob), ("page", .var .fre (.val (.int p)))]) (by kernel_rfl) rfl (by kernel_rfl) (by kernel_rfl) ?_ (by omega)
    intro d hd
    have : ∀ (l : List Nat) (i : Nat), d ∈ enumD i (l.map fun k : Nat => Dt.int (k : Int)) → ∃ a b : Int, d = .tuple [.int a, .int b] := by
      intro l
      induction l with
      | nil => intro i h; cases h
      | cons a r ih =>
        intro i h
        rw [List.map_cons, enumD] at h
        rcases List.mem_cons.mp h with rfl | h
        · exact ⟨_, _, rfl⟩
        · exact ih _ h
    obtain ⟨a, b, rfl⟩ := this st 0 hd
    exact ⟨[(".0", .var .loc .unb), ("place", .var .loc (.val (.int a))), ("one", .var .loc (.val (.int b))), ("abs", .glob), ("page", .var .fre (.val (.int p)))], by kernel_rfl, by kernel_rfl⟩
  have e : (ev (PS pf pm pa) 14).e (roL script (.val (.int n)) start k row least greatest told level bits (.val (nL st)) record (.val (.int p)) steps near turn windows more due shown) (asV (nthS b76 0)) =
      ((((ev (PS pf pm pa) 12).e (roL script (.val (.int n)) start k row least greatest told level bits (.val (nL st)) record (.val (.int p)) steps near turn windows more due shown) (argE (subB (asV (nthS b76 0))) 0)).bind fun d => (some [] : Option (List Dt)).map (d :: ·)).bind fun ds => callD "min" ds).bind fun a => subD a (.int 3) := by kernel_rfl
  rw [e, hc]
  cases st with
  | nil => exact absurd rfl h0
  | cons a r =>
    have hm : minD (.list ((keys p 0 (a :: r)).map kD)) = some (kD (keyMin (keys p 1 r) ((Int.natAbs ((p : Int) - a) : Int), a == 0, ((0 % 2 : Nat) : Int), (a : Int)))) := best_keys (keys p 1 r) _
    show ((minD (.list ((keys p 0 (a :: r)).map kD))).bind fun a => subD a (.int 3)) = _
    rw [hm]
    show subD (kD _) (.int 3) = some (.int (nearB (a :: r) p))
    unfold nearB
    rfl
end
end Mine.L1

namespace Mine.L1
section
variable {pf : Str → List Dt → Option Dt} {pm : Nat → List Dt → Str → List Dt → Option Dt} {pa : Nat → List Dt → Str → Option Dt} {script start k row least greatest told level bits steady record page steps near turn windows more due shown : Bd} {n : Nat}
/-- what the law's own callees must answer at a row of n pages -/
structure PmOk (pm : Nat → List Dt → Str → List Dt → Option Dt) (n : Nat) (l : List Nat) : Prop where
  al : ∀ k : Nat, k < 14 → pm 6 [rulesD n l] "allowance" [.str (aS k)] = some (enc (answer n k l (-1, none)).2)
theorem far_ev (hn : Sz n) {l : List Nat} (H : PmOk pm n l) (ha : (answer n (2 * n - 1) l (-1, none)).2 = none) :
    (ev (PS pf pm pa) 14).t (roL script (.val (.int n)) start k row least greatest told level bits steady (.val (.opq 6 [rulesD n l])) page steps near turn windows more due shown) (asV (nthS b7 4)) = some false := by
  have e : ∀ m : Nat, 2 * n - 1 = m → m < 14 → (ev (PS pf pm pa) 14).t (roL script (.val (.int n)) start k row least greatest told level bits steady (.val (.opq 6 [rulesD n l])) page steps near turn windows more due shown) (asV (nthS b7 4)) =
      (pm 6 [rulesD n l] "allowance" [.str (aS m)]).bind fun a => (isD a (.bool true)).map (!·) := by
    intro m hm hm'
    rcases hn with rfl | rfl | rfl <;> subst hm <;> kernel_rfl
  have hm : 2 * n - 1 < 14 := by rcases hn with rfl | rfl | rfl <;> decide
  have hc : ((2 * n - 1 : Nat) : Int) = 2 * (n : Int) - 1 := by rcases hn with rfl | rfl | rfl <;> rfl
  rw [e _ rfl hm, H.al _ hm, hc, ha]
  rfl
theorem ask_ev {l : List Nat} (H : PmOk pm n l) {p q : Nat} (hp : p < 14) (hq : q < 14) (ha : (answer n p l (-1, none)).2 = some q) :
    (ev (PS pf pm pa) 14).t (roL script (.val (.int n)) start k row least greatest told level bits steady (.val (.opq 6 [rulesD n l])) (.val (.int (p : Int))) steps (.val (.int (q : Int))) turn windows more due shown) (asV (nthS b76 1)) = some false := by
  have e : (ev (PS pf pm pa) 14).t (roL script (.val (.int n)) start k row least greatest told level bits steady (.val (.opq 6 [rulesD n l])) (.val (.int (p : Int))) steps (.val (.int (q : Int))) turn windows more due shown) (asV (nthS b76 1)) =
      ((((mulD (.str "a") (.int (p : Int))).bind fun d => (some [] : Option (List Dt)).map (d :: ·)).bind fun ds => pm 6 [rulesD n l] "allowance" ds).bind fun a => (mulD (.str "a") (.int (q : Int))).bind fun b => (eqD a b).map (!·)) := by kernel_rfl
  rw [e, mul_aS hp, mul_aS hq]
  show ((pm 6 [rulesD n l] "allowance" [.str (aS p)]).bind fun a => (eqD a (.str (aS q))).map (!·)) = _
  rw [H.al p hp, ha]
  show (eqD (.str (aS q)) (.str (aS q))).map (!·) = _
  rw [eqD_str (shaped_aS hq) (shaped_aS hq)]
  simp
theorem step_ev {p q : Int} : evs ((ev (PS pf pm pa) 14).e (roL script (.val (.int n)) start k row least greatest told level bits steady record (.val (.int p)) steps (.val (.int q)) turn windows more due shown)) [argE (asV (nthS b76 2)) 0] = some [.int (absI (p - q))] := by kernel_rfl

theorem lend_ro {σ : List OD} : lend ⟨roL script (.val (.int n)) start k row least greatest told level bits steady record page steps near turn windows more due shown, σ⟩ = roL (script.thaw σ) (.val (.int n)) (start.thaw σ) (k.thaw σ) (row.thaw σ) (least.thaw σ) (greatest.thaw σ) (told.thaw σ) (level.thaw σ) (bits.thaw σ) (steady.thaw σ) (record.thaw σ) (page.thaw σ) (steps.thaw σ) (near.thaw σ) (turn.thaw σ) (windows.thaw σ) (more.thaw σ) (due.thaw σ) (shown.thaw σ) := by kernel_rfl
theorem all_rule (n : Nat) : ∀ l : List Nat, allRule (l.map fun p => .opq 5 (ruleE n p)) = true
  | [] => rfl
  | a :: r => all_rule n r
theorem thaw_rec {σ : List OD} {i : Nat} (n : Nat) (l : List Nat) (h : σ[i]? = some (.list (l.map fun p => .opq 5 (ruleE n p)))) : (Bd.ins i).thaw σ = .val (.opq 6 [rulesD n l]) := by
  show (match σ[i]? with
    | some (.list ds) => if allRule ds = true then Bd.val (.opq 6 [.list ds]) else .unb
    | _ => .unb) = _
  rw [h]
  show (if allRule _ = true then Bd.val (.opq 6 [.list _]) else .unb) = _
  rw [if_pos (all_rule n l)]
  rfl
theorem lend_rec {σ : List OD} {i : Nat} {l : List Nat} (h : σ[i]? = some (.list (l.map fun p => .opq 5 (ruleE n p)))) : lend ⟨roL script (.val (.int n)) start k row least greatest told level bits steady (.ins i) page steps near turn windows more due shown, σ⟩ =
    roL (script.thaw σ) (.val (.int n)) (start.thaw σ) (k.thaw σ) (row.thaw σ) (least.thaw σ) (greatest.thaw σ) (told.thaw σ) (level.thaw σ) (bits.thaw σ) (steady.thaw σ) (.val (.opq 6 [rulesD n l])) (page.thaw σ) (steps.thaw σ) (near.thaw σ) (turn.thaw σ) (windows.thaw σ) (more.thaw σ) (due.thaw σ) (shown.thaw σ) := by
  rw [lend_ro, thaw_rec n l h]
/-- one page -/
theorem page_turn {g : List OD} {l st : List Nat} {ds : List Dt} (hl : st.length ≤ 7) (h0 : st ≠ []) (H : PmOk pm n l) {p q : Nat} (hp : p < 14) (hq : q < 14) (ha : (answer n p l (-1, none)).2 = some q) (hq' : nearB st p = (q : Int)) (hd : ds.length < 4096) :
    exB (exS (ev (PS pf pm pa) 14) noFx 0 8) b76 ⟨roL script (.val (.int n)) start k row least greatest told level bits (.val (nL st)) (.ins g.length) (.val (.int (p : Int))) (.lst (g.length + 1)) near turn windows more due shown, g ++ [.list (l.map fun p => .opq 5 (ruleE n p)), .list ds]⟩ =
      some (.nxt ⟨roL script (.val (.int n)) start k row least greatest told level bits (.val (nL st)) (.ins g.length) (.val (.int (p : Int))) (.lst (g.length + 1)) (.val (.int (q : Int))) turn windows more due shown, g ++ [.list (l.map fun p => .opq 5 (ruleE n p)), .list (ds ++ [.int (stepB st p : Nat)])]⟩) := by
  show exB _ (b76.drop 0) _ = _
  refine exB_at (s := nthS b76 0) 0 rfl (exS_val' (d := .int (q : Int)) (st₁ := ⟨roL script (.val (.int n)) start k row least greatest told level bits (.val (nL st)) (.ins g.length) (.val (.int (p : Int))) (.lst (g.length + 1)) near turn windows more due shown, g ++ [.list (l.map fun p => .opq 5 (ruleE n p)), .list ds]⟩) (ρ' := roL script (.val (.int n)) start k row least greatest told level bits (.val (nL st)) (.ins g.length) (.val (.int (p : Int))) (.lst (g.length + 1)) (.val (.int (q : Int))) turn windows more due shown) rfl rfl (by kernel_rfl) ((near_ev hl h0).trans (by rw [hq'])) (by kernel_rfl)) ?_
  refine exB_at (s := nthS b76 1) 1 rfl (st' := ⟨roL script (.val (.int n)) start k row least greatest told level bits (.val (nL st)) (.ins g.length) (.val (.int (p : Int))) (.lst (g.length + 1)) (.val (.int (q : Int))) turn windows more due shown, g ++ [.list (l.map fun p => .opq 5 (ruleE n p)), .list ds]⟩) (exS_if' (c := false) (lend_rec (at0 _ _ _)) (ask_ev H hp hq ha) rfl) ?_
  have hm : mutD "append" ds [.int (absI ((p : Int) - q))] = some (ds ++ [.int (absI ((p : Int) - q))]) := by
    show (if ds.length < 4096 then some (ds ++ [Dt.int (absI ((p : Int) - q))]) else none) = _
    rw [if_pos hd]
  refine exB_at (s := nthS b76 2) 2 rfl (exS_mut' (st₁ := ⟨roL script (.val (.int n)) start k row least greatest told level bits (.val (nL st)) (.ins g.length) (.val (.int (p : Int))) (.lst (g.length + 1)) (.val (.int (q : Int))) turn windows more due shown, g ++ [.list (l.map fun p => .opq 5 (ruleE n p)), .list ds]⟩) (i := g.length + 1) (l := ds) rfl (by decide) (by kernel_rfl) step_ev ?_ hm) ?_
  · show (match (g ++ [OD.list (l.map fun p => .opq 5 (ruleE n p)), OD.list ds])[g.length + 1]? with
      | some (.list ds) => some (g.length + 1, ds)
      | _ => none) = _
    rw [at1]
  · show some (Fl.nxt ⟨_, (g ++ [OD.list (l.map fun p => .opq 5 (ruleE n p)), OD.list ds]).set (g.length + 1) _⟩) = _
    rw [set1]
    have : absI ((p : Int) - q) = (stepB st p : Nat) := by rw [absI_nat]; unfold stepB; rw [hq']
    rw [this]
end
end Mine.L1

namespace Mine.L1
section
variable {pf : Str → List Dt → Option Dt} {pm : Nat → List Dt → Str → List Dt → Option Dt} {pa : Nat → List Dt → Str → Option Dt} {script start k row least greatest told level bits steady record page steps near turn windows more due shown : Bd} {n : Nat}
theorem pages_loop {g : List OD} {l st : List Nat} (hl : st.length ≤ 7) (h0 : st ≠ []) (H : PmOk pm n l) : ∀ (ps : List Nat) {ds : List Dt} {page near : Bd}, (∀ p ∈ ps, p < 14 ∧ ∃ q, q < 14 ∧ (answer n p l (-1, none)).2 = some q ∧ nearB st p = (q : Int)) → ds.length + ps.length ≤ 4096 → Plain page →
    ∃ page' near', Plain page' ∧ forGo (exB (exS (ev (PS pf pm pa) 14) noFx 0 8) b76) (tgtS (nthS b7 6)) (ps.map fun k : Nat => Dt.int (k : Int)) ⟨roL script (.val (.int n)) start k row least greatest told level bits (.val (nL st)) (.ins g.length) page (.lst (g.length + 1)) near turn windows more due shown, g ++ [.list (l.map fun p => .opq 5 (ruleE n p)), .list ds]⟩ =
      some (.nxt ⟨roL script (.val (.int n)) start k row least greatest told level bits (.val (nL st)) (.ins g.length) page' (.lst (g.length + 1)) near' turn windows more due shown, g ++ [.list (l.map fun p => .opq 5 (ruleE n p)), .list (ds ++ ps.map fun p => .int (stepB st p : Nat))]⟩)
  | [], ds, page, near, _, _, hp => ⟨page, near, hp, by rw [List.map_nil, List.map_nil, List.append_nil]; rfl⟩
  | p :: ps, ds, page, near, hps, hlen, hp => by
    rw [List.length_cons] at hlen
    obtain ⟨h1, q, h2, h3, h4⟩ := hps p List.mem_cons_self
    obtain ⟨page', near', a, b⟩ := pages_loop hl h0 H ps (ds := ds ++ [.int (stepB st p : Nat)]) (page := .val (.int (p : Int))) (near := .val (.int (q : Int))) (fun x hx => hps x (List.mem_cons_of_mem _ hx)) (by rw [List.length_append, List.length_singleton]; omega) (.inr ⟨_, rfl⟩)
    refine ⟨page', near', a, ?_⟩
    have tr := page_turn (pf := pf) (pa := pa) (script := script) (start := start) (k := k) (row := row) (least := least) (greatest := greatest) (told := told) (level := level) (bits := bits) (near := near) (turn := turn) (windows := windows) (more := more) (due := due) (shown := shown) (g := g) (ds := ds) hl h0 H h1 h2 h3 h4 (by omega)
    have e : ds ++ (p :: ps).map (fun p => Dt.int (stepB st p : Nat)) = (ds ++ [.int (stepB st p : Nat)]) ++ ps.map fun p => Dt.int (stepB st p : Nat) := by simp
    rw [e]
    exact forGo_cons (by kernel_rfl) tr b
/-- the levels -/
noncomputable def lev (r : List Int) : List Int := (isort (dedupI r)).drop 1
theorem drop1 : ∀ (ds : List Dt), ds.length ≤ 7 → pickD ds (some 1) none none = ds.drop 1
  | [], _ => by kernel_rfl
  | [_], _ => by kernel_rfl
  | [_, _], _ => by kernel_rfl
  | [_, _, _], _ => by kernel_rfl
  | [_, _, _, _], _ => by kernel_rfl
  | [_, _, _, _, _], _ => by kernel_rfl
  | [_, _, _, _, _, _], _ => by kernel_rfl
  | [_, _, _, _, _, _, _], _ => by kernel_rfl
  | _ :: _ :: _ :: _ :: _ :: _ :: _ :: _ :: _, h => by simp at h
theorem dedup_len (r : List Int) : (dedupI r).length ≤ r.length := by
  have := (dedup_perm r).length_eq
  have h2 := foldL_len r (l := [])
  rw [List.length_nil] at h2
  omega
theorem lev_len (r : List Int) : (isort (dedupI r)).length ≤ r.length := by
  have := (sortI_perm (dedupI r)).length_eq
  have h2 := dedup_len r
  show (sortI (dedupI r)).length ≤ _
  omega
theorem levels_ev {r : List Int} (hr : r.length ≤ 7) : (ev (PS pf pm pa) 14).e (roL script (.val (.int n)) start k (.val (iL r)) least greatest told level bits steady record page steps near turn windows more due shown) (asV (nthS fLaw.body 7)) = some (iL (lev r)) := by
  have hset : callD "set" [iL r] = some (.opq 2 [iL (dedupI r)]) := by
    show (if (r.map Dt.int).length < 8 then (intsOf (r.map .int)).map fun ns => Dt.opq 2 [.list ((dedupI ns).map .int)] else none) = _
    rw [if_pos (by rw [List.length_map]; omega), intsOf_map]
    rfl
  have hsort : callD "sorted" [.opq 2 [iL (dedupI r)]] = some (iL (isort (dedupI r))) := by
    show ((intsOf ((dedupI r).map .int)).map fun ns => Dt.list ((isort ns).map .int)) = _
    rw [intsOf_map]
    rfl
  have e : (ev (PS pf pm pa) 13).e (roL script (.val (.int n)) start k (.val (iL r)) least greatest told level bits steady record page steps near turn windows more due shown) (subB (asV (nthS fLaw.body 7))) = ((((callD "set" [iL r]).bind fun d => (some [] : Option (List Dt)).map (d :: ·))).bind fun ds => callD "sorted" ds) := by kernel_rfl
  have hv : (ev (PS pf pm pa) 13).e (roL script (.val (.int n)) start k (.val (iL r)) least greatest told level bits steady record page steps near turn windows more due shown) (subB (asV (nthS fLaw.body 7))) = some (iL (isort (dedupI r))) := by
    rw [e, hset]
    exact hsort
  have h7 : ((isort (dedupI r)).map Dt.int).length ≤ 7 := by rw [List.length_map]; have := lev_len r; omega
  refine (slice_ev (l := some 1) (k := none) hv (by kernel_rfl) rfl (by decide) (by omega)).trans ?_
  rw [drop1 _ h7]
  unfold lev
  rw [← List.map_drop]
end
end Mine.L1

namespace Mine.L1
section
variable {pf : Str → List Dt → Option Dt} {pm : Nat → List Dt → Str → List Dt → Option Dt} {pa : Nat → List Dt → Str → Option Dt} {script start k row least greatest told level bits steady record page steps near turn windows more due shown : Bd} {n : Nat}
/-- what the law's own callees answer -/
structure POk (pf : Str → List Dt → Option Dt) (pm : Nat → List Dt → Str → List Dt → Option Dt) (n : Nat) : Prop where
  st : ∀ b : List Bool, b.length = n → pf "_law_steady" [bL b] = some (nL (steadyB b))
  rule : ∀ s : Nat, s < 14 → pf "_law_rule" [.int s, .int n] = some (.opq 5 (ruleE n s))
  al : ∀ l : List Nat, (∀ s ∈ l, s < 14) → PmOk pm n l
noncomputable def bitsOf (r : List Int) (L : Int) : List Bool := r.map fun x => decide (L ≤ x)
noncomputable def stepsOf (b : List Bool) : List Dt := (List.range b.length).map fun p => .int (stepB (steadyB b) p : Nat)
noncomputable def tupD (r : List Int) (L : Int) : Dt := .tuple [.int L, bL (bitsOf r L), .list (stepsOf (bitsOf r L))]
theorem steady_facts5 : ((allBits 5).all fun b => decide ((steadyB b).length ≤ 7) && !(steadyB b).isEmpty && (steadyB b).all fun s => decide (s < 14)) = true := by decide +kernel
theorem steady_facts6 : ((allBits 6).all fun b => decide ((steadyB b).length ≤ 7) && !(steadyB b).isEmpty && (steadyB b).all fun s => decide (s < 14)) = true := by decide +kernel
theorem steady_facts7 : ((allBits 7).all fun b => decide ((steadyB b).length ≤ 7) && !(steadyB b).isEmpty && (steadyB b).all fun s => decide (s < 14)) = true := by decide +kernel
theorem steady_facts {b : List Bool} (h : Sz b.length) : (steadyB b).length ≤ 7 ∧ steadyB b ≠ [] ∧ ∀ s ∈ steadyB b, s < 14 := by
  have key : (decide ((steadyB b).length ≤ 7) && !(steadyB b).isEmpty && (steadyB b).all fun s => decide (s < 14)) = true := by
    have hm := mem_allBits b
    rcases h with e | e | e <;> rw [e] at hm
    · exact List.all_eq_true.mp steady_facts5 b hm
    · exact List.all_eq_true.mp steady_facts6 b hm
    · exact List.all_eq_true.mp steady_facts7 b hm
  simp only [Bool.and_eq_true, decide_eq_true_eq, Bool.not_eq_true', List.all_eq_true] at key
  exact ⟨key.1.1, fun e => by rw [e] at key; simp at key, fun s hs => key.2 s hs⟩
theorem bits_facts {b : List Bool} (h : Sz b.length) : (answer b.length (2 * b.length - 1) (shuf (steadyB b)) (-1, none)).2 = none ∧ ∀ p, p < b.length → (∃ q, q < 14 ∧ (answer b.length p (shuf (steadyB b)) (-1, none)).2 = some q ∧ nearB (steadyB b) p = (q : Int)) ∧
    ∀ t ∈ [1, 2, 3, 4], (rdN maj t b).getD p false = (b.getD p false != (min t (stepB (steadyB b) p) % 2 == 1)) := by
  have hk := ok_bits h
  unfold okBits at hk
  rw [Bool.and_eq_true] at hk
  refine ⟨by simpa using hk.1, fun p hp => ?_⟩
  have := List.all_eq_true.mp hk.2 p (List.mem_range.mpr hp)
  simp only [Bool.and_eq_true, decide_eq_true_eq, beq_iff_eq] at this
  obtain ⟨⟨⟨a, b'⟩, c⟩, d⟩ := this
  have h7 : b.length ≤ 7 := by rcases h with e | e | e <;> omega
  refine ⟨⟨(nearB (steadyB b) p).toNat, by omega, c, by omega⟩, fun t ht => ?_⟩
  have := List.all_eq_true.mp d t ht
  simpa using this

theorem level_turn {r : List Int} {g : List OD} {tds : List Dt} {L : Int} (hn : Sz n) (hr : r.length = n) (H : POk pf pm n) (hp : Plain page) (ht : tds.length < 4096) :
    ∃ page' near', Plain page' ∧ exB (exS (ev (PS pf pm pa) 14) noFx 0 9) b7 ⟨roL script (.val (.int n)) start k (.val (iL r)) least greatest (.lst 0) (.val (.int L)) bits steady record page steps near turn windows more due shown, .list tds :: g⟩ =
      some (.nxt ⟨roL script (.val (.int n)) start k (.val (iL r)) least greatest (.lst 0) (.val (.int L)) (.val (bL (bitsOf r L))) (.val (nL (steadyB (bitsOf r L)))) (.ins (g.length + 1)) page' (.val (.list (stepsOf (bitsOf r L)))) near' turn windows more due shown,
        .list (tds ++ [tupD r L]) :: (g ++ [.list ((shuf (steadyB (bitsOf r L))).map fun p => .opq 5 (ruleE n p)), .gone])⟩) := by
  have hb : (bitsOf r L).length = n := by unfold bitsOf; rw [List.length_map, hr]
  have hS : Sz (bitsOf r L).length := by rw [hb]; exact hn
  obtain ⟨f1, f2, f3⟩ := steady_facts hS
  obtain ⟨a1, a2⟩ := bits_facts hS
  rw [hb] at a1 a2
  have hsh : ∀ s ∈ shuf (steadyB (bitsOf r L)), s < 14 := fun s hs => f3 s (shuf_mem hs)
  have HA := H.al _ hsh
  have h7 : n ≤ 7 := by rcases hn with e | e | e <;> omega
  generalize hbb : bitsOf r L = b at *
  generalize hG : (OD.list tds :: g : List OD) = G
  have hGl : G.length = g.length + 1 := by rw [← hG]; rfl
  obtain ⟨page', near', hp', hloop⟩ := pages_loop (pf := pf) (pa := pa) (script := script) (start := start) (k := k) (row := .val (iL r)) (least := least) (greatest := greatest) (told := .lst 0) (level := .val (.int L)) (bits := .val (bL b)) (turn := turn) (windows := windows) (more := more) (due := due) (shown := shown) (g := G) f1 f2 HA (List.range n) (ds := []) (page := page) (near := near)
    (fun p hp => ⟨by have := List.mem_range.mp hp; omega, (a2 p (List.mem_range.mp hp)).1⟩) (by rw [List.length_range]; simp; omega) hp
  refine ⟨page', near', hp', ?_⟩
  show exB _ (b7.drop 0) _ = _
  have hbits : (ev (PS pf pm pa) 14).e (roL script (.val (.int n)) start k (.val (iL r)) least greatest (.lst 0) (.val (.int L)) bits steady record page steps near turn windows more due shown) (asV (nthS b7 0)) = some (bL b) := by
    rcases bits_ev (P := PS pf pm pa) (script := script) (start := start) (k := k) (least := least) (greatest := greatest) (told := .lst 0) (bits := bits) (steady := steady) (record := record) (page := page) (steps := steps) (near := near) (turn := turn) (windows := windows) (more := more) (due := due) (shown := shown) (L := L) (r := r) (n := n) with e | e
    · rw [e, ← hbb]; rfl
    · omega
  refine exB_at (s := nthS b7 0) 0 rfl (exS_val' (st₁ := ⟨roL script (.val (.int n)) start k (.val (iL r)) least greatest (.lst 0) (.val (.int L)) bits steady record page steps near turn windows more due shown, G⟩) (ρ' := roL script (.val (.int n)) start k (.val (iL r)) least greatest (.lst 0) (.val (.int L)) (.val (bL b)) steady record page steps near turn windows more due shown) rfl rfl (by kernel_rfl) hbits (by kernel_rfl)) ?_
  refine exB_at (s := nthS b7 1) 1 rfl (exS_val' (st₁ := ⟨roL script (.val (.int n)) start k (.val (iL r)) least greatest (.lst 0) (.val (.int L)) (.val (bL b)) steady record page steps near turn windows more due shown, G⟩) (ρ' := roL script (.val (.int n)) start k (.val (iL r)) least greatest (.lst 0) (.val (.int L)) (.val (bL b)) (.val (nL (steadyB b))) record page steps near turn windows more due shown) rfl rfl (by kernel_rfl) (steady_ev.trans (H.st b hb)) (by kernel_rfl)) ?_
  refine exB_at (s := nthS b7 2) 2 rfl (exS_new (ρ' := roL script (.val (.int n)) start k (.val (iL r)) least greatest (.lst 0) (.val (.int L)) (.val (bL b)) (.val (nL (steadyB b))) (.ins G.length) page steps near turn windows more due shown) rfl rfl) ?_
  have hthaw : [argE (asV (nthS b7 3)) 0].foldl (thE 0) (⟨roL script (.val (.int n)) start k (.val (iL r)) least greatest (.lst 0) (.val (.int L)) (.val (bL b)) (.val (nL (steadyB b))) (.ins G.length) page steps near turn windows more due shown, G ++ [.list []]⟩ : St) =
      ⟨roL script (.val (.int n)) start k (.val (iL r)) least greatest (.lst 0) (.val (.int L)) (.val (bL b)) (.val (nL (steadyB b))) (.ins G.length) page steps near turn windows more due shown, G ++ [.list []]⟩ := by
    rcases hp with rfl | ⟨d, rfl⟩ <;> kernel_rfl
  have hrules : evs ((ev (PS pf pm pa) 14).e (roL script (.val (.int n)) start k (.val (iL r)) least greatest (.lst 0) (.val (.int L)) (.val (bL b)) (.val (nL (steadyB b))) (.ins G.length) page steps near turn windows more due shown)) [argE (asV (nthS b7 3)) 0] = some [rulesD n (shuf (steadyB b))] := by
    show (((ev (PS pf pm pa) 14).e _ (argE (asV (nthS b7 3)) 0)).bind fun d => (some [] : Option (List Dt)).map (d :: ·)) = _
    rw [rules_ev f1 f3 hp H.rule]; rfl
  have hsl : (shuf (steadyB b)).length ≤ 4096 := by have := shuf_len (steadyB b); omega
  have hm3 : mutD "extend" [] [rulesD n (shuf (steadyB b))] = some ((shuf (steadyB b)).map fun p => .opq 5 (ruleE n p)) := by
    show (if (0 + ((shuf (steadyB b)).map fun p => Dt.opq 5 (ruleE n p)).length ≤ 4096) then some ([] ++ ((shuf (steadyB b)).map fun p => Dt.opq 5 (ruleE n p))) else none) = _
    rw [if_pos (by rw [List.length_map]; omega), List.nil_append]
  refine exB_at (s := nthS b7 3) 3 rfl (st' := ⟨roL script (.val (.int n)) start k (.val (iL r)) least greatest (.lst 0) (.val (.int L)) (.val (bL b)) (.val (nL (steadyB b))) (.ins G.length) page steps near turn windows more due shown, G ++ [.list ((shuf (steadyB b)).map fun p => .opq 5 (ruleE n p))]⟩) ?_ ?_
  · refine (exS_mutI (i := G.length) (l := []) rfl (by decide) hthaw hrules ?_ hm3).trans ?_
    · show (match (G ++ [OD.list []])[G.length]? with
        | some (.list ds) => some (G.length, ds)
        | _ => none) = _
      simp
    · simp
  refine exB_at (s := nthS b7 4) 4 rfl (st' := ⟨roL script (.val (.int n)) start k (.val (iL r)) least greatest (.lst 0) (.val (.int L)) (.val (bL b)) (.val (nL (steadyB b))) (.ins G.length) page steps near turn windows more due shown, G ++ [.list ((shuf (steadyB b)).map fun p => .opq 5 (ruleE n p))]⟩) (exS_if' (c := false) (lend_rec (by simp)) (far_ev hn HA a1) rfl) ?_
  refine exB_at (s := nthS b7 5) 5 rfl (exS_lst (st₁ := ⟨roL script (.val (.int n)) start k (.val (iL r)) least greatest (.lst 0) (.val (.int L)) (.val (bL b)) (.val (nL (steadyB b))) (.ins G.length) page steps near turn windows more due shown, G ++ [.list ((shuf (steadyB b)).map fun p => .opq 5 (ruleE n p))]⟩) (ds := []) (ρ' := roL script (.val (.int n)) start k (.val (iL r)) least greatest (.lst 0) (.val (.int L)) (.val (bL b)) (.val (nL (steadyB b))) (.ins G.length) page (.lst (G.length + 1)) near turn windows more due shown) (by kernel_rfl) rfl (by decide) ?_) ?_
  · have : (G ++ [OD.list ((shuf (steadyB b)).map fun p => .opq 5 (ruleE n p))]).length = G.length + 1 := by simp
    show put _ _ (.lst (G ++ [OD.list ((shuf (steadyB b)).map fun p => .opq 5 (ruleE n p))]).length) = _
    rw [this]
    kernel_rfl
  have e6 : (G ++ [OD.list ((shuf (steadyB b)).map fun p => .opq 5 (ruleE n p))]) ++ [OD.list []] = G ++ [.list ((shuf (steadyB b)).map fun p => .opq 5 (ruleE n p)), .list []] := by simp
  show exB _ (b7.drop 6) ⟨_, (G ++ [OD.list ((shuf (steadyB b)).map fun p => .opq 5 (ruleE n p))]) ++ [OD.list []]⟩ = _
  rw [e6]
  have hit : iterE (ev (PS pf pm pa) 14) (roL script (.val (.int n)) start k (.val (iL r)) least greatest (.lst 0) (.val (.int L)) (.val (bL b)) (.val (nL (steadyB b))) (.ins G.length) page (.lst (G.length + 1)) near turn windows more due shown) (tgtS (nthS b7 6)) (asV (nthS b7 6)) = some ((List.range n).map fun k : Nat => .int (k : Int)) := by
    rcases hn with rfl | rfl | rfl <;> kernel_rfl
  refine exB_at (s := nthS b7 6) 6 rfl (exS_for' (st₁ := ⟨roL script (.val (.int n)) start k (.val (iL r)) least greatest (.lst 0) (.val (.int L)) (.val (bL b)) (.val (nL (steadyB b))) (.ins G.length) page (.lst (G.length + 1)) near turn windows more due shown, G ++ [OD.list ((shuf (steadyB b)).map fun p => .opq 5 (ruleE n p)), OD.list []]⟩) (by kernel_rfl) hit hloop) ?_
  have hsteps : ([] ++ (List.range n).map fun p => Dt.int (stepB (steadyB b) p : Nat)) = stepsOf b := by unfold stepsOf; rw [List.nil_append, hb]
  rw [hsteps]
  have e7 : G ++ [OD.list ((shuf (steadyB b)).map fun p => .opq 5 (ruleE n p)), OD.list (stepsOf b)] = (G ++ [.list ((shuf (steadyB b)).map fun p => .opq 5 (ruleE n p))]) ++ [.list (stepsOf b)] := by simp
  rw [e7]
  have hthaw7 : [argE (asV (nthS b7 7)) 0].foldl (thE 0) (⟨roL script (.val (.int n)) start k (.val (iL r)) least greatest (.lst 0) (.val (.int L)) (.val (bL b)) (.val (nL (steadyB b))) (.ins G.length) page' (.lst (G.length + 1)) near' turn windows more due shown, (G ++ [OD.list ((shuf (steadyB b)).map fun p => .opq 5 (ruleE n p))]) ++ [OD.list (stepsOf b)]⟩ : St) =
      ⟨roL script (.val (.int n)) start k (.val (iL r)) least greatest (.lst 0) (.val (.int L)) (.val (bL b)) (.val (nL (steadyB b))) (.ins G.length) page' (.val (.list (stepsOf b))) near' turn windows more due shown, (G ++ [OD.list ((shuf (steadyB b)).map fun p => .opq 5 (ruleE n p))]) ++ [.gone]⟩ := by
    have e : [argE (asV (nthS b7 7)) 0].foldl (thE 0) (⟨roL script (.val (.int n)) start k (.val (iL r)) least greatest (.lst 0) (.val (.int L)) (.val (bL b)) (.val (nL (steadyB b))) (.ins G.length) page' (.lst (G.length + 1)) near' turn windows more due shown, (G ++ [OD.list ((shuf (steadyB b)).map fun p => .opq 5 (ruleE n p))]) ++ [OD.list (stepsOf b)]⟩ : St) =
        thaw1 0 ⟨roL script (.val (.int n)) start k (.val (iL r)) least greatest (.lst 0) (.val (.int L)) (.val (bL b)) (.val (nL (steadyB b))) (.ins G.length) page' (.lst (G.length + 1)) near' turn windows more due shown, (G ++ [OD.list ((shuf (steadyB b)).map fun p => .opq 5 (ruleE n p))]) ++ [OD.list (stepsOf b)]⟩ "steps" := by kernel_rfl
    rw [e, thaw_last (k := .loc) (i := G.length + 1) (by simp) (by kernel_rfl)]
    congr 1
  have htup : evs ((ev (PS pf pm pa) 14).e (roL script (.val (.int n)) start k (.val (iL r)) least greatest (.lst 0) (.val (.int L)) (.val (bL b)) (.val (nL (steadyB b))) (.ins G.length) page' (.val (.list (stepsOf b))) near' turn windows more due shown)) [argE (asV (nthS b7 7)) 0] = some [tupD r L] := by
    unfold tupD
    rw [hbb]
    generalize stepsOf b = sb
    kernel_rfl
  have hm7 : mutD "append" tds [tupD r L] = some (tds ++ [tupD r L]) := by
    show (if tds.length < 4096 then some (tds ++ [tupD r L]) else none) = _
    rw [if_pos ht]
  subst hG
  refine exB_at (s := nthS b7 7) 7 rfl (exS_mut' (i := 0) (l := tds) rfl (by decide) hthaw7 htup rfl hm7) ?_
  have e8 : (((OD.list tds :: g) ++ [OD.list ((shuf (steadyB b)).map fun p => .opq 5 (ruleE n p))]) ++ [OD.gone]).set 0 (.list (tds ++ [tupD r L])) = .list (tds ++ [tupD r L]) :: (g ++ [.list ((shuf (steadyB b)).map fun p => .opq 5 (ruleE n p)), .gone]) := by simp
  show some (Fl.nxt ⟨_, (((OD.list tds :: g) ++ [OD.list ((shuf (steadyB b)).map fun p => .opq 5 (ruleE n p))]) ++ [OD.gone]).set 0 (.list (tds ++ [tupD r L]))⟩) = _
  rw [e8]
  rfl
end
end Mine.L1

namespace Mine.L1
section
variable {pf : Str → List Dt → Option Dt} {pm : Nat → List Dt → Str → List Dt → Option Dt} {pa : Nat → List Dt → Str → Option Dt} {script start k row least greatest turn windows more due shown : Bd} {n : Nat}
theorem levels_loop {r : List Int} (hn : Sz n) (hr : r.length = n) (H : POk pf pm n) : ∀ (Ls : List Int) {g : List OD} {tds : List Dt} {level bits steady record page steps near : Bd}, tds.length + Ls.length ≤ 4096 → Plain page → Plain level → Plain bits → Plain steps →
    ∃ g' level' bits' steady' record' page' steps' near', Plain level' ∧ Plain bits' ∧ Plain steps' ∧ forGo (exB (exS (ev (PS pf pm pa) 14) noFx 0 9) b7) (tgtS (nthS fLaw.body 7)) (Ls.map .int) ⟨roL script (.val (.int n)) start k (.val (iL r)) least greatest (.lst 0) level bits steady record page steps near turn windows more due shown, .list tds :: g⟩ =
      some (.nxt ⟨roL script (.val (.int n)) start k (.val (iL r)) least greatest (.lst 0) level' bits' steady' record' page' steps' near' turn windows more due shown, .list (tds ++ Ls.map (tupD r)) :: g'⟩)
  | [], g, tds, level, bits, steady, record, page, steps, near, _, hp, h1, h2, h3 => ⟨g, level, bits, steady, record, page, steps, near, h1, h2, h3, by rw [List.map_nil, List.map_nil, List.append_nil]; rfl⟩
  | L :: Ls, g, tds, level, bits, steady, record, page, steps, near, hlen, hp, h1, h2, h3 => by
    rw [List.length_cons] at hlen
    obtain ⟨page1, near1, p1, e1⟩ := level_turn (pa := pa) (script := script) (start := start) (k := k) (least := least) (greatest := greatest) (bits := bits) (steady := steady) (record := record) (steps := steps) (near := near) (turn := turn) (windows := windows) (more := more) (due := due) (shown := shown) (g := g) (tds := tds) (L := L) hn hr H hp (by omega)
    obtain ⟨g', a1, a2, a3, a4, a5, a6, a7, q1, q2, q3, e2⟩ := levels_loop hn hr H Ls (g := g ++ [.list ((shuf (steadyB (bitsOf r L))).map fun p => .opq 5 (ruleE n p)), .gone]) (tds := tds ++ [tupD r L]) (level := .val (.int L)) (bits := .val (bL (bitsOf r L))) (steady := .val (nL (steadyB (bitsOf r L)))) (record := .ins (g.length + 1)) (page := page1) (steps := .val (.list (stepsOf (bitsOf r L)))) (near := near1)
      (by rw [List.length_append, List.length_singleton]; omega) p1 (.inr ⟨_, rfl⟩) (.inr ⟨_, rfl⟩) (.inr ⟨_, rfl⟩)
    refine ⟨g', a1, a2, a3, a4, a5, a6, a7, q1, q2, q3, ?_⟩
    have e : tds ++ (L :: Ls).map (tupD r) = (tds ++ [tupD r L]) ++ Ls.map (tupD r) := by simp
    rw [e]
    exact forGo_cons (by kernel_rfl) e1 e2
/-- the loop over the levels -/
theorem stmt7 {r : List Int} (hn : Sz n) (hr : r.length = n) (H : POk pf pm n) :
    ∃ g' level' bits' steady' record' page' steps' near', Plain level' ∧ Plain bits' ∧ Plain steps' ∧ exS (ev (PS pf pm pa) 14) noFx 0 10 (nthS fLaw.body 7) ⟨roL script (.val (.int n)) start k (.val (iL r)) least greatest (.lst 0) .unb .unb .unb .unb .unb .unb .unb turn windows more due shown, [.list []]⟩ =
      some (.nxt ⟨roL script (.val (.int n)) start k (.val (iL r)) least greatest (.lst 0) level' bits' steady' record' page' steps' near' turn windows more due shown, .list ((lev r).map (tupD r)) :: g'⟩) := by
  have h7 : r.length ≤ 7 := by rcases hn with e | e | e <;> omega
  have hl : (lev r).length ≤ 7 := by unfold lev; rw [List.length_drop]; have := lev_len r; omega
  obtain ⟨g', a1, a2, a3, a4, a5, a6, a7, q1, q2, q3, e2⟩ := levels_loop (pa := pa) (script := script) (start := start) (k := k) (least := least) (greatest := greatest) (turn := turn) (windows := windows) (more := more) (due := due) (shown := shown) hn hr H (lev r) (g := []) (tds := []) (level := .unb) (bits := .unb) (steady := .unb) (record := .unb) (page := .unb) (steps := .unb) (near := .unb) (by simp; omega) (.inl rfl) (.inl rfl) (.inl rfl) (.inl rfl)
  refine ⟨g', a1, a2, a3, a4, a5, a6, a7, q1, q2, q3, ?_⟩
  have hit : iterE (ev (PS pf pm pa) 14) (roL script (.val (.int n)) start k (.val (iL r)) least greatest (.lst 0) .unb .unb .unb .unb .unb .unb .unb turn windows more due shown) (tgtS (nthS fLaw.body 7)) (asV (nthS fLaw.body 7)) = some ((lev r).map .int) := by
    show ((ev (PS pf pm pa) 14).e _ (asV (nthS fLaw.body 7))).bind iterD = _
    rw [levels_ev h7]; rfl
  exact exS_for' (st₁ := ⟨roL script (.val (.int n)) start k (.val (iL r)) least greatest (.lst 0) .unb .unb .unb .unb .unb .unb .unb turn windows more due shown, [OD.list []]⟩) (by kernel_rfl) hit e2
end
end Mine.L1

namespace Mine.L1
open PySem PySem.W

theorem mid3_p1 {x y z : Int} (h1 : x ≤ y) (h2 : y ≤ z) : mid3 x y z = y := by
  unfold mid3; rw [Int.min_eq_left h1, Int.max_eq_right h1, Int.min_eq_left h2, Int.max_eq_right h1]
theorem mid3_p2 {x y z : Int} (h1 : x ≤ y) (h2 : y ≤ z) : mid3 x z y = y := by
  unfold mid3; rw [Int.min_eq_left (Int.le_trans h1 h2), Int.max_eq_right (Int.le_trans h1 h2), Int.min_eq_right h2, Int.max_eq_right h1]
theorem mid3_c (x y z : Int) : mid3 x y z = mid3 y x z := by unfold mid3; rw [Int.min_comm x y, Int.max_comm x y]
theorem mid3_p3 {x y z : Int} (h1 : x ≤ y) (h2 : y ≤ z) : mid3 y z x = y := by
  unfold mid3; rw [Int.min_eq_left h2, Int.max_eq_right h2, Int.min_eq_right (Int.le_trans h1 h2), Int.max_eq_left h1]
theorem sort3 (a b c : Int) : ∃ x z, sortI [a, b, c] = [x, mid3 a b c, z] ∧ x ≤ mid3 a b c ∧ mid3 a b c ≤ z := by
  have key : ∀ x y z : Int, x ≤ y → y ≤ z → [x, y, z].Perm [a, b, c] → mid3 a b c = y → ∃ x z, sortI [a, b, c] = [x, mid3 a b c, z] ∧ x ≤ mid3 a b c ∧ mid3 a b c ≤ z := fun x y z h1 h2 hp e => by
    refine ⟨x, z, ?_, e ▸ h1, e ▸ h2⟩
    rw [e, ← eq_sortI hp (List.pairwise_cons.mpr ⟨fun w hw => ?_, List.pairwise_cons.mpr ⟨fun w hw => List.mem_singleton.mp hw ▸ h2, List.pairwise_singleton _ _⟩⟩)]
    rcases List.mem_cons.mp hw with rfl | hw
    · exact h1
    · exact List.mem_singleton.mp hw ▸ Int.le_trans h1 h2
  rcases Int.le_total a b with h1 | h1
  · rcases Int.le_total b c with h2 | h2
    · exact key a b c h1 h2 (List.Perm.refl _) (mid3_p1 h1 h2)
    · rcases Int.le_total a c with h3 | h3
      · exact key a c b h3 h2 (List.Perm.cons a (List.Perm.swap b c [])) (mid3_p2 h3 h2)
      · exact key c a b h3 h1 ((List.Perm.swap a c [b]).trans (List.Perm.cons a (List.Perm.swap b c []))) (mid3_p3 h3 h1)
  · rcases Int.le_total a c with h2 | h2
    · exact key b a c h1 h2 (List.Perm.swap a b [c]) ((mid3_c a b c).trans (mid3_p1 h1 h2))
    · rcases Int.le_total b c with h3 | h3
      · exact key b c a h3 h2 ((List.Perm.cons b (List.Perm.swap a c [])).trans (List.Perm.swap a b [c])) ((mid3_c a b c).trans (mid3_p2 h3 h2))
      · exact key c b a h3 h1 ((List.Perm.swap b c [a]).trans ((List.Perm.cons b (List.Perm.swap a c [])).trans (List.Perm.swap a b [c]))) ((mid3_c a b c).trans (mid3_p3 h3 h1))
theorem sort_ext {lo hi a b c : Int} {i j : Nat} {l : List Int} (h1 : ∀ x ∈ [a, b, c], lo ≤ x ∧ x ≤ hi) (hp : (List.replicate i lo ++ [a, b, c] ++ List.replicate j hi).Perm l) : ∃ x z, sortI l = List.replicate i lo ++ [x, mid3 a b c, z] ++ List.replicate j hi := by
  obtain ⟨x, z, e, q1, q2⟩ := sort3 a b c
  refine ⟨x, z, ?_⟩
  have hs : [x, mid3 a b c, z].Perm [a, b, c] := e ▸ sortI_perm [a, b, c]
  have hb : ∀ y ∈ [x, mid3 a b c, z], lo ≤ y ∧ y ≤ hi := fun y hy => h1 y (hs.mem_iff.mp hy)
  have hlh : lo ≤ hi := Int.le_trans (hb x List.mem_cons_self).1 (hb x List.mem_cons_self).2
  refine (eq_sortI (((List.Perm.append_left _ hs).append_right _).trans hp) ?_).symm
  rw [List.pairwise_append, List.pairwise_append]
  refine ⟨⟨List.pairwise_replicate.mpr (.inr (Int.le_refl _)), e ▸ sortI_rises [a, b, c], fun y hy w hw => ?_⟩, List.pairwise_replicate.mpr (.inr (Int.le_refl _)), fun y hy w hw => ?_⟩
  · rw [List.eq_of_mem_replicate hy]; exact (hb w hw).1
  · rw [List.eq_of_mem_replicate hw]
    rcases List.mem_append.mp hy with hy | hy
    · rw [List.eq_of_mem_replicate hy]; exact hlh
    · exact (hb y hy).2
theorem med_ext {lo hi a b c : Int} {i j : Nat} {l : List Int} {u : Int} (h1 : ∀ x ∈ [a, b, c], lo ≤ x ∧ x ≤ hi) (hp : (List.replicate i lo ++ [a, b, c] ++ List.replicate j hi).Perm l) (hm : mid u (i + 3 + j) = i + 1) : med u l = mid3 a b c := by
  obtain ⟨x, z, e⟩ := sort_ext h1 hp
  have hl : l.length = i + 3 + j := by rw [← hp.length_eq]; simp; omega
  unfold med
  rw [hl, hm, e]
  rw [List.getD_eq_getElem?_getD, List.append_assoc, List.getElem?_append_right (by simp)]
  simp
theorem med3 (a b c : Int) : med 0 [a, b, c] = mid3 a b c := by
  obtain ⟨x, z, e, _⟩ := sort3 a b c
  unfold med
  have h1 : mid 0 [a, b, c].length = 1 := by show mid 0 3 = 1; decide
  rw [e, h1]; rfl
theorem mid3_rot (p x y : Int) : mid3 y p x = mid3 p x y := by
  obtain ⟨u, v, e, _⟩ := sort3 p x y
  obtain ⟨u', v', e', _⟩ := sort3 y p x
  have : sortI [y, p, x] = sortI [p, x, y] := eq_sortI ((sortI_perm [y, p, x]).trans ((List.Perm.swap p y [x]).trans (List.Perm.cons p (List.Perm.swap x y [])))) (sortI_rises _)
  rw [e, e'] at this
  exact (List.cons.inj (List.cons.inj this).2).1
theorem wGo_med : ∀ (p : Int) (l : List Int), (wGo p l).map (fun w => mid3 (w.getD 0 0) (w.getD 1 0) (w.getD 2 0)) = rdGo mid3 p l
  | _, [] => rfl
  | p, [x] => by show [mid3 x p x] = [mid3 p x x]; rw [mid3_rot]
  | p, x :: y :: r => by
    rw [wGo, List.map_cons, wGo_med x (y :: r)]
    show mid3 y p x :: _ = mid3 p x y :: _
    rw [mid3_rot]
theorem wins_med (l : List Int) : (wins l).map (fun w => mid3 (w.getD 0 0) (w.getD 1 0) (w.getD 2 0)) = rd mid3 l := by
  cases l with
  | nil => rfl
  | cons x r => exact wGo_med x (x :: r)
theorem wGo_mem : ∀ (p : Int) (l : List Int) (w : List Int), w ∈ wGo p l → ∃ a b c, w = [a, b, c] ∧ ∀ x ∈ [a, b, c], x = p ∨ x ∈ l
  | _, [], _, h => nomatch h
  | p, [x], w, h => by
    cases List.mem_singleton.mp h
    exact ⟨x, p, x, rfl, fun y hy => by
      rcases List.mem_cons.mp hy with rfl | hy
      · exact .inr (.head _)
      · rcases List.mem_cons.mp hy with rfl | hy
        · exact .inl rfl
        · exact .inr hy⟩
  | p, x :: y :: r, w, h => by
    rw [wGo] at h
    rcases List.mem_cons.mp h with e | h
    · exact ⟨y, p, x, e, fun z hz => by
        simp only [List.mem_cons, List.not_mem_nil, or_false] at hz
        rcases hz with rfl | rfl | rfl <;> simp⟩
    · obtain ⟨a, b, c, e, q⟩ := wGo_mem x (y :: r) w h
      refine ⟨a, b, c, e, fun z hz => ?_⟩
      rcases q z hz with rfl | q
      · simp
      · exact .inr (List.mem_cons_of_mem _ q)
theorem wins_mem {l w : List Int} (h : w ∈ wins l) : ∃ a b c, w = [a, b, c] ∧ ∀ x ∈ [a, b, c], x ∈ l := by
  cases l with
  | nil => cases h
  | cons x r =>
    obtain ⟨a, b, c, e, q⟩ := wGo_mem x (x :: r) w h
    refine ⟨a, b, c, e, fun z hz => ?_⟩
    rcases q z hz with rfl | q
    · simp
    · exact q
theorem wGo_len : ∀ (p : Int) (l : List Int), (wGo p l).length = l.length
  | _, [] => rfl
  | _, [_] => rfl
  | p, x :: y :: r => by rw [wGo, List.length_cons, wGo_len x (y :: r)]; rfl
theorem wins_len (l : List Int) : (wins l).length = l.length := by
  cases l with
  | nil => rfl
  | cons x r => exact wGo_len x (x :: r)
end Mine.L1

namespace Mine.L1
noncomputable abbrev b8 := bodyS (nthS fLaw.body 8)
noncomputable abbrev b86 := bodyS (nthS b8 6)
theorem eq_ints {l : List Int} (h : Sz l.length) : eqD (iL l) (iL l) = some true := by
  rcases h with h | h | h
  · obtain ⟨a, b, c, d, e, rfl⟩ := len5 h
    have : eqD (iL [a, b, c, d, e]) (iL [a, b, c, d, e]) = some (a == a && (b == b && (c == c && (d == d && (e == e && true))))) := by kernel_rfl
    rw [this]; simp
  · obtain ⟨a, b, c, d, e, f, rfl⟩ := len6 h
    have : eqD (iL [a, b, c, d, e, f]) (iL [a, b, c, d, e, f]) = some (a == a && (b == b && (c == c && (d == d && (e == e && (f == f && true)))))) := by kernel_rfl
    rw [this]; simp
  · obtain ⟨a, b, c, d, e, f, g, rfl⟩ := len7 h
    have : eqD (iL [a, b, c, d, e, f, g]) (iL [a, b, c, d, e, f, g]) = some (a == a && (b == b && (c == c && (d == d && (e == e && (f == f && (g == g && true))))))) := by kernel_rfl
    rw [this]; simp
/-- a turn's number -/
noncomputable def Tn (t : Nat) : Prop := t = 1 ∨ t = 2 ∨ t = 3 ∨ t = 4
section
variable {pf : Str → List Dt → Option Dt} {pm : Nat → List Dt → Str → List Dt → Option Dt} {pa : Nat → List Dt → Str → Option Dt} {script start k row least greatest told level bits steady record page steps near turn windows more due shown : Bd} {n t : Nat} {lo hi : Int} {r r' : List Int}
/-- the medians -/
structure MdOk (pf : Str → List Dt → Option Dt) : Prop where
  win : ∀ l : List Int, Sz l.length → pf "_law_windows" [iL l] = some (.list ((wins l).map iL))
  low : ∀ l : List Int, 0 < l.length → l.length < 64 → pf "median_low" [iL l] = some (.int (med 0 l))
  high : ∀ l : List Int, 0 < l.length → l.length < 64 → pf "median_high" [iL l] = some (.int (med 1 l))
theorem wins_ev {d : Dt} : (ev (PS pf pm pa) 14).e (roL script (.val (.int n)) start k (.val d) least greatest told level bits steady record page steps near turn windows more due shown) (asV (nthS b8 0)) = pf "_law_windows" [d] := by kernel_rfl
noncomputable def mD : Dt → Dt
  | .list [.int a, .int b, .int c] => .int (mid3 a b c)
  | _ => .none
theorem wins_mD (l : List Int) : ((wins l).map iL).map mD = (rd mid3 l).map .int := by
  rw [← wins_med l, List.map_map, List.map_map]
  apply List.map_congr_left
  intro w hw
  obtain ⟨a, b, c, rfl, _⟩ := wins_mem hw
  rfl
theorem med_ev (H : MdOk pf) (hr : r.length ≤ 4096) : (ev (PS pf pm pa) 14).e (roL script (.val (.int n)) start k row least greatest told level bits steady record page steps near turn (.val (.list ((wins r).map iL))) more due shown) (asV (nthS b8 1)) = some (iL (rd mid3 r)) := by
  refine Eq.trans (comp_map (n := 13) (ds := (wins r).map iL) (f := mD) (ρ' := [(".0", .var .loc .unb), ("three", .var .loc .unb), ("median_low", .glob)]) (by kernel_rfl) rfl (by kernel_rfl) (by kernel_rfl) ?_ (by rw [List.length_map, wins_len]; exact hr)) ?_
  · intro d hd
    obtain ⟨w, hw, rfl⟩ := List.mem_map.mp hd
    obtain ⟨a, b, c, rfl, _⟩ := wins_mem hw
    refine ⟨[(".0", .var .loc .unb), ("three", .var .loc (.val (iL [a, b, c]))), ("median_low", .glob)], by kernel_rfl, ?_⟩
    have e : (ev (PS pf pm pa) 13).e [(".0", .var .loc .unb), ("three", .var .loc (.val (iL [a, b, c]))), ("median_low", .glob)] (eltE (asV (nthS b8 1))) = pf "median_low" [iL [a, b, c]] := by kernel_rfl
    refine e.trans ?_
    rw [H.low _ (by simp) (by show 3 < 64; decide), med3]
    rfl
  · rw [wins_mD]
theorem more_ev (ht : Tn t) : (ev (PS pf pm pa) 14).e (roL script (.val (.int n)) start k row least greatest told level bits steady record page steps near (.val (.int (t : Int))) windows more due shown) (asV (nthS b8 2)) = some (.int (t / 2 * 2 : Nat)) := by
  rcases ht with rfl | rfl | rfl | rfl <;> kernel_rfl
noncomputable abbrev ro3 (three : Bd) (least turn greatest more : Bd) : Ro := [(".0", .var .loc .unb), ("three", .var .loc three), ("median_high", .glob), ("greatest", .var .fre greatest), ("least", .var .fre least), ("more", .var .fre more), ("turn", .var .fre turn)]
noncomputable abbrev ro4 (three : Bd) (greatest turn least more : Bd) : Ro := [(".0", .var .loc .unb), ("three", .var .loc three), ("median_low", .glob), ("greatest", .var .fre greatest), ("least", .var .fre least), ("more", .var .fre more), ("turn", .var .fre turn)]
theorem high_ev (H : MdOk pf) (ht : Tn t) (hr : r.length ≤ 4096) (hb : ∀ x ∈ r, lo ≤ x ∧ x ≤ hi) : (ev (PS pf pm pa) 13).e (roL script (.val (.int n)) start k row (.val (.int lo)) (.val (.int hi)) told level bits steady record page steps near (.val (.int (t : Int))) (.val (.list ((wins r).map iL))) (.val (.int (t / 2 * 2 : Nat))) due shown) (opR (asV (nthS b8 3))) = some (iL (rd mid3 r)) := by
  refine Eq.trans (comp_map (n := 12) (ds := (wins r).map iL) (f := mD) (ρ' := ro3 .unb (.val (.int lo)) (.val (.int (t : Int))) (.val (.int hi)) (.val (.int (t / 2 * 2 : Nat)))) (by kernel_rfl) rfl (by kernel_rfl) (by kernel_rfl) ?_ (by rw [List.length_map, wins_len]; exact hr)) ?_
  · intro d hd
    obtain ⟨w, hw, rfl⟩ := List.mem_map.mp hd
    obtain ⟨a, b, c, rfl, hm⟩ := wins_mem hw
    refine ⟨ro3 (.val (iL [a, b, c])) (.val (.int lo)) (.val (.int (t : Int))) (.val (.int hi)) (.val (.int (t / 2 * 2 : Nat))), by kernel_rfl, ?_⟩
    have hb' : ∀ x ∈ [a, b, c], lo ≤ x ∧ x ≤ hi := fun x hx => hb x (hm x hx)
    have e : (ev (PS pf pm pa) 12).e (ro3 (.val (iL [a, b, c])) (.val (.int lo)) (.val (.int (t : Int))) (.val (.int hi)) (.val (.int (t / 2 * 2 : Nat)))) (eltE (opR (asV (nthS b8 3)))) = pf "median_high" [iL ([a, b, c] ++ List.replicate t lo ++ List.replicate (t / 2 * 2) hi)] := by
      rcases ht with rfl | rfl | rfl | rfl <;> kernel_rfl
    have hl : ([a, b, c] ++ List.replicate t lo ++ List.replicate (t / 2 * 2) hi).length = 3 + t + t / 2 * 2 := by simp; omega
    have h4 : t ≤ 4 := by rcases ht with rfl | rfl | rfl | rfl <;> decide
    refine e.trans ?_
    rw [H.high _ (by omega) (by omega)]
    rw [med_ext (i := t) (j := t / 2 * 2) hb' (List.Perm.append_right _ List.perm_append_comm) (by rcases ht with rfl | rfl | rfl | rfl <;> decide)]
    rfl
  · rw [wins_mD]
theorem low_ev (H : MdOk pf) (ht : Tn t) (hr : r.length ≤ 4096) (hb : ∀ x ∈ r, lo ≤ x ∧ x ≤ hi) : (ev (PS pf pm pa) 13).e (roL script (.val (.int n)) start k row (.val (.int lo)) (.val (.int hi)) told level bits steady record page steps near (.val (.int (t : Int))) (.val (.list ((wins r).map iL))) (.val (.int (t / 2 * 2 : Nat))) due shown) (opR (asV (nthS b8 4))) = some (iL (rd mid3 r)) := by
  refine Eq.trans (comp_map (n := 12) (ds := (wins r).map iL) (f := mD) (ρ' := ro4 .unb (.val (.int hi)) (.val (.int (t : Int))) (.val (.int lo)) (.val (.int (t / 2 * 2 : Nat)))) (by kernel_rfl) rfl (by kernel_rfl) (by kernel_rfl) ?_ (by rw [List.length_map, wins_len]; exact hr)) ?_
  · intro d hd
    obtain ⟨w, hw, rfl⟩ := List.mem_map.mp hd
    obtain ⟨a, b, c, rfl, hm⟩ := wins_mem hw
    refine ⟨ro4 (.val (iL [a, b, c])) (.val (.int hi)) (.val (.int (t : Int))) (.val (.int lo)) (.val (.int (t / 2 * 2 : Nat))), by kernel_rfl, ?_⟩
    have hb' : ∀ x ∈ [a, b, c], lo ≤ x ∧ x ≤ hi := fun x hx => hb x (hm x hx)
    have e : (ev (PS pf pm pa) 12).e (ro4 (.val (iL [a, b, c])) (.val (.int hi)) (.val (.int (t : Int))) (.val (.int lo)) (.val (.int (t / 2 * 2 : Nat)))) (eltE (opR (asV (nthS b8 4)))) = pf "median_low" [iL (List.replicate t hi ++ [a, b, c] ++ List.replicate (t / 2 * 2) lo)] := by
      rcases ht with rfl | rfl | rfl | rfl <;> kernel_rfl
    have hl : (List.replicate t hi ++ [a, b, c] ++ List.replicate (t / 2 * 2) lo).length = 3 + t + t / 2 * 2 := by simp; omega
    have h4 : t ≤ 4 := by rcases ht with rfl | rfl | rfl | rfl <;> decide
    refine e.trans ?_
    rw [H.low _ (by omega) (by omega)]
    have hp : (List.replicate (t / 2 * 2) lo ++ [a, b, c] ++ List.replicate t hi).Perm (List.replicate t hi ++ [a, b, c] ++ List.replicate (t / 2 * 2) lo) := by
      rw [List.append_assoc, List.append_assoc]
      refine List.perm_append_comm.trans ?_
      rw [List.append_assoc]
      exact (List.perm_append_comm (l₁ := [a, b, c])).trans (by rw [List.append_assoc]; exact List.Perm.append_left _ List.perm_append_comm)
    rw [med_ext (i := t / 2 * 2) (j := t) hb' hp (by rcases ht with rfl | rfl | rfl | rfl <;> decide)]
    rfl
  · rw [wins_mD]
theorem test3_ev (H : MdOk pf) (ht : Tn t) (hr : Sz r.length) (hb : ∀ x ∈ r, lo ≤ x ∧ x ≤ hi) : (ev (PS pf pm pa) 14).t (roL script (.val (.int n)) start k (.val (iL (rd mid3 r))) (.val (.int lo)) (.val (.int hi)) told level bits steady record page steps near (.val (.int (t : Int))) (.val (.list ((wins r).map iL))) (.val (.int (t / 2 * 2 : Nat))) due shown) (asV (nthS b8 3)) = some false := by
  have e : ∀ ρ : Ro, ρ.lookup ("row" : Str) = some (.var .loc (.val (iL (rd mid3 r)))) → (ev (PS pf pm pa) 14).t ρ (asV (nthS b8 3)) = ((ev (PS pf pm pa) 13).e ρ (opL (asV (nthS b8 3)))).bind fun a => ((ev (PS pf pm pa) 13).e ρ (opR (asV (nthS b8 3)))).bind fun b => (eqD a b).map (!·) := by
    intro ρ _; kernel_rfl
  have hl : (ev (PS pf pm pa) 13).e (roL script (.val (.int n)) start k (.val (iL (rd mid3 r))) (.val (.int lo)) (.val (.int hi)) told level bits steady record page steps near (.val (.int (t : Int))) (.val (.list ((wins r).map iL))) (.val (.int (t / 2 * 2 : Nat))) due shown) (opL (asV (nthS b8 3))) = some (iL (rd mid3 r)) := by kernel_rfl
  rw [e _ rfl, hl, high_ev H ht (by rcases hr with h | h | h <;> omega) hb]
  show (eqD _ _).map _ = _
  rw [eq_ints (by rw [rd_len]; exact hr)]
  rfl
theorem test4_ev (H : MdOk pf) (ht : Tn t) (hr : Sz r.length) (hb : ∀ x ∈ r, lo ≤ x ∧ x ≤ hi) : (ev (PS pf pm pa) 14).t (roL script (.val (.int n)) start k (.val (iL (rd mid3 r))) (.val (.int lo)) (.val (.int hi)) told level bits steady record page steps near (.val (.int (t : Int))) (.val (.list ((wins r).map iL))) (.val (.int (t / 2 * 2 : Nat))) due shown) (asV (nthS b8 4)) = some false := by
  have e : ∀ ρ : Ro, (ev (PS pf pm pa) 14).t ρ (asV (nthS b8 4)) = ((ev (PS pf pm pa) 13).e ρ (opL (asV (nthS b8 4)))).bind fun a => ((ev (PS pf pm pa) 13).e ρ (opR (asV (nthS b8 4)))).bind fun b => (eqD a b).map (!·) := by
    intro ρ; kernel_rfl
  have hl : (ev (PS pf pm pa) 13).e (roL script (.val (.int n)) start k (.val (iL (rd mid3 r))) (.val (.int lo)) (.val (.int hi)) told level bits steady record page steps near (.val (.int (t : Int))) (.val (.list ((wins r).map iL))) (.val (.int (t / 2 * 2 : Nat))) due shown) (opL (asV (nthS b8 4))) = some (iL (rd mid3 r)) := by kernel_rfl
  rw [e, hl, low_ev H ht (by rcases hr with h | h | h <;> omega) hb]
  show (eqD _ _).map _ = _
  rw [eq_ints (by rw [rd_len]; exact hr)]
  rfl
end
end Mine.L1

namespace Mine.L1
/-- a page's number after t rounds -/
noncomputable def at' (r : List Int) (t k : Nat) : Int := (rdN mid3 t r).getD k 0
theorem tell_bit {r : List Int} (hr : Sz r.length) {t k : Nat} (ht : Tn t) (hk : k < r.length) (L : Int) : ((bitsOf r L).getD k false != (min t (stepB (steadyB (bitsOf r L)) k) % 2 == 1)) = decide (L ≤ at' r t k) := by
  have hb : (bitsOf r L).length = r.length := by unfold bitsOf; rw [List.length_map]
  have hS : Sz (bitsOf r L).length := by rw [hb]; exact hr
  have h1 := ((bits_facts hS).2 k (by rw [hb]; exact hk)).2 t (by rcases ht with rfl | rfl | rfl | rfl <;> simp)
  rw [← h1]
  have h2 : rdN maj t (bitsOf r L) = (rdN mid3 t r).map fun x => decide (L ≤ x) := (rdN_map (f := fun x => decide (L ≤ x)) (m := mid3) (m' := maj) (fun a b c => mid3_ge L a b c) t r).symm
  rw [h2]
  have hl : k < (rdN mid3 t r).length := by rw [rdN_len]; exact hk
  unfold at'
  rw [List.getD_eq_getElem?_getD, List.getD_eq_getElem?_getD, List.getElem?_map, List.getElem?_eq_getElem hl]
  rfl
section
variable {pf : Str → List Dt → Option Dt} {pm : Nat → List Dt → Str → List Dt → Option Dt} {pa : Nat → List Dt → Str → Option Dt} {script start k row least greatest told level bits steady record page steps near turn windows more due shown : Bd} {n t : Nat} {lo hi : Int} {r : List Int}
noncomputable def toldD (r : List Int) : List Dt := (lev r).map (tupD r)
noncomputable def cutP (v : Int) : Dt → Bool
  | .tuple [.int L, _, _] => decide (L ≤ v)
  | _ => false
noncomputable def fstD : Dt → Dt
  | .tuple (x :: _) => x
  | _ => .none
noncomputable abbrev ifE : Expr → Expr
  | .ListComp _ (⟨_, _, [c], _⟩ :: _) _ _ => c
  | e => e
noncomputable abbrev ro5 (level bits steps : Bd) (kB turn : Bd) : Ro := [(".0", .var .loc .unb), ("level", .var .loc level), ("bits", .var .loc bits), ("steps", .var .loc steps), ("min", .glob), ("k", .var .fre kB), ("turn", .var .fre turn)]
theorem shown_ev (hr : Sz r.length) (ht : Tn t) {q : Nat} (hq : q < r.length) : (ev (PS pf pm pa) 14).e (roL script (.val (.int n)) start (.val (.int (q : Int))) row least greatest (.val (.list (toldD r))) level bits steady record page steps near (.val (.int (t : Int))) windows more due shown) (asV (nthS b86 0)) =
    some (iL ((lev r).filter fun L => decide (L ≤ at' r t q))) := by
  have h7 : r.length ≤ 7 := by rcases hr with e | e | e <;> omega
  have hl : (lev r).length ≤ 7 := by unfold lev; rw [List.length_drop]; have := lev_len r; omega
  refine Eq.trans (comp_filter (n := 13) (ds := toldD r) (p := cutP (at' r t q)) (f := fstD) (ρ' := ro5 .unb .unb .unb (.val (.int (q : Int))) (.val (.int (t : Int)))) (by kernel_rfl) rfl (by kernel_rfl) (by kernel_rfl) ?_ (by unfold toldD; rw [List.length_map]; omega)) ?_
  · intro d hd
    obtain ⟨L, hL, rfl⟩ := List.mem_map.mp hd
    have hb : (bitsOf r L).length = r.length := by unfold bitsOf; rw [List.length_map]
    have h1 : subD (bL (bitsOf r L)) (.int (q : Int)) = some (.bool ((bitsOf r L).getD q false)) := by
      refine subD_at (by rw [List.length_map]; omega) ?_
      rw [List.getElem?_map, List.getD_eq_getElem?_getD, List.getElem?_eq_getElem (by omega : q < (bitsOf r L).length)]
      rfl
    have h2 : subD (.list (stepsOf (bitsOf r L))) (.int (q : Int)) = some (.int (stepB (steadyB (bitsOf r L)) q : Nat)) := by
      refine subD_at (by unfold stepsOf; rw [List.length_map, List.length_range]; omega) ?_
      unfold stepsOf
      rw [List.getElem?_map, List.getElem?_range (by omega)]
      rfl
    have tb := tell_bit hr ht hq L
    unfold tupD
    generalize bitsOf r L = b at *
    generalize stepsOf b = sb at *
    generalize stepB (steadyB b) q = sq at *
    generalize b.getD q false = bq at *
    refine ⟨ro5 (.val (.int L)) (.val (bL b)) (.val (.list sb)) (.val (.int (q : Int))) (.val (.int (t : Int))), ?_, tA1 ?_, fun _ => ?_⟩
    · kernel_rfl
    · have e : (ev (PS pf pm pa) 13).t (ro5 (.val (.int L)) (.val (bL b)) (.val (.list sb)) (.val (.int (q : Int))) (.val (.int (t : Int)))) (ifE (asV (nthS b86 0))) =
          (subD (bL b) (.int (q : Int))).bind fun a => ((((Option.map (Dt.int (t : Int) :: ·) ((subD (.list sb) (.int (q : Int))).bind fun d => (some [] : Option (List Dt)).map (d :: ·))).bind fun ds => callD "min" ds).bind fun a => binD .Mod a (.int 2)).bind fun a => (cmpD .Eq a (.int 1)).map Dt.bool).bind fun c => cmpD .NotEq a c := by kernel_rfl
      refine e.trans ?_
      rw [h1, h2]
      show (eqD (.bool bq) (.bool (((if (sq : Int) < (t : Int) then (sq : Int) else (t : Int)).fmod 2) == 1))).map (!·) = some (decide (L ≤ at' r t q))
      rw [← tb]
      have e2 : ((if (sq : Int) < (t : Int) then (sq : Int) else (t : Int)).fmod 2) = ((min t sq % 2 : Nat) : Int) := by
        rw [Int.fmod_eq_emod_of_nonneg _ (by decide), Nat.min_def]
        by_cases h : (sq : Int) < t
        · rw [if_pos h, if_neg (by omega)]; omega
        · rw [if_neg h, if_pos (by omega)]; omega
      rw [e2]
      have e3 : ((((min t sq % 2 : Nat) : Int)) == 1) = (min t sq % 2 == 1) := by
        rcases Nat.mod_two_eq_zero_or_one (min t sq) with h | h <;> rw [h] <;> rfl
      rw [e3]
      cases bq <;> cases (min t sq % 2 == 1) <;> rfl
    · kernel_rfl
  · have key : ((toldD r).filter (cutP (at' r t q))).map fstD = ((lev r).filter fun L => decide (L ≤ at' r t q)).map .int := by
      unfold toldD
      rw [List.filter_map, List.map_map]
      have e1 : (cutP (at' r t q) ∘ tupD r) = fun L => decide (L ≤ at' r t q) := rfl
      have e2 : (fstD ∘ tupD r) = Dt.int := rfl
      rw [e1, e2]
    rw [key]
theorem max_ev {ss : List Int} {v : Int} (hs : ss.length ≤ 7) (hv : maxI (lo :: ss) = some v) : evs ((ev (PS pf pm pa) 14).e (roL script (.val (.int n)) start k row (.val (.int lo)) greatest told level bits steady record page steps near turn windows more due (.val (iL ss)))) [argE (asV (nthS b86 1)) 0] = some [.int v] := by
  have e : evs ((ev (PS pf pm pa) 14).e (roL script (.val (.int n)) start k row (.val (.int lo)) greatest told level bits steady record page steps near turn windows more due (.val (iL ss)))) [argE (asV (nthS b86 1)) 0] =
      ((((addD (.list [.int lo]) (iL ss)).bind fun d => (some [] : Option (List Dt)).map (d :: ·)).bind fun ds => callD "max" ds).bind fun d => (some [] : Option (List Dt)).map (d :: ·)) := by kernel_rfl
  rw [e]
  have ha : addD (.list [.int lo]) (iL ss) = some (iL (lo :: ss)) := by
    show (if [Dt.int lo].length + (ss.map Dt.int).length ≤ 4096 then some (Dt.list ([.int lo] ++ ss.map .int)) else none) = _
    rw [if_pos (by rw [List.length_map]; simp; omega)]
    rfl
  rw [ha]
  show ((maxD (iL (lo :: ss))).bind fun d => (some [] : Option (List Dt)).map (d :: ·)) = _
  have hm : maxD (iL (lo :: ss)) = some (.int v) := by
    show (intsOf ((lo :: ss).map .int)).bind (fun ns => (maxI ns).map Dt.int) = _
    rw [intsOf_map, Option.bind_some, hv]; rfl
  rw [hm]; rfl
end
end Mine.L1

namespace Mine.L1
theorem max_cut {r : List Int} {lo v : Int} (hlo : lo ∈ r) (hmin : ∀ x ∈ r, lo ≤ x) (hv : v ∈ r) : maxI (lo :: (lev r).filter fun L => decide (L ≤ v)) = some v := by
  have hs : ∃ m, maxI (lo :: (lev r).filter fun L => decide (L ≤ v)) = some m := ⟨_, rfl⟩
  obtain ⟨m, hm⟩ := hs
  rw [hm]
  have hmem : ∀ x, x ∈ isort (dedupI r) ↔ x ∈ r := fun x => ((sortI_perm (dedupI r)).mem_iff).trans (dedup_mem r)
  refine congrArg some (maxI_eq hm ?_ fun a ha => ?_).symm
  · by_cases h : v = lo
    · rw [h]; exact List.mem_cons_self
    · refine List.mem_cons_of_mem _ (List.mem_filter.mpr ⟨?_, by simp⟩)
      unfold lev
      have hr := sortI_rises (dedupI r)
      have h1 := (hmem v).mpr hv
      have h2 := (hmem lo).mpr hlo
      cases hS : isort (dedupI r) with
      | nil => rw [hS] at h1; cases h1
      | cons x t =>
        have hS' : sortI (dedupI r) = x :: t := hS
        rw [hS'] at hr
        rw [hS] at h1 h2
        have hx : x = lo := by
          have q1 := hmin x ((hmem x).mp (by rw [hS]; exact List.mem_cons_self))
          rcases List.mem_cons.mp h2 with e | e
          · exact e.symm
          · have := (List.pairwise_cons.mp hr).1 lo e; omega
        rcases List.mem_cons.mp h1 with e | e
        · exact absurd (e.trans hx) h
        · exact e
  · rcases List.mem_cons.mp ha with rfl | ha
    · exact hmin v hv
    · exact of_decide_eq_true (List.mem_filter.mp ha).2
theorem at_mem {r : List Int} {t k : Nat} (hk : k < r.length) : at' r t k ∈ r := by
  unfold at'
  have hl : k < (rdN mid3 t r).length := by rw [rdN_len]; exact hk
  rw [List.getD_eq_getElem?_getD, List.getElem?_eq_getElem hl]
  exact rdN_mem (fun a b c => mid3_mem a b c) t (List.getElem_mem hl)
section
variable {pf : Str → List Dt → Option Dt} {pm : Nat → List Dt → Str → List Dt → Option Dt} {pa : Nat → List Dt → Str → Option Dt} {script start k row least greatest told level bits steady record page steps near turn windows more due shown : Bd} {n t : Nat} {lo hi : Int} {r : List Int}
/-- the records told so far, still the law's own or given away -/
noncomputable def Told (told : Bd) (σ : List OD) (tds : List Dt) : Prop := told = .val (.list tds) ∨ (told = .lst 0 ∧ ∃ g, σ = .list tds :: g)
theorem thaw_first {ρ : Ro} {g : List OD} {x : Str} {k : SK} {ds : List Dt} (h : ρ.lookup x = some (.var k (.lst 0))) : thaw1 0 ⟨ρ, .list ds :: g⟩ x = ⟨setB ρ x (.val (.list ds)), .gone :: g⟩ := by
  unfold thaw1
  dsimp only
  rw [h]
  rfl
theorem due_turn (hr : Sz r.length) (ht : Tn t) {q : Nat} (hq : q < r.length) (hlo : lo ∈ r) (hmin : ∀ x ∈ r, lo ≤ x) (p1 : Plain level) (p2 : Plain bits) (p3 : Plain steps) {σ : List OD} (hT : Told told σ (toldD r)) {ds : List Dt} (hd : ds.length < 4096) :
    ∃ σ' shown', σ'.length = σ.length ∧ exB (exS (ev (PS pf pm pa) 14) noFx 0 8) b86 ⟨roL script (.val (.int n)) start (.val (.int (q : Int))) row (.val (.int lo)) greatest told level bits steady record page steps near (.val (.int (t : Int))) windows more (.lst σ.length) shown, σ ++ [.list ds]⟩ =
      some (.nxt ⟨roL script (.val (.int n)) start (.val (.int (q : Int))) row (.val (.int lo)) greatest (.val (.list (toldD r))) level bits steady record page steps near (.val (.int (t : Int))) windows more (.lst σ.length) shown', σ' ++ [.list (ds ++ [.int (at' r t q)])]⟩) := by
  have h7 : r.length ≤ 7 := by rcases hr with e | e | e <;> omega
  have hl : (lev r).length ≤ 7 := by unfold lev; rw [List.length_drop]; have := lev_len r; omega
  have hss : ((lev r).filter fun L => decide (L ≤ at' r t q)).length ≤ 7 := Nat.le_trans (List.length_filter_le ..) hl
  have hth : ∃ σ', σ'.length = σ.length ∧ thE 0 ⟨roL script (.val (.int n)) start (.val (.int (q : Int))) row (.val (.int lo)) greatest told level bits steady record page steps near (.val (.int (t : Int))) windows more (.lst σ.length) shown, σ ++ [.list ds]⟩ (asV (nthS b86 0)) =
      ⟨roL script (.val (.int n)) start (.val (.int (q : Int))) row (.val (.int lo)) greatest (.val (.list (toldD r))) level bits steady record page steps near (.val (.int (t : Int))) windows more (.lst σ.length) shown, σ' ++ [.list ds]⟩ := by
    rcases hT with rfl | ⟨rfl, g, rfl⟩
    · refine ⟨σ, rfl, ?_⟩
      generalize σ ++ [OD.list ds] = s1
      rcases p1 with rfl | ⟨d1, rfl⟩ <;> rcases p2 with rfl | ⟨d2, rfl⟩ <;> rcases p3 with rfl | ⟨d3, rfl⟩ <;> kernel_rfl
    · refine ⟨.gone :: g, rfl, ?_⟩
      have e : ∀ s1 : List OD, thE 0 ⟨roL script (.val (.int n)) start (.val (.int (q : Int))) row (.val (.int lo)) greatest (.lst 0) level bits steady record page steps near (.val (.int (t : Int))) windows more (.lst (OD.list (toldD r) :: g).length) shown, .list (toldD r) :: s1⟩ (asV (nthS b86 0)) =
          thaw1 0 ⟨roL script (.val (.int n)) start (.val (.int (q : Int))) row (.val (.int lo)) greatest (.lst 0) level bits steady record page steps near (.val (.int (t : Int))) windows more (.lst (OD.list (toldD r) :: g).length) shown, .list (toldD r) :: s1⟩ "told" := by
        intro s1
        rcases p1 with rfl | ⟨d1, rfl⟩ <;> rcases p2 with rfl | ⟨d2, rfl⟩ <;> rcases p3 with rfl | ⟨d3, rfl⟩ <;> kernel_rfl
      refine (e (g ++ [OD.list ds])).trans ?_
      rw [thaw_first (k := .loc) (by kernel_rfl)]
      rfl
  obtain ⟨σ', e1, e2⟩ := hth
  refine ⟨σ', .val (iL ((lev r).filter fun L => decide (L ≤ at' r t q))), e1, ?_⟩
  show exB _ (b86.drop 0) _ = _
  refine exB_at (s := nthS b86 0) 0 rfl (exS_val' (ρ' := roL script (.val (.int n)) start (.val (.int (q : Int))) row (.val (.int lo)) greatest (.val (.list (toldD r))) level bits steady record page steps near (.val (.int (t : Int))) windows more (.lst σ.length) (.val (iL ((lev r).filter fun L => decide (L ≤ at' r t q))))) rfl rfl e2 (shown_ev hr ht hq) (by kernel_rfl)) ?_
  have hm : mutD "append" ds [.int (at' r t q)] = some (ds ++ [.int (at' r t q)]) := by
    show (if ds.length < 4096 then some (ds ++ [Dt.int (at' r t q)]) else none) = _
    rw [if_pos hd]
  refine exB_at (s := nthS b86 1) 1 rfl (exS_mut' (st₁ := ⟨roL script (.val (.int n)) start (.val (.int (q : Int))) row (.val (.int lo)) greatest (.val (.list (toldD r))) level bits steady record page steps near (.val (.int (t : Int))) windows more (.lst σ.length) (.val (iL ((lev r).filter fun L => decide (L ≤ at' r t q)))), σ' ++ [OD.list ds]⟩) (i := σ.length) (l := ds) rfl (by decide) (by kernel_rfl) (max_ev hss (max_cut hlo hmin (at_mem hq))) ?_ hm) ?_
  · show (match (σ' ++ [OD.list ds])[σ.length]? with
      | some (.list ds) => some (σ.length, ds)
      | _ => none) = _
    rw [← e1]; simp
  · have e8 : (σ' ++ [OD.list ds]).set σ.length (.list (ds ++ [.int (at' r t q)])) = σ' ++ [.list (ds ++ [.int (at' r t q)])] := by rw [← e1]; simp
    show some (Fl.nxt ⟨_, (σ' ++ [OD.list ds]).set σ.length (.list (ds ++ [.int (at' r t q)]))⟩) = _
    rw [e8]
theorem due_loop (hr : Sz r.length) (ht : Tn t) (hlo : lo ∈ r) (hmin : ∀ x ∈ r, lo ≤ x) (p1 : Plain level) (p2 : Plain bits) (p3 : Plain steps) : ∀ (ps : List Nat) {k told shown : Bd} {σ : List OD} {ds : List Dt}, (∀ q ∈ ps, q < r.length) → ds.length + ps.length ≤ 4096 → Told told σ (toldD r) →
    ∃ σ' k' told' shown', σ'.length = σ.length ∧ (ps = [] ∨ told' = .val (.list (toldD r))) ∧ forGo (exB (exS (ev (PS pf pm pa) 14) noFx 0 8) b86) (tgtS (nthS b8 6)) (ps.map fun q : Nat => Dt.int (q : Int)) ⟨roL script (.val (.int n)) start k row (.val (.int lo)) greatest told level bits steady record page steps near (.val (.int (t : Int))) windows more (.lst σ.length) shown, σ ++ [.list ds]⟩ =
      some (.nxt ⟨roL script (.val (.int n)) start k' row (.val (.int lo)) greatest told' level bits steady record page steps near (.val (.int (t : Int))) windows more (.lst σ.length) shown', σ' ++ [.list (ds ++ ps.map fun q => .int (at' r t q))]⟩)
  | [], k, told, shown, σ, ds, _, _, hT => ⟨σ, k, told, shown, rfl, .inl rfl, by rw [List.map_nil, List.map_nil, List.append_nil]; rfl⟩
  | q :: ps, k, told, shown, σ, ds, hps, hlen, hT => by
    rw [List.length_cons] at hlen
    obtain ⟨σ1, sh1, l1, e1⟩ := due_turn (pf := pf) (pm := pm) (pa := pa) (script := script) (n := n) (start := start) (row := row) (greatest := greatest) (steady := steady) (record := record) (page := page) (near := near) (windows := windows) (more := more) (shown := shown) hr ht (hps q List.mem_cons_self) hlo hmin p1 p2 p3 hT (ds := ds) (by omega)
    obtain ⟨σ2, k2, told2, sh2, l2, t2, e2⟩ := due_loop hr ht hlo hmin p1 p2 p3 ps (k := .val (.int (q : Int))) (told := .val (.list (toldD r))) (shown := sh1) (σ := σ1) (ds := ds ++ [.int (at' r t q)]) (fun x hx => hps x (List.mem_cons_of_mem _ hx)) (by rw [List.length_append, List.length_singleton]; omega) (.inl rfl)
    have e : ds ++ (q :: ps).map (fun q => Dt.int (at' r t q)) = (ds ++ [.int (at' r t q)]) ++ ps.map fun q => Dt.int (at' r t q) := by simp
    rw [l1] at e2
    refine ⟨σ2, k2, told2, sh2, l2.trans l1, .inr ?_, by rw [e]; exact forGo_cons (by kernel_rfl) e1 e2⟩
    rcases t2 with rfl | t2
    · rw [List.map_nil, forGo] at e2
      have := congrArg (fun z => z.bind fun f => match f with | Fl.nxt st => st.ρ.lookup ("told" : Str) | _ => none) e2
      have h2 : some (Slot.var .loc (.val (.list (toldD r)))) = some (Slot.var .loc told2) := this
      cases h2; rfl
    · exact t2
end
end Mine.L1

namespace Mine.L1
section
variable {pf : Str → List Dt → Option Dt} {pm : Nat → List Dt → Str → List Dt → Option Dt} {pa : Nat → List Dt → Str → Option Dt} {script start k row least greatest told level bits steady record page steps near turn windows more due shown : Bd} {n t : Nat} {lo hi : Int} {r : List Int}
theorem bools_map (l : List Int) : boolsOf (l.map fun _ => .bool true) = some (l.map fun _ => true) := by
  induction l with
  | nil => rfl
  | cons a r ih => rw [List.map_cons, boolsOf, ih]; rfl
noncomputable abbrev lastE : Expr → Expr
  | .BoolOp _ [_, .UnaryOp _ (.Call _ [c] _ _) _] _ => c
  | e => e
theorem end_ev {x : List Int} (hx : Sz x.length) : (ev (PS pf pm pa) 14).t (roL script (.val (.int n)) start k (.val (iL x)) least greatest told level bits steady record page steps near turn windows more (.val (iL x)) shown) (asV (nthS b8 7)) = some false := by
  have hc : (ev (PS pf pm pa) 10).e (roL script (.val (.int n)) start k (.val (iL x)) least greatest told level bits steady record page steps near turn windows more (.val (iL x)) shown) (lastE (asV (nthS b8 7))) = some (.list ((x.map Dt.int).map fun _ => Dt.bool true)) := by
    refine comp_map (n := 9) (ds := x.map .int) (f := fun _ => .bool true) (ρ' := [(".0", .var .loc .unb), ("x", .var .loc .unb), ("isinstance", .glob), ("int", .glob)]) (by kernel_rfl) rfl (by kernel_rfl) (by kernel_rfl) ?_ (by rw [List.length_map]; rcases hx with h | h | h <;> omega)
    intro d hd
    obtain ⟨i, hi, rfl⟩ := List.mem_map.mp hd
    exact ⟨[(".0", .var .loc .unb), ("x", .var .loc (.val (.int i))), ("isinstance", .glob), ("int", .glob)], by kernel_rfl, by kernel_rfl⟩
  have e : (ev (PS pf pm pa) 14).t (roL script (.val (.int n)) start k (.val (iL x)) least greatest told level bits steady record page steps near turn windows more (.val (iL x)) shown) (asV (nthS b8 7)) =
      (((eqD (iL x) (iL x)).map (!·)).bind fun b => match BoolOp.Or, b with
        | .And, false => some false
        | .Or, true => some true
        | _, _ => (((((((ev (PS pf pm pa) 10).e (roL script (.val (.int n)) start k (.val (iL x)) least greatest told level bits steady record page steps near turn windows more (.val (iL x)) shown) (lastE (asV (nthS b8 7)))).bind fun d => (some [] : Option (List Dt)).map (d :: ·)).bind fun ds => callD "all" ds).bind truthD).map (!·)).bind fun b => match BoolOp.Or, b with
          | .And, false => some false
          | .Or, true => some true
          | _, _ => some false)) := by kernel_rfl
  rw [e, eq_ints hx, hc]
  show (((((allD (.list ((x.map Dt.int).map fun _ => Dt.bool true))).bind truthD).map (!·)).bind fun b => match BoolOp.Or, b with
          | .And, false => some false
          | .Or, true => some true
          | _, _ => some false)) = _
  have ha : allD (.list ((x.map Dt.int).map fun _ => Dt.bool true)) = some (.bool true) := by
    show (boolsOf ((x.map Dt.int).map fun _ => .bool true)).map (fun bs => Dt.bool (bs.all id)) = _
    rw [List.map_map]
    show (boolsOf (x.map fun _ => Dt.bool true)).map _ = _
    rw [bools_map]
    show some (Dt.bool ((x.map fun _ => true).all id)) = _
    have : (x.map fun _ => true).all id = true := by rw [List.all_map]; simp
    rw [this]
  rw [ha]
  rfl
theorem thaw_due {σ : List OD} {x : List Dt} : (Bd.lst σ.length).thaw (σ ++ [.list x]) = .val (.list x) := by
  show (match (σ ++ [OD.list x])[σ.length]? with
    | some (.list ds) => Bd.val (.list ds)
    | _ => .unb) = _
  have : (σ ++ [OD.list x])[σ.length]? = some (.list x) := by simp
  rw [this]
theorem lend_due {σ : List OD} {x : List Dt} : lend ⟨roL script (.val (.int n)) start k row least greatest told level bits steady record page steps near turn windows more (.lst σ.length) shown, σ ++ [.list x]⟩ =
    roL (script.thaw (σ ++ [.list x])) (.val (.int n)) (start.thaw (σ ++ [.list x])) (k.thaw (σ ++ [.list x])) (row.thaw (σ ++ [.list x])) (least.thaw (σ ++ [.list x])) (greatest.thaw (σ ++ [.list x])) (told.thaw (σ ++ [.list x])) (level.thaw (σ ++ [.list x])) (bits.thaw (σ ++ [.list x])) (steady.thaw (σ ++ [.list x])) (record.thaw (σ ++ [.list x])) (page.thaw (σ ++ [.list x])) (steps.thaw (σ ++ [.list x])) (near.thaw (σ ++ [.list x])) (turn.thaw (σ ++ [.list x])) (windows.thaw (σ ++ [.list x])) (more.thaw (σ ++ [.list x])) (.val (.list x)) (shown.thaw (σ ++ [.list x])) := by
  rw [lend_ro, thaw_due]
theorem row_at (r : List Int) (t : Nat) : (List.range r.length).map (fun q => Dt.int (at' r t q)) = (rdN mid3 t r).map .int := by
  refine List.ext_getElem (by rw [List.length_map, List.length_map, List.length_range, rdN_len]) fun i h1 h2 => ?_
  rw [List.length_map, List.length_range] at h1
  have hl : i < (rdN mid3 t r).length := by rw [rdN_len]; exact h1
  simp only [List.getElem_map, List.getElem_range]
  unfold at'
  rw [List.getD_eq_getElem?_getD, List.getElem?_eq_getElem hl]
  rfl
/-- one round -/
theorem round (hr : Sz r.length) (hn : n = r.length) (H : MdOk pf) (ht : Tn (t + 1)) (hlo : lo ∈ r) (hmin : ∀ x ∈ r, lo ≤ x ∧ x ≤ hi) (p1 : Plain level) (p2 : Plain bits) (p3 : Plain steps) {σ : List OD} (hT : Told told σ (toldD r)) :
    ∃ σ' k' windows' more' due' shown', exB (exS (ev (PS pf pm pa) 14) noFx 0 9) b8 ⟨roL script (.val (.int n)) start k (.val (iL (rdN mid3 t r))) (.val (.int lo)) (.val (.int hi)) told level bits steady record page steps near (.val (.int ((t + 1 : Nat) : Int))) windows more due shown, σ⟩ =
      some (.nxt ⟨roL script (.val (.int n)) start k' (.val (iL (rdN mid3 (t + 1) r))) (.val (.int lo)) (.val (.int hi)) (.val (.list (toldD r))) level bits steady record page steps near (.val (.int ((t + 1 : Nat) : Int))) windows' more' due' shown', σ'⟩) := by
  have hx : Sz (rdN mid3 t r).length := by rw [rdN_len]; exact hr
  have hx' : Sz (rdN mid3 (t + 1) r).length := by rw [rdN_len]; exact hr
  have hxl : (rdN mid3 t r).length ≤ 4096 := by rcases hx with h | h | h <;> omega
  have hb : ∀ x ∈ rdN mid3 t r, lo ≤ x ∧ x ≤ hi := fun x hx => hmin x (rdN_mem (fun a b c => mid3_mem a b c) t hx)
  have h7 : r.length ≤ 7 := by rcases hr with e | e | e <;> omega
  have hrd : rd mid3 (rdN mid3 t r) = rdN mid3 (t + 1) r := rfl
  obtain ⟨σ2, k2, told2, sh2, l2, t2, e2⟩ := due_loop (pf := pf) (pm := pm) (pa := pa) (script := script) (n := n) (start := start) (row := .val (iL (rdN mid3 (t + 1) r))) (greatest := .val (.int hi)) (steady := steady) (record := record) (page := page) (near := near) (windows := .val (.list ((wins (rdN mid3 t r)).map iL))) (more := .val (.int ((t + 1) / 2 * 2 : Nat))) hr ht hlo (fun x hx => (hmin x hx).1) p1 p2 p3 (List.range r.length) (k := k) (told := told) (shown := shown) (σ := σ) (ds := []) (fun q hq => List.mem_range.mp hq) (by rw [List.length_range]; simp; omega) hT
  have ht2 : told2 = .val (.list (toldD r)) := by
    rcases t2 with h | h
    · have := congrArg List.length h
      rw [List.length_range] at this
      rcases hr with e | e | e <;> rw [e] at this <;> cases this
    · exact h
  subst ht2
  refine ⟨σ2 ++ [.list ([] ++ (List.range r.length).map fun q => .int (at' r (t + 1) q))], k2, .val (.list ((wins (rdN mid3 t r)).map iL)), .val (.int ((t + 1) / 2 * 2 : Nat)), .lst σ.length, sh2, ?_⟩
  show exB _ (b8.drop 0) _ = _
  refine exB_at (s := nthS b8 0) 0 rfl (exS_val' (st₁ := ⟨roL script (.val (.int n)) start k (.val (iL (rdN mid3 t r))) (.val (.int lo)) (.val (.int hi)) told level bits steady record page steps near (.val (.int ((t + 1 : Nat) : Int))) windows more due shown, σ⟩) (ρ' := roL script (.val (.int n)) start k (.val (iL (rdN mid3 t r))) (.val (.int lo)) (.val (.int hi)) told level bits steady record page steps near (.val (.int ((t + 1 : Nat) : Int))) (.val (.list ((wins (rdN mid3 t r)).map iL))) more due shown) rfl rfl (by kernel_rfl) (wins_ev.trans (H.win _ hx)) (by kernel_rfl)) ?_
  refine exB_at (s := nthS b8 1) 1 rfl (exS_val' (st₁ := ⟨roL script (.val (.int n)) start k (.val (iL (rdN mid3 t r))) (.val (.int lo)) (.val (.int hi)) told level bits steady record page steps near (.val (.int ((t + 1 : Nat) : Int))) (.val (.list ((wins (rdN mid3 t r)).map iL))) more due shown, σ⟩) (ρ' := roL script (.val (.int n)) start k (.val (iL (rdN mid3 (t + 1) r))) (.val (.int lo)) (.val (.int hi)) told level bits steady record page steps near (.val (.int ((t + 1 : Nat) : Int))) (.val (.list ((wins (rdN mid3 t r)).map iL))) more due shown) rfl rfl (by kernel_rfl) (med_ev H hxl) (by kernel_rfl)) ?_
  refine exB_at (s := nthS b8 2) 2 rfl (exS_val' (st₁ := ⟨roL script (.val (.int n)) start k (.val (iL (rdN mid3 (t + 1) r))) (.val (.int lo)) (.val (.int hi)) told level bits steady record page steps near (.val (.int ((t + 1 : Nat) : Int))) (.val (.list ((wins (rdN mid3 t r)).map iL))) more due shown, σ⟩) (ρ' := roL script (.val (.int n)) start k (.val (iL (rdN mid3 (t + 1) r))) (.val (.int lo)) (.val (.int hi)) told level bits steady record page steps near (.val (.int ((t + 1 : Nat) : Int))) (.val (.list ((wins (rdN mid3 t r)).map iL))) (.val (.int ((t + 1) / 2 * 2 : Nat))) due shown) rfl rfl (by kernel_rfl) (more_ev ht) (by kernel_rfl)) ?_
  refine exB_at (s := nthS b8 3) 3 rfl (st' := ⟨roL script (.val (.int n)) start k (.val (iL (rdN mid3 (t + 1) r))) (.val (.int lo)) (.val (.int hi)) told level bits steady record page steps near (.val (.int ((t + 1 : Nat) : Int))) (.val (.list ((wins (rdN mid3 t r)).map iL))) (.val (.int ((t + 1) / 2 * 2 : Nat))) due shown, σ⟩) (exS_if' (c := false) lend_ro (test3_ev H ht hx hb) rfl) ?_
  refine exB_at (s := nthS b8 4) 4 rfl (st' := ⟨roL script (.val (.int n)) start k (.val (iL (rdN mid3 (t + 1) r))) (.val (.int lo)) (.val (.int hi)) told level bits steady record page steps near (.val (.int ((t + 1 : Nat) : Int))) (.val (.list ((wins (rdN mid3 t r)).map iL))) (.val (.int ((t + 1) / 2 * 2 : Nat))) due shown, σ⟩) (exS_if' (c := false) lend_ro (test4_ev H ht hx hb) rfl) ?_
  refine exB_at (s := nthS b8 5) 5 rfl (exS_lst (st₁ := ⟨roL script (.val (.int n)) start k (.val (iL (rdN mid3 (t + 1) r))) (.val (.int lo)) (.val (.int hi)) told level bits steady record page steps near (.val (.int ((t + 1 : Nat) : Int))) (.val (.list ((wins (rdN mid3 t r)).map iL))) (.val (.int ((t + 1) / 2 * 2 : Nat))) due shown, σ⟩) (ds := []) (ρ' := roL script (.val (.int n)) start k (.val (iL (rdN mid3 (t + 1) r))) (.val (.int lo)) (.val (.int hi)) told level bits steady record page steps near (.val (.int ((t + 1 : Nat) : Int))) (.val (.list ((wins (rdN mid3 t r)).map iL))) (.val (.int ((t + 1) / 2 * 2 : Nat))) (.lst σ.length) shown) (by kernel_rfl) rfl (by decide) (by kernel_rfl)) ?_
  have hit : iterE (ev (PS pf pm pa) 14) (roL script (.val (.int n)) start k (.val (iL (rdN mid3 (t + 1) r))) (.val (.int lo)) (.val (.int hi)) told level bits steady record page steps near (.val (.int ((t + 1 : Nat) : Int))) (.val (.list ((wins (rdN mid3 t r)).map iL))) (.val (.int ((t + 1) / 2 * 2 : Nat))) (.lst σ.length) shown) (tgtS (nthS b8 6)) (asV (nthS b8 6)) = some ((List.range r.length).map fun q : Nat => .int (q : Int)) := by
    rw [← hn]
    rcases hr with e | e | e <;> rw [← hn] at e <;> subst e <;> kernel_rfl
  refine exB_at (s := nthS b8 6) 6 rfl (exS_for' (st₁ := ⟨roL script (.val (.int n)) start k (.val (iL (rdN mid3 (t + 1) r))) (.val (.int lo)) (.val (.int hi)) told level bits steady record page steps near (.val (.int ((t + 1 : Nat) : Int))) (.val (.list ((wins (rdN mid3 t r)).map iL))) (.val (.int ((t + 1) / 2 * 2 : Nat))) (.lst σ.length) shown, σ ++ [OD.list []]⟩) (by kernel_rfl) hit e2) ?_
  have hrow : ([] ++ (List.range r.length).map fun q => Dt.int (at' r (t + 1) q)) = (rdN mid3 (t + 1) r).map .int := by rw [List.nil_append, row_at]
  rw [hrow, ← l2]
  refine exB_at (s := nthS b8 7) 7 rfl (st' := ⟨roL script (.val (.int n)) start k2 (.val (iL (rdN mid3 (t + 1) r))) (.val (.int lo)) (.val (.int hi)) (.val (.list (toldD r))) level bits steady record page steps near (.val (.int ((t + 1 : Nat) : Int))) (.val (.list ((wins (rdN mid3 t r)).map iL))) (.val (.int ((t + 1) / 2 * 2 : Nat))) (.lst σ2.length) sh2, σ2 ++ [OD.list ((rdN mid3 (t + 1) r).map .int)]⟩) (exS_if' (c := false) lend_due (end_ev hx') rfl) rfl
end
end Mine.L1

namespace Mine.L1
theorem best_ints : ∀ (l : List Int) (b : Int), ∃ m, bestBy ltD (l.map .int) (.int b) = some (.int m) ∧ m ∈ b :: l ∧ ∀ x ∈ b :: l, m ≤ x
  | [], b => ⟨b, rfl, List.mem_cons_self, fun x hx => by cases List.mem_singleton.mp hx; exact Int.le_refl _⟩
  | a :: r, b => by
    by_cases h : a < b
    · obtain ⟨m, h1, h2, h3⟩ := best_ints r a
      refine ⟨m, ?_, List.mem_cons_of_mem _ h2, fun x hx => ?_⟩
      · show ((some (decide (a < b))).bind fun c => if c = true then bestBy ltD (r.map .int) (.int a) else bestBy ltD (r.map .int) (.int b)) = _
        rw [decide_eq_true h]; exact h1
      · rcases List.mem_cons.mp hx with rfl | hx
        · have := h3 a List.mem_cons_self; omega
        · exact h3 x hx
    · obtain ⟨m, h1, h2, h3⟩ := best_ints r b
      refine ⟨m, ?_, ?_, fun x hx => ?_⟩
      · show ((some (decide (a < b))).bind fun c => if c = true then bestBy ltD (r.map .int) (.int a) else bestBy ltD (r.map .int) (.int b)) = _
        rw [decide_eq_false h]; exact h1
      · rcases List.mem_cons.mp h2 with rfl | h2
        · exact List.mem_cons_self
        · exact List.mem_cons_of_mem _ (List.mem_cons_of_mem _ h2)
      · rcases List.mem_cons.mp hx with rfl | hx
        · exact h3 x List.mem_cons_self
        · rcases List.mem_cons.mp hx with rfl | hx
          · have := h3 b List.mem_cons_self; omega
          · exact h3 x (List.mem_cons_of_mem _ hx)
theorem min_ints {r : List Int} (h : 0 < r.length) : ∃ m, minD (iL r) = some (.int m) ∧ m ∈ r ∧ ∀ x ∈ r, m ≤ x := by
  cases r with
  | nil => cases h
  | cons a r => exact best_ints r a
theorem max_ints {r : List Int} (h : 0 < r.length) : ∃ m, maxD (iL r) = some (.int m) ∧ m ∈ r ∧ ∀ x ∈ r, x ≤ m := by
  cases r with
  | nil => cases h
  | cons a r =>
    obtain ⟨h1, h2, h3⟩ := fold_max r a
    refine ⟨r.foldl (fun b a => if a > b then a else b) a, ?_, ?_, fun x hx => ?_⟩
    · show (intsOf ((a :: r).map .int)).bind (fun ns => (maxI ns).map Dt.int) = _
      rw [intsOf_map]; rfl
    · rcases h1 with e | e
      · rw [e]; exact List.mem_cons_self
      · exact List.mem_cons_of_mem _ e
    · rcases List.mem_cons.mp hx with rfl | hx
      · exact h2
      · exact h3 x hx
theorem pick_ints (ns : List Int) (lo hi st : Option Int) : ∃ ms : List Int, pickD (ns.map .int) lo hi st = ms.map .int := by
  refine ⟨(sliceRange (sliceBounds lo hi st (ns.map Dt.int).length).1 (sliceBounds lo hi st (ns.map Dt.int).length).2.1 (sliceBounds lo hi st (ns.map Dt.int).length).2.2).filterMap (ns[·]?), ?_⟩
  unfold pickD
  rw [List.map_filterMap]
  congr 1
  funext i
  rw [List.getElem?_map]
section
variable {pf : Str → List Dt → Option Dt} {pm : Nat → List Dt → Str → List Dt → Option Dt} {pa : Nat → List Dt → Str → Option Dt} {n : Nat}
noncomputable abbrev st0 (ns : List Int) : Ro := roL (.val (iL ns)) .unb .unb .unb .unb .unb .unb .unb .unb .unb .unb .unb .unb .unb .unb .unb .unb .unb .unb .unb
theorem size_ev {ns : List Int} (h : ns.length ≤ 4096) : ∃ n, Sz n ∧ (ev (PS pf pm pa) 14).e (st0 ns) (asV (nthS fLaw.body 1)) = some (.int (n : Int)) := by
  have e : (ev (PS pf pm pa) 14).e (st0 ns) (asV (nthS fLaw.body 1)) = ((lenD (iL ns)).bind fun a => binD .Mod a (.int 3)).bind fun b => binD .Sub (.int 7) b := by kernel_rfl
  have hl : lenD (iL ns) = some (.int ns.length) := by
    show (if (ns.map Dt.int).length ≤ 16777216 then some (Dt.int ((ns.map Dt.int).length : Int)) else none) = _
    rw [List.length_map, if_pos (by omega)]
  rw [e, hl]
  show ∃ n, Sz n ∧ some (Dt.int (7 - (ns.length : Int).fmod 3)) = _
  rw [Int.fmod_eq_emod_of_nonneg _ (by decide)]
  refine ⟨7 - ns.length % 3, ?_, ?_⟩
  · unfold Sz; omega
  · congr 2; omega
noncomputable def startL : List Int := [2, 0, 3, 1, 3, 0, 2]
theorem start_ev {ns : List Int} (hn : Sz n) : (ev (PS pf pm pa) 14).e (roL (.val (iL ns)) (.val (.int n)) .unb .unb .unb .unb .unb .unb .unb .unb .unb .unb .unb .unb .unb .unb .unb .unb .unb .unb) (asV (nthS fLaw.body 2)) = some (iL (startL.take n)) := by
  rcases hn with rfl | rfl | rfl <;> kernel_rfl
noncomputable abbrev addR : Expr → Expr
  | .BinOp _ _ (.Call _ [x] _ _) _ => x
  | e => e
noncomputable abbrev ro6 (kB script size start : Bd) : Ro := [(".0", .var .loc .unb), ("k", .var .loc kB), ("sum", .glob), ("script", .var .fre script), ("size", .var .fre size), ("start", .var .fre start)]
theorem row_ev {ns : List Int} (hl : ns.length ≤ 4096) (hn : Sz n) : ∃ r : List Int, r.length = n ∧ (ev (PS pf pm pa) 14).e (roL (.val (iL ns)) (.val (.int n)) (.val (iL (startL.take n))) .unb .unb .unb .unb .unb .unb .unb .unb .unb .unb .unb .unb .unb .unb .unb .unb .unb) (asV (nthS fLaw.body 3)) = some (iL r) := by
  have elt : ∀ k : Nat, k < n → ∃ x : Int, (ev (PS pf pm pa) 13).e (ro6 (.val (.int (k : Int))) (.val (iL ns)) (.val (.int n)) (.val (iL (startL.take n)))) (eltE (asV (nthS fLaw.body 3))) = some (.int x) := by
    intro k hk
    obtain ⟨ms, hms⟩ := pick_ints ns (some (k : Int)) none (some (n : Int))
    have hs : (ev (PS pf pm pa) 11).e (ro6 (.val (.int (k : Int))) (.val (iL ns)) (.val (.int n)) (.val (iL (startL.take n)))) (addR (eltE (asV (nthS fLaw.body 3)))) = some (.list (ms.map .int)) := by
      rw [← hms]
      refine slice_ev (l := some (k : Int)) (k := some (n : Int)) (by kernel_rfl) (by kernel_rfl) (by kernel_rfl) ?_ (by rw [List.length_map]; exact hl)
      rcases hn with rfl | rfl | rfl <;> decide
    have hst : ∃ c : Int, subD (iL (startL.take n)) (.int (k : Int)) = some (.int c) := by
      refine ⟨(startL.take n).getD k 0, subD_at (by rw [List.length_map]; rcases hn with rfl | rfl | rfl <;> decide) ?_⟩
      have hkl : k < (startL.take n).length := by rcases hn with rfl | rfl | rfl <;> exact hk
      rw [List.getElem?_map, List.getElem?_eq_getElem hkl, List.getD_eq_getElem?_getD, List.getElem?_eq_getElem hkl]
      rfl
    obtain ⟨c, hc⟩ := hst
    have e : (ev (PS pf pm pa) 13).e (ro6 (.val (.int (k : Int))) (.val (iL ns)) (.val (.int n)) (.val (iL (startL.take n)))) (eltE (asV (nthS fLaw.body 3))) =
        (subD (iL (startL.take n)) (.int (k : Int))).bind fun a => ((((ev (PS pf pm pa) 11).e (ro6 (.val (.int (k : Int))) (.val (iL ns)) (.val (.int n)) (.val (iL (startL.take n)))) (addR (eltE (asV (nthS fLaw.body 3))))).bind fun d => (some [] : Option (List Dt)).map (d :: ·)).bind fun ds => callD "sum" ds).bind fun b => binD .Add a b := by kernel_rfl
    refine ⟨c + ms.sum, ?_⟩
    rw [e, hs, hc]
    show ((intsOf (ms.map .int)).map fun ns => Dt.int ns.sum).bind (fun b => binD .Add (.int c) b) = _
    rw [intsOf_map]
    rfl
  have hf : ∃ f : Nat → Int, ∀ k : Nat, k < n → (ev (PS pf pm pa) 13).e (ro6 (.val (.int (k : Int))) (.val (iL ns)) (.val (.int n)) (.val (iL (startL.take n)))) (eltE (asV (nthS fLaw.body 3))) = some (.int (f k)) :=
    ⟨fun k => if h : k < n then (elt k h).choose else 0, fun k h => by
      have := (elt k h).choose_spec
      simp only [dif_pos h]; exact this⟩
  obtain ⟨f, hf⟩ := hf
  refine ⟨(List.range n).map f, by simp, ?_⟩
  refine Eq.trans (comp_map (n := 13) (ds := (List.range n).map fun k : Nat => Dt.int (k : Int)) (f := fun d => match d with | .int i => .int (f i.toNat) | _ => .none) (ρ' := ro6 .unb (.val (iL ns)) (.val (.int n)) (.val (iL (startL.take n)))) ?_ rfl (by kernel_rfl) (by kernel_rfl) ?_ (by rw [List.length_map, List.length_range]; rcases hn with rfl | rfl | rfl <;> decide)) ?_
  · rcases hn with rfl | rfl | rfl <;> kernel_rfl
  · intro d hd
    obtain ⟨k, hk, rfl⟩ := List.mem_map.mp hd
    refine ⟨ro6 (.val (.int (k : Int))) (.val (iL ns)) (.val (.int n)) (.val (iL (startL.take n))), by kernel_rfl, ?_⟩
    exact hf k (List.mem_range.mp hk)
  · simp only [iL, List.map_map]; rfl
end
end Mine.L1

namespace Mine.L1
section
variable {pf : Str → List Dt → Option Dt} {pm : Nat → List Dt → Str → List Dt → Option Dt} {pa : Nat → List Dt → Str → Option Dt} {n : Nat}
theorem min_ev {r : List Int} {m : Int} {script start k : Bd} (h : minD (iL r) = some (.int m)) : (ev (PS pf pm pa) 14).e (roL script (.val (.int n)) start k (.val (iL r)) .unb .unb .unb .unb .unb .unb .unb .unb .unb .unb .unb .unb .unb .unb .unb) (asV (nthS fLaw.body 4)) = some (.int m) := by
  have e : (ev (PS pf pm pa) 14).e (roL script (.val (.int n)) start k (.val (iL r)) .unb .unb .unb .unb .unb .unb .unb .unb .unb .unb .unb .unb .unb .unb .unb) (asV (nthS fLaw.body 4)) = minD (iL r) := by kernel_rfl
  exact e.trans h
theorem max'_ev {r : List Int} {m : Int} {script start k least : Bd} (h : maxD (iL r) = some (.int m)) : (ev (PS pf pm pa) 14).e (roL script (.val (.int n)) start k (.val (iL r)) least .unb .unb .unb .unb .unb .unb .unb .unb .unb .unb .unb .unb .unb .unb) (asV (nthS fLaw.body 5)) = some (.int m) := by
  have e : (ev (PS pf pm pa) 14).e (roL script (.val (.int n)) start k (.val (iL r)) least .unb .unb .unb .unb .unb .unb .unb .unb .unb .unb .unb .unb .unb .unb) (asV (nthS fLaw.body 5)) = maxD (iL r) := by kernel_rfl
  exact e.trans h
/-- the law behind its first statement gives True -/
theorem rest_run (Hp : ∀ n, Sz n → POk pf pm n) (Hm : MdOk pf) {ns : List Int} (hl : ns.length ≤ 4096) : ∃ σ, run (PS pf pm pa) 0 13 10 (fLaw.body.drop 1) ⟨st0 ns, []⟩ = some (.ret (.bool true) σ) := by
  obtain ⟨n, hn, e1⟩ := size_ev (pf := pf) (pm := pm) (pa := pa) hl
  obtain ⟨r, hr, e3⟩ := row_ev (pf := pf) (pm := pm) (pa := pa) hl hn
  have h0 : 0 < r.length := by rw [hr]; rcases hn with rfl | rfl | rfl <;> decide
  have hS : Sz r.length := by rw [hr]; exact hn
  obtain ⟨lo, e4, m1, m2⟩ := min_ints h0
  obtain ⟨hi, e5, m3, m4⟩ := max_ints h0
  have hb : ∀ x ∈ r, lo ≤ x ∧ x ≤ hi := fun x hx => ⟨m2 x hx, m4 x hx⟩
  obtain ⟨g, level, bits, steady, record, page, steps, near, p1, p2, p3, e7⟩ := stmt7 (pa := pa) (script := .val (iL ns)) (start := .val (iL (startL.take n))) (k := .unb) (least := .val (.int lo)) (greatest := .val (.int hi)) (turn := .unb) (windows := .unb) (more := .unb) (due := .unb) (shown := .unb) hn hr (Hp n hn)
  obtain ⟨s1, k1, w1, o1, d1, c1, q1⟩ := round (t := 0) (pm := pm) (pa := pa) (script := .val (iL ns)) (start := .val (iL (startL.take n))) (k := .unb) (steady := steady) (record := record) (page := page) (near := near) (windows := .unb) (more := .unb) (due := .unb) (shown := .unb) hS hr.symm Hm (.inl rfl) m1 hb p1 p2 p3 (told := .lst 0) (σ := .list (toldD r) :: g) (.inr ⟨rfl, g, rfl⟩)
  obtain ⟨s2, k2, w2, o2, d2, c2, q2⟩ := round (t := 1) (pm := pm) (pa := pa) (script := .val (iL ns)) (start := .val (iL (startL.take n))) (k := k1) (steady := steady) (record := record) (page := page) (near := near) (windows := w1) (more := o1) (due := d1) (shown := c1) hS hr.symm Hm (.inr (.inl rfl)) m1 hb p1 p2 p3 (told := .val (.list (toldD r))) (σ := s1) (.inl rfl)
  obtain ⟨s3, k3, w3, o3, d3, c3, q3⟩ := round (t := 2) (pm := pm) (pa := pa) (script := .val (iL ns)) (start := .val (iL (startL.take n))) (k := k2) (steady := steady) (record := record) (page := page) (near := near) (windows := w2) (more := o2) (due := d2) (shown := c2) hS hr.symm Hm (.inr (.inr (.inl rfl))) m1 hb p1 p2 p3 (told := .val (.list (toldD r))) (σ := s2) (.inl rfl)
  obtain ⟨s4, k4, w4, o4, d4, c4, q4⟩ := round (t := 3) (pm := pm) (pa := pa) (script := .val (iL ns)) (start := .val (iL (startL.take n))) (k := k3) (steady := steady) (record := record) (page := page) (near := near) (windows := w3) (more := o3) (due := d3) (shown := c3) hS hr.symm Hm (.inr (.inr (.inr rfl))) m1 hb p1 p2 p3 (told := .val (.list (toldD r))) (σ := s3) (.inl rfl)
  refine ⟨s4, ?_⟩
  show exB (exS (ev (PS pf pm pa) 14) noFx 0 10) (fLaw.body.drop 1) _ = _
  refine exB_at (s := nthS fLaw.body 1) 1 rfl (exS_val' (st₁ := ⟨st0 ns, []⟩) (ρ' := roL (.val (iL ns)) (.val (.int n)) .unb .unb .unb .unb .unb .unb .unb .unb .unb .unb .unb .unb .unb .unb .unb .unb .unb .unb) rfl rfl (by kernel_rfl) e1 (by kernel_rfl)) ?_
  refine exB_at (s := nthS fLaw.body 2) 2 rfl (exS_val' (st₁ := ⟨roL (.val (iL ns)) (.val (.int n)) .unb .unb .unb .unb .unb .unb .unb .unb .unb .unb .unb .unb .unb .unb .unb .unb .unb .unb, []⟩) (ρ' := roL (.val (iL ns)) (.val (.int n)) (.val (iL (startL.take n))) .unb .unb .unb .unb .unb .unb .unb .unb .unb .unb .unb .unb .unb .unb .unb .unb .unb) rfl rfl (by kernel_rfl) (start_ev hn) (by kernel_rfl)) ?_
  refine exB_at (s := nthS fLaw.body 3) 3 rfl (exS_val' (st₁ := ⟨roL (.val (iL ns)) (.val (.int n)) (.val (iL (startL.take n))) .unb .unb .unb .unb .unb .unb .unb .unb .unb .unb .unb .unb .unb .unb .unb .unb .unb, []⟩) (ρ' := roL (.val (iL ns)) (.val (.int n)) (.val (iL (startL.take n))) .unb (.val (iL r)) .unb .unb .unb .unb .unb .unb .unb .unb .unb .unb .unb .unb .unb .unb .unb) rfl rfl (by kernel_rfl) e3 (by kernel_rfl)) ?_
  refine exB_at (s := nthS fLaw.body 4) 4 rfl (exS_val' (st₁ := ⟨roL (.val (iL ns)) (.val (.int n)) (.val (iL (startL.take n))) .unb (.val (iL r)) .unb .unb .unb .unb .unb .unb .unb .unb .unb .unb .unb .unb .unb .unb .unb, []⟩) (ρ' := roL (.val (iL ns)) (.val (.int n)) (.val (iL (startL.take n))) .unb (.val (iL r)) (.val (.int lo)) .unb .unb .unb .unb .unb .unb .unb .unb .unb .unb .unb .unb .unb .unb) rfl rfl (by kernel_rfl) (min_ev e4) (by kernel_rfl)) ?_
  refine exB_at (s := nthS fLaw.body 5) 5 rfl (exS_val' (st₁ := ⟨roL (.val (iL ns)) (.val (.int n)) (.val (iL (startL.take n))) .unb (.val (iL r)) (.val (.int lo)) .unb .unb .unb .unb .unb .unb .unb .unb .unb .unb .unb .unb .unb .unb, []⟩) (ρ' := roL (.val (iL ns)) (.val (.int n)) (.val (iL (startL.take n))) .unb (.val (iL r)) (.val (.int lo)) (.val (.int hi)) .unb .unb .unb .unb .unb .unb .unb .unb .unb .unb .unb .unb .unb) rfl rfl (by kernel_rfl) (max'_ev e5) (by kernel_rfl)) ?_
  refine exB_at (s := nthS fLaw.body 6) 6 rfl (exS_lst (st₁ := ⟨roL (.val (iL ns)) (.val (.int n)) (.val (iL (startL.take n))) .unb (.val (iL r)) (.val (.int lo)) (.val (.int hi)) .unb .unb .unb .unb .unb .unb .unb .unb .unb .unb .unb .unb .unb, []⟩) (ds := []) (ρ' := roL (.val (iL ns)) (.val (.int n)) (.val (iL (startL.take n))) .unb (.val (iL r)) (.val (.int lo)) (.val (.int hi)) (.lst 0) .unb .unb .unb .unb .unb .unb .unb .unb .unb .unb .unb .unb) (by kernel_rfl) rfl (by decide) (by kernel_rfl)) ?_
  refine exB_at (s := nthS fLaw.body 7) 7 rfl e7 ?_
  refine exB_at (s := nthS fLaw.body 8) 8 rfl (exS_for' (st₁ := ⟨roL (.val (iL ns)) (.val (.int n)) (.val (iL (startL.take n))) .unb (.val (iL r)) (.val (.int lo)) (.val (.int hi)) (.lst 0) level bits steady record page steps near .unb .unb .unb .unb .unb, .list (toldD r) :: g⟩) (ds := [.int 1, .int 2, .int 3, .int 4]) (by kernel_rfl) (by kernel_rfl) (forGo_cons (by kernel_rfl) q1 (forGo_cons (by kernel_rfl) q2 (forGo_cons (by kernel_rfl) q3 (forGo_cons (by kernel_rfl) q4 rfl))))) ?_
  exact exB_ret (s := nthS fLaw.body 9) 9 rfl rfl
end
theorem pOk (n : Nat) (hn : Sz n) : POk O2.fn O2.meth n := by
  refine ⟨fun b hb => ?_, fun s hs => ?_, fun l hl => ⟨fun k hk => allow_fn hk hl⟩⟩
  · show callF O0 noFx 11 8 fSteady [bL b] = _
    exact steady_run (by rw [hb]; exact hn)
  · show (if 0 ≤ (s : Int) ∧ (s : Int) ≤ 1000 then some (Dt.opq 5 [.int (s : Int), .int n]) else none) = _
    rw [if_pos ⟨by omega, by omega⟩]
    rfl
theorem mdOk : MdOk O2.fn := ⟨fun l hl => wins_run hl, fun l h0 h1 => low_run (O := O0) rfl h0 h1, fun l h0 h1 => high_run (O := O0) rfl h0 h1⟩
theorem law_rest {ns : List Int} (hl : ns.length ≤ 4096) : ∃ σ, run O2 0 13 10 (fLaw.body.drop 1) ⟨st0 ns, []⟩ = some (.ret (.bool true) σ) := rest_run (pa := O2.attr) (fun n hn => pOk n hn) mdOk hl
end Mine.L1

namespace Mine.L1

structure In1 (K : Frag) : Prop where
  nt : noTabs K = true
  ent : EntOk K 79 55 76
  keep : keepIn K (.ref 79) = true
  gEnt : nsIn K mainGlobals "Entry" = some (some (.ref 79))
  gBi : ∀ x ∈ biNames, nsIn K mainGlobals x = some none
  gErr : nsIn K mainGlobals "StatisticsError" = some (some (.ref 24))
  gRule : nsIn K mainGlobals "_law_rule" = some (some (.ref 90))
  gSteady : nsIn K mainGlobals "_law_steady" = some (some (.ref 97))
  gWins : nsIn K mainGlobals "_law_windows" = some (some (.ref 102))
  gRef : nsIn K mainGlobals "_law_refusal" = some (some (.ref 109))
  gLow : nsIn K mainGlobals "median_low" = some (some (.ref 34))
  gHigh : nsIn K mainGlobals "median_high" = some (some (.ref 41))
  gLaw : nsIn K mainGlobals "law" = some (some (.ref 114))
  rule : FnK K 90 fRule.params fRule.body fRule.sc
  steady : FnK K 97 fSteady.params fSteady.body fSteady.sc
  wins : FnK K 102 fWins.params fWins.body fWins.sc
  ref : FnK K 109 fRef.params fRef.body fRef.sc
  low : FnK K 34 fLow.params fLow.body fLow.sc
  high : FnK K 41 fHigh.params fHigh.body fHigh.sc
  law : FnK K 114 fLaw.params fLaw.body fLaw.sc
  init : FnK K 55 fInit.params fInit.body fInit.sc
  allow : FnK K 76 fAllow.params fAllow.body fAllow.sc
  code : (fdGet K 90).code = .ref 89
  qual : (fdGet K 90).qualname = "_law_rule"
  err : ∃ N nm q bs hdct sn sub ab col dd k0 k1 k2 k3 k5 o es ep, K.lookup 24 = some (excClassObj nm q 24 N bs bmVE hdct sn sub ab col dd k0 k1 k2 k3 k5 "ValueError.__new__") ∧ K.lookup N = some o ∧ o.data = .dict es ep ∧ (es.toList.all fun e => match e.key with | .str _ _ => true | _ => false) = true ∧
    (∀ n ∈ ("__str__" : Str) :: quietNames, nsIn K N n = some none)

noncomputable def WW (prog : Program) (w : World) (B : Heap) (mg mb : Str → Option Value) (hg : B.Ns mainGlobals mg) (hb : B.Ns builtinsNs mb) (hlim : B.NoLimit) (hbi : ∀ x ∈ biNames, mg x = none ∧ mb x = bootBuiltins x) : Wd where
  prog := prog
  w := w
  P := 85
  B := B
  mg := mg
  mb := mb
  TS := lamTS kit.q kit.poss
  OB := obOf kit 79 (setOb w)
  INS := InstG 79
  sets := true
  FR := fun _ => True
  tsDrop := lamTS_drop
  insUp := fun g g' v a u h => h.up u
  obUp := fun n ds g g' v u h => obOf_up (fun _ _ _ _ u h => setOb_up u h) n ds g g' v u h
  hg := hg
  hb := hb
  hlim := hlim
  hbi := hbi

/-- the world of law 1 -/
structure World1 (W : Wd) (K : Frag) : Prop where
  kin : K.In W.B
  i1 : In1 K
  hP : W.P = 85
  ts : W.TS = lamTS kit.q kit.poss
  ob : W.OB = obOf kit 79 (setOb W.w)
  ins : W.INS = InstG 79
  sets : W.sets = true
  fr : W.FR = fun _ => True
  code : CodeHd W.B 89 85
  bat : W.B.BuiltinsAt W.mg 85

theorem kitOk : KitOk kit := by
  refine ⟨by kernel_rfl, by kernel_rfl, by kernel_rfl, ?_, by kernel_rfl, fun _ _ _ _ _ => by kernel_rfl⟩
  decide +kernel
theorem one_in {ds : List Dt} {x : Dt → Option Dt} {d : Dt} (h : one ds x = some d) : ∃ a, ds = [a] ∧ x a = some d := by
  cases ds with
  | nil => exact noneE h
  | cons a r => cases r with
    | nil => exact ⟨a, rfl, h⟩
    | cons => exact noneE h
theorem two_in {ds : List Dt} {x : Dt → Dt → Option Dt} {d : Dt} (h : two ds x = some d) : ∃ a b, ds = [a, b] ∧ x a b = some d := by
  cases ds with
  | nil => exact noneE h
  | cons a r => cases r with
    | nil => exact noneE h
    | cons b r => cases r with
      | nil => exact ⟨a, b, rfl, h⟩
      | cons => exact noneE h
section
variable {W : Wd} {K : Frag} (H : World1 W K)
include H
theorem frd : ∀ (A : Around) (env : Env), W.FR A.frames → W.FR (A.deeper env).frames := fun A env _ => by rw [H.fr]; trivial
theorem ok0 (k : Nat) : OwnOk W k O0 := ⟨fun _ => H.sets, (fun _ _ _ h => nomatch h), (fun _ _ _ _ _ h => nomatch h), (fun _ _ _ _ h => nomatch h)⟩
theorem obOk : ObOk W kit 79 (setOb W.w) := ⟨H.ob, H.ins⟩
theorem setOk : SetOk W := by
  refine ⟨fun {A E s Q own ds v ns} _ k hn hl rv ok p => ?_, fun {A E s Q own ds v ns} _ k hn rv ok p => ?_⟩
  · obtain ⟨a, vs, n, rfl, e, r⟩ := rep_list rv
    have hi := reps_ints r hn
    refine call_set_T (items := vs.toArray) k.hh ⟨_, vis_of _ _ e, rfl, n, rfl⟩ hi (by have := hi.length; have := r.length; omega) fun h' tk S keep => ?_
    have u : Up s.heap h' := fun b o e => keep b o (Heap.lt_size e) e
    have hnew : s.heap.objs.size ∉ own := ok.new (fresh_none (Nat.le_refl _))
    exact p h' tk _ u.le (ok.up u) (.opq ((obOk H).two.mpr ⟨_, _, rfl, (S.perm (dedup_perm ns)).up fun o e => vis_iff.mpr ⟨e, hnew⟩, rfl⟩))
  · obtain ⟨a, ms, rfl, S, hd⟩ := (obOk H).two.mp (opq_of rv)
    cases hd
    have hms : ms = ns := by
      have := (ints_map ms).symm.trans hn
      cases this; rfl
    subst hms
    refine sorted_set k.hh (S.up fun o e => vis_of _ _ e) fun h' tk out b ns' u ⟨n, hb⟩ nb hi hp hs => ?_
    have hnew : b ∉ own := ok.new nb
    have e := perm_sort hp hs
    subst e
    refine p h' tk _ (Up.le u) (ok.up u) (.list (vs := out.toList) (n := n) (vis_iff.mpr ⟨hb, hnew⟩) (ints_reps hi))
theorem bltOk : BltOk W := blt_of (setOk H) fun g v => (obOk H).three
theorem lamOk : LamOk W kit.q kit.poss 89 := ⟨H.ts, by rw [H.hP]; exact H.code, by rw [H.hP]; exact H.bat, by decide +kernel⟩
theorem mg1 {x : Str} {v : Value} (e : nsIn K mainGlobals x = some (some v)) : W.mg x = some v := mg_of H.kin W.hg e
theorem initOk : ∃ o, InitOk W 55 (fdGet K 55) o fInit.body := by
  obtain ⟨o, ho, hd⟩ := fd_at H.kin H.i1.init.is
  refine ⟨o, H.i1.init.info, ho, hd, code_at H.kin H.i1.init.code, fun d => ?_, ?_⟩
  · rw [H.i1.init.scn]; rfl
  · exact ⟨_, _, _, _, _, _, _, _, _, _, _, _, _, _, _, _, _, _, rfl⟩
theorem insOk1 : InsOk W := by
  obtain ⟨o, J⟩ := initOk H
  exact insOk (frd H) H.i1.ent H.kin (obOk H) J (mg1 H H.i1.gEnt) fun h u => keeps_K H.i1.keep h fun a o e => u _ _ (H.kin a o e)
theorem ruleOk {p z : Int} (h : 0 ≤ p ∧ p ≤ 1000) : Calls1 W 5 (.ref 90) [.int p, .int z] (.opq 5 [.int p, .int z]) := by
  obtain ⟨o, ho, hd⟩ := fd_at H.kin H.i1.rule.is
  refine make_rule (K := 0) (R := kit) (O := O0) (n := 12) (ρ := _) (frd H) (bltOk H) (ok0 H 0) (lamOk H) H.i1.rule.info rfl (by rw [H.i1.rule.scn]; rfl) ho hd (code_at H.kin H.i1.rule.code) H.i1.code (by rw [H.i1.qual]; rfl) ?_ fun g v r => (obOk H).five.mpr r
  refine ⟨⟨"rule", asV (nthS fRule.body 2), _, _, _, _, _, _, _, _, _, _, _, rfl, rfl, rfl, ?_, ?_⟩, rfl, List.mem_cons_self, List.mem_cons_of_mem _ List.mem_cons_self, fun env => rfl, fun env => rfl, ?_, fun x hx hf => ?_, fun x d hx => ?_⟩
  · refine Eq.trans (b := mulD (.str "a") (.int p)) (by kernel_rfl) ?_
    show (if 0 ≤ p ∧ p ≤ 1000 ∧ ("a" : Str).length ≤ 16 then some (Dt.str (PySem.Txt.mul "a" p)) else none) = _
    rw [if_pos ⟨h.1, h.2, by decide +kernel⟩]; rfl
  · kernel_rfl
  · decide +kernel
  · have h2 : ∀ x ∈ kit.sc2.names, x.2 = NameKind.free → x.1 = ("page" : Str) ∨ x.1 = ("size" : Str) := by decide +kernel
    rcases h2 x hx hf with e | e
    · exact ⟨.int p, by rw [e]; rfl⟩
    · exact ⟨.int z, by rw [e]; rfl⟩
  · by_cases e1 : x = ("page" : Str)
    · subst e1
      cases hx
      exact ⟨by decide +kernel, rfl, rfl⟩
    · by_cases e2 : x = ("size" : Str)
      · subst e2
        cases hx
        exact ⟨by decide +kernel, rfl, rfl⟩
      · have : (kit.frees [.int p, .int z]).lookup x = none := by
          show List.lookup x [(("page" : Str), Dt.int p), (("size" : Str), Dt.int z)] = none
          rw [List.lookup_cons, beq_eq_false_iff_ne.mpr e1, List.lookup_cons, beq_eq_false_iff_ne.mpr e2]; rfl
        rw [this] at hx; cases hx

theorem keepK {a : Addr} (e : fdIs K a = true) : ∀ h, Up W.B h → KeepOk W (.ref a) h := keep_fn H.kin e
/-- the defs and methods that call nothing of the text's own -/
theorem ok1 : OwnOk W 5 O1 := by
  refine ⟨fun _ => H.sets, fun f ds d h => ?_, fun n es m ds d h => ?_, fun n es a d h => ?_⟩
  · have B := bltOk H
    have N := insOk1 H
    have X := noFx_ok W 0
    have C0 := ok0 H 0
    have h' := ite_or h
    clear h
    rcases h' with ⟨rfl, h⟩ | ⟨_, h⟩
    · exact ⟨_, mg1 H H.i1.gSteady, keepK H H.i1.steady.is, callF_ok B N C0 X H.kin H.i1.steady h⟩
    have h' := ite_or h
    clear h
    rcases h' with ⟨rfl, h⟩ | ⟨_, h⟩
    · exact ⟨_, mg1 H H.i1.gWins, keepK H H.i1.wins.is, callF_ok B N C0 X H.kin H.i1.wins h⟩
    have h' := ite_or h
    clear h
    rcases h' with ⟨rfl, h⟩ | ⟨_, h⟩
    · exact ⟨_, mg1 H H.i1.gLow, keepK H H.i1.low.is, callF_ok B N C0 X H.kin H.i1.low h⟩
    have h' := ite_or h
    clear h
    rcases h' with ⟨rfl, h⟩ | ⟨_, h⟩
    · exact ⟨_, mg1 H H.i1.gHigh, keepK H H.i1.high.is, callF_ok B N C0 X H.kin H.i1.high h⟩
    have h' := ite_or h
    clear h
    rcases h' with ⟨rfl, h⟩ | ⟨_, h⟩
    · obtain ⟨a, b, rfl, h⟩ := two_in h
      obtain ⟨p, z, rfl, rfl, h⟩ := ints2_form h
      rcases ite_or h with ⟨hf, h⟩ | ⟨_, h⟩
      · cases h
        exact ⟨_, mg1 H H.i1.gRule, keepK H H.i1.rule.is, ruleOk H hf⟩
      · cases h
    · cases h
  · rcases ite_or h with ⟨⟨rfl, rfl⟩, h⟩ | ⟨_, h⟩
    · obtain ⟨a, b, rfl, h⟩ := two_in h
      obtain ⟨d', rfl, h⟩ := one_in h
      obtain ⟨ρ, hρ, h⟩ := Option.bind_eq_some_iff.mp (show (lamRo (kit.frees [a, b]) kit.arg d' kit.sc2.names).bind (fun ρ => (ev O0 12).e ρ kit.body2) = some d from h)
      exact rule_applies (frd H) (bltOk H) (ok0 H 0) kitOk 12 (fun g v => (obOk H).five.mp) hρ h
    · cases h
  · rcases ite_or h with ⟨⟨rfl, rfl⟩, h⟩ | ⟨_, h⟩
    · obtain ⟨x, b, rfl, h⟩ := two_in h
      obtain ⟨p, z, rfl, rfl, h⟩ := ints2_form h
      cases h
      exact rule_allows (R := kit) fun g v => (obOk H).five.mp
    rcases ite_or h with ⟨⟨rfl, rfl⟩, h⟩ | ⟨_, h⟩
    · obtain ⟨x, rfl, h⟩ := one_in h
      cases x with
      | list ds => cases h; exact ent_rules H.i1.ent H.kin (obOk H)
      | _ => exact noneE h
    · cases h
theorem ok2 : OwnOk W 10 O2 := by
  have C1 := ok1 H
  refine ⟨fun _ => H.sets, fun f ds d h => ?_, fun n es m ds d h => ?_, (fun n es a d h => nomatch h)⟩
  · obtain ⟨v, a, b, c⟩ := C1.fn f ds d h
    exact ⟨v, a, b, c.le (by omega)⟩
  · rcases ite_or h with ⟨⟨rfl, rfl⟩, h⟩ | ⟨_, h⟩
    · obtain ⟨x, rfl, h⟩ := one_in h
      obtain ⟨y, rfl, h⟩ := one_in h
      cases x with
      | list rs => exact ent_allow H.i1.ent H.kin (obOk H) (keepK H H.i1.allow.is) (callF_ok (bltOk H) (insOk1 H) C1 (noFx_ok W 5) H.kin H.i1.allow h)
      | _ => exact noneE h
    · cases h
/-- the text's own exception -/
theorem xcls : XCls W "StatisticsError" 24 := by
  obtain ⟨N, nm, q, bs, hdct, sn, sub, ab, col, dd, k0, k1, k2, k3, k5, o, es, ep, h1, h2, h3, h4, h5⟩ := H.i1.err
  have sk : StrKeys es := fun e he => by
    have := List.all_eq_true.mp h4 e (Array.mem_toList_iff.mpr he)
    split at this
    · rename_i x t hk; exact ⟨x, t, hk⟩
    · cases this
  have ns : W.B.Ns N (nsFind es) := ⟨o, es, ep, H.kin _ _ h2, h3, sk, fun _ => rfl⟩
  exact ⟨mg1 H H.i1.gErr, N, nm, q, bs, hdct, sn, sub, ab, col, dd, k0, k1, k2, k3, k5, _, H.kin _ _ h1, ns, fun n hn => ns_none_of H.kin ns (h5 n (List.mem_cons_of_mem _ hn)), ns_none_of H.kin ns (h5 _ List.mem_cons_self)⟩
end
end Mine.L1

namespace Mine.L1

noncomputable def msg : Str := "no median for empty data"
noncomputable def refB (r : Option Fl) : St := match r with
  | some (.nxt st) => st
  | _ => ⟨[], []⟩
noncomputable def ro1 (x : Str) (d : Dt) (sc : List (Str × NameKind)) : Ro := (entryRo [(x, d)] sc).getD []
noncomputable abbrev stM (f : Fd) : St := refB (runF O0 noFx 0 11 8 (f.body.take 2) ⟨ro1 "data" (.list []) f.sc, []⟩)
/-- a def that refuses an empty list -/
structure Refuses (f : Fd) : Prop where
  par : f.params = [("data" : Str)]
  form : ∃ t np cpos mp rpos ipos o rest ck, f.body = f.body.take 2 ++ .If t [.Raise (some (.Call (.Name "StatisticsError" np) [.Constant (.str msg) ck mp] [] cpos)) none rpos] o ipos :: rest ∧ (ev O0 12).t (Mine.lend (stM f)) t = some true
  ro : entryRo [(("data" : Str), Dt.list [])] f.sc = some (ro1 "data" (.list []) f.sc)
  run : runF O0 noFx 0 11 8 (f.body.take 2) ⟨ro1 "data" (.list []) f.sc, []⟩ = some (.nxt (stM f))
  name : (Mine.lend (stM f)).lookup ("StatisticsError" : Str) = some .glob
theorem low_refuses : Refuses fLow := ⟨rfl, ⟨_, _, _, _, _, _, _, _, _, rfl, by kernel_rfl⟩, by kernel_rfl, by kernel_rfl, by kernel_rfl⟩
theorem high_refuses : Refuses fHigh := ⟨rfl, ⟨_, _, _, _, _, _, _, _, _, rfl, by kernel_rfl⟩, by kernel_rfl, by kernel_rfl, by kernel_rfl⟩
theorem ref_form : ∃ t p1 p2 p3 p4 p5 p6 p7 p8 p9 q1 q2 q3 q4 q5 q6 q7, fRef.body = [.Try [.Return (some (.List [.IfExp t (.Call (.Name "median_high" p1) [.List [] p2] [] p3) (.Call (.Name "median_low" p4) [.List [] p5] [] p6) p7] p8)) p9] [.ExceptHandler (some (.Name "StatisticsError" q1)) (some "refusal") [.Return (some (.Call (.Name "str" q2) [.Name "refusal" q3] [] q4)) q5] q6] [] [] q7] ∧
    (ev O0 12).t (ro1 "upper" (.int 0) fRef.sc) t = some false ∧ (ev O0 12).t (ro1 "upper" (.int 1) fRef.sc) t = some true := ⟨_, _, _, _, _, _, _, _, _, _, _, _, _, _, _, _, _, rfl, by kernel_rfl, by kernel_rfl⟩

section
variable {W : Wd} {K : Frag} (H : World1 W K)
include H
theorem med_call {f : Fd} {a : Addr} (F : Refuses f) (G : FnK K a f.params f.body f.sc) (A : Around) (E : Value → Shared → Prop) (s : Shared) (own : List Addr) (outer : List Env) (Q : Value → Shared → Prop) (vs : List Value) (k : AOk W 5 A) (hf : A.frames = some outer) (ok : Ok W own s.heap) (fo : FrOk W s.heap outer) (rs : Reps W (hideAll s.heap own) vs [.list []])
    (hE : ∀ h' tk e, Refused W own s.heap outer 24 msg h' e → E e { s with heap := h', toks := tk }) : wpAny W.M A (call (.ref a) vs) Q E s := by
  obtain ⟨o, ho, hd⟩ := fd_at H.kin G.is
  obtain ⟨t, np, cpos, mp, rpos, ipos, o', rest, ck, e, ht⟩ := F.form
  have Fi := G.info
  rw [e] at Fi
  exact raise_call (O := O0) (K := 0) (m := 11) (n := 8) (params := f.params) (args := [.list []]) (st2 := stM f) (ρ := ro1 "data" (.list []) f.sc) (bltOk H) (insOk1 H) (ok0 H 0) Fi (by rw [F.par]; rfl) (by rw [F.par, G.scn]; exact F.ro) ho hd (code_at H.kin G.code) F.run ht F.name (by decide +kernel) (xcls H) k hf ok fo rs hE
theorem ref_call {env : Env} (hfr : env.frame = some env.locals) : RefCall W 14 env (.ref 109) msg := by
  intro u A E s own Q vs hu k hA ok fo hlo rs hQ
  obtain ⟨o, ho, hd⟩ := fd_at H.kin H.i1.ref.is
  obtain ⟨t, p1, p2, p3, p4, p5, p6, p7, p8, p9, q1, q2, q3, q4, q5, q6, q7, e, t0, t1⟩ := ref_form
  have Fi := H.i1.ref.info
  rw [e] at Fi
  have fw : ∀ e ∈ [env], ∀ L, e.frame = some L → L ∈ own := fun e he L hL => by
    cases List.mem_singleton.mp he
    rw [hfr] at hL; cases hL; exact hlo
  rcases hu with rfl | rfl
  · exact refusal_call (O := O0) (K := 0) (m := 11) (b := false) (C := 24) (ρ := ro1 "upper" (.int 0) fRef.sc) (bltOk H) (insOk1 H) (ok0 H 0) Fi (by rw [H.i1.ref.scn]; kernel_rfl) ho hd (code_at H.kin H.i1.ref.code) t0 (by kernel_rfl) (by kernel_rfl) (by kernel_rfl) ⟨.unb, by kernel_rfl⟩ (xcls H) (mg1 H H.i1.gLow) (keepK H H.i1.low.is)
      (fun A E s own outer Q vs k hA ok fo rs hE => med_call H low_refuses H.i1.low A E s own outer Q vs k hA ok fo rs hE) (k.le (by omega)) hA ok fo fw rs hQ
  · exact refusal_call (O := O0) (K := 0) (m := 11) (b := true) (C := 24) (ρ := ro1 "upper" (.int 1) fRef.sc) (bltOk H) (insOk1 H) (ok0 H 0) Fi (by rw [H.i1.ref.scn]; kernel_rfl) ho hd (code_at H.kin H.i1.ref.code) t1 (by kernel_rfl) (by kernel_rfl) (by kernel_rfl) ⟨.unb, by kernel_rfl⟩ (xcls H) (mg1 H H.i1.gHigh) (keepK H H.i1.high.is)
      (fun A E s own outer Q vs k hA ok fo rs hE => med_call H high_refuses H.i1.high A E s own outer Q vs k hA ok fo rs hE) (k.le (by omega)) hA ok fo fw rs hQ
end
end Mine.L1

namespace Mine.L1

noncomputable def roC : Ro := [((".0" : Str), .var .loc .unb), (("upper" : Str), .var .loc .unb), (("_law_refusal" : Str), .glob)]
theorem law_form : ∃ fp ap cp tp it k sc pos right cpos b ipos, fLaw.body = .If (.Compare (.ListComp (.Call (.Name "_law_refusal" fp) [.Name "upper" ap] [] cp) [⟨.Name "upper" tp, it, [], k⟩] sc pos) [.NotEq] [right] cpos) b [] ipos :: fLaw.body.drop 1 ∧ k = 0 ∧ scopeOk sc = true ∧ (∀ ns, iterE (ev O2 14) (st0 ns) (.Name "upper" tp) it = some [.int 0, .int 1]) ∧ (∀ ns, compRo (st0 ns) sc.names = some roC) ∧
    unbT roC (.Name "upper" tp) = true ∧ clauses.go (ev O2 14) (refIn (ev O2 14) "_law_refusal" (.Name "upper" ap) msg) (.Name "upper" tp) [] roC [.int 0, .int 1] = some [.str msg, .str msg] ∧ (∀ ns, (ev O2 14).e (st0 ns) right = some (.list [.str msg, .str msg])) ∧ behindInMarks .NotEq right = false :=
  ⟨_, _, _, _, _, _, _, _, _, _, _, _, rfl, rfl, by kernel_rfl, fun ns => by kernel_rfl, fun ns => by kernel_rfl, by kernel_rfl, by kernel_rfl, fun ns => by kernel_rfl, by kernel_rfl⟩
theorem st0_plain (ns : List Int) : ((st0 ns).all fun p => match p.2 with | .var _ b => b.idx.isEmpty | _ => true) = true := rfl
theorem st0_idx {ns : List Int} {x : Str} {k : SK} {b : Bd} (e : (st0 ns).lookup x = some (.var k b)) : b.idx = [] := by
  have := List.all_eq_true.mp (st0_plain ns) _ (mem_of_lookup e)
  exact List.isEmpty_iff.mp this

section
variable {W : Wd} {K : Frag} (H : World1 W K)
include H
theorem law_calls1 {ns : List Int} (hl : ns.length ≤ 4096) {A : Around} {s : Shared} {own : List Addr} {vs : List Value} {R : Result → Shared → Prop} (hA : A.frames = some []) (kk : AOk W 20 A) (ok : Ok W own s.heap) (rs : Reps W (hideAll s.heap own) vs [.list (ns.map .int)])
    (hR : ∀ h' tk v, Le W.P s.heap h' → Ok W own h' → Rep W (hideAll h' own) v (.bool true) → R (.ok (.ret v)) { s with heap := h', toks := tk }) : codeAny W.M A (.call (.ref 114) ⟨vs, []⟩) R s := by
  obtain ⟨o, ho, hd⟩ := fd_at H.kin H.i1.law.is
  obtain ⟨σ, hr⟩ := law_rest hl
  refine fn_runB (ρ := st0 ns) H.i1.law.info rs.length (by rw [H.i1.law.scn]; exact entry_ro _) ho hd (code_at H.kin H.i1.law.code) (kk.le (by omega)) ok (fun y d e => zip_lookup rs e) fun env own' s₁ _ _ ⟨h₁, t₁, e⟩ _ R₁ ⟨fr, fnew, up⟩ => ?_
  subst e
  have N := insOk1 H
  have B := bltOk H
  have C := ok2 H
  have k' : AOk W 19 (A.deeper env) := kk.deeper env N.frd
  have XX := xok B N C 13
  obtain ⟨fp, ap, cp, tp, it, k, sc, pos, right, cpos, b, ipos, e, rfl, e1, e2, e3, e4, e5, e6, e7⟩ := law_form
  rw [e]
  obtain ⟨m, oL, es, ep, hoL, hdL, hsk, hfd⟩ := R₁.frm.ns
  have hLP : env.locals ≠ W.P := fun z => R₁.frm.wrP (.inl z.symm)
  refine wpAny_execs_cons (wpAny_If (wpAny_isTrue_Compare1 ?_ e7))
  refine comp_ref (s := { s with heap := h₁, toks := t₁ }) (L := env.locals) (oL := oL) (K := 10) (msg := msg) (fv := .ref 109) B XX.H XX.set R₁.frm.sees.envOk.kind fr rfl hLP ⟨m, fun h sl q => ⟨_, es, ep, q, hdL, hsk, hfd⟩⟩ (fun v z => by rw [hdL] at z; cases z) (Around.frames_deeper hA) (mg1 H H.i1.gRef) (keepK H H.i1.ref.is) (ref_call H fr) hoL R₁.frm.lo
    e1 (e2 ns) (e3 ns) e4 e5 (by decide) (k'.le (by omega)) R₁.frm.sees fun h₂ t₂ v₂ ch sl o₂ r₂ => ?_
  have R₂ := R₁.slots rfl hoL ch sl o₂ fun x k b q => st0_idx q
  refine XX.H.e _ right _ own' env _ _ { s with heap := h₂, toks := t₂ } _ (e6 ns) (k'.le (by omega)) R₂.frm.sees fun h₃ t₃ v₃ l₃ o₃ r₃ => ?_
  refine cmp_sound (s := { s with heap := h₃, toks := t₃ }) (r := false) (by kernel_rfl) (r₂.up (vis_le o₂.hP l₃)) r₃ (k'.le (by omega)) fun t₄ => wpAny_truthy_bool ?_
  rw [if_neg (by decide)]
  refine wpAny_execs_nil ?_
  have R₃ := R₂.le l₃ o₃
  refine run_sound B N C 13 10 _ own _ _ _ _ own' env _ _ _ _ _ _ hr (k'.le (by omega)) R₃ ?_
  intro h'' tk' own'' ad' ρ' v R' rv
  have ok'' : Ok W own h'' := R'.frm.sees.ok.sub R'.sub ok.hP
  exact hR h'' tk' v (fun b ob nb e => (R'.prot b ob ⟨e, nb⟩).1) ok'' (rv.up (vis_sub R'.sub))
end
end Mine.L1

namespace Mine

theorem well_ints {W : Wd} {P : Params} {h g : Heap} (u : ∀ a o, h.get? a = some o → o.cls = .type "list" → g.get? a = some o) : ∀ {ns : List Int} {vs : List Value}, WellAll P h vs (ofPys (ns.map .int)) → Reps W g vs (ns.map .int)
  | [], _, .nil => .nil
  | n :: ns, _, .cons h r => by
    cases h
    exact .cons (.int _ _) (well_ints u r)
theorem well_list {W : Wd} {P : Params} {h g : Heap} (u : ∀ a o, h.get? a = some o → o.cls = .type "list" → g.get? a = some o) {v : Value} {ns : List Int} (x : Well P h v (ofPy (.list (ns.map .int)))) : Rep W g v (.list (ns.map .int)) := by
  cases x with
  | list e r => exact .list (n := 0) (u _ _ e rfl) (well_ints u r)

theorem Top.bat {p : Program} {loose : List Str} {mean : ExcName → Option Value} {mg mb : Str → Option Value} {h : Heap} {P : Addr} {ps : Array Value} (T : Top p loose mean mg mb h) (hP : h.get? P = some (tabObj ps)) : h.BuiltinsAt mg P := by
  obtain ⟨bm, ob, b1, b2, b3, b4, b5, b6⟩ := T.bmain
  have hbP : bm ≠ P := fun q => by
    rw [q, hP] at b3; cases b3; cases b4
  have hbG : bm ≠ mainGlobals := fun q => by
    obtain ⟨o, es, ep, e, hd, _⟩ := T.g
    rw [q, e] at b3; cases b3; rw [hd] at b6; cases b6
  exact ⟨bm, ob, b1, b2, hbG, hbP, b3, b4, b5, b6⟩
/-- what a law that gives True needs at its end -/
theorem goodEnd {c : ClaimW} {cl : Str → Option Addr} {mean : ExcName → Option Value} {args : List WData} {s₁ s' : Shared} (h1 : ∀ cls, c.raises args cls = false) (h2 : c.post args (.bool true) args = true) (hk : ∀ b o, s₁.heap.get? b = some o → s'.heap.get? b = some o) (hos : s'.os = s₁.os) (hg : s'.gens = #[]) :
    GoodW c cl mean args s₁ (.ok (.ret (.bool true))) s' :=
  ⟨.inl ⟨_, _, [], rfl, h1, .bool true, h2, fun _ => ⟨List.nodup_nil, fun a ha => nomatch ha⟩⟩, hk, hos, hg⟩

theorem vsS {n : Nat} : ∀ {vs : List Value}, vs.length = n + 1 → ∃ a r, vs = a :: r ∧ r.length = n
  | a :: r, h => ⟨a, r, rfl, Nat.succ.inj h⟩
theorem vs1 {vs : List Value} (h : vs.length = 1) : ∃ a, vs = [a] := by
  obtain ⟨a, r, e, h'⟩ := vsS h
  exact ⟨a, by rw [e, List.length_eq_zero_iff.mp h']⟩
theorem vs2 {vs : List Value} (h : vs.length = 2) : ∃ a b, vs = [a, b] := by
  obtain ⟨a, r, e, h'⟩ := vsS h
  obtain ⟨b, e'⟩ := vs1 h'
  exact ⟨a, b, by rw [e, e']⟩
namespace L1
theorem main1 {prog : Program} {w : World} {K : Frag} {p : Program} {loose : List Str} {mean : ExcName → Option Value} {mg mb : Str → Option Value} {s₁ : Shared} {P : Params} {a : Addr} {ns : List Int} (hl : ns.length ≤ 4096) (I : In1 K) (KX : K.In s₁.heap) (hT : TabsAt [(89, 85)] s₁.heap)
    (T : Top p loose mean mg mb s₁.heap) (hw : Well P s₁.heap (.ref a) (ofPy (.list (ns.map .int)))) {R : Result → Shared → Prop}
    (hQ : ∀ h' tk, (∀ b o, (ghostOf s₁.heap [(89, 85)]).get? b = some o → h'.get? b = some o) → GrownAll [(89, 85)] h' → R (.ok (.ret (.bool true))) { s₁ with heap := h', toks := tk }) :
    codeAny (model prog w) callerA (.call (.ref 114) ⟨[.ref a], []⟩) R s₁ := by
  have X : K.In (ghostOf s₁.heap [(89, 85)]) := ghost_K hT KX I.nt
  have T' := ghost_top hT T
  have hP : s₁.heap.get? 85 = some (tabObj #[]) := (hT (89, 85) (by simp)).2
  have hbi : ∀ x ∈ biNames, mg x = none ∧ mb x = bootBuiltins x := fun x hx => ⟨mg_none_of KX T.g (I.gBi x hx), T.builtins x (fun z => by subst z; revert hx; decide +kernel)⟩
  let W : Wd := WW prog w (ghostOf s₁.heap [(89, 85)]) mg mb T'.g T'.b T'.nolimit hbi
  have bat : (ghostOf s₁.heap [(89, 85)]).BuiltinsAt mg 85 := by
    obtain ⟨bm, ob, b1, b2, b3, b4, b5, b6, b7, b8⟩ := Top.bat T hP
    exact ⟨bm, ob, b1, b2, b3, b4, ghost_get hT b5 (fun q => by rw [q] at b6; cases b6), b6, b7, b8⟩
  have H : World1 W K := ⟨X, I, rfl, rfl, rfl, rfl, rfl, rfl, (ghost_code hT).1, bat⟩
  have ok : Ok W [85] s₁.heap := ⟨Up.refl _, List.mem_cons_self, ⟨#[], hP, trivial, fun q hq => .inl rfl⟩, fun b hb => by cases List.mem_singleton.mp hb; exact ⟨_, hP⟩⟩
  have r : Rep W (hideAll s₁.heap [85]) (.ref a) (.list (ns.map .int)) := well_list (fun b o e hc => ghost_get hT e (fun q => by rw [q] at hc; cases hc)) hw
  refine law_calls1 (A := callerA) (own := [85]) H hl rfl ⟨by kernel_rfl, by decide +kernel, by decide +kernel, trivial⟩ ok (.cons r .nil) fun h' tk v l o r' => ?_
  have hv : v = .bool true := rep_bool r'
  subst hv
  refine hQ h' tk (fun b ob e => ?_) ?_
  · exact vis_of _ _ (o.base _ _ e)
  · obtain ⟨ps, e, _⟩ := o.tab
    exact ⟨⟨ps, e⟩, trivial⟩
end L1
end Mine

namespace Mine.L1
noncomputable def fnArgs (n : Str) : List Stmt → Arguments
  | [] => ⟨[], [], none, [], [], none, []⟩
  | .FunctionDef (name := m) (args := a) .. :: r => if m = n then a else fnArgs n r
  | _ :: r => fnArgs n r
noncomputable def fnSc (n : Str) : List Stmt → Scope
  | [] => default
  | .FunctionDef (name := m) (scope := sc) .. :: r => if m = n then sc else fnSc n r
  | _ :: r => fnSc n r
noncomputable def kFn (n q : Str) (ar : Arguments) (b : List Stmt) (sc : Scope) (m : Value) (c : Addr) : Obj :=
  { cls := .type "function", data := .func { name := n, qualname := q, params := ar, body := .stmts b, scope := sc, globals := 3, closure := [], defaults := .none, kwdefaults := .none, pyModule := m, code := .ref c } }
noncomputable def heap1 (P : Params) : Frag := [
  (3, { cls := Value.type "dict", data := Data.dict #[{ hash := PyData.keyHash P "__name__", key := Value.str "__name__" 165, val := Value.str "law_rw0025_01" 287 }, { hash := PyData.keyHash P "__doc__", key := Value.str "__doc__" 166, val := Value.none }, { hash := PyData.keyHash P "__package__", key := Value.str "__package__" 167, val := Value.none }, { hash := PyData.keyHash P "__loader__", key := Value.str "__loader__" 168, val := Value.builtin "__main__.__loader__#opaque" }, { hash := PyData.keyHash P "__spec__", key := Value.str "__spec__" 169, val := Value.none }, { hash := PyData.keyHash P "__annotations__", key := Value.str "__annotations__" 170, val := Value.ref 6 }, { hash := PyData.keyHash P "__builtins__", key := Value.str "__builtins__" 171, val := Value.ref 4 }, { hash := PyData.keyHash P "__file__", key := Value.str "__file__" 173, val := Value.str "/claim/cut.py" 172 }, { hash := PyData.keyHash P "__cached__", key := Value.str "__cached__" 174, val := Value.none }, { hash := PyData.keyHash P "StatisticsError", key := Value.str "StatisticsError" 206, val := Value.ref 24 }, { hash := PyData.keyHash P "median_low", key := Value.str "median_low" 214, val := Value.ref 34 }, { hash := PyData.keyHash P "median_high", key := Value.str "median_high" 222, val := Value.ref 41 }, { hash := PyData.keyHash P "Entry", key := Value.str "Entry" 286, val := Value.ref 79 }, { hash := PyData.keyHash P "_law_rule", key := Value.str "_law_rule" 299, val := Value.ref 90 }, { hash := PyData.keyHash P "_law_steady", key := Value.str "_law_steady" 308, val := Value.ref 97 }, { hash := PyData.keyHash P "_law_windows", key := Value.str "_law_windows" 314, val := Value.ref 102 }, { hash := PyData.keyHash P "_law_refusal", key := Value.str "_law_refusal" 322, val := Value.ref 109 }, { hash := PyData.keyHash P "law", key := Value.str "law" 328, val := Value.ref 114 }] 18 }),
  (23, { cls := Value.type "dict", data := Data.dict #[{ hash := PyData.keyHash P "__module__", key := Value.str "__module__" 196, val := Value.str "cpy313.statistics" 187 }, { hash := PyData.keyHash P "__firstlineno__", key := Value.str "__firstlineno__" 200, val := Value.int 2 199 }, { hash := PyData.keyHash P "__static_attributes__", key := Value.str "__static_attributes__" 201, val := Value.ref 22 }, { hash := PyData.keyHash P "__weakref__", key := Value.str "__weakref__" 203, val := Value.ref 25 }, { hash := PyData.keyHash P "__doc__", key := Value.str "__doc__" 204, val := Value.none }] 3 }),
  (24, { cls := Value.type "type", data := Data.cls { name := "StatisticsError", bases := [Value.type "ValueError"], mro := [Value.ref 24, Value.type "ValueError", Value.type "Exception", Value.type "BaseException", Value.type "object"], ns := 23, qualname := "StatisticsError" }, slots := #[some (Value.ref 15), none, some (Value.str "StatisticsError" 189), some (Value.str "StatisticsError" 197), some (Value.builtin "ValueError.__new__"), some (Value.bool true)] }),
  (33, { cls := Value.type "code", data := Data.fields #[Value.str "median_low" 207, Value.str "median_low" 208, Value.str "/claim/cut.py" 209, Value.int 4 0, Value.int 1 0, Value.int 0 0, Value.int 0 0, Value.int 3 0, Value.ref 28, Value.bool true, Value.int 181 0, Value.ref 29, Value.none, Value.ref 30, Value.ref 31, Value.ref 32, Value.int 212 0, Value.int 4 0, Value.str "/claim/cut.py" 213] }),
  (34, kFn "median_low" "median_low" (fnArgs "median_low" top) (fnBody "median_low" top) (fnSc "median_low" top) (Value.str "cpy313.statistics" 187) 33),
  (40, { cls := Value.type "code", data := Data.fields #[Value.str "median_high" 215, Value.str "median_high" 216, Value.str "/claim/cut.py" 217, Value.int 13 0, Value.int 1 0, Value.int 0 0, Value.int 0 0, Value.int 3 0, Value.ref 35, Value.bool true, Value.int 181 0, Value.ref 36, Value.none, Value.ref 37, Value.ref 38, Value.ref 39, Value.int 220 0, Value.int 13 0, Value.str "/claim/cut.py" 221] }),
  (41, kFn "median_high" "median_high" (fnArgs "median_high" top) (fnBody "median_high" top) (fnSc "median_high" top) (Value.str "cpy313.statistics" 187) 40),
  (54, { cls := Value.type "code", data := Data.fields #[Value.str "__init__" 237, Value.str "Entry.__init__" 238, Value.str "/claim/cut.py" 239, Value.int 22 0, Value.int 1 0, Value.int 0 0, Value.int 0 0, Value.int 3 0, Value.ref 49, Value.bool true, Value.int 181 0, Value.ref 50, Value.none, Value.ref 51, Value.ref 52, Value.ref 53, Value.int 241 0, Value.int 22 0, Value.str "/claim/cut.py" 242] }),
  (55, kFn "__init__" "Entry.__init__" (fnArgs "__init__" entB) (fnBody "__init__" entB) (fnSc "__init__" entB) (Value.str "cpy313.urllib.robotparser" 223) 54),
  (75, { cls := Value.type "code", data := Data.fields #[Value.str "allowance" 263, Value.str "Entry.allowance" 264, Value.str "/claim/cut.py" 265, Value.int 56 0, Value.int 2 0, Value.int 0 0, Value.int 0 0, Value.int 3 0, Value.ref 70, Value.bool true, Value.int 181 0, Value.ref 71, Value.none, Value.ref 72, Value.ref 73, Value.ref 74, Value.int 272 0, Value.int 56 0, Value.str "/claim/cut.py" 273] }),
  (76, kFn "allowance" "Entry.allowance" (fnArgs "allowance" entB) (fnBody "allowance" entB) (fnSc "allowance" entB) (Value.str "cpy313.urllib.robotparser" 223) 75),
  (78, { cls := Value.type "dict", data := Data.dict #[{ hash := PyData.keyHash P "__module__", key := Value.str "__module__" 232, val := Value.str "cpy313.urllib.robotparser" 223 }, { hash := PyData.keyHash P "__firstlineno__", key := Value.str "__firstlineno__" 236, val := Value.int 20 235 }, { hash := PyData.keyHash P "__init__", key := Value.str "__init__" 243, val := Value.ref 55 }, { hash := PyData.keyHash P "__str__", key := Value.str "__str__" 253, val := Value.ref 62 }, { hash := PyData.keyHash P "applies_to", key := Value.str "applies_to" 262, val := Value.ref 69 }, { hash := PyData.keyHash P "allowance", key := Value.str "allowance" 274, val := Value.ref 76 }, { hash := PyData.keyHash P "__static_attributes__", key := Value.str "__static_attributes__" 279, val := Value.ref 77 }, { hash := PyData.keyHash P "__dict__", key := Value.str "__dict__" 281, val := Value.ref 80 }, { hash := PyData.keyHash P "__weakref__", key := Value.str "__weakref__" 283, val := Value.ref 81 }, { hash := PyData.keyHash P "__doc__", key := Value.str "__doc__" 284, val := Value.none }] 4 }),
  (79, { cls := Value.type "type", data := Data.cls { name := "Entry", bases := [Value.type "object"], mro := [Value.ref 79, Value.type "object"], ns := 78, qualname := "Entry" }, slots := #[none, none, some (Value.str "Entry" 225), some (Value.str "Entry" 233), some (Value.builtin "object.__new__"), some (Value.bool true)] }),
  (89, { cls := Value.type "code", data := Data.fields #[Value.str "_law_rule" 289, Value.str "_law_rule" 290, Value.str "/claim/cut.py" 291, Value.int 69 0, Value.int 2 0, Value.int 0 0, Value.int 0 0, Value.int 3 0, Value.ref 84, Value.bool true, Value.int 181 0, Value.ref 85, Value.none, Value.ref 86, Value.ref 87, Value.ref 88, Value.int 297 0, Value.int 69 0, Value.str "/claim/cut.py" 298] }),
  (90, kFn "_law_rule" "_law_rule" (fnArgs "_law_rule" top) (fnBody "_law_rule" top) (fnSc "_law_rule" top) (Value.str "law_rw0025_01" 287) 89),
  (96, { cls := Value.type "code", data := Data.fields #[Value.str "_law_steady" 300, Value.str "_law_steady" 301, Value.str "/claim/cut.py" 302, Value.int 74 0, Value.int 1 0, Value.int 0 0, Value.int 0 0, Value.int 3 0, Value.ref 91, Value.bool true, Value.int 181 0, Value.ref 92, Value.none, Value.ref 93, Value.ref 94, Value.ref 95, Value.int 306 0, Value.int 74 0, Value.str "/claim/cut.py" 307] }),
  (97, kFn "_law_steady" "_law_steady" (fnArgs "_law_steady" top) (fnBody "_law_steady" top) (fnSc "_law_steady" top) (Value.str "law_rw0025_01" 287) 96),
  (101, { cls := Value.type "code", data := Data.fields #[Value.str "_law_windows" 309, Value.str "_law_windows" 310, Value.str "/claim/cut.py" 311, Value.int 80 0, Value.int 1 0, Value.int 0 0, Value.int 0 0, Value.int 3 0, Value.ref 98, Value.bool true, Value.int 181 0, Value.ref 99, Value.none, Value.none, Value.none, Value.ref 100, Value.int 312 0, Value.int 80 0, Value.str "/claim/cut.py" 313] }),
  (102, kFn "_law_windows" "_law_windows" (fnArgs "_law_windows" top) (fnBody "_law_windows" top) (fnSc "_law_windows" top) (Value.str "law_rw0025_01" 287) 101),
  (108, { cls := Value.type "code", data := Data.fields #[Value.str "_law_refusal" 315, Value.str "_law_refusal" 316, Value.str "/claim/cut.py" 317, Value.int 83 0, Value.int 1 0, Value.int 0 0, Value.int 0 0, Value.int 3 0, Value.ref 103, Value.bool true, Value.int 181 0, Value.ref 104, Value.none, Value.ref 105, Value.ref 106, Value.ref 107, Value.int 320 0, Value.int 83 0, Value.str "/claim/cut.py" 321] }),
  (109, kFn "_law_refusal" "_law_refusal" (fnArgs "_law_refusal" top) (fnBody "_law_refusal" top) (fnSc "_law_refusal" top) (Value.str "law_rw0025_01" 287) 108),
  (113, { cls := Value.type "code", data := Data.fields #[Value.str "law" 323, Value.str "law" 324, Value.str "/claim/cut.py" 325, Value.int 88 0, Value.int 1 0, Value.int 0 0, Value.int 0 0, Value.int 3 0, Value.ref 110, Value.bool true, Value.int 181 0, Value.ref 111, Value.none, Value.none, Value.none, Value.ref 112, Value.int 326 0, Value.int 88 0, Value.str "/claim/cut.py" 327] }),
  (114, kFn "law" "law" (fnArgs "law" top) (fnBody "law" top) (fnSc "law" top) (Value.str "law_rw0025_01" 287) 113)]
noncomputable def adrs1 : List Addr := [3, 23, 24, 33, 34, 40, 41, 54, 55, 75, 76, 78, 79, 89, 90, 96, 97, 101, 102, 108, 109, 113, 114]
noncomputable def view1 : Program := { PySem.Challenge.pw_rw0025_01 with main := { PySem.Challenge.pw_rw0025_01.main with body := [nthS top 1, nthS top 2, nthS top 3, nthS top 5, nthS top 7, nthS top 8, nthS top 9, nthS top 10, nthS top 11] } }
noncomputable def hook1 : Hook := kmHook heap1 adrs1 (fun _ => by kernel_rfl) [85]
end Mine.L1

namespace Mine.L1
theorem fnk1 {K : Frag} {a : Addr} {f : Fd} {x : Str} (hx : f.params = [x]) (h1 : fdIs K a = true) (h2 : CodeAt K (fdGet K a).code (fdGet K a).qualname) (h3 : (fdGet K a).body = .stmts f.body) (h4 : (fdGet K a).scope.names = f.sc) (h5 : (fdGet K a).closure = []) (h6 : (fdGet K a).globals = mainGlobals) (h7 : (fdGet K a).builtins = builtinsNs)
    (h8 : (fdGet K a).scope.kind = .function) (h9 : (fdGet K a).scope.isCoroutine = false) (h10 : (fdGet K a).scope.isGenerator = false) (h11 : (f.sc.map (·.1)).Nodup) (h12 : ∀ x ∈ f.params, f.sc.lookup x = some .local ∨ f.sc.lookup x = some .cell) (h13 : ∀ v, bindArgs (fdGet K a) ⟨[v], []⟩ = pure [(x, v)]) : FnK K a f.params f.body f.sc :=
  ⟨h1, h2, h3, h4, h5, h6, h7, h8, h9, h10, by rw [hx]; exact List.nodup_cons.mpr ⟨List.not_mem_nil, List.nodup_nil⟩, h11, h12, fun vs hv => by
    rw [hx] at hv ⊢
    obtain ⟨a, rfl⟩ := vs1 hv
    exact h13 a⟩
theorem fnk2 {K : Frag} {a : Addr} {f : Fd} {x y : Str} (hx : f.params = [x, y]) (hne : x ≠ y) (h1 : fdIs K a = true) (h2 : CodeAt K (fdGet K a).code (fdGet K a).qualname) (h3 : (fdGet K a).body = .stmts f.body) (h4 : (fdGet K a).scope.names = f.sc) (h5 : (fdGet K a).closure = []) (h6 : (fdGet K a).globals = mainGlobals) (h7 : (fdGet K a).builtins = builtinsNs)
    (h8 : (fdGet K a).scope.kind = .function) (h9 : (fdGet K a).scope.isCoroutine = false) (h10 : (fdGet K a).scope.isGenerator = false) (h11 : (f.sc.map (·.1)).Nodup) (h12 : ∀ x ∈ f.params, f.sc.lookup x = some .local ∨ f.sc.lookup x = some .cell) (h13 : ∀ v u, bindArgs (fdGet K a) ⟨[v, u], []⟩ = pure [(x, v), (y, u)]) : FnK K a f.params f.body f.sc :=
  ⟨h1, h2, h3, h4, h5, h6, h7, h8, h9, h10, by rw [hx]; exact List.nodup_cons.mpr ⟨fun m => hne (List.mem_singleton.mp m), List.nodup_cons.mpr ⟨List.not_mem_nil, List.nodup_nil⟩⟩, h11, h12, fun vs hv => by
    rw [hx] at hv ⊢
    obtain ⟨a, b, rfl⟩ := vs2 hv
    exact h13 a b⟩
variable (P : Params)
theorem k_rule : FnK (heap1 P) 90 fRule.params fRule.body fRule.sc := fnk2 rfl (by decide +kernel) (by kernel_rfl) ⟨_, _, _, _, _, _, rfl, rfl, rfl⟩ (by kernel_rfl) (by kernel_rfl) (by kernel_rfl) (by kernel_rfl) (by kernel_rfl) (by kernel_rfl) (by kernel_rfl) (by kernel_rfl) (by decide +kernel) (by decide +kernel) fun _ _ => by kernel_rfl
theorem k_steady : FnK (heap1 P) 97 fSteady.params fSteady.body fSteady.sc := fnk1 rfl (by kernel_rfl) ⟨_, _, _, _, _, _, rfl, rfl, rfl⟩ (by kernel_rfl) (by kernel_rfl) (by kernel_rfl) (by kernel_rfl) (by kernel_rfl) (by kernel_rfl) (by kernel_rfl) (by kernel_rfl) (by decide +kernel) (by decide +kernel) fun _ => by kernel_rfl
theorem k_wins : FnK (heap1 P) 102 fWins.params fWins.body fWins.sc := fnk1 rfl (by kernel_rfl) ⟨_, _, _, _, _, _, rfl, rfl, rfl⟩ (by kernel_rfl) (by kernel_rfl) (by kernel_rfl) (by kernel_rfl) (by kernel_rfl) (by kernel_rfl) (by kernel_rfl) (by kernel_rfl) (by decide +kernel) (by decide +kernel) fun _ => by kernel_rfl
theorem k_ref : FnK (heap1 P) 109 fRef.params fRef.body fRef.sc := fnk1 rfl (by kernel_rfl) ⟨_, _, _, _, _, _, rfl, rfl, rfl⟩ (by kernel_rfl) (by kernel_rfl) (by kernel_rfl) (by kernel_rfl) (by kernel_rfl) (by kernel_rfl) (by kernel_rfl) (by kernel_rfl) (by decide +kernel) (by decide +kernel) fun _ => by kernel_rfl
theorem k_low : FnK (heap1 P) 34 fLow.params fLow.body fLow.sc := fnk1 rfl (by kernel_rfl) ⟨_, _, _, _, _, _, rfl, rfl, rfl⟩ (by kernel_rfl) (by kernel_rfl) (by kernel_rfl) (by kernel_rfl) (by kernel_rfl) (by kernel_rfl) (by kernel_rfl) (by kernel_rfl) (by decide +kernel) (by decide +kernel) fun _ => by kernel_rfl
theorem k_high : FnK (heap1 P) 41 fHigh.params fHigh.body fHigh.sc := fnk1 rfl (by kernel_rfl) ⟨_, _, _, _, _, _, rfl, rfl, rfl⟩ (by kernel_rfl) (by kernel_rfl) (by kernel_rfl) (by kernel_rfl) (by kernel_rfl) (by kernel_rfl) (by kernel_rfl) (by kernel_rfl) (by decide +kernel) (by decide +kernel) fun _ => by kernel_rfl
theorem k_law : FnK (heap1 P) 114 fLaw.params fLaw.body fLaw.sc := fnk1 rfl (by kernel_rfl) ⟨_, _, _, _, _, _, rfl, rfl, rfl⟩ (by kernel_rfl) (by kernel_rfl) (by kernel_rfl) (by kernel_rfl) (by kernel_rfl) (by kernel_rfl) (by kernel_rfl) (by kernel_rfl) (by decide +kernel) (by decide +kernel) fun _ => by kernel_rfl
theorem k_init : FnK (heap1 P) 55 fInit.params fInit.body fInit.sc := fnk1 rfl (by kernel_rfl) ⟨_, _, _, _, _, _, rfl, rfl, rfl⟩ (by kernel_rfl) (by kernel_rfl) (by kernel_rfl) (by kernel_rfl) (by kernel_rfl) (by kernel_rfl) (by kernel_rfl) (by kernel_rfl) (by decide +kernel) (by decide +kernel) fun _ => by kernel_rfl
theorem k_allow : FnK (heap1 P) 76 fAllow.params fAllow.body fAllow.sc := fnk2 rfl (by decide +kernel) (by kernel_rfl) ⟨_, _, _, _, _, _, rfl, rfl, rfl⟩ (by kernel_rfl) (by kernel_rfl) (by kernel_rfl) (by kernel_rfl) (by kernel_rfl) (by kernel_rfl) (by kernel_rfl) (by kernel_rfl) (by decide +kernel) (by decide +kernel) fun _ _ => by kernel_rfl
theorem k_ent : EntOk (heap1 P) 79 55 76 := ⟨by kernel_rfl, by kernel_rfl, by kernel_rfl, by kernel_rfl, by kernel_rfl, all_of ⟨by kernel_rfl, by kernel_rfl, by kernel_rfl, by kernel_rfl, trivial⟩, by kernel_rfl, by kernel_rfl, by kernel_rfl, by kernel_rfl, by kernel_rfl, by kernel_rfl⟩
theorem k_in : In1 (heap1 P) where
  nt := by kernel_rfl
  ent := k_ent P
  keep := by kernel_rfl
  gEnt := by kernel_rfl
  gBi := all_of ⟨by kernel_rfl, by kernel_rfl, by kernel_rfl, by kernel_rfl, by kernel_rfl, by kernel_rfl, by kernel_rfl, by kernel_rfl, by kernel_rfl, by kernel_rfl, by kernel_rfl, by kernel_rfl, by kernel_rfl, by kernel_rfl, trivial⟩
  gErr := by kernel_rfl
  gRule := by kernel_rfl
  gSteady := by kernel_rfl
  gWins := by kernel_rfl
  gRef := by kernel_rfl
  gLow := by kernel_rfl
  gHigh := by kernel_rfl
  gLaw := by kernel_rfl
  rule := k_rule P
  steady := k_steady P
  wins := k_wins P
  ref := k_ref P
  low := k_low P
  high := k_high P
  law := k_law P
  init := k_init P
  allow := k_allow P
  code := by kernel_rfl
  qual := by kernel_rfl
  err := ⟨23, "StatisticsError", "StatisticsError", [.type "ValueError"], true, [], [], false, none, none, some (.ref 15), none, some (.str "StatisticsError" 189), some (.str "StatisticsError" 197), some (.bool true), _, _, _, by kernel_rfl, rfl, rfl, by kernel_rfl, all_of ⟨by kernel_rfl, by kernel_rfl, by kernel_rfl, by kernel_rfl, by kernel_rfl, trivial⟩⟩
end Mine.L1

open Mine Mine.L1
set_option maxRecDepth 100000 in
set_option maxHeartbeats 8000000 in
theorem Mine.L1.left1 : LeftO PySem.Challenge.rw_rw0025_01.row.prog view1 [] (fun s => xlAt view1 [] s && recOk (RowW.records PySem.Challenge.rw_rw0025_01.row.toRowW) s) (Hook.obs hook1) (Hook.val hook1) 1728 := by
  intro w
  kernel_rfl
set_option maxRecDepth 100000 in
set_option maxHeartbeats 8000000 in
theorem Mine.L1.said1 : PySem.Challenge.rw_rw0025_01.wellSaid = true := by kernel_rfl
set_option maxRecDepth 100000 in
set_option maxHeartbeats 8000000 in
theorem PySem.Challenge.cw_rw0025_01_holds : PySem.Challenge.rw_rw0025_01.Holds := by
  w_on
  refine holds_law said1 fun said => ?_
  refine holds_open (q := view1) (loose := []) (XP := XL view1 []) (YP := Hook.says hook1) (N := 1728) left1 (Hook.of hook1) (Hook.keeps hook1) (fun s e => xl_of s (Bool.and_eq_true_iff.mp e).1) XL.keeps (by rfl) (by rfl) (by rfl) (fun s e => recFacts_of (Bool.and_eq_true_iff.mp e).2) (by rfl) (by first | assumption | decide +kernel) (by decide +kernel) ⟨rfl, rfl, rfl, rfl, rfl, by decide +kernel⟩ ?hw ?hc
  case hw => w_witness2
  k_fill
  intro w s₀ s₁ mg mb G Y fa o pm cd doc dV kV ho hd hcd hD hmg hg args vals as hpre hlay hrd hwl hlo
  have KX : Frag.In (heap1 w.params) s₁.heap := km_in_of Y
  have hT8 := km_tabs_of Y
  refine Ground.open G ?_
  intro T B D TE TW
  have hT9 : TabsAt [(89, 85)] s₁.heap := List.forall_mem_cons.mpr ⟨⟨codeHd_of_K (c := 89) (P := 85) KX (by kernel_rfl), hT8 85 (by simp)⟩, fun _ h => nomatch h⟩
  wrow_args hpre hlay hrd hwl hlo
  first | refine callC_kw (enter_call ?_) | refine enter_call ?_
  w_top on
  refine kn_post hT9 (fun _ _ => rfl) ?_
  have I := k_in w.params
  have hfa := mg_of KX (Top.g T) I.gLaw
  rw [hmg] at hfa
  cases hfa
  rename_i ns _ _ _ _ _ _ _ _ _ _ _ _ hwell _ _ _ hcond _
  refine main1 (ns := ns) ?_ I KX hT9 T hwell fun h' tk hk hgr => ⟨goodEnd ?_ ?_ hk ?_ ?_, hgr⟩
  · omega
  · intro cls; rfl
  · wrow_post
  · rfl
  · exact hg

