import PyProof.Rows.All
import Wide.All
import OpenK.AllK
import Wide.FinOn
import PySem.Challenge.RW_op0052_01
set_option Elab.async false
-- part MBase
section
open PySem PySem.W PyProof.Rows
namespace Mine

/-- values of the small language: tuples by value, lists by address -/
inductive MV where
  | none
  | bool (b : Bool)
  | int (i : Int)
  | bytes (l : List UInt8)
  | tup (xs : List MV)
  | lst (a : Addr)
  | raw (v : Value)

def tobj (vs : List Value) : Obj := { cls := .type "tuple", data := .seq vs.toArray }
def lobj (vs : List Value) (n : Nat) : Obj := { cls := .type "list", data := .seq vs.toArray n }

mutual
inductive VRep (h : Heap) : Value → MV → Prop
  | none : VRep h .none .none
  | bool (b : Bool) : VRep h (.bool b) (.bool b)
  | int (i : Int) (t : Tok) : VRep h (.int i t) (.int i)
  | bytes (l : List UInt8) (t : Tok) : VRep h (.bytes l.toArray t) (.bytes l)
  | lst (a : Addr) : VRep h (.ref a) (.lst a)
  | raw (v : Value) : VRep h v (.raw v)
  | tup {a : Addr} {vs : List Value} {ms : List MV} : h.get? a = some (tobj vs) → VReps h vs ms → VRep h (.ref a) (.tup ms)
inductive VReps (h : Heap) : List Value → List MV → Prop
  | nil : VReps h [] []
  | cons {v : Value} {m : MV} {vs : List Value} {ms : List MV} : VRep h v m → VReps h vs ms → VReps h (v :: vs) (m :: ms)
end

theorem VRep.mono {h h' : Heap} (k : ∀ a vs, h.get? a = some (tobj vs) → h'.get? a = some (tobj vs)) {v : Value} {m : MV} (x : VRep h v m) : VRep h' v m :=
  VRep.rec (motive_1 := fun v m _ => VRep h' v m) (motive_2 := fun vs ms _ => VReps h' vs ms) .none .bool .int .bytes .lst .raw (fun e _ ih => .tup (k _ _ e) ih) .nil (fun _ _ a b => .cons a b) x
theorem VReps.mono {h h' : Heap} (k : ∀ a vs, h.get? a = some (tobj vs) → h'.get? a = some (tobj vs)) {vs : List Value} {ms : List MV} (x : VReps h vs ms) : VReps h' vs ms :=
  VReps.rec (motive_1 := fun v m _ => VRep h' v m) (motive_2 := fun vs ms _ => VReps h' vs ms) .none .bool .int .bytes .lst .raw (fun e _ ih => .tup (k _ _ e) ih) .nil (fun _ _ a b => .cons a b) x
theorem VReps.ind {h : Heap} {P : List Value → List MV → Prop} (h0 : P [] []) (h1 : ∀ v m vs ms, VRep h v m → VReps h vs ms → P vs ms → P (v :: vs) (m :: ms)) {vs : List Value} {ms : List MV} (r : VReps h vs ms) : P vs ms :=
  VReps.rec (motive_1 := fun _ _ _ => True) (motive_2 := fun vs ms _ => P vs ms) trivial (fun _ => trivial) (fun _ _ => trivial) (fun _ _ => trivial) (fun _ => trivial) (fun _ => trivial) (fun _ _ _ => trivial) h0 (fun x r _ ih => h1 _ _ _ _ x r ih) r

theorem VReps.length {h : Heap} {vs : List Value} {ms : List MV} (r : VReps h vs ms) : vs.length = ms.length :=
  r.ind (P := fun vs ms => vs.length = ms.length) rfl fun _ _ _ _ _ _ ih => congrArg (· + 1) ih
theorem VReps.append {h : Heap} {vs : List Value} {ms : List MV} {vs' : List Value} {ms' : List MV} (r : VReps h vs ms) (r' : VReps h vs' ms') : VReps h (vs ++ vs') (ms ++ ms') :=
  r.ind (P := fun vs ms => VReps h (vs ++ vs') (ms ++ ms')) r' fun _ _ _ _ x _ ih => .cons x ih
theorem VReps.get {h : Heap} {vs : List Value} {ms : List MV} {i : Nat} {m : MV} (r : VReps h vs ms) (e : ms[i]? = some m) : ∃ v, vs[i]? = some v ∧ VRep h v m := by
  refine r.ind (P := fun vs ms => ∀ i, ms[i]? = some m → ∃ v, vs[i]? = some v ∧ VRep h v m) ?_ ?_ i e
  · intro i e; cases e
  · intro v m' vs ms x _ ih i e
    cases i with
    | zero => cases e; exact ⟨_, rfl, x⟩
    | succ i => exact ih i e
theorem VReps.set {h : Heap} {vs : List Value} {ms : List MV} {i : Nat} {v : Value} {m : MV} (r : VReps h vs ms) (x : VRep h v m) : VReps h (vs.set i v) (ms.set i m) := by
  refine r.ind (P := fun vs ms => ∀ i, VReps h (vs.set i v) (ms.set i m)) ?_ ?_ i
  · intro i; exact .nil
  · intro v m' vs ms y r ih i
    cases i with
    | zero => exact .cons x r
    | succ i => exact .cons y (ih i)
theorem VReps.take {h : Heap} {vs : List Value} {ms : List MV} (i : Nat) (r : VReps h vs ms) : VReps h (vs.take i) (ms.take i) := by
  refine r.ind (P := fun vs ms => ∀ i, VReps h (vs.take i) (ms.take i)) ?_ ?_ i
  · intro i; cases i <;> exact .nil
  · intro v m' vs ms y r ih i
    cases i with
    | zero => exact .nil
    | succ i => exact .cons y (ih i)
theorem VReps.drop {h : Heap} {vs : List Value} {ms : List MV} (i : Nat) (r : VReps h vs ms) : VReps h (vs.drop i) (ms.drop i) := by
  refine r.ind (P := fun vs ms => ∀ i, VReps h (vs.drop i) (ms.drop i)) ?_ ?_ i
  · intro i; cases i <;> exact .nil
  · intro v m' vs ms y r ih i
    cases i with
    | zero => exact .cons y r
    | succ i => exact ih i
theorem VReps.repl {h : Heap} {v : Value} {m : MV} (x : VRep h v m) : ∀ n, VReps h (List.replicate n v) (List.replicate n m)
  | 0 => .nil
  | n + 1 => .cons x (VReps.repl x n)

theorem VRep.int_inv {h : Heap} {v : Value} {i : Int} (x : VRep h v (.int i)) : ∃ t, v = .int i t := by cases x; exact ⟨_, rfl⟩
theorem VRep.bool_inv {h : Heap} {v : Value} {b : Bool} (x : VRep h v (.bool b)) : v = .bool b := by cases x; rfl
theorem VRep.none_inv {h : Heap} {v : Value} (x : VRep h v .none) : v = .none := by cases x; rfl
theorem VRep.bytes_inv {h : Heap} {v : Value} {l : List UInt8} (x : VRep h v (.bytes l)) : ∃ t, v = .bytes l.toArray t := by cases x; exact ⟨_, rfl⟩
theorem VRep.lst_inv {h : Heap} {v : Value} {a : Addr} (x : VRep h v (.lst a)) : v = .ref a := by cases x; rfl
theorem VRep.raw_inv {h : Heap} {v w : Value} (x : VRep h v (.raw w)) : v = w := by cases x; rfl
theorem VRep.tup_inv {h : Heap} {v : Value} {ms : List MV} (x : VRep h v (.tup ms)) : ∃ a vs, v = .ref a ∧ h.get? a = some (tobj vs) ∧ VReps h vs ms := by
  cases x with
  | tup e r => exact ⟨_, _, rfl, e, r⟩

abbrev MHeap := Addr → Option (List MV)
def MHeap.set (H : MHeap) (a : Addr) (xs : List MV) : MHeap := fun b => if b = a then some xs else H b
@[simp] theorem MHeap.set_self (H : MHeap) (a : Addr) (xs : List MV) : H.set a xs a = some xs := by simp [MHeap.set]
theorem MHeap.set_ne (H : MHeap) {a b : Addr} (xs : List MV) (h : b ≠ a) : H.set a xs b = H b := by simp [MHeap.set, h]

/-- the lists that the small heap tells of lie in the heap -/
def StH (H : MHeap) (h : Heap) : Prop := ∀ a xs, H a = some xs → ∃ vs n, h.get? a = some (lobj vs n) ∧ VReps h vs xs

/-- what is not told of stays; what is new in the small heap is new -/
structure Kp (H H' : MHeap) (s s' : Shared) : Prop where
  os : s'.os = s.os
  gens : s'.gens = s.gens
  keep : ∀ a o, s.heap.get? a = some o → H a = none → s'.heap.get? a = some o
  dom : ∀ a, H' a ≠ none → H a ≠ none ∨ s.heap.get? a = none
  live : ∀ a, s.heap.get? a ≠ none → s'.heap.get? a ≠ none

theorem Kp.refl (H : MHeap) (s : Shared) : Kp H H s s := ⟨rfl, rfl, fun _ _ e _ => e, fun _ e => .inl e, fun _ e => e⟩
theorem Kp.trans {H H₁ H₂ : MHeap} {s s₁ s₂ : Shared} (a : Kp H H₁ s s₁) (b : Kp H₁ H₂ s₁ s₂) : Kp H H₂ s s₂ where
  os := b.os.trans a.os
  gens := b.gens.trans a.gens
  keep := fun x o e n => b.keep x o (a.keep x o e n) (by
    cases q : H₁ x with
    | none => rfl
    | some y =>
      rcases a.dom x (by rw [q]; exact Option.some_ne_none _) with z | z
      · exact absurd n z
      · rw [e] at z; cases z)
  dom := fun x n => by
    rcases b.dom x n with z | z
    · exact a.dom x z
    · cases q : s.heap.get? x with
      | none => exact .inr rfl
      | some o => exact absurd z (a.live x (by rw [q]; exact Option.some_ne_none _))
  live := fun x e => b.live x (a.live x e)

theorem StH.tup {H : MHeap} {h : Heap} (S : StH H h) {a : Addr} {vs : List Value} (e : h.get? a = some (tobj vs)) : H a = none := by
  cases q : H a with
  | none => rfl
  | some xs =>
    obtain ⟨vs', n, e', _⟩ := S a xs q
    rw [e] at e'
    have : Value.type "tuple" = Value.type "list" := congrArg Obj.cls (Option.some.inj e')
    exact absurd this (by decide)
theorem VRep.kp {H H' : MHeap} {s s' : Shared} (S : StH H s.heap) (k : Kp H H' s s') {v : Value} {m : MV} (x : VRep s.heap v m) : VRep s'.heap v m :=
  x.mono fun a _ e => k.keep a _ e (S.tup e)
theorem VReps.kp {H H' : MHeap} {s s' : Shared} (S : StH H s.heap) (k : Kp H H' s s') {v : List Value} {m : List MV} (x : VReps s.heap v m) : VReps s'.heap v m :=
  x.mono fun a _ e => k.keep a _ e (S.tup e)

/-- a heap that only grew -/
def Grew (s s' : Shared) : Prop := s'.os = s.os ∧ s'.gens = s.gens ∧ ∀ a o, s.heap.get? a = some o → s'.heap.get? a = some o
theorem Grew.live {s s' : Shared} (g : Grew s s') (a : Addr) (e : s.heap.get? a ≠ none) : s'.heap.get? a ≠ none := by
  cases q : s.heap.get? a with
  | none => exact absurd q e
  | some o => rw [g.2.2 a o q]; exact Option.some_ne_none _
theorem Grew.kp {s s' : Shared} (g : Grew s s') (H : MHeap) : Kp H H s s' := ⟨g.1, g.2.1, fun a o e _ => g.2.2 a o e, fun _ e => .inl e, g.live⟩
theorem Grew.sth {s s' : Shared} (g : Grew s s') {H : MHeap} (S : StH H s.heap) : StH H s'.heap := fun a xs e => by
  obtain ⟨vs, n, ho, r⟩ := S a xs e
  exact ⟨vs, n, g.2.2 _ _ ho, r.mono fun a _ e => g.2.2 _ _ e⟩
theorem Grew.refl (s : Shared) : Grew s s := ⟨rfl, rfl, fun _ _ e => e⟩
theorem Grew.trans {s s₁ s₂ : Shared} (a : Grew s s₁) (b : Grew s₁ s₂) : Grew s s₂ := ⟨b.1.trans a.1, b.2.1.trans a.2.1, fun x o e => b.2.2 x o (a.2.2 x o e)⟩
theorem Grew.toks (s : Shared) (n : Nat) : Grew s { s with toks := n } := ⟨rfl, rfl, fun _ _ e => e⟩
theorem Grew.push (s : Shared) (o : Obj) (n : Nat) : Grew s { s with heap := s.heap.push o, toks := n } := ⟨rfl, rfl, fun _ _ e => Heap.get?_push_of_some _ e⟩

theorem get_new (h : Heap) : h.get? h.objs.size = none := by
  cases q : h.get? h.objs.size with
  | none => rfl
  | some o => exact absurd (Heap.lt_size q) (Nat.lt_irrefl _)

/-- a new list goes onto the small heap -/
theorem StH.new {H : MHeap} {s s' : Shared} {a : Addr} {vs : List Value} {xs : List MV} {n : Nat} (S : StH H s.heap) (g : Grew s s') (e : s'.heap.get? a = some (lobj vs n))
    (r : VReps s.heap vs xs) : StH (H.set a xs) s'.heap := fun b ys q => by
  by_cases hb : b = a
  · subst hb
    rw [MHeap.set_self] at q
    cases q
    exact ⟨vs, n, e, r.mono fun a _ e => g.2.2 _ _ e⟩
  · rw [MHeap.set_ne _ _ hb] at q
    exact g.sth S b ys q
theorem Kp.new {H : MHeap} {s s' : Shared} {a : Addr} {xs : List MV} (g : Grew s s') (hn : s.heap.get? a = none) : Kp H (H.set a xs) s s' :=
  ⟨g.1, g.2.1, fun b o e _ => g.2.2 b o e, fun b e => by
    by_cases hb : b = a
    · subst hb; exact .inr hn
    · rw [MHeap.set_ne _ _ hb] at e; exact .inl e, g.live⟩

/-- a told list is changed -/
theorem StH.upd {H : MHeap} {h h' : Heap} {a : Addr} {vs : List Value} {xs ys : List MV} {n : Nat} (S : StH H h) (hx : H a = some xs) (hs : ∀ b, b ≠ a → ∀ o, h.get? b = some o → h'.get? b = some o)
    (e : h'.get? a = some (lobj vs n)) (r : VReps h vs ys) : StH (H.set a ys) h' := fun b zs q => by
  have kt : ∀ c ws, h.get? c = some (tobj ws) → h'.get? c = some (tobj ws) := fun c ws ec => by
    by_cases hc : c = a
    · subst hc
      have := S.tup ec
      rw [hx] at this; cases this
    · exact hs c hc _ ec
  by_cases hb : b = a
  · subst hb
    rw [MHeap.set_self] at q
    cases q
    exact ⟨vs, n, e, r.mono kt⟩
  · rw [MHeap.set_ne _ _ hb] at q
    obtain ⟨vs', n', ho, r'⟩ := S b zs q
    exact ⟨vs', n', hs b hb _ ho, r'.mono kt⟩
theorem Kp.upd {H : MHeap} {s s' : Shared} {a : Addr} {xs ys : List MV} (hx : H a = some xs) (ho : s'.os = s.os) (hg : s'.gens = s.gens) (hs : ∀ b, b ≠ a → ∀ o, s.heap.get? b = some o → s'.heap.get? b = some o) (hl : s'.heap.get? a ≠ none) :
    Kp H (H.set a ys) s s' :=
  ⟨ho, hg, fun b o e n => by
    by_cases hb : b = a
    · subst hb; rw [hx] at n; cases n
    · exact hs b hb o e, fun b e => by
    by_cases hb : b = a
    · subst hb; exact .inl (by rw [hx]; exact Option.some_ne_none _)
    · rw [MHeap.set_ne _ _ hb] at e; exact .inl e, fun b e => by
    by_cases hb : b = a
    · subst hb; exact hl
    · cases q : s.heap.get? b with
      | none => exact absurd q e
      | some o => rw [hs b hb o q]; exact Option.some_ne_none _⟩

end Mine
end
-- part MDen
section
open PySem PySem.W PyProof.Rows
namespace Mine

/-- the ground: program, world, and the heap that the law's call finds -/
structure Gd where
  prog : Program
  w : World
  h₁ : Heap
  mg : Str → Option Value
  mb : Str → Option Value
abbrev Gd.M (G : Gd) : Model := model G.prog G.w
structure Gd.Ok (G : Gd) : Prop where
  g : G.h₁.Ns mainGlobals G.mg
  b : G.h₁.Ns builtinsNs G.mb
  nolimit : G.h₁.NoLimit

/-- which names a block sees: slots and globals -/
structure Fm where
  vis : List (Str × Nat)
  gls : List Str
  cel : List Str := []

structure EnvOk (fm : Fm) (env : Env) : Prop where
  kind : env.scope.kind = .function
  gl : env.globals = mainGlobals
  bl : env.builtins = builtinsNs
  vis : ∀ x i, (x, i) ∈ fm.vis → (x == ("__debug__" : Str)) = false ∧
    (env.kindOf x = some .local ∨ env.kindOf x = some .cell ∨ (env.kindOf x = some .free ∧ (x == ("__classdict__" : Str)) = false))
  gls : ∀ x ∈ fm.gls, env.kindOf x = some .globalImplicit ∧ (x == ("__debug__" : Str)) = false
  cel : ∀ x ∈ fm.cel, env.kindOf x = some .cell
  inj : ∀ x i y j, (x, i) ∈ fm.vis → (y, j) ∈ fm.vis → (x = y ↔ i = j)
  cinj : ∀ x y c, env.cells.lookup x = some c → env.cells.lookup y = some c → x = y

def BoundTo (env : Env) (h : Heap) (x : Str) (v : Value) : Prop :=
  (env.kindOf x = some .local ∧ ∃ m, h.Ns env.locals m ∧ m x = some v) ∨
  (env.kindOf x ≠ some .local ∧ ∃ c, env.cells.lookup x = some c ∧ h.IsCell c (some v))

abbrev Loc := Nat → Option MV
def Loc.set (ρ : Loc) (i : Nat) (v : MV) : Loc := fun j => if j = i then some v else ρ j

structure St (G : Gd) (fm : Fm) (env : Env) (H : MHeap) (ρ : Loc) (s : Shared) : Prop where
  eo : EnvOk fm env
  old : ∀ a o, G.h₁.get? a = some o → s.heap.get? a = some o
  new : ∀ a, H a ≠ none → G.h₁.get? a = none
  ns : ∃ m, s.heap.Ns env.locals m
  lnew : G.h₁.get? env.locals = none
  cells : ∀ x i, (x, i) ∈ fm.vis → env.kindOf x ≠ some .local → ∃ c, env.cells.lookup x = some c ∧ (∃ v, s.heap.IsCell c v) ∧ G.h₁.get? c = none
  loc : ∀ x i, (x, i) ∈ fm.vis → ∀ mv, ρ i = some mv → ∃ v, BoundTo env s.heap x v ∧ VRep s.heap v mv
  hp : StH H s.heap

theorem ns_ne_tup {h : Heap} {a : Addr} {m : Str → Option Value} {vs : List Value} (e : h.Ns a m) (t : h.get? a = some (tobj vs)) : False := by
  obtain ⟨o, es, ep, ho, hd, _⟩ := e
  rw [ho] at t; cases t; cases hd
theorem ns_ne_cell {h : Heap} {a : Addr} {m : Str → Option Value} {v : Option Value} (e : h.Ns a m) (t : h.IsCell a v) : False := by
  obtain ⟨o, es, ep, ho, hd, _⟩ := e
  obtain ⟨o', ho', hd'⟩ := t
  rw [ho] at ho'; cases ho'; rw [hd] at hd'; cases hd'
theorem ns_same {h : Heap} {a : Addr} {m m' : Str → Option Value} (e : h.Ns a m) (t : h.Ns a m') (x : Str) : m x = m' x := by
  obtain ⟨o, es, ep, ho, hd, _, hm⟩ := e
  obtain ⟨o', es', ep', ho', hd', _, hm'⟩ := t
  rw [ho] at ho'; cases ho'; rw [hd] at hd'; cases hd'
  rw [← hm, hm']
theorem ns_some {h : Heap} {a : Addr} {m : Str → Option Value} (e : h.Ns a m) : ∃ o, h.get? a = some o := by
  obtain ⟨o, es, ep, ho, _⟩ := e; exact ⟨o, ho⟩
theorem ns_copy {h h' : Heap} {a : Addr} {m : Str → Option Value} (e : h.Ns a m) (k : ∀ o, h.get? a = some o → h'.get? a = some o) : h'.Ns a m := by
  obtain ⟨o, es, ep, ho, r⟩ := e; exact ⟨o, es, ep, k _ ho, r⟩
theorem StH.ns {H : MHeap} {h : Heap} (S : StH H h) {a : Addr} {m : Str → Option Value} (e : h.Ns a m) : H a = none := by
  cases q : H a with
  | none => rfl
  | some xs =>
    obtain ⟨vs', n, e', _⟩ := S a xs q
    obtain ⟨o, es, ep, ho, hd, _⟩ := e
    rw [ho] at e'
    cases e'
    cases hd
theorem StH.cell {H : MHeap} {h : Heap} (S : StH H h) {a : Addr} {v : Option Value} (e : h.IsCell a v) : H a = none := by
  cases q : H a with
  | none => rfl
  | some xs =>
    obtain ⟨vs', n, e', _⟩ := S a xs q
    obtain ⟨o, ho, hd⟩ := e
    rw [ho] at e'
    cases e'
    cases hd

theorem St.kp {G : Gd} {fm : Fm} {env : Env} {H H' : MHeap} {ρ : Loc} {s s' : Shared} (S : St G fm env H ρ s) (k : Kp H H' s s') (hp : StH H' s'.heap) : St G fm env H' ρ s' where
  eo := S.eo
  old := fun a o e => k.keep a o (S.old a o e) (by
    cases q : H a with
    | none => rfl
    | some x => have := S.new a (by rw [q]; exact Option.some_ne_none _); rw [e] at this; cases this)
  new := fun a e => by
    rcases k.dom a e with z | z
    · exact S.new a z
    · cases q : G.h₁.get? a with
      | none => rfl
      | some o => rw [S.old a o q] at z; cases z
  ns := by
    obtain ⟨m, hm⟩ := S.ns
    have hn := S.hp.ns hm
    obtain ⟨o, es, ep, ho, r⟩ := hm
    exact ⟨m, o, es, ep, k.keep _ _ ho hn, r⟩
  lnew := S.lnew
  cells := fun x i hx hk => by
    obtain ⟨c, hc, ⟨v, hv⟩, hg⟩ := S.cells x i hx hk
    have hn := S.hp.cell hv
    obtain ⟨o, ho, hd⟩ := hv
    exact ⟨c, hc, ⟨v, o, k.keep _ _ ho hn, hd⟩, hg⟩
  loc := fun x i hx mv hr => by
    obtain ⟨v, hb, hv⟩ := S.loc x i hx mv hr
    obtain ⟨m, hm⟩ := S.ns
    have hn := S.hp.ns hm
    refine ⟨v, ?_, hv.kp S.hp k⟩
    rcases hb with ⟨hk, m', ⟨o, es, ep, ho, r⟩, hm'⟩ | ⟨hk, c, hc, o, ho, hd⟩
    · exact .inl ⟨hk, m', ⟨o, es, ep, k.keep _ _ ho hn, r⟩, hm'⟩
    · exact .inr ⟨hk, c, hc, o, k.keep _ _ ho (S.hp.cell ⟨o, ho, hd⟩), hd⟩
  hp := hp

structure Room (d : Nat) (A : Around) : Prop where
  handled : A.handled = none
  depth : A.depth + d ≤ 900
  units : A.units + 100 * d ≤ 9000
theorem Room.deeper {d : Nat} {A : Around} (r : Room (d + 1) A) (env : Env) : Room d (A.deeper env) :=
  ⟨r.handled, by have := r.depth; show A.depth + 1 + d ≤ 900; lia, by have := r.units; show A.units + 3 + 100 * d ≤ 9000; lia⟩
theorem Room.le {d d' : Nat} {A : Around} (r : Room d A) (h : d' ≤ d) : Room d' A := ⟨r.handled, by have := r.depth; lia, by have := r.units; lia⟩
theorem Room.lim {d : Nat} {A : Around} (r : Room d A) : A.depth < recursionLimit := by have := r.depth; show A.depth < 1000; lia
theorem Room.cl {d : Nat} {A : Around} (r : Room d A) : A.units < cLine := by have := r.units; show A.units < 9900; lia
theorem Room.cl64 {d : Nat} {A : Around} (r : Room d A) : A.units + 64 < cLine := by have := r.units; show A.units + 64 < 9900; omega

def noE : Value → Shared → Prop := fun _ _ => False
inductive PE (H : MHeap) (s : Shared) (Q : MV → MHeap → Prop) (v : Value) (s' : Shared) : Prop
  | mk (mv : MV) (H' : MHeap) (q : Q mv H') (r : VRep s'.heap v mv) (S : StH H' s'.heap) (k : Kp H H' s s') : PE H s Q v s'
inductive PT (H : MHeap) (s : Shared) (Q : Bool → MHeap → Prop) (b : Bool) (s' : Shared) : Prop
  | mk (H' : MHeap) (q : Q b H') (S : StH H' s'.heap) (k : Kp H H' s s') : PT H s Q b s'
inductive PA (H : MHeap) (s : Shared) (Q : List MV → MHeap → Prop) (vs : List Value) (s' : Shared) : Prop
  | mk (ms : List MV) (H' : MHeap) (q : Q ms H') (r : VReps s'.heap vs ms) (S : StH H' s'.heap) (k : Kp H H' s s') : PA H s Q vs s'

abbrev WE := Loc → (MV → MHeap → Prop) → MHeap → Prop
abbrev WT := Loc → (Bool → MHeap → Prop) → MHeap → Prop
abbrev WA := Loc → (List MV → MHeap → Prop) → MHeap → Prop

/-- the piece e, in a block that sees fm, is told by W -/
def DE (G : Gd) (fm : Fm) (d : Nat) (e : Expr) (W : WE) : Prop :=
  ∀ env A s ρ H Q, Room d A → St G fm env H ρ s → W ρ Q H → wpAny G.M A (eval e env) (PE H s Q) noE s
def DT (G : Gd) (fm : Fm) (d : Nat) (e : Expr) (W : WT) : Prop :=
  ∀ env A s ρ H Q, Room d A → St G fm env H ρ s → W ρ Q H → wpAny G.M A (isTrue e env (eval e env)) (PT H s Q) noE s
/-- a list of arguments or items -/
def DA (G : Gd) (fm : Fm) (d : Nat) (es : List Expr) (W : WA) : Prop :=
  ∀ env A s ρ H Q pos, Room d A → St G fm env H ρ s → W ρ Q H → wpAny G.M A (spliced (backTo pos (starEach es env))) (PA H s Q) noE s

theorem PE.trans {H H₁ : MHeap} {s s₁ : Shared} {Q : MV → MHeap → Prop} (k : Kp H H₁ s s₁) : ∀ v s', PE H₁ s₁ Q v s' → PE H s Q v s' :=
  fun _ _ ⟨mv, H', q, r, S, k'⟩ => ⟨mv, H', q, r, S, k.trans k'⟩
theorem PT.trans {H H₁ : MHeap} {s s₁ : Shared} {Q : Bool → MHeap → Prop} (k : Kp H H₁ s s₁) : ∀ v s', PT H₁ s₁ Q v s' → PT H s Q v s' :=
  fun _ _ ⟨H', q, S, k'⟩ => ⟨H', q, S, k.trans k'⟩

section
variable {G : Gd} {fm : Fm} {d : Nat}

theorem de_mono {e : Expr} {W W' : WE} (h : DE G fm d e W) (hw : ∀ ρ Q H, W' ρ Q H → W ρ Q H) : DE G fm d e W' :=
  fun env A s ρ H Q r S w => h env A s ρ H Q r S (hw _ _ _ w)

/-- a value at hand -/
theorem PE.now {H : MHeap} {s s' : Shared} {Q : MV → MHeap → Prop} {v : Value} {mv : MV} (S : StH H s.heap) (g : Grew s s') (r : VRep s'.heap v mv) (q : Q mv H) : PE H s Q v s' :=
  ⟨mv, H, q, r, g.sth S, g.kp H⟩

-- names
theorem de_var {x : Str} {i : Nat} {pos : Pos} (hx : (x, i) ∈ fm.vis) : DE G fm d (.Name x pos) (fun ρ Q H => ∃ v, ρ i = some v ∧ Q v H) := by
  intro env A s ρ H Q r S ⟨mv, hr, q⟩
  obtain ⟨v, hb, hv⟩ := S.loc x i hx mv hr
  obtain ⟨hd, hk⟩ := S.eo.vis x i hx
  have post : PE H s Q v s := PE.now S.hp (Grew.refl s) hv q
  rcases hb with ⟨hl, m, hn, hm⟩ | ⟨hl, c, hc, hcell⟩
  · exact wpAny_Name (wpAny_loadName_local S.eo.kind hl hn hm post) hd
  · rcases hk with hk | hk | ⟨hk, hcd⟩
    · exact absurd hk hl
    · exact wpAny_Name (wpAny_loadName_cell S.eo.kind hk hc hcell post) hd
    · exact wpAny_Name (wpAny_loadName_free S.eo.kind hk hc hcell post hcd) hd

/-- a global of the text's, or a built-in -/
inductive GlobIs (G : Gd) : Str → Value → Prop
  | main {x v} : G.h₁.Ns mainGlobals G.mg → G.mg x = some v → GlobIs G x v
  | builtin {x v} : G.h₁.Ns mainGlobals G.mg → G.h₁.Ns builtinsNs G.mb → G.mg x = none → G.mb x = some v → GlobIs G x v

theorem ev_glob {x : Str} {v : Value} {pos : Pos} {env : Env} {A : Around} {s : Shared} {ρ : Loc} {H : MHeap} {Q : Value → Shared → Prop} {E : Value → Shared → Prop} (hx : x ∈ fm.gls) (hg : GlobIs G x v) (S : St G fm env H ρ s) (q : Q v s) :
    wpAny G.M A (eval (.Name x pos) env) Q E s := by
  obtain ⟨hk, hd⟩ := S.eo.gls x hx
  refine Calls.Name_function_global S.eo.kind hk ?_ hd
  cases hg with
  | main hg hv => exact Calls.loadGlobal_global (by rw [S.eo.gl]; exact hg.keeps S.old) hv q
  | builtin hg hb hn hv => exact Calls.loadGlobal_builtin (by rw [S.eo.gl]; exact hg.keeps S.old) hn (by rw [S.eo.bl]; exact hb.keeps S.old) hv q
theorem de_glob {x : Str} {v : Value} {mv : MV} {pos : Pos} (hx : x ∈ fm.gls) (hg : GlobIs G x v) (hv : ∀ h, VRep h v mv) : DE G fm d (.Name x pos) (fun _ Q H => Q mv H) := by
  intro env A s ρ H Q r S q
  exact ev_glob hx hg S (PE.now S.hp (Grew.refl s) (hv _) q)

-- written values
theorem de_int {i : Int} {k : Nat} {pos : Pos} : DE G fm d (.Constant (.int i) k pos) (fun _ Q H => Q (.int i) H) :=
  fun _ _ s _ _ _ _ S q => wpAny_Constant_int (PE.now S.hp (Grew.toks s _) (.int i _) q)
theorem de_bytes {l : List UInt8} {k : Nat} {pos : Pos} : DE G fm d (.Constant (.bytes l) k pos) (fun _ Q H => Q (.bytes l) H) :=
  fun env A s _ _ Q _ S q => by
    show wpAny G.M A (mkTextBytes l.toArray) _ _ _
    exact wpAny_bind (wpAny_fresh (wpAny_pure (PE.now S.hp (Grew.toks s _) (.bytes l _) q)))
theorem de_bool {b : Bool} {k : Nat} {pos : Pos} : DE G fm d (.Constant (.bool b) k pos) (fun _ Q H => Q (.bool b) H) :=
  fun _ _ s _ _ _ _ S q => wpAny_Constant_bool (PE.now S.hp (Grew.refl s) (.bool b) q)
theorem de_none {k : Nat} {pos : Pos} : DE G fm d (.Constant .none k pos) (fun _ Q H => Q .none H) :=
  fun _ _ s _ _ _ _ S q => wpAny_Constant_none (PE.now S.hp (Grew.refl s) .none q)

-- two operands
/-- what an operator makes of two values at hand -/
def DOp (G : Gd) (d : Nat) (f : Value → Value → Sem Value) (W : MV → MV → (MV → MHeap → Prop) → MHeap → Prop) : Prop :=
  ∀ A s H Q a b ma mb, Room d A → StH H s.heap → VRep s.heap a ma → VRep s.heap b mb → (∀ c o, G.h₁.get? c = some o → s.heap.get? c = some o) → W ma mb Q H → wpAny G.M A (f a b) (PE H s Q) noE s

theorem de_bin {l r : Expr} {op : Operator} {pos : Pos} {Wl Wr : WE} {W : MV → MV → (MV → MHeap → Prop) → MHeap → Prop} (hl : DE G fm d l Wl) (hr : DE G fm d r Wr) (ho : DOp G d (binaryOp op) W) :
    DE G fm d (.BinOp l op r pos) (fun ρ Q H => Wl ρ (fun a H₁ => Wr ρ (fun b H₂ => W a b Q H₂) H₁) H) := by
  intro env A s ρ H Q rm S w
  refine wpAny_BinOp (wpAny_mono (hl env A s ρ H _ rm S w) (fun a s₁ h₁ => ?_) fun _ _ x => x)
  obtain ⟨ma, H₁, w₁, va, S₁, k₁⟩ := h₁
  have St₁ := S.kp k₁ S₁
  refine wpAny_mono (hr env A s₁ ρ H₁ _ rm St₁ w₁) (fun b s₂ h₂ => ?_) fun _ _ x => x
  obtain ⟨mb, H₂, w₂, vb, S₂, k₂⟩ := h₂
  exact wpAny_mono (ho A s₂ H₂ Q a b ma mb rm S₂ (va.kp S₁ k₂) vb (St₁.kp k₂ S₂).old w₂) (PE.trans (k₁.trans k₂)) fun _ _ x => x

theorem de_cmp {l r : Expr} {op : CmpOp} {pos : Pos} {Wl Wr : WE} {W : MV → MV → (MV → MHeap → Prop) → MHeap → Prop} (hl : DE G fm d l Wl) (hr : DE G fm d r Wr) (ho : DOp G d (compareOp op) W) (hm : behindInMarks op r = false := by rfl) :
    DE G fm d (.Compare l [op] [r] pos) (fun ρ Q H => Wl ρ (fun a H₁ => Wr ρ (fun b H₂ => W a b Q H₂) H₁) H) := by
  intro env A s ρ H Q rm S w
  refine wpAny_Compare1 (wpAny_mono (hl env A s ρ H _ rm S w) (fun a s₁ h₁ => ?_) fun _ _ x => x) hm
  obtain ⟨ma, H₁, w₁, va, S₁, k₁⟩ := h₁
  have St₁ := S.kp k₁ S₁
  refine wpAny_mono (hr env A s₁ ρ H₁ _ rm St₁ w₁) (fun b s₂ h₂ => ?_) fun _ _ x => x
  obtain ⟨mb, H₂, w₂, vb, S₂, k₂⟩ := h₂
  exact wpAny_mono (ho A s₂ H₂ Q a b ma mb rm S₂ (va.kp S₁ k₂) vb (St₁.kp k₂ S₂).old w₂) (PE.trans (k₁.trans k₂)) fun _ _ x => x

/-- a comparison's answer, as a bool -/
def BoolOf (Q : Bool → MHeap → Prop) : MV → MHeap → Prop := fun m H => match m with | .bool b => Q b H | _ => False
theorem dt_cmp {l r : Expr} {op : CmpOp} {pos : Pos} {Wl Wr : WE} {W : MV → MV → (MV → MHeap → Prop) → MHeap → Prop} (hl : DE G fm d l Wl) (hr : DE G fm d r Wr) (ho : DOp G d (compareOp op) W) (hm : behindInMarks op r = false := by rfl) :
    DT G fm d (.Compare l [op] [r] pos) (fun ρ Q H => Wl ρ (fun a H₁ => Wr ρ (fun b H₂ => W a b (BoolOf Q) H₂) H₁) H) := by
  intro env A s ρ H Q rm S w
  refine wpAny_isTrue_Compare1 (wpAny_mono (hl env A s ρ H _ rm S w) (fun a s₁ h₁ => ?_) fun _ _ x => x) hm
  obtain ⟨ma, H₁, w₁, va, S₁, k₁⟩ := h₁
  have St₁ := S.kp k₁ S₁
  refine wpAny_mono (hr env A s₁ ρ H₁ _ rm St₁ w₁) (fun b s₂ h₂ => ?_) fun _ _ x => x
  obtain ⟨mb, H₂, w₂, vb, S₂, k₂⟩ := h₂
  refine wpAny_mono (ho A s₂ H₂ _ a b ma mb rm S₂ (va.kp S₁ k₂) vb (St₁.kp k₂ S₂).old w₂) (fun c s₃ h₃ => ?_) fun _ _ x => x
  obtain ⟨mc, H₃, w₃, vc, S₃, k₃⟩ := h₃
  cases mc with
  | bool b => rw [vc.bool_inv]; exact wpAny_truthy_bool ⟨H₃, w₃, S₃, (k₁.trans k₂).trans k₃⟩
  | _ => exact w₃.elim

end
end Mine
end
-- part MOps
section
open PySem PySem.W PyProof.Rows
set_option maxRecDepth 100000
namespace Mine

theorem sizeLine_val : sizeLine = 16777216 := by decide

theorem VRep.grew {s s' : Shared} (g : Grew s s') {v : Value} {m : MV} (r : VRep s.heap v m) : VRep s'.heap v m := r.mono fun a _ e => g.2.2 a _ e
theorem VReps.grew {s s' : Shared} (g : Grew s s') {v : List Value} {m : List MV} (r : VReps s.heap v m) : VReps s'.heap v m := r.mono fun a _ e => g.2.2 a _ e

/-- a new list as the value -/
theorem PE.newList {H : MHeap} {s s' : Shared} {Q : MV → MHeap → Prop} {a : Addr} {vs : List Value} {xs : List MV} {n : Nat} (S : StH H s.heap) (g : Grew s s') (e : s'.heap.get? a = some (lobj vs n)) (hn : s.heap.get? a = none)
    (r : VReps s.heap vs xs) (q : ∀ c, H c = none → Q (.lst c) (H.set c xs)) : PE H s Q (.ref a) s' := by
  refine ⟨.lst a, H.set a xs, q a ?_, .lst a, S.new g e r, Kp.new g hn⟩
  cases z : H a with
  | none => rfl
  | some ys => obtain ⟨vs', n', e', _⟩ := S a ys z; rw [hn] at e'; cases e'
/-- a told list is changed, the value is m -/
theorem PE.upd {H : MHeap} {s s' : Shared} {Q : MV → MHeap → Prop} {v : Value} {mv : MV} {a : Addr} {vs : List Value} {xs ys : List MV} {n : Nat} (S : StH H s.heap) (hx : H a = some xs) (ho : s'.os = s.os) (hg : s'.gens = s.gens)
    (hs : ∀ b, b ≠ a → ∀ o, s.heap.get? b = some o → s'.heap.get? b = some o) (e : s'.heap.get? a = some (lobj vs n)) (r : VReps s.heap vs ys) (rv : VRep s.heap v mv) (q : Q mv (H.set a ys)) : PE H s Q v s' := by
  refine ⟨mv, H.set a ys, q, rv.mono fun c ws ec => ?_, S.upd hx hs e r, Kp.upd hx ho hg hs (by rw [e]; exact Option.some_ne_none _)⟩
  by_cases hc : c = a
  · subst hc; have := S.tup ec; rw [hx] at this; cases this
  · exact hs c hc _ ec

/-- an operator of two ints -/
def wInt2 (g : Int → Int → (MV → MHeap → Prop) → MHeap → Prop) : MV → MV → (MV → MHeap → Prop) → MHeap → Prop
  | .int a, .int b, Q, H => g a b Q H
  | _, _, _, _ => False
theorem wInt2_inv {g : Int → Int → (MV → MHeap → Prop) → MHeap → Prop} {ma mb : MV} {Q : MV → MHeap → Prop} {H : MHeap} (w : wInt2 g ma mb Q H) : ∃ i j, ma = .int i ∧ mb = .int j ∧ g i j Q H := by
  cases ma <;> first | exact w.elim | skip
  cases mb <;> first | exact w.elim | exact ⟨_, _, rfl, rfl, w⟩
theorem dop_int2 {G : Gd} {d : Nat} {f : Value → Value → Sem Value} {g : Int → Int → (MV → MHeap → Prop) → MHeap → Prop} (h : ∀ A s H Q i j t u, Room d A → StH H s.heap → g i j Q H → wpAny G.M A (f (.int i t) (.int j u)) (PE H s Q) noE s) : DOp G d f (wInt2 g) := by
  intro A s H Q a b ma mb r S va vb ho w
  obtain ⟨i, j, rfl, rfl, w⟩ := wInt2_inv w
  obtain ⟨t, rfl⟩ := va.int_inv; obtain ⟨u, rfl⟩ := vb.int_inv
  exact h A s H Q i j t u r S w
def wAdd : MV → MV → (MV → MHeap → Prop) → MHeap → Prop
  | .int a, .int b, Q, H => Q (.int (a + b)) H
  | .bytes a, .bytes b, Q, H => a.length + b.length ≤ 1000000 ∧ Q (.bytes (a ++ b)) H
  | .lst a, .lst b, Q, H => ∃ xs, H a = some xs ∧ ∃ ys, H b = some ys ∧ xs.length + ys.length ≤ 1000000 ∧ ∀ c, H c = none → Q (.lst c) (H.set c (xs ++ ys))
  | _, _, _, _ => False
def wSub : MV → MV → (MV → MHeap → Prop) → MHeap → Prop := wInt2 fun a b Q H => Q (.int (a - b)) H
def wMul : MV → MV → (MV → MHeap → Prop) → MHeap → Prop
  | .int a, .int b, Q, H => (-1000000000 < b ∧ b < 1000000000) ∧ Q (.int (a * b)) H
  | .lst a, .int n, Q, H => ∃ x, H a = some [x] ∧ (-1000000 ≤ n ∧ n ≤ 1000000) ∧ ∀ c, H c = none → Q (.lst c) (H.set c (List.replicate n.toNat x))
  | .bytes l, .int n, Q, H => ∃ x, l = [x] ∧ (-1000000 ≤ n ∧ n ≤ 1000000) ∧ Q (.bytes (List.replicate n.toNat x)) H
  | _, _, _, _ => False
def wDiv : MV → MV → (MV → MHeap → Prop) → MHeap → Prop := wInt2 fun a b Q H => (0 < b ∧ b < 1000000000) ∧ Q (.int (a.fdiv b)) H
def wMod : MV → MV → (MV → MHeap → Prop) → MHeap → Prop := wInt2 fun a b Q H => 0 < b ∧ Q (.int (a.fmod b)) H
def wPow : MV → MV → (MV → MHeap → Prop) → MHeap → Prop := wInt2 fun a b Q H => (0 ≤ b ∧ b ≤ 100) ∧ (-1000000000 < a ∧ a < 1000000000) ∧ Q (.int (a ^ b.toNat)) H
def wShl : MV → MV → (MV → MHeap → Prop) → MHeap → Prop := wInt2 fun a b Q H => (0 ≤ b ∧ b ≤ 100) ∧ (-1000000000 < a ∧ a < 1000000000) ∧ Q (.int (a * 2 ^ b.toNat)) H
def wShr : MV → MV → (MV → MHeap → Prop) → MHeap → Prop := wInt2 fun a b Q H => 0 ≤ b ∧ Q (.int (a.fdiv (2 ^ b.toNat))) H
def wAnd : MV → MV → (MV → MHeap → Prop) → MHeap → Prop := wInt2 fun a b Q H => Q (.int (Builtin.bitAnd a b)) H
def wOr : MV → MV → (MV → MHeap → Prop) → MHeap → Prop := wInt2 fun a b Q H => Q (.int (Builtin.bitOr a b)) H

section
variable {G : Gd} {d : Nat}

theorem StH.isL {H : MHeap} {h : Heap} (S : StH H h) {a : Addr} {xs : List MV} (e : H a = some xs) : ∃ vs n, IsL h a vs.toArray n ∧ VReps h vs xs := S a xs e

theorem dop_add : DOp G d (binaryOp .Add) wAdd := by
  intro A s H Q a b ma mb r S va vb ho w
  cases ma <;> cases mb <;> first | exact w.elim | skip
  · obtain ⟨t, rfl⟩ := va.int_inv; obtain ⟨u, rfl⟩ := vb.int_inv
    exact PyProof.Rows.add_int (PE.now S (Grew.toks s _) (.int _ _) w)
  · obtain ⟨t, rfl⟩ := va.bytes_inv; obtain ⟨u, rfl⟩ := vb.bytes_inv
    rename_i l l'
    refine KBy.add_bytes (by have := w.1; simp; omega) fun t' k => PE.now S (Grew.toks s _) ?_ w.2
    have := VRep.bytes (h := ({ s with toks := k } : Shared).heap) (l ++ l') t'
    simpa using this
  · cases va.lst_inv; cases vb.lst_inv
    obtain ⟨xs, hx, ys, hy, hz, q⟩ := w
    obtain ⟨vs, n, hl, rx⟩ := S.isL hx
    obtain ⟨us, m, hm, ry⟩ := S.isL hy
    refine P.add_list hl hm ?_ (by simp [rx.length, ry.length, sizeLine_val]; omega)
    refine PE.newList (vs := vs ++ us) (n := 0) S (Grew.push s _ _) ?_ (get_new _) (rx.append ry) q
    rw [show (lobj (vs ++ us) 0) = { cls := .type "list", data := .seq (vs.toArray ++ us.toArray) } from by simp [lobj]]
    exact Heap.get?_push_size _ rfl

theorem dop_sub : DOp G d (binaryOp .Sub) wSub := by
  refine dop_int2 fun A s H Q a b t u r S w => ?_
  exact PyProof.Rows.sub_int (PE.now S (Grew.toks s _) (.int _ _) w)
theorem dop_div : DOp G d (binaryOp .FloorDiv) wDiv := by
  refine dop_int2 fun A s H Q a b t u r S w => ?_
  exact PyProof.Rows.floordiv_int (by have := w.1; omega) (PE.now S (Grew.toks s _) (.int _ _) w.2) (Or.inl (PyProof.noPylong_small (by have := w.1; omega)))
theorem dop_idiv : DOp G d (inplaceOp .FloorDiv) wDiv := by
  refine dop_int2 fun A s H Q a b t u r S w => ?_
  exact PyProof.Rows.ifloordiv_int (by have := w.1; omega) (PE.now S (Grew.toks s _) (.int _ _) w.2) (Or.inl (PyProof.noPylong_small (by have := w.1; omega)))
def wIAdd : MV → MV → (MV → MHeap → Prop) → MHeap → Prop := wInt2 fun a b Q H => Q (.int (a + b)) H
theorem dop_iadd : DOp G d (inplaceOp .Add) wIAdd := by
  refine dop_int2 fun A s H Q a b t u r S w => ?_
  exact PyProof.Rows.iadd_int (PE.now S (Grew.toks s _) (.int _ _) w)
theorem dop_mod : DOp G d (binaryOp .Mod) wMod := by
  refine dop_int2 fun A s H Q a b t u r S w => ?_
  exact PyProof.Rows.mod_int (by have := w.1; omega) (PE.now S (Grew.toks s _) (.int _ _) w.2)
theorem dop_pow : DOp G d (binaryOp .Pow) wPow := by
  refine dop_int2 fun A s H Q a b t u r S w => ?_
  exact PyProof.Rows.pow_int_small (by have := w.1; omega) (by have := w.1; omega) (by have := w.2.1; omega) (PE.now S (Grew.toks s _) (.int _ _) w.2.2)
theorem dop_shl : DOp G d (binaryOp .LShift) wShl := by
  refine dop_int2 fun A s H Q a b t u r S w => ?_
  exact PyProof.Rows.lshift_int_small (by have := w.1; omega) (by have := w.1; omega) (by have := w.2.1; omega) (PE.now S (Grew.toks s _) (.int _ _) w.2.2)
theorem dop_shr : DOp G d (binaryOp .RShift) wShr := by
  refine dop_int2 fun A s H Q a b t u r S w => ?_
  exact PyProof.Rows.rshift_int w.1 (PE.now S (Grew.toks s _) (.int _ _) w.2)
theorem dop_and : DOp G d (binaryOp .BitAnd) wAnd := by
  refine dop_int2 fun A s H Q a b t u r S w => ?_
  exact PyProof.Rows.and_int (PE.now S (Grew.toks s _) (.int _ _) w)
theorem dop_or : DOp G d (binaryOp .BitOr) wOr := by
  refine dop_int2 fun A s H Q a b t u r S w => ?_
  exact PyProof.Rows.or_int (PE.now S (Grew.toks s _) (.int _ _) w)

theorem rep_flat {x : Value} (n : Nat) : List.foldl (fun (x1 x2 : Array Value) => x1 ++ x2) #[] (List.replicate n #[x]) = (List.replicate n x).toArray := by
  have key : ∀ (n : Nat) (acc : List Value), List.foldl (fun (x1 x2 : Array Value) => x1 ++ x2) acc.toArray (List.replicate n #[x]) = (acc ++ List.replicate n x).toArray := by
    intro n
    induction n with
    | zero => intro acc; simp
    | succ n ih =>
      intro acc
      rw [List.replicate_succ, List.foldl_cons]
      have : acc.toArray ++ #[x] = (acc ++ [x]).toArray := by simp
      rw [this, ih]
      simp [List.replicate_succ]
  have := key n []
  simpa using this

theorem dop_mul : DOp G d (binaryOp .Mult) wMul := by
  intro A s H Q a b ma mb r S va vb ho w
  cases ma <;> cases mb <;> first | exact w.elim | skip
  · obtain ⟨t, rfl⟩ := va.int_inv; obtain ⟨u, rfl⟩ := vb.int_inv
    exact PyProof.Rows.mul_int (PE.now S (Grew.toks s _) (.int _ _) w.2) (IntMulOk.of_right (intBits_le_64 (by have := w.1; omega) (by have := w.1; omega)))
  · obtain ⟨t, rfl⟩ := va.bytes_inv; obtain ⟨u, rfl⟩ := vb.int_inv
    obtain ⟨x, rfl, hn, q⟩ := w
    refine bytes_mul_any (by simp) (by omega) (by omega) (by simp) fun t' k => PE.now S (Grew.toks s _) ?_ q
    rename_i n
    have e : (List.replicate n.toNat [x]).flatten = List.replicate n.toNat x := by simp
    rw [e]; exact .bytes _ _
  · cases va.lst_inv; obtain ⟨u, rfl⟩ := vb.int_inv
    rename_i a n
    obtain ⟨x, hx, hn, q⟩ := w
    obtain ⟨vs, k, hl, rx⟩ := S.isL hx
    cases rx with
    | cons r1 r0 =>
      cases r0
      rename_i v
      have fin : PE H s Q (.ref s.heap.objs.size) { s with heap := s.heap.push { cls := .type "list", data := .seq (List.foldl (fun x1 x2 => x1 ++ x2) #[] (List.replicate (if ([v].toArray).isEmpty = true then 0 else n.toNat) [v].toArray)) } } := by
        refine PE.newList (vs := List.replicate n.toNat v) (n := 0) S (Grew.push s _ _) ?_ (get_new _) (VReps.repl r1 _) q
        have e : (List.foldl (fun x1 x2 => x1 ++ x2) #[] (List.replicate (if ([v].toArray).isEmpty = true then 0 else n.toNat) [v].toArray)) = (List.replicate n.toNat v).toArray := by
          have : ([v].toArray).isEmpty = false := by simp
          rw [this, if_neg (by simp)]
          exact rep_flat n.toNat
        rw [e]
        exact Heap.get?_push_size _ rfl
      refine wpAny_binaryOp_repeat_ref (T := "list") (U := "int") (by decide) ⟨_, hl, rfl⟩ (fun s' => typeIs_int s' n u) noFill_list_mul F.fills_int_mul F.slot_int_rmul repeat_list F.slot_int_index.lookup ?_
      refine call_meets F.slot_int_rmul (typeIs_int s n u) F.entry_int_rmul (F.args_int_rmul_2 _ _) (int___rmul___int_list n u a _ k) ⟨hl, rfl, ⟨_, hl, rfl⟩, ?_⟩
      refine call_meets F.slot_list_mul ⟨_, hl, rfl⟩ F.entry_list_mul (F.args_list_mul_2 _ _) (AutoListH.list___mul___list_int_3 a _ k n u ?_ ?_ ?_) ⟨hl, fin⟩
      · simp [Builtin.List.listFitsIndex]; omega
      · simp; omega
      · simp [Builtin.List.listTooLong, sizeLine]; omega
end
end Mine
end
-- part MCmp
section
open PySem PySem.W PyProof.Rows PySem.SeqAt
set_option maxRecDepth 100000
namespace Mine

def allSome : List (Option Bool) → Option Bool
  | [] => some true
  | none :: _ => none
  | some a :: r => match allSome r with | some b => some (a && b) | none => none

/-- == of plain data of one shape -/
def meq : Nat → MV → MV → Option Bool
  | _, .int a, .int b => some (a == b)
  | _, .bytes a, .bytes b => some (a == b)
  | n + 1, .tup xs, .tup ys => if xs.length = ys.length then allSome (List.zipWith (meq n) xs ys) else none
  | _, _, _ => none

theorem eqAt_bytes {A : Around} {s : Shared} (a b : List UInt8) (t u : Tok) : EqAt A s (.bytes a.toArray t) (.bytes b.toArray u) (a == b) := fun prog w E Q hq => by
  unfold eqBool
  refine wpAny_holding ?_
  refine wpAny_ite_split (fun hab => ?_) (fun _ => ?_)
  · have := eq_of_beq hab
    injection this with h1 h2
    have e : a = b := by simpa using h1
    subst e
    rw [show (a == a) = true from by simp] at hq
    exact wpAny_bind (wpAny_rule (wpAny_pure hq))
  · refine wpAny_bind ?_
    show wpAny _ A (richCompare .Eq _ _) _ E s
    have := eq_bytes (prog := prog) (w := w) (A := A) (E := E) (s := s) (b := a.toArray) (c := b.toArray) (t := t) (u := u) (Q := fun v s' => wpAny (model prog w) A (truthOfDropped v) Q E s') (wpAny_truthy_bool (by simpa using hq))
    exact this

theorem tobj_isTuple {h : Heap} {a : Addr} {vs : List Value} (e : h.get? a = some (tobj vs)) : h.IsTuple a vs.toArray := ⟨_, e, rfl, 0, rfl⟩

theorem allSome_spec : ∀ {l : List (Option Bool)} {b : Bool}, allSome l = some b → (∀ x ∈ l, ∃ c, x = some c) ∧ b = l.all (fun x => x.getD false)
  | [], b, h => by cases h; exact ⟨(fun _ hx => nomatch hx), rfl⟩
  | none :: _, b, h => by cases h
  | some a :: r, b, h => by
    unfold allSome at h
    split at h
    · rename_i c hc
      cases h
      obtain ⟨h1, h2⟩ := allSome_spec hc
      refine ⟨fun x hx => ?_, by rw [h2]; simp⟩
      cases hx with
      | head => exact ⟨a, rfl⟩
      | tail _ hx => exact h1 x hx
    · cases h

theorem range_all_eq {α : Type} (l : List α) (p : α → Bool) (e : Nat → Bool) (he : ∀ j (h : j < l.length), e j = p l[j]) : (List.range l.length).all e = l.all p := by
  rw [Bool.eq_iff_iff]
  simp only [List.all_eq_true, List.mem_range]
  constructor
  · intro h x hx
    obtain ⟨j, hj, rfl⟩ := List.getElem_of_mem hx
    rw [← he j hj]; exact h j hj
  · intro h j hj
    rw [he j hj]; exact h _ (List.getElem_mem hj)

theorem VReps.at {h : Heap} {vs : List Value} {ms : List MV} (r : VReps h vs ms) (j : Nat) (hj : j < vs.length) (hj' : j < ms.length) : VRep h vs[j] ms[j] := by
  obtain ⟨v, hv, hr⟩ := r.get (i := j) (m := ms[j]) (by simp)
  rw [List.getElem?_eq_getElem hj] at hv
  cases hv; exact hr

theorem meq_int (n : Nat) (a c : Int) : meq n (.int a) (.int c) = some (a == c) := by cases n <;> rfl
theorem meq_bytes (n : Nat) (a c : List UInt8) : meq n (.bytes a) (.bytes c) = some (a == c) := by cases n <;> rfl
theorem none_elim {b : Bool} {T : Prop} (h : (none : Option Bool) = some b) : T := nomatch h
inductive MeqI : Nat → MV → MV → Bool → Prop
  | int (n : Nat) (a c : Int) : MeqI n (.int a) (.int c) (a == c)
  | bytes (n : Nat) (a c : List UInt8) : MeqI n (.bytes a) (.bytes c) (a == c)
  | tup (k : Nat) (xs ys : List MV) (b : Bool) (hl : xs.length = ys.length) (hh : allSome (List.zipWith (meq k) xs ys) = some b) : MeqI (k + 1) (.tup xs) (.tup ys) b
theorem meq_inv {n : Nat} {m m' : MV} {b : Bool} (h : meq n m m' = some b) : MeqI n m m' b := by
  cases n <;> cases m <;> first | exact none_elim h | (cases m' <;> first | exact none_elim h | skip)
  · cases h; exact .int _ _ _
  · cases h; exact .bytes _ _ _
  · cases h; exact .int _ _ _
  · cases h; exact .bytes _ _ _
  · rename_i k xs ys
    by_cases hl : xs.length = ys.length
    · exact .tup k xs ys b hl (by rw [← h]; exact (if_pos hl).symm)
    · exact none_elim ((show (if xs.length = ys.length then allSome (List.zipWith (meq k) xs ys) else none) = none from if_neg hl).symm.trans h)
theorem allSome_true : ∀ {l : List (Option Bool)}, (∀ x ∈ l, x = some true) → allSome l = some true
  | [], _ => rfl
  | x :: r, h => by
    obtain rfl := h x (.head _)
    have := allSome_true fun y hy => h y (.tail _ hy)
    show (match allSome r with | some b => some (true && b) | none => none) = _
    rw [this]; rfl
theorem tobj_inj {vs us : List Value} (h : some (tobj vs) = some (tobj us)) : vs = us := by
  have : (tobj vs).data = (tobj us).data := congrArg Obj.data (Option.some.inj h)
  simp only [tobj, Data.seq.injEq, and_true] at this
  simpa using this
theorem bytes_inj {l l' : List UInt8} {t u : Tok} (h : Value.bytes l.toArray t = Value.bytes l'.toArray u) : l = l' := by
  injection h with h1 h2
  simpa using h1
/-- the same object gives the same answer -/
theorem meq_same {h : Heap} : ∀ (n : Nat) {y : Value} {m m' x : MV} {b b' : Bool}, VRep h y m → VRep h y m' → meq n m x = some b → meq n m' x = some b' → b = b' := by
  intro n
  induction n using Nat.strongRecOn with
  | ind n ih =>
    intro y m m' x b b' r r' e e'
    cases meq_inv e with
    | int _ a c =>
      cases meq_inv e' with
      | int _ a' _ =>
        obtain ⟨t, rfl⟩ := r.int_inv; obtain ⟨u, hu⟩ := r'.int_inv; cases hu; rfl
    | bytes _ a c =>
      cases meq_inv e' with
      | bytes _ a' _ =>
        obtain ⟨t, rfl⟩ := r.bytes_inv; obtain ⟨u, hu⟩ := r'.bytes_inv
        rw [bytes_inj hu]
    | tup k xs ys _ hl hh =>
      cases meq_inv e' with
      | tup _ zs _ _ hl' hh' =>
        obtain ⟨a, vs, rfl, ha, ra⟩ := r.tup_inv
        obtain ⟨c, us, hcc, hc, rc⟩ := r'.tup_inv
        cases hcc
        obtain rfl := tobj_inj (ha.symm.trans hc)
        obtain ⟨h1, h2⟩ := allSome_spec hh
        obtain ⟨h1', h2'⟩ := allSome_spec hh'
        rw [h2, h2']
        have l1 := ra.length; have l2 := rc.length
        congr 1
        refine List.ext_getElem (by rw [List.length_zipWith, List.length_zipWith]; omega) fun j g1 g2 => ?_
        obtain ⟨c1, hc1⟩ := h1 _ (List.getElem_mem g1)
        obtain ⟨c2, hc2⟩ := h1' _ (List.getElem_mem g2)
        rw [hc1, hc2]
        rw [List.getElem_zipWith] at hc1 hc2
        rw [List.length_zipWith] at g1
        exact congrArg some (ih k (Nat.lt_succ_self k) (ra.at j (by omega) (by omega)) (rc.at j (by omega) (by omega)) hc1 hc2)
theorem meq_self : ∀ (n : Nat) {m m' : MV} {b : Bool}, meq n m m' = some b → meq n m' m' = some true := by
  intro n
  induction n using Nat.strongRecOn with
  | ind n ih =>
    intro m m' b e
    cases meq_inv e with
    | int _ a c => rw [meq_int, beq_self_eq_true]
    | bytes _ a c => rw [meq_bytes, beq_self_eq_true]
    | tup k xs ys _ hl hh =>
      show (if ys.length = ys.length then allSome (List.zipWith (meq k) ys ys) else none) = some true
      rw [if_pos rfl]
      refine allSome_true fun x hx => ?_
      obtain ⟨j, hj, rfl⟩ := List.getElem_of_mem hx
      rw [List.getElem_zipWith]
      rw [List.length_zipWith] at hj
      have hz : j < (List.zipWith (meq k) xs ys).length := by rw [List.length_zipWith]; omega
      obtain ⟨cc, hcc⟩ := (allSome_spec hh).1 _ (List.getElem_mem hz)
      rw [List.getElem_zipWith] at hcc
      exact ih k (Nat.lt_succ_self k) hcc

theorem eqAt_of : ∀ (n : Nat) {A : Around} {s : Shared} {v w : Value} {m m' : MV} {b : Bool}, A.units + n < cLine → VRep s.heap v m → VRep s.heap w m' → meq n m m' = some b → EqAt A s v w b := by
  intro n
  induction n using Nat.strongRecOn with
  | ind n ih =>
    intro A s v w m m' b hu rv rw' h
    cases meq_inv h with
    | int _ x z =>
      obtain ⟨t, rfl⟩ := rv.int_inv; obtain ⟨u, rfl⟩ := rw'.int_inv
      exact (MeetsSeq.EqGives.int _ _ t u).at A s
    | bytes _ x z =>
      obtain ⟨t, rfl⟩ := rv.bytes_inv; obtain ⟨u, rfl⟩ := rw'.bytes_inv
      exact eqAt_bytes _ _ t u
    | tup n xs ys _ hlen hh =>
      obtain ⟨a, vs, rfl, ha, ra⟩ := rv.tup_inv
      obtain ⟨c, us, rfl, hc, rc⟩ := rw'.tup_inv
      by_cases hac : a = c
      · subst hac
        have e : b = true := meq_same _ rv rw' h (meq_self _ h)
        rw [e]; exact EqAt.same _
      · obtain ⟨h1, h2⟩ := allSome_spec hh
        have l1 := ra.length; have l2 := rc.length
        have hz : (List.zipWith (meq n) xs ys).length = vs.length := by rw [List.length_zipWith]; omega
        refine EqAt.of_refs hac ?_
        have key := RcAt.tuples (A := A) (s := s) (e := fun j => ((List.zipWith (meq n) xs ys)[j]?.getD none).getD false) (tobj_isTuple ha) (tobj_isTuple hc) (by omega) (fun j g1 g2 => by
          have hj1 : j < vs.length := by simpa using g1
          have hzj : j < (List.zipWith (meq n) xs ys).length := by omega
          obtain ⟨cc, hcc⟩ := h1 _ (List.getElem_mem hzj)
          have e2 : ((List.zipWith (meq n) xs ys)[j]?.getD none).getD false = cc := by
            rw [List.getElem?_eq_getElem hzj, hcc]; rfl
          rw [List.getElem_zipWith] at hcc
          have e1 := ih n (Nat.lt_succ_self n) (A := A.in1) (by show A.units + 1 + n < cLine; omega) (ra.at j hj1 (by omega)) (rc.at j (by omega) (by omega)) hcc
          simp only [e2]
          simpa using e1)
        have fin : ((List.range (min vs.toArray.size us.toArray.size)).all (fun j => ((List.zipWith (meq n) xs ys)[j]?.getD none).getD false) && vs.toArray.size == us.toArray.size) = b := by
          have e3 : min vs.toArray.size us.toArray.size = (List.zipWith (meq n) xs ys).length := by simp; omega
          have e4 : (vs.toArray.size == us.toArray.size) = true := by simp; omega
          rw [e3, e4, Bool.and_true, h2]
          refine range_all_eq _ _ _ fun j hj => ?_
          rw [List.getElem?_eq_getElem hj]; rfl
        rw [fin] at key
        exact key
end Mine
end
-- part MCmp2
section
open PySem PySem.W PyProof.Rows PySem.SeqAt
set_option maxRecDepth 100000
namespace Mine

/-- the first pair that differs decides; ints alone -/
def mlt : List MV → List MV → Option Bool
  | [], [] => some false
  | .int a :: xs, .int b :: ys => if a = b then mlt xs ys else some (decide (a < b))
  | .bytes a :: xs, .bytes b :: ys => if a = b then mlt xs ys else none
  | _, _ => none

/-- the road of a comparison of tuples -/
inductive LexAt (A : Around) (s : Shared) : List (Value × Value) → Bool → Prop
  | nil : LexAt A s [] false
  | eq {y x : Value} {r : List (Value × Value)} {b : Bool} : EqAt A s y x true → LexAt A s r b → LexAt A s ((y, x) :: r) b
  | ne {y x : Value} {r : List (Value × Value)} {b : Bool} : EqAt A s y x false → (∀ (prog : Program) (w : World) (E : Value → Shared → Prop) (Q : Value → Shared → Prop), Q (.bool b) s → wpAny (model prog w) A (richCompare .Lt y x) Q E s) → LexAt A s ((y, x) :: r) b

theorem tuple_ltAt (l b : Addr) (items items2 : Array Value) (n n2 : Nat) (dd dd2 : Option Addr) (sl sl2 : Array (Option Value)) (k : Bool) (hz : items.size = items2.size) :
    Meets (Builtin.«tuple.__lt__» ⟨[.ref l, .ref b], []⟩)
      (fun A R s => s.heap.get? l = some { cls := .type "tuple", dict := dd, data := .seq items n, slots := sl } ∧ s.heap.get? b = some { cls := .type "tuple", dict := dd2, data := .seq items2 n2, slots := sl2 } ∧
        LexAt A.in1 s (items.toList.zip items2.toList) k ∧ R (.ok (.ret (.bool k))) s) :=
  .of_wp fun prog w A R s h => by
    obtain ⟨hp, g, d, tk, os⟩ := s; obtain ⟨hl, hb, he, h⟩ := h
    have f2 := AutoSeq1.sub_tuple_tuple
    wp_walk using AutoSeq1.wpAny_loadPart' hl, AutoSeq1.wpAny_loadPart' hb, wpAny_forIn_list _ (fun rest b s' => b.1 = none ∧ s' = ⟨hp, g, d, tk, os⟩ ∧ LexAt A.in1 ⟨hp, g, d, tk, os⟩ rest k) _
    case turn =>
      rintro ⟨y, x⟩ rest b s' ⟨hb', rfl, hx⟩
      cases hx with
      | eq e1 r1 =>
        refine wpAny_bind (e1 prog w _ _ ?_)
        wp_walk
        exact ⟨rfl, rfl, r1⟩
      | ne e1 r1 =>
        refine wpAny_bind (e1 prog w _ _ ?_)
        wp_walk using (r1 prog w _ _)
        exact ⟨_, rfl, h⟩
    case fin =>
      rintro ⟨b1, b2⟩ s' ⟨hb', rfl, hx⟩
      simp only at hb'
      subst hb'
      cases hx
      wp_walk
      refine ⟨_, rfl, ?_⟩
      have e : Builtin.Tuple.tupleCompareSizes .Lt items.size items2.size = .bool false := by
        simp [Builtin.Tuple.tupleCompareSizes, hz]
      rw [e]; exact h
    case h =>
      exact ⟨rfl, rfl, he⟩

theorem mlt_ii (a c : Int) (xs ys : List MV) : mlt (.int a :: xs) (.int c :: ys) = if a = c then mlt xs ys else some (decide (a < c)) := rfl
inductive MltI : List MV → List MV → Bool → Prop
  | nil : MltI [] [] false
  | eqi (a : Int) (xs ys : List MV) (b : Bool) (h : mlt xs ys = some b) : MltI (.int a :: xs) (.int a :: ys) b
  | nei (a c : Int) (xs ys : List MV) (h : a ≠ c) : MltI (.int a :: xs) (.int c :: ys) (decide (a < c))
  | eqb (l : List UInt8) (xs ys : List MV) (b : Bool) (h : mlt xs ys = some b) : MltI (.bytes l :: xs) (.bytes l :: ys) b
theorem mlt_inv {xs ys : List MV} {b : Bool} (h : mlt xs ys = some b) : MltI xs ys b := by
  cases xs with
  | nil =>
    cases ys with
    | nil => cases h; exact .nil
    | cons y ys => exact none_elim h
  | cons x xs =>
    cases ys with
    | nil => cases x <;> exact none_elim h
    | cons y ys =>
      cases x <;> first | exact none_elim h | (cases y <;> first | exact none_elim h | skip)
      · rename_i a c
        rw [mlt_ii] at h
        split at h
        · rename_i e; subst e; exact .eqi _ _ _ _ h
        · rename_i e; cases h; exact .nei _ _ _ _ e
      · rename_i a c
        have h' : (if a = c then mlt xs ys else none) = some b := h
        split at h'
        · rename_i e; subst e; exact .eqb _ _ _ _ h'
        · exact none_elim h'
theorem lexAt_of {A : Around} {s : Shared} {vs us : List Value} {xs ys : List MV} {b : Bool} (r : VReps s.heap vs xs) (q : VReps s.heap us ys) (h : mlt xs ys = some b) : LexAt A s (vs.zip us) b := by
  induction xs generalizing vs us ys b with
  | nil =>
    cases mlt_inv h
    cases r; cases q; exact .nil
  | cons x xs ih =>
    cases r with
    | cons r1 r2 =>
      cases mlt_inv h with
      | eqi a _ ys b h =>
        cases q with
        | cons q1 q2 =>
          obtain ⟨t, rfl⟩ := r1.int_inv; obtain ⟨u, rfl⟩ := q1.int_inv
          refine .eq ?_ (ih r2 q2 h)
          have := (MeetsSeq.EqGives.int a a t u).at A s
          rwa [beq_self_eq_true] at this
      | nei a c _ ys e =>
        cases q with
        | cons q1 q2 =>
          obtain ⟨t, rfl⟩ := r1.int_inv; obtain ⟨u, rfl⟩ := q1.int_inv
          refine .ne ?_ fun prog w E Q hq => PyProof.Rows.lt_int (prog := prog) (w := w) (Q := Q) hq
          have := (MeetsSeq.EqGives.int a c t u).at A s
          rwa [show (a == c) = false from by simpa using e] at this
      | eqb l _ ys b h =>
        cases q with
        | cons q1 q2 =>
          obtain ⟨t, rfl⟩ := r1.bytes_inv; obtain ⟨u, rfl⟩ := q1.bytes_inv
          refine .eq ?_ (ih r2 q2 h)
          have := eqAt_bytes (A := A) (s := s) l l t u
          rwa [beq_self_eq_true] at this

theorem rcLt_tuples {A : Around} {s : Shared} {v u : Value} {xs ys : List MV} {b : Bool} {prog : Program} {w : World} {E : Value → Shared → Prop} {Q : Value → Shared → Prop} (hu : A.units < cLine)
    (rv : VRep s.heap v (.tup xs)) (ru : VRep s.heap u (.tup ys)) (hz : xs.length = ys.length) (h : mlt xs ys = some b) (q : Q (.bool b) s) : wpAny (model prog w) A (richCompare .Lt v u) Q E s := by
  obtain ⟨a, vs, rfl, ha, ra⟩ := rv.tup_inv
  obtain ⟨c, us, rfl, hc, rc⟩ := ru.tup_inv
  have l1 := ra.length; have l2 := rc.length
  exact richCompare_meets_room (op := .Lt) ⟨_, ha, rfl⟩ ⟨_, hc, rfl⟩ F.slot_tuple_lt F.entry_tuple_lt (F.args_tuple_lt_2 _ _) (tuple_ltAt a c vs.toArray us.toArray 0 0 none none #[] #[] b (by simp; lia))
    ⟨ha, hc, by simpa using lexAt_of ra rc h, show Value.bool b ≠ Value.notImplemented ∧ Q (.bool b) s from ⟨(fun x => nomatch x), q⟩⟩ hu

def wEq : MV → MV → (MV → MHeap → Prop) → MHeap → Prop
  | .int a, .int b, Q, H => Q (.bool (decide (a = b))) H
  | .bytes a, .bytes b, Q, H => Q (.bool (decide (a = b))) H
  | .tup a, .tup b, Q, H => ∃ k, meq 3 (.tup a) (.tup b) = some k ∧ Q (.bool k) H
  | .lst a, .lst b, Q, H => ∃ xs, H a = some xs ∧ ∃ ys, H b = some ys ∧ ((xs.length ≠ ys.length ∧ Q (.bool false) H) ∨ (xs.length = ys.length ∧ ∃ k, allSome (List.zipWith (meq 3) xs ys) = some k ∧ Q (.bool k) H))
  | _, _, _, _ => False
def wNe : MV → MV → (MV → MHeap → Prop) → MHeap → Prop
  | .int a, .int b, Q, H => Q (.bool (decide (a ≠ b))) H
  | .bytes a, .bytes b, Q, H => Q (.bool (decide (a ≠ b))) H
  | .tup a, .tup b, Q, H => ∃ k, meq 3 (.tup a) (.tup b) = some k ∧ Q (.bool (!k)) H
  | _, _, _, _ => False
def wLt : MV → MV → (MV → MHeap → Prop) → MHeap → Prop
  | .int a, .int b, Q, H => Q (.bool (decide (a < b))) H
  | .tup a, .tup b, Q, H => a.length = b.length ∧ ∃ k, mlt a b = some k ∧ Q (.bool k) H
  | _, _, _, _ => False
def wLe : MV → MV → (MV → MHeap → Prop) → MHeap → Prop := wInt2 fun a b Q H => Q (.bool (decide (a ≤ b))) H
def wGt : MV → MV → (MV → MHeap → Prop) → MHeap → Prop := wInt2 fun a b Q H => Q (.bool (decide (b < a))) H
def wGe : MV → MV → (MV → MHeap → Prop) → MHeap → Prop := wInt2 fun a b Q H => Q (.bool (decide (b ≤ a))) H
/-- is: types, and None -/
def mis : MV → MV → Option Bool
  | .raw (.type a), .raw (.type b) => some (a == b)
  | .none, .none => some true
  | .bool _, .none => some false
  | .bytes _, .none => some false
  | _, _ => none
def wIs : MV → MV → (MV → MHeap → Prop) → MHeap → Prop := fun a b Q H => ∃ k, mis a b = some k ∧ Q (.bool k) H
def wIsNot : MV → MV → (MV → MHeap → Prop) → MHeap → Prop := fun a b Q H => ∃ k, mis a b = some k ∧ Q (.bool (!k)) H

section
variable {G : Gd} {d : Nat}
theorem beq_dec_int (a b : Int) : (a == b) = decide (a = b) := by by_cases h : a = b <;> simp [h]
theorem beq_dec_l (a b : List UInt8) : (a == b) = decide (a = b) := by by_cases h : a = b <;> simp [h]
theorem bne_dec_int (a b : Int) : (a != b) = decide (a ≠ b) := by by_cases h : a = b <;> simp [h]
theorem bne_dec_l (a b : List UInt8) : (a != b) = decide (a ≠ b) := by by_cases h : a = b <;> simp [h]

theorem rcAt_tup {A : Around} {s : Shared} {v u : Value} {xs ys : List MV} {b : Bool} (hu : A.units + 4 < cLine) (rv : VRep s.heap v (.tup xs)) (ru : VRep s.heap u (.tup ys)) (h : meq 3 (.tup xs) (.tup ys) = some b) :
    RcAt A s v u b ∧ RcNeAt A s v u (!b) := by
  obtain ⟨a, vs, rfl, ha, ra⟩ := rv.tup_inv
  obtain ⟨c, us, rfl, hc, rc⟩ := ru.tup_inv
  change (if xs.length = ys.length then allSome (List.zipWith (meq 2) xs ys) else none) = some b at h
  split at h
  · rename_i hlen
    obtain ⟨h1, h2⟩ := allSome_spec h
    have l1 := ra.length; have l2 := rc.length
    have hz : (List.zipWith (meq 2) xs ys).length = vs.length := by simp [hlen, l1]
    have he : ∀ j (g1 : j < vs.toArray.size) (g2 : j < us.toArray.size), EqAt A.in1 s vs.toArray[j] us.toArray[j] (((List.zipWith (meq 2) xs ys)[j]?.getD none).getD false) := fun j g1 g2 => by
      have hj1 : j < vs.length := by simpa using g1
      have hj2 : j < us.length := by simpa using g2
      have hx1 : j < xs.length := by lia
      have hy1 : j < ys.length := by lia
      have hzj : j < (List.zipWith (meq 2) xs ys).length := by lia
      obtain ⟨cc, hcc⟩ := h1 _ (List.getElem_mem hzj)
      have e1 := eqAt_of 2 (A := A.in1) (by show A.units + 1 + 2 < cLine; lia) (ra.at j hj1 hx1) (rc.at j hj2 hy1) (b := cc) (by rw [← hcc]; simp)
      have e2 : ((List.zipWith (meq 2) xs ys)[j]?.getD none).getD false = cc := by
        rw [List.getElem?_eq_getElem hzj, hcc]; rfl
      rw [e2]
      simpa using e1
    have fin : ((List.range (min vs.toArray.size us.toArray.size)).all (fun j => ((List.zipWith (meq 2) xs ys)[j]?.getD none).getD false) && vs.toArray.size == us.toArray.size) = b := by
      have e3 : min vs.toArray.size us.toArray.size = (List.zipWith (meq 2) xs ys).length := by simp; lia
      have e4 : (vs.toArray.size == us.toArray.size) = true := by simp; lia
      rw [e3, e4, Bool.and_true, h2]
      refine range_all_eq _ _ _ fun j hj => ?_
      rw [List.getElem?_eq_getElem hj]; rfl
    have k1 := RcAt.tuples (A := A) (s := s) (tobj_isTuple ha) (tobj_isTuple hc) (by lia) he
    have k2 := RcNeAt.tuples (A := A) (s := s) (tobj_isTuple ha) (tobj_isTuple hc) (by lia) he
    rw [fin] at k1 k2
    exact ⟨k1, k2⟩
  · cases h

theorem lobj_isList {h : Heap} {a : Addr} {vs : List Value} {n : Nat} (e : h.get? a = some (lobj vs n)) : h.IsList a vs.toArray := ⟨_, e, rfl, n, rfl⟩

theorem rcAt_lst {A : Around} {s : Shared} {a c : Addr} {vs us : List Value} {n m : Nat} {xs ys : List MV} {b : Bool} (hu : A.units + 5 < cLine) (ha : s.heap.get? a = some (lobj vs n)) (hc : s.heap.get? c = some (lobj us m))
    (ra : VReps s.heap vs xs) (rc : VReps s.heap us ys) (hlen : xs.length = ys.length) (h : allSome (List.zipWith (meq 3) xs ys) = some b) : RcAt A s (.ref a) (.ref c) b := by
  obtain ⟨h1, h2⟩ := allSome_spec h
  have l1 := ra.length; have l2 := rc.length
  have hz : (List.zipWith (meq 3) xs ys).length = vs.length := by simp [hlen, l1]
  have he : ∀ j (g1 : j < vs.toArray.size) (g2 : j < us.toArray.size), EqAt A.in1 s vs.toArray[j] us.toArray[j] (((List.zipWith (meq 3) xs ys)[j]?.getD none).getD false) := fun j g1 g2 => by
    have hj1 : j < vs.length := by simpa using g1
    have hj2 : j < us.length := by simpa using g2
    have hx1 : j < xs.length := by lia
    have hy1 : j < ys.length := by lia
    have hzj : j < (List.zipWith (meq 3) xs ys).length := by lia
    obtain ⟨cc, hcc⟩ := h1 _ (List.getElem_mem hzj)
    have e1 := eqAt_of 3 (A := A.in1) (by show A.units + 1 + 3 < cLine; lia) (ra.at j hj1 hx1) (rc.at j hj2 hy1) (b := cc) (by rw [← hcc]; simp)
    have e2 : ((List.zipWith (meq 3) xs ys)[j]?.getD none).getD false = cc := by
      rw [List.getElem?_eq_getElem hzj, hcc]; rfl
    rw [e2]
    simpa using e1
  have fin : (List.range vs.toArray.size).all (fun j => ((List.zipWith (meq 3) xs ys)[j]?.getD none).getD false) = b := by
    have e3 : vs.toArray.size = (List.zipWith (meq 3) xs ys).length := by simp; lia
    rw [e3, h2]
    refine range_all_eq _ _ _ fun j hj => ?_
    rw [List.getElem?_eq_getElem hj]; rfl
  have k1 := RcAt.lists (A := A) (s := s) (lobj_isList ha) (lobj_isList hc) (by simp; lia) (by lia) he
  rw [fin] at k1
  exact k1

theorem dop_eq : DOp G d (compareOp .Eq) wEq := by
  intro A s H Q a b ma mb r S va vb ho w
  cases ma <;> cases mb <;> first | exact w.elim | skip
  · obtain ⟨t, rfl⟩ := va.int_inv; obtain ⟨u, rfl⟩ := vb.int_inv
    exact PyProof.Rows.eq_int (PE.now S (Grew.refl s) (.bool _) (by rw [beq_dec_int]; exact w))
  · obtain ⟨t, rfl⟩ := va.bytes_inv; obtain ⟨u, rfl⟩ := vb.bytes_inv
    exact eq_bytes (PE.now S (Grew.refl s) (.bool _) (by rw [beq_dec_l]; exact w))
  · obtain ⟨k, hk, q⟩ := w
    exact (rcAt_tup (by have := r.cl64; lia) va vb hk).1 _ _ _ _ (PE.now S (Grew.refl s) (.bool _) q)
  · cases va.lst_inv; cases vb.lst_inv
    obtain ⟨xs, hx, ys, hy, w⟩ := w
    obtain ⟨vs, n, hl, rx⟩ := S.isL hx
    obtain ⟨us, m, hm, ry⟩ := S.isL hy
    rcases w with ⟨hne, q⟩ | ⟨hlen, k, hk, q⟩
    · exact eq_list_lengthsAt (lobj_isList hl) (lobj_isList hm) (by simp [rx.length, ry.length]; lia) r.cl (PE.now S (Grew.refl s) (.bool _) q)
    · exact (rcAt_lst (by have := r.cl64; lia) hl hm rx ry hlen hk) _ _ _ _ (PE.now S (Grew.refl s) (.bool _) q)
theorem dop_ne : DOp G d (compareOp .NotEq) wNe := by
  intro A s H Q a b ma mb r S va vb ho w
  cases ma <;> cases mb <;> first | exact w.elim | skip
  · obtain ⟨t, rfl⟩ := va.int_inv; obtain ⟨u, rfl⟩ := vb.int_inv
    exact PyProof.Rows.ne_int (PE.now S (Grew.refl s) (.bool _) (by rw [bne_dec_int]; exact w))
  · obtain ⟨t, rfl⟩ := va.bytes_inv; obtain ⟨u, rfl⟩ := vb.bytes_inv
    exact ne_bytes (PE.now S (Grew.refl s) (.bool _) (by rw [bne_dec_l]; exact w))
  · obtain ⟨k, hk, q⟩ := w
    exact (rcAt_tup (by have := r.cl64; lia) va vb hk).2 _ _ _ _ (PE.now S (Grew.refl s) (.bool _) q)
theorem dop_lt : DOp G d (compareOp .Lt) wLt := by
  intro A s H Q a b ma mb r S va vb ho w
  cases ma <;> cases mb <;> first | exact w.elim | skip
  · obtain ⟨t, rfl⟩ := va.int_inv; obtain ⟨u, rfl⟩ := vb.int_inv
    exact PyProof.Rows.lt_int (PE.now S (Grew.refl s) (.bool _) w)
  · obtain ⟨hz, k, hk, q⟩ := w
    exact rcLt_tuples r.cl va vb hz hk (PE.now S (Grew.refl s) (.bool _) q)
theorem dop_le : DOp G d (compareOp .LtE) wLe := by
  refine dop_int2 fun A s H Q a b t u r S w => ?_
  exact PyProof.Rows.le_int (PE.now S (Grew.refl s) (.bool _) w)
theorem dop_gt : DOp G d (compareOp .Gt) wGt := by
  refine dop_int2 fun A s H Q a b t u r S w => ?_
  exact PyProof.Rows.gt_int (PE.now S (Grew.refl s) (.bool _) w)
theorem dop_ge : DOp G d (compareOp .GtE) wGe := by
  refine dop_int2 fun A s H Q a b t u r S w => ?_
  exact PyProof.Rows.ge_int (PE.now S (Grew.refl s) (.bool _) w)
theorem isSame_mis {v u : Value} {m m' : MV} {k : Bool} {h : Heap} (rv : VRep h v m) (ru : VRep h u m') (e : mis m m' = some k) : isSame v u = pure k := by
  cases m with
  | none =>
    cases m' <;> first | exact none_elim e | skip
    cases rv.none_inv; cases ru.none_inv; cases e; rfl
  | bool _ =>
    cases m' <;> first | exact none_elim e | skip
    cases rv.bool_inv; cases ru.none_inv; cases e; rfl
  | bytes _ =>
    cases m' <;> first | exact none_elim e | skip
    obtain ⟨t, rfl⟩ := rv.bytes_inv; cases ru.none_inv; cases e; rfl
  | raw a =>
    cases rv.raw_inv
    cases v <;> first | exact none_elim e | (cases m' <;> first | exact none_elim e | skip)
    rename_i a b
    cases ru.raw_inv
    cases u <;> first | exact none_elim e | skip
    cases e
    rename_i b
    show pure (Value.type a == Value.type b) = pure (a == b)
    congr 1
    by_cases q : a = b
    · subst q; simp
    · have : Value.type a ≠ Value.type b := fun z => q (by injection z)
      rw [beq_eq_false_iff_ne.mpr this, beq_eq_false_iff_ne.mpr q]
  | _ => exact none_elim e
theorem dop_is : DOp G d (compareOp .Is) wIs := by
  intro A s H Q a b ma mb r S va vb ho ⟨k, hk, q⟩
  refine wpAny_bind (wpAny_of_eq (isSame_mis va vb hk) (wpAny_pure (PE.now S (Grew.refl s) (.bool _) q)))
theorem dop_isnot : DOp G d (compareOp .IsNot) wIsNot := by
  intro A s H Q a b ma mb r S va vb ho ⟨k, hk, q⟩
  refine wpAny_bind (wpAny_of_eq (isSame_mis va vb hk) (wpAny_pure (PE.now S (Grew.refl s) (.bool _) q)))
end
end Mine
end
-- part MEx
section
open PySem PySem.W PyProof.Rows PySem.SeqAt
set_option maxRecDepth 100000
namespace Mine

section
variable {G : Gd} {fm : Fm} {d : Nat}

-- unary minus
def wNeg : MV → (MV → MHeap → Prop) → MHeap → Prop
  | .int a, Q, H => Q (.int (-a)) H
  | _, _, _ => False
theorem de_neg {e : Expr} {pos : Pos} {W : WE} (h : DE G fm d e W) : DE G fm d (.UnaryOp .USub e pos) (fun ρ Q H => W ρ (fun v H₁ => wNeg v Q H₁) H) := by
  intro env A s ρ H Q rm S w
  refine wpAny_UnaryOp (wpAny_mono (h env A s ρ H _ rm S w) (fun a s₁ h₁ => ?_) fun _ _ x => x)
  obtain ⟨ma, H₁, w₁, va, S₁, k₁⟩ := h₁
  cases ma <;> first | exact w₁.elim | skip
  obtain ⟨t, rfl⟩ := va.int_inv
  exact P.neg_int (PE.trans k₁ _ _ (PE.now S₁ (Grew.toks s₁ _) (.int _ _) w₁))

-- truth
def wTruth : MV → (Bool → MHeap → Prop) → MHeap → Prop
  | .bool b, Q, H => Q b H
  | .int i, Q, H => Q (decide (i ≠ 0)) H
  | .lst a, Q, H => ∃ xs, H a = some xs ∧ xs.length < 1000000 ∧ Q (decide (xs ≠ [])) H
  | _, _, _ => False
theorem truth_of {A : Around} {s : Shared} {H : MHeap} {v : Value} {m : MV} {Q : Bool → MHeap → Prop} {E : Value → Shared → Prop} (S : StH H s.heap) (r : VRep s.heap v m) (w : wTruth m Q H) : wpAny G.M A (truthy v) (PT H s Q) E s := by
  cases m <;> first | exact w.elim | skip
  · rw [r.bool_inv]; exact wpAny_truthy_bool ⟨H, w, S, Kp.refl H s⟩
  · obtain ⟨t, rfl⟩ := r.int_inv
    refine P.truthy_int ⟨H, ?_, S, Kp.refl H s⟩
    rw [bne_dec_int]; exact w
  · cases r.lst_inv
    obtain ⟨xs, hx, hz, q⟩ := w
    obtain ⟨vs, n, hl, rx⟩ := S.isL hx
    refine wpAny_truthy_list (lobj_isList hl) (by simp [rx.length]; omega) ⟨H, ?_, (Grew.toks s _).sth S, (Grew.toks s _).kp H⟩
    have e : (!vs.toArray.isEmpty) = decide (xs ≠ []) := by
      have := rx.length
      cases vs <;> cases xs <;> simp_all
    rw [e]; exact q

theorem dt_val {e : Expr} {W : WE} (h : DE G fm d e W) (he : ∀ (env : Env) (whole : Sem Value), isTrue e env whole = (do let v ← whole; standAt e.pos; holding [v] (truthy v))) :
    DT G fm d e (fun ρ Q H => W ρ (fun v H₁ => wTruth v Q H₁) H) := by
  intro env A s ρ H Q rm S w
  refine wpAny_isTrue_value (wpAny_mono (h env A s ρ H _ rm S w) (fun a s₁ h₁ => ?_) fun _ _ x => x) (he env _)
  obtain ⟨ma, H₁, w₁, va, S₁, k₁⟩ := h₁
  exact wpAny_mono (truth_of S₁ va w₁) (PT.trans k₁) fun _ _ x => x
theorem dt_name {x : Str} {pos : Pos} {W : WE} (h : DE G fm d (.Name x pos) W) : DT G fm d (.Name x pos) (fun ρ Q H => W ρ (fun v H₁ => wTruth v Q H₁) H) := dt_val h fun _ _ => rfl
theorem dt_call {f : Expr} {as : List Expr} {ks : List Keyword} {pos : Pos} {W : WE} (h : DE G fm d (.Call f as ks pos) W) : DT G fm d (.Call f as ks pos) (fun ρ Q H => W ρ (fun v H₁ => wTruth v Q H₁) H) := dt_val h fun _ _ => rfl

theorem dt_not {e : Expr} {pos : Pos} {W : WT} (h : DT G fm d e W) : DT G fm d (.UnaryOp .Not e pos) (fun ρ Q H => W ρ (fun b H₁ => Q (!b) H₁) H) := by
  intro env A s ρ H Q rm S w
  exact wpAny_isTrue_Not (wpAny_mono (h env A s ρ H _ rm S w) (fun b s₁ ⟨H₁, w₁, S₁, k₁⟩ => ⟨H₁, w₁, S₁, k₁⟩) fun _ _ x => x)

/-- the tests of an «and», an «or» -/
def DAll (G : Gd) (fm : Fm) (d : Nat) (op : BoolOp) (es : List Expr) (W : WT) : Prop :=
  ∀ env A s ρ H Q, Room d A → St G fm env H ρ s → W ρ Q H → wpAny G.M A (allTrue op es env) (PT H s Q) noE s
theorem dall_and_nil : DAll G fm d .And [] (fun _ Q H => Q true H) := fun _ _ s _ H _ _ S w => wpAny_allTrue_And_nil ⟨H, w, S.hp, Kp.refl H s⟩
theorem dall_or_nil : DAll G fm d .Or [] (fun _ Q H => Q false H) := fun _ _ s _ H _ _ S w => wpAny_allTrue_Or_nil ⟨H, w, S.hp, Kp.refl H s⟩
theorem dall_and_cons {e : Expr} {es : List Expr} {W W' : WT} (h : DT G fm d e W) (h' : DAll G fm d .And es W') :
    DAll G fm d .And (e :: es) (fun ρ Q H => W ρ (fun b H₁ => if b then W' ρ Q H₁ else Q false H₁) H) := by
  intro env A s ρ H Q rm S w
  refine wpAny_allTrue_And_cons (wpAny_mono (h env A s ρ H _ rm S w) (fun b s₁ ⟨H₁, w₁, S₁, k₁⟩ => ?_) fun _ _ x => x)
  cases b with
  | true => exact wpAny_mono (h' env A s₁ ρ H₁ Q rm (S.kp k₁ S₁) w₁) (PT.trans k₁) fun _ _ x => x
  | false => exact ⟨H₁, w₁, S₁, k₁⟩
theorem dall_or_cons {e : Expr} {es : List Expr} {W W' : WT} (h : DT G fm d e W) (h' : DAll G fm d .Or es W') :
    DAll G fm d .Or (e :: es) (fun ρ Q H => W ρ (fun b H₁ => if b then Q true H₁ else W' ρ Q H₁) H) := by
  intro env A s ρ H Q rm S w
  refine wpAny_allTrue_Or_cons (wpAny_mono (h env A s ρ H _ rm S w) (fun b s₁ ⟨H₁, w₁, S₁, k₁⟩ => ?_) fun _ _ x => x)
  cases b with
  | true => exact ⟨H₁, w₁, S₁, k₁⟩
  | false => exact wpAny_mono (h' env A s₁ ρ H₁ Q rm (S.kp k₁ S₁) w₁) (PT.trans k₁) fun _ _ x => x
theorem dt_bool {op : BoolOp} {es : List Expr} {pos : Pos} {W : WT} (h : DAll G fm d op es W) : DT G fm d (.BoolOp op es pos) W :=
  fun env A s ρ H Q rm S w => wpAny_isTrue_BoolOp (h env A s ρ H Q rm S w)

theorem rel_ {M : Model} {A : Around} {vs ks : List Value} {Q : Unit → Shared → Prop} {E : Value → Shared → Prop} {s : Shared} (h : Q () s) : wpAny M A (release vs ks) Q E s := fun Γ p _ => by rw [Sem.wp_release]; exact h
/-- a op b op' c, as a test -/
theorem dt_chain {l r r' : Expr} {op op' : CmpOp} {pos : Pos} {Wl Wr Wr' : WE} {W W' : MV → MV → (MV → MHeap → Prop) → MHeap → Prop} (hl : DE G fm d l Wl) (hr : DE G fm d r Wr) (hr' : DE G fm d r' Wr')
    (ho : DOp G d (compareOp op) W) (ho' : DOp G d (compareOp op') W') (hm : lastMarks [op, op'] [r, r'] = false := by rfl) :
    DT G fm d (.Compare l [op, op'] [r, r'] pos) (fun ρ Q H => Wl ρ (fun a H₁ => Wr ρ (fun b H₂ => W a b (BoolOf fun c H₃ => if c then Wr' ρ (fun b' H₄ => W' b b' (BoolOf Q) H₄) H₃ else Q false H₃) H₂) H₁) H) := by
  intro env A s ρ H Q rm S w
  refine isTrue_chain (wpAny_mono (hl env A s ρ H _ rm S w) (fun a s₁ h₁ => ?_) fun _ _ x => x) hm
  obtain ⟨ma, H₁, w₁, va, S₁, k₁⟩ := h₁
  have St₁ := S.kp k₁ S₁
  show wpAny G.M A (do
    let rv ← holding [a] (eval r env)
    standAt pos
    let c ← holding [a, rv] (compareOp op a rv)
    release [a, rv] [c]
    if ← holding [c, rv] (truthy c) then testChain pos rv [op'] [eval r' env] else pure false) (PT H s Q) noE s₁
  refine wpAny_bind (wpAny_holding (wpAny_mono (hr env A s₁ ρ H₁ _ rm St₁ w₁) (fun b s₂ h₂ => ?_) fun _ _ x => x))
  obtain ⟨mb, H₂, w₂, vb, S₂, k₂⟩ := h₂
  have St₂ := St₁.kp k₂ S₂
  refine wpAny_bind (wpAny_standAt (wpAny_bind (wpAny_holding (wpAny_mono (ho A s₂ H₂ _ a b ma mb rm S₂ (va.kp S₁ k₂) vb St₂.old w₂) (fun c s₃ h₃ => ?_) fun _ _ x => x))))
  obtain ⟨mc, H₃, w₃, vc, S₃, k₃⟩ := h₃
  have St₃ := St₂.kp k₃ S₃
  have K := (k₁.trans k₂).trans k₃
  refine wpAny_bind (rel_ ?_)
  cases mc <;> first | exact w₃.elim | skip
  rename_i bb
  rw [vc.bool_inv]
  refine wpAny_bind (wpAny_holding (wpAny_truthy_bool ?_))
  cases bb with
  | false =>
    simp only [Bool.false_eq_true, if_false]
    exact wpAny_pure ⟨H₃, w₃, S₃, K⟩
  | true =>
    simp only [if_true]
    have w₃' : Wr' ρ (fun b' H₄ => W' mb b' (BoolOf Q) H₄) H₃ := w₃
    show wpAny G.M A (do
      let rv ← holding [b] (eval r' env)
      standAt pos
      let c ← operate [b, rv] (compareOp op' b rv)
      holding [c] (truthy c)) (PT H s Q) noE s₃
    refine wpAny_bind (wpAny_holding (wpAny_mono (hr' env A s₃ ρ H₃ _ rm St₃ w₃') (fun b' s₄ h₄ => ?_) fun _ _ x => x))
    obtain ⟨mb', H₄, w₄, vb', S₄, k₄⟩ := h₄
    have St₄ := St₃.kp k₄ S₄
    refine wpAny_bind (wpAny_standAt (wpAny_bind (wpAny_operating (wpAny_mono (ho' A s₄ H₄ _ b b' mb mb' rm S₄ ((vb.kp S₂ k₃).kp S₃ k₄) vb' St₄.old w₄) (fun c' s₅ h₅ => ?_) fun _ _ x => x))))
    obtain ⟨mc', H₅, w₅, vc', S₅, k₅⟩ := h₅
    cases mc' <;> first | exact w₅.elim | skip
    rw [vc'.bool_inv]
    exact wpAny_holding (wpAny_truthy_bool ⟨H₅, w₅, S₅, (K.trans k₄).trans k₅⟩)

-- a and b, as a value: bools
theorem de_and {x y : Expr} {pos : Pos} {Wx Wy : WE} (hx : DE G fm d x Wx) (hy : DE G fm d y Wy) :
    DE G fm d (.BoolOp .And [x, y] pos) (fun ρ Q H => Wx ρ (BoolOf fun b H₁ => if b then Wy ρ Q H₁ else Q (.bool false) H₁) H) := by
  intro env A s ρ H Q rm S w
  refine wpAny_And2 (wpAny_mono (hx env A s ρ H _ rm S w) (fun a s₁ h₁ => ?_) fun _ _ x => x)
  obtain ⟨ma, H₁, w₁, va, S₁, k₁⟩ := h₁
  cases ma <;> first | exact w₁.elim | skip
  rename_i b
  rw [va.bool_inv]
  refine wpAny_truthy_bool ?_
  cases b with
  | true => exact wpAny_mono (hy env A s₁ ρ H₁ Q rm (S.kp k₁ S₁) w₁) (PE.trans k₁) fun _ _ x => x
  | false => exact ⟨_, H₁, w₁, .bool false, S₁, k₁⟩

theorem de_ifexp {t x y : Expr} {pos : Pos} {Wt : WT} {Wx Wy : WE} (ht : DT G fm d t Wt) (hx : DE G fm d x Wx) (hy : DE G fm d y Wy) :
    DE G fm d (.IfExp t x y pos) (fun ρ Q H => Wt ρ (fun b H₁ => if b then Wx ρ Q H₁ else Wy ρ Q H₁) H) := by
  intro env A s ρ H Q rm S w
  refine wpAny_IfExp (wpAny_mono (ht env A s ρ H _ rm S w) (fun b s₁ ⟨H₁, w₁, S₁, k₁⟩ => ?_) fun _ _ x => x)
  cases b with
  | true => exact wpAny_mono (hx env A s₁ ρ H₁ Q rm (S.kp k₁ S₁) w₁) (PE.trans k₁) fun _ _ x => x
  | false => exact wpAny_mono (hy env A s₁ ρ H₁ Q rm (S.kp k₁ S₁) w₁) (PE.trans k₁) fun _ _ x => x

-- items, displays
theorem da_nil : DA G fm d [] (fun _ Q H => Q [] H) := fun _ _ s _ H _ _ _ S w => wpAny_items_nil ⟨[], H, w, .nil, S.hp, Kp.refl H s⟩
theorem da_cons {e : Expr} {es : List Expr} {W : WE} {W' : WA} (h : DE G fm d e W) (h' : DA G fm d es W') (he : ∀ env, starEach (e :: es) env = (false, eval e env) :: starEach es env := by intro _; rfl) :
    DA G fm d (e :: es) (fun ρ Q H => W ρ (fun v H₁ => W' ρ (fun vs H₂ => Q (v :: vs) H₂) H₁) H) := by
  intro env A s ρ H Q pos rm S w
  refine wpAny_items_cons (wpAny_mono (h env A s ρ H _ rm S w) (fun a s₁ h₁ => ?_) fun _ _ x => x) (he env)
  obtain ⟨ma, H₁, w₁, va, S₁, k₁⟩ := h₁
  refine wpAny_mono (h' env A s₁ ρ H₁ _ pos rm (S.kp k₁ S₁) w₁) (fun vs s₂ h₂ => ?_) fun _ _ x => x
  obtain ⟨ms, H₂, w₂, vms, S₂, k₂⟩ := h₂
  exact ⟨ma :: ms, H₂, w₂, .cons (va.kp S₁ k₂) vms, S₂, k₁.trans k₂⟩
theorem de_tuple {es : List Expr} {k : Nat} {pos : Pos} {W : WA} (h : DA G fm d es W) : DE G fm d (.Tuple es k pos) (fun ρ Q H => W ρ (fun vs H₁ => vs.length ≤ 1000 ∧ Q (.tup vs) H₁) H) := by
  intro env A s ρ H Q rm S w
  refine wpAny_Tuple (wpAny_mono (h env A s ρ H _ pos rm S w) (fun vs s₁ h₁ => ?_) fun _ _ x => x)
  obtain ⟨ms, H₁, w₁, vms, S₁, k₁⟩ := h₁
  refine ⟨by rw [vms.length, sizeLine_val]; omega, ?_⟩
  have g := Grew.push s₁ (tobj vs) s₁.toks
  exact ⟨.tup ms, H₁, w₁.2, .tup (Heap.get?_push_size _ rfl) (vms.grew g), g.sth S₁, k₁.trans (g.kp H₁)⟩
theorem de_list {es : List Expr} {pos : Pos} {W : WA} (h : DA G fm d es W) : DE G fm d (.List es pos) (fun ρ Q H => W ρ (fun vs H₁ => vs.length ≤ 1000 ∧ ∀ c, H₁ c = none → Q (.lst c) (H₁.set c vs)) H) := by
  intro env A s ρ H Q rm S w
  refine wpAny_List (wpAny_mono (h env A s ρ H _ pos rm S w) (fun vs s₁ h₁ => ?_) fun _ _ x => x)
  obtain ⟨ms, H₁, w₁, vms, S₁, k₁⟩ := h₁
  refine ⟨by rw [vms.length, sizeLine_val]; lia, ?_⟩
  exact PE.trans k₁ _ _ (PE.newList (vs := vs) (n := 0) S₁ (Grew.push s₁ (lobj vs 0) s₁.toks) (Heap.get?_push_size _ rfl) (get_new _) vms w₁.2)

-- an item at a place
def wItem : MV → MV → (MV → MHeap → Prop) → MHeap → Prop
  | .lst a, .int i, Q, H => ∃ xs, H a = some xs ∧ (0 ≤ i ∧ i < 1000000) ∧ ∃ x, xs[i.toNat]? = some x ∧ Q x H
  | .tup xs, .int i, Q, H => (0 ≤ i ∧ i < 1000000) ∧ ∃ x, xs[i.toNat]? = some x ∧ Q x H
  | .bytes l, .int i, Q, H => ∃ x, (0 ≤ i ∧ i < 1000000) ∧ l.length < 1000000 ∧ l[i.toNat]? = some x ∧ Q (.int x.toNat) H
  | _, _, _, _ => False
/-- an index that is no slice -/
def plainIdx : Expr → Bool
  | .Slice .. => false
  | _ => true
theorem subscripted_plain {slice : Expr} (h : plainIdx slice = true) (o i : Value) : subscripted slice false o i = operate [o, i] (getItem o i) := by
  cases slice <;> first | rfl | cases h
theorem de_item {v i : Expr} {pos : Pos} {Wv Wi : WE} (hv : DE G fm d v Wv) (hi : DE G fm d i Wi) (hp : plainIdx i = true := by rfl) :
    DE G fm d (.Subscript v i pos) (fun ρ Q H => Wv ρ (fun a H₁ => Wi ρ (fun b H₂ => wItem a b Q H₂) H₁) H) := by
  intro env A s ρ H Q rm S w
  refine Subscript_ (wpAny_mono (hv env A s ρ H _ rm S w) (fun a s₁ h₁ => ?_) fun _ _ x => x)
  obtain ⟨ma, H₁, w₁, va, S₁, k₁⟩ := h₁
  refine wpAny_mono (hi env A s₁ ρ H₁ _ rm (S.kp k₁ S₁) w₁) (fun b s₂ h₂ => ?_) fun _ _ x => x
  obtain ⟨mb, H₂, w₂, vb, S₂, k₂⟩ := h₂
  have va₂ := va.kp S₁ k₂
  have K := k₁.trans k₂
  cases ma <;> cases mb <;> first | exact w₂.elim | skip
  · obtain ⟨t, rfl⟩ := va₂.bytes_inv; obtain ⟨u, rfl⟩ := vb.int_inv
    rename_i l i
    obtain ⟨x, hb, hz, hx, q⟩ := w₂
    have hlt : i.toNat < l.length := by
      rcases Nat.lt_or_ge i.toNat l.length with h | h
      · exact h
      · rw [List.getElem?_eq_none h] at hx; cases hx
    refine tail_any (typeIs_bytes _ _ _) FB.slot_bytes_getitem.lookup (getItem_bytes (by lia) hb.1 (by lia) ?_) (subscripted_plain hp _ _)
    have e : l.getD i.toNat 0 = x := by rw [List.getD_eq_getElem?_getD, hx]; rfl
    rw [e]
    exact PE.trans K _ _ (PE.now S₂ (Grew.toks s₂ _) (.int _ _) q)
  · obtain ⟨a, vs, rfl, ha, ra⟩ := va₂.tup_inv; obtain ⟨u, rfl⟩ := vb.int_inv
    obtain ⟨hb, x, hx, q⟩ := w₂
    obtain ⟨vx, hvx, rx⟩ := ra.get hx
    rename_i xs i
    have hlt : i.toNat < vs.length := by
      rcases Nat.lt_or_ge i.toNat vs.length with h | h
      · exact h
      · rw [List.getElem?_eq_none h] at hvx; cases hvx
    have ht : IsTup s₂.heap a vs.toArray := ⟨_, ha, rfl, 0, rfl⟩
    refine tail_any ht.typeIs slot_tuple_getitem.lookup (PyProof.Rows.getItem_tuple (j := i.toNat) (x := vx) ht (by lia) (by lia) ?_ (by simpa using hvx) (PE.trans K _ _ (PE.now S₂ (Grew.refl _) rx q))) (subscripted_plain hp _ _)
    have hn : ¬ i < 0 := by lia
    have h1 : i < vs.length := by lia
    simp [seqIndex?, hn, hb.1, h1]
  · cases va₂.lst_inv; obtain ⟨u, rfl⟩ := vb.int_inv
    obtain ⟨xs, hx, hb, x, hi', q⟩ := w₂
    obtain ⟨vs, n, hl, rx⟩ := S₂.isL hx
    obtain ⟨vx, hvx, rvx⟩ := rx.get hi'
    have hL := lobj_isList hl
    exact tail_any hL.typeIs slot_list_getitem.lookup (wpAny_getItem_list hL hb.1 (by lia) (by simpa using hvx) (PE.trans K _ _ (PE.now S₂ (Grew.refl _) rvx q))) (subscripted_plain hp _ _)
end
end Mine
end
-- part MCall
section
open PySem PySem.W PyProof.Rows PySem.SeqAt
set_option maxRecDepth 100000
namespace Mine

abbrev Old (G : Gd) (s : Shared) : Prop := ∀ c o, G.h₁.get? c = some o → s.heap.get? c = some o
/-- what a call of f with positional arguments does -/
def DCall (G : Gd) (d : Nat) (f : Value) (W : List MV → (MV → MHeap → Prop) → MHeap → Prop) : Prop :=
  ∀ A s H Q vs ms, Room d A → StH H s.heap → (∀ a, H a ≠ none → G.h₁.get? a = none) → VReps s.heap vs ms → Old G s → W ms Q H → wpAny G.M A (call f vs) (PE H s Q) noE s
/-- .. and keywords -/
def DCallK (G : Gd) (d : Nat) (f : Value) (kws : List Str) (W : List MV → List MV → (MV → MHeap → Prop) → MHeap → Prop) : Prop :=
  ∀ A s H Q vs ms ks kms, Room d A → StH H s.heap → (∀ a, H a ≠ none → G.h₁.get? a = none) → VReps s.heap vs ms → VReps s.heap ks kms → Old G s → W ms kms Q H → wpAny G.M A (call f vs (kws.zip ks)) (PE H s Q) noE s

def plainArgs : List Expr → Bool
  | [] => true
  | .Starred .. :: _ => false
  | _ :: r => plainArgs r
theorem starEach_cons {e : Expr} {r : List Expr} (h : plainArgs (e :: r) = true) (env : Env) : starEach (e :: r) env = (false, eval e env) :: starEach r env := by
  cases e <;> first | rfl | cases h
theorem plainArgs_tail {e : Expr} {r : List Expr} (h : plainArgs (e :: r) = true) : plainArgs r = true := by
  cases e <;> first | exact h | cases h
theorem starEach_plain {es : List Expr} (h : plainArgs es = true) (env : Env) : ∀ x ∈ starEach es env, x.1 = false := by
  induction es with
  | nil => intro x hx; exact nomatch hx
  | cons e r ih =>
    intro x hx
    rw [starEach_cons h env] at hx
    rcases List.mem_cons.mp hx with rfl | hx
    · rfl
    · exact ih (plainArgs_tail h) x hx
theorem backTo_plain {es : List Expr} (h : plainArgs es = true) (env : Env) (pos : Pos) : (backTo pos (starEach es env)).any (·.1) = false := by
  unfold backTo
  rw [List.any_map, List.any_eq_false]
  intro x hx
  have := starEach_plain h env x hx
  simp [this]
section
variable {G : Gd} {fm : Fm} {d : Nat}

theorem de_callB {x : Str} {id : String} {p pos : Pos} {e : Expr} {r : List Expr} {Wa : WA} {W : List MV → (MV → MHeap → Prop) → MHeap → Prop} (hx : x ∈ fm.gls) (hg : GlobIs G x (.builtin id)) (ha : DA G fm d (e :: r) Wa) (hc : DCall G d (.builtin id) W)
    (hp : plainArgs (e :: r) = true := by rfl) : DE G fm d (.Call (.Name x p) (e :: r) [] pos) (fun ρ Q H => Wa ρ (fun vs H₁ => W vs Q H₁) H) := by
  intro env A s ρ H Q rm S w
  refine wpAny_Call_Name_kw (ev_glob hx hg S ?_)
  refine Calls.callWith_builtin (backTo_plain hp env pos) ?_
  rw [starEach_cons hp env]
  refine Calls.evalArgs_plain ?_
  have := ha env A s ρ H _ pos rm S w
  rw [starEach_cons hp env] at this
  refine wpAny_mono this (fun vs s₁ h₁ => ?_) fun _ _ x => x
  obtain ⟨ms, H₁, w₁, vms, S₁, k₁⟩ := h₁
  have St₁ := S.kp k₁ S₁
  exact wpAny_mono (hc A s₁ H₁ Q vs ms rm S₁ St₁.new vms St₁.old w₁) (PE.trans k₁) fun _ _ x => x

theorem de_callT {x : Str} {T : String} {p pos : Pos} {e : Expr} {r : List Expr} {Wa : WA} {W : List MV → (MV → MHeap → Prop) → MHeap → Prop} (hx : x ∈ fm.gls) (hg : GlobIs G x (.type T)) (ha : DA G fm d (e :: r) Wa) (hc : DCall G d (.type T) W)
    (hp : plainArgs (e :: r) = true := by rfl) : DE G fm d (.Call (.Name x p) (e :: r) [] pos) (fun ρ Q H => Wa ρ (fun vs H₁ => W vs Q H₁) H) := by
  intro env A s ρ H Q rm S w
  refine wpAny_Call_Name_kw (ev_glob hx hg S ?_)
  refine PyProof.Rows.callWith_type (backTo_plain hp env pos) ?_
  rw [starEach_cons hp env]
  refine Calls.evalArgs_plain ?_
  have := ha env A s ρ H _ pos rm S w
  rw [starEach_cons hp env] at this
  refine wpAny_mono this (fun vs s₁ h₁ => ?_) fun _ _ x => x
  obtain ⟨ms, H₁, w₁, vms, S₁, k₁⟩ := h₁
  have St₁ := S.kp k₁ S₁
  exact wpAny_mono (hc A s₁ H₁ Q vs ms rm S₁ St₁.new vms St₁.old w₁) (PE.trans k₁) fun _ _ x => x

/-- x is a def of the text's -/
def FnIs (G : Gd) (fa : Addr) : Prop := ∃ o fd, G.h₁.get? fa = some o ∧ o.data = .func fd

theorem de_callF {x : Str} {fa : Addr} {p pos : Pos} {e : Expr} {r : List Expr} {Wa : WA} {W : List MV → (MV → MHeap → Prop) → MHeap → Prop} (hx : x ∈ fm.gls) (hg : GlobIs G x (.ref fa)) (hf : FnIs G fa) (ha : DA G fm d (e :: r) Wa) (hc : DCall G d (.ref fa) W)
    (hp : plainArgs (e :: r) = true := by rfl) : DE G fm d (.Call (.Name x p) (e :: r) [] pos) (fun ρ Q H => Wa ρ (fun vs H₁ => W vs Q H₁) H) := by
  intro env A s ρ H Q rm S w
  obtain ⟨o, fd, ho, hd⟩ := hf
  refine wpAny_Call_Name_kw (ev_glob hx hg S ?_)
  refine Calls.callWith_function (o := o) (fd := fd) ?_
  rw [starEach_cons hp env]
  refine Calls.evalArgs_plain ?_
  have := ha env A s ρ H _ pos rm S w
  rw [starEach_cons hp env] at this
  refine wpAny_mono this (fun vs s₁ h₁ => ?_) fun _ _ x => x
  obtain ⟨ms, H₁, w₁, vms, S₁, k₁⟩ := h₁
  have St₁ := S.kp k₁ S₁
  exact ⟨⟨St₁.old _ _ ho, hd⟩, wpAny_mono (hc A s₁ H₁ Q vs ms rm S₁ St₁.new vms St₁.old w₁) (PE.trans k₁) fun _ _ x => x⟩

/-- one keyword -/
theorem de_callFk {x : Str} {fa : Addr} {p pos kp : Pos} {kw : Str} {ke : Expr} {e : Expr} {r : List Expr} {Wa : WA} {Wk : WE} {W : List MV → List MV → (MV → MHeap → Prop) → MHeap → Prop} (hx : x ∈ fm.gls) (hg : GlobIs G x (.ref fa)) (hf : FnIs G fa)
    (ha : DA G fm d (e :: r) Wa) (hk : DE G fm d ke Wk) (hc : DCallK G d (.ref fa) [kw] W)
    (hp : plainArgs (e :: r) = true := by rfl) : DE G fm d (.Call (.Name x p) (e :: r) [⟨some kw, ke, kp⟩] pos) (fun ρ Q H => Wa ρ (fun vs H₁ => Wk ρ (fun k H₂ => W vs [k] Q H₂) H₁) H) := by
  intro env A s ρ H Q rm S w
  obtain ⟨o, fd, ho, hd⟩ := hf
  refine wpAny_Call_Name_kw (ev_glob hx hg S ?_)
  refine callWith_function_kw (o := o) (fd := fd) ?_
  rw [starEach_cons hp env]
  refine evalArgs_kw rfl ?_
  have := ha env A s ρ H _ pos rm S w
  rw [starEach_cons hp env] at this
  refine wpAny_mono this (fun vs s₁ h₁ => ?_) fun _ _ x => x
  obtain ⟨ms, H₁, w₁, vms, S₁, k₁⟩ := h₁
  have St₁ := S.kp k₁ S₁
  show wpAny G.M A (evalAll [do let v ← eval ke env; standAt pos; pure v]) _ noE s₁
  refine wpAny_evalAll_cons (wpAny_bind (wpAny_mono (hk env A s₁ ρ H₁ _ rm St₁ w₁) (fun kv s₂ h₂ => ?_) fun _ _ x => x))
  obtain ⟨mk, H₂, w₂, vk, S₂, k₂⟩ := h₂
  have St₂ := St₁.kp k₂ S₂
  refine wpAny_bind (wpAny_standAt (wpAny_pure (wpAny_evalAll_nil ?_)))
  refine ⟨⟨St₂.old _ _ ho, hd⟩, ?_⟩
  exact wpAny_mono (hc A s₂ H₂ Q vs ms [kv] [mk] rm S₂ St₂.new (vms.kp S₁ k₂) (.cons vk .nil) St₂.old w₂) (PE.trans (k₁.trans k₂)) fun _ _ x => x

-- len
def wLen : List MV → (MV → MHeap → Prop) → MHeap → Prop
  | [.lst a], Q, H => ∃ xs, H a = some xs ∧ xs.length < 1000000 ∧ Q (.int xs.length) H
  | [.bytes l], Q, H => l.length < 1000000 ∧ Q (.int l.length) H
  | _, _, _ => False
theorem dcall_len : DCall G d (.builtin "len") wLen := by
  intro A s H Q vs ms rm S nw r ho w
  unfold wLen at w
  split at w
  · cases r with
    | cons r1 r0 =>
      cases r0; cases r1.lst_inv
      obtain ⟨xs, hx, hz, q⟩ := w
      obtain ⟨us, n, hl, rx⟩ := S.isL hx
      refine len_list (lobj_isList hl) (by simp [rx.length]; lia) (PE.now S (Grew.toks s _) ?_ q)
      have e : ((us.toArray.size : Nat) : Int) = (xs.length : Int) := by simp [rx.length]
      rw [e]; exact .int _ _
  · cases r with
    | cons r1 r0 =>
      cases r0; obtain ⟨t, rfl⟩ := r1.bytes_inv
      rename_i l
      refine len_bytes (by simp; lia) (PE.now S (Grew.toks s _) ?_ w.2)
      have e : ((l.toArray.size : Nat) : Int) = (l.length : Int) := by simp
      rw [e]; exact .int _ _
  · exact w.elim

-- type(x)
def wType : List MV → (MV → MHeap → Prop) → MHeap → Prop
  | [.bytes _], Q, H => Q (.raw (.type "bytes")) H
  | [.bool _], Q, H => Q (.raw (.type "bool")) H
  | _, _, _ => False
theorem dcall_type : DCall G d (.type "type") wType := by
  intro A s H Q vs ms rm S nw r ho w
  unfold wType at w
  split at w
  · cases r with
    | cons r1 r0 =>
      cases r0; obtain ⟨t, rfl⟩ := r1.bytes_inv
      exact call_type_of (typeIs_bytes _ _ _) (by decide) (PE.now S (Grew.refl s) (.raw _) w)
  · cases r with
    | cons r1 r0 =>
      cases r0; cases r1.bool_inv
      exact call_type_of (Tx := "bool") rfl (by decide) (PE.now S (Grew.refl s) (.raw _) w)
  · exact w.elim

-- bytes(ints)
def byteOf : MV → Option UInt8
  | .int i => if 0 ≤ i ∧ i < 256 then some i.toNat.toUInt8 else none
  | _ => none
def wBytes : List MV → (MV → MHeap → Prop) → MHeap → Prop
  | [.lst a], Q, H => ∃ (ns : List Int), H a = some (ns.map .int) ∧ (∀ n ∈ ns, 0 ≤ n ∧ n < 256) ∧ ns.length ≤ 1000000 ∧ Q (.bytes (ns.map fun n => n.toNat.toUInt8)) H
  | _, _, _ => False
theorem VReps.ints {h : Heap} : ∀ {vs : List Value} {ns : List Int}, VReps h vs (ns.map .int) → IntsAre vs ns
  | [], [], _ => .nil
  | [], _ :: _, r => nomatch r
  | _ :: _, [], r => nomatch r
  | _ :: _, _ :: _, .cons r1 r2 => by obtain ⟨t, rfl⟩ := r1.int_inv; exact .cons _ t r2.ints
theorem dcall_bytes : DCall G d (.type "bytes") wBytes := by
  intro A s H Q vs ms rm S nw r ho w
  cases ms with
  | nil => exact w.elim
  | cons m ms =>
  cases m <;> first | exact w.elim | skip
  cases ms with
  | cons _ _ => exact w.elim
  | nil =>
  · cases r with
    | cons r1 r0 =>
      cases r0; cases r1.lst_inv
      obtain ⟨ns, hx, hr, hz, q⟩ := w
      obtain ⟨us, n, hl, rx⟩ := S.isL hx
      have hi := rx.ints
      refine call_bytes_ints (lobj_isList hl) hi hr (by rw [rx.length, sizeLine_val]; simp; lia) rm.handled fun h' t k hk => ?_
      refine PE.now S (s' := { s with heap := h', toks := k }) ⟨rfl, rfl, hk⟩ ?_ q
      have e : byteArr ns = (ns.map fun n => n.toNat.toUInt8).toArray := by simp [byteArr]
      rw [e]; exact .bytes _ _
end
end Mine
end
-- part MStm
section
open PySem PySem.W PyProof.Rows PySem.SeqAt
set_option maxRecDepth 100000
namespace Mine

inductive MFlow where
  | next | brk | cont
  | ret (v : MV)
inductive FRep (h : Heap) : Flow → MFlow → Prop
  | next : FRep h .next .next
  | brk : FRep h .brk .brk
  | cont : FRep h .cont .cont
  | ret {v : Value} {m : MV} : VRep h v m → FRep h (.ret v) (.ret m)

/-- what is the block's own: its names' table and its cells -/
def Own (fm : Fm) (env : Env) (a : Addr) : Prop := a = env.locals ∨ ∃ x i, (x, i) ∈ fm.vis ∧ env.kindOf x ≠ some .local ∧ env.cells.lookup x = some a

structure KpS (fm : Fm) (env : Env) (H H' : MHeap) (s s' : Shared) : Prop where
  os : s'.os = s.os
  gens : s'.gens = s.gens
  keep : ∀ a o, s.heap.get? a = some o → H a = none → ¬ Own fm env a → s'.heap.get? a = some o
  dom : ∀ a, H' a ≠ none → H a ≠ none ∨ s.heap.get? a = none
  live : ∀ a, s.heap.get? a ≠ none → s'.heap.get? a ≠ none

theorem Kp.toS {fm : Fm} {env : Env} {H H' : MHeap} {s s' : Shared} (k : Kp H H' s s') : KpS fm env H H' s s' :=
  ⟨k.os, k.gens, fun a o e n _ => k.keep a o e n, k.dom, k.live⟩
theorem KpS.refl (fm : Fm) (env : Env) (H : MHeap) (s : Shared) : KpS fm env H H s s := (Kp.refl H s).toS
theorem KpS.trans {fm : Fm} {env : Env} {H H₁ H₂ : MHeap} {s s₁ s₂ : Shared} (a : KpS fm env H H₁ s s₁) (b : KpS fm env H₁ H₂ s₁ s₂) : KpS fm env H H₂ s s₂ where
  os := b.os.trans a.os
  gens := b.gens.trans a.gens
  keep := fun x o e n w => b.keep x o (a.keep x o e n w) (by
    cases q : H₁ x with
    | none => rfl
    | some y =>
      rcases a.dom x (by rw [q]; exact Option.some_ne_none _) with z | z
      · exact absurd n z
      · rw [e] at z; cases z) w
  dom := fun x n => by
    rcases b.dom x n with z | z
    · exact a.dom x z
    · cases q : s.heap.get? x with
      | none => exact .inr rfl
      | some o => exact absurd z (a.live x (by rw [q]; exact Option.some_ne_none _))
  live := fun x e => b.live x (a.live x e)

abbrev WS := Loc → (MFlow → Loc → MHeap → Prop) → MHeap → Prop

inductive PS (G : Gd) (fm : Fm) (env : Env) (H : MHeap) (s : Shared) (Q : MFlow → Loc → MHeap → Prop) (f : Flow) (s' : Shared) : Prop
  | mk (mf : MFlow) (ρ' : Loc) (H' : MHeap) (q : Q mf ρ' H') (r : FRep s'.heap f mf) (S : St G fm env H' ρ' s') (k : KpS fm env H H' s s') : PS G fm env H s Q f s'
theorem PS.trans {G : Gd} {fm : Fm} {env : Env} {H H₁ : MHeap} {s s₁ : Shared} {Q : MFlow → Loc → MHeap → Prop} (k : KpS fm env H H₁ s s₁) : ∀ f s', PS G fm env H₁ s₁ Q f s' → PS G fm env H s Q f s' :=
  fun _ _ ⟨mf, ρ', H', q, r, S, k'⟩ => ⟨mf, ρ', H', q, r, S, k.trans k'⟩

def DS (G : Gd) (fm : Fm) (d : Nat) (st : Stmt) (W : WS) : Prop :=
  ∀ env A s ρ H Q, Room d A → St G fm env H ρ s → W ρ Q H → wpAny G.M A (exec st env) (PS G fm env H s Q) noE s
def DB (G : Gd) (fm : Fm) (d : Nat) (st : List Stmt) (W : WS) : Prop :=
  ∀ env A s ρ H Q, Room d A → St G fm env H ρ s → W ρ Q H → wpAny G.M A (execs st env) (PS G fm env H s Q) noE s

section
variable {G : Gd} {fm : Fm} {d : Nat}

/-- a name of the block's is bound -/
theorem store_l {env : Env} {A : Around} {s : Shared} {ρ : Loc} {H : MHeap} {x : Str} {i : Nat} {v : Value} {mv : MV} {E : Value → Shared → Prop} {Q : Unit → Shared → Prop} (hx : (x, i) ∈ fm.vis) (S : St G fm env H ρ s) (r : VRep s.heap v mv)
    (h : ∀ s', St G fm env H (ρ.set i mv) s' → KpS fm env H H s s' → (env.kindOf x = some .local → ∀ b o, b ≠ env.locals → s.heap.get? b = some o → s'.heap.get? b = some o) → Q () s') : wpAny G.M A (storeName env x v) Q E s := by
  obtain ⟨hd, hk⟩ := S.eo.vis x i hx
  -- the change at one address of the block's own
  have key : ∀ (a : Addr) (h' : Heap) (tk : Nat), Own fm env a → (env.kindOf x = some .local → a = env.locals) → (∀ vs, s.heap.get? a ≠ some (tobj vs)) → H a = none → G.h₁.get? a = none → Heap.SameBut a s.heap h' → (∃ o, h'.get? a = some o) → (∃ m, h'.Ns env.locals m) →
      (∀ y j, (y, j) ∈ fm.vis → env.kindOf y ≠ some .local → ∃ c, env.cells.lookup y = some c ∧ (∃ v, h'.IsCell c v) ∧ G.h₁.get? c = none) → BoundTo env h' x v →
      (∀ y j u, (y, j) ∈ fm.vis → y ≠ x → BoundTo env s.heap y u → BoundTo env h' y u) → Q () { s with heap := h', toks := tk } := by
    intro a h' tk hown hal hnt hHa hga hs ⟨oa, hoa⟩ hns hcl hb hbs
    have kt : ∀ c ws, s.heap.get? c = some (tobj ws) → h'.get? c = some (tobj ws) := fun c ws e => by
      by_cases hc : c = a
      · subst hc; exact absurd e (hnt ws)
      · exact (hs.2 c hc).trans e
    refine h _ ⟨S.eo, fun c o e => ?_, S.new, hns, S.lnew, hcl, fun y j hy mv' hr => ?_, fun c xs e => ?_⟩ ⟨rfl, rfl, fun c o e n w => ?_, fun c e => .inl e, fun c e => ?_⟩ (fun hl b o hb e => (hs.2 b (by rw [hal hl]; exact hb)).trans e)
    · have : c ≠ a := fun z => by subst z; rw [hga] at e; cases e
      exact (hs.2 c this).trans (S.old c o e)
    · by_cases hyx : y = x
      · subst hyx
        have hij : j = i := (S.eo.inj y j y i hy hx).mp rfl
        subst hij
        have : mv' = mv := by simp [Loc.set] at hr; exact hr.symm
        subst this
        exact ⟨v, hb, r.mono kt⟩
      · have hij : j ≠ i := fun z => hyx ((S.eo.inj y j x i hy hx).mpr z)
        have hr' : ρ j = some mv' := by simpa [Loc.set, hij] using hr
        obtain ⟨u, hbu, ru⟩ := S.loc y j hy mv' hr'
        exact ⟨u, hbs y j u hy hyx hbu, ru.mono kt⟩
    · obtain ⟨vs, n, ho, rv⟩ := S.hp c xs e
      have : c ≠ a := fun z => by subst z; rw [hHa] at e; cases e
      exact ⟨vs, n, (hs.2 c this).trans ho, rv.mono kt⟩
    · have : c ≠ a := fun z => w (z ▸ hown)
      exact (hs.2 c this).trans e
    · by_cases hc : c = a
      · subst hc; show h'.get? c ≠ none; rw [hoa]; exact Option.some_ne_none _
      · show h'.get? c ≠ none; rw [hs.2 c hc]; exact e
  obtain ⟨m, hn⟩ := S.ns
  have hHL := S.hp.ns hn
  rcases Classical.em (env.kindOf x = some .local) with hl | hl
  · refine wpAny_storeName_local hl hn (fun h' hn' hs => ?_) (by rw [S.eo.kind]; rfl)
    refine key env.locals h' _ (.inl rfl) (fun _ => rfl) (fun vs e => ?_) hHL S.lnew hs ?_ ⟨_, hn'⟩ (fun y j hy hyk => ?_) (.inl ⟨hl, _, hn', by simp⟩) (fun y j u hy hyx hb => ?_)
    · exact ns_ne_tup hn e
    · exact ns_some hn'
    · obtain ⟨c, hc, ⟨v', hv'⟩, hg⟩ := S.cells y j hy hyk
      have hne : c ≠ env.locals := fun z => ns_ne_cell hn (z ▸ hv')
      exact ⟨c, hc, ⟨v', hv'.sameBut hs hne⟩, hg⟩
    · rcases hb with ⟨hk', m', hm', hmy⟩ | ⟨hk', c, hc, hcell⟩
      · refine .inl ⟨hk', _, hn', ?_⟩
        simp only [hyx, if_false]
        exact (ns_same hn hm' _).trans hmy
      · have hne : c ≠ env.locals := fun z => ns_ne_cell hn (z ▸ hcell)
        exact .inr ⟨hk', c, hc, hcell.sameBut hs hne⟩
  · obtain ⟨c, hc, ⟨v₀, hv₀⟩, hg⟩ := S.cells x i hx hl
    have hne : env.locals ≠ c := fun z => ns_ne_cell (z ▸ hn) hv₀
    have step : wpAny G.M A (cellSet c (some v)) Q E s := by
      refine wpAny_cellSet hv₀ fun h' hc' hs => ?_
      refine key c h' _ (.inr ⟨x, i, hx, hl, hc⟩) (fun z => absurd z hl) (fun vs e => ?_) (S.hp.cell hv₀) hg hs ?_ ⟨m, hn.sameBut hs hne⟩ (fun y j hy hyk => ?_) (.inr ⟨hl, c, hc, hc'⟩) (fun y j u hy hyx hb => ?_)
      · obtain ⟨o, ho, hd'⟩ := hv₀
        rw [ho] at e; cases e; cases hd'
      · obtain ⟨o, ho, _⟩ := hc'; exact ⟨o, ho⟩
      · obtain ⟨c', hcy, ⟨v', hv'⟩, hg'⟩ := S.cells y j hy hyk
        by_cases hcc : c' = c
        · subst hcc; exact ⟨_, hcy, ⟨_, hc'⟩, hg'⟩
        · exact ⟨c', hcy, ⟨v', hv'.sameBut hs hcc⟩, hg'⟩
      · rcases hb with ⟨hk', m', hm', hmy⟩ | ⟨hk', c', hcy, hcell⟩
        · exact .inl ⟨hk', m', hm'.sameBut hs hne, hmy⟩
        · have hcc : c' ≠ c := fun z => hyx (S.eo.cinj y x c (z ▸ hcy) hc)
          exact .inr ⟨hk', c', hcy, hcell.sameBut hs hcc⟩
    rcases hk with hk | hk | ⟨hk, _⟩
    · exact absurd hk hl
    · unfold storeName
      simp only [hk, S.eo.kind]
      exact wpAny_bind (wpAny_cellOf hc step)
    · unfold storeName
      simp only [hk, S.eo.kind]
      exact wpAny_bind (wpAny_cellOf hc step)

theorem store_ {env : Env} {A : Around} {s : Shared} {ρ : Loc} {H : MHeap} {x : Str} {i : Nat} {v : Value} {mv : MV} {E : Value → Shared → Prop} {Q : Unit → Shared → Prop} (hx : (x, i) ∈ fm.vis) (S : St G fm env H ρ s) (r : VRep s.heap v mv)
    (h : ∀ s', St G fm env H (ρ.set i mv) s' → KpS fm env H H s s' → Q () s') : wpAny G.M A (storeName env x v) Q E s := store_l hx S r fun s' a b _ => h s' a b

theorem db_nil : DB G fm d [] (fun ρ Q H => Q .next ρ H) := fun env _ s ρ H _ _ S w => wpAny_execs_nil ⟨.next, ρ, H, w, .next, S, KpS.refl fm env H s⟩
def thenW (W : Loc → (MFlow → Loc → MHeap → Prop) → MHeap → Prop) (Q : MFlow → Loc → MHeap → Prop) : MFlow → Loc → MHeap → Prop
  | .next, ρ, H => W ρ Q H
  | f, ρ, H => Q f ρ H
theorem db_cons {st : Stmt} {r : List Stmt} {W W' : WS} (h : DS G fm d st W) (h' : DB G fm d r W') : DB G fm d (st :: r) (fun ρ Q H => W ρ (thenW W' Q) H) := by
  intro env A s ρ H Q rm S w
  refine wpAny_execs_cons (wpAny_mono (h env A s ρ H _ rm S w) (fun f s₁ h₁ => ?_) fun _ _ x => x)
  obtain ⟨mf, ρ₁, H₁, w₁, fr, S₁, k₁⟩ := h₁
  cases fr with
  | next => exact wpAny_mono (h' env A s₁ ρ₁ H₁ Q rm S₁ w₁) (PS.trans k₁) fun _ _ x => x
  | brk => exact ⟨_, ρ₁, H₁, w₁, .brk, S₁, k₁⟩
  | cont => exact ⟨_, ρ₁, H₁, w₁, .cont, S₁, k₁⟩
  | ret rv => exact ⟨_, ρ₁, H₁, w₁, .ret rv, S₁, k₁⟩

/-- no comprehension as the value -/
def noComp : Expr → Bool
  | .ListComp .. | .SetComp .. | .DictComp .. => false
  | _ => true
theorem swaps_noComp {e : Expr} (h : noComp e = true) (t : Option Expr) (l : Nat) (env : Env) : swapsWith e t l env = pure false := by
  cases e <;> first | rfl | cases h

theorem ds_assign {x : Str} {i : Nat} {e : Expr} {p pos : Pos} {W : WE} (hx : (x, i) ∈ fm.vis) (h : DE G fm d e W) (hc : noComp e = true := by rfl) :
    DS G fm d (.Assign [.Name x p] e pos) (fun ρ Q H => W ρ (fun v H₁ => Q .next (ρ.set i v) H₁) H) := by
  intro env A s ρ H Q rm S w
  refine wpAny_Assign_Name (wpAny_mono (h env A s ρ H _ rm S w) (fun v s₁ h₁ => ?_) fun _ _ x => x) (swaps_noComp hc _ _ env)
  obtain ⟨mv, H₁, w₁, rv, S₁, k₁⟩ := h₁
  exact store_ hx (S.kp k₁ S₁) rv fun s₂ S₂ k₂ => ⟨.next, _, H₁, w₁, .next, S₂, k₁.toS.trans k₂⟩

theorem ds_aug {x : Str} {i : Nat} {op : Operator} {e : Expr} {p pos : Pos} {W : WE} {Wo : MV → MV → (MV → MHeap → Prop) → MHeap → Prop} (hx : (x, i) ∈ fm.vis) (h : DE G fm d e W) (ho : DOp G d (inplaceOp op) Wo) :
    DS G fm d (.AugAssign (.Name x p) op e pos) (fun ρ Q H => ∃ a, ρ i = some a ∧ W ρ (fun b H₁ => Wo a b (fun v H₂ => Q .next (ρ.set i v) H₂) H₁) H) := by
  intro env A s ρ H Q rm S ⟨ma, ha, w⟩
  refine wpAny_AugAssign_Name ?_
  have hv := de_var (G := G) (d := d) (pos := p) hx env A s ρ H (fun v H₁ => v = ma ∧ H₁ = H) rm S ⟨ma, ha, rfl, rfl⟩
  obtain ⟨hd, _⟩ := S.eo.vis x i hx
  have hv' : wpAny G.M A (loadName env x) (PE H s fun v H₁ => v = ma ∧ H₁ = H) noE s := by
    rw [eval_Name env x p hd] at hv
    intro Γ p' hΓ
    have := hv Γ p' hΓ
    rw [Sem.wp_bind'] at this
    exact (fun (x : wpAny G.M A (loadName env x) (PE H s fun v H₁ => v = ma ∧ H₁ = H) noE s) => x) (by
      obtain ⟨v, hb, rv⟩ := S.loc x i hx ma ha
      obtain ⟨_, hk⟩ := S.eo.vis x i hx
      have post : PE H s (fun v H₁ => v = ma ∧ H₁ = H) v s := PE.now S.hp (Grew.refl s) rv ⟨rfl, rfl⟩
      rcases hb with ⟨hl, m, hn, hm⟩ | ⟨hl, c, hc, hcell⟩
      · exact wpAny_loadName_local S.eo.kind hl hn hm post
      · rcases hk with hk | hk | ⟨hk, hcd⟩
        · exact absurd hk hl
        · exact wpAny_loadName_cell S.eo.kind hk hc hcell post
        · exact wpAny_loadName_free S.eo.kind hk hc hcell post hcd) Γ p' hΓ
  refine wpAny_mono hv' (fun a s₀ h₀ => ?_) fun _ _ x => x
  obtain ⟨_, H₀, ⟨rfl, rfl⟩, ra, S₀, k₀⟩ := h₀
  have St₀ := S.kp k₀ S₀
  refine wpAny_mono (h env A s₀ ρ H₀ _ rm St₀ w) (fun b s₁ h₁ => ?_) fun _ _ x => x
  obtain ⟨mb, H₁, w₁, rb, S₁, k₁⟩ := h₁
  have St₁ := St₀.kp k₁ S₁
  refine wpAny_mono (ho A s₁ H₁ _ a b _ mb rm S₁ (ra.kp S₀ k₁) rb St₁.old w₁) (fun v s₂ h₂ => ?_) fun _ _ x => x
  obtain ⟨mv, H₂, w₂, rv, S₂, k₂⟩ := h₂
  exact store_ hx (St₁.kp k₂ S₂) rv fun s₃ S₃ k₃ => ⟨.next, _, H₂, w₂, .next, S₃, ((k₀.trans k₁).trans k₂).toS.trans k₃⟩

theorem ds_return {e : Expr} {pos : Pos} {W : WE} (h : DE G fm d e W) : DS G fm d (.Return (some e) pos) (fun ρ Q H => W ρ (fun v H₁ => Q (.ret v) ρ H₁) H) := by
  intro env A s ρ H Q rm S w
  refine wpAny_Return_some (wpAny_mono (h env A s ρ H _ rm S w) (fun v s₁ h₁ => ?_) fun _ _ x => x)
  obtain ⟨mv, H₁, w₁, rv, S₁, k₁⟩ := h₁
  exact ⟨_, ρ, H₁, w₁, .ret rv, S.kp k₁ S₁, k₁.toS⟩

theorem ds_if {t : Expr} {b1 b2 : List Stmt} {pos : Pos} {Wt : WT} {W1 W2 : WS} (ht : DT G fm d t Wt) (h1 : DB G fm d b1 W1) (h2 : DB G fm d b2 W2) :
    DS G fm d (.If t b1 b2 pos) (fun ρ Q H => Wt ρ (fun b H₁ => if b then W1 ρ Q H₁ else W2 ρ Q H₁) H) := by
  intro env A s ρ H Q rm S w
  refine wpAny_If (wpAny_mono (ht env A s ρ H _ rm S w) (fun b s₁ ⟨H₁, w₁, S₁, k₁⟩ => ?_) fun _ _ x => x)
  cases b with
  | true => exact wpAny_mono (h1 env A s₁ ρ H₁ Q rm (S.kp k₁ S₁) w₁) (PS.trans k₁.toS) fun _ _ x => x
  | false => exact wpAny_mono (h2 env A s₁ ρ H₁ Q rm (S.kp k₁ S₁) w₁) (PS.trans k₁.toS) fun _ _ x => x

theorem ds_assert {t : Expr} {m : Option Expr} {pos : Pos} {Wt : WT} (ht : DT G fm d t Wt) : DS G fm d (.Assert t m pos) (fun ρ Q H => Wt ρ (fun b H₁ => b = true ∧ Q .next ρ H₁) H) := by
  intro env A s ρ H Q rm S w
  refine wpAny_Assert_holds (wpAny_mono (ht env A s ρ H _ rm S w) (fun b s₁ ⟨H₁, w₁, S₁, k₁⟩ => ?_) fun _ _ x => x)
  exact ⟨w₁.1, _, ρ, H₁, w₁.2, .next, S.kp k₁ S₁, k₁.toS⟩
theorem ds_break {pos : Pos} : DS G fm d (.Break pos) (fun ρ Q H => Q .brk ρ H) := fun env _ s ρ H _ _ S w => wpAny_Break ⟨_, ρ, H, w, .brk, S, KpS.refl fm env H s⟩
theorem ds_continue {pos : Pos} : DS G fm d (.Continue pos) (fun ρ Q H => Q .cont ρ H) := fun env _ s ρ H _ _ S w => wpAny_Continue ⟨_, ρ, H, w, .cont, S, KpS.refl fm env H s⟩
/-- a piece that is not reached -/
theorem ds_dead {st : Stmt} : DS G fm d st (fun _ _ _ => False) := fun _ _ _ _ _ _ _ _ w => w.elim
theorem db_dead {st : List Stmt} : DB G fm d st (fun _ _ _ => False) := fun _ _ _ _ _ _ _ _ w => w.elim
theorem de_dead {e : Expr} : DE G fm d e (fun _ _ _ => False) := fun _ _ _ _ _ _ _ _ w => w.elim

/-- what is left of a value that is no object -/
def notRef : MV → Prop
  | .none | .bool _ | .int _ | .bytes _ => True
  | _ => False
theorem ds_expr {e : Expr} {pos : Pos} {W : WE} (h : DE G fm d e W) (hc : noComp e = true := by rfl) : DS G fm d (.Expr e pos) (fun ρ Q H => W ρ (fun v H₁ => notRef v ∧ Q .next ρ H₁) H) := by
  intro env A s ρ H Q rm S w
  refine wpAny_Expr (wpAny_mono (h env A s ρ H _ rm S w) (fun v s₁ h₁ => ?_) fun _ _ x => x) (by unfold interactive; rw [S.eo.kind]; rfl) (swaps_noComp hc _ _ env)
  obtain ⟨mv, H₁, w₁, rv, S₁, k₁⟩ := h₁
  have fin : PS G fm env H s Q .next s₁ := ⟨_, ρ, H₁, w₁.2, .next, S.kp k₁ S₁, k₁.toS⟩
  cases rv <;> first | exact fin | exact w₁.1.elim
end
end Mine
end
-- part MFun
section
open PySem PySem.W PyProof.Rows PySem.SeqAt
set_option maxRecDepth 100000
namespace Mine

def Sub (H H' : MHeap) : Prop := ∀ a xs, H a = some xs → H' a = some xs
theorem Sub.refl (H : MHeap) : Sub H H := fun _ _ e => e
theorem StH.sub {H H' : MHeap} {h : Heap} (S : StH H' h) (s : Sub H H') : StH H h := fun a xs e => S a xs (s a xs e)

/-- what a def hands back -/
def flowVal : MFlow → MV → Prop
  | .ret v, w => v = w
  | .next, w => w = .none
  | _, _ => False
/-- the call's end: some of the made lists are forgotten -/
def Back (Q : MV → MHeap → Prop) : MFlow → Loc → MHeap → Prop := fun f _ H' => ∃ v H'', flowVal f v ∧ Sub H'' H' ∧ Q v H''

/-- the names of a block, looked at once -/
def scopeOk (sc : Scope) (fm : Fm) : Bool :=
  sc.kind == .function && !sc.isCoroutine && !sc.isGenerator &&
  (fm.vis.all fun p => !(p.1 == ("__debug__" : Str)) && (sc.names.lookup p.1 == some .local || sc.names.lookup p.1 == some .cell)) &&
  (fm.gls.all fun x => !(x == ("__debug__" : Str)) && sc.names.lookup x == some .globalImplicit) &&
  (fm.vis.all fun p => fm.vis.all fun q => (p.1 == q.1) == (p.2 == q.2)) &&
  (fm.cel.all fun x => sc.names.lookup x == some .cell)

structure ScopeOkP (sc : Scope) (fm : Fm) : Prop where
  h1 : sc.kind = .function
  h2 : sc.isCoroutine = false
  h3 : sc.isGenerator = false
  h4 : (∀ x i, (x, i) ∈ fm.vis → (x == ("__debug__" : Str)) = false ∧ (sc.names.lookup x = some .local ∨ sc.names.lookup x = some .cell))
  h5 : (∀ x ∈ fm.gls, sc.names.lookup x = some .globalImplicit ∧ (x == ("__debug__" : Str)) = false)
  h6 : (∀ x i y j, (x, i) ∈ fm.vis → (y, j) ∈ fm.vis → (x = y ↔ i = j))
  h7 : (∀ x ∈ fm.cel, sc.names.lookup x = some .cell)
theorem scopeOk_spec {sc : Scope} {fm : Fm} (h : scopeOk sc fm = true) : ScopeOkP sc fm := by
  unfold scopeOk at h
  simp only [Bool.and_eq_true, Bool.not_eq_true', List.all_eq_true, Bool.or_eq_true, beq_iff_eq] at h
  obtain ⟨⟨⟨⟨⟨⟨h1, h2⟩, h3⟩, h4⟩, h5⟩, h6⟩, h7⟩ := h
  refine ⟨h1, h2, h3, fun x i hx => h4 (x, i) hx, fun x hx => ⟨(h5 x hx).2, (h5 x hx).1⟩, fun x i y j hx hy => ?_, h7⟩
  have := h6 (x, i) hx (y, j) hy
  simp only at this
  constructor
  · intro e
    subst e
    rw [show (x == x) = true from by simp] at this
    exact beq_iff_eq.mp this.symm
  · intro e
    subst e
    rw [show (i == i) = true from by simp] at this
    exact beq_iff_eq.mp this

def locOf (ps : List (Str × Nat)) (ms : List MV) : Loc := fun j => ((ps.map (·.2)).zip ms).lookup j

theorem lookup_mem {α β : Type} [BEq α] [LawfulBEq α] : ∀ {l : List (α × β)} {a : α} {b : β}, l.lookup a = some b → (a, b) ∈ l
  | (k, v) :: r, a, b, h => by
    rw [List.lookup_cons] at h
    cases q : a == k with
    | true => rw [q] at h; cases h; rw [beq_iff_eq.mp q]; exact .head _
    | false => rw [q] at h; exact .tail _ (lookup_mem h)
theorem lookup_of_nodup {α β : Type} [BEq α] [LawfulBEq α] : ∀ {l : List (α × β)} {a : α} {b : β}, (l.map (·.1)).Nodup → (a, b) ∈ l → l.lookup a = some b
  | (k, v) :: r, a, b, hn, h => by
    rw [List.map_cons, List.nodup_cons] at hn
    rw [List.lookup_cons]
    rcases List.mem_cons.mp h with e | h'
    · cases e; simp
    · have hne : (a == k) = false := by
        rw [beq_eq_false_iff_ne]
        intro e; subst e
        exact hn.1 (List.mem_map.mpr ⟨_, h', rfl⟩)
      rw [hne]
      exact lookup_of_nodup hn.2 h'

theorem zip_mem {ps : List (Str × Nat)} {vs : List Value} {ms : List MV} {h : Heap} (r : VReps h vs ms) {j : Nat} {mv : MV} (e : (j, mv) ∈ (ps.map (·.2)).zip ms) : ∃ x v, (x, j) ∈ ps ∧ (x, v) ∈ (ps.map (·.1)).zip vs ∧ VRep h v mv := by
  induction ps generalizing vs ms with
  | nil => simp at e
  | cons p ps ih =>
    cases r with
    | nil => simp at e
    | cons r1 r2 =>
      rw [List.map_cons, List.zip_cons_cons] at e
      rcases List.mem_cons.mp e with q | q
      · cases q; exact ⟨p.1, _, .head _, .head _, r1⟩
      · obtain ⟨x, v, h1, h2, h3⟩ := ih r2 q
        exact ⟨x, v, .tail _ h1, .tail _ h2, h3⟩

/-- how the arguments become names -/
def DBind (G : Gd) (fd : FuncData) (ps : List (Str × Nat)) (kws : List Str) (F : List MV → List MV → Option (List MV)) : Prop :=
  ∀ s vs ks ms kms all, Old G s → VReps s.heap vs ms → VReps s.heap ks kms → F ms kms = some all → ∃ avs, VReps s.heap avs all ∧ avs.length = ps.length ∧ BindsTo s fd ⟨vs, kws.zip ks⟩ ((ps.map (·.1)).zip avs)

def noCells (sc : Scope) : Bool := sc.names.all fun x => x.2 != .cell

theorem callEnv_eq (fd : FuncData) (L a : Addr) : callEnv fd L a = newEnv fd.scope L fd.globals fd.closure (fd.qualname ++ ".<locals>.") (some a) fd.code none fd.builtins := rfl

section
variable {G : Gd} {fm : Fm} {d : Nat}

/-- a def without cells -/
theorem dcall_def {fa : Addr} {o : Obj} {fd : FuncData} {body : List Stmt} {ps : List (Str × Nat)} {kws : List Str} {F : List MV → List MV → Option (List MV)} {W : WS} (ok : G.Ok) (ho : G.h₁.get? fa = some o) (hd : o.data = .func fd) (hb : fd.body = .stmts body)
    (hcd : G.h₁.CodeRec fd.code fd.qualname) (hg : fd.globals = mainGlobals) (hbl : fd.builtins = builtinsNs) (hcl : fd.closure = []) (hs : scopeOk fd.scope fm = true) (hnc : noCells fd.scope = true)
    (hps : (ps.all fun p => fm.vis.contains p) = true) (hnd : (ps.map (·.1)).Nodup) (bind : DBind G fd ps kws F) (hW : DB G fm d body W) :
    DCallK G (d + 1) (.ref fa) kws (fun ms kms Q H => ∃ all, F ms kms = some all ∧ W (locOf ps all) (Back Q) H) := by
  intro A s H Q vs ms ks kms rm S nw r rk old ⟨all, hF, w⟩
  obtain ⟨h1, h2, h3, h4, h5, h6, h7⟩ := scopeOk_spec hs
  obtain ⟨avs, ra, hlen, hB⟩ := bind s vs ks ms kms all old r rk hF
  have hcell : ∀ x ∈ fd.scope.names, x.2 ≠ .cell := fun x hx => by
    have := List.all_eq_true.mp hnc x hx
    simpa using this
  have hvis : ∀ p ∈ ps, p ∈ fm.vis := fun p hp => by
    have := List.all_eq_true.mp hps p hp
    exact List.contains_iff_mem.mp this
  have hloc : ∀ x i, (x, i) ∈ fm.vis → fd.scope.names.lookup x = some .local := fun x i hx => by
    rcases (h4 x i hx).2 with q | q
    · exact q
    · exact absurd rfl (hcell _ (lookup_mem q))
  have hln : ∀ y ∈ (ps.map (·.1)).zip avs, fd.scope.names.lookup y.1 = some .local := fun y hy => by
    have := List.of_mem_zip hy
    obtain ⟨p, hp, e⟩ := List.mem_map.mp this.1
    rw [← e]; exact hloc p.1 p.2 (hvis p hp)
  refine wpAny_call (codeAny_call_def rm.lim (old _ _ ho) hd (ok.nolimit.keeps old) (hcd.keeps old) hb hB hcell hln (fun h₀ hns hk₀ => ?_) h2 h3 h1)
  have hnew := get_new s.heap
  have grew : Grew s { s with heap := h₀, toks := s.toks + ((ps.map (·.1)).zip avs).length } := ⟨rfl, rfl, hk₀⟩
  have S₀ : St G fm (callEnv fd s.heap.objs.size fa) H (locOf ps all) { s with heap := h₀, toks := s.toks + ((ps.map (·.1)).zip avs).length } := by
    refine ⟨⟨h1, hg, hbl, fun x i hx => ⟨(h4 x i hx).1, .inl (hloc x i hx)⟩, h5, h7, h6, fun x y c e _ => ?_⟩, fun a o' e => hk₀ _ _ (old a o' e), nw, ⟨_, hns⟩, ?_, fun x i hx hk => absurd (hloc x i hx) hk, fun x i hx mv hr => ?_, grew.sth S⟩
    · rw [callEnv_eq, hcl] at e; cases e
    · show G.h₁.get? s.heap.objs.size = none
      cases q : G.h₁.get? s.heap.objs.size with
      | none => rfl
      | some o' => rw [old _ _ q] at hnew; cases hnew
    · obtain ⟨y, v, hy1, hy2, hy3⟩ := zip_mem ra (lookup_mem hr)
      have hyx : y = x := (h6 y i x i (hvis _ hy1) hx).mpr rfl
      subst hyx
      refine ⟨v, .inl ⟨hloc y i hx, _, hns, ?_⟩, hy3.grew grew⟩
      refine lookup_of_nodup ?_ (List.mem_reverse.mpr hy2)
      rw [List.map_reverse, List.map_fst_zip (by rw [List.length_map]; lia)]
      exact List.pairwise_reverse.mpr (hnd.imp fun h => h.symm)
  have hrun := hW (callEnv fd s.heap.objs.size fa) (A.deeper (callEnv fd s.heap.objs.size fa)) _ (locOf ps all) H _ (rm.deeper _) S₀ w
  refine wpAny_mono hrun (fun f s' hf => ?_) fun _ _ x => x.elim
  obtain ⟨mf, ρ', H', ⟨v, H'', hv, hsub, q⟩, fr, S', k'⟩ := hf
  have fin : ∀ u, VRep s'.heap u v → PE H s Q u s' := fun u rv => by
    refine ⟨v, H'', q, rv, S'.hp.sub hsub, ⟨k'.os, k'.gens, fun a o' e n => ?_, fun a e => ?_, fun a e => k'.live a (grew.live a e)⟩⟩
    · refine k'.keep a o' (hk₀ _ _ e) n fun hown => ?_
      rcases hown with z | ⟨x, i, hx, hk, _⟩
      · have : a = s.heap.objs.size := z
        subst this; rw [hnew] at e; cases e
      · exact hk (hloc x i hx)
    · cases q' : H'' a with
      | none => exact absurd q' e
      | some xs =>
        have e' := hsub a xs q'
        rcases k'.dom a (by rw [e']; exact Option.some_ne_none _) with z | z
        · exact .inl z
        · refine .inr ?_
          cases q3 : s.heap.get? a with
          | none => rfl
          | some o' => rw [show _ = some o' from hk₀ a o' q3] at z; cases z
  cases fr with
  | next => exact fin _ (by rw [show v = MV.none from hv]; exact .none)
  | ret r => exact fin _ (by rw [← show _ = v from hv]; exact r)
  | brk => exact hv.elim
  | cont => exact hv.elim
end
end Mine
end
-- part MLoop
section
open PySem PySem.W PyProof.Rows PySem.SeqAt
set_option maxRecDepth 100000
namespace Mine

/-- only the iterator's own objects change -/
structure But (its : List Addr) (s s' : Shared) : Prop where
  os : s'.os = s.os
  gens : s'.gens = s.gens
  keep : ∀ b o, b ∉ its → s.heap.get? b = some o → s'.heap.get? b = some o

inductive StepP (its : List Addr) (I : Nat → Heap → Prop) (k : Nat) (x : MV) (s : Shared) (r : Option Value) (s' : Shared) : Prop
  | mk (v : Value) (e : r = some v) (rv : VRep s'.heap v x) (hi : I (k + 1) s'.heap) (b : But its s s') : StepP its I k x s r s'
structure Src (G : Gd) (A : Around) (it : Addr) (its : List Addr) (items : List MV) (I : Nat → Heap → Prop) (Dep : MHeap → Prop) : Prop where
  mem : it ∈ its
  obj : ∀ k h, I k h → ∀ a ∈ its, ∃ o vs, h.get? a = some o ∧ o.data = .fields vs
  keep : ∀ k h h', I k h → (∀ a ∈ its, ∀ o, h.get? a = some o → h'.get? a = some o) → I k h'
  step : ∀ k s H x, items[k]? = some x → I k s.heap → StH H s.heap → Dep H → wpAny G.M A (pyNext (.ref it)) (StepP its I k x s) noE s
  stop : ∀ s H, I items.length s.heap → StH H s.heap → Dep H → wpAny G.M A (pyNext (.ref it)) (fun r s' => r = none ∧ But its s s') noE s
  self : ∀ s k, I k s.heap → wpAny G.M A (pyIter (.ref it)) (fun v s' => v = .ref it ∧ s' = s) noE s

inductive IterP (G : Gd) (A : Around) (H : MHeap) (s : Shared) (Q : List MV → (MHeap → Prop) → MHeap → Prop) (v : Value) (s₂ : Shared) : Prop
  | mk (it : Addr) (its : List Addr) (items : List MV) (I : Nat → Heap → Prop) (Dep : MHeap → Prop) (H' : MHeap) (e : v = .ref it) (src : Src G A it its items I Dep) (hn : ∀ a ∈ its, s.heap.get? a = none) (h0 : I 0 s₂.heap) (hd : Dep H') (q : Q items Dep H') (S : StH H' s₂.heap) (k : Kp H H' s s₂) : IterP G A H s Q v s₂

abbrev WI := Loc → (List MV → (MHeap → Prop) → MHeap → Prop) → MHeap → Prop
/-- what a for runs over -/
def DI (G : Gd) (fm : Fm) (d : Nat) (iter : Expr) (W : WI) : Prop :=
  ∀ env A s ρ H Q, Room d A → St G fm env H ρ s → W ρ Q H → wpAny G.M A (eval iter env) (fun x s₁ => wpAny G.M A (pyIter x) (fun v s₂ =>
    IterP G A H s Q v s₂) noE s₁) noE s

def loopW (Wb : WS) (i : Nat) (Dep : MHeap → Prop) (Q : MFlow → Loc → MHeap → Prop) : List MV → Loc → MHeap → Prop
  | [], ρ, H => Q .next ρ H
  | x :: r, ρ, H => Wb (ρ.set i x) (fun f ρ' H' => match f with
      | .next => Dep H' ∧ loopW Wb i Dep Q r ρ' H'
      | .cont => Dep H' ∧ loopW Wb i Dep Q r ρ' H'
      | .brk => Q .next ρ' H'
      | .ret v => Q (.ret v) ρ' H') H

section
variable {G : Gd} {fm : Fm} {d : Nat}

theorem src_notOwn {env : Env} {A : Around} {s : Shared} {ρ : Loc} {H : MHeap} {it : Addr} {its : List Addr} {items : List MV} {I : Nat → Heap → Prop} {Dep : MHeap → Prop} {k : Nat} (src : Src G A it its items I Dep) (S : St G fm env H ρ s) (hi : I k s.heap) :
    ∀ a ∈ its, H a = none ∧ ¬ Own fm env a := fun a ha => by
  obtain ⟨o, vs, ho, hd⟩ := src.obj k _ hi a ha
  constructor
  · cases q : H a with
    | none => rfl
    | some xs => obtain ⟨us, n, e, _⟩ := S.hp a xs q; rw [ho] at e; cases e; cases hd
  · intro hown
    rcases hown with z | ⟨x, i, hx, hk, hc⟩
    · obtain ⟨m, o', es, ep, ho', hd', _⟩ := S.ns
      rw [← z, ho] at ho'; cases ho'; rw [hd] at hd'; cases hd'
    · obtain ⟨c, hc', ⟨v, o', ho', hd'⟩, _⟩ := S.cells x i hx hk
      rw [hc] at hc'; cases hc'
      rw [ho] at ho'; cases ho'; rw [hd] at hd'; cases hd'

/-- a step of the iterator leaves the block's state -/
theorem St.but {env : Env} {A : Around} {s s' : Shared} {ρ : Loc} {H : MHeap} {it : Addr} {its : List Addr} {items : List MV} {I : Nat → Heap → Prop} {Dep : MHeap → Prop} {k : Nat} (src : Src G A it its items I Dep) (S : St G fm env H ρ s) (hi : I k s.heap)
    (hG : ∀ a ∈ its, G.h₁.get? a = none) (b : But its s s') : St G fm env H ρ s' := by
  have kt : ∀ c ws, s.heap.get? c = some (tobj ws) → s'.heap.get? c = some (tobj ws) := fun c ws e => by
    refine b.keep c _ (fun hc => ?_) e
    obtain ⟨o, vs, ho, hd⟩ := src.obj k _ hi c hc
    rw [e] at ho; cases ho; cases hd
  have kl : ∀ a, (∀ o vs, s.heap.get? a = some o → o.data = .fields vs → False) → ∀ o, s.heap.get? a = some o → s'.heap.get? a = some o := fun a h o e => b.keep a o (fun ha => by
    obtain ⟨o', vs, ho, hd⟩ := src.obj k _ hi a ha
    exact h o' vs ho hd) e
  have hLk : ∀ o, s.heap.get? env.locals = some o → s'.heap.get? env.locals = some o := fun o e => by
    refine kl _ (fun o' vs ho hd => ?_) o e
    obtain ⟨m, o'', es, ep, ho', hd', _⟩ := S.ns
    rw [ho] at ho'; cases ho'; rw [hd] at hd'; cases hd'
  have hCk : ∀ x i c, (x, i) ∈ fm.vis → env.kindOf x ≠ some .local → env.cells.lookup x = some c → ∀ o, s.heap.get? c = some o → s'.heap.get? c = some o := fun x i c hx hk hc o e => by
    refine kl _ (fun o' vs ho hd => ?_) o e
    obtain ⟨c', hc', ⟨v, o'', ho', hd'⟩, _⟩ := S.cells x i hx hk
    rw [hc] at hc'; cases hc'
    rw [ho] at ho'; cases ho'; rw [hd] at hd'; cases hd'
  refine ⟨S.eo, fun a o e => b.keep a o (fun ha => by rw [hG a ha] at e; cases e) (S.old a o e), S.new, ?_, S.lnew, fun x i hx hk => ?_, fun x i hx mv hr => ?_, fun a xs e => ?_⟩
  · obtain ⟨m, o, es, ep, ho, r⟩ := S.ns
    exact ⟨m, o, es, ep, hLk o ho, r⟩
  · obtain ⟨c, hc, ⟨v, o, ho, hd⟩, hg⟩ := S.cells x i hx hk
    exact ⟨c, hc, ⟨v, o, hCk x i c hx hk hc o ho, hd⟩, hg⟩
  · obtain ⟨v, hb, rv⟩ := S.loc x i hx mv hr
    refine ⟨v, ?_, rv.mono kt⟩
    rcases hb with ⟨hk, m, ⟨o, es, ep, ho, r⟩, hm⟩ | ⟨hk, c, hc, o, ho, hd⟩
    · exact .inl ⟨hk, m, ⟨o, es, ep, hLk o ho, r⟩, hm⟩
    · exact .inr ⟨hk, c, hc, o, hCk x i c hx hk hc o ho, hd⟩
  · obtain ⟨vs, n, ho, r⟩ := S.hp a xs e
    refine ⟨vs, n, kl a (fun o' us ho' hd => ?_) _ ho, r.mono kt⟩
    rw [ho] at ho'; cases ho'; cases hd

/-- steps over objects that are new since s₀ -/
theorem KpS.but {env : Env} {H₀ H : MHeap} {s₀ s s' : Shared} {its : List Addr} (k : KpS fm env H₀ H s₀ s) (hn : ∀ a ∈ its, s₀.heap.get? a = none) (b : But its s s') : KpS fm env H₀ H s₀ s' where
  os := b.os.trans k.os
  gens := b.gens.trans k.gens
  keep := fun a o e n w => b.keep a o (fun ha => by rw [hn a ha] at e; cases e) (k.keep a o e n w)
  dom := k.dom
  live := fun a e => by
    have h := k.live a e
    cases q : s.heap.get? a with
    | none => exact absurd q h
    | some o => rw [b.keep a o (fun ha => e (hn a ha)) q]; exact Option.some_ne_none _

inductive ForJ (G : Gd) (fm : Fm) (env : Env) (H₀ : MHeap) (s₀ : Shared) (items : List MV) (I : Nat → Heap → Prop) (Dep : MHeap → Prop) (W : WS) (i : Nat) (Q : MFlow → Loc → MHeap → Prop) (n : Nat) (s : Shared) : Prop
  | mk (j : Nat) (ρ : Loc) (H : MHeap) (hj : n + j = items.length) (S : St G fm env H ρ s) (k : KpS fm env H₀ H s₀ s) (hi : I j s.heap) (hd : Dep H) (w : loopW W i Dep Q (items.drop j) ρ H) : ForJ G fm env H₀ s₀ items I Dep W i Q n s
theorem for_loop {env : Env} {A : Around} {s₀ s : Shared} {ρ : Loc} {H₀ H : MHeap} {Q : MFlow → Loc → MHeap → Prop} {x : Str} {i : Nat} {p : Pos} {body : List Stmt} {W : WS} {it : Addr} {its : List Addr} {items : List MV} {I : Nat → Heap → Prop} {Dep : MHeap → Prop}
    (rm : Room d A) (src : Src G A it its items I Dep) (hn : ∀ a ∈ its, s₀.heap.get? a = none) (hG : ∀ a ∈ its, G.h₁.get? a = none) (hx : (x, i) ∈ fm.vis) (hB : DB G fm d body W) (S : St G fm env H ρ s) (k : KpS fm env H₀ H s₀ s) (h0 : I 0 s.heap) (hd : Dep H)
    (w : loopW W i Dep Q items ρ H) {Er : Value → Shared → Prop} :
    codeAny G.M A (.forLoop (.Name x p) (.ref it) body [] env) (fun r s' => match r with | .ok f => PS G fm env H₀ s₀ Q f s' | .error e => Er e s') s := by
  refine codeAny_forLoop (ForJ G fm env H₀ s₀ items I Dep W i Q) ?_ items.length ⟨0, ρ, H, by simp, S, k, h0, hd, by simpa using w⟩
  rintro n s ⟨j, ρ, H, hj, S, k, hi, hd, w⟩
  rcases Nat.lt_or_ge j items.length with hlt | hge
  · have hx' : items[j]? = some items[j] := by simp [hlt]
    refine wpAny_mono (src.step j s H _ hx' hi S.hp hd) (fun r s₁ h₁ => ?_) fun _ _ x => x.elim
    obtain ⟨v, rfl, rv, hi₁, b⟩ := h₁
    have S₁ := S.but src hi hG b
    have k₁ := k.but hn b
    refine wpAny_assign_Name (store_ hx S₁ rv fun s₂ S₂ k₂ => ?_)
    have hno := src_notOwn src S₁ hi₁
    have hi₂ : I (j + 1) s₂.heap := src.keep _ _ _ hi₁ fun a ha o e => k₂.keep a o e (hno a ha).1 (hno a ha).2
    rw [List.drop_eq_getElem_cons hlt] at w
    refine wpAny_mono (hB env A s₂ _ H _ rm S₂ w) (fun f s₃ h₃ => ?_) fun _ _ x => x.elim
    obtain ⟨mf, ρ₃, H₃, w₃, fr, S₃, k₃⟩ := h₃
    have hno₂ := src_notOwn src S₂ hi₂
    have hi₃ : I (j + 1) s₃.heap := src.keep _ _ _ hi₂ fun a ha o e => k₃.keep a o e (hno₂ a ha).1 (hno₂ a ha).2
    have K := (k₁.trans k₂).trans k₃
    cases fr with
    | next => exact ⟨n - 1, by lia, j + 1, ρ₃, H₃, by lia, S₃, K, hi₃, w₃.1, w₃.2⟩
    | cont => exact ⟨n - 1, by lia, j + 1, ρ₃, H₃, by lia, S₃, K, hi₃, w₃.1, w₃.2⟩
    | brk => exact ⟨_, ρ₃, H₃, w₃, .next, S₃, K⟩
    | ret r => exact ⟨_, ρ₃, H₃, w₃, .ret r, S₃, K⟩
  · have hj' : j = items.length := by lia
    subst hj'
    refine wpAny_mono (src.stop s H hi S.hp hd) (fun r s₁ h₁ => ?_) fun _ _ x => x.elim
    obtain ⟨rfl, b⟩ := h₁
    rw [List.drop_length] at w
    refine wpAny_execs_nil ?_
    exact ⟨_, ρ, H, w, .next, S.but src hi hG b, k.but hn b⟩

/-- no set display in a for's head -/
def noSet : Expr → Bool
  | .Set .. => false
  | _ => true
theorem folded_noSet {e : Expr} (h : noSet e = true) (env : Env) (x : Value) : foldedSetIterable e env x = pure x := by
  cases e <;> first | rfl | cases h

theorem ds_for {x : Str} {i : Nat} {p pos : Pos} {iter : Expr} {body : List Stmt} {Wi : WI} {W : WS} (hx : (x, i) ∈ fm.vis) (hI : DI G fm d iter Wi) (hB : DB G fm d body W) (hs : noSet iter = true := by rfl) :
    DS G fm d (.For (.Name x p) iter body [] pos) (fun ρ Q H => Wi ρ (fun items Dep H₁ => loopW W i Dep Q items ρ H₁) H) := by
  intro env A s ρ H Q rm S w
  refine wpAny_For (wpAny_mono (hI env A s ρ H _ rm S w) (fun xv s₁ h₁ => wpAny_mono h₁ (fun v s₂ h₂ => ?_) fun _ _ x => x) fun _ _ x => x) (folded_noSet hs env)
  obtain ⟨it, its, items, I, Dep, H₁, rfl, src, hn, h0, hd, w₁, S₁, k₁⟩ := h₂
  refine for_loop rm src hn (fun a ha => ?_) hx hB (S.kp k₁ S₁) k₁.toS h0 hd w₁
  cases q : G.h₁.get? a with
  | none => rfl
  | some o => have := hn a ha; rw [S.old a o q] at this; cases this

def whileW (Wt : WT) (Wb : WS) : WS := fun ρ Q H => ∃ I : Nat → Loc → MHeap → Prop, (∃ n, I n ρ H) ∧ ∀ n ρ H, I n ρ H → Wt ρ (fun b H₁ => if b then Wb ρ (fun f ρ₂ H₂ => match f with
    | .next => ∃ m, m < n ∧ I m ρ₂ H₂
    | .cont => ∃ m, m < n ∧ I m ρ₂ H₂
    | .brk => Q .next ρ₂ H₂
    | .ret v => Q (.ret v) ρ₂ H₂) H₁ else Q .next ρ H₁) H

theorem ds_while {t : Expr} {body : List Stmt} {pos : Pos} {Wt : WT} {W : WS} (ht : DT G fm d t Wt) (hB : DB G fm d body W) : DS G fm d (.While t body [] pos) (whileW Wt W) := by
  intro env A s ρ H Q rm S ⟨J, ⟨n, h0⟩, step⟩
  refine wpAny_While ?_
  refine codeAny_whileLoop (fun n s' => ∃ ρ' H', J n ρ' H' ∧ St G fm env H' ρ' s' ∧ KpS fm env H H' s s') ?_ n ⟨ρ, H, h0, S, KpS.refl fm env H s⟩
  rintro n s₁ ⟨ρ₁, H₁, h₁, S₁, k₁⟩
  refine wpAny_mono (ht env A s₁ ρ₁ H₁ _ rm S₁ (step n ρ₁ H₁ h₁)) (fun b s₂ h₂ => ?_) fun _ _ x => x.elim
  obtain ⟨H₂, w₂, S₂, k₂⟩ := h₂
  have St₂ := S₁.kp k₂ S₂
  have K₂ : KpS fm env H H₂ s s₂ := k₁.trans k₂.toS
  cases b with
  | true =>
    simp only [if_true] at w₂ ⊢
    refine wpAny_mono (hB env A s₂ ρ₁ H₂ _ rm St₂ w₂) (fun f s₃ h₃ => ?_) fun _ _ x => x.elim
    obtain ⟨mf, ρ₃, H₃, w₃, fr, S₃, k₃⟩ := h₃
    have K := K₂.trans k₃
    cases fr with
    | next => obtain ⟨m, hm, hJ⟩ := w₃; exact ⟨m, hm, ρ₃, H₃, hJ, S₃, K⟩
    | cont => obtain ⟨m, hm, hJ⟩ := w₃; exact ⟨m, hm, ρ₃, H₃, hJ, S₃, K⟩
    | brk => exact ⟨_, ρ₃, H₃, w₃, .next, S₃, K⟩
    | ret r => exact ⟨_, ρ₃, H₃, w₃, .ret r, S₃, K⟩
  | false =>
    simp only [Bool.false_eq_true, if_false] at w₂ ⊢
    exact wpAny_execs_nil ⟨_, ρ₁, H₂, w₂, .next, St₂, K₂⟩

theorem But.of_same {it : Addr} {s : Shared} {h' : Heap} {tk : Nat} (hs : Heap.SameBut it s.heap h') : But [it] s { s with heap := h', toks := tk } :=
  ⟨rfl, rfl, fun b o hb e => (hs.2 b (fun z => hb (by rw [z]; exact .head _))).trans e⟩
theorem But.of_ext {it : Addr} {s : Shared} {h' : Heap} {tk : Nat} (hs : Heap.ExtBut it s.heap h') : But [it] s { s with heap := h', toks := tk } :=
  ⟨rfl, rfl, fun b o hb e => hs b o (fun z => hb (by rw [z]; exact .head _)) e⟩

theorem Kp.fresh {H H' : MHeap} {s s' : Shared} (k : Kp H H' s s') {a : Addr} (h : s'.heap.get? a = none) : s.heap.get? a = none := by
  cases q : s.heap.get? a with
  | none => rfl
  | some o => exact absurd h (k.live a (by rw [q]; exact Option.some_ne_none _))
-- over a bytes
def byteItems (l : List UInt8) : List MV := l.map fun c => .int (c.toNat : Int)
theorem src_bytes {A : Around} {it : Addr} {l : List UInt8} {t : Tok} (hh : A.handled = none) : Src G A it [it] (byteItems l) (fun k h => KBw.IsBytesIter h it l.toArray t k) (fun _ => True) where
  mem := .head _
  obj := fun k h ⟨o, ho, _, hd⟩ a ha => by
    rcases List.mem_singleton.mp ha with rfl
    exact ⟨o, _, ho, hd⟩
  keep := fun k h h' ⟨o, ho, hc, hd⟩ hk => ⟨o, hk it (.head _) o ho, hc, hd⟩
  step := fun k s H x hx hi _ _ => by
    unfold byteItems at hx
    rw [List.getElem?_map] at hx
    obtain ⟨c, hc, rfl⟩ := Option.map_eq_some_iff.mp hx
    refine KBw.next_item hi (c := c) (by simpa using hc) fun h' hi' hs => ⟨_, rfl, .int _ _, hi', But.of_same hs⟩
  stop := fun s H hi _ _ => by
    refine KBw.next_end hh hi (by simp [byteItems]) fun h' hs => ⟨rfl, But.of_ext (tk := s.toks) hs⟩
  self := fun s k hi => KBw.pyIter_self hi ⟨rfl, rfl⟩

def wIterBytes : MV → (List MV → (MHeap → Prop) → MHeap → Prop) → MHeap → Prop
  | .bytes l, Q, H => Q (byteItems l) (fun _ => True) H
  | _, _, _ => False
theorem di_bytes {e : Expr} {W : WE} (h : DE G fm d e W) : DI G fm d e (fun ρ Q H => W ρ (fun v H₁ => wIterBytes v Q H₁) H) := by
  intro env A s ρ H Q rm S w
  refine wpAny_mono (h env A s ρ H _ rm S w) (fun v s₁ h₁ => ?_) fun _ _ x => x
  obtain ⟨mv, H₁, w₁, rv, S₁, k₁⟩ := h₁
  cases mv <;> first | exact w₁.elim | skip
  rename_i l
  obtain ⟨t, rfl⟩ := rv.bytes_inv
  have g := Grew.push s₁ { cls := .type "bytes_iterator", data := .fields #[.bytes l.toArray t, .int 0 0] } s₁.toks
  refine KBw.pyIter_bytes ⟨_, _, _, _, _, H₁, rfl, src_bytes (l := l) (t := t) rm.handled, fun a ha => ?_, ⟨_, Heap.get?_push_size _ rfl, rfl, rfl⟩, trivial, w₁, g.sth S₁, k₁.trans (g.kp H₁)⟩
  rcases List.mem_singleton.mp ha with rfl
  exact k₁.fresh (get_new _)

end
end Mine
end
-- part MLoop2
section
open PySem PySem.W PyProof.Rows PySem.SeqAt
set_option maxRecDepth 100000
namespace Mine
section
variable {G : Gd} {fm : Fm} {d : Nat}

-- over a list
theorem src_list {A : Around} {it l : Addr} {xs : List MV} (hh : A.handled = none) : Src G A it [it] xs (fun k h => h.IsListIter it l k) (fun H => H l = some xs) where
  mem := .head _
  obj := fun k h ⟨o, ho, _, hd⟩ a ha => by
    rcases List.mem_singleton.mp ha with rfl
    exact ⟨o, _, ho, hd⟩
  keep := fun k h h' ⟨o, ho, hc, hd⟩ hk => ⟨o, hk it (.head _) o ho, hc, hd⟩
  step := fun k s H x hx hi S hd => by
    obtain ⟨vs, n, hl, rx⟩ := S.isL hd
    obtain ⟨v, hv, rv⟩ := rx.get hx
    refine wpAny_pyNext_list_item hi (lobj_isList hl) (by simpa using hv) fun h' hi' hs => ⟨_, rfl, rv.mono fun a ws e => ?_, hi', But.of_same (tk := s.toks) hs⟩
    have : a ≠ it := fun z => by
      subst z
      obtain ⟨o, ho, _, hdd⟩ := hi
      rw [e] at ho; cases ho; cases hdd
    exact (hs.2 a this).trans e
  stop := fun s H hi S hd => by
    obtain ⟨vs, n, hl, rx⟩ := S.isL hd
    refine wpAny_pyNext_list_end hh hi (lobj_isList hl) (by simp [rx.length]) fun h' hs => ⟨rfl, But.of_ext (tk := s.toks) hs⟩
  self := fun s k hi => wpAny_pyIter_listiter hi ⟨rfl, rfl⟩

def wIterList : MV → (List MV → (MHeap → Prop) → MHeap → Prop) → MHeap → Prop
  | .lst a, Q, H => ∃ xs, H a = some xs ∧ Q xs (fun H' => H' a = some xs) H
  | _, _, _ => False
theorem di_list {e : Expr} {W : WE} (h : DE G fm d e W) : DI G fm d e (fun ρ Q H => W ρ (fun v H₁ => wIterList v Q H₁) H) := by
  intro env A s ρ H Q rm S w
  refine wpAny_mono (h env A s ρ H _ rm S w) (fun v s₁ h₁ => ?_) fun _ _ x => x
  obtain ⟨mv, H₁, w₁, rv, S₁, k₁⟩ := h₁
  cases mv <;> first | exact w₁.elim | skip
  rename_i l
  cases rv.lst_inv
  obtain ⟨xs, hx, q⟩ := w₁
  obtain ⟨vs, n, hl, rx⟩ := S₁.isL hx
  have g := Grew.push s₁ { cls := .type "list_iterator", data := .fields #[.ref l, .int 0 0] } s₁.toks
  refine wpAny_pyIter_list (lobj_isList hl) ⟨_, _, _, _, _, H₁, rfl, src_list (l := l) (xs := xs) rm.handled, fun a ha => ?_, ⟨_, Heap.get?_push_size _ rfl, rfl, rfl⟩, hx, q, g.sth S₁, k₁.trans (g.kp H₁)⟩
  rcases List.mem_singleton.mp ha with rfl
  exact k₁.fresh (get_new _)

-- over a range
/-- n ints from a on, c apart -/
def runItems (a c : Int) (n : Nat) : List MV := (List.range n).map fun k => .int (a + (k : Nat) * c)
theorem src_range {A : Around} {it : Addr} {a c : Int} {n : Nat} (hh : A.handled = none) : Src G A it [it] (runItems a c n) (fun k h => IsRangeIter h it (a + (k : Nat) * c) ((n : Int) - k) c) (fun _ => True) where
  mem := .head _
  obj := fun k h ho x hx => by
    rcases List.mem_singleton.mp hx with rfl
    exact ⟨_, _, ho, rfl⟩
  keep := fun k h h' ho hk => hk it (.head _) _ ho
  step := fun k s H x hx hi _ _ => by
    unfold runItems at hx
    rw [List.getElem?_map] at hx
    obtain ⟨j, hj, rfl⟩ := Option.map_eq_some_iff.mp hx
    have hk : k < n ∧ j = k := by
      rcases Nat.lt_or_ge k n with h | h
      · refine ⟨h, ?_⟩
        rw [List.getElem?_range h] at hj; exact (Option.some.inj hj).symm
      · rw [List.getElem?_eq_none (by simpa using h)] at hj; cases hj
    obtain ⟨hk, rfl⟩ := hk
    refine wpAny_pyNext_range_item hi (by lia) fun h' hi' hs => ⟨_, rfl, .int _ _, ?_, But.of_same hs⟩
    have e1 : a + (j : Nat) * c + c = a + ((j + 1 : Nat) : Int) * c := by rw [Int.natCast_add, Int.add_mul]; lia
    have e2 : (n : Int) - j - 1 = (n : Int) - (j + 1 : Nat) := by lia
    rw [e1, e2] at hi'
    exact hi'
  stop := fun s H hi _ _ => by
    refine wpAny_pyNext_range_end hh hi (by simp [runItems]) fun h' hs => ⟨rfl, But.of_ext (tk := s.toks) hs⟩
  self := fun s k hi => wpAny_pyIter_rangeiter hi ⟨rfl, rfl⟩

theorem ev_callT {x : Str} {T : String} {p pos : Pos} {e : Expr} {r : List Expr} {Wa : WA} {env : Env} {A : Around} {s : Shared} {ρ : Loc} {H : MHeap} {Qa : List MV → MHeap → Prop} {P : Value → Shared → Prop} (hx : x ∈ fm.gls) (hg : GlobIs G x (.type T)) (ha : DA G fm d (e :: r) Wa)
    (hp : plainArgs (e :: r) = true) (rm : Room d A) (S : St G fm env H ρ s) (w : Wa ρ Qa H)
    (h : ∀ vs s₁ ms H₁, Qa ms H₁ → VReps s₁.heap vs ms → StH H₁ s₁.heap → Kp H H₁ s s₁ → wpAny G.M A (call (.type T) vs) P noE s₁) : wpAny G.M A (eval (.Call (.Name x p) (e :: r) [] pos) env) P noE s := by
  refine wpAny_Call_Name_kw (ev_glob hx hg S ?_)
  refine PyProof.Rows.callWith_type (backTo_plain hp env pos) ?_
  rw [starEach_cons hp env]
  refine Calls.evalArgs_plain ?_
  have := ha env A s ρ H _ pos rm S w
  rw [starEach_cons hp env] at this
  refine wpAny_mono this (fun vs s₁ h₁ => ?_) fun _ _ x => x
  obtain ⟨ms, H₁, w₁, vms, S₁, k₁⟩ := h₁
  exact h vs s₁ ms H₁ w₁ vms S₁ k₁
theorem ev_callT1 {x : Str} {T : String} {p pos : Pos} {e : Expr} {env : Env} {A : Around} {s : Shared} {ρ : Loc} {H : MHeap} {P : Value → Shared → Prop} (hx : x ∈ fm.gls) (hg : GlobIs G x (.type T)) (S : St G fm env H ρ s)
    (he : plainArgs [e] = true) (h : wpAny G.M A (eval e env) (fun v s₁ => wpAny G.M A (call (.type T) [v]) P noE s₁) noE s) : wpAny G.M A (eval (.Call (.Name x p) [e] [] pos) env) P noE s := by
  refine wpAny_Call_Name_kw (ev_glob hx hg S ?_)
  rw [starEach_cons he env]
  exact PySem.callWith_type1 h

/-- range(n), range(0, n, 4) -/
def wIterRange : List MV → (List MV → (MHeap → Prop) → MHeap → Prop) → MHeap → Prop
  | [.int n], Q, H => (-1000000 < n ∧ n < 1000000) ∧ Q (runItems 0 1 n.toNat) (fun _ => True) H
  | [.int a, .int b, .int c], Q, H => (a = 0 ∧ c = 4) ∧ (0 ≤ b ∧ b < 1000000) ∧ Q (runItems 0 4 ((b + 3) / 4).toNat) (fun _ => True) H
  | _, _, _ => False

theorem range_di {A : Around} {s s₁ : Shared} {H H₁ : MHeap} {r : Addr} {a b c : Int} {t u v : Tok} {n : Nat} {Q : List MV → (MHeap → Prop) → MHeap → Prop} (hh : A.handled = none) (hr : IsRange s₁.heap r a b c t u v) (hsm : Builtin.Range.small a b c = true) (hn : Builtin.Range.rangeSize a b c = (n : Int))
    (S₁ : StH H₁ s₁.heap) (k₁ : Kp H H₁ s s₁) (q : Q (runItems a c n) (fun _ => True) H₁) : wpAny G.M A (pyIter (.ref r)) (fun v s₂ =>
    IterP G A H s Q v s₂) noE s₁ := by
  have g := Grew.push s₁ { cls := .type "range_iterator", data := .fields #[rawInt a, rawInt (Builtin.Range.rangeSize a b c), rawInt c] } s₁.toks
  refine wpAny_pyIter_range hr hsm ⟨_, _, _, _, _, H₁, rfl, src_range (a := a) (c := c) (n := n) hh, fun x hx => ?_, ?_, trivial, q, g.sth S₁, k₁.trans (g.kp H₁)⟩
  · rcases List.mem_singleton.mp hx with rfl
    exact k₁.fresh (get_new _)
  · show IsRangeIter _ _ (a + ((0 : Nat) : Int) * c) ((n : Int) - ((0 : Nat) : Int)) c
    rw [show a + ((0 : Nat) : Int) * c = a from by simp, show (n : Int) - ((0 : Nat) : Int) = Builtin.Range.rangeSize a b c from by rw [hn]; simp]
    exact Heap.get?_push_size _ rfl

theorem rangeSize_four (b : Int) (h0 : 0 ≤ b) : Builtin.Range.rangeSize 0 b 4 = ((b + 3) / 4) := by
  unfold Builtin.Range.rangeSize
  simp only [show (4 : Int) > 0 by decide, if_true]
  split <;> lia
theorem small_four {b : Int} (h0 : 0 ≤ b) (h1 : b < 1000000) : Builtin.Range.small 0 b 4 = true := by
  unfold Builtin.Range.small
  rw [rangeSize_four b h0]
  simp only [Builtin.Range.rangeFitsLong, Bool.and_eq_true, Bool.or_eq_true, decide_eq_true_eq, beq_iff_eq, show (4 : Int) > 0 by decide, if_true]
  omega

theorem di_range {x : Str} {p pos : Pos} {e : Expr} {r : List Expr} {Wa : WA} (hx : x ∈ fm.gls) (hg : GlobIs G x (.type "range")) (ha : DA G fm d (e :: r) Wa) (hp : plainArgs (e :: r) = true := by rfl) :
    DI G fm d (.Call (.Name x p) (e :: r) [] pos) (fun ρ Q H => Wa ρ (fun vs H₁ => wIterRange vs Q H₁) H) := by
  intro env A s ρ H Q rm S w
  refine ev_callT hx hg ha hp rm S w fun vs s₁ ms H₁ w₁ vms S₁ k₁ => ?_
  unfold wIterRange at w₁
  split at w₁
  · cases vms with
    | cons r1 r0 =>
      cases r0; obtain ⟨t, rfl⟩ := r1.int_inv
      rename_i n
      obtain ⟨hb, q⟩ := w₁
      have g := Grew.push s₁ { cls := .type "range", data := .fields #[.int 0 s₁.toks, .int n t, .int 1 (s₁.toks + 1)] } (s₁.toks + 1 + 1)
      refine call_range_1 (range_di (n := n.toNat) rm.handled (IsRange.new ..) (small_one (by lia) (by lia) (by lia) (by lia)) ?_ (g.sth S₁) (k₁.trans (g.kp H₁)) q)
      rw [rangeSize_one]
      split <;> lia
  · cases vms with
    | cons r1 r0 =>
      cases r0 with
      | cons r2 r0 =>
        cases r0 with
        | cons r3 r0 =>
          cases r0; obtain ⟨t, rfl⟩ := r1.int_inv; obtain ⟨u, rfl⟩ := r2.int_inv; obtain ⟨v, rfl⟩ := r3.int_inv
          rename_i a b c
          obtain ⟨⟨rfl, rfl⟩, hb, q⟩ := w₁
          have g := Grew.push s₁ { cls := .type "range", data := .fields #[.int 0 t, .int b u, .int 4 v] } s₁.toks
          refine call_range_3 (by decide) (range_di (n := ((b + 3) / 4).toNat) rm.handled (IsRange.new ..) (small_four hb.1 hb.2) ?_ (g.sth S₁) (k₁.trans (g.kp H₁)) q) (Or.inl (PyProof.noPylong_small (by decide)))
          rw [rangeSize_four b hb.1]
          lia
  · exact w₁.elim

-- over reversed(range(n))
def revSmall (a b c : Int) : Bool := Builtin.Range.rangeFitsLong a && Builtin.Range.rangeFitsLong b && Builtin.Range.rangeFitsLong c && Builtin.Range.rangeFitsLong (-c) && Builtin.Range.rangeFitsLong (a - c) && Builtin.Range.rangeFitsLong (Builtin.Range.rangeSize a b c)
theorem range_rev_meets (r : Addr) (a b c : Int) (t u v : Tok) (hc0 : ¬ (!revSmall a b c) = true) :
    Meets (Builtin.«range.__reversed__» ⟨[.ref r], []⟩) (fun _ R s => s.heap.get? r = some { cls := .type "range", dict := none, data := .fields #[.int a t, .int b u, .int c v], slots := #[] } ∧
      R (.ok (.ret (Value.ref s.heap.objs.size))) { s with heap := s.heap.push { cls := .type (if revSmall a b c then "range_iterator" else "longrange_iterator"), data := .fields #[rawInt (a + (Builtin.Range.rangeSize a b c - 1) * c), rawInt (Builtin.Range.rangeSize a b c), rawInt (-c)] }, toks := s.toks }) :=
  .of_wp fun prog w A R s h => by
    unfold revSmall at hc0 h
    obtain ⟨hp, g, d, tk, os⟩ := s; obtain ⟨hl, h⟩ := h; wp_walk; exact ⟨_, rfl, h⟩

theorem call_range_reversed {A : Around} {s : Shared} {r : Addr} {n : Int} {t u v : Tok} {Q : Value → Shared → Prop} {E : Value → Shared → Prop} (hr : IsRange s.heap r 0 n 1 t u v) (h0 : 0 ≤ n) (h1 : n < 1000000)
    (h : Q (.ref s.heap.objs.size) { s with heap := s.heap.push { cls := .type "range_iterator", data := .fields #[rawInt (n - 1), rawInt n, rawInt (-1)] } }) : wpAny G.M A (call (.builtin "range.__reversed__") [.ref r]) Q E s := by
  have hsz : Builtin.Range.rangeSize 0 n 1 = n := by rw [rangeSize_one]; split <;> lia
  have hsm : revSmall 0 n 1 = true := by
    unfold revSmall
    rw [hsz]
    simp only [Builtin.Range.rangeFitsLong, Bool.and_eq_true, decide_eq_true_eq]
    lia
  refine call_meets F.slot_range_reversed ⟨_, hr, rfl⟩ F.entry_range_reversed (F.args_range_reversed_1 _) (range_rev_meets r 0 n 1 t u v (by rw [hsm]; decide)) ⟨hr, ?_⟩
  rw [hsm, hsz]
  have e : (0 : Int) + (n - 1) * 1 = n - 1 := by lia
  rw [e]
  exact h

theorem sub_ri_reversed : isSubtype (.type "range_iterator") (.type "reversed") = pure false := by rw [isSubtype_type]; kernel_rfl

theorem code_reversed_range {A : Around} {s : Shared} {r : Addr} {n : Int} {t u v : Tok} {Q₁ : Value → Shared → Prop} {E : Value → Shared → Prop} (hr : IsRange s.heap r 0 n 1 t u v) (h0 : 0 ≤ n) (h1 : n < 1000000)
    (h : Q₁ (.ref s.heap.objs.size) { s with heap := s.heap.push { cls := .type "range_iterator", data := .fields #[rawInt (n - 1), rawInt n, rawInt (-1)] } }) :
    codeAny G.M A (.call (.builtin "reversed.__new__") ⟨[.type "reversed", .ref r], []⟩) (wants Q₁ E) s := by
  refine codeAny_of_tree ?_
  show wpAny _ A.in1 (do checkBuiltinCall "reversed.__new__" ⟨[.type "reversed", .ref r], []⟩; again (.builtin "reversed.__new__" ⟨[.type "reversed", .ref r], []⟩)) _ _ s
  refine wpAny_bind (wpAny_of_eq (F.newCall_reversed_1 _) (wpAny_pure ⟨plainId_quiet F.plain_reversed_new _, codeAny_builtin F.entry_reversed_new ?_⟩))
  rw [Around.under_plainId F.plain_reversed_new _]
  unfold Builtin.«reversed.__new__»
  refine wpAny_bind (wpAny_of_eq (newClass_reversed _) ?_)
  refine wpAny_bind (wpAny_of_eq (a := ()) (by rfl) ?_)
  refine wpAny_bind (wpAny_of_eq (a := ()) (by rfl) ?_)
  refine wpAny_bind (wpAny_specialOf (T := "range") ⟨_, hr, rfl⟩ F.slot_range_reversed.lookup ?_)
  refine wpAny_bind (wpAny_of_eq (F.slot_range_reversed.bind _) ?_)
  show wpAny _ _ (if (Value.builtin "range.__reversed__" == Value.none) = true then _ else _) _ _ _
  rw [if_neg (show ¬ ((Value.builtin "range.__reversed__" == Value.none) = true) from Bool.false_ne_true)]
  refine wpAny_bind (wpAny_rule ?_)
  refine wpAny_bind (m := runValue (.call (.builtin "range.__reversed__") ⟨[.ref r], []⟩)) (show wpAny _ _ (call (.builtin "range.__reversed__") [.ref r]) _ _ _ from call_range_reversed (G := G) hr h0 h1 ?_)
  first
  | exact wpAny_pure h
  | exact wpAny_bind (wpAny_pure (wpAny_pure h))

theorem call_reversed_range {A : Around} {s : Shared} {r : Addr} {n : Int} {t u v : Tok} {Q : Value → Shared → Prop} {E : Value → Shared → Prop} (hr : IsRange s.heap r 0 n 1 t u v) (h0 : 0 ≤ n) (h1 : n < 1000000)
    (h : Q (.ref s.heap.objs.size) { s with heap := s.heap.push { cls := .type "range_iterator", data := .fields #[rawInt (n - 1), rawInt n, rawInt (-1)] } }) : wpAny G.M A (call (.type "reversed") [.ref r]) Q E s := by
  refine callType_other (U := "range_iterator") (Q₁ := fun obj s₁ => obj = .ref s.heap.objs.size ∧ s₁ = { s with heap := s.heap.push { cls := .type "range_iterator", data := .fields #[rawInt (n - 1), rawInt n, rawInt (-1)] } }) (by decide +kernel) F.create_reversed ⟨_, _, F.mro_reversed⟩ F.made_reversed sub_ri_reversed (F.typeCall_reversed_1 _) (code_reversed_range (G := G) hr h0 h1 ⟨rfl, rfl⟩) ?_
  rintro obj s₁ ⟨rfl, rfl⟩
  exact ⟨⟨_, Heap.get?_push_size _ rfl, rfl⟩, h⟩

/-- reversed(range(n)) -/
def wIterRev : List MV → (List MV → (MHeap → Prop) → MHeap → Prop) → MHeap → Prop
  | [.int n], Q, H => (0 ≤ n ∧ n < 1000000) ∧ Q (runItems (n - 1) (-1) n.toNat) (fun _ => True) H
  | _, _, _ => False
theorem di_rev {x y : Str} {p p' pos pos' : Pos} {e : Expr} {Wa : WA} (hx : x ∈ fm.gls) (hg : GlobIs G x (.type "reversed")) (hy : y ∈ fm.gls) (hg' : GlobIs G y (.type "range")) (ha : DA G fm d [e] Wa) (hp : plainArgs [e] = true := by rfl) :
    DI G fm d (.Call (.Name x p) [.Call (.Name y p') [e] [] pos'] [] pos) (fun ρ Q H => Wa ρ (fun vs H₁ => wIterRev vs Q H₁) H) := by
  intro env A s ρ H Q rm S w
  refine ev_callT1 hx hg S rfl (ev_callT hy hg' ha hp rm S w fun vs s₁ ms H₁ w₁ vms S₁ k₁ => ?_)
  cases ms with
  | nil => exact w₁.elim
  | cons m ms =>
  cases m <;> first | exact w₁.elim | skip
  cases ms with
  | cons _ _ => exact w₁.elim
  | nil =>
  · cases vms with
    | cons r1 r0 =>
      cases r0; obtain ⟨t, rfl⟩ := r1.int_inv
      rename_i n
      obtain ⟨hb, q⟩ := w₁
      have g := Grew.push s₁ { cls := .type "range", data := .fields #[.int 0 s₁.toks, .int n t, .int 1 (s₁.toks + 1)] } (s₁.toks + 1 + 1)
      refine call_range_1 (call_reversed_range (IsRange.new ..) hb.1 hb.2 ?_)
      have g2 := g.trans (Grew.push _ { cls := .type "range_iterator", data := .fields #[rawInt (n - 1), rawInt n, rawInt (-1)] } (s₁.toks + 1 + 1))
      refine wpAny_pyIter_rangeiter (x := n - 1) (left := n) (step := -1) (Heap.get?_push_size _ rfl) ⟨_, _, _, _, _, H₁, rfl, src_range (a := n - 1) (c := -1) (n := n.toNat) rm.handled, fun x hx => ?_, ?_, trivial, q, g2.sth S₁, k₁.trans (g2.kp H₁)⟩
      · rcases List.mem_singleton.mp hx with rfl
        exact (k₁.trans (g.kp H₁)).fresh (get_new _)
      · show IsRangeIter _ _ (n - 1 + ((0 : Nat) : Int) * -1) ((n.toNat : Int) - ((0 : Nat) : Int)) (-1)
        rw [show n - 1 + ((0 : Nat) : Int) * -1 = n - 1 from by simp, show (n.toNat : Int) - ((0 : Nat) : Int) = n from by lia]
        exact Heap.get?_push_size _ rfl
end
end Mine
end
-- part MMeth
section
open PySem PySem.W PyProof.Rows PySem.SeqAt
set_option maxRecDepth 100000
namespace Mine

/-- m is of the built-in type T -/
def mtype : String → MV → MHeap → Prop
  | "list", .lst a, H => ∃ xs, H a = some xs
  | "bytes", .bytes _, _ => True
  | _, _, _ => False

section
variable {G : Gd} {fm : Fm} {d : Nat}

theorem mtype_spec {T : String} {m : MV} {H : MHeap} {s : Shared} {v : Value} (h : mtype T m H) (S : StH H s.heap) (r : VRep s.heap v m) : s.TypeIs v T ∧ ∀ a, v = .ref a → ∃ ob, s.heap.get? a = some ob ∧ ob.dict = none := by
  unfold mtype at h
  split at h
  · obtain ⟨xs, hx⟩ := h
    obtain ⟨vs, n, hl, _⟩ := S.isL hx
    cases r.lst_inv
    exact ⟨⟨_, hl, rfl⟩, fun a e => by cases e; exact ⟨_, hl, rfl⟩⟩
  · obtain ⟨t, rfl⟩ := r.bytes_inv
    exact ⟨typeIs_bytes _ _ _, fun a e => by cases e⟩
  · exact h.elim

theorem de_meth {T id : String} {o : Expr} {name : Str} {apos pos : Pos} {e : Expr} {r : List Expr} {Wo : WE} {Wa : WA} {W : List MV → (MV → MHeap → Prop) → MHeap → Prop} (pa : PlainAttrs T) (slot : Slot T name id) (hty : typeOf (.builtin id) = pure (.type "method_descriptor"))
    (ho : DE G fm d o Wo) (ha : DA G fm d (e :: r) Wa) (hc : DCall G d (.builtin id) W) (hbase : ∀ env, attributeBase o name env (eval o env) = eval o env) (hline : (apos.endLine == pos.line) = true) (hp : plainArgs (e :: r) = true) (hlen : (e :: r).length < 29) :
    DE G fm d (.Call (.Attribute o name apos) (e :: r) [] pos) (fun ρ Q H => Wo ρ (fun m H₁ => mtype T m H₁ ∧ Wa ρ (fun vs H₂ => W (m :: vs) Q H₂) H₁) H) := by
  intro env A s ρ H Q rm S w
  refine wpAny_Call_method_late (hbase env) ?_ hline rfl (wpAny_mono (ho env A s ρ H _ rm S w) (fun ov s₁ h₁ => ?_) fun _ _ x => x)
  · have h1 : (backTo pos (starEach (e :: r) env)).all (fun x => !x.1) = true := by
      have := backTo_plain hp env pos
      rw [List.any_eq_false] at this
      rw [List.all_eq_true]
      intro x hx
      have := this x hx
      simpa using this
    rw [h1]
    have hk : (backToKw pos (keywordEach [] env)) = [] := rfl
    rw [hk]
    simp
    simp at hlen
    lia
  · obtain ⟨m, H₁, ⟨hm, w₁⟩, rv, S₁, k₁⟩ := h₁
    have St₁ := S.kp k₁ S₁
    obtain ⟨hT, hd⟩ := mtype_spec hm S₁ rv
    refine ⟨T, id, pa, slot, hty, hT, hd, ?_⟩
    refine Calls.callWith_builtin (backTo_plain hp env pos) ?_
    rw [starEach_cons hp env]
    refine Calls.evalArgs_plain ?_
    have := ha env A s₁ ρ H₁ _ pos rm St₁ w₁
    rw [starEach_cons hp env] at this
    refine wpAny_mono this (fun vs s₂ h₂ => ?_) fun _ _ x => x
    obtain ⟨ms, H₂, w₂, vms, S₂, k₂⟩ := h₂
    have St₂ := St₁.kp k₂ S₂
    exact wpAny_mono (hc A s₂ H₂ Q (ov :: vs) (m :: ms) rm S₂ St₂.new (.cons (rv.kp S₁ k₂) vms) St₂.old w₂) (PE.trans (k₁.trans k₂)) fun _ _ x => x

theorem de_meth0 {T id : String} {o : Expr} {name : Str} {apos pos : Pos} {Wo : WE} {W : List MV → (MV → MHeap → Prop) → MHeap → Prop} (pa : PlainAttrs T) (slot : Slot T name id) (hty : typeOf (.builtin id) = pure (.type "method_descriptor"))
    (ho : DE G fm d o Wo) (hc : DCall G d (.builtin id) W) (hbase : ∀ env, attributeBase o name env (eval o env) = eval o env) (hline : (apos.endLine == pos.line) = true) :
    DE G fm d (.Call (.Attribute o name apos) [] [] pos) (fun ρ Q H => Wo ρ (fun m H₁ => mtype T m H₁ ∧ W [m] Q H₁) H) := by
  intro env A s ρ H Q rm S w
  refine wpAny_Call_method0_late (hbase env) hline (wpAny_mono (ho env A s ρ H _ rm S w) (fun ov s₁ h₁ => ?_) fun _ _ x => x)
  obtain ⟨m, H₁, ⟨hm, w₁⟩, rv, S₁, k₁⟩ := h₁
  have St₁ := S.kp k₁ S₁
  obtain ⟨hT, hd⟩ := mtype_spec hm S₁ rv
  refine ⟨T, id, pa, slot, hty, hT, hd, ?_⟩
  refine Calls.callWith_builtin rfl (PySem.evalArgs_none ?_)
  exact wpAny_mono (hc A s₁ H₁ Q [ov] [m] rm S₁ St₁.new (.cons rv .nil) St₁.old w₁) (PE.trans k₁) fun _ _ x => x

theorem PE.updSeq {H : MHeap} {s : Shared} {Q : MV → MHeap → Prop} {v : Value} {mv : MV} {a : Addr} {us ws : List Value} {xs ys : List MV} {n k : Nat} (S : StH H s.heap) (hx : H a = some xs) (hl : IsL s.heap a us.toArray n) (f : Array Value → Array Value) (e : f us.toArray = ws.toArray)
    (r : VReps s.heap ws ys) (rv : VRep s.heap v mv) (q : Q mv (H.set a ys)) : PE H s Q v { s with heap := s.heap.update a (Obj.mapSeq f), toks := k } := by
  have hu := IsL.update hl f
  rw [e] at hu
  exact PE.upd (s' := { s with heap := s.heap.update a (Obj.mapSeq f), toks := k }) S hx rfl rfl (fun b hb o e => (Heap.get?_update_other _ _ (Ne.symm hb)).trans e) hu r rv q

-- list.append
def wAppend : List MV → (MV → MHeap → Prop) → MHeap → Prop
  | [.lst a, x], Q, H => ∃ xs, H a = some xs ∧ xs.length ≤ 1000000 ∧ Q .none (H.set a (xs ++ [x]))
  | _, _, _ => False
theorem dcall_append : DCall G d (.builtin "list.append") wAppend := by
  intro A s H Q vs ms rm S nw r ho w
  cases ms with
  | nil => exact w.elim
  | cons m ms =>
  cases m <;> first | exact w.elim | skip
  cases ms with
  | nil => exact w.elim
  | cons x ms =>
  cases ms with
  | cons _ _ => exact w.elim
  | nil =>
  · cases r with
    | cons r1 r0 =>
      cases r0 with
      | cons r2 r0 =>
        cases r0; cases r1.lst_inv
        rename_i a v
        obtain ⟨xs, hx, hz, q⟩ := w
        obtain ⟨us, n, hl, rx⟩ := S.isL hx
        have hsz : us.toArray.size ≤ sizeLine := by simp [rx.length, sizeLine_val]; lia
        refine call_meets F.slot_list_append ⟨_, hl, rfl⟩ F.entry_list_append (F.args_list_append_2 _ _) (list_append a us.toArray n v hsz) ⟨hl, ?_⟩
        exact PE.updSeq S hx hl _ (by simp) (rx.append (.cons r2 .nil)) .none q
theorem de_append {o e : Expr} {apos pos : Pos} {Wo We : WE} (ho : DE G fm d o Wo) (he : DE G fm d e We) (hbase : ∀ env, attributeBase o (Str.ofString "append") env (eval o env) = eval o env := by intro _; rfl) (hline : (apos.endLine == pos.line) = true := by rfl) (hp : plainArgs [e] = true := by rfl) :
    DE G fm d (.Call (.Attribute o (Str.ofString "append") apos) [e] [] pos) (fun ρ Q H => Wo ρ (fun m H₁ => mtype "list" m H₁ ∧ We ρ (fun v H₂ => wAppend [m, v] Q H₂) H₁) H) :=
  de_meth F.plainAttrs_list F.slot_list_append F.type_list_append ho (da_cons he da_nil (fun env => starEach_cons hp env)) dcall_append hbase hline hp (by show 1 < 29; decide)

-- list.extend
def wExtend : List MV → (MV → MHeap → Prop) → MHeap → Prop
  | [.lst a, .lst b], Q, H => ∃ xs, H a = some xs ∧ ∃ ys, H b = some ys ∧ a ≠ b ∧ xs.length + ys.length ≤ 1000000 ∧ Q .none (H.set a (xs ++ ys))
  | _, _, _ => False
theorem dcall_extend : DCall G d (.builtin "list.extend") wExtend := by
  intro A s H Q vs ms rm S nw r ho w
  cases ms with
  | nil => exact w.elim
  | cons m ms =>
  cases m <;> first | exact w.elim | skip
  cases ms with
  | nil => exact w.elim
  | cons m ms =>
  cases m <;> first | exact w.elim | skip
  cases ms with
  | cons _ _ => exact w.elim
  | nil =>
  · cases r with
    | cons r1 r0 =>
      cases r0 with
      | cons r2 r0 =>
        cases r0; cases r1.lst_inv; cases r2.lst_inv
        rename_i a b
        obtain ⟨xs, hx, ys, hy, hab, hz, q⟩ := w
        obtain ⟨us, n, hl, rx⟩ := S.isL hx
        obtain ⟨ws, m, hm, ry⟩ := S.isL hy
        have h1 : us.toArray.size ≤ sizeLine := by simp [rx.length, sizeLine_val]; lia
        have h2 : us.toArray.size + ws.toArray.size ≤ sizeLine + 1 := by simp [rx.length, ry.length, sizeLine_val]; lia
        have h3 : ¬(!us.toArray.isEmpty && Builtin.List.listTooLong (us.toArray.size + ws.toArray.size)) = true := by
          have : Builtin.List.listTooLong (us.toArray.size + ws.toArray.size) = false := by simp [Builtin.List.listTooLong, rx.length, ry.length, sizeLine_val]; lia
          rw [this]; simp
        refine call_meets F.slot_list_extend ⟨_, hl, rfl⟩ F.entry_list_extend (F.args_list_extend_2 _ _) (AutoSeq1.list_extend_list_list_0 a us.toArray n b ws.toArray m h3 h1 h2) ⟨hl, hm, ?_⟩
        exact PE.updSeq S hx hl _ (by simp) (rx.append ry) .none q
theorem de_extend {o e : Expr} {apos pos : Pos} {Wo We : WE} (ho : DE G fm d o Wo) (he : DE G fm d e We) (hbase : ∀ env, attributeBase o (Str.ofString "extend") env (eval o env) = eval o env := by intro _; rfl) (hline : (apos.endLine == pos.line) = true := by rfl) (hp : plainArgs [e] = true := by rfl) :
    DE G fm d (.Call (.Attribute o (Str.ofString "extend") apos) [e] [] pos) (fun ρ Q H => Wo ρ (fun m H₁ => mtype "list" m H₁ ∧ We ρ (fun v H₂ => wExtend [m, v] Q H₂) H₁) H) :=
  de_meth F.plainAttrs_list F.slot_list_extend F.type_list_extend ho (da_cons he da_nil (fun env => starEach_cons hp env)) dcall_extend hbase hline hp (by show 1 < 29; decide)

-- list.pop()
def wPop : List MV → (MV → MHeap → Prop) → MHeap → Prop
  | [.lst a], Q, H => ∃ xs x, H a = some (xs ++ [x]) ∧ xs.length ≤ 1000000 ∧ Q x (H.set a xs)
  | _, _, _ => False
theorem VReps.snoc {h : Heap} : ∀ {us : List Value} {xs : List MV} {x : MV}, VReps h us (xs ++ [x]) → ∃ vs v, us = vs ++ [v] ∧ VReps h vs xs ∧ VRep h v x
  | [], [], _, r => nomatch r
  | [], _ :: _, _, r => nomatch r
  | v :: us, [], x, .cons r1 r2 => by cases r2; exact ⟨[], v, rfl, .nil, r1⟩
  | v :: us, y :: xs, x, .cons r1 r2 => by
    obtain ⟨vs, u, rfl, h1, h2⟩ := VReps.snoc r2
    exact ⟨v :: vs, u, rfl, .cons r1 h1, h2⟩
theorem dcall_pop : DCall G d (.builtin "list.pop") wPop := by
  intro A s H Q vs ms rm S nw r ho w
  cases ms with
  | nil => exact w.elim
  | cons m ms =>
  cases m <;> first | exact w.elim | skip
  cases ms with
  | cons _ _ => exact w.elim
  | nil =>
  · cases r with
    | cons r1 r0 =>
      cases r0; cases r1.lst_inv
      rename_i a
      obtain ⟨xs, x, hx, hz, q⟩ := w
      obtain ⟨us, n, hl, rx⟩ := S.isL hx
      obtain ⟨ws, v, rfl, rw', rv⟩ := rx.snoc
      have hsz : (ws ++ [v]).toArray.size ≤ sizeLine := by simp [rw'.length, sizeLine_val]; lia
      have hy : (ws ++ [v]).toArray[(ws ++ [v]).toArray.size - 1]? = some v := by simp
      refine call_meets F.slot_list_pop ⟨_, hl, rfl⟩ F.entry_list_pop (F.args_list_pop_1 _) (MeetsSeq.list_pop_last a _ n v hy hsz) ⟨hl, ?_⟩
      refine PE.updSeq S hx hl _ ?_ rw' rv q
      rw [Array.eraseIdxIfInBounds, dif_pos (by simp)]
      apply Array.ext'
      simp
      rw [List.eraseIdx_append_of_length_le (Nat.le_refl _)]; simp
theorem de_pop {o : Expr} {apos pos : Pos} {Wo : WE} (ho : DE G fm d o Wo) (hbase : ∀ env, attributeBase o (Str.ofString "pop") env (eval o env) = eval o env := by intro _; rfl) (hline : (apos.endLine == pos.line) = true := by rfl) :
    DE G fm d (.Call (.Attribute o (Str.ofString "pop") apos) [] [] pos) (fun ρ Q H => Wo ρ (fun m H₁ => mtype "list" m H₁ ∧ wPop [m] Q H₁) H) :=
  de_meth0 F.plainAttrs_list F.slot_list_pop F.type_list_pop ho dcall_pop hbase hline

-- list.count(x)
def countM (xs : List MV) (x : MV) : Nat := xs.countP fun y => (meq 3 y x).getD false
def wCount : List MV → (MV → MHeap → Prop) → MHeap → Prop
  | [.lst a, x], Q, H => ∃ xs, H a = some xs ∧ (∀ y ∈ xs, (meq 3 y x).isSome = true) ∧ Q (.int (countM xs x)) H
  | _, _, _ => False
open Classical in
/-- the answer of an item, by what it stands for -/
noncomputable def eqOf (h : Heap) (xs : List MV) (x : MV) (y : Value) : Bool := if hh : ∃ m ∈ xs, VRep h y m ∧ meq 3 m x = some true then true else false

theorem meq_det {h : Heap} {y : Value} {m m' x : MV} {v : Value} (r : VRep h y m) (r' : VRep h y m') (rv : VRep h v x) (A : Around) (hu : A.units + 4 < cLine) {b b' : Bool} (e : meq 3 m x = some b) (e' : meq 3 m' x = some b') : b = b' := meq_same 3 r r' e e'

theorem dcall_count : DCall G d (.builtin "list.count") wCount := by
  intro A s H Q vs ms rm S nw r ho w
  cases ms with
  | nil => exact w.elim
  | cons m ms =>
  cases m <;> first | exact w.elim | skip
  cases ms with
  | nil => exact w.elim
  | cons x ms =>
  cases ms with
  | cons _ _ => exact w.elim
  | nil =>
  · cases r with
    | cons r1 r0 =>
      cases r0 with
      | cons r2 r0 =>
        cases r0; cases r1.lst_inv
        rename_i a v
        obtain ⟨xs, hx, hall, q⟩ := w
        obtain ⟨us, n, hl, rx⟩ := S.isL hx
        have hu : A.units + 64 < cLine := rm.cl64
        have get : ∀ j (hj : j < us.length), ∃ m ∈ xs, VRep s.heap us[j] m ∧ (meq 3 m x).isSome = true := fun j hj => by
          have l1 := rx.length
          exact ⟨xs[j], List.getElem_mem _, rx.at j hj (by lia), hall _ (List.getElem_mem _)⟩
        have he : ∀ y, y ∈ us.toArray → EqAt A.in1 s y v (eqOf s.heap xs x y) := fun y hy => by
          obtain ⟨j, hj, rfl⟩ := List.getElem_of_mem (by simpa using hy : y ∈ us)
          obtain ⟨m, hm, rm', hs⟩ := get j hj
          obtain ⟨b, hb⟩ := Option.isSome_iff_exists.mp hs
          have e1 := eqAt_of 3 (A := A.in1) (by show A.units + 1 + 3 < cLine; lia) rm' r2 hb
          have : eqOf s.heap xs x us[j] = b := by
            unfold eqOf
            split
            · rename_i hh
              obtain ⟨m', hm', r', e'⟩ := hh
              exact meq_det r' rm' r2 A (by lia) e' hb
            · rename_i hh
              cases b with
              | false => rfl
              | true => exact absurd ⟨m, hm, rm', hb⟩ hh
          rw [this]; exact e1
        refine call_meets F.slot_list_count ⟨_, hl, rfl⟩ F.entry_list_count (F.args_list_count_2 _ _) (list_countAt a us.toArray n none #[] v (eqOf s.heap xs x)) ⟨hl, he, ?_⟩
        refine PE.now S (Grew.toks s _) ?_ q
        have ec : ∀ (us' : List Value) (xs' : List MV), VReps s.heap us' xs' → (∀ y ∈ xs', y ∈ xs) → us'.countP (eqOf s.heap xs x) = countM xs' x := by
          intro us' xs' r' hin
          induction us' generalizing xs' with
          | nil => cases r'; rfl
          | cons u us' ih =>
            cases r' with
            | cons ru rr =>
              rename_i m ms'
              unfold countM
              rw [List.countP_cons, List.countP_cons]
              have := ih ms' rr fun y hy => hin y (.tail _ hy)
              unfold countM at this
              rw [this]
              obtain ⟨b, hb⟩ := Option.isSome_iff_exists.mp (hall m (hin m (.head _)))
              have e2 : eqOf s.heap xs x u = b := by
                unfold eqOf
                split
                · rename_i hh
                  obtain ⟨m', hm', r'', e'⟩ := hh
                  exact meq_det r'' ru r2 A (by lia) e' hb
                · rename_i hh
                  cases b with
                  | false => rfl
                  | true => exact absurd ⟨m, hin m (.head _), ru, hb⟩ hh
              rw [e2, hb]; rfl
        have := ec us xs rx fun _ h => h
        rw [this]
        exact .int _ _
theorem de_count {o e : Expr} {apos pos : Pos} {Wo We : WE} (ho : DE G fm d o Wo) (he : DE G fm d e We) (hbase : ∀ env, attributeBase o (Str.ofString "count") env (eval o env) = eval o env := by intro _; rfl) (hline : (apos.endLine == pos.line) = true := by rfl) (hp : plainArgs [e] = true := by rfl) :
    DE G fm d (.Call (.Attribute o (Str.ofString "count") apos) [e] [] pos) (fun ρ Q H => Wo ρ (fun m H₁ => mtype "list" m H₁ ∧ We ρ (fun v H₂ => wCount [m, v] Q H₂) H₁) H) :=
  de_meth F.plainAttrs_list F.slot_list_count F.type_list_count ho (da_cons he da_nil (fun env => starEach_cons hp env)) dcall_count hbase hline hp (by show 1 < 29; decide)
end
end Mine
end
-- part MAsg
section
open PySem PySem.W PyProof.Rows PySem.SeqAt
set_option linter.unusedVariables false
set_option maxRecDepth 100000
namespace Mine
section
variable {G : Gd} {fm : Fm} {d : Nat}

/-- an item of a told list is stored -/
def wSetItem : MV → MV → MV → (MHeap → Prop) → MHeap → Prop
  | .lst a, .int i, v, Q, H => ∃ xs, H a = some xs ∧ (0 ≤ i ∧ i < (xs.length : Int) ∧ i < 1000000) ∧ Q (H.set a (xs.set i.toNat v))
  | _, _, _, _, _ => False
theorem setItem_ {A : Around} {s : Shared} {H : MHeap} {o i v : Value} {mo mi mv : MV} {Q : MHeap → Prop} {E : Value → Shared → Prop} (S : StH H s.heap) (ro : VRep s.heap o mo) (ri : VRep s.heap i mi) (rv : VRep s.heap v mv) (w : wSetItem mo mi mv Q H) :
    wpAny G.M A (setItem o i v) (fun _ s' => ∃ H', Q H' ∧ StH H' s'.heap ∧ Kp H H' s s') E s := by
  unfold wSetItem at w
  split at w
  · cases ro.lst_inv; obtain ⟨t, rfl⟩ := ri.int_inv
    rename_i a i
    obtain ⟨xs, hx, hb, q⟩ := w
    obtain ⟨us, n, hl, rx⟩ := S.isL hx
    refine ki_setAt hl hb.1 (by omega) (by simp [rx.length]; omega) ?_
    have := PE.updSeq (Q := fun _ H' => Q H') (v := .none) (mv := .none) (k := s.toks) S hx hl (·.setIfInBounds i.toNat v) (ws := us.set i.toNat v) (by apply Array.ext'; simp) (rx.set rv) .none q
    obtain ⟨_, H', q', _, S', k'⟩ := this
    exact ⟨H', q', S', k'⟩
  · exact w.elim

theorem ds_sset {o i e : Expr} {p pos : Pos} {Wo Wi We : WE} (he : DE G fm d e We) (ho : DE G fm d o Wo) (hi : DE G fm d i Wi) (hc : noComp e = true := by rfl) :
    DS G fm d (.Assign [.Subscript o i p] e pos) (fun ρ Q H => We ρ (fun v H₁ => Wo ρ (fun mo H₂ => Wi ρ (fun mi H₃ => wSetItem mo mi v (fun H₄ => Q .next ρ H₄) H₃) H₂) H₁) H) := by
  intro env A s ρ H Q rm S w
  refine wpAny_Assign_Subscript (wpAny_mono (he env A s ρ H _ rm S w) (fun v s₁ h₁ => ?_) fun _ _ x => x) (swaps_noComp hc _ _ env)
  obtain ⟨mv, H₁, w₁, rv, S₁, k₁⟩ := h₁
  have St₁ := S.kp k₁ S₁
  refine wpAny_mono (ho env A s₁ ρ H₁ _ rm St₁ w₁) (fun ov s₂ h₂ => ?_) fun _ _ x => x
  obtain ⟨mo, H₂, w₂, ro, S₂, k₂⟩ := h₂
  have St₂ := St₁.kp k₂ S₂
  refine wpAny_mono (hi env A s₂ ρ H₂ _ rm St₂ w₂) (fun iv s₃ h₃ => ?_) fun _ _ x => x
  obtain ⟨mi, H₃, w₃, ri, S₃, k₃⟩ := h₃
  have St₃ := St₂.kp k₃ S₃
  refine wpAny_mono (setItem_ S₃ (ro.kp S₂ k₃) ri ((rv.kp S₁ k₂).kp S₂ k₃) w₃) (fun _ s₄ h₄ => ?_) fun _ _ x => x
  obtain ⟨H₄, q, S₄, k₄⟩ := h₄
  exact ⟨_, ρ, H₄, q, .next, St₃.kp k₄ S₄, (((k₁.trans k₂).trans k₃).trans k₄).toS⟩

theorem augStore_plain {i : Expr} (h : plainIdx i = true) (ov iv new : Value) : augStore i ov iv new = (do holding [new, ov, iv] (setItem ov iv new); release [new, ov, iv] []; pure .next) := by
  cases i <;> first | rfl | cases h

/-- getItem of a list at an int -/
theorem getItem_lst {A : Around} {s : Shared} {H : MHeap} {o i : Value} {a : Addr} {k : Int} {xs : List MV} {x : MV} {P : Value → Shared → Prop} {E : Value → Shared → Prop} (S : StH H s.heap) (ro : VRep s.heap o (.lst a)) (ri : VRep s.heap i (.int k)) (hx : H a = some xs) (hb : 0 ≤ k ∧ k < 1000000) (hk : xs[k.toNat]? = some x)
    (h : ∀ v, VRep s.heap v x → P v s) : wpAny G.M A (getItem o i) P E s := by
  cases ro.lst_inv; obtain ⟨t, rfl⟩ := ri.int_inv
  obtain ⟨vs, n, hl, rx⟩ := S.isL hx
  obtain ⟨vx, hvx, rvx⟩ := rx.get hk
  exact wpAny_getItem_list (lobj_isList hl) hb.1 (by lia) (by simpa using hvx) (h _ rvx)

theorem ds_augs {o i e : Expr} {op : Operator} {p pos : Pos} {Wo Wi We : WE} {W : MV → MV → (MV → MHeap → Prop) → MHeap → Prop} (ho : DE G fm d o Wo) (hi : DE G fm d i Wi) (he : DE G fm d e We) (hop : DOp G d (inplaceOp op) W) (hp : plainIdx i = true := by rfl) :
    DS G fm d (.AugAssign (.Subscript o i p) op e pos) (fun ρ Q H => Wo ρ (fun mo H₁ => Wi ρ (fun mi H₂ => ∃ a k xs x, mo = .lst a ∧ mi = .int k ∧ H₂ a = some xs ∧ (0 ≤ k ∧ k < 1000000) ∧ xs[k.toNat]? = some x ∧
      We ρ (fun v H₃ => W x v (fun r H₄ => wSetItem mo mi r (fun H₅ => Q .next ρ H₅) H₄) H₃) H₂) H₁) H) := by
  intro env A s ρ H Q rm S w
  refine wpAny_AugAssign_SubscriptAny (wpAny_mono (ho env A s ρ H _ rm S w) (fun ov s₁ h₁ => ?_) fun _ _ x => x) (augStore_plain hp)
  obtain ⟨mo, H₁, w₁, ro, S₁, k₁⟩ := h₁
  have St₁ := S.kp k₁ S₁
  refine wpAny_mono (hi env A s₁ ρ H₁ _ rm St₁ w₁) (fun iv s₂ h₂ => ?_) fun _ _ x => x
  obtain ⟨mi, H₂, ⟨a, k, xs, x, rfl, rfl, hx, hb, hk, w₂⟩, ri, S₂, k₂⟩ := h₂
  have St₂ := St₁.kp k₂ S₂
  have ro₂ := ro.kp S₁ k₂
  refine getItem_lst S₂ ro₂ ri hx hb hk fun old rold => ?_
  refine wpAny_mono (he env A s₂ ρ H₂ _ rm St₂ w₂) (fun v s₃ h₃ => ?_) fun _ _ x => x
  obtain ⟨mv, H₃, w₃, rv, S₃, k₃⟩ := h₃
  have St₃ := St₂.kp k₃ S₃
  refine wpAny_mono (hop A s₃ H₃ _ old v x mv rm S₃ (rold.kp S₂ k₃) rv St₃.old w₃) (fun new s₄ h₄ => ?_) fun _ _ x => x
  obtain ⟨mr, H₄, w₄, rr, S₄, k₄⟩ := h₄
  have St₄ := St₃.kp k₄ S₄
  refine wpAny_mono (setItem_ S₄ ((ro₂.kp S₂ k₃).kp S₃ k₄) ((ri.kp S₂ k₃).kp S₃ k₄) rr w₄) (fun _ s₅ h₅ => ?_) fun _ _ x => x
  obtain ⟨H₅, q, S₅, k₅⟩ := h₅
  exact ⟨_, ρ, H₅, q, .next, St₄.kp k₅ S₅, ((((k₁.trans k₂).trans k₃).trans k₄).trans k₅).toS⟩

/-- two names out of a pair -/
def wPair : MV → (MV → MV → MHeap → Prop) → MHeap → Prop
  | .tup [x, y], Q, H => Q x y H
  | _, _, _ => False
theorem assign_pair {env : Env} {A : Around} {s : Shared} {ρ : Loc} {H : MHeap} {x y : Str} {i j : Nat} {p1 p2 pos : Pos} {kk : Nat} {v : Value} {m1 m2 : MV} {P : Unit → Shared → Prop} {E : Value → Shared → Prop} (rm : Room d A) (hx : (x, i) ∈ fm.vis) (hy : (y, j) ∈ fm.vis)
    (S : St G fm env H ρ s) (rv : VRep s.heap v (.tup [m1, m2])) (h : ∀ s', St G fm env H ((ρ.set i m1).set j m2) s' → KpS fm env H H s s' → P () s') :
    wpAny G.M A (assign (.Tuple [.Name x p1, .Name y p2] kk pos) env v) P E s := by
  obtain ⟨a, vs, rfl, ha, ra⟩ := rv.tup_inv
  cases ra with
  | cons r1 ra =>
    cases ra with
    | cons r2 ra =>
      cases ra
      rename_i v1 v2
      refine wpAny_assign_Tuple rm.handled (tobj_isTuple ha) rfl rfl fun h' hk => ?_
      have g : Grew s { s with heap := h' } := ⟨rfl, rfl, fun b o e => hk b o (Nat.ne_of_lt (Heap.lt_size e)) e⟩
      have S' := S.kp (g.kp H) (g.sth S.hp)
      show wpAny G.M A (do holding [v2] (assign (.Name x p1) env v1); assignInOrder [assign (.Name y p2) env] [v2]) P E _
      refine wpAny_bind (wpAny_holding (wpAny_assign_Name (store_ hx S' (r1.grew g) fun s₁ S₁ k₁ => ?_)))
      show wpAny G.M A (do holding [] (assign (.Name y p2) env v2); assignInOrder [] []) P E _
      have r2' : VRep s₁.heap v2 m2 := (r2.grew g).mono fun c ws e => k₁.keep c _ e (S'.hp.tup e) (fun hown => by
        rcases hown with z | ⟨x', i', hx', hk', hc'⟩
        · obtain ⟨m, o, es, ep, ho, hd, _⟩ := S'.ns
          rw [← z] at ho; rw [show _ = some (tobj ws) from e] at ho; cases ho; cases hd
        · obtain ⟨c', hcc, ⟨v', o, ho, hd⟩, _⟩ := S'.cells x' i' hx' hk'
          rw [hc'] at hcc; cases hcc
          rw [show _ = some (tobj ws) from e] at ho; cases ho; cases hd)
      refine wpAny_bind (wpAny_holding (wpAny_assign_Name (store_ hy S₁ r2' fun s₂ S₂ k₂ => ?_)))
      exact wpAny_pure (h s₂ S₂ ((g.kp H).toS.trans (k₁.trans k₂)))

/-- no tuple display as the value -/
def noTuple : Expr → Bool
  | .Tuple .. => false
  | _ => true
theorem swapped_noTuple {ts : List Expr} {k : Nat} {p : Pos} {e : Expr} (h : noTuple e = true) (env : Env) : swappedStores [.Tuple ts k p] e env = pure none := by
  cases e <;> first | rfl | cases h
theorem ds_asg2 {x y : Str} {i j : Nat} {e : Expr} {p1 p2 tp pos : Pos} {kk : Nat} {We : WE} (hx : (x, i) ∈ fm.vis) (hy : (y, j) ∈ fm.vis) (he : DE G fm d e We) (hc : noComp e = true := by rfl) (ht : noTuple e = true := by rfl) :
    DS G fm d (.Assign [.Tuple [.Name x p1, .Name y p2] kk tp] e pos) (fun ρ Q H => We ρ (fun v H₁ => wPair v (fun a b H₂ => Q .next ((ρ.set i a).set j b) H₂) H₁) H) := by
  intro env A s ρ H Q rm S w
  refine Assign_Tuple (wpAny_mono (he env A s ρ H _ rm S w) (fun v s₁ h₁ => ?_) fun _ _ x => x) (by unfold swapsWithSole; exact swaps_noComp hc _ _ env) (swapped_noTuple ht env)
  obtain ⟨mv, H₁, w₁, rv, S₁, k₁⟩ := h₁
  cases mv <;> first | exact w₁.elim | skip
  rename_i l
  match l, w₁, rv with
  | [], w₁, _ => exact w₁.elim
  | [_], w₁, _ => exact w₁.elim
  | _ :: _ :: _ :: _, w₁, _ => exact w₁.elim
  | [a, b], w₁, rv => exact assign_pair rm hx hy (S.kp k₁ S₁) rv fun s₂ S₂ k₂ => ⟨_, _, H₁, w₁, .next, S₂, k₁.toS.trans k₂⟩

-- slices
/-- a list that the call does not change -/
def RO (G : Gd) (a : Addr) (xs : List MV) : Prop := ∃ vs, G.h₁.IsList a vs.toArray ∧ VReps G.h₁ vs xs
def wSlice (G : Gd) (f : List MV → List MV) : MV → (MV → MHeap → Prop) → MHeap → Prop
  | .lst a, Q, H => ∃ xs, H a = some xs ∧ xs.length ≤ 1000000 ∧ ∀ c, H c = none → Q (.lst c) (H.set c (f xs))
  | .raw (.ref a), Q, H => ∃ xs, RO G a xs ∧ xs.length ≤ 1000000 ∧ ∀ c, H c = none → Q (.lst c) (H.set c (f xs))
  | _, _, _ => False

theorem slice_fin {A : Around} {s : Shared} {H : MHeap} {o vl vu : Value} {mo : MV} {lo hi : Option Int} {f : List MV → List MV} {g : List Value → List Value} {Q : MV → MHeap → Prop} {value : Expr} {lower upper : Option Expr} {p : Pos} (S : StH H s.heap) (old : Old G s) (ro : VRep s.heap o mo) (pl : IsPart vl lo) (pu : IsPart vu hi)
    (hg : ∀ vs : List Value, slicePick vs.toArray lo hi none = (g vs).toArray) (hf : ∀ h vs xs, VReps h vs xs → VReps h (g vs) (f xs)) (w : wSlice G f mo Q H) :
    wpAny G.M A (subscriptTail value (.Slice lower upper none p) o (.ref s.heap.objs.size)) (PE H s Q) noE { s with heap := s.heap.push { cls := .type "slice", data := .fields #[vl, vu, .none] } } := by
  have main : ∀ (a : Addr) (vs : List Value) (xs : List MV), o = .ref a → s.heap.IsList a vs.toArray → VReps s.heap vs xs → xs.length ≤ 1000000 → (∀ c, H c = none → Q (.lst c) (H.set c (f xs))) →
      wpAny G.M A (subscriptTail value (.Slice lower upper none p) o (.ref s.heap.objs.size)) (PE H s Q) noE { s with heap := s.heap.push { cls := .type "slice", data := .fields #[vl, vu, .none] } } := by
    intro a vs xs ho hl rx hz q
    subst ho
    have hl' := hl.push { cls := .type "slice", data := .fields #[vl, vu, .none] }
    refine tail_any (s := { s with heap := s.heap.push { cls := .type "slice", data := .fields #[vl, vu, .none] } }) hl'.typeIs slot_list_getitem.lookup (wpAny_getItem_list_slice hl' (Heap.IsSliceOf.new ..) pl pu .none (by simp) ?_ (by simp [rx.length, sizeLine_val]; lia)) (by first | rfl | (cases lower <;> cases upper <;> rfl))
    have g1 := Grew.push s { cls := .type "slice", data := .fields #[vl, vu, .none] } s.toks
    have g2 := g1.trans (Grew.push _ { cls := .type "list", data := .seq (slicePick vs.toArray lo hi none) } s.toks)
    refine PE.newList (vs := g vs) (n := 0) S g2 ?_ ?_ (hf _ _ _ rx) q
    · rw [lobj, ← hg vs]
      exact Heap.get?_push_size _ rfl
    · exact (g1.kp H).fresh (get_new _)
  unfold wSlice at w
  split at w
  · obtain ⟨xs, hx, hz, q⟩ := w
    obtain ⟨vs, n, hl, rx⟩ := S.isL hx
    exact main _ vs xs ro.lst_inv (lobj_isList hl) rx hz q
  · obtain ⟨xs, ⟨vs, hl, rx⟩, hz, q⟩ := w
    obtain ⟨ob, h1, h2, h3⟩ := hl
    exact main _ vs xs ro.raw_inv ⟨ob, old _ _ h1, h2, h3⟩ (rx.mono fun a _ e => old _ _ e) hz q
  · exact w.elim

theorem de_sliceAll {v : Expr} {p pos : Pos} {Wv : WE} (hv : DE G fm d v Wv) : DE G fm d (.Subscript v (.Slice none none none p) pos) (fun ρ Q H => Wv ρ (fun m H₁ => wSlice G id m Q H₁) H) := by
  intro env A s ρ H Q rm S w
  refine Subscript_ (wpAny_mono (hv env A s ρ H _ rm S w) (fun o s₁ h₁ => ?_) fun _ _ x => x)
  obtain ⟨mo, H₁, w₁, ro, S₁, k₁⟩ := h₁
  refine wpAny_Slice ?_
  rw [evalPart_none]
  refine wpAny_pure (wpAny_pure (wpAny_pure ?_))
  exact wpAny_mono (slice_fin (g := id) S₁ (S.kp k₁ S₁).old ro .none .none (fun vs => slicePick_all _) (fun _ _ _ r => r) w₁) (PE.trans k₁) fun _ _ x => x

theorem de_sliceTo {v e : Expr} {p pos : Pos} {Wv We : WE} (hv : DE G fm d v Wv) (he : DE G fm d e We) :
    DE G fm d (.Subscript v (.Slice none (some e) none p) pos) (fun ρ Q H => Wv ρ (fun m H₁ => We ρ (fun k H₂ => ∃ n : Nat, k = .int n ∧ wSlice G (List.take n) m Q H₂) H₁) H) := by
  intro env A s ρ H Q rm S w
  refine Subscript_ (wpAny_mono (hv env A s ρ H _ rm S w) (fun o s₁ h₁ => ?_) fun _ _ x => x)
  obtain ⟨mo, H₁, w₁, ro, S₁, k₁⟩ := h₁
  have St₁ := S.kp k₁ S₁
  refine wpAny_Slice ?_
  rw [evalPart_none, evalPart_some]
  refine wpAny_pure (wpAny_mono (he env A s₁ ρ H₁ _ rm St₁ w₁) (fun u s₂ h₂ => ?_) fun _ _ x => x)
  obtain ⟨mu, H₂, ⟨n, rfl, w₂⟩, ru, S₂, k₂⟩ := h₂
  obtain ⟨t, rfl⟩ := ru.int_inv
  refine wpAny_pure ?_
  exact wpAny_mono (slice_fin (g := List.take n) S₂ (St₁.kp k₂ S₂).old (ro.kp S₁ k₂) .none (.int n t) (fun vs => by rw [slicePick_upto']) (fun _ _ _ r => r.take n) w₂) (PE.trans (k₁.trans k₂)) fun _ _ x => x

theorem de_sliceRun {v e e' : Expr} {p pos : Pos} {Wv We We' : WE} (hv : DE G fm d v Wv) (he : DE G fm d e We) (he' : DE G fm d e' We') :
    DE G fm d (.Subscript v (.Slice (some e) (some e') none p) pos) (fun ρ Q H => Wv ρ (fun m H₁ => We ρ (fun k H₂ => We' ρ (fun k' H₃ => ∃ n n' : Nat, k = .int n ∧ k' = .int n' ∧ wSlice G (fun xs => (xs.take n').drop n) m Q H₃) H₂) H₁) H) := by
  intro env A s ρ H Q rm S w
  refine Subscript_ (wpAny_mono (hv env A s ρ H _ rm S w) (fun o s₁ h₁ => ?_) fun _ _ x => x)
  obtain ⟨mo, H₁, w₁, ro, S₁, k₁⟩ := h₁
  have St₁ := S.kp k₁ S₁
  refine wpAny_Slice ?_
  rw [evalPart_none, evalPart_some, evalPart_some]
  refine wpAny_mono (he env A s₁ ρ H₁ _ rm St₁ w₁) (fun l s₂ h₂ => ?_) fun _ _ x => x
  obtain ⟨ml, H₂, w₂, rl, S₂, k₂⟩ := h₂
  have St₂ := St₁.kp k₂ S₂
  refine wpAny_mono (he' env A s₂ ρ H₂ _ rm St₂ w₂) (fun u s₃ h₃ => ?_) fun _ _ x => x
  obtain ⟨mu, H₃, ⟨n, n', rfl, rfl, w₃⟩, ru, S₃, k₃⟩ := h₃
  obtain ⟨t, rfl⟩ := rl.int_inv
  obtain ⟨t', rfl⟩ := ru.int_inv
  refine wpAny_pure ?_
  refine wpAny_mono (slice_fin (g := fun xs => (xs.take n').drop n) S₃ (St₂.kp k₃ S₃).old ((ro.kp S₁ k₂).kp S₂ k₃) (.int n t) (.int n' t') (fun vs => ?_) (fun _ _ _ r => (r.take n').drop n) w₃) (PE.trans ((k₁.trans k₂).trans k₃)) fun _ _ x => x
  rw [slicePick_plain]
  simp only [Option.elim, clipAt_nat, List.size_toArray]
  congr 1
  rw [List.drop_take]
  apply List.ext_getElem?
  intro i
  simp only [List.getElem?_take, List.getElem?_drop]
  by_cases h1 : i < min n' vs.length - min n vs.length <;> by_cases h2 : i < n' - n
  · rw [if_pos h1, if_pos h2]
    have : min n vs.length = n := by omega
    rw [this]
  · omega
  · rw [if_neg h1, if_pos h2, List.getElem?_eq_none (by omega)]
  · rw [if_neg h1, if_neg h2]

/-- the tail of a tuple -/
def wTail : MV → (MV → MHeap → Prop) → MHeap → Prop
  | .tup (x :: xs), Q, H => xs.length ≤ 1000 ∧ Q (.tup xs) H
  | _, _, _ => False
theorem de_tail {v : Expr} {kk : Nat} {p q pos : Pos} {Wv : WE} (hv : DE G fm d v Wv) : DE G fm d (.Subscript v (.Slice (some (.Constant (.int 1) kk q)) none none p) pos) (fun ρ Q H => Wv ρ (fun m H₁ => wTail m Q H₁) H) := by
  intro env A s ρ H Q rm S w
  refine Subscript_ (wpAny_mono (hv env A s ρ H _ rm S w) (fun o s₁ h₁ => ?_) fun _ _ x => x)
  obtain ⟨mo, H₁, w₁, ro, S₁, k₁⟩ := h₁
  cases mo <;> first | exact w₁.elim | skip
  rename_i l
  cases l with
  | nil => exact w₁.elim
  | cons x xs =>
    obtain ⟨a, vs, rfl, ha, ra⟩ := ro.tup_inv
    cases ra with
    | @cons v0 _ vs _ r1 r2 =>
      refine wpAny_Slice ?_
      rw [evalPart_none, evalPart_some]
      refine wpAny_Constant_int (wpAny_pure (wpAny_pure ?_))
      have g1 := (Grew.toks s₁ (s₁.toks + 1)).trans (Grew.push { s₁ with toks := s₁.toks + 1 } { cls := .type "slice", data := .fields #[.int 1 s₁.toks, .none, .none] } (s₁.toks + 1))
      have ht : IsTup (s₁.heap.push { cls := .type "slice", data := .fields #[.int 1 s₁.toks, .none, .none] }) a (v0 :: vs).toArray := ⟨_, Heap.get?_push_of_some _ ha, rfl, 0, rfl⟩
      refine tail_any (s := { s₁ with heap := s₁.heap.push { cls := .type "slice", data := .fields #[.int 1 s₁.toks, .none, .none] }, toks := s₁.toks + 1 }) ht.typeIs slot_tuple_getitem.lookup
        (getItem_tuple_from (a := 1) (u := s₁.toks) ht (Heap.IsSliceOf.new ..) (by decide) (by simp) ?_ (by have := w₁.1; simp [r2.length, sizeLine_val]; lia)) rfl
      have g2 := g1.trans (Grew.push _ (tobj vs) (s₁.toks + 1))
      refine ⟨.tup xs, H₁, w₁.2, .tup (vs := vs) ?_ (r2.grew g2), g2.sth S₁, k₁.trans (g2.kp H₁)⟩
      exact Heap.get?_push_size _ rfl
end
end Mine
end
-- part MComp
section
open PySem PySem.W PyProof.Rows PySem.SeqAt
set_option maxRecDepth 100000
namespace Mine

structure KpL (L : Addr) (s s' : Shared) : Prop where
  os : s'.os = s.os
  gens : s'.gens = s.gens
  keep : ∀ b o, b ≠ L → s.heap.get? b = some o → s'.heap.get? b = some o

/-- what a comprehension's target binds -/
def AsgL (G : Gd) (fm : Fm) (d : Nat) (target : Expr) (own : List (Str × Nat)) (f : Loc → MV → Option Loc) : Prop :=
  ∀ env A s ρ ρ' H v x, Room d A → St G fm env H ρ s → (∀ p ∈ own, env.kindOf p.1 = some .local) → VRep s.heap v x → f ρ x = some ρ' →
    wpAny G.M A (assign target env v) (fun _ s' => St G fm env H ρ' s' ∧ KpL env.locals s s') noE s

def bind1 (i : Nat) : Loc → MV → Option Loc := fun ρ x => some (ρ.set i x)
def bind2 (i j : Nat) : Loc → MV → Option Loc := fun ρ x => match x with
  | .tup [a, b] => some ((ρ.set i a).set j b)
  | _ => none

/-- a source, with what is done with a pair before it is bound -/
structure SrcT (G : Gd) (A : Around) (target : Expr) (it : Addr) (its : List Addr) (items : List MV) (I : Nat → Heap → Prop) (Dep : MHeap → Prop) : Prop where
  obj : ∀ k h, I k h → ∀ a ∈ its, ∃ o vs, h.get? a = some o ∧ o.data = .fields vs
  keep : ∀ k h h', I k h → (∀ a ∈ its, ∀ o, h.get? a = some o → h'.get? a = some o) → I k h'
  step : ∀ k s H x, items[k]? = some x → I k s.heap → StH H s.heap → Dep H → wpAny G.M A (pyNext (.ref it)) (fun r s₁ => ∃ v, r = some v ∧
    wpAny G.M A (letOwnedTupleGo target (.ref it) v) (fun _ s' => VRep s'.heap v x ∧ I (k + 1) s'.heap ∧ But its s s') noE s₁) noE s
  stop : ∀ s H, I items.length s.heap → StH H s.heap → Dep H → wpAny G.M A (pyNext (.ref it)) (fun r s' => r = none ∧ But its s s') noE s
  self : ∀ s k, I k s.heap → wpAny G.M A (pyIter (.ref it)) (fun v s' => v = .ref it ∧ s' = s) noE s

inductive IterT (G : Gd) (A : Around) (target : Expr) (H : MHeap) (s : Shared) (Q : List MV → (MHeap → Prop) → MHeap → Prop) (v : Value) (s₂ : Shared) : Prop
  | mk (it : Addr) (its : List Addr) (items : List MV) (I : Nat → Heap → Prop) (Dep : MHeap → Prop) (H' : MHeap) (e : v = .ref it) (src : SrcT G A target it its items I Dep) (hn : ∀ a ∈ its, s.heap.get? a = none) (h0 : I 0 s₂.heap) (hd : Dep H') (q : Q items Dep H') (S : StH H' s₂.heap) (k : Kp H H' s s₂) : IterT G A target H s Q v s₂

def DIT (G : Gd) (fm : Fm) (d : Nat) (target iter : Expr) (W : WI) : Prop :=
  ∀ env A s ρ H Q, Room d A → St G fm env H ρ s → W ρ Q H → wpAny G.M A (eval iter env) (fun x s₁ => wpAny G.M A (pyIter x) (fun v s₂ =>
    IterT G A target H s Q v s₂) noE s₁) noE s

/-- the tests of a comprehension -/
def DTs (G : Gd) (fm : Fm) (d : Nat) (ifs : List Expr) (W : WT) : Prop :=
  ∀ env A s ρ H Q, Room d A → St G fm env H ρ s → W ρ Q H → wpAny G.M A (forIn ifs true fun c r => if r = true then do let ok ← isTrue c env (eval c env); pure (ForInStep.yield ok) else pure (ForInStep.yield r)) (PT H s Q) noE s

def Loc.clear (ρ : Loc) (own : List (Str × Nat)) : Loc := fun j => if (own.any fun p => p.2 == j) then none else ρ j

def compW (Wt : WT) (We : WE) (f : Loc → MV → Option Loc) (Dep : MHeap → Prop) (acc : Addr) (Q : MHeap → Prop) : List MV → Loc → MHeap → Prop
  | [], _, H => Q H
  | x :: r, ρ, H => ∃ ρ', f ρ x = some ρ' ∧ Wt ρ' (fun b H₁ => if b then We ρ' (fun v H₂ => ∃ ys, H₂ acc = some ys ∧ ys.length ≤ 1000000 ∧ Dep (H₂.set acc (ys ++ [v])) ∧ compW Wt We f Dep acc Q r ρ' (H₂.set acc (ys ++ [v]))) H₁
      else Dep H₁ ∧ compW Wt We f Dep acc Q r ρ' H₁) H

def closFrom (cells : List (Str × Addr)) : List (Str × NameKind) → List (Str × Addr) → List (Str × Addr)
  | [], acc => acc
  | (n, k) :: r, acc => closFrom cells r (if k == .free then (n, (cells.lookup n).getD 0) :: acc else acc)

/-- the names of a comprehension, looked at once -/
def compOk (sc : Scope) (fm fmC : Fm) (own : List (Str × Nat)) : Bool :=
  sc.kind == .function && fmC.cel.isEmpty &&
  (sc.names.all fun p => p.2 != .cell) &&
  (sc.names.all fun p => p.2 != .local || sc.names.lookup p.1 == some .local) &&
  (sc.names.all fun p => p.2 != .free || (sc.names.lookup p.1 == some .free && fm.cel.contains p.1 && fm.vis.any fun q => q.1 == p.1)) &&
  (fmC.vis.all fun p => !(p.1 == ("__debug__" : Str)) && ((own.contains p && sc.names.lookup p.1 == some .local) || (!own.contains p && fm.vis.contains p && sc.names.lookup p.1 == some .free))) &&
  (own.all fun p => sc.names.lookup p.1 == some .local && fmC.vis.contains p) &&
  (fmC.gls.all fun x => !(x == ("__debug__" : Str)) && sc.names.lookup x == some .globalImplicit) &&
  (fmC.vis.all fun p => fmC.vis.all fun q => (p.1 == q.1) == (p.2 == q.2))

section
variable {G : Gd} {fm : Fm} {d : Nat}

theorem asg_name {x : Str} {i : Nat} {p : Pos} (hx : (x, i) ∈ fm.vis) : AsgL G fm d (.Name x p) [(x, i)] (bind1 i) := by
  intro env A s ρ ρ' H v m rm S hl rv hf
  cases hf
  refine wpAny_assign_Name (store_l hx S rv fun s' S' k' hk => ⟨S', k'.os, k'.gens, hk (hl _ (.head _))⟩)

theorem asg_pair {x y : Str} {i j : Nat} {p1 p2 pos : Pos} {kk : Nat} (hx : (x, i) ∈ fm.vis) (hy : (y, j) ∈ fm.vis) : AsgL G fm d (.Tuple [.Name x p1, .Name y p2] kk pos) [(x, i), (y, j)] (bind2 i j) := by
  intro env A s ρ ρ' H v m rm S hl rv hf
  have hlx := hl (x, i) (.head _)
  have hly := hl (y, j) (.tail _ (.head _))
  unfold bind2 at hf
  split at hf
  · cases hf
    rename_i m1 m2
    obtain ⟨a, vs, rfl, ha, ra⟩ := rv.tup_inv
    cases ra with
    | cons r1 ra =>
      cases ra with
      | cons r2 ra =>
        cases ra
        rename_i v1 v2
        refine wpAny_assign_Tuple rm.handled (tobj_isTuple ha) rfl rfl fun h' hk => ?_
        have g : Grew s { s with heap := h' } := ⟨rfl, rfl, fun b o e => hk b o (Nat.ne_of_lt (Heap.lt_size e)) e⟩
        have S' := S.kp (g.kp H) (g.sth S.hp)
        show wpAny G.M A (do holding [v2] (assign (.Name x p1) env v1); assignInOrder [assign (.Name y p2) env] [v2]) _ _ _
        refine wpAny_bind (wpAny_holding (wpAny_assign_Name (store_l hx S' (r1.grew g) fun s₁ S₁ k₁ h₁ => ?_)))
        show wpAny G.M A (do holding [] (assign (.Name y p2) env v2); assignInOrder [] []) _ _ _
        have r2' : VRep s₁.heap v2 m2 := (r2.grew g).mono fun c ws e => h₁ hlx c _ (fun z => by
          obtain ⟨m, o, es, ep, ho, hd, _⟩ := S'.ns
          rw [← z] at ho; rw [show _ = some (tobj ws) from e] at ho; cases ho; cases hd) e
        refine wpAny_bind (wpAny_holding (wpAny_assign_Name (store_l hy S₁ r2' fun s₂ S₂ k₂ h₂ => ?_)))
        exact wpAny_pure ⟨S₂, k₂.os.trans k₁.os, k₂.gens.trans k₁.gens, fun b o hb e => h₂ hly b o hb (h₁ hlx b o hb (g.2.2 b o e))⟩
  · cases hf

theorem dts_nil : DTs G fm d [] (fun _ Q H => Q true H) := fun _ _ s _ H _ _ S w => wpAny_tests_nil ⟨H, w, S.hp, Kp.refl H s⟩
theorem dts_one {c : Expr} {W : WT} (h : DT G fm d c W) : DTs G fm d [c] W := fun env A s ρ H Q rm S w => wpAny_tests_one (h env A s ρ H Q rm S w)

theorem Src.toT {A : Around} {it : Addr} {its : List Addr} {items : List MV} {I : Nat → Heap → Prop} {Dep : MHeap → Prop} {x : Str} {p : Pos} (src : Src G A it its items I Dep) : SrcT G A (.Name x p) it its items I Dep where
  obj := src.obj
  keep := src.keep
  step := fun k s H m hm hi S hd => wpAny_mono (src.step k s H m hm hi S hd) (fun r s₁ ⟨v, e, h1, h2, h3⟩ => ⟨v, e, wpAny_pure ⟨h1, h2, h3⟩⟩) fun _ _ x => x
  stop := src.stop
  self := src.self
theorem dit_name {x : Str} {p : Pos} {iter : Expr} {W : WI} (h : DI G fm d iter W) : DIT G fm d (.Name x p) iter W := by
  intro env A s ρ H Q rm S w
  refine wpAny_mono (h env A s ρ H Q rm S w) (fun xv s₁ h₁ => wpAny_mono h₁ (fun v s₂ h₂ => ?_) fun _ _ x => x) fun _ _ x => x
  obtain ⟨it, its, items, I, Dep, H', e, src, a, b, c, d, x, y⟩ := h₂
  exact ⟨it, its, items, I, Dep, H', e, src.toT, a, b, c, d, x, y⟩

-- the closure
theorem closFrom_mem {cells : List (Str × Addr)} : ∀ {names : List (Str × NameKind)} {acc : List (Str × Addr)} {p : Str × Addr}, p ∈ closFrom cells names acc → p ∈ acc ∨ ∃ k, (p.1, k) ∈ names ∧ k = .free ∧ p.2 = (cells.lookup p.1).getD 0
  | [], _, _, h => .inl h
  | (n, k) :: r, acc, p, h => by
    rcases closFrom_mem (names := r) h with h' | ⟨k', h1, h2⟩
    · split at h'
      · rename_i hk
        rcases List.mem_cons.mp h' with rfl | h''
        · exact .inr ⟨k, .head _, by simpa using hk, rfl⟩
        · exact .inl h''
      · exact .inl h'
    · exact .inr ⟨k', .tail _ h1, h2⟩
theorem closFrom_acc {cells : List (Str × Addr)} : ∀ {names : List (Str × NameKind)} {acc : List (Str × Addr)} {p : Str × Addr}, p ∈ acc → p ∈ closFrom cells names acc
  | [], _, _, h => h
  | (n, k) :: r, acc, p, h => by
    refine closFrom_acc (names := r) ?_
    split
    · exact .tail _ h
    · exact h
theorem closFrom_has {cells : List (Str × Addr)} : ∀ {names : List (Str × NameKind)} {acc : List (Str × Addr)} {x : Str}, (x, NameKind.free) ∈ names → (x, (cells.lookup x).getD 0) ∈ closFrom cells names acc
  | (n, k) :: r, acc, x, h => by
    rcases List.mem_cons.mp h with e | h'
    · cases e
      exact closFrom_acc (names := r) (by simp)
    · exact closFrom_has (names := r) h'
theorem closureFor_eq {sc : Scope} {env : Env} (h : ∀ p ∈ sc.names, p.2 = .free → ∃ c, env.cells.lookup p.1 = some c) : closureFor sc env = pure (closFrom env.cells sc.names []) := by
  unfold closureFor
  have key : ∀ (names : List (Str × NameKind)) (acc : List (Str × Addr)), (∀ p ∈ names, p.2 = .free → ∃ c, env.cells.lookup p.1 = some c) →
      (forIn names acc fun x r => (match x with | (name, kind) => if (kind == NameKind.free) = true then do let y ← cellOf env name; pure (ForInStep.yield ((name, y) :: r)) else pure (ForInStep.yield r) : Sem (ForInStep (List (Str × Addr))))) = pure (closFrom env.cells names acc) := by
    intro names
    induction names with
    | nil => intro acc _; rfl
    | cons p r ih =>
      intro acc hp
      obtain ⟨n, k⟩ := p
      rw [List.forIn_cons]
      have ih' := fun a => ih a fun q hq => hp q (.tail _ hq)
      by_cases hk : (k == NameKind.free) = true
      · obtain ⟨c, hc⟩ := hp (n, k) (.head _) (by simpa using hk)
        replace hc : List.lookup n env.cells = some c := hc
        simp only [hk, if_true]
        have e1 : cellOf env n = pure c := by unfold cellOf; rw [hc]
        rw [e1]
        refine Eq.trans (b := pure (closFrom env.cells r ((n, c) :: acc))) (ih' ((n, c) :: acc)) ?_
        show _ = pure (closFrom env.cells r (if k == NameKind.free then (n, (env.cells.lookup n).getD 0) :: acc else acc))
        rw [hk, hc]; rfl
      · have hk' : (k == NameKind.free) = false := by simpa using hk
        simp only [hk', Bool.false_eq_true, if_false]
        refine Eq.trans (b := pure (closFrom env.cells r acc)) (ih' acc) ?_
        show _ = pure (closFrom env.cells r (if k == NameKind.free then (n, (env.cells.lookup n).getD 0) :: acc else acc))
        simp only [hk', Bool.false_eq_true, if_false]
  have := key sc.names [] h
  first
  | exact this
  | (simp only [bind_pure]; exact this)

theorem lookup_some_of_mem {α β : Type} [BEq α] [LawfulBEq α] : ∀ {l : List (α × β)} {a : α} {b : β}, (a, b) ∈ l → ∃ c, l.lookup a = some c
  | (k, v) :: r, a, b, h => by
    rw [List.lookup_cons]
    cases q : a == k with
    | true => exact ⟨v, rfl⟩
    | false =>
      rcases List.mem_cons.mp h with e | h'
      · cases e; simp at q
      · exact lookup_some_of_mem h'

theorem lookup_relabel {env : Env} : ∀ {names : List (Str × NameKind)} {x : Str} {k : NameKind}, names.lookup x = some k →
    (names.map fun (n, k) => if (k == NameKind.free && env.scope.kind == .function && env.kindOf n == some .cell) then (n, NameKind.cell) else (n, k)).lookup x = some (if (k == NameKind.free && env.scope.kind == .function && env.kindOf x == some .cell) then NameKind.cell else k)
  | [], _, _, h => by simp at h
  | (n, k') :: r, x, k, h => by
    have ih := @lookup_relabel env r x k
    show List.lookup x ((if (k' == NameKind.free && env.scope.kind == .function && env.kindOf n == some .cell) = true then (n, NameKind.cell) else (n, k')) :: _) = _
    cases hx : x == n with
    | true =>
      simp only [List.lookup_cons, hx] at h
      have : x = n := by simpa using hx
      subst this
      have h' : k' = k := by simpa using h
      subst h'
      by_cases hc : (k' == NameKind.free && env.scope.kind == .function && env.kindOf x == some .cell) = true
      · rw [if_pos hc, if_pos hc]; simp [List.lookup_cons]
      · rw [if_neg hc, if_neg hc]; simp [List.lookup_cons]
    | false =>
      simp only [List.lookup_cons, hx] at h
      by_cases hc : (k' == NameKind.free && env.scope.kind == .function && env.kindOf n == some .cell) = true
      · rw [if_pos hc]; simp only [List.lookup_cons, hx]; exact ih h
      · rw [if_neg hc]; simp only [List.lookup_cons, hx]; exact ih h
end
end Mine
end
-- part MComp2
section
open PySem PySem.W PyProof.Rows PySem.SeqAt
set_option maxRecDepth 100000
namespace Mine

structure CompOkP (sc : Scope) (fm fmC : Fm) (own : List (Str × Nat)) : Prop where
  h1 : sc.kind = .function
  h2 : fmC.cel = []
  h3 : (∀ p ∈ sc.names, p.2 ≠ .cell)
  h4 : (∀ p ∈ sc.names, p.2 = .local → sc.names.lookup p.1 = some .local)
  h5 : (∀ p ∈ sc.names, p.2 = .free → p.1 ∈ fm.cel ∧ ∃ i, (p.1, i) ∈ fm.vis)
  h6 : (∀ x i, (x, i) ∈ fmC.vis → (x == ("__debug__" : Str)) = false ∧ (((x, i) ∈ own ∧ sc.names.lookup x = some .local) ∨ ((x, i) ∉ own ∧ (x, i) ∈ fm.vis ∧ sc.names.lookup x = some .free)))
  h7 : (∀ p ∈ own, sc.names.lookup p.1 = some .local ∧ p ∈ fmC.vis)
  h8 : (∀ x ∈ fmC.gls, sc.names.lookup x = some .globalImplicit ∧ (x == ("__debug__" : Str)) = false)
  h9 : (∀ x i y j, (x, i) ∈ fmC.vis → (y, j) ∈ fmC.vis → (x = y ↔ i = j))
theorem compOk_spec {sc : Scope} {fm fmC : Fm} {own : List (Str × Nat)} (h : compOk sc fm fmC own = true) : CompOkP sc fm fmC own := by
  unfold compOk at h
  simp only [Bool.and_eq_true, Bool.not_eq_true', List.all_eq_true, Bool.or_eq_true, beq_iff_eq, bne_iff_ne, List.isEmpty_iff, List.any_eq_true, List.contains_iff_mem, ne_eq] at h
  obtain ⟨⟨⟨⟨⟨⟨⟨⟨h1, h2⟩, h3⟩, h4⟩, h5⟩, h6⟩, h7⟩, h8⟩, h9⟩ := h
  refine ⟨h1, h2, h3, fun p hp hl => ?_, fun p hp hf => ?_, fun x i hx => ?_, h7, fun x hx => ⟨(h8 x hx).2, (h8 x hx).1⟩, fun x i y j hx hy => ?_⟩
  · rcases h4 p hp with q | q
    · exact absurd hl q
    · exact q
  · rcases h5 p hp with q | q
    · exact absurd hf q
    · obtain ⟨⟨_, q2⟩, r, hr, e⟩ := q
      exact ⟨q2, r.2, by rw [← e]; exact hr⟩
  · obtain ⟨q1, q2⟩ := h6 (x, i) hx
    refine ⟨q1, ?_⟩
    rcases q2 with q | q
    · exact .inl q
    · refine .inr ⟨fun z => ?_, q.1.2, q.2⟩
      have := q.1.1
      rw [List.contains_iff_mem.mpr z] at this
      cases this
  · have := h9 (x, i) hx (y, j) hy
    simp only at this
    constructor
    · intro e
      subst e
      rw [show (x == x) = true from by simp] at this
      exact beq_iff_eq.mp this.symm
    · intro e
      subst e
      rw [show (i == i) = true from by simp] at this
      exact beq_iff_eq.mp this

section
variable {G : Gd} {fm fmC : Fm} {d : Nat}

theorem compLoop_ {A : Around} {R : Result → Shared → Prop} {s : Shared} {elt target iter : Expr} {ifs : List Expr} {scope : Scope} {pos : Pos} {it acc : Value} {env : Env} (I : Nat → Shared → Prop)
    (turn : ∀ n s, I n s → wpAny G.M A (pyNext it) (fun r s₁ => (r = none ∧ R (.ok .next) s₁) ∨ ∃ v, r = some v ∧ wpAny G.M A (letOwnedTupleGo target it v) (fun _ s₁ => wpAny G.M A (assign target env v) (fun _ s₂ =>
          wpAny G.M A (forIn ifs true fun c r => if r = true then do let ok ← isTrue c env (eval c env); pure (ForInStep.yield ok) else pure (ForInStep.yield r)) (fun ok s₃ =>
            if ok = true then wpAny G.M A (eval elt env) (fun x s₄ =>
              wpAny G.M A (call (.builtin "list.append") [acc, x]) (fun _ s₅ => ∃ m, m < n ∧ I m s₅) noE s₄) noE s₃
            else ∃ m, m < n ∧ I m s₃) noE s₂) noE s₁) noE s₁) noE s)
    (n : Nat) (h : I n s) :
    codeAny G.M A (.compLoop (.ListComp elt [⟨target, iter, ifs, 0⟩] scope pos) 0 it acc env) R s := by
  refine codeAny_loop rfl I (fun n s hI => ?_) n h
  show wpAny _ A ((compTurn (.ListComp elt [⟨target, iter, ifs, 0⟩] scope pos) 0 it acc env).onRaise (fun x => do noteFrame x env; theTreesLotGoes x)) _ _ s
  refine wpAny_noted ?_
  rw [compTurn_list]
  refine wpAny_bind (wpAny_standAt (wpAny_bind (wpAny_mono (turn n s hI) (fun r s₁ h₁ => ?_) fun _ _ h' => h'.elim)))
  rcases h₁ with ⟨rfl, h₁⟩ | ⟨v, rfl, h₁⟩
  · exact wpAny_pure h₁
  · refine wpAny_bind (wpAny_mono h₁ (fun _ s₁ h₁ => ?_) fun _ _ h' => h'.elim)
    refine wpAny_bind (wpAny_mono h₁ (fun _ s₂ h₂ => wpAny_bind (wpAny_mono h₂ (fun ok s₃ h₃ => ?_) fun _ _ h' => h'.elim)) fun _ _ h' => h'.elim)
    cases ok with
    | false => exact wpAny_pure ⟨rfl, h₃⟩
    | true =>
      exact wpAny_bind (wpAny_bind (wpAny_mono h₃ (fun x s₄ h₄ => wpAny_bind (wpAny_mono h₄ (fun _ s₅ h₅ => wpAny_pure (wpAny_pure ⟨rfl, h₅⟩)) fun _ _ h' => h'.elim)) fun _ _ h' => h'.elim))

/-- a change outside of what the block and the small heap tell of -/
theorem St.other {env : Env} {s s' : Shared} {ρ : Loc} {H : MHeap} (X : List Addr) (S : St G fm env H ρ s) (h1 : ∀ a ∈ X, ∀ ws, s.heap.get? a ≠ some (tobj ws)) (h2 : ∀ a ∈ X, H a = none) (h3 : ∀ a ∈ X, ¬ Own fm env a) (h4 : ∀ a ∈ X, G.h₁.get? a = none)
    (k : ∀ b o, b ∉ X → s.heap.get? b = some o → s'.heap.get? b = some o) : St G fm env H ρ s' := by
  have kt : ∀ c ws, s.heap.get? c = some (tobj ws) → s'.heap.get? c = some (tobj ws) := fun c ws e => k c _ (fun hc => h1 c hc ws e) e
  have hLk : ∀ o, s.heap.get? env.locals = some o → s'.heap.get? env.locals = some o := fun o e => k _ o (fun hc => h3 _ hc (.inl rfl)) e
  have hCk : ∀ x i c, (x, i) ∈ fm.vis → env.kindOf x ≠ some .local → env.cells.lookup x = some c → ∀ o, s.heap.get? c = some o → s'.heap.get? c = some o := fun x i c hx hk hc o e => k _ o (fun hX => h3 _ hX (.inr ⟨x, i, hx, hk, hc⟩)) e
  refine ⟨S.eo, fun a o e => k a o (fun ha => by rw [h4 a ha] at e; cases e) (S.old a o e), S.new, ?_, S.lnew, fun x i hx hk => ?_, fun x i hx mv hr => ?_, fun a xs e => ?_⟩
  · obtain ⟨m, o, es, ep, ho, r⟩ := S.ns
    exact ⟨m, o, es, ep, hLk o ho, r⟩
  · obtain ⟨c, hc, ⟨v, o, ho, hd⟩, hg⟩ := S.cells x i hx hk
    exact ⟨c, hc, ⟨v, o, hCk x i c hx hk hc o ho, hd⟩, hg⟩
  · obtain ⟨v, hb, rv⟩ := S.loc x i hx mv hr
    refine ⟨v, ?_, rv.mono kt⟩
    rcases hb with ⟨hk, m, ⟨o, es, ep, ho, r⟩, hm⟩ | ⟨hk, c, hc, o, ho, hd⟩
    · exact .inl ⟨hk, m, ⟨o, es, ep, hLk o ho, r⟩, hm⟩
    · exact .inr ⟨hk, c, hc, o, hCk x i c hx hk hc o ho, hd⟩
  · obtain ⟨vs, n, ho, r⟩ := S.hp a xs e
    exact ⟨vs, n, k a _ (fun ha => by rw [h2 a ha] at e; cases e) ho, r.mono kt⟩

theorem St.butT {target : Expr} {env : Env} {A : Around} {s s' : Shared} {ρ : Loc} {H : MHeap} {it : Addr} {its : List Addr} {items : List MV} {I : Nat → Heap → Prop} {Dep : MHeap → Prop} {k : Nat} (src : SrcT G A target it its items I Dep) (S : St G fm env H ρ s) (hi : I k s.heap)
    (hG : ∀ a ∈ its, G.h₁.get? a = none) (b : But its s s') : St G fm env H ρ s' ∧ (∀ a ∈ its, H a = none) ∧ (∀ a ∈ its, ¬ Own fm env a) := by
  have hT : ∀ a ∈ its, ∀ ws, s.heap.get? a ≠ some (tobj ws) := fun a ha ws e => by
    obtain ⟨o, vs, ho, hd⟩ := src.obj k _ hi a ha
    rw [e] at ho; cases ho; cases hd
  have hH : ∀ a ∈ its, H a = none := fun a ha => by
    obtain ⟨o, vs, ho, hd⟩ := src.obj k _ hi a ha
    cases q : H a with
    | none => rfl
    | some xs => obtain ⟨us, n, e, _⟩ := S.hp a xs q; rw [ho] at e; cases e; cases hd
  have hO : ∀ a ∈ its, ¬ Own fm env a := fun a ha hown => by
    obtain ⟨o, vs, ho, hd⟩ := src.obj k _ hi a ha
    rcases hown with z | ⟨x, i, hx, hk, hc⟩
    · obtain ⟨m, o', es, ep, ho', hd', _⟩ := S.ns
      rw [← z, ho] at ho'; cases ho'; rw [hd] at hd'; cases hd'
    · obtain ⟨c, hc', ⟨v, o', ho', hd'⟩, _⟩ := S.cells x i hx hk
      rw [hc] at hc'; cases hc'
      rw [ho] at ho'; cases ho'; rw [hd] at hd'; cases hd'
  exact ⟨S.other its hT hH hO hG b.keep, hH, hO⟩

theorem Kp.but {H₀ H : MHeap} {s₀ s s' : Shared} {its : List Addr} (k : Kp H₀ H s₀ s) (hn : ∀ a ∈ its, s₀.heap.get? a = none) (ho : s'.os = s.os) (hg : s'.gens = s.gens) (kp : ∀ b o, b ∉ its → s.heap.get? b = some o → s'.heap.get? b = some o) : Kp H₀ H s₀ s' where
  os := ho.trans k.os
  gens := hg.trans k.gens
  keep := fun a o e n => kp a o (fun ha => by rw [hn a ha] at e; cases e) (k.keep a o e n)
  dom := k.dom
  live := fun a e => by
    have h := k.live a e
    cases q : s.heap.get? a with
    | none => exact absurd q h
    | some o => rw [kp a o (fun ha => e (hn a ha)) q]; exact Option.some_ne_none _

/-- the state of a comprehension's block, at its start -/
theorem comp_state {sc : Scope} {own : List (Str × Nat)} {env : Env} {ρ : Loc} {H : MHeap} {s : Shared} {C : Addr} {m : Str → Option Value} (hok : compOk sc fm fmC own = true) (S : St G fm env H ρ s) (hC : s.heap.Ns C m) (hGC : G.h₁.get? C = none) :
    St G fmC (compEnvC sc (closFrom env.cells sc.names []) C env) H (ρ.clear own) s ∧ (∀ p ∈ own, (compEnvC sc (closFrom env.cells sc.names []) C env).kindOf p.1 = some .local) := by
  obtain ⟨h1, h2, h3, h4, h5, h6, h7, h8, h9⟩ := compOk_spec hok
  have kl : ∀ x k, sc.names.lookup x = some k → (compEnvC sc (closFrom env.cells sc.names []) C env).kindOf x = some (if (k == NameKind.free && env.scope.kind == .function && env.kindOf x == some .cell) then NameKind.cell else k) := fun x k e => lookup_relabel e
  have kf : ∀ x i, (x, i) ∈ fmC.vis → (x, i) ∉ own → env.kindOf x = some .cell ∧ (x, i) ∈ fm.vis ∧ (compEnvC sc (closFrom env.cells sc.names []) C env).kindOf x = some .cell ∧ sc.names.lookup x = some .free := fun x i hx hno => by
    rcases (h6 x i hx).2 with q | q
    · exact absurd q.1 hno
    · have e1 : env.kindOf x = some .cell := S.eo.cel x (h5 (x, .free) (lookup_mem q.2.2) rfl).1
      refine ⟨e1, q.2.1, ?_, q.2.2⟩
      rw [kl x _ q.2.2, e1, S.eo.kind]; rfl
  have ko : ∀ x k, sc.names.lookup x = some k → k ≠ .free → (compEnvC sc (closFrom env.cells sc.names []) C env).kindOf x = some k := fun x k e hk => by
    rw [kl x k e]
    have : (k == NameKind.free) = false := by simpa using hk
    rw [this]; rfl
  have clo : ∀ x c, (closFrom env.cells sc.names []).lookup x = some c → env.cells.lookup x = some c := fun x c e => by
    rcases closFrom_mem (lookup_mem e) with q | ⟨k, q1, rfl, q3⟩
    · exact nomatch q
    · obtain ⟨hcel, i, hi⟩ := h5 _ q1 rfl
      have hk := S.eo.cel x hcel
      obtain ⟨c', hc', _⟩ := S.cells x i hi (by rw [hk]; decide)
      simp only at q3
      rw [q3, hc']; rfl
  have clo' : ∀ x c, sc.names.lookup x = some .free → env.cells.lookup x = some c → (closFrom env.cells sc.names []).lookup x = some c := fun x c e ec => by
    obtain ⟨c', hc'⟩ := lookup_some_of_mem (closFrom_has (cells := env.cells) (acc := []) (lookup_mem e))
    have := clo x c' hc'
    rw [ec] at this
    rw [hc']; exact this.symm
  refine ⟨⟨⟨h1, S.eo.gl, S.eo.bl, fun x i hx => ⟨(h6 x i hx).1, ?_⟩, fun x hx => ⟨ko x _ (h8 x hx).1 (by decide), (h8 x hx).2⟩, fun x hx => (by rw [h2] at hx; exact nomatch hx), h9, fun x y c ex ey => S.eo.cinj x y c (clo x c ex) (clo y c ey)⟩, S.old, S.new, ⟨m, hC⟩, hGC, fun x i hx hk => ?_, fun x i hx mv hr => ?_, S.hp⟩, fun p hp => ko _ _ (h7 p hp).1 (by decide)⟩
  · by_cases ho : (x, i) ∈ own
    · exact .inl (ko x _ (h7 _ ho).1 (by decide))
    · exact .inr (.inl (kf x i hx ho).2.2.1)
  · by_cases ho : (x, i) ∈ own
    · exact absurd (ko x _ (h7 _ ho).1 (by decide)) hk
    · obtain ⟨e1, e2, e3, e4⟩ := kf x i hx ho
      obtain ⟨c, hc, hv, hg⟩ := S.cells x i e2 (by rw [e1]; decide)
      exact ⟨c, clo' x c e4 hc, hv, hg⟩
  · by_cases ho : (x, i) ∈ own
    · exfalso
      have : (own.any fun p => p.2 == i) = true := List.any_eq_true.mpr ⟨(x, i), ho, by simp⟩
      unfold Loc.clear at hr
      rw [this] at hr; cases hr
    · obtain ⟨e1, e2, e3, e4⟩ := kf x i hx ho
      have hr' : ρ i = some mv := by
        unfold Loc.clear at hr
        split at hr
        · cases hr
        · exact hr
      obtain ⟨v, hb, rv⟩ := S.loc x i e2 mv hr'
      refine ⟨v, ?_, rv⟩
      rcases hb with ⟨q, _⟩ | ⟨q, c, hc, hcell⟩
      · rw [e1] at q; cases q
      · exact .inr ⟨by rw [e3]; decide, c, clo' x c e4 hc, hcell⟩

inductive CompJ (G : Gd) (fmC : Fm) (cenv : Env) (H₀ : MHeap) (s₀ : Shared) (items : List MV) (I : Nat → Heap → Prop) (Dep : MHeap → Prop) (Wt : WT) (We : WE) (f : Loc → MV → Option Loc) (acc : Addr) (Q : MHeap → Prop) (n : Nat) (s : Shared) : Prop
  | mk (j : Nat) (ρ : Loc) (H : MHeap) (hj : n + j = items.length) (S : St G fmC cenv H ρ s) (k : Kp H₀ H s₀ s) (hi : I j s.heap) (hd : Dep H) (w : compW Wt We f Dep acc Q (items.drop j) ρ H) : CompJ G fmC cenv H₀ s₀ items I Dep Wt We f acc Q n s
theorem comp_loop {sc : Scope} {own : List (Str × Nat)} {A : Around} {s₀ s : Shared} {ρ : Loc} {H₀ H : MHeap} {cenv : Env} {Q : MHeap → Prop} {target iter elt : Expr} {ifs : List Expr} {pos : Pos} {Wt : WT} {We : WE} {f : Loc → MV → Option Loc} {it acc : Addr} {its : List Addr} {items : List MV} {I : Nat → Heap → Prop} {Dep : MHeap → Prop} {R : Result → Shared → Prop}
    (rm : Room d A) (src : SrcT G A target it its items I Dep) (hn : ∀ a ∈ its, s₀.heap.get? a = none) (hG : ∀ a ∈ its, G.h₁.get? a = none) (hCn : s₀.heap.get? cenv.locals = none) (ha : AsgL G fmC d target own f) (hown : ∀ p ∈ own, cenv.kindOf p.1 = some .local)
    (hT : DTs G fmC d ifs Wt) (hE : DE G fmC d elt We) (S : St G fmC cenv H ρ s) (k : Kp H₀ H s₀ s) (h0 : I 0 s.heap) (hd : Dep H)
    (w : compW Wt We f Dep acc Q items ρ H) (hR : ∀ s' H' m, Q H' → StH H' s'.heap → Kp H₀ H' s₀ s' → s'.heap.Ns cenv.locals m → R (.ok .next) s') :
    codeAny G.M A (.compLoop (.ListComp elt [⟨target, iter, ifs, 0⟩] sc pos) 0 (.ref it) (.ref acc) cenv) R s := by
  refine compLoop_ (CompJ G fmC cenv H₀ s₀ items I Dep Wt We f acc Q) ?_ items.length ⟨0, ρ, H, by simp, S, k, h0, hd, by simpa using w⟩
  rintro n s ⟨j, ρ, H, hj, S, k, hi, hd, w⟩
  rcases Nat.lt_or_ge j items.length with hlt | hge
  · have hx' : items[j]? = some items[j] := by simp [hlt]
    refine wpAny_mono (src.step j s H _ hx' hi S.hp hd) (fun r s₁ h₁ => .inr ?_) fun _ _ x => x.elim
    obtain ⟨v, rfl, h₁⟩ := h₁
    refine ⟨v, rfl, wpAny_mono h₁ (fun _ s₁ h₁ => ?_) fun _ _ x => x⟩
    obtain ⟨rv, hi₁, b⟩ := h₁
    obtain ⟨S₁, hH, hO⟩ := S.butT src hi hG b
    have k₁ : Kp H₀ H s₀ s₁ := k.but hn b.os b.gens b.keep
    rw [List.drop_eq_getElem_cons hlt] at w
    obtain ⟨ρ', hf, w⟩ := w
    refine wpAny_mono (ha cenv A s₁ ρ ρ' H v _ rm S₁ hown rv hf) (fun _ s₂ h₂ => ?_) fun _ _ x => x
    obtain ⟨S₂, kl⟩ := h₂
    have k₂ : Kp H₀ H s₀ s₂ := k₁.but (its := [cenv.locals]) (fun a ha => by rw [List.mem_singleton.mp ha]; exact hCn) kl.os kl.gens fun b o hb e => kl.keep b o (fun z => hb (by rw [z]; exact .head _)) e
    have hi₂ : I (j + 1) s₂.heap := src.keep _ _ _ hi₁ fun a ha o e => kl.keep a o (fun z => hO a ha (.inl z)) e
    refine wpAny_mono (hT cenv A s₂ ρ' H _ rm S₂ w) (fun ok s₃ h₃ => ?_) fun _ _ x => x
    obtain ⟨H₃, w₃, S₃', k₃⟩ := h₃
    have S₃ := S₂.kp k₃ S₃'
    have hi₃ : I (j + 1) s₃.heap := src.keep _ _ _ hi₂ fun a ha o e => k₃.keep a o e (hH a ha)
    cases ok with
    | false => exact ⟨n - 1, by lia, j + 1, ρ', H₃, by lia, S₃, k₂.trans k₃, hi₃, w₃.1, w₃.2⟩
    | true =>
      refine wpAny_mono (hE cenv A s₃ ρ' H₃ _ rm S₃ w₃) (fun y s₄ h₄ => ?_) fun _ _ x => x
      obtain ⟨my, H₄, ⟨ys, hys, hz, hdep, w₄⟩, ry, S₄', k₄⟩ := h₄
      have S₄ := S₃.kp k₄ S₄'
      have hH₃ : ∀ a ∈ its, H₃ a = none := fun a ha => by
        cases q : H₃ a with
        | none => rfl
        | some xs =>
          obtain ⟨us, n, e, _⟩ := S₃' a xs q
          obtain ⟨o, vs, ho, hd⟩ := src.obj _ _ hi₃ a ha
          rw [ho] at e; cases e; cases hd
      have hi₄ : I (j + 1) s₄.heap := src.keep _ _ _ hi₃ fun a ha o e => k₄.keep a o e (hH₃ a ha)
      have hH₄ : ∀ a ∈ its, H₄ a = none := fun a ha => by
        cases q : H₄ a with
        | none => rfl
        | some xs =>
          obtain ⟨us, n, e, _⟩ := S₄' a xs q
          obtain ⟨o, vs, ho, hd⟩ := src.obj _ _ hi₄ a ha
          rw [ho] at e; cases e; cases hd
      have app := dcall_append (G := G) (d := d) A s₄ H₄ (fun v H₅ => H₅ = H₄.set acc (ys ++ [my])) [.ref acc, y] [.lst acc, my] rm S₄' S₄.new (.cons (.lst acc) (.cons ry .nil)) S₄.old ⟨ys, hys, hz, rfl⟩
      refine wpAny_mono app (fun _ s₅ h₅ => ?_) fun _ _ x => x
      obtain ⟨_, H₅, rfl, _, S₅', k₅⟩ := h₅
      have hi₅ : I (j + 1) s₅.heap := src.keep _ _ _ hi₄ fun a ha o e => k₅.keep a o e (hH₄ a ha)
      exact ⟨n - 1, by lia, j + 1, ρ', _, by lia, S₄.kp k₅ S₅', ((k₂.trans k₃).trans k₄).trans k₅, hi₅, hdep, w₄⟩
  · have hj' : j = items.length := by lia
    subst hj'
    refine wpAny_mono (src.stop s H hi S.hp hd) (fun r s₁ h₁ => .inl ?_) fun _ _ x => x.elim
    obtain ⟨rfl, b⟩ := h₁
    rw [List.drop_length] at w
    obtain ⟨S₁, _, _⟩ := S.butT src hi hG b
    obtain ⟨m, hm⟩ := S₁.ns
    exact ⟨rfl, hR s₁ H m w S₁.hp (k.but hn b.os b.gens b.keep) hm⟩
end
end Mine
end
-- part MComp3
section
open PySem PySem.W PyProof.Rows PySem.SeqAt
set_option maxRecDepth 100000
namespace Mine
section
variable {G : Gd} {fm fmC : Fm} {d : Nat}

def compBody (Wt : WT) (We : WE) (f : Loc → MV → Option Loc) (own : List (Str × Nat)) (ρ : Loc) (Q : MV → MHeap → Prop) : List MV → (MHeap → Prop) → MHeap → Prop :=
  fun items Dep H => ∀ c, H c = none → Dep (H.set c []) ∧ compW Wt We f Dep c (fun H' => Q (.lst c) H') items (ρ.clear own) (H.set c [])

theorem comp_block {sc : Scope} {own : List (Str × Nat)} {A : Around} {s₀ s : Shared} {ρ : Loc} {H₀ H : MHeap} {env : Env} {Q : MV → MHeap → Prop} {target iter elt : Expr} {ifs : List Expr} {pos : Pos} {Wt : WT} {We : WE} {f : Loc → MV → Option Loc} {it : Addr} {its : List Addr} {items : List MV} {I : Nat → Heap → Prop} {Dep : MHeap → Prop} {RR : Value → Addr → Result → Shared → Prop}
    (rm : Room d A) (hok : compOk sc fm fmC own = true) (src : SrcT G A target it its items I Dep) (hn : ∀ a ∈ its, s₀.heap.get? a = none) (ha : AsgL G fmC d target own f)
    (hT : DTs G fmC d ifs Wt) (hE : DE G fmC d elt We) (S₀ : St G fm env H₀ ρ s₀) (S : StH H s.heap) (k : Kp H₀ H s₀ s) (h0 : I 0 s.heap)
    (w : compBody Wt We f own ρ Q items Dep H)
    (hRR : ∀ acc C s' H' m, Q (.lst acc) H' → StH H' s'.heap → Kp H₀ H' s₀ s' → s'.heap.Ns C m → s₀.heap.get? C = none → RR (.ref acc) C (.ok .next) s') :
    wpAny G.M A (newList []) (fun acc s₃ => wpAny G.M A (newFunctionEnv sc env.globals (closFrom env.cells sc.names []) [] env.qual none .none (some env)) (fun cenv s₄ =>
      codeAny G.M A (.compStart (.ListComp elt [⟨target, iter, ifs, 0⟩] sc pos) 0 (.ref it) acc { cenv with scope := relabel sc env }) (RR acc cenv.locals) s₄) noE s₃) noE s := by
  obtain ⟨h1, h2, h3, h4, h5, h6, h7, h8, h9⟩ := compOk_spec hok
  refine wpAny_newObj_type (wpAny_newFunctionEnv h3 (by intro y hy; simp at hy) (fun h₁ hns₁ hsb₁ => ?_) h1)
  dsimp only at hns₁ hsb₁ ⊢
  have g1 : Grew s { s with heap := s.heap.push (lobj [] 0) } := Grew.push s (lobj [] 0) s.toks
  generalize hH2 : s.heap.push { cls := .type "list", dict := none, data := .seq ([] : List Value).toArray } = H2 at hns₁ hsb₁ ⊢
  have g2 : Grew s { s with heap := h₁, toks := s.toks + ([] : List (Str × Value)).length } := ⟨rfl, rfl, fun b o e => by
    have e1 : H2.get? b = some o := by rw [← hH2]; exact Heap.get?_push_of_some _ e
    refine (hsb₁.2 b ?_).trans (Heap.get?_push_of_some _ e1)
    exact Nat.ne_of_lt (Heap.lt_size e1)⟩
  have hacc : h₁.get? s.heap.objs.size = some (lobj [] 0) := by
    have e1 : H2.get? s.heap.objs.size = some (lobj [] 0) := by rw [← hH2]; exact Heap.get?_push_size _ rfl
    refine (hsb₁.2 _ ?_).trans (Heap.get?_push_of_some _ e1)
    exact Nat.ne_of_lt (Heap.lt_size e1)
  have hnone : H s.heap.objs.size = none := by
    cases q : H s.heap.objs.size with
    | none => rfl
    | some xs =>
      obtain ⟨us, n, e, _⟩ := S _ _ q
      rw [get_new] at e; cases e
  obtain ⟨hdep, w'⟩ := w _ hnone
  have S₁ : StH (H.set s.heap.objs.size []) h₁ := S.new (s := s) (s' := { s with heap := h₁, toks := s.toks + ([] : List (Str × Value)).length }) g2 hacc .nil
  have k₁ : Kp H₀ (H.set s.heap.objs.size []) s₀ { s with heap := h₁, toks := s.toks + ([] : List (Str × Value)).length } := k.trans (Kp.new g2 (get_new _))
  have hCs : s.heap.get? H2.objs.size = none := by
    cases q : s.heap.get? H2.objs.size with
    | none => rfl
    | some o =>
      have := Heap.lt_size q
      rw [← hH2, Heap.size_push] at this
      exact absurd this (by intro z; exact Nat.lt_irrefl _ (Nat.lt_of_succ_lt z))
  have hC0 : s₀.heap.get? H2.objs.size = none := k.fresh hCs
  have hCG : G.h₁.get? H2.objs.size = none := by
    cases q : G.h₁.get? H2.objs.size with
    | none => rfl
    | some o => rw [S₀.old _ _ q] at hC0; cases hC0
  have hG : ∀ a ∈ its, G.h₁.get? a = none := fun a ha => by
    cases q : G.h₁.get? a with
    | none => rfl
    | some o => have := hn a ha; rw [S₀.old a o q] at this; cases this
  have Sout : St G fm env (H.set s.heap.objs.size []) ρ { s with heap := h₁, toks := s.toks + ([] : List (Str × Value)).length } := S₀.kp k₁ S₁
  obtain ⟨Sc, hown⟩ := comp_state hok Sout hns₁ hCG
  have hi₁ : I 0 h₁ := src.keep _ _ _ h0 fun a ha o e => g2.2.2 a o e
  have loop : ∀ s₃ : Shared, s₃ = { s with heap := h₁, toks := s.toks + ([] : List (Str × Value)).length } →
      codeAny G.M A (.compLoop (.ListComp elt [⟨target, iter, ifs, 0⟩] sc pos) 0 (.ref it) (.ref s.heap.objs.size) (compEnvC sc (closFrom env.cells sc.names []) H2.objs.size env)) (RR (.ref s.heap.objs.size) H2.objs.size) s₃ := by
    rintro s₃ rfl
    exact comp_loop rm src hn hG hC0 ha hown hT hE Sc k₁ hi₁ hdep w' fun s' H' m q S' k' hns => hRR _ _ s' H' m q S' k' hns hC0
  refine codeAny_compStart_list (loop _ rfl) (wpAny_mono (src.self _ 0 hi₁) (fun v s' hv => ?_) fun _ _ x => x.elim)
  obtain ⟨rfl, rfl⟩ := hv
  exact loop _ rfl

/-- a changed table of names of the comprehension's -/
theorem letGo_state {H₀ H : MHeap} {s₀ s : Shared} {C : Addr} {m : Str → Option Value} (S : StH H s.heap) (k : Kp H₀ H s₀ s) (hn : s.heap.Ns C m) (hC : s₀.heap.get? C = none) {h' : Heap} (hs : Heap.SameBut C s.heap h') :
    StH H h' ∧ Kp H₀ H s₀ { s with heap := h' } ∧ ∀ v x, VRep s.heap v x → VRep h' v x := by
  have kp : ∀ b o, b ∉ [C] → s.heap.get? b = some o → h'.get? b = some o := fun b o hb e => (hs.2 b (fun z => hb (by rw [z]; exact .head _))).trans e
  have kt : ∀ c ws, s.heap.get? c = some (tobj ws) → h'.get? c = some (tobj ws) := fun c ws e => kp c _ (fun z => by
    rw [List.mem_singleton.mp z] at e
    exact ns_ne_tup hn e) e
  refine ⟨fun a xs e => ?_, k.but (its := [C]) (fun a ha => by rw [List.mem_singleton.mp ha]; exact hC) rfl rfl kp, fun v x r => r.mono kt⟩
  obtain ⟨vs, n, ho, r⟩ := S a xs e
  exact ⟨vs, n, kp a _ (fun z => by
    rw [List.mem_singleton.mp z] at ho
    obtain ⟨o, es, ep, ho', hd, _⟩ := hn
    rw [ho'] at ho; cases ho; cases hd) ho, r.mono kt⟩

theorem comp_clos {sc : Scope} {own : List (Str × Nat)} {env : Env} {s : Shared} {ρ : Loc} {H : MHeap} (hok : compOk sc fm fmC own = true) (S : St G fm env H ρ s) : closureFor sc env = pure (closFrom env.cells sc.names []) := by
  obtain ⟨h1, h2, h3, h4, h5, h6, h7, h8, h9⟩ := compOk_spec hok
  refine closureFor_eq fun p hp hf => ?_
  obtain ⟨hcel, i, hi⟩ := h5 p hp hf
  obtain ⟨c, hc, _⟩ := S.cells p.1 i hi (by rw [S.eo.cel p.1 hcel]; decide)
  exact ⟨c, hc⟩

theorem de_comp {sc : Scope} {own : List (Str × Nat)} {target iter elt : Expr} {ifs : List Expr} {pos : Pos} {Wi : WI} {Wt : WT} {We : WE} {f : Loc → MV → Option Loc} (hI : DIT G fm d target iter Wi) (ha : AsgL G fmC d target own f)
    (hT : DTs G fmC d ifs Wt) (hE : DE G fmC d elt We) (hok : compOk sc fm fmC own = true) (hs : noSet iter = true := by rfl) :
    DE G fm d (.ListComp elt [⟨target, iter, ifs, 0⟩] sc pos) (fun ρ Q H => Wi ρ (compBody Wt We f own ρ Q) H) := by
  intro env A s ρ H Q rm S w
  obtain ⟨h1, h2, h3, h4, h5, h6, h7, h8, h9⟩ := compOk_spec hok
  rw [eval_ListComp]
  refine wpAny_comprehension_free (use := none) rfl (folded_noSet hs env) (comp_clos hok S) h1 h4 (wpAny_mono (hI env A s ρ H _ rm S w) (fun xv s₁ h₁ => wpAny_mono h₁ (fun v s₂ h₂ => ?_) fun _ _ x => x) fun _ _ x => x)
  obtain ⟨it, its, items, I, Dep, H₁, rfl, src, hn, h0, hd, w₁, S₁, k₁⟩ := h₂
  refine comp_block (RR := fun acc C => compPost G.M A noE none (PE H s Q) acc C) rm hok src hn ha hT hE S S₁ k₁ h0 w₁ ?_
  intro acc C s' H' m q S' k' hns hC
  refine ⟨m, hns, fun h' hs' => ?_⟩
  obtain ⟨e1, e2, e3⟩ := letGo_state S' k' hns hC hs'
  exact ⟨_, H', q, .lst acc, e1, e2⟩

theorem ds_comp {sc : Scope} {own : List (Str × Nat)} {target iter elt : Expr} {ifs : List Expr} {pos py spos : Pos} {y : Str} {j : Nat} {Wi : WI} {Wt : WT} {We : WE} {f : Loc → MV → Option Loc} (hy : (y, j) ∈ fm.vis)
    (hI : DIT G fm d target iter Wi) (ha : AsgL G fmC d target own f)
    (hT : DTs G fmC d ifs Wt) (hE : DE G fmC d elt We) (hok : compOk sc fm fmC own = true) (hline : (py.line == pos.line) = true) (hnm : (sc.names.any fun p => p.1 == y && (p.2 == .local || p.2 == .cell)) = false) (hs : noSet iter = true := by rfl) :
    DS G fm d (.Assign [.Name y py] (.ListComp elt [⟨target, iter, ifs, 0⟩] sc pos) spos) (fun ρ Q H => Wi ρ (compBody Wt We f own ρ fun v H' => Q .next (ρ.set j v) H') H) := by
  intro env A s ρ H Q rm S w
  obtain ⟨h1, h2, h3, h4, h5, h6, h7, h8, h9⟩ := compOk_spec hok
  by_cases hyl : env.kindOf y = some .local
  · have hsw : swapsWith (.ListComp elt [⟨target, iter, ifs, 0⟩] sc pos) (some (.Name y py)) spos.line env = pure true := by
      have e1 : env.blockKind = .function := by unfold Env.blockKind; rw [S.eo.kind]; rfl
      show (pure (env.blockKind == .function && env.kindOf y == some .local && py.line == pos.line && !(sc.names.any fun (n, k) => n == y && (k == .local || k == .cell))) : Sem Bool) = pure true
      rw [e1, hyl, hline, show (sc.names.any fun (n, k) => n == y && (k == .local || k == .cell)) = false from hnm]; rfl
    rw [exec_Assign_Name_used _ _ _ _ hsw]
    refine wpAny_bind (wpAny_standAt (wpAny_bind ?_))
    show wpAny _ A (do let _ ← comprehension (.ListComp elt [⟨target, iter, ifs, 0⟩] sc pos) sc env _ (newList []) false (eval iter env) (some (assign (.Name y py) env))) _ _ s
    refine wpAny_bind (wpAny_mono (wpAny_comprehension_free (use := some (assign (.Name y py) env)) (Q := fun _ s' => PS G fm env H s Q .next s') rfl (folded_noSet hs env) (comp_clos hok S) h1 h4
      (wpAny_mono (hI env A s ρ H _ rm S w) (fun xv s₁ h₁ => wpAny_mono h₁ (fun v s₂ h₂ => ?_) fun _ _ x => x) fun _ _ x => x)) (fun _ s' hq => wpAny_pure (wpAny_pure hq)) fun _ _ e => e)
    obtain ⟨it, its, items, I, Dep, H₁, rfl, src, hn, h0, hd, w₁, S₁, k₁⟩ := h₂
    refine comp_block (RR := fun acc C => compPost G.M A noE (some (assign (.Name y py) env)) (fun _ s' => PS G fm env H s Q .next s') acc C) rm hok src hn ha hT hE S S₁ k₁ h0 w₁ ?_
    intro acc C s' H' m q S' k' hns hC
    show wpAny G.M A (assign (.Name y py) env (.ref acc)) _ _ s'
    have St' := S.kp k' S'
    have hLC : env.locals ≠ C := by
      rintro rfl
      obtain ⟨m, o, _, _, ho, _⟩ := S.ns; rw [hC] at ho; cases ho
    have hOwn : ¬ Own fm env C := fun hown => by
      rcases hown with z | ⟨x, i, hx, hk, hc⟩
      · exact hLC z.symm
      · obtain ⟨c, hc', ⟨v, o, ho, _⟩, _⟩ := S.cells x i hx hk
        rw [hc] at hc'; cases hc'
        rw [hC] at ho; cases ho
    refine wpAny_assign_Name (store_ hy St' (.lst acc) fun s'' S'' k'' => ?_)
    have hns'' : s''.heap.Ns C m := by
      have hH := S'.ns hns
      exact ns_copy hns fun o ho => k''.keep C o ho hH hOwn
    refine ⟨m, hns'', fun h' hs' => ?_⟩
    have hT' : ∀ ws, s''.heap.get? C ≠ some (tobj ws) := fun ws e => by
      exact ns_ne_tup hns'' e
    have hGC : G.h₁.get? C = none := by
      cases q : G.h₁.get? C with
      | none => rfl
      | some o => rw [S.old _ _ q] at hC; cases hC
    have kp : ∀ b o, b ∉ [C] → s''.heap.get? b = some o → h'.get? b = some o := fun b o hb e => (hs'.2 b (fun z => hb (by rw [z]; exact .head _))).trans e
    refine ⟨.next, _, H', q, .next, S''.other (s' := { s'' with heap := h' }) [C] (fun a ha => by rw [List.mem_singleton.mp ha]; exact hT') (fun a ha => by rw [List.mem_singleton.mp ha]; exact S''.hp.ns hns'') (fun a ha => by rw [List.mem_singleton.mp ha]; exact hOwn) (fun a ha => by rw [List.mem_singleton.mp ha]; exact hGC) kp, ?_⟩
    have K := k'.toS.trans k''
    refine ⟨K.os, K.gens, fun a o e n w => kp a o (fun z => by rw [List.mem_singleton.mp z, hC] at e; cases e) (K.keep a o e n w), K.dom, fun a e => ?_⟩
    have hl := K.live a e
    cases q : s''.heap.get? a with
    | none => exact absurd q hl
    | some o => show h'.get? a ≠ none; rw [kp a o (fun z => by rw [List.mem_singleton.mp z] at e; exact e hC) q]; exact Option.some_ne_none _
  · -- a cell's name: the value first
    have hsw : swapsWith (.ListComp elt [⟨target, iter, ifs, 0⟩] sc pos) (some (.Name y py)) spos.line env = pure false := by
      show (pure (env.blockKind == .function && env.kindOf y == some .local && py.line == pos.line && !(sc.names.any fun (n, k) => n == y && (k == .local || k == .cell))) : Sem Bool) = pure false
      have : (env.kindOf y == some .local) = false := by simpa using hyl
      rw [this]; simp
    refine wpAny_Assign_Name (wpAny_mono (de_comp hI ha hT hE hok hs env A s ρ H _ rm S w) (fun v s₁ h₁ => ?_) fun _ _ x => x) hsw
    obtain ⟨mv, H₁, w₁, rv, S₁, k₁⟩ := h₁
    exact store_ hy (S.kp k₁ S₁) rv fun s₂ S₂ k₂ => ⟨.next, _, H₁, w₁, .next, S₂, k₁.toS.trans k₂⟩

-- over enumerate(list)
def enumFrom : Nat → List MV → List MV
  | _, [] => []
  | i, x :: r => .tup [.int i, x] :: enumFrom (i + 1) r
theorem enumFrom_length : ∀ (i : Nat) (xs : List MV), (enumFrom i xs).length = xs.length
  | _, [] => rfl
  | i, _ :: r => congrArg (· + 1) (enumFrom_length (i + 1) r)
theorem enumFrom_get : ∀ (i : Nat) (xs : List MV) (k : Nat) (x : MV), (enumFrom i xs)[k]? = some x → ∃ y, xs[k]? = some y ∧ x = .tup [.int ((i + k : Nat) : Int), y]
  | i, [], k, x, h => by simp [enumFrom] at h
  | i, y :: r, 0, x, h => by simp [enumFrom] at h; exact ⟨y, by simp, h.symm⟩
  | i, y :: r, k + 1, x, h => by
    obtain ⟨z, hz, e⟩ := enumFrom_get (i + 1) r k x (by simpa [enumFrom] using h)
    refine ⟨z, by simpa using hz, ?_⟩
    rw [e, show i + 1 + k = i + (k + 1) from by lia]

theorem src_enum {A : Around} {e it l : Addr} {xs : List MV} {elts : List Expr} {x1 : Nat} {pos : Pos} (hh : A.handled = none) (hne : e ≠ it) :
    SrcT G A (.Tuple elts x1 pos) e [e, it] (enumFrom 0 xs) (fun k h => (∃ old, IsEnum h e it (k : Nat) old) ∧ h.IsListIter it l k) (fun H => H l = some xs) where
  obj := fun k h ⟨⟨old, he⟩, o, ho, _, hd⟩ a ha => by
    rcases List.mem_cons.mp ha with rfl | ha
    · exact ⟨_, _, he, rfl⟩
    · rcases List.mem_singleton.mp ha with rfl
      exact ⟨o, _, ho, hd⟩
  keep := fun k h h' ⟨⟨old, he⟩, o, ho, hc, hd⟩ hk => ⟨⟨old, hk e (.head _) _ he⟩, o, hk it (.tail _ (.head _)) o ho, hc, hd⟩
  step := fun k s H x hx hi S hd => by
    obtain ⟨⟨old, he⟩, hit⟩ := hi
    obtain ⟨vs, n, hl, rx⟩ := S.isL hd
    obtain ⟨y, hy, rfl⟩ := enumFrom_get 0 xs k x hx
    obtain ⟨v, hv, rv⟩ := rx.get hy
    refine wpAny_pyNext_enum_item he hit (lobj_isList hl) (by simpa using hv) hne fun h' heo hit' ht hz hk => ?_
    refine ⟨_, rfl, wpAny_letOwnedTupleGo_enum (s := { s with heap := h', toks := s.toks + 1 }) heo fun h'' he'' hs'' => ?_⟩
    replace hs'' : Heap.SameBut e h' h'' := hs''
    have hse : s.heap.objs.size ≠ e := Nat.ne_of_gt (Heap.lt_size he)
    have kk : ∀ b o, b ≠ e → b ≠ it → s.heap.get? b = some o → h''.get? b = some o := fun b o hb hb' e1 => (hs''.2 b hb).trans (hk b o hb hb' e1)
    refine ⟨.tup (vs := [.int k s.toks, v]) ?_ (.cons ?_ (.cons (rv.mono fun a ws ea => ?_) .nil)), ⟨⟨v, ?_⟩, ?_⟩, rfl, rfl, fun b o hb e1 => kk b o (fun z => hb (by simp [z])) (fun z => hb (by simp [z])) e1⟩
    · exact (hs''.2 _ hse).trans ht
    · rw [Nat.zero_add]; exact .int _ _
    · refine kk a _ (fun z => ?_) (fun z => ?_) ea
      · subst z
        have : Value.type "enumerate" = Value.type "tuple" := congrArg Obj.cls (Option.some.inj (he.symm.trans ea))
        exact absurd this (by decide)
      · subst z
        obtain ⟨o, ho, _, hd'⟩ := hit
        rw [ho] at ea; cases ea; cases hd'
    · have e2 : ((k + 1 : Nat) : Int) = (k : Int) + 1 := by push_cast; rfl
      rw [e2]; exact he''
    · obtain ⟨o, ho, hc, hd'⟩ := hit'
      exact ⟨o, (hs''.2 _ (Ne.symm hne)).trans ho, hc, hd'⟩
  stop := fun s H hi S hd => by
    obtain ⟨⟨old, he⟩, hit⟩ := hi
    obtain ⟨vs, n, hl, rx⟩ := S.isL hd
    rw [enumFrom_length] at he hit
    refine wpAny_pyNext_enum_end hh he hit (lobj_isList hl) (by simp [rx.length]) fun h' hx => ⟨rfl, rfl, rfl, fun b o hb e1 => hx b o (fun z => hb (by simp [z])) e1⟩
  self := fun s k hi => by
    obtain ⟨⟨old, he⟩, _⟩ := hi
    exact wpAny_pyIter_enum he ⟨rfl, rfl⟩

def wIterEnum : MV → (List MV → (MHeap → Prop) → MHeap → Prop) → MHeap → Prop
  | .lst a, Q, H => ∃ xs, H a = some xs ∧ Q (enumFrom 0 xs) (fun H' => H' a = some xs) H
  | _, _, _ => False
theorem dit_enum {x : Str} {p pos tp : Pos} {e : Expr} {elts : List Expr} {x1 : Nat} {W : WE} (hx : x ∈ fm.gls) (hg : GlobIs G x (.type "enumerate")) (he : DE G fm d e W) (hp : plainArgs [e] = true := by rfl) :
    DIT G fm d (.Tuple elts x1 tp) (.Call (.Name x p) [e] [] pos) (fun ρ Q H => W ρ (fun v H₁ => wIterEnum v Q H₁) H) := by
  intro env A s ρ H Q rm S w
  refine ev_callT1 hx hg S hp (wpAny_mono (he env A s ρ H _ rm S w) (fun v s₁ h₁ => ?_) fun _ _ x => x)
  obtain ⟨mv, H₁, w₁, rv, S₁, k₁⟩ := h₁
  cases mv <;> first | exact w₁.elim | skip
  rename_i l
  cases rv.lst_inv
  obtain ⟨xs, hx, q⟩ := w₁
  obtain ⟨vs, n, hl, rx⟩ := S₁.isL hx
  refine call_enumerate_list (lobj_isList hl) fun h' hE hI hsz hk => ?_
  have g : Grew s₁ { s₁ with heap := h' } := ⟨rfl, rfl, hk⟩
  refine wpAny_pyIter_enum hE ⟨_, _, _, _, _, H₁, rfl, src_enum (l := l) (xs := xs) (it := s₁.heap.objs.size) rm.handled (Nat.succ_ne_self _), fun a ha => ?_, ⟨⟨.none, hE⟩, hI⟩, hx, q, g.sth S₁, k₁.trans (g.kp H₁)⟩
  rcases List.mem_cons.mp ha with rfl | ha
  · refine k₁.fresh ?_
    cases q : s₁.heap.get? (s₁.heap.objs.size + 1) with
    | none => rfl
    | some o => exact absurd (Heap.lt_size q) (by intro z; exact Nat.lt_irrefl _ (Nat.lt_of_succ_lt z))
  · rcases List.mem_singleton.mp ha with rfl
    exact k₁.fresh (get_new _)
end
end Mine
end
-- part MFunC
section
open PySem PySem.W PyProof.Rows PySem.SeqAt
set_option maxRecDepth 100000
namespace Mine

theorem bindL_other {kindOf : Str → Option NameKind} : ∀ {binds : List (Str × Value)} {m : Str → Option Value} {x : Str}, x ∉ binds.map (·.1) → bindL kindOf binds m x = m x
  | [], _, _, _ => rfl
  | (n, v) :: r, m, x, h => by
    rw [List.map_cons, List.mem_cons, not_or] at h
    unfold bindL
    rw [bindL_other h.2]
    split
    · simp only [show x ≠ n from h.1, if_false]
    · rfl
theorem bindC_other {kindOf : Str → Option NameKind} : ∀ {binds : List (Str × Value)} {m : Str → Option Value} {x : Str}, x ∉ binds.map (·.1) → bindC kindOf binds m x = m x
  | [], _, _, _ => rfl
  | (n, v) :: r, m, x, h => by
    rw [List.map_cons, List.mem_cons, not_or] at h
    unfold bindC
    rw [bindC_other h.2]
    split
    · rfl
    · simp only [show x ≠ n from h.1, if_false]
theorem bindL_get {kindOf : Str → Option NameKind} {binds : List (Str × Value)} : ∀ {m : Str → Option Value} {x : Str} {v : Value}, (binds.map (·.1)).Nodup → (x, v) ∈ binds → kindOf x = some .local → bindL kindOf binds m x = some v := by
  induction binds with
  | nil => intro m x v _ h; exact nomatch h
  | cons p r ih =>
    obtain ⟨n, u⟩ := p
    intro m x v hn h hk
    rw [List.map_cons, List.nodup_cons] at hn
    unfold bindL
    rcases List.mem_cons.mp h with e | h'
    · cases e
      rw [bindL_other hn.1, if_pos hk]; simp
    · exact ih hn.2 h' hk
theorem bindC_get {kindOf : Str → Option NameKind} {binds : List (Str × Value)} : ∀ {m : Str → Option Value} {x : Str} {v : Value}, (binds.map (·.1)).Nodup → (x, v) ∈ binds → kindOf x ≠ some .local → bindC kindOf binds m x = some v := by
  induction binds with
  | nil => intro m x v _ h; exact nomatch h
  | cons p r ih =>
    obtain ⟨n, u⟩ := p
    intro m x v hn h hk
    rw [List.map_cons, List.nodup_cons] at hn
    unfold bindC
    rcases List.mem_cons.mp h with e | h'
    · cases e
      rw [bindC_other hn.1, if_neg hk]; simp
    · exact ih hn.2 h' hk
theorem cellsFrom_acc : ∀ {n : Nat} {names : List (Str × NameKind)} {acc : List (Str × Addr)} {p : Str × Addr}, p ∈ acc → p ∈ cellsFrom n names acc
  | _, [], _, _, h => h
  | n, (x, k) :: r, acc, p, h => by
    unfold cellsFrom
    split
    · exact cellsFrom_acc (.tail _ h)
    · exact cellsFrom_acc h
theorem cellsFrom_has : ∀ {n : Nat} {names : List (Str × NameKind)} {acc : List (Str × Addr)} {x : Str}, (x, NameKind.cell) ∈ names → ∃ c, (x, c) ∈ cellsFrom n names acc
  | n, (y, k) :: r, acc, x, h => by
    unfold cellsFrom
    rcases List.mem_cons.mp h with e | h'
    · cases e
      exact ⟨n, by simp only [beq_self_eq_true, if_true]; exact cellsFrom_acc (.head _)⟩
    · split
      · exact cellsFrom_has h'
      · exact cellsFrom_has h'
theorem apart_inj {cs : List (Str × Addr)} (h : cs.Pairwise fun x y => x.2 ≠ y.2) : ∀ {x y : Str} {c : Addr}, (x, c) ∈ cs → (y, c) ∈ cs → x = y := by
  induction cs with
  | nil => intro x y c hx; exact nomatch hx
  | cons p r ih =>
    intro x y c hx hy
    rw [List.pairwise_cons] at h
    rcases List.mem_cons.mp hx with e | hx' <;> rcases List.mem_cons.mp hy with e' | hy'
    · rw [← e] at e'; cases e'; rfl
    · exact absurd (by rw [← e]) (h.1 _ hy')
    · exact absurd (by rw [← e']) (h.1 _ hx')
    · exact ih h.2 hx' hy'

section
variable {G : Gd} {fm : Fm} {d : Nat}

theorem dcall_cells {fa : Addr} {o : Obj} {fd : FuncData} {body : List Stmt} {ps : List (Str × Nat)} {W : WS} (ok : G.Ok) (ho : G.h₁.get? fa = some o) (hd : o.data = .func fd) (hb : fd.body = .stmts body)
    (hcd : G.h₁.CodeRec fd.code fd.qualname) (hg : fd.globals = mainGlobals) (hbl : fd.builtins = builtinsNs) (hcl : fd.closure = []) (hs : scopeOk fd.scope fm = true)
    (hps : (ps.all fun p => fm.vis.contains p) = true) (hnd : (ps.map (·.1)).Nodup) (bind : ∀ vs : List Value, vs.length = ps.length → bindArgs fd ⟨vs, []⟩ = pure ((ps.map (·.1)).zip vs)) (hW : DB G fm d body W) :
    DCall G (d + 1) (.ref fa) (fun ms Q H => ms.length = ps.length ∧ W (locOf ps ms) (Back Q) H) := by
  intro A s H Q vs ms rm S nw r old ⟨hlen, w⟩
  obtain ⟨h1, h2, h3, h4, h5, h6, h7⟩ := scopeOk_spec hs
  have hvlen : vs.length = ps.length := r.length.trans hlen
  have hvis : ∀ p ∈ ps, p ∈ fm.vis := fun p hp => by
    have := List.all_eq_true.mp hps p hp
    exact List.contains_iff_mem.mp this
  have hkinds : ∀ y ∈ (ps.map (·.1)).zip vs, fd.scope.names.lookup y.1 = some .local ∨ (fd.scope.names.lookup y.1 = some .cell ∧ ((cellsFrom (s.heap.objs.size + 1) fd.scope.names []).lookup y.1).isSome = true) := fun y hy => by
    have := List.of_mem_zip hy
    obtain ⟨p, hp, e⟩ := List.mem_map.mp this.1
    rw [← e]
    rcases (h4 p.1 p.2 (hvis p hp)).2 with q | q
    · exact .inl q
    · refine .inr ⟨q, ?_⟩
      obtain ⟨c, hc⟩ := cellsFrom_has (n := s.heap.objs.size + 1) (acc := []) (lookup_mem q)
      obtain ⟨c', hc'⟩ := lookup_some_of_mem hc
      rw [hc']; rfl
  refine wpAny_call (codeAny_call_cells rm.lim (old _ _ ho) hd (ok.nolimit.keeps old) (hcd.keeps old) hb (bind vs hvlen) hcl hkinds (fun s₁ hin => ?_) h2 h3 h1)
  obtain ⟨hi, hcell, hap, hab⟩ := hin
  obtain ⟨hns, hsame, hkeep, hfresh⟩ := hi
  obtain ⟨h₁', tk₁, rfl⟩ := ‹∃ h' tk, s₁ = { s with heap := h', toks := tk }›
  have hnew := get_new s.heap
  have hnewc : ∀ x c, (callEnvC fd s.heap.objs.size fa).cells.lookup x = some c → s.heap.get? c = none := fun x c e => by
    have := hab x c (lookup_mem e)
    cases q : s.heap.get? c with
    | none => rfl
    | some o' => exact absurd (Nat.lt_trans this (Heap.lt_size q)) (Nat.lt_irrefl _)
  have grew : Grew s { s with heap := h₁', toks := tk₁ } := ⟨rfl, rfl, hkeep⟩
  have hnodup : (((ps.map (·.1)).zip vs).map (·.1)).Nodup := by
    rw [List.map_fst_zip (by rw [List.length_map]; lia)]; exact hnd
  have hcls : ∀ x i, (x, i) ∈ fm.vis → (callEnvC fd s.heap.objs.size fa).kindOf x ≠ some .local → ∃ c, (callEnvC fd s.heap.objs.size fa).cells.lookup x = some c := fun x i hx hk => by
    rcases (h4 x i hx).2 with q | q
    · exact absurd q hk
    · obtain ⟨c, hc⟩ := cellsFrom_has (n := s.heap.objs.size + 1) (acc := []) (lookup_mem q)
      exact lookup_some_of_mem hc
  have hG : ∀ a, s.heap.get? a = none → G.h₁.get? a = none := fun a e => by
    cases q : G.h₁.get? a with
    | none => rfl
    | some o' => rw [old _ _ q] at e; cases e
  have S₀ : St G fm (callEnvC fd s.heap.objs.size fa) H (locOf ps ms) { s with heap := h₁', toks := tk₁ } := by
    refine ⟨⟨h1, hg, hbl, fun x i hx => ⟨(h4 x i hx).1, ?_⟩, h5, h7, h6, fun x y c e e' => apart_inj hap (lookup_mem e) (lookup_mem e')⟩, fun a o' e => hkeep _ _ (old a o' e), nw, ⟨_, by assumption⟩, hG _ hnew, fun x i hx hk => ?_, fun x i hx mv hr => ?_, grew.sth S⟩
    · rcases (h4 x i hx).2 with q | q
      · exact .inl q
      · exact .inr (.inl q)
    · obtain ⟨c, hc⟩ := hcls x i hx hk
      exact ⟨c, hc, ⟨_, hcell x c hc⟩, hG _ (hnewc x c hc)⟩
    · obtain ⟨y, v, hy1, hy2, hy3⟩ := zip_mem r (lookup_mem hr)
      have hyx : y = x := (h6 y i x i (hvis _ hy1) hx).mpr rfl
      subst hyx
      refine ⟨v, ?_, hy3.grew grew⟩
      by_cases hk : (callEnvC fd s.heap.objs.size fa).kindOf y = some .local
      · exact .inl ⟨hk, _, by assumption, bindL_get hnodup hy2 hk⟩
      · obtain ⟨c, hc⟩ := hcls y i hx hk
        exact .inr ⟨hk, c, hc, by have := hcell y c hc; rw [bindC_get hnodup hy2 hk] at this; exact this⟩
  have hrun := hW (callEnvC fd s.heap.objs.size fa) (A.deeper (callEnvC fd s.heap.objs.size fa)) _ (locOf ps ms) H _ (rm.deeper _) S₀ w
  refine wpAny_mono hrun (fun f s' hf => ?_) fun _ _ x => x.elim
  obtain ⟨mf, ρ', H', ⟨v, H'', hv, hsub, q⟩, fr, S', k'⟩ := hf
  have fin : ∀ u, VRep s'.heap u v → PE H s Q u s' := fun u rv => by
    refine ⟨v, H'', q, rv, S'.hp.sub hsub, ⟨k'.os, k'.gens, fun a o' e n => ?_, fun a e => ?_, fun a e => k'.live a (grew.live a e)⟩⟩
    · refine k'.keep a o' (hkeep _ _ e) n fun hown => ?_
      rcases hown with z | ⟨x, i, hx, hk, hc⟩
      · have : a = s.heap.objs.size := z
        subst this; rw [hnew] at e; cases e
      · rw [hnewc x a hc] at e; cases e
    · cases q' : H'' a with
      | none => exact absurd q' e
      | some xs =>
        have e' := hsub a xs q'
        rcases k'.dom a (by rw [e']; exact Option.some_ne_none _) with z | z
        · exact .inl z
        · refine .inr ?_
          cases q3 : s.heap.get? a with
          | none => rfl
          | some o' => rw [show _ = some o' from hkeep a o' q3] at z; cases z
  cases fr with
  | next => exact fin _ (by rw [show v = MV.none from hv]; exact .none)
  | ret r => exact fin _ (by rw [← show _ = v from hv]; exact r)
  | brk => exact hv.elim
  | cont => exact hv.elim
end
end Mine
end
-- part MBuil
section
open PySem PySem.W PyProof.Rows PySem.SeqAt
set_option maxRecDepth 100000
namespace Mine
section
variable {G : Gd} {fm : Fm} {d : Nat}

/-- a global whose value lies in the first heap -/
theorem de_globO {x : Str} {v : Value} {mv : MV} {pos : Pos} (hx : x ∈ fm.gls) (hg : GlobIs G x v) (hv : VRep G.h₁ v mv) : DE G fm d (.Name x pos) (fun _ Q H => Q mv H) := by
  intro env A s ρ H Q r S q
  exact ev_glob hx hg S (PE.now S.hp (Grew.refl s) (hv.mono fun a _ e => S.old _ _ e) q)

-- sum
def wSum : List MV → (MV → MHeap → Prop) → MHeap → Prop
  | [.lst a], Q, H => ∃ ns : List Int, H a = some (ns.map .int) ∧ Q (.int ns.sum) H
  | _, _, _ => False
theorem dcall_sum : DCall G d (.builtin "sum") wSum := by
  intro A s H Q vs ms rm S nw r ho w
  cases ms with
  | nil => exact w.elim
  | cons m ms =>
  cases m <;> first | exact w.elim | skip
  cases ms with
  | cons _ _ => exact w.elim
  | nil =>
  · cases r with
    | cons r1 r0 =>
      cases r0; cases r1.lst_inv
      obtain ⟨ns, hx, q⟩ := w
      obtain ⟨us, n, hl, rx⟩ := S.isL hx
      have hi := rx.ints
      obtain ⟨xs, hxs⟩ := hi.allInts.items
      have hl' : s.heap.IsList _ (intItems xs) := hxs ▸ lobj_isList hl
      refine sum_intListG rm.handled hl' fun h' tk t' hk => ?_
      have e1 : ns = xs.toList.map (·.1) := by
        rw [← nums_intItems, ← hxs]
        exact (show numsOf us.toArray.toList = ns from hi.numsOf).symm
      have e2 : preSum (numAt xs) xs.size = ns.sum := by
        rw [preSum_eq, List.take_of_length_le (by simp), e1]
      rw [e2]
      exact PE.now (s' := { s with heap := h', toks := tk }) S ⟨rfl, rfl, hk⟩ (.int _ _) q

-- isinstance
def wIsinst : List MV → (MV → MHeap → Prop) → MHeap → Prop := fun ms Q H => ∃ l, (ms = [.bytes l, .raw (.type "str")] ∧ Q (.bool false) H) ∨ (ms = [.bytes l, .tup [.raw (.type "bytes"), .raw (.type "bytearray")]] ∧ Q (.bool true) H)
theorem in_nil (h : Heap) : Frag.In [] h := fun _ _ e => nomatch e
theorem dcall_isinst : DCall G d (.builtin "isinstance") wIsinst := by
  intro A s H Q vs ms rm S nw r ho w
  rcases w with ⟨l, ⟨rfl, w⟩ | ⟨rfl, w⟩⟩
  · cases r with
    | cons r1 r0 =>
      cases r0 with
      | cons r2 r0 =>
        cases r0; obtain ⟨t, rfl⟩ := r1.bytes_inv; cases r2.raw_inv
        refine kia_one (K := []) (b := false) kitx_bytes (in_nil _) trivial (by decide +kernel) (by intro q; cases q) fun tk => ?_
        exact PE.now S (Grew.toks s tk) (.bool _) w
  · cases r with
    | cons r1 r0 =>
      cases r0 with
      | cons r2 r0 =>
        cases r0; obtain ⟨t, rfl⟩ := r1.bytes_inv
        obtain ⟨a, us, rfl, ha, ra⟩ := r2.tup_inv
        cases ra with
        | cons q1 ra =>
          cases ra with
          | cons q2 ra =>
            cases ra; cases q1.raw_inv; cases q2.raw_inv
            refine kia_tup (K := []) (b := true) (its := [.type "bytes", .type "bytearray"]) kitx_bytes (in_nil _) trivial (n := 0) ha (by decide +kernel) (by intro q; cases q) fun tk => ?_
            exact PE.now S (Grew.toks s tk) (.bool _) w

-- a static method of a type
theorem meth_type {T : String} {name : Str} {v : Value} {A : Around} {E : Value → Shared → Prop} {s : Shared} {pl : Sem Bool} {Q : Value × List Value → Shared → Prop} (ht : typeOf (.type T) = pure (.type "type")) (hs : Manifest.isStub T = false)
    (e : findCls [] (.type T) (.type "type") name = some (.val v)) (hh : handedIn v = true) (h : Q (v, []) { s with toks := s.toks + 1 }) : wpAny G.M A (getMethod (.type T) name pl) Q E s := by
  have X := in_nil s.heap
  have hstub : opaqueClassAbove (.type T) = pure none := by unfold opaqueClassAbove; dsimp only; rw [hs]; rfl
  have L0 : Looks G.M s.heap (typeOf (.type T)) (.type "type") := Looks.of_pure ht
  have hg : findIn [] (.type "type") "__getattribute__" = some (some (.builtin "type.__getattribute__")) := type_tga
  unfold getMethod specialOf
  refine wpAny_bind (wpAny_bind (L0.here ((looks_findIn X hg).here ?_)))
  dsimp only
  rw [if_pos canon_tga]
  refine wpAny_bind (wpAny_mono (Q := fun v => Q (v, [])) (E := E) ?_ (fun _ _ z => wpAny_pure z) fun _ _ z => z)
  have LO : Looks G.M s.heap (opaqueClassAbove (.type T)) none := Looks.of_pure hstub
  refine cls_open X LO L0 hg (looks_hook X (r := none) (by rfl)) (by show subIn [] _ _ = _; rfl) e
    (wpAny_pure (by show wpAny _ _ (handedOut v) _ _ _; rw [handedOut_of hh]; exact wpAny_pure h))

theorem find_maketrans : findCls [] (.type "bytes") (.type "type") (Str.ofString "maketrans") = some (.val (.builtin "bytes.maketrans")) := by kernel_rfl
theorem handed_maketrans : handedIn (.builtin "bytes.maketrans") = true := by decide +kernel
theorem ty_bytes : typeOf (.type "bytes") = pure (.type "type") := by first | rfl | kernel_rfl
theorem stub_bytes : Manifest.isStub "bytes" = false := by decide +kernel
theorem check_mk (a b : Value) : checkBuiltinCall "bytes.maketrans" ⟨[a, b], []⟩ = pure () := by kernel_rfl
theorem plain_mk : plainId "bytes.maketrans" = true := by decide +kernel
theorem entry_mk : entryFor table "bytes.maketrans" = some Builtin.«bytes.maketrans» := entryFor_of_tree (by kernel_rfl)
theorem call_checked {id : String} {b : Builtin} {args : List Value} {A : Around} {s : Shared} {E : Value → Shared → Prop} {Q : Value → Shared → Prop} (hp : plainId id = true) (hb : entryFor table id = some b) (hk : checkBuiltinCall id ⟨args, []⟩ = pure ())
    (hc : wpAny G.M A.in1 (b ⟨args, []⟩) (fun fin s' => ∃ v, fin = .done (.ret v) ∧ Q v s') E s) : wpAny G.M A (call (.builtin id) args) Q E s := by
  refine wpAny_call (codeAny_call_builtin hp hb (wpAny_of_eq hk ?_))
  exact wpAny_mono hc (fun fin s' h' => by obtain ⟨v, rfl, hv⟩ := h'; exact hv) fun _ _ h' => h'

def mkTab (f t : List UInt8) : Array UInt8 := (f.zip t).foldl (fun t (p : UInt8 × UInt8) => t.setIfInBounds p.1.toNat p.2) ((Array.range 256).map (·.toUInt8))
def wMaketrans : List MV → (MV → MHeap → Prop) → MHeap → Prop
  | [.bytes f, .bytes t], Q, H => f.length = t.length ∧ Q (.bytes (mkTab f t).toList) H
  | _, _, _ => False
theorem fold_set_size : ∀ (l : List (UInt8 × UInt8)) (a : Array UInt8), (l.foldl (fun t (p : UInt8 × UInt8) => t.setIfInBounds p.1.toNat p.2) a).size = a.size
  | [], _ => rfl
  | p :: r, a => by rw [List.foldl_cons, fold_set_size r]; simp
theorem mkTab_size (f t : List UInt8) : (mkTab f t).size = 256 := by unfold mkTab; rw [fold_set_size]; simp

theorem dcall_maketrans : DCall G d (.builtin "bytes.maketrans") wMaketrans := by
  intro A s H Q vs ms rm S nw r ho w
  cases ms with
  | nil => exact w.elim
  | cons m ms =>
  cases m <;> first | exact w.elim | skip
  cases ms with
  | nil => exact w.elim
  | cons m ms =>
  cases m <;> first | exact w.elim | skip
  cases ms with
  | cons _ _ => exact w.elim
  | nil =>
  · cases r with
    | cons r1 r0 =>
      cases r0 with
      | cons r2 r0 =>
        cases r0; obtain ⟨t, rfl⟩ := r1.bytes_inv; obtain ⟨u, rfl⟩ := r2.bytes_inv
        rename_i f t'
        refine call_checked plain_mk entry_mk (check_mk _ _) ?_
        show wpAny _ _ (Builtin.Bytes.maketransM .bytes ⟨[.bytes f.toArray t, .bytes t'.toArray u], []⟩) _ _ s
        unfold Builtin.Bytes.maketransM
        refine wpAny_bind (wpAny_of_eq (a := ()) (by first | rfl | kernel_rfl) ?_)
        refine wpAny_bind (wpAny_of_eq (a := ()) (by first | rfl | kernel_rfl) ?_)
        refine wpAny_bind (wpAny_of_eq (a := f.toArray) KBd.like_eq ?_)
        refine wpAny_bind (wpAny_of_eq (a := t'.toArray) KBd.like_eq ?_)
        have hne : (f.toArray.size != t'.toArray.size) = false := by simp [w.1]
        simp only [hne, Bool.false_eq_true, if_false]
        have hsz : (mkTab f t').size ≤ sizeLine := by rw [mkTab_size, sizeLine_val]; lia
        refine wpAny_bind (wpAny_mkBytes (b := mkTab f t') ?_ hsz)
        refine wpAny_pure ⟨_, rfl, ?_⟩
        exact PE.now S (Grew.toks s _) (by exact VRep.bytes (mkTab f t').toList _) w.2

theorem de_maketrans {x : Str} {p apos pos : Pos} {e e' : Expr} {Wa : WA} (hx : x ∈ fm.gls) (hg : GlobIs G x (.type "bytes")) (ha : DA G fm d [e, e'] Wa) (hline : (apos.endLine == pos.line) = true := by rfl) (hp : plainArgs [e, e'] = true := by rfl) :
    DE G fm d (.Call (.Attribute (.Name x p) (Str.ofString "maketrans") apos) [e, e'] [] pos) (fun ρ Q H => Wa ρ (fun vs H₁ => wMaketrans vs Q H₁) H) := by
  intro env A s ρ H Q rm S w
  rw [arm_eval_Call]
  refine wpAny_bind (show wpAny G.M A (eval (.Name x p) env) _ _ s from ev_glob hx hg S ?_)
  refine wpAny_bind (wpAny_standAt ?_)
  have hform : methodCallForm ([e, e'].length + ([] : List Keyword).length) (backTo pos (starEach [e, e'] env)) (backToKw pos (keywordEach [] env)) = true := by
    unfold methodCallForm
    have h1 : (backTo pos (starEach [e, e'] env)).all (fun x => !x.1) = true := by
      have := backTo_plain hp env pos
      rw [List.any_eq_false] at this
      rw [List.all_eq_true]
      intro x hx
      have := this x hx
      simpa using this
    rw [h1]; rfl
  unfold methodCall
  rw [hform]
  unfold calleeOf
  have hpos : methodCallPos true (.Name x p) env apos pos = pure pos := by unfold methodCallPos; simp [hline]
  rw [hpos]
  refine wpAny_bind (wpAny_holding (meth_type (T := "bytes") (name := Str.ofString "maketrans") (v := .builtin "bytes.maketrans") ty_bytes stub_bytes find_maketrans handed_maketrans ?_))
  refine wpAny_bind (wpAny_of_eq (a := pos) rfl ?_)
  refine Calls.callWith_builtin (backTo_plain hp env pos) ?_
  rw [starEach_cons hp env]
  refine Calls.evalArgs_plain ?_
  have g := Grew.toks s (s.toks + 1)
  have S' := S.kp (g.kp H) (g.sth S.hp)
  have := ha env A { s with toks := s.toks + 1 } ρ H _ pos rm S' w
  rw [starEach_cons hp env] at this
  refine wpAny_mono this (fun vs s₁ h₁ => ?_) fun _ _ x => x
  obtain ⟨ms, H₁, w₁, vms, S₁, k₁⟩ := h₁
  have St₁ := S'.kp k₁ S₁
  exact wpAny_mono (dcall_maketrans A s₁ H₁ Q vs ms rm S₁ St₁.new vms St₁.old w₁) (PE.trans ((g.kp H).trans k₁)) fun _ _ x => x

-- bytes.translate
theorem slot_tr : Slot "bytes" (Str.ofString "translate") "bytes.translate" :=
  .of (owner := "bytes") (n := "translate") (by rw [typeLookup_type, builtinLookup_eq_fast]; kernel_rfl) (by decide +kernel) (by decide +kernel) (by decide +kernel)
    (by first | exact .inl (by decide +kernel) | exact .inr (by decide +kernel)) (by rw [isSubtype_type]; kernel_rfl)
theorem entry_tr : entryFor table "bytes.translate" = some Builtin.«bytes.translate» := entryFor_of_tree (by kernel_rfl)
theorem args_tr (a b : Value) : argsOk "bytes.translate" ⟨[a, b], []⟩ := by
  unfold argsOk; kernel_rfl
theorem type_tr : typeOf (.builtin "bytes.translate") = pure (.type "method_descriptor") := by show builtinType _ = _; rw [builtinType_eq_fast]; kernel_rfl
def trans (t : List UInt8) (l : List UInt8) : List UInt8 := l.map fun c => t.getD c.toNat c
def wTranslate : List MV → (MV → MHeap → Prop) → MHeap → Prop
  | [.bytes l, .bytes t], Q, H => t.length = 256 ∧ l.length ≤ 1000000 ∧ Q (.bytes (trans t l)) H
  | _, _, _ => False
theorem dcall_translate : DCall G d (.builtin "bytes.translate") wTranslate := by
  intro A s H Q vs ms rm S nw r ho w
  cases ms with
  | nil => exact w.elim
  | cons m ms =>
  cases m <;> first | exact w.elim | skip
  cases ms with
  | nil => exact w.elim
  | cons m ms =>
  cases m <;> first | exact w.elim | skip
  cases ms with
  | cons _ _ => exact w.elim
  | nil =>
  · cases r with
    | cons r1 r0 =>
      cases r0 with
      | cons r2 r0 =>
        cases r0; obtain ⟨t, rfl⟩ := r1.bytes_inv; obtain ⟨u, rfl⟩ := r2.bytes_inv
        rename_i l t'
        refine wpAny_call_entry slot_tr (typeIs_bytes _ _ _) entry_tr ?_ (args_tr _ _)
        show wpAny _ _ (Builtin.Bytes.translateM .bytes ⟨[.bytes l.toArray t, .bytes t'.toArray u], []⟩) _ _ s
        unfold Builtin.Bytes.translateM
        show wpAny _ _ (Builtin.Bytes.bytesLike _ (.bytes t'.toArray u) >>= fun t => _) _ _ s
        refine wpAny_bind (wpAny_of_eq (a := t'.toArray) KBd.like_eq ?_)
        have hne : (t'.toArray.size != 256) = false := by simp [w.1]
        simp only [hne, Bool.false_eq_true, if_false]
        refine wpAny_bind (wpAny_pure ?_)
        show wpAny _ _ (pure #[] >>= fun delete => _) _ _ s
        refine wpAny_bind (wpAny_pure ?_)
        refine wpAny_bind (wpAny_of_eq (a := l.toArray) rfl ?_)
        have ho : Array.map (fun c => t'.toArray.getD c.toNat c) (Array.filter (fun x => !(#[] : Array UInt8).contains x) l.toArray) = (trans t' l).toArray := by
          have h1 : Array.filter (fun x => !(#[] : Array UInt8).contains x) l.toArray = l.toArray := by simp
          rw [h1]
          simp [trans]
        show wpAny _ _ (if ((Array.map (fun c => t'.toArray.getD c.toNat c) (Array.filter (fun x => !(#[] : Array UInt8).contains x) l.toArray)) == l.toArray) = true then _ else _) _ _ s
        split
        · rename_i hb
          refine wpAny_bind (wpAny_rule ?_)
          refine wpAny_bind (wpAny_of_eq (a := .bytes l.toArray t) rfl ?_)
          refine wpAny_pure ⟨_, rfl, ?_⟩
          rw [ho] at hb
          have hl : trans t' l = l := by simpa using hb
          have q := w.2.2
          rw [hl] at q
          exact PE.now S (Grew.refl s) (.bytes _ _) q
        · refine wpAny_bind (show wpAny _ _ (mkBytes _) _ _ s from ?_)
          rw [ho]
          refine wpAny_mkBytes ?_ (by have := w.2.1; simp [trans, sizeLine_val]; lia)
          exact wpAny_pure ⟨_, rfl, PE.now S (Grew.toks s _) (.bytes _ _) w.2.2⟩

theorem de_translate {o e : Expr} {apos pos : Pos} {Wo We : WE} (ho : DE G fm d o Wo) (he : DE G fm d e We) (hbase : ∀ env, attributeBase o (Str.ofString "translate") env (eval o env) = eval o env := by intro _; rfl) (hline : (apos.endLine == pos.line) = true := by rfl) (hp : plainArgs [e] = true := by rfl) :
    DE G fm d (.Call (.Attribute o (Str.ofString "translate") apos) [e] [] pos) (fun ρ Q H => Wo ρ (fun m H₁ => mtype "bytes" m H₁ ∧ We ρ (fun v H₂ => wTranslate [m, v] Q H₂) H₁) H) :=
  de_meth FB.plainAttrs_bytes slot_tr type_tr ho (da_cons he da_nil (fun env => starEach_cons hp env)) dcall_translate hbase hline hp (by show 1 < 29; decide)
end
end Mine
end
-- part MMin
section
open PySem PySem.W PyProof.Rows PySem.SeqAt
set_option maxRecDepth 100000
namespace Mine

/-- a < b of two tuples of one length -/
def tlt : MV → MV → Option Bool
  | .tup a, .tup b => if a.length = b.length then mlt a b else none
  | _, _ => none
def minFrom (cur : MV) : List MV → Option MV
  | [] => some cur
  | x :: r => match tlt x cur with
    | some true => minFrom x r
    | some false => minFrom cur r
    | none => none
def wMin : List MV → (MV → MHeap → Prop) → MHeap → Prop
  | [.lst a], Q, H => ∃ x xs m, H a = some (x :: xs) ∧ minFrom x xs = some m ∧ Q m H
  | _, _, _ => False

theorem tlt_run {A : Around} {s : Shared} {v u : Value} {x y : MV} {b : Bool} {prog : Program} {w : World} {E : Value → Shared → Prop} {Q : Value → Shared → Prop} (hu : A.units < cLine) (rv : VRep s.heap v x) (ru : VRep s.heap u y) (h : tlt x y = some b) (q : Q (.bool b) s) :
    wpAny (model prog w) A (richCompare .Lt v u) Q E s := by
  unfold tlt at h
  split at h
  · split at h
    · rename_i hl
      exact rcLt_tuples hu rv ru hl h q
    · cases h
  · cases h

section
variable {G : Gd} {fm : Fm} {d : Nat}

theorem min_loop {A : Around} {s₀ : Shared} {H : MHeap} {it S l : Addr} {xs : List MV} {m : MV} {R : Result → Shared → Prop} (rm : Room d A) (hn : s₀.heap.get? it = none) (hnS : s₀.heap.get? S = none) (hne : S ≠ it) (SH : StH H s₀.heap) (hx : H l = some xs)
    (hR : ∀ v s', VRep s'.heap v m → Grew s₀ s' → R (.ok (.ret v)) s') :
    ∀ (k j : Nat) (s : Shared) (vb : Value) (cur : MV) (c : Nat), xs.length - j = k → j ≤ xs.length → s.os = s₀.os → s.gens = s₀.gens → (∀ b o, s₀.heap.get? b = some o → s.heap.get? b = some o) → s.heap.IsListIter it l j → s.heap.get? S = some (lobj [vb, vb] c) →
      VRep s.heap vb cur → minFrom cur (xs.drop j) = some m → codeAny G.M A (.builtin "min.loop" ⟨[.ref it, .none, .ref S], []⟩) R s := by
  have hname : (toString "min" ++ toString ".loop" : String) = "min.loop" := by decide
  have src := src_list (G := G) (A := A.in1) (it := it) (l := l) (xs := xs) (show A.in1.handled = none from rm.handled)
  intro k
  induction k with
  | zero =>
    intro j s vb cur c hk hj ho hg keep hit hS rv hm
    have hj' : j = xs.length := by lia
    subst hj'
    have SHs : StH H s.heap := Grew.sth (s := s₀) (s' := s) ⟨ho, hg, keep⟩ SH
    refine codeAny_builtin F.entry_min_loop ?_
    rw [Around.under_plainId F.plain_min_loop _]
    show wpAny _ A.in1 (seqItems? (.ref S) >>= _) _ _ s
    refine wpAny_bind (wpAny_seqItems hS rfl ?_)
    show wpAny _ A.in1 (tryCatch (pyNext (.ref it)) _ >>= _) _ _ s
    refine wpAny_bind (wpAny_tryCatch (wpAny_mono (src.stop s H hit SHs hx) (fun r s₁ h₁ => ?_) fun _ _ x => x.elim))
    obtain ⟨rfl, b⟩ := h₁
    have hS' : s₁.heap.get? S = some (lobj [vb, vb] c) := b.keep S _ (fun z => hne (List.mem_singleton.mp z)) hS
    show wpAny _ A.in1 (updateSeq S (fun _ => #[]) >>= _) _ _ _
    refine wpAny_bind ?_
    refine wpAny_updateSeq hS' rfl (wpAny_bind (wpAny_letGo (wpAny_pure ?_)))
    rw [List.drop_length] at hm
    have e : cur = m := Option.some.inj hm
    subst e
    have kk : ∀ a o, s₀.heap.get? a = some o → (s₁.heap.update S (Obj.mapSeq fun _ => #[])).get? a = some o := fun a o e => by
      rw [Heap.get?_update_other _ _ (fun z : S = a => by rw [← z, hnS] at e; cases e)]
      exact b.keep a o (fun z => by rw [List.mem_singleton.mp z, hn] at e; cases e) (keep a o e)
    refine hR vb _ ?_ ⟨b.os.trans ho, b.gens.trans hg, kk⟩
    refine rv.mono fun a ws e => ?_
    show (s₁.heap.update S (Obj.mapSeq fun _ => #[])).get? a = _
    have h1 : a ≠ S := fun z => by
      subst z; rw [hS] at e
      have : Value.type "list" = Value.type "tuple" := congrArg Obj.cls (Option.some.inj e)
      exact absurd this (by decide)
    rw [Heap.get?_update_other _ _ (Ne.symm h1)]
    exact b.keep a _ (fun z => by
      rw [List.mem_singleton.mp z] at e
      obtain ⟨o, ho', _, hd⟩ := hit
      rw [ho'] at e; cases e; cases hd) e
  | succ k ih =>
    intro j s vb cur c hk hj ho hg keep hit hS rv hm
    have hlt : j < xs.length := by lia
    have SHs : StH H s.heap := Grew.sth (s := s₀) (s' := s) ⟨ho, hg, keep⟩ SH
    have hxj : xs[j]? = some xs[j] := by simp [hlt]
    refine codeAny_builtin F.entry_min_loop ?_
    rw [Around.under_plainId F.plain_min_loop _]
    show wpAny _ A.in1 (seqItems? (.ref S) >>= _) _ _ s
    refine wpAny_bind (wpAny_seqItems hS rfl ?_)
    show wpAny _ A.in1 (tryCatch (pyNext (.ref it)) _ >>= _) _ _ s
    refine wpAny_bind (wpAny_tryCatch (wpAny_mono (src.step j s H _ hxj hit SHs hx) (fun r s₁ h₁ => ?_) fun _ _ x => x.elim))
    obtain ⟨v, rfl, rv₁, hit₁, b⟩ := h₁
    have hS' : s₁.heap.get? S = some (lobj [vb, vb] c) := b.keep S _ (fun z => hne (List.mem_singleton.mp z)) hS
    have kt : ∀ a ws, s.heap.get? a = some (tobj ws) → s₁.heap.get? a = some (tobj ws) := fun a ws e => b.keep a _ (fun z => by
      rw [List.mem_singleton.mp z] at e
      obtain ⟨o, ho', _, hd⟩ := hit
      rw [ho'] at e; cases e; cases hd) e
    have keep₁ : ∀ a o, s₀.heap.get? a = some o → s₁.heap.get? a = some o := fun a o e => b.keep a o (fun z => by rw [List.mem_singleton.mp z, hn] at e; cases e) (keep a o e)
    have hrv : VRep s₁.heap vb cur := rv.mono kt
    rw [List.drop_eq_getElem_cons hlt] at hm
    show wpAny _ A.in1 (tryCatch (holding [v, v] (richCompare .Lt v vb >>= _)) _ >>= _) _ _ _
    have hu : A.in1.units < cLine := by have := rm.cl64; show A.units + 1 < cLine; lia
    unfold minFrom at hm
    split at hm
    · rename_i hb
      refine wpAny_bind (wpAny_tryCatch (wpAny_holding (wpAny_bind (tlt_run hu rv₁ hrv hb ?_))))
      refine wpAny_bind (wpAny_holding (wpAny_truthy_bool ?_))
      refine wpAny_bind (wpAny_letGo (wpAny_pure ?_))
      simp only [if_true]
      refine wpAny_bind ?_
      refine wpAny_updateSeq hS' rfl (wpAny_bind (wpAny_letGo ?_))
      rw [hname]
      have hup : ∀ a, a ≠ S → ∀ o, s₁.heap.get? a = some o → (s₁.heap.update S (Obj.mapSeq fun _ => #[v, v])).get? a = some o := fun a ha o e => (Heap.get?_update_other _ _ (Ne.symm ha)).trans e
      refine wpAny_pure ⟨plainId_quiet F.plain_min_loop _, ih (j + 1) _ v _ _ (by lia) hlt (b.os.trans ho) (b.gens.trans hg) (fun a o e => hup a (fun z => by rw [z, hnS] at e; cases e) o (keep₁ a o e)) ?_ (Heap.get?_update_self _ hS' rfl) (rv₁.mono fun a ws e => hup a (fun z => ?_) _ e) hm⟩
      · obtain ⟨o, ho', hc, hd⟩ := hit₁
        exact ⟨o, hup it (Ne.symm hne) o ho', hc, hd⟩
      · subst z; rw [hS'] at e
        have : Value.type "list" = Value.type "tuple" := congrArg Obj.cls (Option.some.inj e)
        exact absurd this (by decide)
    · rename_i hb
      refine wpAny_bind (wpAny_tryCatch (wpAny_holding (wpAny_bind (tlt_run hu rv₁ hrv hb ?_))))
      refine wpAny_bind (wpAny_holding (wpAny_truthy_bool ?_))
      refine wpAny_bind (wpAny_letGo (wpAny_pure ?_))
      simp only [Bool.false_eq_true, if_false]
      refine wpAny_bind (wpAny_letGo ?_)
      rw [hname]
      exact wpAny_pure ⟨plainId_quiet F.plain_min_loop _, ih (j + 1) _ vb cur c (by lia) hlt (b.os.trans ho) (b.gens.trans hg) keep₁ hit₁ hS' hrv hm⟩
    · cases hm

theorem dcall_min : DCall G d (.builtin "min") wMin := by
  intro A s H Q vs ms rm S nw r ho w
  have hname : (toString "min" ++ toString ".loop" : String) = "min.loop" := by decide
  cases ms with
  | nil => exact w.elim
  | cons m ms =>
  cases m <;> first | exact w.elim | skip
  cases ms with
  | cons _ _ => exact w.elim
  | nil =>
  · cases r with
    | cons r1 r0 =>
      cases r0; cases r1.lst_inv
      rename_i a
      obtain ⟨x, xs, m, hx, hm, q⟩ := w
      obtain ⟨us, n, hl, rx⟩ := S.isL hx
      refine call_function_tree F.kind_min F.plain_min F.entry_min (F.args_min1 _) ?_
      show wpAny _ A.in1 (Builtin.Builtins.bindParams "min" ["key", "default"] 0 ⟨[], []⟩ >>= _) _ _ s
      refine wpAny_bind (wpAny_of_eq (show Builtin.Builtins.bindParams "min" ["key", "default"] 0 ⟨[], []⟩ = pure [none, none] from rfl) ?_)
      refine wpAny_bind (wpAny_pure ?_)
      refine wpAny_bind (wpAny_pyIter_list (lobj_isList hl) ?_)
      refine wpAny_bind (wpAny_newObj_type ?_)
      rw [hname]
      have g1 := Grew.push s { cls := .type "list_iterator", data := .fields #[.ref a, .int 0 0] } s.toks
      have g2 := g1.trans (Grew.push _ (lobj [] 0) s.toks)
      have hIt : ((s.heap.push { cls := .type "list_iterator", data := .fields #[.ref a, .int 0 0] }).push (lobj [] 0)).IsListIter s.heap.objs.size a 0 := ⟨_, Heap.get?_push_of_some _ (Heap.get?_push_size _ rfl), rfl, rfl⟩
      have hSz : (s.heap.push { cls := .type "list_iterator", data := .fields #[.ref a, .int 0 0] }).objs.size = s.heap.objs.size + 1 := Heap.size_push ..
      have hne : (s.heap.push { cls := .type "list_iterator", data := .fields #[.ref a, .int 0 0] }).objs.size ≠ s.heap.objs.size := by rw [hSz]; exact Nat.succ_ne_self _
      have hnS : s.heap.get? (s.heap.push { cls := .type "list_iterator", data := .fields #[.ref a, .int 0 0] }).objs.size = none := (g1.kp H).fresh (get_new _)
      have hS0 : ((s.heap.push { cls := .type "list_iterator", data := .fields #[.ref a, .int 0 0] }).push (lobj [] 0)).get? (s.heap.push { cls := .type "list_iterator", data := .fields #[.ref a, .int 0 0] }).objs.size = some (lobj [] 0) := Heap.get?_push_size _ rfl
      refine wpAny_pure ⟨plainId_quiet F.plain_min_loop _, ?_⟩
      refine codeAny_builtin F.entry_min_loop ?_
      rw [Around.under_plainId F.plain_min_loop _]
      show wpAny _ A.in1 (seqItems? (.ref _) >>= _) _ _ { s with heap := (s.heap.push { cls := .type "list_iterator", data := .fields #[.ref a, .int 0 0] }).push (lobj [] 0) }
      refine wpAny_bind (wpAny_seqItems hS0 rfl ?_)
      show wpAny _ A.in1 (tryCatch (pyNext (.ref s.heap.objs.size)) _ >>= _) _ _ _
      have src := src_list (G := G) (A := A.in1) (it := s.heap.objs.size) (l := a) (xs := x :: xs) (show A.in1.handled = none from rm.handled)
      refine wpAny_bind (wpAny_tryCatch (wpAny_mono (src.step 0 _ H x rfl hIt (g2.sth S) hx) (fun r s₁ h₁ => ?_) fun _ _ x => x.elim))
      obtain ⟨v, rfl, rv₁, hit₁, b⟩ := h₁
      have hS' := b.keep _ _ (fun z => hne (List.mem_singleton.mp z)) hS0
      have keep₁ : ∀ a o, s.heap.get? a = some o → s₁.heap.get? a = some o := fun a' o e => b.keep a' o (fun z => by rw [List.mem_singleton.mp z, get_new] at e; cases e) (g2.2.2 a' o e)
      show wpAny _ A.in1 (updateSeq _ (fun _ => #[v, v]) >>= _) _ _ _
      refine wpAny_bind ?_
      refine wpAny_updateSeq hS' rfl ?_
      rw [hname]
      have hup : ∀ a', a' ≠ (s.heap.push { cls := .type "list_iterator", data := .fields #[.ref a, .int 0 0] }).objs.size → ∀ o, s₁.heap.get? a' = some o → (s₁.heap.update (s.heap.push { cls := .type "list_iterator", data := .fields #[.ref a, .int 0 0] }).objs.size (Obj.mapSeq fun _ => #[v, v])).get? a' = some o := fun a' ha o e => (Heap.get?_update_other _ _ (Ne.symm ha)).trans e
      refine wpAny_pure ⟨plainId_quiet F.plain_min_loop _, min_loop rm (get_new _) hnS hne S hx (m := m) (fun v s' rv g => ?_) _ 1 _ v x _ rfl (by simp) b.os b.gens (fun a' o e => hup a' (fun z => by rw [z, hnS] at e; cases e) o (keep₁ a' o e)) ?_ (Heap.get?_update_self _ hS' rfl) (rv₁.mono fun a' ws e => hup a' (fun z => ?_) _ e) (by simpa using hm)⟩
      · exact PE.now S g rv q
      · obtain ⟨o, ho', hc, hd⟩ := hit₁
        exact ⟨o, hup _ (Ne.symm hne) o ho', hc, hd⟩
      · subst z; rw [hS'] at e
        have : Value.type "list" = Value.type "tuple" := congrArg Obj.cls (Option.some.inj e)
        exact absurd this (by decide)
end
end Mine
end
-- part MSort
section
open PySem PySem.W PyProof.Rows PySem.SeqAt
set_option maxRecDepth 100000
namespace Mine

/-- a strict order on 0..N-1 in which every two are comparable -/
structure TOrd (N : Nat) (lt : Nat → Nat → Bool) : Prop where
  trans : ∀ i j k, i < N → j < N → k < N → lt i j = true → lt j k = true → lt i k = true
  asym : ∀ i j, i < N → j < N → lt i j = true → lt j i = false
  total : ∀ i j, i < N → j < N → i ≠ j → lt i j = true ∨ lt j i = true

structure PermOk (N : Nat) (p : Array Nat) : Prop where
  size : p.size = N
  perm : p.toList.Perm (List.range N)
abbrev pat (p : Array Nat) (i : Nat) : Nat := p.getD i 0
theorem pat_get {p : Array Nat} {i : Nat} (h : i < p.size) : p[i]? = some (pat p i) := by
  simp [Array.getD, h]
theorem pat_eq {p : Array Nat} {i v : Nat} (h : p[i]? = some v) : pat p i = v := by
  unfold pat Array.getD
  split
  · rename_i hi
    rw [getElem?_pos p i hi] at h
    exact Option.some.inj h
  · rename_i hi
    rw [getElem?_neg p i hi] at h; cases h
theorem PermOk.lt {N : Nat} {p : Array Nat} (P : PermOk N p) {i : Nat} (h : i < N) : pat p i < N := by
  have h' : i < p.size := by rw [P.size]; exact h
  have hm : pat p i ∈ p.toList := by
    have := pat_get h'
    exact Array.mem_toList_iff.mpr (Array.mem_of_getElem? this)
  exact List.mem_range.mp (P.perm.mem_iff.mp hm)
theorem PermOk.inj {N : Nat} {p : Array Nat} (P : PermOk N p) {i j : Nat} (hi : i < N) (hj : j < N) (e : pat p i = pat p j) : i = j := by
  have hn : p.toList.Nodup := P.perm.nodup_iff.mpr List.nodup_range
  have hi' : i < p.toList.length := by rw [Array.length_toList, P.size]; exact hi
  have hj' : j < p.toList.length := by rw [Array.length_toList, P.size]; exact hj
  have e1 := pat_get (p := p) (i := i) (by rw [P.size]; exact hi)
  have e2 := pat_get (p := p) (i := j) (by rw [P.size]; exact hj)
  rw [e] at e1
  rw [← e2] at e1
  have g1 : p.toList[i]? = p.toList[j]? := by simpa using e1
  rw [List.getElem?_eq_getElem hi', List.getElem?_eq_getElem hj'] at g1
  have g2 := Option.some.inj g1
  have hp := List.pairwise_iff_getElem.mp hn
  rcases Nat.lt_trichotomy i j with h | h | h
  · exact absurd g2 (hp i j hi' hj' h)
  · exact h
  · exact absurd g2.symm (hp j i hj' hi' h)
theorem PermOk.of {N : Nat} {p q : Array Nat} (P : PermOk N p) (h : q.Perm p) : PermOk N q :=
  ⟨by rw [h.size_eq, P.size], (Array.perm_iff_toList_perm.mp h).trans P.perm⟩

def SortedTo' (lt : Nat → Nat → Bool) (p : Array Nat) (k : Nat) : Prop := ∀ a b, a < b → b < k → lt (pat p a) (pat p b) = true

theorem pat_rev {N : Nat} {p : Array Nat} (P : PermOk N p) {n : Nat} (hn : n ≤ N) (i : Nat) (hi : i < N) : pat (kas_rev p 0 n) i = if i < n then pat p (n - 1 - i) else pat p i := by
  have h := getElem?_mirror_all (xs := p) (i := 0) (j := n) (by rw [P.size]; exact hn) i
  refine pat_eq ?_
  show (mirror p 0 n ((n - 0) / 2))[i]? = _
  rw [h]
  by_cases hin : i < n
  · rw [if_pos ⟨Nat.zero_le _, hin⟩, if_pos hin, pat_get (by rw [P.size]; lia)]
    congr 1; congr 1; lia
  · rw [if_neg (by lia), if_neg hin, pat_get (by rw [P.size]; exact hi)]
theorem pat_bub {N : Nat} {p : Array Nat} (P : PermOk N p) {k l : Nat} (hk : k < N) (hl : l ≤ k) (i : Nat) (hi : i < N) : pat (bubble p k (k - l)) i = if i = l then pat p k else if l < i ∧ i ≤ k then pat p (i - 1) else pat p i := by
  have h := getElem?_bubble (xs := p) (src := k) (by rw [P.size]; exact hk) (k - l) (by lia) i
  refine pat_eq ?_
  rw [h]
  rw [show k - (k - l) = l from by lia]
  split
  · exact pat_get (by rw [P.size]; exact hk)
  · split
    · exact pat_get (by rw [P.size]; lia)
    · exact pat_get (by rw [P.size]; exact hi)

section
variable {N : Nat} {lt : Nat → Nat → Bool} {cmp : Nat → Nat → (Bool → Shared → Prop) → Shared → Prop} {s : Shared}

abbrev Asks (N : Nat) (lt : Nat → Nat → Bool) (cmp : Nat → Nat → (Bool → Shared → Prop) → Shared → Prop) (s : Shared) : Prop :=
  ∀ i j, i < N → j < N → i ≠ j → ∀ C : Bool → Shared → Prop, C (lt i j) s → cmp i j C s

theorem asc_ok (T : TOrd N lt) (hc : Asks N lt cmp s) {p : Array Nat} (P : PermOk N p) : ∀ (f n : Nat) {Q : Nat → Shared → Prop}, 1 ≤ n → n + f ≤ N → SortedTo' lt p n →
    (∀ m, n ≤ m → m ≤ n + f → SortedTo' lt p m → (m = n + f ∨ lt (pat p m) (pat p (m - 1)) = true) → Q m s) → (kas_asc p f n).kasWp cmp Q s
  | 0, n, Q, h1, hf, hs, hq => hq n (Nat.le_refl _) (Nat.le_refl _) hs (.inl rfl)
  | f + 1, n, Q, h1, hf, hs, hq => by
    have hn : n < N := by lia
    have hn1 : n - 1 < N := by lia
    refine hc _ _ (P.lt hn) (P.lt hn1) (fun e => by have := P.inj hn hn1 e; lia) _ ?_
    cases hlt : lt (pat p n) (pat p (n - 1)) with
    | true => exact hq n (Nat.le_refl _) (by lia) hs (.inr hlt)
    | false =>
      refine asc_ok T hc P f (n + 1) (by lia) (by lia) (fun a b hab hb => ?_) fun m h2 h3 h4 h5 => hq m (by lia) (by lia) h4 (by
        rcases h5 with h | h
        · exact .inl (by lia)
        · exact .inr h)
      by_cases hbn : b < n
      · exact hs a b hab hbn
      · have hb' : b = n := by lia
        subst hb'
        have step : lt (pat p (b - 1)) (pat p b) = true := by
          rcases T.total _ _ (P.lt hn1) (P.lt hn) (fun e => by have := P.inj hn1 hn e; lia) with h | h
          · exact h
          · rw [h] at hlt; cases hlt
        by_cases ha : a = b - 1
        · rw [ha]; exact step
        · exact T.trans _ _ _ (P.lt (by lia)) (P.lt hn1) (P.lt hn) (hs a (b - 1) (by lia) (by lia)) step

theorem desc_ok (T : TOrd N lt) (hc : Asks N lt cmp s) {p : Array Nat} (P : PermOk N p) : ∀ (f n : Nat) {Q : Array Nat × Nat × Nat → Shared → Prop}, 1 ≤ n → n + f ≤ N → (∀ a b, a < b → b < n → lt (pat p b) (pat p a) = true) →
    (∀ m, n ≤ m → m ≤ n + f → (∀ a b, a < b → b < m → lt (pat p b) (pat p a) = true) → Q (p, m, 0) s) → (kas_desc f p n 0).kasWp cmp Q s
  | 0, n, Q, h1, hf, hs, hq => hq n (Nat.le_refl _) (Nat.le_refl _) hs
  | f + 1, n, Q, h1, hf, hs, hq => by
    have hn : n < N := by lia
    have hn1 : n - 1 < N := by lia
    have hne : pat p n ≠ pat p (n - 1) := fun e => by have := P.inj hn hn1 e; lia
    refine hc _ _ (P.lt hn) (P.lt hn1) hne _ ?_
    cases hlt : lt (pat p n) (pat p (n - 1)) with
    | true =>
      simp only [if_true, gt_iff_lt, Nat.lt_irrefl, if_false]
      refine desc_ok T hc P f (n + 1) (by lia) (by lia) (fun a b hab hb => ?_) fun m h2 h3 h4 => hq m (by lia) (by lia) h4
      by_cases hbn : b < n
      · exact hs a b hab hbn
      · have hb' : b = n := by lia
        subst hb'
        by_cases ha : a = b - 1
        · rw [ha]; exact hlt
        · exact T.trans _ _ _ (P.lt hn) (P.lt hn1) (P.lt (by lia)) hlt (hs a (b - 1) (by lia) (by lia))
    | false =>
      simp only [Bool.false_eq_true, if_false]
      refine hc _ _ (P.lt hn1) (P.lt hn) (Ne.symm hne) _ ?_
      have h2 : lt (pat p (n - 1)) (pat p n) = true := by
        rcases T.total _ _ (P.lt hn1) (P.lt hn) (Ne.symm hne) with h | h
        · exact h
        · rw [h] at hlt; cases hlt
      rw [h2]
      simp only [if_true]
      exact hq n (Nat.le_refl _) (by lia) hs

theorem count_ok (T : TOrd N lt) (hc : Asks N lt cmp s) {p : Array Nat} (P : PermOk N p) (h1 : 1 ≤ N) {Q : Nat × Array Nat → Shared → Prop}
    (hq : ∀ m q, PermOk N q → 1 ≤ m → m ≤ N → SortedTo' lt q m → Q (m, q) s) : (kas_count N p).kasWp cmp Q s := by
  unfold kas_count
  rw [KasT.kasWp_bind]
  refine asc_ok T hc P (N - 1) 1 (Nat.le_refl _) (by lia) (fun a b hab hb => by lia) fun m h2 h3 h4 h5 => ?_
  by_cases hm : m = N
  · have : (m == N) = true := by simpa using hm
    rw [if_pos this]
    exact hq m p P h2 (by lia) h4
  · have : ¬ (m == N) = true := by simpa using hm
    rw [if_neg this]
    have hlt : lt (pat p m) (pat p (m - 1)) = true := by
      rcases h5 with h | h
      · lia
      · exact h
    by_cases hm1 : m > 1
    · rw [if_pos hm1]
      have hs := h4 0 (m - 1) (by lia) (by lia)
      refine hc _ _ (P.lt (by lia)) (P.lt (by lia)) (fun e => by have := P.inj (by lia) (by lia) e; lia) _ ?_
      rw [show lt (p.getD 0 0) (p.getD (m - 1) 0) = true from hs]
      simp only [if_true]
      exact hq m p P h2 (by lia) h4
    · rw [if_neg hm1]
      have hm' : m = 1 := by lia
      subst hm'
      unfold kas_descPart
      rw [KasT.kasWp_bind]
      refine desc_ok T hc P (N - 2) 2 (by lia) (by lia) (fun a b hab hb => ?_) fun m h2' h3' h4' => ?_
      · have ha : a = 0 := by lia
        have hb : b = 1 := by lia
        subst ha hb; exact hlt
      · simp only [gt_iff_lt, Nat.lt_irrefl, if_false]
        unfold kas_tail3
        rw [KasT.kasWp_bind]
        have P' : PermOk N (kas_rev p 0 m) := P.of (mirror_perm _ _ _ _)
        refine asc_ok T hc P' (N - m) m (by lia) (by lia) (fun a b hab hb => ?_) fun m' g1 g2 g3 g4 => ?_
        · rw [pat_rev P (by lia) a (by lia), pat_rev P (by lia) b (by lia), if_pos (by lia), if_pos hb]
          exact h4' _ _ (by lia) (by lia)
        · exact hq m' _ P' (by lia) (by lia) g3

theorem place_ok (T : TOrd N lt) (hc : Asks N lt cmp s) {p : Array Nat} (P : PermOk N p) {k : Nat} (hk : k < N) (hs : SortedTo' lt p k) : ∀ (f l r : Nat) {Q : Nat → Shared → Prop}, r - l ≤ f → l ≤ r → r ≤ k → (∀ a, a < l → lt (pat p a) (pat p k) = true) →
    (∀ a, r ≤ a → a < k → lt (pat p k) (pat p a) = true) → (∀ m, m ≤ k → (∀ a, a < m → lt (pat p a) (pat p k) = true) → (∀ a, m ≤ a → a < k → lt (pat p k) (pat p a) = true) → Q m s) → (kas_place p k f l r).kasWp cmp Q s
  | 0, l, r, Q, hf, hlr, hr, h1, h2, hq => by
    have : l = r := by lia
    subst this
    exact hq l hr h1 h2
  | f + 1, l, r, Q, hf, hlr, hr, h1, h2, hq => by
    unfold kas_place
    by_cases hge : l ≥ r
    · rw [if_pos hge]
      have : l = r := by lia
      subst this
      exact hq l hr h1 h2
    · rw [if_neg hge]
      have hm : (l + r) / 2 < k := by lia
      have hmN : (l + r) / 2 < N := by lia
      have hne : pat p k ≠ pat p ((l + r) / 2) := fun e => by have := P.inj hk hmN e; lia
      refine hc _ _ (P.lt hk) (P.lt hmN) hne _ ?_
      cases hlt : lt (p.getD k 0) (p.getD ((l + r) / 2) 0) with
      | true =>
        simp only [if_true]
        refine place_ok T hc P hk hs f l ((l + r) / 2) (by lia) (by lia) (by lia) h1 (fun a ha hak => ?_) hq
        by_cases ha' : a = (l + r) / 2
        · rw [ha']; exact hlt
        · exact T.trans _ _ _ (P.lt hk) (P.lt hmN) (P.lt (by lia)) hlt (hs _ _ (by lia) hak)
      | false =>
        simp only [Bool.false_eq_true, if_false]
        have hg : lt (pat p ((l + r) / 2)) (pat p k) = true := by
          rcases T.total _ _ (P.lt hmN) (P.lt hk) (Ne.symm hne) with h | h
          · exact h
          · rw [show lt (p.getD k 0) (p.getD ((l + r) / 2) 0) = true from h] at hlt; cases hlt
        refine place_ok T hc P hk hs f ((l + r) / 2 + 1) r (by lia) (by lia) hr (fun a ha => ?_) h2 hq
        by_cases ha' : a = (l + r) / 2
        · rw [ha']; exact hg
        · exact T.trans _ _ _ (P.lt (by lia)) (P.lt hmN) (P.lt hk) (hs _ _ (by lia) hm) hg

theorem bin_ok (T : TOrd N lt) (hc : Asks N lt cmp s) : ∀ (f : Nat) (p : Array Nat) (k : Nat) {Q : Array Nat → Shared → Prop}, PermOk N p → k + f = N → SortedTo' lt p k →
    (∀ q, PermOk N q → SortedTo' lt q N → Q q s) → (kas_bin f p k).kasWp cmp Q s
  | 0, p, k, Q, P, hf, hs, hq => by
    have : k = N := by omega
    subst this
    exact hq p P hs
  | f + 1, p, k, Q, P, hf, hs, hq => by
    unfold kas_bin
    rw [KasT.kasWp_bind]
    have hk : k < N := by lia
    refine place_ok T hc P hk hs k 0 k (by lia) (Nat.zero_le _) (Nat.le_refl _) (fun a ha => by lia) (fun a ha hak => by lia) fun l hl g1 g2 => ?_
    refine bin_ok T hc f _ (k + 1) (P.of (bubble_perm _ _ _)) (by lia) (fun a b hab hb => ?_) hq
    rw [pat_bub P hk hl a (by lia), pat_bub P hk hl b (by lia)]
    by_cases ea : a = l
    · rw [if_pos ea, if_neg (by lia), if_pos (by lia)]
      exact g2 (b - 1) (by lia) (by lia)
    · rw [if_neg ea]
      by_cases eb : b = l
      · rw [if_pos eb, if_neg (by lia)]
        exact g1 a (by lia)
      · rw [if_neg eb]
        by_cases ha : l < a ∧ a ≤ k
        · rw [if_pos ha, if_pos (by lia)]
          exact hs _ _ (by lia) (by lia)
        · rw [if_neg ha]
          by_cases hb' : l < b ∧ b ≤ k
          · rw [if_pos hb']
            exact hs _ _ (by lia) (by lia)
          · rw [if_neg hb']
            exact hs _ _ hab (by lia)

theorem sort_ok (T : TOrd N lt) (hc : Asks N lt cmp s) (h1 : 1 ≤ N) {Q : Array Nat → Shared → Prop} (hq : ∀ q, PermOk N q → SortedTo' lt q N → Q q s) : (kas_sort N).kasWp cmp Q s := by
  unfold kas_sort
  rw [KasT.kasWp_bind]
  have P0 : PermOk N (List.toArray (List.range N)) := ⟨by simp, by simp⟩
  refine count_ok T hc P0 h1 fun m q P h2 h3 hs => ?_
  by_cases hm : m < N
  · simp only
    rw [if_pos hm]
    have : max m 1 = m := by lia
    rw [this]
    exact bin_ok T hc (N - m) q m P (by lia) hs hq
  · simp only
    rw [if_neg hm]
    have : m = N := by lia
    subst this
    exact hq q P hs
end
end Mine
end
-- part MSort2
section
open PySem PySem.W PyProof.Rows PySem.SeqAt
set_option maxRecDepth 100000
namespace Mine

/-- an entry: its place and its octets -/
abbrev Ent := Nat × List UInt8
def ent (e : Ent) : MV := .tup [.int (e.2.length : Nat), .int (e.1 : Nat), .bytes e.2]
def elt (e f : Ent) : Bool := decide (e.2.length < f.2.length) || (decide (e.2.length = f.2.length) && decide (e.1 < f.1))

def wSorted : List MV → (MV → MHeap → Prop) → MHeap → Prop
  | [.lst a], Q, H => ∃ es : List Ent, H a = some (es.map ent) ∧ es.length < 64 ∧ (es.map (·.1)).Nodup ∧ ∀ (fs : List Ent) c, fs.Perm es → fs.Pairwise (fun e f => elt e f = true) → H c = none → Q (.lst c) (H.set c (fs.map ent))
  | _, _, _ => False

theorem vreps_ents {h : Heap} {vs : List Value} {es : List Ent} (r : VReps h vs (es.map ent)) {i : Nat} (hi : i < es.length) : ∃ a t1 t2 t3, vs.getD i Value.none = .ref a ∧ h.get? a = some (tobj [.int (es[i].2.length : Nat) t1, .int (es[i].1 : Nat) t2, .bytes es[i].2.toArray t3]) := by
  obtain ⟨v, hv, rv⟩ := r.get (i := i) (m := ent es[i]) (by simp [hi])
  obtain ⟨a, us, rfl, ha, ra⟩ := rv.tup_inv
  cases ra with
  | cons q1 ra =>
    cases ra with
    | cons q2 ra =>
      cases ra with
      | cons q3 ra =>
        cases ra
        obtain ⟨t1, rfl⟩ := q1.int_inv; obtain ⟨t2, rfl⟩ := q2.int_inv; obtain ⟨t3, rfl⟩ := q3.bytes_inv
        exact ⟨a, t1, t2, t3, by rw [List.getD_eq_getElem?_getD, hv]; rfl, ha⟩

section
variable {G : Gd} {d : Nat}

theorem key_lt {A : Around} {s : Shared} {a b : Addr} {e f : Ent} {t1 t2 t3 u1 u2 u3 : Tok} {Q : Bool → Shared → Prop} {E : Value → Shared → Prop} (ha : s.heap.get? a = some (tobj [.int (e.2.length : Nat) t1, .int (e.1 : Nat) t2, .bytes e.2.toArray t3]))
    (hb : s.heap.get? b = some (tobj [.int (f.2.length : Nat) u1, .int (f.1 : Nat) u2, .bytes f.2.toArray u3])) (hne : e.1 ≠ f.1) (q : Q (elt e f) s) : wpAny G.M A (keyLt' (tuples' true) (.ref a) (.ref b)) Q E s := by
  refine kat_lt ha rfl hb rfl ?_
  show KatLex G.prog G.w A true _ Q [(.int (e.2.length : Nat) t1, .int (f.2.length : Nat) u1), (.int (e.1 : Nat) t2, .int (f.1 : Nat) u2), (.bytes e.2.toArray t3, .bytes f.2.toArray u3)] 0 s
  refine kat_cons ?_
  refine (MeetsSeq.EqGives.int _ _ t1 u1).at A s _ _ _ _ ?_
  by_cases hl : e.2.length = f.2.length
  · have : (((e.2.length : Nat) : Int) == ((f.2.length : Nat) : Int)) = true := by simp [hl]
    rw [this]
    refine kat_yes (kat_cons ?_)
    refine (MeetsSeq.EqGives.int _ _ t2 u2).at A s _ _ _ _ ?_
    have h2 : (((e.1 : Nat) : Int) == ((f.1 : Nat) : Int)) = false := by simp; lia
    rw [h2]
    refine kat_no ?_
    show wpAny G.M A (oneLt' false _ _) _ _ s
    refine kat_one _ _ ?_
    refine PyProof.Rows.lt_int (prog := G.prog) (w := G.w) ?_
    show Q _ s
    have : elt e f = decide (((e.1 : Nat) : Int) < ((f.1 : Nat) : Int)) := by
      unfold elt
      simp [hl]
    rw [← this]; exact q
  · have : (((e.2.length : Nat) : Int) == ((f.2.length : Nat) : Int)) = false := by simp; lia
    rw [this]
    refine kat_no ?_
    show wpAny G.M A (oneLt' true _ _) _ _ s
    refine oneLt_int ?_
    have : elt e f = decide (((e.2.length : Nat) : Int) < ((f.2.length : Nat) : Int)) := by
      unfold elt
      simp [hl]
    rw [← this]; exact q

theorem elt_ord (es : List Ent) (hnd : (es.map (·.1)).Nodup) : TOrd es.length (fun i j => elt (es.getD i (0, [])) (es.getD j (0, []))) where
  trans := fun i j k _ _ _ h1 h2 => by
    simp only [elt, Bool.or_eq_true, Bool.and_eq_true, decide_eq_true_eq] at h1 h2 ⊢
    lia
  asym := fun i j _ _ h1 => by
    simp only [elt, Bool.or_eq_true, Bool.and_eq_true, decide_eq_true_eq, Bool.or_eq_false_iff, Bool.and_eq_false_iff, decide_eq_false_iff_not] at h1 ⊢
    lia
  total := fun i j hi hj hne => by
    have hp : (es.getD i (0, [])).1 ≠ (es.getD j (0, [])).1 := by
      have hi' : i < (es.map (·.1)).length := by simpa using hi
      have hj' : j < (es.map (·.1)).length := by simpa using hj
      have e1 : (es.getD i (0, [])).1 = (es.map (·.1))[i] := by simp [List.getD_eq_getElem?_getD, hi]
      have e2 : (es.getD j (0, [])).1 = (es.map (·.1))[j] := by simp [List.getD_eq_getElem?_getD, hj]
      rw [e1, e2]
      have hpw := List.pairwise_iff_getElem.mp hnd
      rcases Nat.lt_trichotomy i j with h | h | h
      · exact hpw i j hi' hj' h
      · exact absurd h hne
      · exact (hpw j i hj' hi' h).symm
    simp only [elt, Bool.or_eq_true, Bool.and_eq_true, decide_eq_true_eq]
    lia

theorem getD_vreps {h : Heap} {vs : List Value} {es : List Ent} (r : VReps h vs (es.map ent)) : ∀ (p : List Nat), (∀ i ∈ p, i < es.length) → VReps h (p.map fun i => vs.getD i Value.none) ((p.map fun i => es.getD i (0, [])).map ent)
  | [], _ => .nil
  | i :: p, hp => by
    refine .cons ?_ (getD_vreps r p fun j hj => hp j (.tail _ hj))
    have hi := hp i (.head _)
    obtain ⟨v, hv, rv⟩ := r.get (i := i) (m := ent es[i]) (by simp [hi])
    show VRep h (vs.getD i Value.none) (ent (es.getD i (0, [])))
    rw [List.getD_eq_getElem?_getD, hv, List.getD_eq_getElem?_getD, List.getElem?_eq_getElem hi]
    exact rv

theorem range_getD {α : Type} (es : List α) (z : α) : (List.range es.length).map (fun i => es.getD i z) = es := by
  apply List.ext_getElem
  · simp
  · intro i h1 h2
    simp at h1
    simp [List.getD_eq_getElem?_getD, h1]

theorem sort_tail {A : Around} {s : Shared} {a : Addr} {e1 : Nat} {st : SortSt} {out : List Value} {P : PySem.Fin → Shared → Prop} {E : Value → Shared → Prop} (ho : s.heap.get? a = some (seqObj "list" #[] e1)) (hout : (arrOf st).map (·.2) = out.toArray) (hf : failedOf st = none) (hz : out.length < 64)
    (h : ∀ h' c, h'.get? a = some (lobj out c) → Heap.SameBut a s.heap h' → P (.done (.ret .none)) { s with heap := h' }) :
    wpAny G.M A (do
      let sorted := (arrOf st).map (·.2)
      let touched := (← seqEpoch a) != e1
      Builtin.List.listUpdate (.ref a) fun _ => sorted
      if let some e := failedOf st then rule "list.sort.comparison-raised"; throw e
      if touched then rule "list.sort.modified"; raiseError "ValueError" "list modified during sort"
      ret .none) P E s := by
  have s2 := Heap.SameBut.update s.heap a (Obj.mapSeq fun _ => out.toArray)
  obtain ⟨c2, hc2⟩ : ∃ c2, (s.heap.update a (Obj.mapSeq fun _ => out.toArray)).get? a = some (seqObj "list" out.toArray c2) := ⟨_, get?_update_seq ho fun _ => out.toArray⟩
  rw [hout]
  refine wpAny_bind (seqEpoch_at ho rfl ?_)
  refine wpAny_bind (listUpdate_at ho rfl ?_ (Nat.zero_le _) (by rw [List.size_toArray, sizeLine_eq]; omega))
  rw [hf]
  simp only [bne_self_eq_false, Bool.false_eq_true, if_false]
  exact wpAny_pure (h _ c2 hc2 s2)

/-- the list's sort, and what it does to the heap -/
theorem sorted_run {A : Around} {s : Shared} {l : Addr} {vs : List Value} {n : Nat} {Q : Value → Shared → Prop} {E : Value → Shared → Prop} (P : List Value → Prop) (hl : s.heap.get? l = some (lobj vs n)) (h64 : vs.length < 64) (hshort : vs.length < 2 → P vs)
    (hlong : 2 ≤ vs.length → ∀ h' : Heap, (∀ b o, s.heap.get? b = some o → h'.get? b = some o) → wpAny G.M A.in1.in1 (keyKind' vs.toArray) (fun κ s' => (kas_sort vs.length).kasWp (kas_ask G.prog G.w A.in1.in1 κ vs) (fun p s'' => s'' = { s with heap := h' } ∧ p.size = vs.length ∧ P (p.toList.map fun i => vs.getD i Value.none)) s') (fun _ _ => False) { s with heap := h' })
    (h : ∀ out D h' k, P out → s.heap.get? D = none → h'.get? D = some (lobj out k) → (∀ b o, s.heap.get? b = some o → h'.get? b = some o) → Q (.ref D) { s with heap := h' }) :
    wpAny G.M A (call (.builtin "sorted") [.ref l]) Q E s := by
  refine Calls.call_function_entry kind_sorted plain_sorted entry_sorted (args_sorted1 _) ?_
  unfold Builtin.«sorted»
  refine wpAny_bind (m := checkCount "sorted" 1 1 _) (wpAny_pure ?_)
  refine wpAny_bind (collect_list (lobj_isList hl) ?_ (by rw [sizeLine_eq]; lia))
  refine wpAny_bind (wpAny_newList ?_ (by rw [sizeLine_eq]; lia))
  have hsz : ((s.heap.push (seqObj "list" #[] 0)).update s.heap.objs.size (Obj.mapSeq (· ++ vs.toArray))).objs.size = s.heap.objs.size + 1 := by
    rw [Heap.size_update, size_push']
  have hoL : (((s.heap.push (seqObj "list" #[] 0)).update s.heap.objs.size (Obj.mapSeq (· ++ vs.toArray))).push (seqObj "list" vs.toArray 0)).get? (s.heap.objs.size + 1) = some (seqObj "list" vs.toArray 0) := by
    rw [← hsz]; exact Heap.get?_push_size _ rfl
  have keep : ∀ b o, s.heap.get? b = some o → (((s.heap.push (seqObj "list" #[] 0)).update s.heap.objs.size (Obj.mapSeq (· ++ vs.toArray))).push (seqObj "list" vs.toArray 0)).get? b = some o := fun b o q => by
    have hlt : b < s.heap.objs.size := Heap.lt_size q
    rw [Heap.get?_push_ne _ _ _ (by rw [hsz]; exact Nat.ne_of_lt (Nat.lt_succ_of_lt hlt)), Heap.get?_update_ne _ _ _ _ (Nat.ne_of_lt hlt), Heap.get?_push_ne _ _ _ (Nat.ne_of_lt hlt)]
    exact q
  show wpAny _ _ _ _ _ { s with heap := ((s.heap.push (seqObj "list" #[] 0)).update s.heap.objs.size (Obj.mapSeq (· ++ vs.toArray))).push (seqObj "list" vs.toArray 0) }
  rw [hsz]
  generalize hH : ((s.heap.push (seqObj "list" #[] 0)).update s.heap.objs.size (Obj.mapSeq (· ++ vs.toArray))).push (seqObj "list" vs.toArray 0) = H0 at hoL keep ⊢
  have hnew : s.heap.get? (s.heap.objs.size + 1) = none := by
    cases q : s.heap.get? (s.heap.objs.size + 1) with
    | none => rfl
    | some o => exact absurd (Heap.lt_size q) (by intro z; exact Nat.lt_irrefl _ (Nat.lt_of_succ_lt z))
  refine wpAny_bind (wpAny_holding (wpAny_call_entry (s := { s with heap := H0 }) slot_list_sort ⟨_, hoL, rfl⟩ entry_list_sort ?body (args_list_sort _)))
  case body =>
    have s1 := Heap.SameBut.update H0 (s.heap.objs.size + 1) (Obj.mapSeq fun _ => (#[] : Array Value))
    obtain ⟨e1, ho1⟩ : ∃ e1, (H0.update (s.heap.objs.size + 1) (Obj.mapSeq fun _ => (#[] : Array Value))).get? (s.heap.objs.size + 1) = some (seqObj "list" #[] e1) := ⟨_, get?_update_seq hoL fun _ => #[]⟩
    rw [list_sort_plain]
    refine wpAny_bind (listItems_at (s := { s with heap := H0 }) hoL rfl ?_)
    refine wpAny_bind (listUpdate_at (s := { s with heap := H0 }) hoL rfl ?_ (by rw [List.size_toArray, sizeLine_eq]; lia) (Nat.zero_le _))
    refine wpAny_bind (seqEpoch_at ho1 rfl ?_)
    refine wpAny_bind (wpAny_newTuple ?_ (by show vs.length ≤ _; rw [sizeLine_eq]; lia))
    refine wpAny_bind (wpAny_newList ?_ (Nat.zero_le _))
    refine wpAny_holding ?_
    show wpAny G.M _ _ _ _ { s with heap := ((H0.update (s.heap.objs.size + 1) (Obj.mapSeq fun _ => (#[] : Array Value))).push (seqObj "tuple" vs.toArray 0)).push (seqObj "list" #[] 0) }
    have ho3 : (((H0.update (s.heap.objs.size + 1) (Obj.mapSeq fun _ => (#[] : Array Value))).push (seqObj "tuple" vs.toArray 0)).push (seqObj "list" #[] 0)).get? (s.heap.objs.size + 1) = some (seqObj "list" #[] e1) := Heap.get?_push_of_some _ (Heap.get?_push_of_some _ ho1)
    have keep3 : ∀ b o, s.heap.get? b = some o → (((H0.update (s.heap.objs.size + 1) (Obj.mapSeq fun _ => (#[] : Array Value))).push (seqObj "tuple" vs.toArray 0)).push (seqObj "list" #[] 0)).get? b = some o := fun b o e =>
      Heap.get?_push_of_some _ (Heap.get?_push_of_some _ ((s1.2 b (fun z => by rw [z, hnew] at e; cases e)).trans (keep b o e)))
    generalize ((H0.update (s.heap.objs.size + 1) (Obj.mapSeq fun _ => (#[] : Array Value))).push (seqObj "tuple" vs.toArray 0)).push (seqObj "list" #[] 0) = H3 at ho3 keep3 ⊢
    have fin : ∀ (st : SortSt) (out : List Value), (arrOf st).map (·.2) = out.toArray → failedOf st = none → out.length < 64 → P out → wpAny G.M A.in1.in1 (do
      let sorted := (arrOf st).map (·.2)
      let touched := (← seqEpoch (s.heap.objs.size + 1)) != e1
      Builtin.List.listUpdate (.ref (s.heap.objs.size + 1)) fun _ => sorted
      if let some e := failedOf st then rule "list.sort.comparison-raised"; throw e
      if touched then rule "list.sort.modified"; raiseError "ValueError" "list modified during sort"
      ret .none) (fun fin s' => ∃ v, fin = PySem.Fin.done (Flow.ret v) ∧ wpAny G.M A.in1 (ret (Value.ref (s.heap.objs.size + 1))) (fun fin s' => ∃ v, fin = PySem.Fin.done (Flow.ret v) ∧ Q v s') E s') E { s with heap := H3 } := fun st out hout hf hz hP => by
      refine sort_tail (s := { s with heap := H3 }) ho3 hout hf hz fun h' c hc hs => ⟨_, rfl, wpAny_pure ⟨_, rfl, ?_⟩⟩
      exact h out _ h' c hP hnew hc fun b o e => (hs.2 b (fun z => by rw [z, hnew] at e; cases e)).trans (keep3 b o e)
    by_cases h2 : vs.length < 2
    · have hn2 : vs.toArray.size < 2 := by rw [List.size_toArray]; lia
      dsimp only
      rw [if_pos hn2, if_pos hn2]
      refine wpAny_bind (wpAny_pure ?_)
      refine wpAny_bind (wpAny_pure ?_)
      refine fin (SortSt.mk' general' (vs.toArray.zip vs.toArray) #[] 7 none) vs ?_ rfl (by lia) (hshort h2)
      show Array.map (fun x => x.snd) (vs.toArray.zip vs.toArray) = vs.toArray
      have hz := List.map_snd_zip (l₁ := vs) (l₂ := vs) (Nat.le_refl _)
      apply Array.ext'
      rw [Array.toList_map, Array.toList_zip]
      exact hz
    · have hn2 : ¬ vs.toArray.size < 2 := by rw [List.size_toArray]; lia
      dsimp only
      rw [if_neg hn2, if_neg hn2]
      refine wpAny_bind (wpAny_mono (hlong (by lia) H3 keep3) (fun κ s0 hk => ?_) fun _ _ x => x.elim)
      refine wpAny_bind (wpAny_mono (kat_run (ks := vs) (vs := vs) (Q := fun st' s' => ∃ p : Array Nat, arrOf st' = p.map (kas_item (vs.toArray.zip vs.toArray)) ∧ failedOf st' = none ∧ s' = { s with heap := H3 } ∧ p.size = vs.length ∧ P (p.toList.map fun i => vs.getD i Value.none))
        rfl (by lia) h64 (fun p' st' s' a1 a2 a3 a4 => ⟨p', a2, a3, a4⟩) hk) ?_ fun _ _ e => e)
      rintro ⟨⟨⟩, st'⟩ s' ⟨p, har, hf, rfl, hpz, hP⟩
      refine fin st' _ (kat_snds rfl har) hf ?_ hP
      rw [List.length_map, Array.length_toList, hpz]; exact h64

theorem dcall_sorted : DCall G d (.builtin "sorted") wSorted := by
  intro A s H Q vs ms rm S nw r old w
  cases ms with
  | nil => exact w.elim
  | cons m ms =>
  cases m <;> first | exact w.elim | skip
  cases ms with
  | cons _ _ => exact w.elim
  | nil =>
  · cases r with
    | cons r1 r0 =>
      cases r0; cases r1.lst_inv
      rename_i a
      obtain ⟨es, hx, h64, hnd, q⟩ := w
      obtain ⟨us, n, hl, rx⟩ := S.isL hx
      have hlen : us.length = es.length := by rw [rx.length]; simp
      refine sorted_run (fun out => ∃ fs : List Ent, VReps s.heap out (fs.map ent) ∧ fs.Perm es ∧ fs.Pairwise (fun e f => elt e f = true)) hl (by lia) (fun h2 => ⟨es, rx, List.Perm.refl _, ?_⟩) (fun h2 h' keep => ?_) (fun out D h' k hP hD hD' hk => ?_)
      · match es, hlen with
        | [], _ => exact .nil
        | [_], _ => exact List.pairwise_singleton _ _
        | _ :: _ :: _, h => simp at h; lia
      · have rx' : VReps h' us (es.map ent) := rx.mono fun b ws e => keep b _ e
        have kinds : ∀ (vs : List Value) (es : List Ent), VReps h' vs (es.map ent) → ∃ fs, KatTups h' vs fs ∧ fs.length = es.length ∧ ∀ v ∈ fs, ∃ i t, v = Value.int i t := by
          intro vs es
          induction es generalizing vs with
          | nil => intro r; cases r; exact ⟨[], .nil, rfl, fun _ hv => nomatch hv⟩
          | cons e es ih =>
            intro r
            cases r with
            | cons q1 q2 =>
              obtain ⟨fs, k1, k2, k3⟩ := ih _ q2
              obtain ⟨b, us, rfl, hb, rb⟩ := q1.tup_inv
              cases rb with
              | cons p1 p2 =>
                obtain ⟨t1, rfl⟩ := p1.int_inv
                refine ⟨.int (e.2.length : Nat) t1 :: fs, .cons hb rfl rfl (by simp) k1, by simp [k2], fun v hv => ?_⟩
                rcases List.mem_cons.mp hv with rfl | hv
                · exact ⟨_, _, rfl⟩
                · exact k3 v hv
        obtain ⟨fs, kt1, kt2, kt3⟩ := kinds us es rx'
        refine kat_kind (s := { s with heap := h' }) (T := .type "int") kt1 (by lia) (fun v hv => by obtain ⟨i, t, rfl⟩ := kt3 v hv; exact Looks.of_pure rfl) (by decide) ?_
        show (kas_sort us.length).kasWp (kas_ask G.prog G.w A.in1.in1 (tuples' true) us) _ _
        rw [hlen]
        refine sort_ok (elt_ord es hnd) (fun i j hi hj hne C hC => ?_) (by lia) fun p P hs => ⟨rfl, P.size, p.toList.map (fun i => es.getD i (0, [])), ?_, ?_, ?_⟩
        · unfold kas_ask
          obtain ⟨b, t1, t2, t3, e1, hb⟩ := vreps_ents rx' hi
          obtain ⟨c, u1, u2, u3, e2, hc⟩ := vreps_ents rx' hj
          rw [e1, e2]
          have ei : es.getD i (0, []) = es[i] := by simp [List.getD_eq_getElem?_getD, hi]
          have ej : es.getD j (0, []) = es[j] := by simp [List.getD_eq_getElem?_getD, hj]
          simp only [ei, ej] at hC
          refine key_lt (s := { s with heap := h' }) hb hc ?_ hC
          have hi' : i < (es.map (·.1)).length := by simpa using hi
          have hj' : j < (es.map (·.1)).length := by simpa using hj
          have hpw := List.pairwise_iff_getElem.mp hnd
          rcases Nat.lt_trichotomy i j with h | h | h
          · simpa using hpw i j hi' hj' h
          · exact absurd h hne
          · simpa using (hpw j i hj' hi' h).symm
        · exact getD_vreps rx _ fun i hi => by
            have := P.perm.mem_iff.mp hi
            exact List.mem_range.mp this
        · have h1 := P.perm.map (fun i => es.getD i (0, []))
          rw [range_getD] at h1
          exact h1
        · rw [List.pairwise_map, List.pairwise_iff_getElem]
          intro i j hi hj hij
          have := hs i j hij (by rw [Array.length_toList, P.size] at hj; exact hj)
          have ei : pat p i = p.toList[i] := by
            have h1 := pat_get (p := p) (i := i) (by simpa using hi)
            rw [← Array.getElem?_toList, List.getElem?_eq_getElem hi] at h1
            exact (Option.some.inj h1).symm
          have ej : pat p j = p.toList[j] := by
            have h1 := pat_get (p := p) (i := j) (by simpa using hj)
            rw [← Array.getElem?_toList, List.getElem?_eq_getElem hj] at h1
            exact (Option.some.inj h1).symm
          rw [ei, ej] at this
          exact this
      · obtain ⟨fs, rf, hp, hpw⟩ := hP
        exact PE.newList S (s' := { s with heap := h' }) ⟨rfl, rfl, hk⟩ hD' hD rf fun c hc => q fs c hp hpw hc
end
end Mine
end
-- part MSre
section
open PySem PySem.W PyProof.Rows PySem.SeqAt
set_option maxRecDepth 100000
namespace Mine
open PySem.Sre

def reCode : Array Nat := #[14, 4, 0, 1, 1, 6, 1, 16, 46, 1]
/-- the machine as it tries the place p -/
def stG (text : Array Nat) (lim p : Nat) (om : Bool) (sn : Sre.Seen) (pc pos handed : Nat) (ans : Option Bool) : M :=
  { code := reCode, text, lim, start := p, lastStart := lim, pc, pos, handed, outermost := om, marks := #[], frames := [{ wait := .nextStart, pc := 5, pos := p, outermost := om }], weight := 1, answer := ans, seen := sn }
abbrev stAt (text : Array Nat) (lim p : Nat) (om : Bool) (sn : Sre.Seen) : M := stG text lim p om sn 5 p p none
def stE (text : Array Nat) (lim ls p : Nat) (om : Bool) (sn : Sre.Seen) (handed : Nat) (ans : Bool) : M :=
  { code := reCode, text, lim, start := p, lastStart := ls, pc := 5, pos := p, handed, outermost := om, marks := #[], answer := some ans, seen := sn }
def bol (text : Array Nat) (p : Nat) : Bool := p == 0 || text.getD (p - 1) 0 == 10
def hit (text : Array Nat) (p : Nat) : Bool := bol text p && text.getD p 0 == 46

theorem search_eq (text : Array Nat) (p lim : Nat) (h : p < lim) : forSearch reCode text 0 p lim false = stAt text lim p true (Sre.Seen.add {} 14) := by
  unfold forSearch
  have h2 : ¬ ((decide (p > lim) || decide (lim - p < 1)) = true) := by simp; lia
  simp only [show (header reCode).1 = 1 from rfl]
  first
  | (rw [if_neg h2]; rfl)
  | (rw [if_neg (by lia)]; rfl)
theorem search_end (text : Array Nat) (lim : Nat) : forSearch reCode text 0 lim lim false = stE text lim 0 lim true (Sre.Seen.add {} 14) lim false := by
  unfold forSearch
  have h2 : ((decide (lim > lim) || decide (lim - lim < 1)) = true) := by simp
  simp only [show (header reCode).1 = 1 from rfl]
  first
  | (rw [if_pos h2]; rfl)
  | (rw [if_pos (by lia)]; rfl)

theorem step_at (text : Array Nat) (lim p : Nat) (om : Bool) (sn : Sre.Seen) : (stAt text lim p om sn).step = if bol text p = true then stG text lim p om ((sn.add 6).add 44) 7 p p none else stG text lim p om ((sn.add 6).add 44) 5 p p (some false) := by
  show (if bol text p = true then _ else _) = _
  rfl
theorem step_lit (text : Array Nat) (lim p : Nat) (om : Bool) (sn : Sre.Seen) (h : p < lim) : (stG text lim p om sn 7 p p none).step = if (text.getD p 0 == 46) = true then stG text lim p om (sn.add 16) 9 (p + 1) p none else stG text lim p om (sn.add 16) 7 p p (some false) := by
  have e : (stG text lim p om sn 7 p p none).step = (if p ≥ lim then stG text lim p om (sn.add 16) 7 p p (some false) else (match (Except.ok (text.getD p 0 == 46, sn.add 16) : Except String (Bool × Sre.Seen)) with
    | .error why => (stG text lim p om (sn.add 16) 7 p p none).stick why
    | .ok (false, seen) => stG text lim p om seen 7 p p (some false)
    | .ok (true, seen) => stG text lim p om seen 9 (p + 1) p none)) := rfl
  rw [e, if_neg (by omega)]
  cases hc : text.getD p 0 == 46 <;> rfl
theorem step_litE (text : Array Nat) (p : Nat) (om : Bool) (sn : Sre.Seen) : (stG text p p om sn 7 p p none).step = stG text p p om (sn.add 16) 7 p p (some false) := by
  show (if p ≥ p then _ else _) = _
  rw [if_pos (Nat.le_refl _)]; rfl
theorem step_ok (text : Array Nat) (lim p : Nat) (om : Bool) (sn : Sre.Seen) : (stG text lim p om sn 9 (p + 1) p none).step = stG text lim p om (sn.add 1) 9 (p + 1) (p + 1) (some true) := by
  cases om <;> rfl
theorem step_yes (text : Array Nat) (lim p pc pos h : Nat) (om : Bool) (sn : Sre.Seen) : (stG text lim p om sn pc pos h (some true)).step = stE text lim lim p om sn h true := rfl
theorem step_no (text : Array Nat) (lim p pc pos h : Nat) (om : Bool) (sn : Sre.Seen) (hl : p < lim) : (stG text lim p om sn pc pos h (some false)).step = stAt text lim (p + 1) false sn := by
  show (if p < lim then _ else _) = _
  rw [if_pos hl]; rfl
theorem step_last (text : Array Nat) (lim pc pos h : Nat) (om : Bool) (sn : Sre.Seen) : (stG text lim lim om sn pc pos h (some false)).step = stE text lim lim lim om sn h false := by
  show (if lim < lim then _ else _) = _
  rw [if_neg (Nat.lt_irrefl _)]; rfl

theorem runFor_add : ∀ (a b : Nat) (m : M), M.runFor (a + b) m = M.runFor b (M.runFor a m)
  | 0, b, m => by rw [Nat.zero_add]; rfl
  | a + 1, b, m => by
    rw [Nat.add_right_comm]
    show (if m.outcome.isSome then m else M.runFor (a + b) m.step) = M.runFor b (if m.outcome.isSome then m else M.runFor a m.step)
    by_cases h : m.outcome.isSome = true
    · rw [if_pos h, if_pos h]
      cases b with
      | zero => rfl
      | succ b => show m = (if m.outcome.isSome then m else _); rw [if_pos h]
    · rw [if_neg h, if_neg h]; exact runFor_add a b _
theorem runFor_succ (k : Nat) (m : M) (h : m.outcome = none) : M.runFor (k + 1) m = M.runFor k m.step := by
  show (if m.outcome.isSome then m else M.runFor k m.step) = _
  rw [h]; rfl
theorem runFor_one (m : M) (h : m.outcome = none) : M.runFor 1 m = m.step := by
  show (if m.outcome.isSome then m else M.runFor 0 m.step) = _
  rw [h]; rfl

theorem runG (k : Nat) {text : Array Nat} {lim p : Nat} {om : Bool} {sn : Sre.Seen} {pc pos handed : Nat} {ans : Option Bool} : M.runFor (k + 1) (stG text lim p om sn pc pos handed ans) = M.runFor k (stG text lim p om sn pc pos handed ans).step := runFor_succ k _ rfl
/-- what a search from p on ends with -/
def isMatched : Option Sre.Outcome → Bool | some .matched => true | _ => false
def isFailed : Option Sre.Outcome → Bool | some .failed => true | _ => false
def Ends (text : Array Nat) (lim p : Nat) (m : M) : Prop :=
  (∃ q, p ≤ q ∧ q < lim ∧ hit text q = true ∧ (∀ r, p ≤ r → r < q → hit text r = false) ∧ m.start = q ∧ m.handed = q + 1 ∧ isMatched m.outcome = true) ∨
  ((∀ r, p ≤ r → r < lim → hit text r = false) ∧ isFailed m.outcome = true)
theorem Ends.next {text : Array Nat} {lim p : Nat} {m : M} (h : Ends text lim (p + 1) m) (hh : hit text p = false) : Ends text lim p m := by
  rcases h with ⟨q, h1, h2, h3, h4, h5⟩ | ⟨h1, h2⟩
  · refine .inl ⟨q, by lia, h2, h3, fun r hr hr' => ?_, h5⟩
    by_cases e : r = p
    · rw [e]; exact hh
    · exact h4 r (by lia) hr'
  · refine .inr ⟨fun r hr hr' => ?_, h2⟩
    by_cases e : r = p
    · rw [e]; exact hh
    · exact h1 r (by lia) hr'

theorem run_from (text : Array Nat) (lim : Nat) : ∀ (f p : Nat) (om : Bool) (sn : Sre.Seen), lim - p = f → p ≤ lim → ∃ k, k ≤ 3 * f + 6 ∧ Ends text lim p (M.runFor k (stAt text lim p om sn)) := by
  intro f
  induction f with
  | zero =>
    intro p om sn hf hp
    have e : p = lim := by lia
    subst e
    by_cases hb : bol text p = true
    · refine ⟨4, by lia, .inr ⟨fun r h1 h2 => by lia, ?_⟩⟩
      rw [runG 3, step_at, if_pos hb, runG 2, step_litE, runG 1, step_last]
      rfl
    · refine ⟨3, by lia, .inr ⟨fun r h1 h2 => by lia, ?_⟩⟩
      rw [runG 2, step_at, if_neg hb, runG 1, step_last]
      rfl
  | succ f ih =>
    intro p om sn hf hp
    have hlt : p < lim := by lia
    by_cases hb : bol text p = true
    · cases hc : text.getD p 0 == 46 with
      | true =>
        refine ⟨5, by lia, .inl ⟨p, Nat.le_refl _, hlt, ?_, fun r h1 h2 => by lia, ?_⟩⟩
        · unfold hit; rw [hb, hc]; rfl
        · rw [runG 4, step_at, if_pos hb, runG 3, step_lit _ _ _ _ _ hlt, if_pos hc, runG 2, step_ok, runG 1, step_yes]
          exact ⟨rfl, rfl, rfl⟩
      | false =>
        have hh : hit text p = false := by unfold hit; rw [hc]; simp
        obtain ⟨k, hk, he⟩ := ih (p + 1) false (((sn.add 6).add 44).add 16) (by lia) (by lia)
        refine ⟨k + 3, by lia, ?_⟩
        rw [runG (k + 2), step_at, if_pos hb, runG (k + 1), step_lit _ _ _ _ _ hlt, if_neg (by rw [hc]; decide), runG k, step_no _ _ _ _ _ _ _ _ hlt]
        exact he.next hh
    · have hh : hit text p = false := by unfold hit; simp [hb]
      obtain ⟨k, hk, he⟩ := ih (p + 1) false ((sn.add 6).add 44) (by lia) (by lia)
      refine ⟨k + 2, by lia, ?_⟩
      rw [runG (k + 1), step_at, if_neg hb, runG k, step_no _ _ _ _ _ _ _ _ hlt]
      exact he.next hh

theorem drive_ {Md : Model} {A : Around} {E : Value → Shared → Prop} {s : Shared} {Q : M → Shared → Prop} : ∀ (t k : Nat) (m : M), 0 < t → k ≤ 4 * t → (M.runFor k m).outcome.isSome = true → Q (M.runFor k m) s → wpAny Md A (Builtin.Re.reDrive t m) Q E s := by
  intro t
  induction t with
  | zero => intro k m h; lia
  | succ t ih =>
    intro k m ht hk ho hq
    show wpAny Md A (if (m.runFor 4).outcome.isSome = true then pure (m.runFor 4) else do rule "sre.turn"; Builtin.Re.reDrive t (m.runFor 4)) Q E s
    have stable : ∀ (n : Nat) (x : M), x.outcome.isSome = true → M.runFor n x = x := fun n x hx => by
      cases n with
      | zero => rfl
      | succ n => show (if x.outcome.isSome then x else _) = x; rw [if_pos hx]
    by_cases h4 : (m.runFor 4).outcome.isSome = true
    · rw [if_pos h4]
      have : M.runFor k m = m.runFor 4 := by
        rcases Nat.le_total k 4 with h | h
        · obtain ⟨j, hj⟩ := Nat.exists_eq_add_of_le h
          have e := runFor_add k j m
          rw [stable j _ ho, ← hj] at e
          rw [← e]
        · obtain ⟨j, rfl⟩ := Nat.exists_eq_add_of_le h
          rw [runFor_add, stable j _ h4]
      rw [this] at hq
      exact wpAny_pure hq
    · rw [if_neg h4]
      refine wpAny_bind (wpAny_rule ?_)
      have hk4 : 4 < k := by
        rcases Nat.lt_or_ge 4 k with h | h
        · exact h
        · obtain ⟨j, hj⟩ := Nat.exists_eq_add_of_le h
          have e := runFor_add k j m
          rw [stable j _ ho, ← hj] at e
          rw [e] at h4; exact absurd ho h4
      obtain ⟨j, rfl⟩ := Nat.exists_eq_add_of_le (Nat.le_of_lt hk4)
      rw [runFor_add] at ho hq
      exact ih j (m.runFor 4) (by lia) (by lia) ho hq
end Mine
end
-- part MJoin
section
open PySem PySem.W PyProof.Rows PySem.SeqAt
set_option maxRecDepth 100000
namespace Mine

def bv (p : List UInt8 × Tok) : Value := .bytes p.1.toArray p.2
theorem take_eq {id : String} {b : Array UInt8} {t : Tok} : Builtin.Bytes.takeBufferQuiet? id (.bytes b t) 0 = pure (some (b, none)) := by
  unfold Builtin.Bytes.takeBufferQuiet? Builtin.Bytes.takeBuffer?
  rw [KBy.special_eq KBy.look_buffer, KBy.own_buffer]
  have e : Builtin.Bytes.buffer? id (.bytes b t) (full := ((0 : Int) == Builtin.Bytes.fullReadOnly)) = pure (some b) := KBy.buffer_eq
  rw [e]
  rfl
theorem slot_join : Slot "bytes" (Str.ofString "join") "bytes.join" :=
  .of (owner := "bytes") (n := "join") (by rw [typeLookup_type, builtinLookup_eq_fast]; kernel_rfl) (by decide +kernel) (by decide +kernel) (by decide +kernel)
    (by first | exact .inl (by decide +kernel) | exact .inr (by decide +kernel)) (by rw [isSubtype_type]; kernel_rfl)
theorem entry_join : entryFor table "bytes.join" = some Builtin.«bytes.join» := entryFor_of_tree (by kernel_rfl)
theorem args_join (a b : Value) : argsOk "bytes.join" ⟨[a, b], []⟩ := by
  unfold argsOk; kernel_rfl

def takenOf (ps : List (List UInt8 × Tok)) : List (Value × Option Value) := ps.map fun p => (bv p, none)
theorem taken_heap : ∀ ps : List (List UInt8 × Tok), (takenOf ps).any (fun x => x.1.onHeap) = false
  | [] => rfl
  | _ :: r => taken_heap r
theorem joinLetGo_ {M : Model} {A : Around} {E : Value → Shared → Prop} {s : Shared} {Q : Unit → Shared → Prop} (q : Q () s) : ∀ (ps : List (List UInt8 × Tok)) (keep : List Value), wpAny M A (Builtin.Bytes.joinLetGo (takenOf ps) keep) Q E s
  | [], _ => wpAny_pure q
  | p :: r, keep => by
    show wpAny M A (do
      letGo (bv p :: (none : Option Value).toList) (keep ++ (takenOf r).flatMap fun (y, u) => y :: u.toList)
      Builtin.Bytes.joinLetGo (takenOf r) keep) Q E s
    exact wpAny_bind (wpAny_letGo (joinLetGo_ q r keep))

theorem joined_nil (ps : List (Array UInt8)) : Builtin.Bytes.joined #[] ps = (ps.map (·.toList)).flatten.toArray := by
  unfold Builtin.Bytes.joined
  have key : ∀ (ps : List (Array UInt8)) (n : Nat) (acc : Array UInt8), (ps.zipIdx n).foldl (fun out (x : Array UInt8 × Nat) => (if x.2 > 0 then out ++ (#[] : Array UInt8) else out) ++ x.1) acc = acc ++ (ps.map (·.toList)).flatten.toArray := by
    intro ps
    induction ps with
    | nil => intro n acc; simp
    | cons p r ih =>
      intro n acc
      rw [List.zipIdx_cons, List.foldl_cons, ih]
      have e : (if n > 0 then acc ++ (#[] : Array UInt8) else acc) = acc := by split <;> simp
      simp only [e]
      rw [Array.append_assoc]
      congr 1
      apply Array.ext'
      simp
  have := key ps 0 #[]
  rw [show (#[] : Array UInt8) ++ (ps.map (·.toList)).flatten.toArray = (ps.map (·.toList)).flatten.toArray by simp] at this
  exact this

theorem fold_size : ∀ (ps : List (List UInt8 × Tok)) (n : Nat), (ps.map fun p => p.1.toArray).foldl (fun a (x : Array UInt8) => a + x.size) n = n + (ps.map (·.1)).flatten.length
  | [], n => by simp
  | p :: r, n => by
    rw [List.map_cons, List.foldl_cons, fold_size r]
    simp; lia

theorem join_run {prog : Program} {w : World} {A : Around} {E : Value → Shared → Prop} {s : Shared} {Q : Value → Shared → Prop} {L : Addr} {ps : List (List UInt8 × Tok)} {n : Nat} {t : Tok} (hL : s.heap.get? L = some (lobj (ps.map bv) n)) (hz : (ps.map (·.1)).flatten.length ≤ 1000000) (hne : ps ≠ [])
    (h : ∀ t' k, Q (.bytes (ps.map (·.1)).flatten.toArray t') { s with toks := k }) : wpAny (model prog w) A (call (.builtin "bytes.join") [.bytes #[] t, .ref L]) Q E s := by
  refine wpAny_call_entry slot_join (typeIs_bytes _ _ _) entry_join ?_ (args_join _ _)
  show wpAny _ _ (Builtin.Bytes.joinM .bytes ⟨[.bytes #[] t, .ref L], []⟩) _ _ s
  unfold Builtin.Bytes.joinM
  refine wpAny_bind (wpAny_of_eq (a := (.bytes #[] t, .ref L)) (by first | rfl | kernel_rfl) ?_)
  show wpAny _ _ (Builtin.Bytes.joinItems (.ref L) >>= _) _ _ s
  refine wpAny_bind ?_
  unfold Builtin.Bytes.joinItems
  refine wpAny_bind (wpAny_typeOf (T := "list") ⟨_, hL, rfl⟩ ?_)
  refine wpAny_pure ?_
  refine wpAny_bind (wpAny_seqItems hL rfl ?_)
  match ps, hL, hz, h, hne with
  | [], hL, hz, h, hne => exact absurd rfl hne
  | [p], hL, hz, h, _ =>
    show wpAny _ _ (typeOf (bv p) >>= _) _ _ s
    refine wpAny_bind (wpAny_of_eq (a := .type "bytes") rfl ?_)
    refine wpAny_bind (wpAny_rule (wpAny_pure ⟨_, rfl, ?_⟩))
    have := h p.2 s.toks
    simp only [List.map_cons, List.map_nil, List.flatten_cons, List.flatten_nil, List.append_nil] at this
    exact this
  | p :: q :: r, hL, hz, h, _ =>
    show wpAny _ _ (forIn (m := Sem) [:(List.map bv (p :: q :: r)).toArray.size] ((#[] : Array (Array UInt8)), ([] : List (Value × Option Value))) _ >>= _) _ _ s
    generalize p :: q :: r = ps at hL hz h ⊢
    have hsz : ([:(List.map bv ps).toArray.size] : Std.Legacy.Range).size = ps.length := by simp [Std.Legacy.Range.size]
    refine wpAny_bind ?_
    rw [Std.Legacy.Range.forIn_eq_forIn_range', hsz]
    show wpAny _ _ (forIn (List.range' 0 ps.length 1) _ _) _ _ s
    refine wpAny_forIn_list _ (fun rest b s' => s' = s ∧ ∃ j, rest = List.range' j (ps.length - j) 1 ∧ j ≤ ps.length ∧ b = (((ps.take j).map fun p => p.1.toArray).toArray, takenOf (ps.take j))) _ ?turn ?fin _ _ ⟨rfl, 0, rfl, Nat.zero_le _, rfl⟩
    case turn =>
      rintro i rest b s' ⟨rfl, j, hr, hj, rfl⟩
      have hlt : j < ps.length := by
        rcases Nat.lt_or_ge j ps.length with h | h
        · exact h
        · rw [show ps.length - j = 0 from by lia] at hr; cases hr
      have hr' : i = j ∧ rest = List.range' (j + 1) (ps.length - (j + 1)) 1 := by
        rw [show ps.length - j = (ps.length - (j + 1)) + 1 from by lia, List.range'_succ] at hr
        injection hr with h1 h2
        exact ⟨h1, h2⟩
      obtain ⟨rfl, rfl⟩ := hr'
      dsimp only
      refine wpAny_bind (wpAny_seqItems hL rfl ?_)
      dsimp only
      have hx : (List.map bv ps).toArray.getD i Value.none = bv ps[i] := by simp [Array.getD, hlt]
      rw [taken_heap, hx]
      refine (show wpAny _ _ (holding _ (Builtin.Bytes.takeBufferQuiet? _ (bv ps[i]) 0) >>= _) _ _ s' from ?_)
      refine wpAny_bind (wpAny_holding (wpAny_of_eq take_eq ?_))
      refine wpAny_bind (wpAny_seqItems hL rfl ?_)
      dsimp only
      rw [if_neg (by simp)]
      refine wpAny_pure ⟨rfl, i + 1, rfl, hlt, ?_⟩
      have e1 : ps.take (i + 1) = ps.take i ++ [ps[i]] := List.take_succ_eq_append_getElem hlt
      rw [e1]
      unfold takenOf
      rw [List.map_append, List.map_append]
      congr 1
      apply Array.ext'
      simp only [Array.toList_push, List.map_cons, List.map_nil, bv]
    case fin =>
      rintro b s' ⟨rfl, j, hr, hj, rfl⟩
      have hj' : j = ps.length := by
        rcases Nat.lt_or_ge j ps.length with h | h
        · rw [show ps.length - j = (ps.length - (j + 1)) + 1 from by lia, List.range'_succ] at hr; cases hr
        · lia
      subst hj'
      rw [List.take_length]
      refine wpAny_bind (wpAny_of_eq (a := #[]) rfl ?_)
      have hsum : Array.foldl (fun x1 (x2 : Array UInt8) => x1 + x2.size) ((#[] : Array UInt8).size * ((ps.map fun p => p.1.toArray).toArray.size - 1)) (ps.map fun p => p.1.toArray).toArray = (ps.map (·.1)).flatten.length := by
        rw [← Array.foldl_toList]
        simp only [Array.size_empty, Nat.zero_mul]
        rw [fold_size]; lia
      have htl : Builtin.Bytes.tooLong (Array.foldl (fun x1 (x2 : Array UInt8) => x1 + x2.size) ((#[] : Array UInt8).size * ((ps.map fun p => p.1.toArray).toArray.size - 1)) (ps.map fun p => p.1.toArray).toArray) = false := by
        rw [hsum]; exact KBy.tooLong_not (by lia)
      rw [htl]
      simp only [Bool.false_eq_true, if_false]
      have hj2 : Builtin.Bytes.joined #[] (ps.map fun p => p.1.toArray).toArray.toList = (ps.map (·.1)).flatten.toArray := by
        rw [joined_nil]
        congr 2
        simp
      rw [hj2]
      refine wpAny_bind (show wpAny _ _ (mkBytes _) _ _ s' from wpAny_mkBytes ?_ (by rw [List.size_toArray, sizeLine_val]; lia))
      refine wpAny_bind (wpAny_holding (wpAny_point ?_))
      refine wpAny_bind (joinLetGo_ ?_ ps _)
      exact wpAny_pure ⟨_, rfl, h _ _⟩
end Mine
end
-- part MRe
section
open PySem PySem.W PyProof.Rows PySem.SeqAt
set_option maxRecDepth 100000
namespace Mine
open PySem.Builtin.Re

/-- a full stop at the start of a line is doubled -/
def quote : Bool → List UInt8 → List UInt8
  | _, [] => []
  | ls, c :: r => (if ls && c == 46 then [46, 46] else [c]) ++ quote (c == 10) r
def bolL (l : List UInt8) (p : Nat) : Bool := p == 0 || l.getD (p - 1) 0 == 10
def rest (l : List UInt8) (p : Nat) : List UInt8 := quote (bolL l p) (l.drop p)
def textOf (l : List UInt8) : Array Nat := l.toArray.map (·.toNat)

theorem text_getD (l : List UInt8) (p : Nat) : (textOf l).getD p 0 = (l.getD p 0).toNat := by
  unfold textOf
  rw [Array.getD_eq_getD_getElem?, List.getD_eq_getElem?_getD]
  by_cases h : p < l.length
  · simp [h]
  · simp [h]
theorem u8_beq (a : UInt8) (n : Nat) (hn : n < 256) : (a.toNat == n) = (a == UInt8.ofNat n) := by
  rw [Bool.eq_iff_iff]
  simp only [beq_iff_eq]
  constructor
  · intro h
    rw [← h]; simp
  · intro h
    rw [h]; simp; omega
theorem bol_eq (l : List UInt8) (p : Nat) : bol (textOf l) p = bolL l p := by
  unfold bol bolL
  rw [text_getD, u8_beq _ 10 (by decide)]
  rfl
theorem hit_eq (l : List UInt8) (p : Nat) : hit (textOf l) p = (bolL l p && l.getD p 0 == 46) := by
  unfold hit
  rw [bol_eq, text_getD, u8_beq _ 46 (by decide)]
  rfl
theorem rest_end (l : List UInt8) : rest l l.length = [] := by unfold rest; rw [List.drop_length]; rfl
theorem rest_succ (l : List UInt8) (p : Nat) (h : p < l.length) : rest l p = (if hit (textOf l) p then [46, 46] else [l[p]]) ++ rest l (p + 1) := by
  have e : l.getD p 0 = l[p] := by simp [List.getD_eq_getElem?_getD, h]
  rw [hit_eq, e]
  unfold rest
  rw [List.drop_eq_getElem_cons h]
  show (if (bolL l p && l[p] == 46) = true then [46, 46] else [l[p]]) ++ quote (l[p] == 10) _ = _
  have e2 : bolL l (p + 1) = (l[p] == 10) := by
    unfold bolL
    rw [show (p + 1 == 0) = false from rfl, Bool.false_or, Nat.add_sub_cancel, e]
  rw [e2]
theorem rest_run (l : List UInt8) : ∀ (k p : Nat), p + k ≤ l.length → (∀ r, p ≤ r → r < p + k → hit (textOf l) r = false) → rest l p = (l.drop p).take k ++ rest l (p + k)
  | 0, p, _, _ => by simp
  | k + 1, p, h, hh => by
    have hp : p < l.length := by lia
    rw [rest_succ l p hp, hh p (Nat.le_refl _) (by lia)]
    rw [rest_run l k (p + 1) (by lia) fun r h1 h2 => hh r (by lia) (by lia)]
    rw [List.drop_eq_getElem_cons hp, List.take_succ_cons]
    simp [Nat.add_assoc, Nat.add_comm 1 k]

structure PatAt (G : Gd) (a : Addr) : Prop where
  pat : ∃ c p t1 t2, G.h₁.get? a = some { cls := .type "re.Pattern", data := .fields #[.bytes p t1, .int 8 t2, .int 0 0, .none, .none, .ref c, .int 1 0] } ∧
    G.h₁.get? c = some { cls := .type "tuple", data := .seq #[.int 14 0, .int 4 0, .int 0 0, .int 1 0, .int 1 0, .int 6 0, .int 1 0, .int 16 0, .int 46 0, .int 1 0] 0 }

section
variable {G : Gd} {d : Nat} {fm : Fm}

theorem runEnd_match {A : Around} {E : Value → Shared → Prop} {s : Shared} {m : Sre.M} {k : Nat} {Q : Option Sre.M → Shared → Prop} (hk : k ≤ 4 * 2 ^ 64) (ho : isMatched (m.runFor k).outcome = true) (q : Q (some (m.runFor k)) s) : wpAny G.M A (reRunToEnd m) Q E s := by
  unfold reRunToEnd
  have h1 : (m.runFor k).outcome.isSome = true := by
    cases e : (m.runFor k).outcome with
    | none => rw [e] at ho; cases ho
    | some _ => rfl
  refine wpAny_bind (drive_ (2 ^ 64) k m (by decide) hk h1 ?_)
  refine wpAny_bind (wpAny_forIn_list _ (fun _ _ s' => s' = s) _ (fun x rest b s' hs => ?_) (fun b s' hs => ?_) _ _ rfl)
  · subst hs
    split
    · exact wpAny_bind (wpAny_rule (wpAny_pure rfl))
    · exact wpAny_pure rfl
  · subst hs
    cases e : (m.runFor k).outcome with
    | none => rw [e] at ho; cases ho
    | some o =>
      rw [e] at ho
      cases o with
      | matched => exact wpAny_pure q
      | failed => cases ho
      | stuck _ => cases ho
theorem runEnd_fail {A : Around} {E : Value → Shared → Prop} {s : Shared} {m : Sre.M} {k : Nat} {Q : Option Sre.M → Shared → Prop} (hk : k ≤ 4 * 2 ^ 64) (ho : isFailed (m.runFor k).outcome = true) (q : Q none s) : wpAny G.M A (reRunToEnd m) Q E s := by
  unfold reRunToEnd
  have h1 : (m.runFor k).outcome.isSome = true := by
    cases e : (m.runFor k).outcome with
    | none => rw [e] at ho; cases ho
    | some _ => rfl
  refine wpAny_bind (drive_ (2 ^ 64) k m (by decide) hk h1 ?_)
  refine wpAny_bind (wpAny_forIn_list _ (fun _ _ s' => s' = s) _ (fun x rest b s' hs => ?_) (fun b s' hs => ?_) _ _ rfl)
  · subst hs
    split
    · exact wpAny_bind (wpAny_rule (wpAny_pure rfl))
    · exact wpAny_pure rfl
  · subst hs
    cases e : (m.runFor k).outcome with
    | none => rw [e] at ho; cases ho
    | some o =>
      rw [e] at ho
      cases o with
      | matched => cases ho
      | failed => exact wpAny_pure q
      | stuck _ => cases ho

theorem next_found {A : Around} {E : Value → Shared → Prop} {s : Shared} {l : List UInt8} {p : Nat} {Q : Option Sre.M → Shared → Prop} (hp : p ≤ l.length) (hz : l.length ≤ 1000000)
    (h1 : ∀ q m, p ≤ q → q < l.length → hit (textOf l) q = true → (∀ r, p ≤ r → r < q → hit (textOf l) r = false) → m.start = q → m.handed = q + 1 → Q (some m) s)
    (h2 : (∀ r, p ≤ r → r < l.length → hit (textOf l) r = false) → Q none s) : wpAny G.M A (reRunToEnd (Sre.forSearch reCode (textOf l) 0 p l.length false)) Q E s := by
  by_cases hlt : p < l.length
  · rw [search_eq _ _ _ hlt]
    obtain ⟨k, hk, he⟩ := run_from (textOf l) l.length (l.length - p) p true (Sre.Seen.add {} 14) rfl hp
    rcases he with ⟨q, g1, g2, g3, g4, g5, g6, g7⟩ | ⟨g1, g2⟩
    · exact runEnd_match (by lia) g7 (h1 q _ g1 g2 g3 g4 g5 g6)
    · exact runEnd_fail (by lia) g2 (h2 g1)
  · have e : p = l.length := by lia
    subst e
    rw [search_end]
    exact runEnd_fail (k := 1) (by lia) rfl (h2 fun r _ _ => by lia)

theorem special_call : typeLookup (.type "bytes") (Str.ofString "__call__") = pure none := by rw [typeLookup_type, builtinLookup_eq_fast]; kernel_rfl

theorem whole_target {A : Around} {E : Value → Shared → Prop} {s : Shared} {a : Addr} {l : List UInt8} {t : Tok} {Q : ReTarget → Shared → Prop} (hp : PatAt G a) (old : Old G s)
    (q : Q { pattern := .ref a, string := .bytes l.toArray t, code := reCode, text := textOf l, kind := 1, groups := 0, pos := 0, lim := l.length } s) : wpAny G.M A (reWholeTarget (.ref a) (.bytes l.toArray t)) Q E s := by
  obtain ⟨c, p, t1, t2, ha, hc⟩ := hp.pat
  unfold reWholeTarget
  refine wpAny_bind (show wpAny G.M A (fieldsOf (.ref a)) _ _ s from ?_)
  unfold fieldsOf
  refine wpAny_bind (wpAny_load (old _ _ ha) (wpAny_pure ?_))
  refine wpAny_bind (show wpAny G.M A (reTextOf (.bytes l.toArray t)) _ _ s from ?_)
  unfold reTextOf
  refine wpAny_bind (wpAny_of_eq (a := none) rfl ?_)
  refine wpAny_bind (wpAny_of_eq (a := some l.toArray) KBy.quiet_eq ?_)
  refine wpAny_pure ?_
  show wpAny G.M A (reNoCollectionInside (.bytes l.toArray t) 1 >>= _) _ _ s
  refine wpAny_bind ?_
  unfold reNoCollectionInside
  show wpAny G.M A (isInstance (.bytes l.toArray t) (.type "bytes") >>= _) _ _ s
  refine wpAny_bind (wpAny_of_eq (a := true) KBy.isInstance_eq ?_)
  refine wpAny_pure ?_
  refine wpAny_bind (show wpAny G.M A (reRawItems (.ref c)) _ _ s from ?_)
  unfold reRawItems
  refine wpAny_bind (wpAny_seqItems (old _ _ hc) rfl (wpAny_pure ?_))
  refine wpAny_pure ?_
  have e : (textOf l).size = l.length := by simp [textOf]
  rw [← e] at q
  have ec : Array.map (fun x => x.toNat) (Array.map reRawOf #[Value.int 14 0, Value.int 4 0, Value.int 0 0, Value.int 1 0, Value.int 1 0, Value.int 6 0, Value.int 1 0, Value.int 16 0, Value.int 46 0, Value.int 1 0]) = reCode := by
    simp [reCode, reRawOf]
  rw [← ec] at q
  exact q

theorem lit_ok {A : Around} {E : Value → Shared → Prop} {s : Shared} {b : Array UInt8} {t : Tok} {Q : Unit → Shared → Prop} (q : Q () s) : wpAny G.M A (reLiteralCannotBeTurned (.bytes b t)) Q E s := by
  unfold reLiteralCannotBeTurned
  refine wpAny_bind (wpAny_of_eq (a := none) rfl ?_)
  show wpAny G.M A (isInstance (.bytes b t) (.type "bytes") >>= _) _ _ s
  exact wpAny_bind (wpAny_of_eq (a := true) KBy.isInstance_eq (wpAny_pure q))

theorem plain_loop : plainId "re.Pattern.sub.loop" = true := by decide +kernel
theorem entry_loop : entryFor table "re.Pattern.sub.loop" = some Builtin.«re.Pattern.sub.loop» := entryFor_of_tree (by kernel_rfl)

theorem slice_eq {A : Around} {E : Value → Shared → Prop} {s : Shared} {l : List UInt8} {b e : Nat} {Q : Value → Shared → Prop} (hz : l.length ≤ 1000000) (q : Q (.bytes ((l.drop b).take (e - b)).toArray s.toks) { s with toks := s.toks + 1 }) : wpAny G.M A (reSlice (textOf l) 1 b e) Q E s := by
  have h : ((textOf l).extract b e).map (·.toUInt8) = ((l.drop b).take (e - b)).toArray := by
    apply Array.ext'
    unfold textOf
    have hid : ((fun x => UInt8.ofNat x) ∘ fun x : UInt8 => x.toNat) = id := by funext x; simp
    simp [List.extract_eq_take_drop, List.map_take, List.map_drop, hid]
  show wpAny G.M A (mkBytes (((textOf l).extract b e).map (·.toUInt8))) Q E s
  rw [h]
  exact wpAny_mkBytes q (by rw [List.size_toArray, List.length_take, sizeLine_val]; have := List.length_drop (i := b) (l := l); lia)

theorem push_at {h : Heap} {L : Addr} {ps : List (List UInt8 × Tok)} {e : Nat} (p : List UInt8 × Tok) (hL : h.get? L = some (lobj (ps.map bv) e)) : ∃ e2, (h.update L (Obj.mapSeq fun x => x.push (bv p))).get? L = some (lobj ((ps ++ [p]).map bv) e2) := by
  have := get?_update_seq (show h.get? L = some (seqObj "list" (ps.map bv).toArray e) from hL) (fun x => x.push (bv p))
  have e1 : (ps.map bv).toArray.push (bv p) = ((ps ++ [p]).map bv).toArray := by simp
  rw [e1] at this
  exact ⟨_, this⟩

theorem push_run {A : Around} {E : Value → Shared → Prop} {s : Shared} {L : Addr} {ps : List (List UInt8 × Tok)} {e : Nat} (p : List UInt8 × Tok) {Q : Unit → Shared → Prop} (hL : s.heap.get? L = some (lobj (ps.map bv) e)) (hz : ps.length ≤ 1000000)
    (h : ∀ h' e2, h'.get? L = some (lobj ((ps ++ [p]).map bv) e2) → (∀ b o, b ≠ L → s.heap.get? b = some o → h'.get? b = some o) → Q () { s with heap := h' }) : wpAny G.M A (updateSeq L fun x => x.push (bv p)) Q E s := by
  obtain ⟨e2, he2⟩ := push_at p hL
  refine wpAny_updateSeq hL rfl (h _ e2 he2 fun b o hb eb => (Heap.get?_update_other _ _ (Ne.symm hb)).trans eb) (by simp [sizeLine_val]; lia) (by simp [sizeLine_val]; lia)

theorem sub_loop {A : Around} {E : Value → Shared → Prop} {s₀ : Shared} {a L : Addr} {l : List UInt8} {t u : Tok} {Q : Value → Shared → Prop} (hp : PatAt G a) (old : Old G s₀) (hz : l.length ≤ 100000) (hnL : s₀.heap.get? L = none)
    (hQ : ∀ t' s', Grew s₀ s' → Q (.bytes (quote true l).toArray t') s') :
    ∀ (f c : Nat) (n : Int) (s : Shared) (ps : List (List UInt8 × Tok)) (e : Nat), l.length - c = f → c ≤ l.length → s.os = s₀.os → s.gens = s₀.gens → (∀ b o, s₀.heap.get? b = some o → s.heap.get? b = some o) → s.heap.get? L = some (lobj (ps.map bv) e) →
      (ps.map (·.1)).flatten ++ rest l c = quote true l → (ps.map (·.1)).flatten.length ≤ 2 * c → ps.length ≤ 2 * c → codeAny G.M A (.builtin "re.Pattern.sub.loop" ⟨[.ref a, .bytes l.toArray t, .bytes #[46, 46] u, rawInt 0, rawInt 0, rawInt n, rawInt c, rawInt c, .bool false, .ref L, .bool false], []⟩) (wants Q E) s := by
  intro f
  induction f using Nat.strongRecOn with
  | _ f ih =>
    intro c n s ps e hf hc ho hg keep hL hout hlen hpl
    refine codeAny_builtin entry_loop ?_
    rw [Around.under_plainId plain_loop _]
    show wpAny G.M A.in1 (reWholeTarget (.ref a) (.bytes l.toArray t) >>= _) _ _ s
    refine wpAny_bind (whole_target hp (fun b o hb => keep b o (old b o hb)) ?_)
    show wpAny G.M A.in1 (reLiteralCannotBeTurned (.bytes #[46, 46] u) >>= _) _ _ s
    refine wpAny_bind (lit_ok ?_)
    dsimp only
    have h00 : ¬ (((0 : Int) != 0 && decide (n ≥ 0)) = true) := by simp
    rw [if_neg h00]
    simp only [Int.toNat_natCast]
    refine wpAny_bind (show wpAny G.M A.in1 (reRunToEnd (Sre.forSearch reCode (textOf l) 0 c l.length false)) _ _ s from next_found hc (by lia) (fun q m g1 g2 g3 g4 g5 g6 => ?_) (fun g1 => ?_))
    · -- one more place
      dsimp only
      rw [g5, g6]
      have hrest : rest l c = (l.drop c).take (q - c) ++ ([46, 46] ++ rest l (q + 1)) := by
        rw [rest_run l (q - c) c (by lia) (fun r h1 h2 => g4 r h1 (by lia))]
        rw [show c + (q - c) = q from by lia, rest_succ l q g2, g3]; rfl
      have htk : ((l.drop c).take (q - c)).length = q - c := by rw [List.length_take, List.length_drop]; lia
      have fin : ∀ (ps' : List (List UInt8 × Tok)) (s' : Shared) (e' : Nat), (ps'.map (·.1)).flatten = (ps.map (·.1)).flatten ++ (l.drop c).take (q - c) → ps'.length ≤ 2 * q + 1 → s'.os = s₀.os → s'.gens = s₀.gens → (∀ b o, s₀.heap.get? b = some o → s'.heap.get? b = some o) → s'.heap.get? L = some (lobj (ps'.map bv) e') →
          wpAny G.M A.in1 (do
            let __r ← updateSeq L fun x => x.push (bv ([46, 46], u))
            again (Code.builtin "re.Pattern.sub.loop" ⟨[Value.ref a, Value.bytes l.toArray t, Value.bytes #[46, 46] u, rawInt 0, rawInt 0, rawInt (n + 1), rawInt ((q + 1 : Nat) : Int), rawInt ((q + 1 : Nat) : Int), Value.bool (q + 1 == q), Value.ref L, Value.bool false], []⟩)) (fun fin s' => match fin with
              | .done f => wants Q E (Except.ok f) s'
              | .again c' => c'.quiet = true ∧ codeAny G.M A c' (wants Q E) s') (fun e s' => wants Q E (.error e) s') s' := by
        intro ps' s' e' hps hpl' ho' hg' keep' hL'
        refine wpAny_bind (push_run ([46, 46], u) hL' (by lia) fun h' e2 he2 hk => ?_)
        rw [show (q + 1 == q) = false from by simp]
        refine wpAny_pure ⟨plainId_quiet plain_loop _, ih (l.length - (q + 1)) (by lia) (q + 1) (n + 1) _ (ps' ++ [([46, 46], u)]) e2 rfl (by lia) ho' hg' (fun b o eb => hk b o (fun z => by rw [z, hnL] at eb; cases eb) (keep' b o eb)) he2 ?_ ?_ ?_⟩
        · rw [List.map_append, List.flatten_append, hps, ← hout, hrest]
          simp
        · have h1 := congrArg List.length hps
          rw [List.length_append, htk] at h1
          rw [List.map_append, List.flatten_append, List.length_append, h1]
          show _ + 2 ≤ _
          lia
        · rw [List.length_append]; simp; lia
      by_cases hcq : c < q
      · rw [if_pos hcq]
        refine wpAny_bind (slice_eq (by lia) ?_)
        refine wpAny_bind (push_run (G := G) (((l.drop c).take (q - c)), s.toks) (s := { s with toks := s.toks + 1 }) hL (by lia) fun h' e2 he2 hk => ?_)
        exact fin (ps ++ [((l.drop c).take (q - c), s.toks)]) _ e2 (by rw [List.map_append, List.flatten_append]; simp) (by rw [List.length_append]; simp; lia) ho hg (fun b o eb => hk b o (fun z => by rw [z, hnL] at eb; cases eb) (keep b o eb)) he2
      · rw [if_neg hcq]
        have : q = c := by lia
        subst this
        exact fin ps s e (by simp) (by lia) ho hg keep hL
    · -- the end
      dsimp only
      have hrest : rest l c = l.drop c := by
        rw [rest_run l (l.length - c) c (by lia) (fun r h1 h2 => g1 r h1 (by lia))]
        rw [show c + (l.length - c) = l.length from by lia, rest_end, List.append_nil, List.take_of_length_le (by rw [List.length_drop]; lia)]
      rw [hrest] at hout
      have fin : ∀ (ps' : List (List UInt8 × Tok)) (s' : Shared) (e' : Nat), (ps'.map (·.1)).flatten = quote true l → s'.os = s₀.os → s'.gens = s₀.gens → (∀ b o, s₀.heap.get? b = some o → s'.heap.get? b = some o) → s'.heap.get? L = some (lobj (ps'.map bv) e') →
          wpAny G.M A.in1 (do
            let joiner ← reSlice (textOf l) 1 0 0
            let items ← seqItems? (Value.ref L)
            if (items.getD #[]).isEmpty = true then do
              let text ← pure joiner
              ret text
            else do
              let text ← call (Value.builtin "bytes.join") [joiner, Value.ref L]
              ret text) (fun fin s' => match fin with
              | .done f => wants Q E (Except.ok f) s'
              | .again c' => c'.quiet = true ∧ codeAny G.M A c' (wants Q E) s') (fun e s' => wants Q E (.error e) s') s' := by
        intro ps' s' e' hps ho' hg' keep' hL'
        refine wpAny_bind (slice_eq (by lia) ?_)
        refine wpAny_bind (wpAny_seqItems (s := { s' with toks := s'.toks + 1 }) hL' rfl ?_)
        by_cases hemp : ps' = []
        · subst hemp
          rw [if_pos (by simp)]
          refine wpAny_bind (wpAny_pure (wpAny_pure ?_))
          have hq0 : quote true l = [] := by rw [← hps]; rfl
          have := hQ s'.toks { s' with toks := s'.toks + 1 } ⟨ho', hg', keep'⟩
          rw [hq0] at this
          exact this
        · rw [if_neg (by simpa using hemp)]
          have hlq : (quote true l).length ≤ 2 * l.length := by
            rw [← hout, List.length_append, List.length_drop]; lia
          refine wpAny_bind (join_run (s := { s' with toks := s'.toks + 1 }) hL' (by rw [hps]; lia) hemp fun t' k => wpAny_pure ?_)
          rw [hps]
          exact hQ t' { s' with toks := k } ⟨ho', hg', keep'⟩
      by_cases hcq : c < l.length
      · rw [if_pos hcq]
        refine wpAny_bind (slice_eq (by lia) ?_)
        refine wpAny_bind (push_run (G := G) (((l.drop c).take (l.length - c)), s.toks) (s := { s with toks := s.toks + 1 }) hL (by lia) fun h' e2 he2 hk => ?_)
        refine fin (ps ++ [((l.drop c).take (l.length - c), s.toks)]) _ e2 ?_ ho hg (fun b o eb => hk b o (fun z => by rw [z, hnL] at eb; cases eb) (keep b o eb)) he2
        rw [List.map_append, List.flatten_append, ← hout]
        simp
        rw [List.take_of_length_le (by rw [List.length_drop]; lia)]
      · rw [if_neg hcq]
        have : c = l.length := by lia
        subst this
        refine fin ps s e ?_ ho hg keep hL
        rw [← hout]; simp
end
end Mine
end
-- part MRe2
section
open PySem PySem.W PyProof.Rows PySem.SeqAt
set_option maxRecDepth 100000
namespace Mine
open PySem.Builtin.Re

theorem slot_sub : Slot "re.Pattern" (Str.ofString "sub") "re.Pattern.sub" :=
  .of (owner := "re.Pattern") (n := "sub") (by rw [typeLookup_type, builtinLookup_eq_fast]; kernel_rfl) (by decide +kernel) (by decide +kernel) (by decide +kernel)
    (by first | exact .inl (by decide +kernel) | exact .inr (by decide +kernel)) (by rw [isSubtype_type]; kernel_rfl)
theorem entry_sub : entryFor table "re.Pattern.sub" = some Builtin.«re.Pattern.sub» := entryFor_of_tree (by kernel_rfl)
theorem args_sub (a b c : Value) : argsOk "re.Pattern.sub" ⟨[a, b, c], []⟩ := by
  unfold argsOk; kernel_rfl
theorem type_sub : typeOf (.builtin "re.Pattern.sub") = pure (.type "method_descriptor") := by show builtinType _ = _; rw [builtinType_eq_fast]; kernel_rfl
theorem plainAttrs_re : PlainAttrs "re.Pattern" :=
  ⟨⟨"object.__getattribute__", by rw [typeLookup_type, builtinLookup_eq_fast]; kernel_rfl, by decide +kernel⟩, by rw [typeLookup_type, builtinLookup_eq_fast]; kernel_rfl⟩
section
variable {G : Gd} {d : Nat} {fm : Fm}
def wReSub : List MV → (MV → MHeap → Prop) → MHeap → Prop
  | [.bytes r, .bytes l], Q, H => r = [46, 46] ∧ l.length ≤ 100000 ∧ Q (.bytes (quote true l)) H
  | _, _, _ => False

theorem named_eq (x y : Value) : reNamed "re.Pattern.sub" "sub" ["repl", "string", "count"] 2 [x, y] [] = pure [some x, some y, none] := by first | rfl | kernel_rfl

theorem resub_run {A : Around} {E : Value → Shared → Prop} {s : Shared} {a : Addr} {l : List UInt8} {t u : Tok} {Q : Value → Shared → Prop} (hp : PatAt G a) (old : Old G s) (hz : l.length ≤ 100000)
    (hQ : ∀ t' s', Grew s s' → Q (.bytes (quote true l).toArray t') s') : wpAny G.M A (call (.builtin "re.Pattern.sub") [.ref a, .bytes #[46, 46] u, .bytes l.toArray t]) Q E s := by
  obtain ⟨c, p, t1, t2, ha, hc⟩ := hp.pat
  refine wpAny_call (codeAny_call_builtin slot_sub.plain entry_sub (slot_sub.check _ _ _ _ _ _ _ _ (show s.TypeIs (.ref a) "re.Pattern" from ⟨_, old _ _ ha, rfl⟩) (args_sub _ _ _) ?_))
  show wpAny G.M A.in1 (reSubstitute "re.Pattern.sub" "sub" false ⟨[.ref a, .bytes #[46, 46] u, .bytes l.toArray t], []⟩) _ _ s
  unfold reSubstitute
  refine wpAny_bind (wpAny_of_eq (named_eq _ _) ?_)
  refine wpAny_bind (wpAny_of_eq (a := (0 : Int)) rfl ?_)
  refine wpAny_bind (wpAny_specialOf_val (T := "bytes") rfl special_call ?_)
  show wpAny G.M A.in1 (asStr? (.bytes #[46, 46] u) >>= _) _ _ s
  refine wpAny_bind (wpAny_of_eq (a := none) rfl ?_)
  refine wpAny_bind (wpAny_of_eq (a := some #[46, 46]) KBy.quiet_eq ?_)
  refine wpAny_bind (wpAny_of_eq (a := true) (by rw [show (!(#[46, 46] : Array UInt8).contains 92) = true from by decide +kernel]) ?_)
  show wpAny G.M A.in1 (holding _ (reWholeTarget (.ref a) (.bytes l.toArray t)) >>= _) _ _ s
  refine wpAny_bind (wpAny_holding (whole_target hp old ?_))
  show wpAny G.M A.in1 (newList [] >>= _) _ _ s
  refine wpAny_bind (wpAny_newObj_type ?_)
  have g := Grew.push s (lobj [] 0) s.toks
  refine wpAny_pure ⟨plainId_quiet plain_loop _, ?_⟩
  exact sub_loop (E := E) (Q := Q) hp old hz (get_new _) hQ l.length 0 0 { s with heap := s.heap.push (lobj [] 0) } [] 0 rfl (Nat.zero_le _) rfl rfl g.2.2 (Heap.get?_push_size _ rfl) (by unfold rest; rfl) (by simp) (by simp)

/-- pattern.sub(b'..', text) -/
theorem de_resub {x : Str} {a : Addr} {p apos pos : Pos} {e e' : Expr} {Wa : WA} (hx : x ∈ fm.gls) (hg : GlobIs G x (.ref a)) (hp : PatAt G a) (ha : DA G fm d [e, e'] Wa) (hline : (apos.endLine == pos.line) = true := by rfl) (hpl : plainArgs [e, e'] = true := by rfl) :
    DE G fm d (.Call (.Attribute (.Name x p) (Str.ofString "sub") apos) [e, e'] [] pos) (fun ρ Q H => Wa ρ (fun vs H₁ => wReSub vs Q H₁) H) := by
  intro env A s ρ H Q rm S w
  obtain ⟨c, p0, t1, t2, ha0, hc0⟩ := hp.pat
  refine wpAny_Call_method_late rfl ?_ hline rfl (ev_glob hx hg S ?_)
  · have h1 : (backTo pos (starEach [e, e'] env)).all (fun x => !x.1) = true := by
      have := backTo_plain hpl env pos
      rw [List.any_eq_false] at this
      rw [List.all_eq_true]
      intro x hx
      have := this x hx
      simpa using this
    rw [h1]; rfl
  · refine ⟨"re.Pattern", "re.Pattern.sub", plainAttrs_re, slot_sub, type_sub, ⟨_, S.old _ _ ha0, rfl⟩, fun b hb => by cases hb; exact ⟨_, S.old _ _ ha0, rfl⟩, ?_⟩
    refine Calls.callWith_builtin (backTo_plain hpl env pos) ?_
    rw [starEach_cons hpl env]
    refine Calls.evalArgs_plain ?_
    have := ha env A s ρ H _ pos rm S w
    rw [starEach_cons hpl env] at this
    refine wpAny_mono this (fun vs s₁ h₁ => ?_) fun _ _ x => x
    obtain ⟨ms, H₁, w₁, vms, S₁, k₁⟩ := h₁
    have St₁ := S.kp k₁ S₁
    cases ms with
    | nil => exact w₁.elim
    | cons m ms =>
    cases m <;> first | exact w₁.elim | skip
    cases ms with
    | nil => exact w₁.elim
    | cons m ms =>
    cases m <;> first | exact w₁.elim | skip
    cases ms with
    | cons _ _ => exact w₁.elim
    | nil =>
    · cases vms with
      | cons r1 r0 =>
        cases r0 with
        | cons r2 r0 =>
          cases r0
          obtain ⟨u, rfl⟩ := r1.bytes_inv; obtain ⟨t, rfl⟩ := r2.bytes_inv
          obtain ⟨rfl, hz, q⟩ := w₁
          refine resub_run hp St₁.old hz fun t' s' g => ?_
          exact PE.trans k₁ _ _ (PE.now S₁ g (.bytes _ _) q)
end
end Mine
end
-- part TopA
section
open PySem PySem.W PyProof.Rows
set_option maxRecDepth 100000
set_option maxHeartbeats 8000000
namespace Mine
open_top hd for PySem.Challenge.rw_op0052_01
end Mine
end
-- part MTop
section
open PySem PySem.W PyProof.Rows PySem.SeqAt
set_option maxRecDepth 100000
namespace Mine

noncomputable abbrev KK (P : Params) : Frag := Mine.hd.heap_39 P
structure Pg (G : Gd) (P : Params) : Prop where
  ok : G.Ok
  kin : (KK P).In G.h₁
  blt : ∀ x : Str, x ≠ "__name__" → G.mb x = bootBuiltins x

section
variable {G : Gd} {P : Params}
theorem Pg.glob (g : Pg G P) {x : Str} {v : Value} (e : nsIn (KK P) mainGlobals x = some (some v)) : GlobIs G x v := .main g.ok.g (mg_of g.kin g.ok.g e)
theorem Pg.blob (g : Pg G P) {x : Str} {v : Value} (e : nsIn (KK P) mainGlobals x = some none) (h : bootBuiltins x = some v) (hn : x ≠ "__name__") : GlobIs G x v :=
  .builtin g.ok.g g.ok.b (mg_none_of g.kin g.ok.g e) (by rw [g.blt x hn]; exact h)

noncomputable def obj (P : Params) (a : Addr) : Obj := ((KK P).lookup a).getD default
noncomputable def fdOf (P : Params) (a : Addr) : FuncData := match (obj P a).data with | .func fd => fd | _ => default
noncomputable def bodyOf (P : Params) (a : Addr) : List Stmt := match (fdOf P a).body with | .stmts b => b | _ => []

end
end Mine
end
-- part MSx
section
open PySem PySem.W PyProof.Rows PySem.SeqAt
namespace Mine
section
variable {Q : MV → MHeap → Prop} {Qb : Bool → MHeap → Prop} {Qi : List MV → (MHeap → Prop) → MHeap → Prop} {Qu : MHeap → Prop} {H : MHeap} {ρ : Loc}
theorem sx_then_next {W : Loc → (MFlow → Loc → MHeap → Prop) → MHeap → Prop} {K : MFlow → Loc → MHeap → Prop} : thenW W K .next ρ H = W ρ K H := rfl
theorem sx_then_ret {W : Loc → (MFlow → Loc → MHeap → Prop) → MHeap → Prop} {K : MFlow → Loc → MHeap → Prop} {v : MV} : thenW W K (.ret v) ρ H = K (.ret v) ρ H := rfl
theorem sx_then_brk {W : Loc → (MFlow → Loc → MHeap → Prop) → MHeap → Prop} {K : MFlow → Loc → MHeap → Prop} : thenW W K .brk ρ H = K .brk ρ H := rfl
theorem sx_then_cont {W : Loc → (MFlow → Loc → MHeap → Prop) → MHeap → Prop} {K : MFlow → Loc → MHeap → Prop} : thenW W K .cont ρ H = K .cont ρ H := rfl
theorem sx_boolof {b : Bool} : BoolOf Qb (.bool b) H = Qb b H := rfl
theorem sx_set {i j : Nat} {v : MV} : (ρ.set i v) j = if j = i then some v else ρ j := rfl
theorem sx_loc {ps : List (Str × Nat)} {ms : List MV} {j : Nat} : locOf ps ms j = ((ps.map (·.2)).zip ms).lookup j := rfl
theorem sx_clear {own : List (Str × Nat)} {j : Nat} : (ρ.clear own) j = if (own.any fun p => p.2 == j) then none else ρ j := rfl
variable {a b : Int} {x y : MV} {l m : List UInt8} {c e : Addr} {xs ys : List MV} {p q : Bool} {v w : Value}
theorem sx_add_i : wAdd (.int a) (.int b) Q H = Q (.int (a + b)) H := rfl
theorem sx_add_b : wAdd (.bytes l) (.bytes m) Q H = (l.length + m.length ≤ 1000000 ∧ Q (.bytes (l ++ m)) H) := rfl
theorem sx_add_l : wAdd (.lst c) (.lst e) Q H = ∃ xs, H c = some xs ∧ ∃ ys, H e = some ys ∧ xs.length + ys.length ≤ 1000000 ∧ ∀ k, H k = none → Q (.lst k) (H.set k (xs ++ ys)) := rfl
theorem sx_sub : wSub (.int a) (.int b) Q H = Q (.int (a - b)) H := rfl
theorem sx_mul_i : wMul (.int a) (.int b) Q H = ((-1000000000 < b ∧ b < 1000000000) ∧ Q (.int (a * b)) H) := rfl
theorem sx_mul_l : wMul (.lst c) (.int b) Q H = ∃ x, H c = some [x] ∧ (-1000000 ≤ b ∧ b ≤ 1000000) ∧ ∀ k, H k = none → Q (.lst k) (H.set k (List.replicate b.toNat x)) := rfl
theorem sx_mul_b : wMul (.bytes l) (.int b) Q H = ∃ x, l = [x] ∧ (-1000000 ≤ b ∧ b ≤ 1000000) ∧ Q (.bytes (List.replicate b.toNat x)) H := rfl
theorem sx_div : wDiv (.int a) (.int b) Q H = ((0 < b ∧ b < 1000000000) ∧ Q (.int (a.fdiv b)) H) := rfl
theorem sx_mod : wMod (.int a) (.int b) Q H = (0 < b ∧ Q (.int (a.fmod b)) H) := rfl
theorem sx_pow : wPow (.int a) (.int b) Q H = ((0 ≤ b ∧ b ≤ 100) ∧ (-1000000000 < a ∧ a < 1000000000) ∧ Q (.int (a ^ b.toNat)) H) := rfl
theorem sx_shl : wShl (.int a) (.int b) Q H = ((0 ≤ b ∧ b ≤ 100) ∧ (-1000000000 < a ∧ a < 1000000000) ∧ Q (.int (a * 2 ^ b.toNat)) H) := rfl
theorem sx_shr : wShr (.int a) (.int b) Q H = (0 ≤ b ∧ Q (.int (a.fdiv (2 ^ b.toNat))) H) := rfl
theorem sx_and : wAnd (.int a) (.int b) Q H = Q (.int (Builtin.bitAnd a b)) H := rfl
theorem sx_or : wOr (.int a) (.int b) Q H = Q (.int (Builtin.bitOr a b)) H := rfl
theorem sx_iadd : wIAdd (.int a) (.int b) Q H = Q (.int (a + b)) H := rfl
theorem sx_eq_i : wEq (.int a) (.int b) Q H = Q (.bool (decide (a = b))) H := rfl
theorem sx_eq_b : wEq (.bytes l) (.bytes m) Q H = Q (.bool (decide (l = m))) H := rfl
theorem sx_eq_t : wEq (.tup xs) (.tup ys) Q H = ∃ k, meq 3 (.tup xs) (.tup ys) = some k ∧ Q (.bool k) H := rfl
theorem sx_eq_l : wEq (.lst c) (.lst e) Q H = ∃ xs, H c = some xs ∧ ∃ ys, H e = some ys ∧ ((xs.length ≠ ys.length ∧ Q (.bool false) H) ∨ (xs.length = ys.length ∧ ∃ k, allSome (List.zipWith (meq 3) xs ys) = some k ∧ Q (.bool k) H)) := rfl
theorem sx_ne_i : wNe (.int a) (.int b) Q H = Q (.bool (decide (a ≠ b))) H := rfl
theorem sx_ne_b : wNe (.bytes l) (.bytes m) Q H = Q (.bool (decide (l ≠ m))) H := rfl
theorem sx_ne_t : wNe (.tup xs) (.tup ys) Q H = ∃ k, meq 3 (.tup xs) (.tup ys) = some k ∧ Q (.bool (!k)) H := rfl
theorem sx_lt_i : wLt (.int a) (.int b) Q H = Q (.bool (decide (a < b))) H := rfl
theorem sx_lt_t : wLt (.tup xs) (.tup ys) Q H = (xs.length = ys.length ∧ ∃ k, mlt xs ys = some k ∧ Q (.bool k) H) := rfl
theorem sx_le : wLe (.int a) (.int b) Q H = Q (.bool (decide (a ≤ b))) H := rfl
theorem sx_gt : wGt (.int a) (.int b) Q H = Q (.bool (decide (b < a))) H := rfl
theorem sx_ge : wGe (.int a) (.int b) Q H = Q (.bool (decide (b ≤ a))) H := rfl
theorem sx_is : wIs x y Q H = ∃ k, mis x y = some k ∧ Q (.bool k) H := rfl
theorem sx_isn : wIsNot x y Q H = ∃ k, mis x y = some k ∧ Q (.bool (!k)) H := rfl
theorem sx_mis1 {s t : String} : mis (.raw (.type s)) (.raw (.type t)) = some (s == t) := rfl
theorem sx_mis2 : mis .none .none = some true := rfl
theorem sx_mis3 : mis (.bool p) .none = some false := rfl
theorem sx_mis4 : mis (.bytes l) .none = some false := rfl
theorem sx_tr_b : wTruth (.bool p) Qb H = Qb p H := rfl
theorem sx_tr_i : wTruth (.int a) Qb H = Qb (decide (a ≠ 0)) H := rfl
theorem sx_tr_l : wTruth (.lst c) Qb H = ∃ xs, H c = some xs ∧ xs.length < 1000000 ∧ Qb (decide (xs ≠ [])) H := rfl
theorem sx_neg : wNeg (.int a) Q H = Q (.int (-a)) H := rfl
theorem sx_it_l : wItem (.lst c) (.int a) Q H = ∃ xs, H c = some xs ∧ (0 ≤ a ∧ a < 1000000) ∧ ∃ x, xs[a.toNat]? = some x ∧ Q x H := rfl
theorem sx_it_t : wItem (.tup xs) (.int a) Q H = ((0 ≤ a ∧ a < 1000000) ∧ ∃ x, xs[a.toNat]? = some x ∧ Q x H) := rfl
theorem sx_it_b : wItem (.bytes l) (.int a) Q H = ∃ x, (0 ≤ a ∧ a < 1000000) ∧ l.length < 1000000 ∧ l[a.toNat]? = some x ∧ Q (.int x.toNat) H := rfl
theorem sx_len_l : wLen [.lst c] Q H = ∃ xs, H c = some xs ∧ xs.length < 1000000 ∧ Q (.int xs.length) H := rfl
theorem sx_len_b : wLen [.bytes l] Q H = (l.length < 1000000 ∧ Q (.int l.length) H) := rfl
theorem sx_ty_b : wType [.bytes l] Q H = Q (.raw (.type "bytes")) H := rfl
theorem sx_ty_p : wType [.bool p] Q H = Q (.raw (.type "bool")) H := rfl
theorem sx_by : wBytes [.lst c] Q H = ∃ (ns : List Int), H c = some (ns.map .int) ∧ (∀ n ∈ ns, 0 ≤ n ∧ n < 256) ∧ ns.length ≤ 1000000 ∧ Q (.bytes (ns.map fun n => n.toNat.toUInt8)) H := rfl
theorem sx_app : wAppend [.lst c, x] Q H = ∃ xs, H c = some xs ∧ xs.length ≤ 1000000 ∧ Q .none (H.set c (xs ++ [x])) := rfl
theorem sx_ext : wExtend [.lst c, .lst e] Q H = ∃ xs, H c = some xs ∧ ∃ ys, H e = some ys ∧ c ≠ e ∧ xs.length + ys.length ≤ 1000000 ∧ Q .none (H.set c (xs ++ ys)) := rfl
theorem sx_pop : wPop [.lst c] Q H = ∃ xs x, H c = some (xs ++ [x]) ∧ xs.length ≤ 1000000 ∧ Q x (H.set c xs) := rfl
theorem sx_cnt : wCount [.lst c, x] Q H = ∃ xs, H c = some xs ∧ (∀ y ∈ xs, (meq 3 y x).isSome = true) ∧ Q (.int (countM xs x)) H := rfl
theorem sx_pair {Qp : MV → MV → MHeap → Prop} : wPair (.tup [x, y]) Qp H = Qp x y H := rfl
theorem sx_tail : wTail (.tup (x :: xs)) Q H = (xs.length ≤ 1000 ∧ Q (.tup xs) H) := rfl
theorem sx_mt_l : mtype "list" (.lst c) H = ∃ xs, H c = some xs := by unfold mtype; rfl
theorem sx_mt_b : mtype "bytes" (.bytes l) H = True := by unfold mtype; rfl
theorem sx_nr0 : notRef .none = True := rfl
theorem sx_ib : wIterBytes (.bytes l) Qi H = Qi (byteItems l) (fun _ => True) H := rfl
theorem sx_il : wIterList (.lst c) Qi H = ∃ xs, H c = some xs ∧ Qi xs (fun H' => H' c = some xs) H := rfl
theorem sx_ir1 : wIterRange [.int a] Qi H = ((-1000000 < a ∧ a < 1000000) ∧ Qi (runItems 0 1 a.toNat) (fun _ => True) H) := rfl
theorem sx_ir3 {z : Int} : wIterRange [.int a, .int b, .int z] Qi H = ((a = 0 ∧ z = 4) ∧ (0 ≤ b ∧ b < 1000000) ∧ Qi (runItems 0 4 ((b + 3) / 4).toNat) (fun _ => True) H) := rfl
theorem sx_irev : wIterRev [.int a] Qi H = ((0 ≤ a ∧ a < 1000000) ∧ Qi (runItems (a - 1) (-1) a.toNat) (fun _ => True) H) := rfl
theorem sx_ien : wIterEnum (.lst c) Qi H = ∃ xs, H c = some xs ∧ Qi (enumFrom 0 xs) (fun H' => H' c = some xs) H := rfl
theorem sx_mk : wMaketrans [.bytes l, .bytes m] Q H = (l.length = m.length ∧ Q (.bytes (mkTab l m).toList) H) := rfl
theorem sx_trn : wTranslate [.bytes l, .bytes m] Q H = (m.length = 256 ∧ l.length ≤ 1000000 ∧ Q (.bytes (trans m l)) H) := rfl
theorem sx_resub : wReSub [.bytes l, .bytes m] Q H = (l = [46, 46] ∧ m.length ≤ 100000 ∧ Q (.bytes (quote true m)) H) := rfl
theorem sx_isi1 : wIsinst [.bytes l, .raw (.type "str")] Q H = Q (.bool false) H := by
  refine propext ⟨?_, fun q => ⟨l, .inl ⟨rfl, q⟩⟩⟩
  rintro ⟨l', ⟨e, q⟩ | ⟨e, q⟩⟩
  · exact q
  · cases e
theorem sx_isi2 : wIsinst [.bytes l, .tup [.raw (.type "bytes"), .raw (.type "bytearray")]] Q H = Q (.bool true) H := by
  refine propext ⟨?_, fun q => ⟨l, .inr ⟨rfl, q⟩⟩⟩
  rintro ⟨l', ⟨e, q⟩ | ⟨e, q⟩⟩
  · cases e
  · exact q
theorem sx_sum : wSum [.lst c] Q H = ∃ ns : List Int, H c = some (ns.map .int) ∧ Q (.int ns.sum) H := rfl
theorem sx_min : wMin [.lst c] Q H = ∃ x xs m, H c = some (x :: xs) ∧ minFrom x xs = some m ∧ Q m H := rfl
theorem sx_sorted : wSorted [.lst c] Q H = ∃ es : List Ent, H c = some (es.map ent) ∧ es.length < 64 ∧ (es.map (·.1)).Nodup ∧ ∀ (fs : List Ent) k, fs.Perm es → fs.Pairwise (fun e f => elt e f = true) → H k = none → Q (.lst k) (H.set k (fs.map ent)) := rfl
theorem sx_si : wSetItem (.lst c) (.int a) x Qu H = ∃ xs, H c = some xs ∧ (0 ≤ a ∧ a < (xs.length : Int) ∧ a < 1000000) ∧ Qu (H.set c (xs.set a.toNat x)) := rfl
theorem sx_sl {G : Gd} {f : List MV → List MV} : wSlice G f (.lst c) Q H = ∃ xs, H c = some xs ∧ xs.length ≤ 1000000 ∧ ∀ k, H k = none → Q (.lst k) (H.set k (f xs)) := rfl
theorem sx_slr {G : Gd} {f : List MV → List MV} : wSlice G f (.raw (.ref c)) Q H = ∃ xs, RO G c xs ∧ xs.length ≤ 1000000 ∧ ∀ k, H k = none → Q (.lst k) (H.set k (f xs)) := rfl
end
end Mine
end
-- part MP1
section
open PySem PySem.W PyProof.Rows PySem.SeqAt
set_option maxRecDepth 100000
namespace Mine
section
variable {G : Gd} {P : Params} {d : Nat} {fm : Fm}

def tlB : List Stmt → List Stmt | _ :: r => r | [] => []
def selB (k : Bool) : List Stmt → List Stmt
  | .If _ b e _ :: _ => if k then e else b
  | .For _ _ b _ _ :: _ => b
  | .While _ b _ _ :: _ => b
  | _ => []
theorem den_cps {T : Prop} (b : List Stmt) {W : WS} (h : DB G fm d b W) (k : ∀ W', DB G fm d b W' → W' = W → T) : T := k W h rfl
theorem unf {W W' : WS} (e : W = W') {ρ : Loc} {K : MFlow → Loc → MHeap → Prop} {H : MHeap} (h : W' ρ K H) : W ρ K H := by rw [e]; exact h

theorem len_s {α : Type} {vs : List α} {n : Nat} (h : vs.length = n + 1) : ∃ a r, vs = a :: r ∧ r.length = n := by
  cases vs with
  | nil => cases h
  | cons a r => exact ⟨a, r, rfl, Nat.succ.inj h⟩
theorem len_1 {α : Type} {vs : List α} (h : vs.length = 1) : ∃ a, vs = [a] := by
  obtain ⟨a, r, rfl, h'⟩ := len_s h
  exact ⟨a, by rw [List.length_eq_zero_iff.mp h']⟩
theorem len_2 {α : Type} {vs : List α} (h : vs.length = 2) : ∃ a b, vs = [a, b] := by
  obtain ⟨a, r, rfl, h'⟩ := len_s h
  obtain ⟨b, rfl⟩ := len_1 h'
  exact ⟨a, b, rfl⟩
theorem len_3 {α : Type} {vs : List α} (h : vs.length = 3) : ∃ a b c, vs = [a, b, c] := by
  obtain ⟨a, r, rfl, h'⟩ := len_s h
  obtain ⟨b, c, rfl⟩ := len_2 h'
  exact ⟨a, b, c, rfl⟩
theorem DCall.le {d d' : Nat} {f : Value} {W : List MV → (MV → MHeap → Prop) → MHeap → Prop} (h : DCall G d f W) (hd : d ≤ d') : DCall G d' f W := fun A s H Q vs ms rm S nw r old w => h A s H Q vs ms (rm.le hd) S nw r old w
theorem DCall.mono {d : Nat} {f : Value} {W W' : List MV → (MV → MHeap → Prop) → MHeap → Prop} (h : DCall G d f W) (hw : ∀ ms Q H, W' ms Q H → W ms Q H) : DCall G d f W' := fun A s H Q vs ms rm S nw r old w => h A s H Q vs ms rm S nw r old (hw ms Q H w)
theorem DCallK.le {d d' : Nat} {f : Value} {kws : List Str} {W : List MV → List MV → (MV → MHeap → Prop) → MHeap → Prop} (h : DCallK G d f kws W) (hd : d ≤ d') : DCallK G d' f kws W := fun A s H Q vs ms ks kms rm S nw r rk old w => h A s H Q vs ms ks kms (rm.le hd) S nw r rk old w
theorem DCallK.mono {d : Nat} {f : Value} {kws : List Str} {W W' : List MV → List MV → (MV → MHeap → Prop) → MHeap → Prop} (h : DCallK G d f kws W) (hw : ∀ ms kms Q H, W' ms kms Q H → W ms kms Q H) : DCallK G d f kws W' := fun A s H Q vs ms ks kms rm S nw r rk old w => h A s H Q vs ms ks kms rm S nw r rk old (hw ms kms Q H w)
theorem DCallK.plain {d : Nat} {f : Value} {W : List MV → List MV → (MV → MHeap → Prop) → MHeap → Prop} {W' : List MV → (MV → MHeap → Prop) → MHeap → Prop} (h : DCallK G d f [] W) (hw : ∀ ms Q H, W' ms Q H → W ms [] Q H) : DCall G d f W' := fun A s H Q vs ms rm S nw r old w => h A s H Q vs ms [] [] rm S nw r .nil old (hw ms Q H w)
theorem dall_dead {op : BoolOp} {es : List Expr} : DAll G fm d op es (fun _ _ _ => False) := fun _ _ _ _ _ _ _ _ w => w.elim

def posF (n : Nat) : List MV → List MV → Option (List MV) := fun ms _ => if ms.length = n then some ms else none
theorem dbind_pos {fd : FuncData} {ps : List (Str × Nat)} (h : ∀ vs : List Value, vs.length = ps.length → bindArgs fd ⟨vs, []⟩ = pure ((ps.map (·.1)).zip vs)) : DBind G fd ps [] (posF ps.length) := by
  intro s vs ks ms kms all old r rk hF
  unfold posF at hF
  split at hF
  · rename_i hl
    cases hF
    have hl' : vs.length = ps.length := r.length.trans hl
    exact ⟨vs, r, hl', BindsTo.of_eq (h vs hl')⟩
  · cases hF

theorem gb_len (g : Pg G P) : GlobIs G (Str.ofString "len") (.builtin "len") := g.blob (by kernel_rfl) (by decide +kernel) (by decide +kernel)
theorem gb_sum (g : Pg G P) : GlobIs G (Str.ofString "sum") (.builtin "sum") := g.blob (by kernel_rfl) (by decide +kernel) (by decide +kernel)
theorem gb_min (g : Pg G P) : GlobIs G (Str.ofString "min") (.builtin "min") := g.blob (by kernel_rfl) (by decide +kernel) (by decide +kernel)
theorem gb_sorted (g : Pg G P) : GlobIs G (Str.ofString "sorted") (.builtin "sorted") := g.blob (by kernel_rfl) (by decide +kernel) (by decide +kernel)
theorem gb_isinstance (g : Pg G P) : GlobIs G (Str.ofString "isinstance") (.builtin "isinstance") := g.blob (by kernel_rfl) (by decide +kernel) (by decide +kernel)
theorem gt_bytes (g : Pg G P) : GlobIs G (Str.ofString "bytes") (.type "bytes") := g.blob (by kernel_rfl) (by decide +kernel) (by decide +kernel)
theorem gt_range (g : Pg G P) : GlobIs G (Str.ofString "range") (.type "range") := g.blob (by kernel_rfl) (by decide +kernel) (by decide +kernel)
theorem gt_type (g : Pg G P) : GlobIs G (Str.ofString "type") (.type "type") := g.blob (by kernel_rfl) (by decide +kernel) (by decide +kernel)
theorem gt_str (g : Pg G P) : GlobIs G (Str.ofString "str") (.type "str") := g.blob (by kernel_rfl) (by decide +kernel) (by decide +kernel)
theorem gt_bool (g : Pg G P) : GlobIs G (Str.ofString "bool") (.type "bool") := g.blob (by kernel_rfl) (by decide +kernel) (by decide +kernel)
theorem gt_enumerate (g : Pg G P) : GlobIs G (Str.ofString "enumerate") (.type "enumerate") := g.blob (by kernel_rfl) (by decide +kernel) (by decide +kernel)
theorem gt_reversed (g : Pg G P) : GlobIs G (Str.ofString "reversed") (.type "reversed") := g.blob (by kernel_rfl) (by decide +kernel) (by decide +kernel)

def fm__b64_value : Fm := { vis := [(Str.ofString "c", 0)], gls := [], cel := [] }
abbrev ps__b64_value : List (Str × Nat) := [(Str.ofString "c", 0)]
theorem o__b64_value : (KK P).lookup 99 = some (obj P 99) := by kernel_rfl
theorem f__b64_value : (obj P 99).data = .func (fdOf P 99) := by kernel_rfl
theorem b__b64_value : (fdOf P 99).body = .stmts (bodyOf P 99) := by kernel_rfl
theorem cd__b64_value : codeIn (KK P) (fdOf P 99).code (fdOf P 99).qualname = true := by kernel_rfl
theorem s__b64_value : scopeOk (fdOf P 99).scope fm__b64_value = true := by kernel_rfl
theorem nc__b64_value : noCells (fdOf P 99).scope = true := by kernel_rfl
theorem fn__b64_value (g : Pg G P) : FnIs G 99 := ⟨_, _, g.kin _ _ o__b64_value, f__b64_value⟩
theorem gl__b64_value (g : Pg G P) : GlobIs G (Str.ofString "_b64_value") (.ref 99) := g.glob (by kernel_rfl)
theorem bi__b64_value (vs : List Value) (h : vs.length = 1) : bindArgs (fdOf P 99) ⟨vs, []⟩ = pure ((ps__b64_value.map (·.1)).zip vs) := by
  obtain ⟨v0, rfl⟩ := len_1 h
  kernel_rfl
def fm__truth : Fm := { vis := [(Str.ofString "x", 0), (Str.ofString "t", 1)], gls := [Str.ofString "type", Str.ofString "bool", Str.ofString "int", Str.ofString "float", Str.ofString "complex", Str.ofString "str", Str.ofString "bytes", Str.ofString "bytearray", Str.ofString "list", Str.ofString "tuple", Str.ofString "dict", Str.ofString "set", Str.ofString "frozenset", Str.ofString "range", Str.ofString "_wall"], cel := [] }
abbrev ps__truth : List (Str × Nat) := [(Str.ofString "x", 0)]
theorem o__truth : (KK P).lookup 92 = some (obj P 92) := by kernel_rfl
theorem f__truth : (obj P 92).data = .func (fdOf P 92) := by kernel_rfl
theorem b__truth : (fdOf P 92).body = .stmts (bodyOf P 92) := by kernel_rfl
theorem cd__truth : codeIn (KK P) (fdOf P 92).code (fdOf P 92).qualname = true := by kernel_rfl
theorem s__truth : scopeOk (fdOf P 92).scope fm__truth = true := by kernel_rfl
theorem nc__truth : noCells (fdOf P 92).scope = true := by kernel_rfl
theorem fn__truth (g : Pg G P) : FnIs G 92 := ⟨_, _, g.kin _ _ o__truth, f__truth⟩
theorem gl__truth (g : Pg G P) : GlobIs G (Str.ofString "_truth") (.ref 92) := g.glob (by kernel_rfl)
theorem bi__truth (vs : List Value) (h : vs.length = 1) : bindArgs (fdOf P 92) ⟨vs, []⟩ = pure ((ps__truth.map (·.1)).zip vs) := by
  obtain ⟨v0, rfl⟩ := len_1 h
  kernel_rfl
def fm__buffer : Fm := { vis := [(Str.ofString "data", 0), (Str.ofString "t", 1)], gls := [Str.ofString "type", Str.ofString "bytes", Str.ofString "bytearray", Str.ofString "_wall"], cel := [] }
abbrev ps__buffer : List (Str × Nat) := [(Str.ofString "data", 0)]
theorem o__buffer : (KK P).lookup 85 = some (obj P 85) := by kernel_rfl
theorem f__buffer : (obj P 85).data = .func (fdOf P 85) := by kernel_rfl
theorem b__buffer : (fdOf P 85).body = .stmts (bodyOf P 85) := by kernel_rfl
theorem cd__buffer : codeIn (KK P) (fdOf P 85).code (fdOf P 85).qualname = true := by kernel_rfl
theorem s__buffer : scopeOk (fdOf P 85).scope fm__buffer = true := by kernel_rfl
theorem nc__buffer : noCells (fdOf P 85).scope = true := by kernel_rfl
theorem fn__buffer (g : Pg G P) : FnIs G 85 := ⟨_, _, g.kin _ _ o__buffer, f__buffer⟩
theorem gl__buffer (g : Pg G P) : GlobIs G (Str.ofString "_buffer") (.ref 85) := g.glob (by kernel_rfl)
theorem bi__buffer (vs : List Value) (h : vs.length = 1) : bindArgs (fdOf P 85) ⟨vs, []⟩ = pure ((ps__buffer.map (·.1)).zip vs) := by
  obtain ⟨v0, rfl⟩ := len_1 h
  kernel_rfl
def fm__ascii_buffer : Fm := { vis := [(Str.ofString "data", 0), (Str.ofString "t", 1)], gls := [Str.ofString "type", Str.ofString "str", Str.ofString "ValueError", Str.ofString "bytes", Str.ofString "bytearray", Str.ofString "_wall"], cel := [] }
abbrev ps__ascii_buffer : List (Str × Nat) := [(Str.ofString "data", 0)]
theorem o__ascii_buffer : (KK P).lookup 78 = some (obj P 78) := by kernel_rfl
theorem f__ascii_buffer : (obj P 78).data = .func (fdOf P 78) := by kernel_rfl
theorem b__ascii_buffer : (fdOf P 78).body = .stmts (bodyOf P 78) := by kernel_rfl
theorem cd__ascii_buffer : codeIn (KK P) (fdOf P 78).code (fdOf P 78).qualname = true := by kernel_rfl
theorem s__ascii_buffer : scopeOk (fdOf P 78).scope fm__ascii_buffer = true := by kernel_rfl
theorem nc__ascii_buffer : noCells (fdOf P 78).scope = true := by kernel_rfl
theorem fn__ascii_buffer (g : Pg G P) : FnIs G 78 := ⟨_, _, g.kin _ _ o__ascii_buffer, f__ascii_buffer⟩
theorem gl__ascii_buffer (g : Pg G P) : GlobIs G (Str.ofString "_ascii_buffer") (.ref 78) := g.glob (by kernel_rfl)
theorem bi__ascii_buffer (vs : List Value) (h : vs.length = 1) : bindArgs (fdOf P 78) ⟨vs, []⟩ = pure ((ps__ascii_buffer.map (·.1)).zip vs) := by
  obtain ⟨v0, rfl⟩ := len_1 h
  kernel_rfl
def fm__bytes_from_decode_data : Fm := { vis := [(Str.ofString "s", 0)], gls := [Str.ofString "isinstance", Str.ofString "str", Str.ofString "UnicodeEncodeError", Str.ofString "ValueError", Str.ofString "bytes_types", Str.ofString "memoryview", Str.ofString "TypeError"], cel := [] }
abbrev ps__bytes_from_decode_data : List (Str × Nat) := [(Str.ofString "s", 0)]
theorem o__bytes_from_decode_data : (KK P).lookup 58 = some (obj P 58) := by kernel_rfl
theorem f__bytes_from_decode_data : (obj P 58).data = .func (fdOf P 58) := by kernel_rfl
theorem b__bytes_from_decode_data : (fdOf P 58).body = .stmts (bodyOf P 58) := by kernel_rfl
theorem cd__bytes_from_decode_data : codeIn (KK P) (fdOf P 58).code (fdOf P 58).qualname = true := by kernel_rfl
theorem s__bytes_from_decode_data : scopeOk (fdOf P 58).scope fm__bytes_from_decode_data = true := by kernel_rfl
theorem nc__bytes_from_decode_data : noCells (fdOf P 58).scope = true := by kernel_rfl
theorem fn__bytes_from_decode_data (g : Pg G P) : FnIs G 58 := ⟨_, _, g.kin _ _ o__bytes_from_decode_data, f__bytes_from_decode_data⟩
theorem gl__bytes_from_decode_data (g : Pg G P) : GlobIs G (Str.ofString "_bytes_from_decode_data") (.ref 58) := g.glob (by kernel_rfl)
theorem bi__bytes_from_decode_data (vs : List Value) (h : vs.length = 1) : bindArgs (fdOf P 58) ⟨vs, []⟩ = pure ((ps__bytes_from_decode_data.map (·.1)).zip vs) := by
  obtain ⟨v0, rfl⟩ := len_1 h
  kernel_rfl
def fm__quote_periods : Fm := { vis := [(Str.ofString "bindata", 0)], gls := [Str.ofString "_twin_re_1"], cel := [] }
abbrev ps__quote_periods : List (Str × Nat) := [(Str.ofString "bindata", 0)]
theorem o__quote_periods : (KK P).lookup 50 = some (obj P 50) := by kernel_rfl
theorem f__quote_periods : (obj P 50).data = .func (fdOf P 50) := by kernel_rfl
theorem b__quote_periods : (fdOf P 50).body = .stmts (bodyOf P 50) := by kernel_rfl
theorem cd__quote_periods : codeIn (KK P) (fdOf P 50).code (fdOf P 50).qualname = true := by kernel_rfl
theorem s__quote_periods : scopeOk (fdOf P 50).scope fm__quote_periods = true := by kernel_rfl
theorem nc__quote_periods : noCells (fdOf P 50).scope = true := by kernel_rfl
theorem fn__quote_periods (g : Pg G P) : FnIs G 50 := ⟨_, _, g.kin _ _ o__quote_periods, f__quote_periods⟩
theorem gl__quote_periods (g : Pg G P) : GlobIs G (Str.ofString "_quote_periods") (.ref 50) := g.glob (by kernel_rfl)
theorem bi__quote_periods (vs : List Value) (h : vs.length = 1) : bindArgs (fdOf P 50) ⟨vs, []⟩ = pure ((ps__quote_periods.map (·.1)).zip vs) := by
  obtain ⟨v0, rfl⟩ := len_1 h
  kernel_rfl
def fm_b2a_base64 : Fm := { vis := [(Str.ofString "data", 0), (Str.ofString "newline", 1), (Str.ofString "bin_data", 2), (Str.ofString "out", 3), (Str.ofString "leftbits", 4), (Str.ofString "leftchar", 5), (Str.ofString "b", 6)], gls := [Str.ofString "_buffer", Str.ofString "_truth", Str.ofString "_B64", Str.ofString "bytes"], cel := [] }
abbrev ps_b2a_base64 : List (Str × Nat) := [(Str.ofString "data", 0), (Str.ofString "newline", 1)]
theorem o_b2a_base64 : (KK P).lookup 115 = some (obj P 115) := by kernel_rfl
theorem f_b2a_base64 : (obj P 115).data = .func (fdOf P 115) := by kernel_rfl
theorem b_b2a_base64 : (fdOf P 115).body = .stmts (bodyOf P 115) := by kernel_rfl
theorem cd_b2a_base64 : codeIn (KK P) (fdOf P 115).code (fdOf P 115).qualname = true := by kernel_rfl
theorem s_b2a_base64 : scopeOk (fdOf P 115).scope fm_b2a_base64 = true := by kernel_rfl
theorem nc_b2a_base64 : noCells (fdOf P 115).scope = true := by kernel_rfl
theorem fn_b2a_base64 (g : Pg G P) : FnIs G 115 := ⟨_, _, g.kin _ _ o_b2a_base64, f_b2a_base64⟩
theorem gl_b2a_base64 (g : Pg G P) : GlobIs G (Str.ofString "b2a_base64") (.ref 115) := g.glob (by kernel_rfl)
def fm_a2b_base64 : Fm := { vis := [(Str.ofString "data", 0), (Str.ofString "strict_mode", 1), (Str.ofString "ascii_data", 2), (Str.ofString "out", 3), (Str.ofString "quad_pos", 4), (Str.ofString "leftchar", 5), (Str.ofString "pads", 6), (Str.ofString "i", 7), (Str.ofString "this_ch", 8)], gls := [Str.ofString "_ascii_buffer", Str.ofString "_truth", Str.ofString "Error", Str.ofString "_b64_value", Str.ofString "len", Str.ofString "bytes"], cel := [] }
abbrev ps_a2b_base64 : List (Str × Nat) := [(Str.ofString "data", 0), (Str.ofString "strict_mode", 1)]
theorem o_a2b_base64 : (KK P).lookup 107 = some (obj P 107) := by kernel_rfl
theorem f_a2b_base64 : (obj P 107).data = .func (fdOf P 107) := by kernel_rfl
theorem b_a2b_base64 : (fdOf P 107).body = .stmts (bodyOf P 107) := by kernel_rfl
theorem cd_a2b_base64 : codeIn (KK P) (fdOf P 107).code (fdOf P 107).qualname = true := by kernel_rfl
theorem s_a2b_base64 : scopeOk (fdOf P 107).scope fm_a2b_base64 = true := by kernel_rfl
theorem nc_a2b_base64 : noCells (fdOf P 107).scope = true := by kernel_rfl
theorem fn_a2b_base64 (g : Pg G P) : FnIs G 107 := ⟨_, _, g.kin _ _ o_a2b_base64, f_a2b_base64⟩
theorem gl_a2b_base64 (g : Pg G P) : GlobIs G (Str.ofString "a2b_base64") (.ref 107) := g.glob (by kernel_rfl)
def fm_b64encode : Fm := { vis := [(Str.ofString "s", 0), (Str.ofString "altchars", 1), (Str.ofString "encoded", 2)], gls := [Str.ofString "b2a_base64", Str.ofString "len", Str.ofString "repr", Str.ofString "bytes"], cel := [] }
abbrev ps_b64encode : List (Str × Nat) := [(Str.ofString "s", 0), (Str.ofString "altchars", 1)]
theorem o_b64encode : (KK P).lookup 123 = some (obj P 123) := by kernel_rfl
theorem f_b64encode : (obj P 123).data = .func (fdOf P 123) := by kernel_rfl
theorem b_b64encode : (fdOf P 123).body = .stmts (bodyOf P 123) := by kernel_rfl
theorem cd_b64encode : codeIn (KK P) (fdOf P 123).code (fdOf P 123).qualname = true := by kernel_rfl
theorem s_b64encode : scopeOk (fdOf P 123).scope fm_b64encode = true := by kernel_rfl
theorem nc_b64encode : noCells (fdOf P 123).scope = true := by kernel_rfl
theorem fn_b64encode (g : Pg G P) : FnIs G 123 := ⟨_, _, g.kin _ _ o_b64encode, f_b64encode⟩
theorem gl_b64encode (g : Pg G P) : GlobIs G (Str.ofString "b64encode") (.ref 123) := g.glob (by kernel_rfl)
def fm_b64decode : Fm := { vis := [(Str.ofString "s", 0), (Str.ofString "altchars", 1), (Str.ofString "validate", 2)], gls := [Str.ofString "_bytes_from_decode_data", Str.ofString "len", Str.ofString "repr", Str.ofString "bytes", Str.ofString "a2b_base64"], cel := [] }
abbrev ps_b64decode : List (Str × Nat) := [(Str.ofString "s", 0), (Str.ofString "altchars", 1), (Str.ofString "validate", 2)]
theorem o_b64decode : (KK P).lookup 131 = some (obj P 131) := by kernel_rfl
theorem f_b64decode : (obj P 131).data = .func (fdOf P 131) := by kernel_rfl
theorem b_b64decode : (fdOf P 131).body = .stmts (bodyOf P 131) := by kernel_rfl
theorem cd_b64decode : codeIn (KK P) (fdOf P 131).code (fdOf P 131).qualname = true := by kernel_rfl
theorem s_b64decode : scopeOk (fdOf P 131).scope fm_b64decode = true := by kernel_rfl
theorem nc_b64decode : noCells (fdOf P 131).scope = true := by kernel_rfl
theorem fn_b64decode (g : Pg G P) : FnIs G 131 := ⟨_, _, g.kin _ _ o_b64decode, f_b64decode⟩
theorem gl_b64decode (g : Pg G P) : GlobIs G (Str.ofString "b64decode") (.ref 131) := g.glob (by kernel_rfl)
def fm_heappop : Fm := { vis := [(Str.ofString "heap", 0), (Str.ofString "lastelt", 1), (Str.ofString "returnitem", 2)], gls := [Str.ofString "_siftup"], cel := [] }
abbrev ps_heappop : List (Str × Nat) := [(Str.ofString "heap", 0)]
theorem o_heappop : (KK P).lookup 138 = some (obj P 138) := by kernel_rfl
theorem f_heappop : (obj P 138).data = .func (fdOf P 138) := by kernel_rfl
theorem b_heappop : (fdOf P 138).body = .stmts (bodyOf P 138) := by kernel_rfl
theorem cd_heappop : codeIn (KK P) (fdOf P 138).code (fdOf P 138).qualname = true := by kernel_rfl
theorem s_heappop : scopeOk (fdOf P 138).scope fm_heappop = true := by kernel_rfl
theorem nc_heappop : noCells (fdOf P 138).scope = true := by kernel_rfl
theorem fn_heappop (g : Pg G P) : FnIs G 138 := ⟨_, _, g.kin _ _ o_heappop, f_heappop⟩
theorem gl_heappop (g : Pg G P) : GlobIs G (Str.ofString "heappop") (.ref 138) := g.glob (by kernel_rfl)
theorem bi_heappop (vs : List Value) (h : vs.length = 1) : bindArgs (fdOf P 138) ⟨vs, []⟩ = pure ((ps_heappop.map (·.1)).zip vs) := by
  obtain ⟨v0, rfl⟩ := len_1 h
  kernel_rfl
def fm_heapreplace : Fm := { vis := [(Str.ofString "heap", 0), (Str.ofString "item", 1), (Str.ofString "returnitem", 2)], gls := [Str.ofString "_siftup"], cel := [] }
abbrev ps_heapreplace : List (Str × Nat) := [(Str.ofString "heap", 0), (Str.ofString "item", 1)]
theorem o_heapreplace : (KK P).lookup 145 = some (obj P 145) := by kernel_rfl
theorem f_heapreplace : (obj P 145).data = .func (fdOf P 145) := by kernel_rfl
theorem b_heapreplace : (fdOf P 145).body = .stmts (bodyOf P 145) := by kernel_rfl
theorem cd_heapreplace : codeIn (KK P) (fdOf P 145).code (fdOf P 145).qualname = true := by kernel_rfl
theorem s_heapreplace : scopeOk (fdOf P 145).scope fm_heapreplace = true := by kernel_rfl
theorem nc_heapreplace : noCells (fdOf P 145).scope = true := by kernel_rfl
theorem fn_heapreplace (g : Pg G P) : FnIs G 145 := ⟨_, _, g.kin _ _ o_heapreplace, f_heapreplace⟩
theorem gl_heapreplace (g : Pg G P) : GlobIs G (Str.ofString "heapreplace") (.ref 145) := g.glob (by kernel_rfl)
theorem bi_heapreplace (vs : List Value) (h : vs.length = 2) : bindArgs (fdOf P 145) ⟨vs, []⟩ = pure ((ps_heapreplace.map (·.1)).zip vs) := by
  obtain ⟨v0, v1, rfl⟩ := len_2 h
  kernel_rfl
def fm_heapify : Fm := { vis := [(Str.ofString "x", 0), (Str.ofString "n", 1), (Str.ofString "i", 2)], gls := [Str.ofString "len", Str.ofString "reversed", Str.ofString "range", Str.ofString "_siftup"], cel := [] }
abbrev ps_heapify : List (Str × Nat) := [(Str.ofString "x", 0)]
theorem o_heapify : (KK P).lookup 152 = some (obj P 152) := by kernel_rfl
theorem f_heapify : (obj P 152).data = .func (fdOf P 152) := by kernel_rfl
theorem b_heapify : (fdOf P 152).body = .stmts (bodyOf P 152) := by kernel_rfl
theorem cd_heapify : codeIn (KK P) (fdOf P 152).code (fdOf P 152).qualname = true := by kernel_rfl
theorem s_heapify : scopeOk (fdOf P 152).scope fm_heapify = true := by kernel_rfl
theorem nc_heapify : noCells (fdOf P 152).scope = true := by kernel_rfl
theorem fn_heapify (g : Pg G P) : FnIs G 152 := ⟨_, _, g.kin _ _ o_heapify, f_heapify⟩
theorem gl_heapify (g : Pg G P) : GlobIs G (Str.ofString "heapify") (.ref 152) := g.glob (by kernel_rfl)
theorem bi_heapify (vs : List Value) (h : vs.length = 1) : bindArgs (fdOf P 152) ⟨vs, []⟩ = pure ((ps_heapify.map (·.1)).zip vs) := by
  obtain ⟨v0, rfl⟩ := len_1 h
  kernel_rfl
def fm__siftdown : Fm := { vis := [(Str.ofString "heap", 0), (Str.ofString "startpos", 1), (Str.ofString "pos", 2), (Str.ofString "newitem", 3), (Str.ofString "parentpos", 4), (Str.ofString "parent", 5)], gls := [], cel := [] }
abbrev ps__siftdown : List (Str × Nat) := [(Str.ofString "heap", 0), (Str.ofString "startpos", 1), (Str.ofString "pos", 2)]
theorem o__siftdown : (KK P).lookup 159 = some (obj P 159) := by kernel_rfl
theorem f__siftdown : (obj P 159).data = .func (fdOf P 159) := by kernel_rfl
theorem b__siftdown : (fdOf P 159).body = .stmts (bodyOf P 159) := by kernel_rfl
theorem cd__siftdown : codeIn (KK P) (fdOf P 159).code (fdOf P 159).qualname = true := by kernel_rfl
theorem s__siftdown : scopeOk (fdOf P 159).scope fm__siftdown = true := by kernel_rfl
theorem nc__siftdown : noCells (fdOf P 159).scope = true := by kernel_rfl
theorem fn__siftdown (g : Pg G P) : FnIs G 159 := ⟨_, _, g.kin _ _ o__siftdown, f__siftdown⟩
theorem gl__siftdown (g : Pg G P) : GlobIs G (Str.ofString "_siftdown") (.ref 159) := g.glob (by kernel_rfl)
theorem bi__siftdown (vs : List Value) (h : vs.length = 3) : bindArgs (fdOf P 159) ⟨vs, []⟩ = pure ((ps__siftdown.map (·.1)).zip vs) := by
  obtain ⟨v0, v1, v2, rfl⟩ := len_3 h
  kernel_rfl
def fm__siftup : Fm := { vis := [(Str.ofString "heap", 0), (Str.ofString "pos", 1), (Str.ofString "endpos", 2), (Str.ofString "startpos", 3), (Str.ofString "newitem", 4), (Str.ofString "childpos", 5), (Str.ofString "rightpos", 6)], gls := [Str.ofString "len", Str.ofString "_siftdown"], cel := [] }
abbrev ps__siftup : List (Str × Nat) := [(Str.ofString "heap", 0), (Str.ofString "pos", 1)]
theorem o__siftup : (KK P).lookup 166 = some (obj P 166) := by kernel_rfl
theorem f__siftup : (obj P 166).data = .func (fdOf P 166) := by kernel_rfl
theorem b__siftup : (fdOf P 166).body = .stmts (bodyOf P 166) := by kernel_rfl
theorem cd__siftup : codeIn (KK P) (fdOf P 166).code (fdOf P 166).qualname = true := by kernel_rfl
theorem s__siftup : scopeOk (fdOf P 166).scope fm__siftup = true := by kernel_rfl
theorem nc__siftup : noCells (fdOf P 166).scope = true := by kernel_rfl
theorem fn__siftup (g : Pg G P) : FnIs G 166 := ⟨_, _, g.kin _ _ o__siftup, f__siftup⟩
theorem gl__siftup (g : Pg G P) : GlobIs G (Str.ofString "_siftup") (.ref 166) := g.glob (by kernel_rfl)
theorem bi__siftup (vs : List Value) (h : vs.length = 2) : bindArgs (fdOf P 166) ⟨vs, []⟩ = pure ((ps__siftup.map (·.1)).zip vs) := by
  obtain ⟨v0, v1, rfl⟩ := len_2 h
  kernel_rfl
def fm__law_values : Fm := { vis := [(Str.ofString "x", 0), (Str.ofString "values", 1), (Str.ofString "rest", 2), (Str.ofString "k", 3)], gls := [Str.ofString "range", Str.ofString "len"], cel := [] }
abbrev ps__law_values : List (Str × Nat) := [(Str.ofString "x", 0)]
theorem o__law_values : (KK P).lookup 173 = some (obj P 173) := by kernel_rfl
theorem f__law_values : (obj P 173).data = .func (fdOf P 173) := by kernel_rfl
theorem b__law_values : (fdOf P 173).body = .stmts (bodyOf P 173) := by kernel_rfl
theorem cd__law_values : codeIn (KK P) (fdOf P 173).code (fdOf P 173).qualname = true := by kernel_rfl
theorem s__law_values : scopeOk (fdOf P 173).scope fm__law_values = true := by kernel_rfl
theorem nc__law_values : noCells (fdOf P 173).scope = true := by kernel_rfl
theorem fn__law_values (g : Pg G P) : FnIs G 173 := ⟨_, _, g.kin _ _ o__law_values, f__law_values⟩
theorem gl__law_values (g : Pg G P) : GlobIs G (Str.ofString "_law_values") (.ref 173) := g.glob (by kernel_rfl)
theorem bi__law_values (vs : List Value) (h : vs.length = 1) : bindArgs (fdOf P 173) ⟨vs, []⟩ = pure ((ps__law_values.map (·.1)).zip vs) := by
  obtain ⟨v0, rfl⟩ := len_1 h
  kernel_rfl
def fm__law_octets : Fm := { vis := [(Str.ofString "values", 0), (Str.ofString "octets", 1), (Str.ofString "k", 2), (Str.ofString "number", 3), (Str.ofString "value", 4)], gls := [Str.ofString "range", Str.ofString "len", Str.ofString "bytes"], cel := [] }
abbrev ps__law_octets : List (Str × Nat) := [(Str.ofString "values", 0)]
theorem o__law_octets : (KK P).lookup 180 = some (obj P 180) := by kernel_rfl
theorem f__law_octets : (obj P 180).data = .func (fdOf P 180) := by kernel_rfl
theorem b__law_octets : (fdOf P 180).body = .stmts (bodyOf P 180) := by kernel_rfl
theorem cd__law_octets : codeIn (KK P) (fdOf P 180).code (fdOf P 180).qualname = true := by kernel_rfl
theorem s__law_octets : scopeOk (fdOf P 180).scope fm__law_octets = true := by kernel_rfl
theorem nc__law_octets : noCells (fdOf P 180).scope = true := by kernel_rfl
theorem fn__law_octets (g : Pg G P) : FnIs G 180 := ⟨_, _, g.kin _ _ o__law_octets, f__law_octets⟩
theorem gl__law_octets (g : Pg G P) : GlobIs G (Str.ofString "_law_octets") (.ref 180) := g.glob (by kernel_rfl)
theorem bi__law_octets (vs : List Value) (h : vs.length = 1) : bindArgs (fdOf P 180) ⟨vs, []⟩ = pure ((ps__law_octets.map (·.1)).zip vs) := by
  obtain ⟨v0, rfl⟩ := len_1 h
  kernel_rfl
def fm__law_grown : Fm := { vis := [(Str.ofString "values", 0), (Str.ofString "turns", 1), (Str.ofString "grown", 2), (Str.ofString "heads", 3), (Str.ofString "k", 4), (Str.ofString "j", 5)], gls := [Str.ofString "range", Str.ofString "len", Str.ofString "sum"], cel := [Str.ofString "turns", Str.ofString "heads"] }
def fm__law_grown_c0 : Fm := { vis := [(Str.ofString "j", 100), (Str.ofString "turns", 1), (Str.ofString "heads", 3)], gls := [], cel := [] }
abbrev ps__law_grown : List (Str × Nat) := [(Str.ofString "values", 0), (Str.ofString "turns", 1)]
theorem o__law_grown : (KK P).lookup 185 = some (obj P 185) := by kernel_rfl
theorem f__law_grown : (obj P 185).data = .func (fdOf P 185) := by kernel_rfl
theorem b__law_grown : (fdOf P 185).body = .stmts (bodyOf P 185) := by kernel_rfl
theorem cd__law_grown : codeIn (KK P) (fdOf P 185).code (fdOf P 185).qualname = true := by kernel_rfl
theorem s__law_grown : scopeOk (fdOf P 185).scope fm__law_grown = true := by kernel_rfl
theorem fn__law_grown (g : Pg G P) : FnIs G 185 := ⟨_, _, g.kin _ _ o__law_grown, f__law_grown⟩
theorem gl__law_grown (g : Pg G P) : GlobIs G (Str.ofString "_law_grown") (.ref 185) := g.glob (by kernel_rfl)
theorem bi__law_grown (vs : List Value) (h : vs.length = 2) : bindArgs (fdOf P 185) ⟨vs, []⟩ = pure ((ps__law_grown.map (·.1)).zip vs) := by
  obtain ⟨v0, v1, rfl⟩ := len_2 h
  kernel_rfl
def fm_law : Fm := { vis := [(Str.ofString "script", 0), (Str.ofString "letters", 1), (Str.ofString "marks", 2), (Str.ofString "done", 3), (Str.ofString "waiting", 4), (Str.ofString "heap", 5), (Str.ofString "turn", 6), (Str.ofString "manner", 7), (Str.ofString "signs", 8), (Str.ofString "least", 9), (Str.ofString "place", 10), (Str.ofString "octets", 11), (Str.ofString "sent", 12), (Str.ofString "read", 13), (Str.ofString "taken", 14), (Str.ofString "turns", 15), (Str.ofString "grown", 16)], gls := [Str.ofString "sum", Str.ofString "enumerate", Str.ofString "heapify", Str.ofString "range", Str.ofString "min", Str.ofString "_quote_periods", Str.ofString "b64encode", Str.ofString "b64decode", Str.ofString "len", Str.ofString "heappop", Str.ofString "heapreplace", Str.ofString "_law_octets", Str.ofString "_law_grown", Str.ofString "sorted"], cel := [Str.ofString "done", Str.ofString "place", Str.ofString "heap"] }
def fm_law_c0 : Fm := { vis := [(Str.ofString "x", 100)], gls := [Str.ofString "_law_values"], cel := [] }
def fm_law_c1 : Fm := { vis := [(Str.ofString "place", 110), (Str.ofString "values", 111)], gls := [Str.ofString "_law_octets", Str.ofString "len"], cel := [] }
def fm_law_c2 : Fm := { vis := [(Str.ofString "j", 120), (Str.ofString "done", 3), (Str.ofString "place", 10)], gls := [], cel := [] }
def fm_law_c3 : Fm := { vis := [(Str.ofString "entry", 130), (Str.ofString "place", 10)], gls := [], cel := [] }
def fm_law_c4 : Fm := { vis := [(Str.ofString "entry", 140), (Str.ofString "heap", 5)], gls := [Str.ofString "heappop"], cel := [] }
abbrev ps_law : List (Str × Nat) := [(Str.ofString "script", 0)]
theorem o_law : (KK P).lookup 190 = some (obj P 190) := by kernel_rfl
theorem f_law : (obj P 190).data = .func (fdOf P 190) := by kernel_rfl
theorem b_law : (fdOf P 190).body = .stmts (bodyOf P 190) := by kernel_rfl
theorem cd_law : codeIn (KK P) (fdOf P 190).code (fdOf P 190).qualname = true := by kernel_rfl
theorem s_law : scopeOk (fdOf P 190).scope fm_law = true := by kernel_rfl
theorem fn_law (g : Pg G P) : FnIs G 190 := ⟨_, _, g.kin _ _ o_law, f_law⟩
theorem gl_law (g : Pg G P) : GlobIs G (Str.ofString "law") (.ref 190) := g.glob (by kernel_rfl)
theorem bi_law (vs : List Value) (h : vs.length = 1) : bindArgs (fdOf P 190) ⟨vs, []⟩ = pure ((ps_law.map (·.1)).zip vs) := by
  obtain ⟨v0, rfl⟩ := len_1 h
  kernel_rfl

end
end Mine
end
-- part MP2
section
open PySem PySem.W PyProof.Rows PySem.SeqAt
set_option maxRecDepth 100000
set_option linter.unusedSimpArgs false
set_option linter.unusedVariables false
namespace Mine
section
variable {G : Gd} {P : Params} {d : Nat} {fm : Fm}

theorem back_ret {Q : MV → MHeap → Prop} {v : MV} {ρ : Loc} {H H' : MHeap} (hs : Sub H' H) (q : Q v H') : Back Q (.ret v) ρ H := ⟨v, H', rfl, hs, q⟩
theorem back_next {Q : MV → MHeap → Prop} {ρ : Loc} {H H' : MHeap} (hs : Sub H' H) (q : Q .none H') : Back Q .next ρ H := ⟨.none, H', rfl, hs, q⟩

def b64abc : List UInt8 := [65, 66, 67, 68, 69, 70, 71, 72, 73, 74, 75, 76, 77, 78, 79, 80, 81, 82, 83, 84, 85, 86, 87, 88, 89, 90, 97, 98, 99, 100, 101, 102, 103, 104, 105, 106, 107, 108, 109, 110, 111, 112, 113, 114, 115, 116, 117, 118, 119, 120, 121, 122, 48, 49, 50, 51, 52, 53, 54, 55, 56, 57, 43, 47]
theorem gl__B64 (g : Pg G P) : GlobIs G (Str.ofString "_B64") (.bytes b64abc.toArray 368) := g.glob (by kernel_rfl)
theorem gl_bytes_types (g : Pg G P) : GlobIs G (Str.ofString "bytes_types") (.ref 51) := g.glob (by kernel_rfl)
theorem vr_bytes_types (g : Pg G P) : VRep G.h₁ (.ref 51) (.tup [.raw (.type "bytes"), .raw (.type "bytearray")]) :=
  .tup (vs := [.type "bytes", .type "bytearray"]) (g.kin 51 _ (by kernel_rfl)) (.cons (.raw _) (.cons (.raw _) .nil))
theorem gl__twin_re_1 (g : Pg G P) : GlobIs G (Str.ofString "_twin_re_1") (.ref 43) := g.glob (by kernel_rfl)
theorem pat_twin (g : Pg G P) : PatAt G 43 := ⟨42, #[40, 63, 109, 41, 94, 92, 46], 292, 305, g.kin 43 _ (by kernel_rfl), g.kin 42 _ (by kernel_rfl)⟩

def b64value (c : Int) : Int := if 65 ≤ c ∧ c ≤ 90 then c - 65 else if 97 ≤ c ∧ c ≤ 122 then c - 71 else if 48 ≤ c ∧ c ≤ 57 then c + 4 else if c = 43 then 62 else if c = 47 then 63 else 64
def w__b64_value : List MV → (MV → MHeap → Prop) → MHeap → Prop
  | [.int c], Q, H => Q (.int (b64value c)) H
  | _, _, _ => False
theorem ite2 {a b : Prop} [Decidable a] [Decidable b] {X Y : Prop} (h : if a ∧ b then X else Y) : if a then (if b then X else Y) else Y := by
  by_cases ha : a
  · by_cases hb : b
    · rw [if_pos ⟨ha, hb⟩] at h; rw [if_pos ha, if_pos hb]; exact h
    · rw [if_neg fun x => hb x.2] at h; rw [if_pos ha, if_neg hb]; exact h
  · rw [if_neg fun x => ha x.1] at h; rw [if_neg ha]; exact h
set_option maxHeartbeats 1000000 in
theorem c__b64_value (g : Pg G P) : DCall G 1 (.ref 99) w__b64_value := by
  refine den_cps (G := G) (fm := fm__b64_value) (d := 0) (selB false (bodyOf P 99)) (db_cons (ds_return (de_bin (de_var (.head _)) de_int dop_sub)) db_nil) fun W1s0 h1s0 e1s0 => ?_
  refine den_cps (G := G) (fm := fm__b64_value) (d := 0) (selB false (tlB (bodyOf P 99))) (db_cons (ds_return (de_bin (de_var (.head _)) de_int dop_sub)) db_nil) fun W2s0 h2s0 e2s0 => ?_
  refine den_cps (G := G) (fm := fm__b64_value) (d := 0) (selB false (tlB (tlB (bodyOf P 99)))) (db_cons (ds_return (de_bin (de_var (.head _)) de_int dop_add)) db_nil) fun W3s0 h3s0 e3s0 => ?_
  refine den_cps (G := G) (fm := fm__b64_value) (d := 0) (selB false (tlB (tlB (tlB (bodyOf P 99))))) (db_cons (ds_return de_int) db_nil) fun W4s0 h4s0 e4s0 => ?_
  refine den_cps (G := G) (fm := fm__b64_value) (d := 0) (selB false (tlB (tlB (tlB (tlB (bodyOf P 99)))))) (db_cons (ds_return de_int) db_nil) fun W5s0 h5s0 e5s0 => ?_
  refine den_cps (G := G) (fm := fm__b64_value) (d := 0) (tlB (tlB (tlB (tlB (tlB (bodyOf P 99)))))) (db_cons (ds_return de_int) db_nil) fun W0s5 h0s5 e0s5 => ?_
  refine den_cps (G := G) (fm := fm__b64_value) (d := 0) (tlB (tlB (tlB (tlB (bodyOf P 99))))) (db_cons (ds_if (dt_cmp (de_var (.head _)) de_int dop_eq) h5s0
    db_nil) h0s5) fun W0s4 h0s4 e0s4 => ?_
  refine den_cps (G := G) (fm := fm__b64_value) (d := 0) (tlB (tlB (tlB (bodyOf P 99)))) (db_cons (ds_if (dt_cmp (de_var (.head _)) de_int dop_eq) h4s0
    db_nil) h0s4) fun W0s3 h0s3 e0s3 => ?_
  refine den_cps (G := G) (fm := fm__b64_value) (d := 0) (tlB (tlB (bodyOf P 99))) (db_cons (ds_if (dt_chain de_int (de_var (.head _)) de_int dop_le dop_le) h3s0
    db_nil) h0s3) fun W0s2 h0s2 e0s2 => ?_
  refine den_cps (G := G) (fm := fm__b64_value) (d := 0) (tlB (bodyOf P 99)) (db_cons (ds_if (dt_chain de_int (de_var (.head _)) de_int dop_le dop_le) h2s0
    db_nil) h0s2) fun W0s1 h0s1 e0s1 => ?_
  refine den_cps (G := G) (fm := fm__b64_value) (d := 0) (bodyOf P 99) (db_cons (ds_if (dt_chain de_int (de_var (.head _)) de_int dop_le dop_le) h1s0
    db_nil) h0s1) fun W0s0 h0s0 e0s0 => ?_
  refine DCallK.plain (dcall_def (fm := fm__b64_value) (d := 0) (body := bodyOf P 99) (ps := ps__b64_value) g.ok (g.kin _ _ o__b64_value) f__b64_value b__b64_value (codeRec_of g.kin cd__b64_value) (by kernel_rfl) (by kernel_rfl) (by kernel_rfl) s__b64_value nc__b64_value (by decide) (by decide) (dbind_pos bi__b64_value)
    h0s0) ?_
  intro ms Q H w
  cases ms with
  | nil => exact w.elim
  | cons m ms =>
  cases m <;> first | exact w.elim | skip
  cases ms with
  | cons _ _ => exact w.elim
  | nil =>
  · refine ⟨_, rfl, ?_⟩
    rename_i c
    change Q (.int (b64value c)) H at w
    unfold b64value at w
    have r0 : locOf ps__b64_value [.int c] 0 = some (.int c) := rfl
    generalize locOf ps__b64_value [.int c] = ρ at r0 ⊢
    rw [e0s0]
    simp only [r0, sx_then_next, sx_then_ret, sx_then_brk, sx_then_cont, sx_boolof, sx_set, sx_loc, sx_clear, sx_add_i, sx_add_b, sx_add_l, sx_sub, sx_mul_i, sx_mul_l, sx_mul_b, sx_div, sx_mod, sx_pow, sx_shl, sx_shr, sx_and, sx_or, sx_iadd, sx_eq_i, sx_eq_b, sx_eq_t, sx_eq_l, sx_ne_i, sx_ne_b, sx_ne_t, sx_lt_i, sx_lt_t, sx_le, sx_gt, sx_ge, sx_is, sx_isn, sx_tr_b, sx_tr_i, sx_tr_l, sx_neg, sx_it_l, sx_it_t, sx_it_b, sx_len_l, sx_len_b, sx_ty_b, sx_ty_p, sx_by, sx_app, sx_ext, sx_pop, sx_cnt, sx_pair, sx_tail, sx_mt_l, sx_mt_b, sx_nr0, sx_ib, sx_il, sx_ir1, sx_ir3, sx_irev, sx_ien, sx_mk, sx_trn, sx_resub, sx_isi1, sx_isi2, sx_sum, sx_min, sx_sorted, sx_si, sx_sl, sx_slr, sx_mis1, sx_mis2, sx_mis3, sx_mis4, String.reduceBEq, String.reduceEq, List.map_cons, List.map_nil, List.zip_cons_cons, List.zip_nil_right, List.lookup_cons, List.lookup_nil, List.any_cons, List.any_nil, Nat.reduceEqDiff, Nat.reduceBEq, beq_self_eq_true, Option.some.injEq, exists_eq_left', exists_eq_left, reduceCtorEq, ite_true, ite_false, if_true, if_false, ↓reduceIte, Bool.false_eq_true, decide_eq_true_eq, true_and, and_true, Bool.not_true, Bool.not_false, Bool.or_false, Bool.false_or, MHeap.set_self, exists_eq', List.length_cons, List.length_nil, Nat.zero_add, Nat.reduceAdd, Nat.reduceLeDiff]
    refine ite2 ?_
    by_cases h1 : 65 ≤ c ∧ c ≤ 90
    · rw [if_pos h1] at w
      rw [if_pos h1, e1s0]
      exact ⟨_, r0, back_ret (ρ := ρ) (Sub.refl _) w⟩
    · rw [if_neg h1] at w
      rw [if_neg h1, e0s1]
      simp only [r0, sx_then_next, sx_then_ret, sx_then_brk, sx_then_cont, sx_boolof, sx_set, sx_loc, sx_clear, sx_add_i, sx_add_b, sx_add_l, sx_sub, sx_mul_i, sx_mul_l, sx_mul_b, sx_div, sx_mod, sx_pow, sx_shl, sx_shr, sx_and, sx_or, sx_iadd, sx_eq_i, sx_eq_b, sx_eq_t, sx_eq_l, sx_ne_i, sx_ne_b, sx_ne_t, sx_lt_i, sx_lt_t, sx_le, sx_gt, sx_ge, sx_is, sx_isn, sx_tr_b, sx_tr_i, sx_tr_l, sx_neg, sx_it_l, sx_it_t, sx_it_b, sx_len_l, sx_len_b, sx_ty_b, sx_ty_p, sx_by, sx_app, sx_ext, sx_pop, sx_cnt, sx_pair, sx_tail, sx_mt_l, sx_mt_b, sx_nr0, sx_ib, sx_il, sx_ir1, sx_ir3, sx_irev, sx_ien, sx_mk, sx_trn, sx_resub, sx_isi1, sx_isi2, sx_sum, sx_min, sx_sorted, sx_si, sx_sl, sx_slr, sx_mis1, sx_mis2, sx_mis3, sx_mis4, String.reduceBEq, String.reduceEq, List.map_cons, List.map_nil, List.zip_cons_cons, List.zip_nil_right, List.lookup_cons, List.lookup_nil, List.any_cons, List.any_nil, Nat.reduceEqDiff, Nat.reduceBEq, beq_self_eq_true, Option.some.injEq, exists_eq_left', exists_eq_left, reduceCtorEq, ite_true, ite_false, if_true, if_false, ↓reduceIte, Bool.false_eq_true, decide_eq_true_eq, true_and, and_true, Bool.not_true, Bool.not_false, Bool.or_false, Bool.false_or, MHeap.set_self, exists_eq', List.length_cons, List.length_nil, Nat.zero_add, Nat.reduceAdd, Nat.reduceLeDiff]
      refine ite2 ?_
      by_cases h2 : 97 ≤ c ∧ c ≤ 122
      · rw [if_pos h2] at w
        rw [if_pos h2, e2s0]
        exact ⟨_, r0, back_ret (ρ := ρ) (Sub.refl _) w⟩
      · rw [if_neg h2] at w
        rw [if_neg h2, e0s2]
        simp only [r0, sx_then_next, sx_then_ret, sx_then_brk, sx_then_cont, sx_boolof, sx_set, sx_loc, sx_clear, sx_add_i, sx_add_b, sx_add_l, sx_sub, sx_mul_i, sx_mul_l, sx_mul_b, sx_div, sx_mod, sx_pow, sx_shl, sx_shr, sx_and, sx_or, sx_iadd, sx_eq_i, sx_eq_b, sx_eq_t, sx_eq_l, sx_ne_i, sx_ne_b, sx_ne_t, sx_lt_i, sx_lt_t, sx_le, sx_gt, sx_ge, sx_is, sx_isn, sx_tr_b, sx_tr_i, sx_tr_l, sx_neg, sx_it_l, sx_it_t, sx_it_b, sx_len_l, sx_len_b, sx_ty_b, sx_ty_p, sx_by, sx_app, sx_ext, sx_pop, sx_cnt, sx_pair, sx_tail, sx_mt_l, sx_mt_b, sx_nr0, sx_ib, sx_il, sx_ir1, sx_ir3, sx_irev, sx_ien, sx_mk, sx_trn, sx_resub, sx_isi1, sx_isi2, sx_sum, sx_min, sx_sorted, sx_si, sx_sl, sx_slr, sx_mis1, sx_mis2, sx_mis3, sx_mis4, String.reduceBEq, String.reduceEq, List.map_cons, List.map_nil, List.zip_cons_cons, List.zip_nil_right, List.lookup_cons, List.lookup_nil, List.any_cons, List.any_nil, Nat.reduceEqDiff, Nat.reduceBEq, beq_self_eq_true, Option.some.injEq, exists_eq_left', exists_eq_left, reduceCtorEq, ite_true, ite_false, if_true, if_false, ↓reduceIte, Bool.false_eq_true, decide_eq_true_eq, true_and, and_true, Bool.not_true, Bool.not_false, Bool.or_false, Bool.false_or, MHeap.set_self, exists_eq', List.length_cons, List.length_nil, Nat.zero_add, Nat.reduceAdd, Nat.reduceLeDiff]
        refine ite2 ?_
        by_cases h3 : 48 ≤ c ∧ c ≤ 57
        · rw [if_pos h3] at w
          rw [if_pos h3, e3s0]
          exact ⟨_, r0, back_ret (ρ := ρ) (Sub.refl _) w⟩
        · rw [if_neg h3] at w
          rw [if_neg h3, e0s3]
          simp only [r0, sx_then_next, sx_then_ret, sx_then_brk, sx_then_cont, sx_boolof, sx_set, sx_loc, sx_clear, sx_add_i, sx_add_b, sx_add_l, sx_sub, sx_mul_i, sx_mul_l, sx_mul_b, sx_div, sx_mod, sx_pow, sx_shl, sx_shr, sx_and, sx_or, sx_iadd, sx_eq_i, sx_eq_b, sx_eq_t, sx_eq_l, sx_ne_i, sx_ne_b, sx_ne_t, sx_lt_i, sx_lt_t, sx_le, sx_gt, sx_ge, sx_is, sx_isn, sx_tr_b, sx_tr_i, sx_tr_l, sx_neg, sx_it_l, sx_it_t, sx_it_b, sx_len_l, sx_len_b, sx_ty_b, sx_ty_p, sx_by, sx_app, sx_ext, sx_pop, sx_cnt, sx_pair, sx_tail, sx_mt_l, sx_mt_b, sx_nr0, sx_ib, sx_il, sx_ir1, sx_ir3, sx_irev, sx_ien, sx_mk, sx_trn, sx_resub, sx_isi1, sx_isi2, sx_sum, sx_min, sx_sorted, sx_si, sx_sl, sx_slr, sx_mis1, sx_mis2, sx_mis3, sx_mis4, String.reduceBEq, String.reduceEq, List.map_cons, List.map_nil, List.zip_cons_cons, List.zip_nil_right, List.lookup_cons, List.lookup_nil, List.any_cons, List.any_nil, Nat.reduceEqDiff, Nat.reduceBEq, beq_self_eq_true, Option.some.injEq, exists_eq_left', exists_eq_left, reduceCtorEq, ite_true, ite_false, if_true, if_false, ↓reduceIte, Bool.false_eq_true, decide_eq_true_eq, true_and, and_true, Bool.not_true, Bool.not_false, Bool.or_false, Bool.false_or, MHeap.set_self, exists_eq', List.length_cons, List.length_nil, Nat.zero_add, Nat.reduceAdd, Nat.reduceLeDiff]
          by_cases h4 : c = 43
          · rw [if_pos h4] at w
            rw [if_pos h4, e4s0]
            exact back_ret (ρ := ρ) (Sub.refl _) w
          · rw [if_neg h4] at w
            rw [if_neg h4, e0s4]
            simp only [r0, sx_then_next, sx_then_ret, sx_then_brk, sx_then_cont, sx_boolof, sx_set, sx_loc, sx_clear, sx_add_i, sx_add_b, sx_add_l, sx_sub, sx_mul_i, sx_mul_l, sx_mul_b, sx_div, sx_mod, sx_pow, sx_shl, sx_shr, sx_and, sx_or, sx_iadd, sx_eq_i, sx_eq_b, sx_eq_t, sx_eq_l, sx_ne_i, sx_ne_b, sx_ne_t, sx_lt_i, sx_lt_t, sx_le, sx_gt, sx_ge, sx_is, sx_isn, sx_tr_b, sx_tr_i, sx_tr_l, sx_neg, sx_it_l, sx_it_t, sx_it_b, sx_len_l, sx_len_b, sx_ty_b, sx_ty_p, sx_by, sx_app, sx_ext, sx_pop, sx_cnt, sx_pair, sx_tail, sx_mt_l, sx_mt_b, sx_nr0, sx_ib, sx_il, sx_ir1, sx_ir3, sx_irev, sx_ien, sx_mk, sx_trn, sx_resub, sx_isi1, sx_isi2, sx_sum, sx_min, sx_sorted, sx_si, sx_sl, sx_slr, sx_mis1, sx_mis2, sx_mis3, sx_mis4, String.reduceBEq, String.reduceEq, List.map_cons, List.map_nil, List.zip_cons_cons, List.zip_nil_right, List.lookup_cons, List.lookup_nil, List.any_cons, List.any_nil, Nat.reduceEqDiff, Nat.reduceBEq, beq_self_eq_true, Option.some.injEq, exists_eq_left', exists_eq_left, reduceCtorEq, ite_true, ite_false, if_true, if_false, ↓reduceIte, Bool.false_eq_true, decide_eq_true_eq, true_and, and_true, Bool.not_true, Bool.not_false, Bool.or_false, Bool.false_or, MHeap.set_self, exists_eq', List.length_cons, List.length_nil, Nat.zero_add, Nat.reduceAdd, Nat.reduceLeDiff]
            by_cases h5 : c = 47
            · rw [if_pos h5] at w
              rw [if_pos h5, e5s0]
              exact back_ret (ρ := ρ) (Sub.refl _) w
            · rw [if_neg h5] at w
              rw [if_neg h5, e0s5]
              exact back_ret (ρ := ρ) (Sub.refl _) w

def w_one (p : MV → Prop) : List MV → (MV → MHeap → Prop) → MHeap → Prop
  | [x], Q, H => p x ∧ Q x H
  | _, _, _ => False
def isB : MV → Prop | .bytes _ => True | _ => False
def isBool : MV → Prop | .bool _ => True | _ => False

theorem sx_one {p : MV → Prop} {x : MV} {Q : MV → MHeap → Prop} {H : MHeap} : w_one p [x] Q H = (p x ∧ Q x H) := rfl
theorem sx_isb {l : List UInt8} : isB (.bytes l) = True := rfl
theorem sx_isbool {b : Bool} : isBool (.bool b) = True := rfl
theorem sx_b64v {c : Int} {Q : MV → MHeap → Prop} {H : MHeap} : w__b64_value [.int c] Q H = Q (.int (b64value c)) H := rfl
theorem c__truth (g : Pg G P) : DCall G 1 (.ref 92) (w_one isBool) := by
  refine DCallK.plain (dcall_def (fm := fm__truth) (d := 0) (body := bodyOf P 92) (ps := ps__truth) g.ok (g.kin _ _ o__truth) f__truth b__truth (codeRec_of g.kin cd__truth) (by kernel_rfl) (by kernel_rfl) (by kernel_rfl) s__truth nc__truth (by decide) (by decide) (dbind_pos bi__truth)
    (db_cons (ds_assign (.tail _ (.head _)) (de_callT (.head _) (gt_type g) (da_cons (de_var (.head _)) da_nil) dcall_type))
    (db_cons (ds_if (dt_bool (dall_or_cons (dt_cmp (de_var (.head _)) de_none dop_is) (dall_or_cons (dt_cmp (de_var (.tail _ (.head _))) (de_glob (.tail _ (.head _)) (gt_bool g) (fun _ => .raw _)) dop_is) dall_dead))) (db_cons (ds_return (de_ifexp (dt_name (de_var (.head _))) de_bool de_bool))
    db_nil)
    db_nil)
    (db_cons ds_dead
    db_nil)))) ?_
  intro ms Q H w
  cases ms with
  | nil => exact w.elim
  | cons x ms =>
  cases ms with
  | cons _ _ => exact w.elim
  | nil =>
  · refine ⟨_, rfl, ?_⟩
    cases x <;> first | exact w.1.elim | skip
    rename_i b
    simp only [sx_then_next, sx_then_ret, sx_then_brk, sx_then_cont, sx_boolof, sx_set, sx_loc, sx_clear, sx_add_i, sx_add_b, sx_add_l, sx_sub, sx_mul_i, sx_mul_l, sx_mul_b, sx_div, sx_mod, sx_pow, sx_shl, sx_shr, sx_and, sx_or, sx_iadd, sx_eq_i, sx_eq_b, sx_eq_t, sx_eq_l, sx_ne_i, sx_ne_b, sx_ne_t, sx_lt_i, sx_lt_t, sx_le, sx_gt, sx_ge, sx_is, sx_isn, sx_tr_b, sx_tr_i, sx_tr_l, sx_neg, sx_it_l, sx_it_t, sx_it_b, sx_len_l, sx_len_b, sx_ty_b, sx_ty_p, sx_by, sx_app, sx_ext, sx_pop, sx_cnt, sx_pair, sx_tail, sx_mt_l, sx_mt_b, sx_nr0, sx_ib, sx_il, sx_ir1, sx_ir3, sx_irev, sx_ien, sx_mk, sx_trn, sx_resub, sx_isi1, sx_isi2, sx_sum, sx_min, sx_sorted, sx_si, sx_sl, sx_slr, sx_mis1, sx_mis2, sx_mis3, sx_mis4, String.reduceBEq, String.reduceEq, List.map_cons, List.map_nil, List.zip_cons_cons, List.zip_nil_right, List.lookup_cons, List.lookup_nil, List.any_cons, List.any_nil, Nat.reduceEqDiff, Nat.reduceBEq, beq_self_eq_true, Option.some.injEq, exists_eq_left', exists_eq_left, reduceCtorEq, ite_true, ite_false, if_true, if_false, ↓reduceIte, Bool.false_eq_true, decide_eq_true_eq, true_and, and_true, Bool.not_true, Bool.not_false, Bool.or_false, Bool.false_or, MHeap.set_self, exists_eq', List.length_cons, List.length_nil, Nat.zero_add, Nat.reduceAdd, Nat.reduceLeDiff]
    cases b <;> simp only [sx_then_next, sx_then_ret, sx_then_brk, sx_then_cont, sx_boolof, sx_set, sx_loc, sx_clear, sx_add_i, sx_add_b, sx_add_l, sx_sub, sx_mul_i, sx_mul_l, sx_mul_b, sx_div, sx_mod, sx_pow, sx_shl, sx_shr, sx_and, sx_or, sx_iadd, sx_eq_i, sx_eq_b, sx_eq_t, sx_eq_l, sx_ne_i, sx_ne_b, sx_ne_t, sx_lt_i, sx_lt_t, sx_le, sx_gt, sx_ge, sx_is, sx_isn, sx_tr_b, sx_tr_i, sx_tr_l, sx_neg, sx_it_l, sx_it_t, sx_it_b, sx_len_l, sx_len_b, sx_ty_b, sx_ty_p, sx_by, sx_app, sx_ext, sx_pop, sx_cnt, sx_pair, sx_tail, sx_mt_l, sx_mt_b, sx_nr0, sx_ib, sx_il, sx_ir1, sx_ir3, sx_irev, sx_ien, sx_mk, sx_trn, sx_resub, sx_isi1, sx_isi2, sx_sum, sx_min, sx_sorted, sx_si, sx_sl, sx_slr, sx_mis1, sx_mis2, sx_mis3, sx_mis4, String.reduceBEq, String.reduceEq, List.map_cons, List.map_nil, List.zip_cons_cons, List.zip_nil_right, List.lookup_cons, List.lookup_nil, List.any_cons, List.any_nil, Nat.reduceEqDiff, Nat.reduceBEq, beq_self_eq_true, Option.some.injEq, exists_eq_left', exists_eq_left, reduceCtorEq, ite_true, ite_false, if_true, if_false, ↓reduceIte, Bool.false_eq_true, decide_eq_true_eq, true_and, and_true, Bool.not_true, Bool.not_false, Bool.or_false, Bool.false_or, MHeap.set_self, exists_eq', List.length_cons, List.length_nil, Nat.zero_add, Nat.reduceAdd, Nat.reduceLeDiff] <;> exact back_ret (Sub.refl _) w.2
theorem c__buffer (g : Pg G P) : DCall G 1 (.ref 85) (w_one isB) := by
  refine DCallK.plain (dcall_def (fm := fm__buffer) (d := 0) (body := bodyOf P 85) (ps := ps__buffer) g.ok (g.kin _ _ o__buffer) f__buffer b__buffer (codeRec_of g.kin cd__buffer) (by kernel_rfl) (by kernel_rfl) (by kernel_rfl) s__buffer nc__buffer (by decide) (by decide) (dbind_pos bi__buffer)
    (db_cons (ds_assign (.tail _ (.head _)) (de_callT (.head _) (gt_type g) (da_cons (de_var (.head _)) da_nil) dcall_type))
    (db_cons (ds_if (dt_cmp (de_var (.tail _ (.head _))) (de_glob (.tail _ (.head _)) (gt_bytes g) (fun _ => .raw _)) dop_is) (db_cons (ds_return (de_var (.head _)))
    db_nil)
    db_nil) db_dead))) ?_
  intro ms Q H w
  cases ms with
  | nil => exact w.elim
  | cons x ms =>
  cases ms with
  | cons _ _ => exact w.elim
  | nil =>
  · refine ⟨_, rfl, ?_⟩
    cases x <;> first | exact w.1.elim | skip
    simp only [sx_then_next, sx_then_ret, sx_then_brk, sx_then_cont, sx_boolof, sx_set, sx_loc, sx_clear, sx_add_i, sx_add_b, sx_add_l, sx_sub, sx_mul_i, sx_mul_l, sx_mul_b, sx_div, sx_mod, sx_pow, sx_shl, sx_shr, sx_and, sx_or, sx_iadd, sx_eq_i, sx_eq_b, sx_eq_t, sx_eq_l, sx_ne_i, sx_ne_b, sx_ne_t, sx_lt_i, sx_lt_t, sx_le, sx_gt, sx_ge, sx_is, sx_isn, sx_tr_b, sx_tr_i, sx_tr_l, sx_neg, sx_it_l, sx_it_t, sx_it_b, sx_len_l, sx_len_b, sx_ty_b, sx_ty_p, sx_by, sx_app, sx_ext, sx_pop, sx_cnt, sx_pair, sx_tail, sx_mt_l, sx_mt_b, sx_nr0, sx_ib, sx_il, sx_ir1, sx_ir3, sx_irev, sx_ien, sx_mk, sx_trn, sx_resub, sx_isi1, sx_isi2, sx_sum, sx_min, sx_sorted, sx_si, sx_sl, sx_slr, sx_mis1, sx_mis2, sx_mis3, sx_mis4, String.reduceBEq, String.reduceEq, List.map_cons, List.map_nil, List.zip_cons_cons, List.zip_nil_right, List.lookup_cons, List.lookup_nil, List.any_cons, List.any_nil, Nat.reduceEqDiff, Nat.reduceBEq, beq_self_eq_true, Option.some.injEq, exists_eq_left', exists_eq_left, reduceCtorEq, ite_true, ite_false, if_true, if_false, ↓reduceIte, Bool.false_eq_true, decide_eq_true_eq, true_and, and_true, Bool.not_true, Bool.not_false, Bool.or_false, Bool.false_or, MHeap.set_self, exists_eq', List.length_cons, List.length_nil, Nat.zero_add, Nat.reduceAdd, Nat.reduceLeDiff]
    exact back_ret (Sub.refl _) w.2
theorem c__ascii_buffer (g : Pg G P) : DCall G 1 (.ref 78) (w_one isB) := by
  refine DCallK.plain (dcall_def (fm := fm__ascii_buffer) (d := 0) (body := bodyOf P 78) (ps := ps__ascii_buffer) g.ok (g.kin _ _ o__ascii_buffer) f__ascii_buffer b__ascii_buffer (codeRec_of g.kin cd__ascii_buffer) (by kernel_rfl) (by kernel_rfl) (by kernel_rfl) s__ascii_buffer nc__ascii_buffer (by decide) (by decide) (dbind_pos bi__ascii_buffer)
    (db_cons (ds_assign (.tail _ (.head _)) (de_callT (.head _) (gt_type g) (da_cons (de_var (.head _)) da_nil) dcall_type))
    (db_cons (ds_if (dt_cmp (de_var (.tail _ (.head _))) (de_glob (.tail _ (.head _)) (gt_str g) (fun _ => .raw _)) dop_is) db_dead
    db_nil)
    (db_cons (ds_if (dt_cmp (de_var (.tail _ (.head _))) (de_glob (.tail _ (.tail _ (.tail _ (.head _)))) (gt_bytes g) (fun _ => .raw _)) dop_is) (db_cons (ds_return (de_var (.head _)))
    db_nil)
    db_nil) db_dead)))) ?_
  intro ms Q H w
  cases ms with
  | nil => exact w.elim
  | cons x ms =>
  cases ms with
  | cons _ _ => exact w.elim
  | nil =>
  · refine ⟨_, rfl, ?_⟩
    cases x <;> first | exact w.1.elim | skip
    simp only [sx_then_next, sx_then_ret, sx_then_brk, sx_then_cont, sx_boolof, sx_set, sx_loc, sx_clear, sx_add_i, sx_add_b, sx_add_l, sx_sub, sx_mul_i, sx_mul_l, sx_mul_b, sx_div, sx_mod, sx_pow, sx_shl, sx_shr, sx_and, sx_or, sx_iadd, sx_eq_i, sx_eq_b, sx_eq_t, sx_eq_l, sx_ne_i, sx_ne_b, sx_ne_t, sx_lt_i, sx_lt_t, sx_le, sx_gt, sx_ge, sx_is, sx_isn, sx_tr_b, sx_tr_i, sx_tr_l, sx_neg, sx_it_l, sx_it_t, sx_it_b, sx_len_l, sx_len_b, sx_ty_b, sx_ty_p, sx_by, sx_app, sx_ext, sx_pop, sx_cnt, sx_pair, sx_tail, sx_mt_l, sx_mt_b, sx_nr0, sx_ib, sx_il, sx_ir1, sx_ir3, sx_irev, sx_ien, sx_mk, sx_trn, sx_resub, sx_isi1, sx_isi2, sx_sum, sx_min, sx_sorted, sx_si, sx_sl, sx_slr, sx_mis1, sx_mis2, sx_mis3, sx_mis4, String.reduceBEq, String.reduceEq, List.map_cons, List.map_nil, List.zip_cons_cons, List.zip_nil_right, List.lookup_cons, List.lookup_nil, List.any_cons, List.any_nil, Nat.reduceEqDiff, Nat.reduceBEq, beq_self_eq_true, Option.some.injEq, exists_eq_left', exists_eq_left, reduceCtorEq, ite_true, ite_false, if_true, if_false, ↓reduceIte, Bool.false_eq_true, decide_eq_true_eq, true_and, and_true, Bool.not_true, Bool.not_false, Bool.or_false, Bool.false_or, MHeap.set_self, exists_eq', List.length_cons, List.length_nil, Nat.zero_add, Nat.reduceAdd, Nat.reduceLeDiff]
    first
    | exact back_ret (Sub.refl _) w.2
    | (simp (config := { decide := true }) only [sx_then_next, sx_then_ret, sx_then_brk, sx_then_cont, sx_boolof, sx_set, sx_loc, sx_clear, sx_add_i, sx_add_b, sx_add_l, sx_sub, sx_mul_i, sx_mul_l, sx_mul_b, sx_div, sx_mod, sx_pow, sx_shl, sx_shr, sx_and, sx_or, sx_iadd, sx_eq_i, sx_eq_b, sx_eq_t, sx_eq_l, sx_ne_i, sx_ne_b, sx_ne_t, sx_lt_i, sx_lt_t, sx_le, sx_gt, sx_ge, sx_is, sx_isn, sx_tr_b, sx_tr_i, sx_tr_l, sx_neg, sx_it_l, sx_it_t, sx_it_b, sx_len_l, sx_len_b, sx_ty_b, sx_ty_p, sx_by, sx_app, sx_ext, sx_pop, sx_cnt, sx_pair, sx_tail, sx_mt_l, sx_mt_b, sx_nr0, sx_ib, sx_il, sx_ir1, sx_ir3, sx_irev, sx_ien, sx_mk, sx_trn, sx_resub, sx_isi1, sx_isi2, sx_sum, sx_min, sx_sorted, sx_si, sx_sl, sx_slr, sx_mis1, sx_mis2, sx_mis3, sx_mis4, String.reduceBEq, String.reduceEq, List.map_cons, List.map_nil, List.zip_cons_cons, List.zip_nil_right, List.lookup_cons, List.lookup_nil, List.any_cons, List.any_nil, Nat.reduceEqDiff, Nat.reduceBEq, beq_self_eq_true, Option.some.injEq, exists_eq_left', exists_eq_left, reduceCtorEq, ite_true, ite_false, if_true, if_false, ↓reduceIte, Bool.false_eq_true, decide_eq_true_eq, true_and, and_true, Bool.not_true, Bool.not_false, Bool.or_false, Bool.false_or, MHeap.set_self, exists_eq', List.length_cons, List.length_nil, Nat.zero_add, Nat.reduceAdd, Nat.reduceLeDiff]; exact back_ret (Sub.refl _) w.2)
theorem c__bytes_from_decode_data (g : Pg G P) : DCall G 1 (.ref 58) (w_one isB) := by
  refine DCallK.plain (dcall_def (fm := fm__bytes_from_decode_data) (d := 0) (body := bodyOf P 58) (ps := ps__bytes_from_decode_data) g.ok (g.kin _ _ o__bytes_from_decode_data) f__bytes_from_decode_data b__bytes_from_decode_data (codeRec_of g.kin cd__bytes_from_decode_data) (by kernel_rfl) (by kernel_rfl) (by kernel_rfl) s__bytes_from_decode_data nc__bytes_from_decode_data (by decide) (by decide) (dbind_pos bi__bytes_from_decode_data)
    (db_cons (ds_if (dt_call (de_callB (.head _) (gb_isinstance g) (da_cons (de_var (.head _)) (da_cons (de_glob (.tail _ (.head _)) (gt_str g) (fun _ => .raw _)) da_nil)) dcall_isinst)) db_dead
    db_nil)
    (db_cons (ds_if (dt_call (de_callB (.head _) (gb_isinstance g) (da_cons (de_var (.head _)) (da_cons (de_globO (.tail _ (.tail _ (.tail _ (.tail _ (.head _))))) (gl_bytes_types g) (vr_bytes_types g)) da_nil)) dcall_isinst)) (db_cons (ds_return (de_var (.head _)))
    db_nil)
    db_nil) db_dead))) ?_
  intro ms Q H w
  cases ms with
  | nil => exact w.elim
  | cons x ms =>
  cases ms with
  | cons _ _ => exact w.elim
  | nil =>
  · refine ⟨_, rfl, ?_⟩
    cases x <;> first | exact w.1.elim | skip
    simp only [sx_then_next, sx_then_ret, sx_then_brk, sx_then_cont, sx_boolof, sx_set, sx_loc, sx_clear, sx_add_i, sx_add_b, sx_add_l, sx_sub, sx_mul_i, sx_mul_l, sx_mul_b, sx_div, sx_mod, sx_pow, sx_shl, sx_shr, sx_and, sx_or, sx_iadd, sx_eq_i, sx_eq_b, sx_eq_t, sx_eq_l, sx_ne_i, sx_ne_b, sx_ne_t, sx_lt_i, sx_lt_t, sx_le, sx_gt, sx_ge, sx_is, sx_isn, sx_tr_b, sx_tr_i, sx_tr_l, sx_neg, sx_it_l, sx_it_t, sx_it_b, sx_len_l, sx_len_b, sx_ty_b, sx_ty_p, sx_by, sx_app, sx_ext, sx_pop, sx_cnt, sx_pair, sx_tail, sx_mt_l, sx_mt_b, sx_nr0, sx_ib, sx_il, sx_ir1, sx_ir3, sx_irev, sx_ien, sx_mk, sx_trn, sx_resub, sx_isi1, sx_isi2, sx_sum, sx_min, sx_sorted, sx_si, sx_sl, sx_slr, sx_mis1, sx_mis2, sx_mis3, sx_mis4, String.reduceBEq, String.reduceEq, List.map_cons, List.map_nil, List.zip_cons_cons, List.zip_nil_right, List.lookup_cons, List.lookup_nil, List.any_cons, List.any_nil, Nat.reduceEqDiff, Nat.reduceBEq, beq_self_eq_true, Option.some.injEq, exists_eq_left', exists_eq_left, reduceCtorEq, ite_true, ite_false, if_true, if_false, ↓reduceIte, Bool.false_eq_true, decide_eq_true_eq, true_and, and_true, Bool.not_true, Bool.not_false, Bool.or_false, Bool.false_or, MHeap.set_self, exists_eq', List.length_cons, List.length_nil, Nat.zero_add, Nat.reduceAdd, Nat.reduceLeDiff]
    exact back_ret (Sub.refl _) w.2
def w__quote_periods : List MV → (MV → MHeap → Prop) → MHeap → Prop
  | [.bytes l], Q, H => l.length ≤ 100000 ∧ Q (.bytes (quote true l)) H
  | _, _, _ => False
theorem c__quote_periods (g : Pg G P) : DCall G 1 (.ref 50) w__quote_periods := by
  refine DCallK.plain (dcall_def (fm := fm__quote_periods) (d := 0) (body := bodyOf P 50) (ps := ps__quote_periods) g.ok (g.kin _ _ o__quote_periods) f__quote_periods b__quote_periods (codeRec_of g.kin cd__quote_periods) (by kernel_rfl) (by kernel_rfl) (by kernel_rfl) s__quote_periods nc__quote_periods (by decide) (by decide) (dbind_pos bi__quote_periods)
    (db_cons (ds_return (de_resub (.head _) (gl__twin_re_1 g) (pat_twin g) (da_cons de_bytes (da_cons (de_var (.head _)) da_nil))))
    db_nil)) ?_
  intro ms Q H w
  cases ms with
  | nil => exact w.elim
  | cons m ms =>
  cases m <;> first | exact w.elim | skip
  cases ms with
  | cons _ _ => exact w.elim
  | nil =>
  · refine ⟨_, rfl, ?_⟩
    simp only [sx_then_next, sx_then_ret, sx_then_brk, sx_then_cont, sx_boolof, sx_set, sx_loc, sx_clear, sx_add_i, sx_add_b, sx_add_l, sx_sub, sx_mul_i, sx_mul_l, sx_mul_b, sx_div, sx_mod, sx_pow, sx_shl, sx_shr, sx_and, sx_or, sx_iadd, sx_eq_i, sx_eq_b, sx_eq_t, sx_eq_l, sx_ne_i, sx_ne_b, sx_ne_t, sx_lt_i, sx_lt_t, sx_le, sx_gt, sx_ge, sx_is, sx_isn, sx_tr_b, sx_tr_i, sx_tr_l, sx_neg, sx_it_l, sx_it_t, sx_it_b, sx_len_l, sx_len_b, sx_ty_b, sx_ty_p, sx_by, sx_app, sx_ext, sx_pop, sx_cnt, sx_pair, sx_tail, sx_mt_l, sx_mt_b, sx_nr0, sx_ib, sx_il, sx_ir1, sx_ir3, sx_irev, sx_ien, sx_mk, sx_trn, sx_resub, sx_isi1, sx_isi2, sx_sum, sx_min, sx_sorted, sx_si, sx_sl, sx_slr, sx_mis1, sx_mis2, sx_mis3, sx_mis4, String.reduceBEq, String.reduceEq, List.map_cons, List.map_nil, List.zip_cons_cons, List.zip_nil_right, List.lookup_cons, List.lookup_nil, List.any_cons, List.any_nil, Nat.reduceEqDiff, Nat.reduceBEq, beq_self_eq_true, Option.some.injEq, exists_eq_left', exists_eq_left, reduceCtorEq, ite_true, ite_false, if_true, if_false, ↓reduceIte, Bool.false_eq_true, decide_eq_true_eq, true_and, and_true, Bool.not_true, Bool.not_false, Bool.or_false, Bool.false_or, MHeap.set_self, exists_eq', List.length_cons, List.length_nil, Nat.zero_add, Nat.reduceAdd, Nat.reduceLeDiff]
    exact ⟨w.1, back_ret (Sub.refl _) w.2⟩
end
end Mine
end
-- part MB64
section
open PySem PySem.W PyProof.Rows PySem.SeqAt
namespace Mine

/-- octets of sextets, four to three -/
def oct4 : List Nat → List UInt8
  | a :: b :: c :: d :: r => UInt8.ofNat (a * 4 + b / 16) :: UInt8.ofNat (b % 16 * 16 + c / 4) :: UInt8.ofNat (c % 4 * 64 + d) :: oct4 r
  | _ => []

theorem bitAnd_nat (a b : Nat) : Builtin.bitAnd (a : Int) (b : Int) = ((a &&& b : Nat) : Int) := by
  first
  | rfl
  | (unfold Builtin.bitAnd; simp)
theorem bitOr_nat (a b : Nat) : Builtin.bitOr (a : Int) (b : Int) = ((a ||| b : Nat) : Int) := by
  have e : ∀ n : Nat, Builtin.bitNot (n : Int) = -(n : Int) - 1 := fun n => by first | rfl | (unfold Builtin.bitNot; lia)
  have e2 : ∀ n : Nat, Builtin.bitNot (-(n : Int) - 1) = (n : Int) := fun n => by unfold Builtin.bitNot; lia
  unfold Builtin.bitOr Builtin.bitAnd
  rw [e a, e b]
  have ha : decide (0 ≤ -(a : Int) - 1) = false := by simp; lia
  have hb : decide (0 ≤ -(b : Int) - 1) = false := by simp; lia
  rw [ha, hb]
  show Builtin.bitNot (Builtin.bitNot (((Builtin.bitNot (-(a : Int) - 1)).toNat ||| (Builtin.bitNot (-(b : Int) - 1)).toNat : Nat) : Int)) = _
  rw [e2, e2, Int.toNat_natCast, Int.toNat_natCast, e, e2]
theorem and_63 (a : Nat) : a &&& 63 = a % 64 := Nat.and_two_pow_sub_one_eq_mod a 6
theorem and_65535 (a : Nat) : a &&& 65535 = a % 65536 := Nat.and_two_pow_sub_one_eq_mod a 16
theorem and_15 (a : Nat) : a &&& 15 = a % 16 := Nat.and_two_pow_sub_one_eq_mod a 4
theorem and_3 (a : Nat) : a &&& 3 = a % 4 := Nat.and_two_pow_sub_one_eq_mod a 2
theorem or_shift (a b k : Nat) (h : b < 2 ^ k) : a * 2 ^ k ||| b = a * 2 ^ k + b := by
  have := Nat.two_pow_add_eq_or_of_lt h a
  rw [Nat.mul_comm a, ← this]
theorem fdiv_nat (a b : Nat) : Int.fdiv (a : Int) (b : Int) = ((a / b : Nat) : Int) := by
  rw [Int.fdiv_eq_ediv_of_nonneg _ (Int.natCast_nonneg b)]; simp
theorem fmod_nat (a b : Nat) : Int.fmod (a : Int) (b : Int) = ((a % b : Nat) : Int) := by
  rw [Int.fmod_eq_emod_of_nonneg _ (Int.natCast_nonneg b)]; simp
end Mine
end
-- part MP3
section
open PySem PySem.W PyProof.Rows PySem.SeqAt
set_option maxRecDepth 100000
set_option linter.unusedSimpArgs false
set_option linter.unusedVariables false
namespace Mine
section
variable {G : Gd} {P : Params} {d : Nat} {fm : Fm}

theorem MHeap.set_set (H : MHeap) (a : Addr) (xs ys : List MV) : (H.set a xs).set a ys = H.set a ys := by
  funext b; unfold MHeap.set; split <;> rfl
theorem sub_set {H : MHeap} {a : Addr} {xs : List MV} (h : H a = none) : Sub H (H.set a xs) := fun b ys e => by
  have : b ≠ a := fun z => by rw [z, h] at e; cases e
  rw [MHeap.set_ne _ _ this]; exact e

def kwF : List MV → List MV → Option (List MV)
  | [x], [k] => some [x, k]
  | _, _ => none
theorem dbind_kw {fd : FuncData} {ps : List (Str × Nat)} {kw : Str} (hp : ps.length = 2) (h : ∀ v k : Value, bindArgs fd ⟨[v], [(kw, k)]⟩ = pure ((ps.map (·.1)).zip [v, k])) : DBind G fd ps [kw] kwF := by
  intro s vs ks ms kms all old r rk hF
  cases ms with
  | nil => cases hF
  | cons x ms =>
  cases ms with
  | cons _ _ => cases hF
  | nil =>
  cases kms with
  | nil => cases hF
  | cons k kms =>
  cases kms with
  | cons _ _ => cases hF
  | nil =>
  cases hF
  cases r with
  | cons r1 r0 =>
    cases r0
    cases rk with
    | cons k1 k0 =>
      cases k0
      exact ⟨[_, _], .cons r1 (.cons k1 .nil), hp.symm, BindsTo.of_eq (h _ _)⟩
theorem bind_b2a_base64 : DBind G (fdOf P 115) ps_b2a_base64 [Str.ofString "newline"] kwF := dbind_kw rfl fun v k => by kernel_rfl
theorem bind_a2b_base64 : DBind G (fdOf P 107) ps_a2b_base64 [Str.ofString "strict_mode"] kwF := dbind_kw rfl fun v k => by kernel_rfl

def b64char (v : Nat) : UInt8 := b64abc.getD v 0
def asInts (l : List UInt8) : List MV := l.map fun c => .int (c.toNat : Nat)

theorem by_ok {outs : List UInt8} {X : MV → Prop} (hz : outs.length ≤ 1000000) (q : X (.bytes outs)) : ∃ ns : List Int, asInts outs = ns.map MV.int ∧ (∀ n ∈ ns, 0 ≤ n ∧ n < 256) ∧ ns.length ≤ 1000000 ∧ X (.bytes (ns.map fun n => n.toNat.toUInt8)) := by
  refine ⟨outs.map fun c => ((c.toNat : Nat) : Int), by simp [asInts], fun n hn => ?_, by simpa using hz, ?_⟩
  · obtain ⟨c, _, rfl⟩ := List.mem_map.mp hn
    have := c.toNat_lt
    lia
  · have : (outs.map fun c => ((c.toNat : Nat) : Int)).map (fun n => n.toNat.toUInt8) = outs := by
      rw [List.map_map]
      conv => rhs; rw [← List.map_id outs]
      apply List.map_congr_left
      intro c _
      simp
    rw [this]; exact q

structure JB (o : Addr) (H0 : MHeap) (ρ : Loc) (H : MHeap) (L lb : Nat) (outs : List UInt8) : Prop where
  h1 : ρ 1 = some (.bool false)
  h3 : ρ 3 = some (.lst o)
  h4 : ρ 4 = some (.int (lb : Nat))
  h5 : ρ 5 = some (.int (L : Nat))
  hH : H = H0.set o (asInts outs)
  hz : outs.length ≤ 100000

def emit (L lb1 k : Nat) : List UInt8 := (List.range k).map fun j => b64char (L / 2 ^ (lb1 - 6 - 6 * j) % 64)

theorem loop_b2a {o : Addr} {H0 : MHeap} {Wb : WS} {K : MFlow → Loc → MHeap → Prop}
    (step : ∀ ρ H L lb outs (b : Nat) K', JB o H0 ρ H L lb outs → outs.length ≤ 50000 → L < 65536 → b < 256 → (lb = 0 ∨ lb = 2 ∨ lb = 4) → (∀ ρ' H', JB o H0 ρ' H' ((L * 256 + b) % 65536) ((lb + 8) % 6) (outs ++ emit ((L * 256 + b) % 65536) (lb + 8) ((lb + 8) / 6)) → K' .next ρ' H') → Wb (ρ.set 6 (.int (b : Nat))) K' H) :
    ∀ (n : Nat) (vs : List Nat) (L : Nat) (outs : List UInt8) (ρ : Loc) (H : MHeap), vs.length = 4 * n → (∀ v ∈ vs, v < 64) → L < 65536 → outs.length + 4 * n ≤ 40000 → JB o H0 ρ H L 0 outs →
      (∀ ρ' H' L', JB o H0 ρ' H' L' 0 (outs ++ vs.map b64char) → K .next ρ' H') → loopW Wb 6 (fun _ => True) K (byteItems (oct4 vs)) ρ H := by
  intro n
  induction n with
  | zero =>
    intro vs L outs ρ H hl hv hL hz hJ hK
    match vs, hl with
    | [], _ => exact hK ρ H L (by simpa using hJ)
  | succ n ih =>
    intro vs L outs ρ H hl hv hL hz hJ hK
    match vs, hl with
    | a :: b :: c :: d :: r, hl =>
      have ha := hv a (by simp)
      have hb := hv b (by simp)
      have hc := hv c (by simp)
      have hd := hv d (by simp)
      have x0 : (UInt8.ofNat (a * 4 + b / 16)).toNat = a * 4 + b / 16 := by simp; omega
      have x1 : (UInt8.ofNat (b % 16 * 16 + c / 4)).toNat = b % 16 * 16 + c / 4 := by simp; omega
      have x2 : (UInt8.ofNat (c % 4 * 64 + d)).toNat = c % 4 * 64 + d := by simp; omega
      show loopW Wb 6 (fun _ => True) K (.int ((UInt8.ofNat (a * 4 + b / 16)).toNat : Int) :: .int ((UInt8.ofNat (b % 16 * 16 + c / 4)).toNat : Int) :: .int ((UInt8.ofNat (c % 4 * 64 + d)).toNat : Int) :: byteItems (oct4 r)) ρ H
      rw [x0, x1, x2]
      refine step ρ H L 0 outs (a * 4 + b / 16) _ hJ (by omega) hL (by omega) (.inl rfl) fun ρ1 H1 J1 => ⟨trivial, ?_⟩
      refine step ρ1 H1 _ 2 _ (b % 16 * 16 + c / 4) _ J1 (by simp [emit]; omega) (Nat.mod_lt _ (by decide)) (by omega) (.inr (.inl rfl)) fun ρ2 H2 J2 => ⟨trivial, ?_⟩
      refine step ρ2 H2 _ 4 _ (c % 4 * 64 + d) _ J2 (by simp [emit]; omega) (Nat.mod_lt _ (by decide)) (by omega) (.inr (.inr rfl)) fun ρ3 H3 J3 => ⟨trivial, ?_⟩
      have e1 : emit ((L * 256 + (a * 4 + b / 16)) % 65536) (0 + 8) ((0 + 8) / 6) = [b64char a] := by
        simp only [emit, show (0 + 8) / 6 = 1 from rfl, List.range_succ, List.range_zero, List.nil_append, List.map_cons, List.map_nil]
        congr 2
        show (L * 256 + (a * 4 + b / 16)) % 65536 / 4 % 64 = a
        omega
      have e2 : emit (((L * 256 + (a * 4 + b / 16)) % 65536 * 256 + (b % 16 * 16 + c / 4)) % 65536) (2 + 8) ((2 + 8) / 6) = [b64char b] := by
        simp only [emit, show (2 + 8) / 6 = 1 from rfl, List.range_succ, List.range_zero, List.nil_append, List.map_cons, List.map_nil]
        congr 2
        show ((L * 256 + (a * 4 + b / 16)) % 65536 * 256 + (b % 16 * 16 + c / 4)) % 65536 / 16 % 64 = b
        omega
      have e3 : emit ((((L * 256 + (a * 4 + b / 16)) % 65536 * 256 + (b % 16 * 16 + c / 4)) % 65536 * 256 + (c % 4 * 64 + d)) % 65536) (4 + 8) ((4 + 8) / 6) = [b64char c, b64char d] := by
        simp only [emit, show (4 + 8) / 6 = 2 from rfl, List.range_succ, List.range_zero, List.nil_append, List.map_cons, List.map_nil, List.cons_append]
        congr 2
        · show (((L * 256 + (a * 4 + b / 16)) % 65536 * 256 + (b % 16 * 16 + c / 4)) % 65536 * 256 + (c % 4 * 64 + d)) % 65536 / 64 % 64 = c
          omega
        · congr 2
          show (((L * 256 + (a * 4 + b / 16)) % 65536 * 256 + (b % 16 * 16 + c / 4)) % 65536 * 256 + (c % 4 * 64 + d)) % 65536 / 1 % 64 = d
          omega
      rw [e1, e2, e3] at J3
      refine ih r _ _ ρ3 H3 (by simp at hl; omega) (fun v hv' => hv v (by simp [hv'])) (Nat.mod_lt _ (by decide)) (by simp; omega) J3 fun ρ' H' L' J' => hK ρ' H' L' ?_
      simpa using J'

def wk_b2a : List MV → List MV → (MV → MHeap → Prop) → MHeap → Prop
  | [.bytes l], [.bool false], Q, H => ∃ vs n, l = oct4 vs ∧ vs.length = 4 * n ∧ n ≤ 5000 ∧ (∀ v ∈ vs, v < 64) ∧ Q (.bytes (vs.map b64char)) H
  | _, _, _, _ => False

set_option maxHeartbeats 2000000 in
theorem ck_b2a_base64 (g : Pg G P) : DCallK G 2 (.ref 115) [Str.ofString "newline"] wk_b2a := by
  refine den_cps (G := G) (fm := fm_b2a_base64) (d := 1) (tlB (selB false (tlB (tlB (selB false (tlB (tlB (tlB (tlB (tlB (bodyOf P 115))))))))))) (db_cons (ds_assign (.tail _ (.tail _ (.tail _ (.tail _ (.head _))))) (de_bin (de_var (.tail _ (.tail _ (.tail _ (.tail _ (.head _)))))) de_int dop_sub)) db_nil) fun W2s1 h2s1 e2s1 => ?_
  refine den_cps (G := G) (fm := fm_b2a_base64) (d := 1) (selB false (tlB (tlB (selB false (tlB (tlB (tlB (tlB (tlB (bodyOf P 115)))))))))) (db_cons (ds_expr (de_append (de_var (.tail _ (.tail _ (.tail _ (.head _))))) (de_item (de_glob (.tail _ (.tail _ (.head _))) (gl__B64 g) (fun _ => .bytes _ _)) (de_bin (de_bin (de_var (.tail _ (.tail _ (.tail _ (.tail _ (.tail _ (.head _))))))) (de_bin (de_var (.tail _ (.tail _ (.tail _ (.tail _ (.head _)))))) de_int dop_sub) dop_shr) de_int dop_and)))) h2s1) fun W2s0 h2s0 e2s0 => ?_
  refine den_cps (G := G) (fm := fm_b2a_base64) (d := 1) (tlB (tlB (selB false (tlB (tlB (tlB (tlB (tlB (bodyOf P 115))))))))) (db_cons (ds_while (dt_cmp (de_var (.tail _ (.tail _ (.tail _ (.tail _ (.head _)))))) de_int dop_ge)
    h2s0) db_nil) fun W1s2 h1s2 e1s2 => ?_
  refine den_cps (G := G) (fm := fm_b2a_base64) (d := 1) (tlB (selB false (tlB (tlB (tlB (tlB (tlB (bodyOf P 115)))))))) (db_cons (ds_assign (.tail _ (.tail _ (.tail _ (.tail _ (.head _))))) (de_bin (de_var (.tail _ (.tail _ (.tail _ (.tail _ (.head _)))))) de_int dop_add)) h1s2) fun W1s1 h1s1 e1s1 => ?_
  refine den_cps (G := G) (fm := fm_b2a_base64) (d := 1) (selB false (tlB (tlB (tlB (tlB (tlB (bodyOf P 115))))))) (db_cons (ds_assign (.tail _ (.tail _ (.tail _ (.tail _ (.tail _ (.head _)))))) (de_bin (de_bin (de_bin (de_var (.tail _ (.tail _ (.tail _ (.tail _ (.tail _ (.head _))))))) de_int dop_shl) (de_var (.tail _ (.tail _ (.tail _ (.tail _ (.tail _ (.tail _ (.head _)))))))) dop_or) de_int dop_and)) h1s1) fun W1s0 h1s0 e1s0 => ?_
  refine den_cps (G := G) (fm := fm_b2a_base64) (d := 1) (selB true (tlB (tlB (tlB (tlB (tlB (tlB (bodyOf P 115)))))))) (db_cons (ds_if (dt_cmp (de_var (.tail _ (.tail _ (.tail _ (.tail _ (.head _)))))) de_int dop_eq) db_dead
    db_nil) db_nil) fun W3s0 h3s0 e3s0 => ?_
  refine den_cps (G := G) (fm := fm_b2a_base64) (d := 1) (tlB (tlB (tlB (tlB (tlB (tlB (tlB (tlB (bodyOf P 115))))))))) (db_cons (ds_return (de_callT (.tail _ (.tail _ (.tail _ (.head _)))) (gt_bytes g) (da_cons (de_var (.tail _ (.tail _ (.tail _ (.head _))))) da_nil) dcall_bytes)) db_nil) fun W0s8 h0s8 e0s8 => ?_
  refine den_cps (G := G) (fm := fm_b2a_base64) (d := 1) (tlB (tlB (tlB (tlB (tlB (tlB (tlB (bodyOf P 115)))))))) (db_cons (ds_if (dt_name (de_var (.tail _ (.head _)))) db_dead
    db_nil) h0s8) fun W0s7 h0s7 e0s7 => ?_
  refine den_cps (G := G) (fm := fm_b2a_base64) (d := 1) (tlB (tlB (tlB (tlB (tlB (tlB (bodyOf P 115))))))) (db_cons (ds_if (dt_cmp (de_var (.tail _ (.tail _ (.tail _ (.tail _ (.head _)))))) de_int dop_eq) db_dead
    h3s0) h0s7) fun W0s6 h0s6 e0s6 => ?_
  refine den_cps (G := G) (fm := fm_b2a_base64) (d := 1) (tlB (tlB (tlB (tlB (tlB (bodyOf P 115)))))) (db_cons (ds_for (.tail _ (.tail _ (.tail _ (.tail _ (.tail _ (.tail _ (.head _))))))) (di_bytes (de_var (.tail _ (.tail _ (.head _)))))
    h1s0) h0s6) fun W0s5 h0s5 e0s5 => ?_
  refine den_cps (G := G) (fm := fm_b2a_base64) (d := 1) (tlB (tlB (tlB (tlB (bodyOf P 115))))) (db_cons (ds_assign (.tail _ (.tail _ (.tail _ (.tail _ (.tail _ (.head _)))))) de_int) h0s5) fun W0s4 h0s4 e0s4 => ?_
  refine den_cps (G := G) (fm := fm_b2a_base64) (d := 1) (tlB (tlB (tlB (bodyOf P 115)))) (db_cons (ds_assign (.tail _ (.tail _ (.tail _ (.tail _ (.head _))))) de_int) h0s4) fun W0s3 h0s3 e0s3 => ?_
  refine den_cps (G := G) (fm := fm_b2a_base64) (d := 1) (tlB (tlB (bodyOf P 115))) (db_cons (ds_assign (.tail _ (.tail _ (.tail _ (.head _)))) (de_list da_nil)) h0s3) fun W0s2 h0s2 e0s2 => ?_
  refine den_cps (G := G) (fm := fm_b2a_base64) (d := 1) (tlB (bodyOf P 115)) (db_cons (ds_assign (.tail _ (.head _)) (de_callF (.tail _ (.head _)) (gl__truth g) (fn__truth g) (da_cons (de_var (.tail _ (.head _))) da_nil) ((c__truth g).le (by decide)))) h0s2) fun W0s1 h0s1 e0s1 => ?_
  refine den_cps (G := G) (fm := fm_b2a_base64) (d := 1) (bodyOf P 115) (db_cons (ds_assign (.tail _ (.tail _ (.head _))) (de_callF (.head _) (gl__buffer g) (fn__buffer g) (da_cons (de_var (.head _)) da_nil) ((c__buffer g).le (by decide)))) h0s1) fun W0s0 h0s0 e0s0 => ?_
  refine DCallK.mono (dcall_def (fm := fm_b2a_base64) (d := 1) (body := bodyOf P 115) (ps := ps_b2a_base64) g.ok (g.kin _ _ o_b2a_base64) f_b2a_base64 b_b2a_base64 (codeRec_of g.kin cd_b2a_base64) (by kernel_rfl) (by kernel_rfl) (by kernel_rfl) s_b2a_base64 nc_b2a_base64 (by decide) (by decide) bind_b2a_base64
    h0s0) ?_
  intro ms kms Q H w
  cases ms with
  | nil => exact w.elim
  | cons m ms =>
  cases m <;> first | exact w.elim | skip
  cases ms with
  | cons _ _ => exact w.elim
  | nil =>
  cases kms with
  | nil => exact w.elim
  | cons m kms =>
  cases m <;> first | exact w.elim | skip
  rename_i bb
  cases bb <;> first | exact w.elim | skip
  cases kms with
  | cons _ _ => exact w.elim
  | nil =>
  · obtain ⟨vs, n, rfl, hl, hn, hv, q⟩ := w
    refine ⟨_, rfl, ?_⟩
    rw [e0s0, e0s1, e0s2]
    simp only [ps_b2a_base64, sx_one, sx_isb, sx_isbool, sx_then_next, sx_then_ret, sx_then_brk, sx_then_cont, sx_boolof, sx_set, sx_loc, sx_clear, sx_add_i, sx_add_b, sx_add_l, sx_sub, sx_mul_i, sx_mul_l, sx_mul_b, sx_div, sx_mod, sx_pow, sx_shl, sx_shr, sx_and, sx_or, sx_iadd, sx_eq_i, sx_eq_b, sx_eq_t, sx_eq_l, sx_ne_i, sx_ne_b, sx_ne_t, sx_lt_i, sx_lt_t, sx_le, sx_gt, sx_ge, sx_is, sx_isn, sx_tr_b, sx_tr_i, sx_tr_l, sx_neg, sx_it_l, sx_it_t, sx_it_b, sx_len_l, sx_len_b, sx_ty_b, sx_ty_p, sx_by, sx_app, sx_ext, sx_pop, sx_cnt, sx_pair, sx_tail, sx_mt_l, sx_mt_b, sx_nr0, sx_ib, sx_il, sx_ir1, sx_ir3, sx_irev, sx_ien, sx_mk, sx_trn, sx_resub, sx_isi1, sx_isi2, sx_sum, sx_min, sx_sorted, sx_si, sx_sl, sx_slr, sx_mis1, sx_mis2, sx_mis3, sx_mis4, String.reduceBEq, String.reduceEq, List.map_cons, List.map_nil, List.zip_cons_cons, List.zip_nil_right, List.lookup_cons, List.lookup_nil, List.any_cons, List.any_nil, Nat.reduceEqDiff, Nat.reduceBEq, beq_self_eq_true, Option.some.injEq, exists_eq_left', exists_eq_left, reduceCtorEq, ite_true, ite_false, if_true, if_false, ↓reduceIte, Bool.false_eq_true, decide_eq_true_eq, true_and, and_true, Bool.not_true, Bool.not_false, Bool.or_false, Bool.false_or, MHeap.set_self, exists_eq', List.length_cons, List.length_nil, Nat.zero_add, Nat.reduceAdd, Nat.reduceLeDiff]
    intro o ho
    rw [e0s3, e0s4, e0s5]
    simp only [sx_then_next, sx_then_ret, sx_then_brk, sx_then_cont, sx_boolof, sx_set, sx_loc, sx_clear, sx_add_i, sx_add_b, sx_add_l, sx_sub, sx_mul_i, sx_mul_l, sx_mul_b, sx_div, sx_mod, sx_pow, sx_shl, sx_shr, sx_and, sx_or, sx_iadd, sx_eq_i, sx_eq_b, sx_eq_t, sx_eq_l, sx_ne_i, sx_ne_b, sx_ne_t, sx_lt_i, sx_lt_t, sx_le, sx_gt, sx_ge, sx_is, sx_isn, sx_tr_b, sx_tr_i, sx_tr_l, sx_neg, sx_it_l, sx_it_t, sx_it_b, sx_len_l, sx_len_b, sx_ty_b, sx_ty_p, sx_by, sx_app, sx_ext, sx_pop, sx_cnt, sx_pair, sx_tail, sx_mt_l, sx_mt_b, sx_nr0, sx_ib, sx_il, sx_ir1, sx_ir3, sx_irev, sx_ien, sx_mk, sx_trn, sx_resub, sx_isi1, sx_isi2, sx_sum, sx_min, sx_sorted, sx_si, sx_sl, sx_slr, sx_mis1, sx_mis2, sx_mis3, sx_mis4, String.reduceBEq, String.reduceEq, List.map_cons, List.map_nil, List.zip_cons_cons, List.zip_nil_right, List.lookup_cons, List.lookup_nil, List.any_cons, List.any_nil, Nat.reduceEqDiff, Nat.reduceBEq, beq_self_eq_true, Option.some.injEq, exists_eq_left', exists_eq_left, reduceCtorEq, ite_true, ite_false, if_true, if_false, ↓reduceIte, Bool.false_eq_true, decide_eq_true_eq, true_and, and_true, Bool.not_true, Bool.not_false, Bool.or_false, Bool.false_or, MHeap.set_self, exists_eq', List.length_cons, List.length_nil, Nat.zero_add, Nat.reduceAdd, Nat.reduceLeDiff]
    refine loop_b2a (o := o) (H0 := H) ?_ n vs 0 [] _ _ hl hv (by decide) (by simp; lia) ⟨rfl, rfl, rfl, rfl, rfl, by simp⟩ ?_
    · intro ρ H' L lb outs b K' hJ hz hL hb hlb hK
      obtain ⟨h1, h3, h4, h5, rfl, _⟩ := hJ
      have hL' : (L * 256 ||| b) &&& 65535 = (L * 256 + b) % 65536 := by rw [show (256 : Nat) = 2 ^ 8 from rfl, or_shift L b 8 (by lia), and_65535]
      rw [e1s0]
      simp only [h5, sx_then_next, sx_then_ret, sx_then_brk, sx_then_cont, sx_boolof, sx_set, sx_loc, sx_clear, sx_add_i, sx_add_b, sx_add_l, sx_sub, sx_mul_i, sx_mul_l, sx_mul_b, sx_div, sx_mod, sx_pow, sx_shl, sx_shr, sx_and, sx_or, sx_iadd, sx_eq_i, sx_eq_b, sx_eq_t, sx_eq_l, sx_ne_i, sx_ne_b, sx_ne_t, sx_lt_i, sx_lt_t, sx_le, sx_gt, sx_ge, sx_is, sx_isn, sx_tr_b, sx_tr_i, sx_tr_l, sx_neg, sx_it_l, sx_it_t, sx_it_b, sx_len_l, sx_len_b, sx_ty_b, sx_ty_p, sx_by, sx_app, sx_ext, sx_pop, sx_cnt, sx_pair, sx_tail, sx_mt_l, sx_mt_b, sx_nr0, sx_ib, sx_il, sx_ir1, sx_ir3, sx_irev, sx_ien, sx_mk, sx_trn, sx_resub, sx_isi1, sx_isi2, sx_sum, sx_min, sx_sorted, sx_si, sx_sl, sx_slr, sx_mis1, sx_mis2, sx_mis3, sx_mis4, String.reduceBEq, String.reduceEq, List.map_cons, List.map_nil, List.zip_cons_cons, List.zip_nil_right, List.lookup_cons, List.lookup_nil, List.any_cons, List.any_nil, Nat.reduceEqDiff, Nat.reduceBEq, beq_self_eq_true, Option.some.injEq, exists_eq_left', exists_eq_left, reduceCtorEq, ite_true, ite_false, if_true, if_false, ↓reduceIte, Bool.false_eq_true, decide_eq_true_eq, true_and, and_true, Bool.not_true, Bool.not_false, Bool.or_false, Bool.false_or, MHeap.set_self, exists_eq', List.length_cons, List.length_nil, Nat.zero_add, Nat.reduceAdd, Nat.reduceLeDiff]
      refine ⟨by lia, by lia, ?_⟩
      rw [show ((L : Nat) : Int) * 2 ^ (8 : Int).toNat = ((L * 256 : Nat) : Int) from by simp, bitOr_nat, show (65535 : Int) = ((65535 : Nat) : Int) from rfl, bitAnd_nat, hL', e1s1]
      simp only [h4, sx_then_next, sx_then_ret, sx_then_brk, sx_then_cont, sx_boolof, sx_set, sx_loc, sx_clear, sx_add_i, sx_add_b, sx_add_l, sx_sub, sx_mul_i, sx_mul_l, sx_mul_b, sx_div, sx_mod, sx_pow, sx_shl, sx_shr, sx_and, sx_or, sx_iadd, sx_eq_i, sx_eq_b, sx_eq_t, sx_eq_l, sx_ne_i, sx_ne_b, sx_ne_t, sx_lt_i, sx_lt_t, sx_le, sx_gt, sx_ge, sx_is, sx_isn, sx_tr_b, sx_tr_i, sx_tr_l, sx_neg, sx_it_l, sx_it_t, sx_it_b, sx_len_l, sx_len_b, sx_ty_b, sx_ty_p, sx_by, sx_app, sx_ext, sx_pop, sx_cnt, sx_pair, sx_tail, sx_mt_l, sx_mt_b, sx_nr0, sx_ib, sx_il, sx_ir1, sx_ir3, sx_irev, sx_ien, sx_mk, sx_trn, sx_resub, sx_isi1, sx_isi2, sx_sum, sx_min, sx_sorted, sx_si, sx_sl, sx_slr, sx_mis1, sx_mis2, sx_mis3, sx_mis4, String.reduceBEq, String.reduceEq, List.map_cons, List.map_nil, List.zip_cons_cons, List.zip_nil_right, List.lookup_cons, List.lookup_nil, List.any_cons, List.any_nil, Nat.reduceEqDiff, Nat.reduceBEq, beq_self_eq_true, Option.some.injEq, exists_eq_left', exists_eq_left, reduceCtorEq, ite_true, ite_false, if_true, if_false, ↓reduceIte, Bool.false_eq_true, decide_eq_true_eq, true_and, and_true, Bool.not_true, Bool.not_false, Bool.or_false, Bool.false_or, MHeap.set_self, exists_eq', List.length_cons, List.length_nil, Nat.zero_add, Nat.reduceAdd, Nat.reduceLeDiff]
      rw [e1s2]
      have hM : (L * 256 + b) % 65536 < 65536 := Nat.mod_lt _ (by decide)
      generalize (L * 256 + b) % 65536 = M at hM hK ⊢
      refine ⟨fun k ρ' H' => ∃ j, j + k = (lb + 8) / 6 ∧ JB o H ρ' H' M (lb + 8 - 6 * j) (outs ++ emit M (lb + 8) j), ⟨(lb + 8) / 6, 0, by lia, ?_⟩, ?_⟩
      · exact ⟨h1, h3, rfl, rfl, by simp [emit], by simp [emit]; lia⟩
      · rintro k ρ' H' ⟨j, hj, j1, j3, j4, j5, rfl, _⟩
        simp only [j4, sx_then_next, sx_then_ret, sx_then_brk, sx_then_cont, sx_boolof, sx_set, sx_loc, sx_clear, sx_add_i, sx_add_b, sx_add_l, sx_sub, sx_mul_i, sx_mul_l, sx_mul_b, sx_div, sx_mod, sx_pow, sx_shl, sx_shr, sx_and, sx_or, sx_iadd, sx_eq_i, sx_eq_b, sx_eq_t, sx_eq_l, sx_ne_i, sx_ne_b, sx_ne_t, sx_lt_i, sx_lt_t, sx_le, sx_gt, sx_ge, sx_is, sx_isn, sx_tr_b, sx_tr_i, sx_tr_l, sx_neg, sx_it_l, sx_it_t, sx_it_b, sx_len_l, sx_len_b, sx_ty_b, sx_ty_p, sx_by, sx_app, sx_ext, sx_pop, sx_cnt, sx_pair, sx_tail, sx_mt_l, sx_mt_b, sx_nr0, sx_ib, sx_il, sx_ir1, sx_ir3, sx_irev, sx_ien, sx_mk, sx_trn, sx_resub, sx_isi1, sx_isi2, sx_sum, sx_min, sx_sorted, sx_si, sx_sl, sx_slr, sx_mis1, sx_mis2, sx_mis3, sx_mis4, String.reduceBEq, String.reduceEq, List.map_cons, List.map_nil, List.zip_cons_cons, List.zip_nil_right, List.lookup_cons, List.lookup_nil, List.any_cons, List.any_nil, Nat.reduceEqDiff, Nat.reduceBEq, beq_self_eq_true, Option.some.injEq, exists_eq_left', exists_eq_left, reduceCtorEq, ite_true, ite_false, if_true, if_false, ↓reduceIte, Bool.false_eq_true, decide_eq_true_eq, true_and, and_true, Bool.not_true, Bool.not_false, Bool.or_false, Bool.false_or, MHeap.set_self, exists_eq', List.length_cons, List.length_nil, Nat.zero_add, Nat.reduceAdd, Nat.reduceLeDiff]
        by_cases hk : k = 0
        · subst hk
          rw [if_neg (by lia)]
          have hj' : j = (lb + 8) / 6 := by lia
          subst hj'
          refine hK ρ' _ ⟨j1, j3, ?_, j5, rfl, by simp [emit]; lia⟩
          rw [j4, show lb + 8 - 6 * ((lb + 8) / 6) = (lb + 8) % 6 from by lia]
        · have hlb' : lb + 8 - 6 * j ≥ 6 := by lia
          rw [if_pos (by lia), e2s0]
          simp only [j3, j4, j5, sx_then_next, sx_then_ret, sx_then_brk, sx_then_cont, sx_boolof, sx_set, sx_loc, sx_clear, sx_add_i, sx_add_b, sx_add_l, sx_sub, sx_mul_i, sx_mul_l, sx_mul_b, sx_div, sx_mod, sx_pow, sx_shl, sx_shr, sx_and, sx_or, sx_iadd, sx_eq_i, sx_eq_b, sx_eq_t, sx_eq_l, sx_ne_i, sx_ne_b, sx_ne_t, sx_lt_i, sx_lt_t, sx_le, sx_gt, sx_ge, sx_is, sx_isn, sx_tr_b, sx_tr_i, sx_tr_l, sx_neg, sx_it_l, sx_it_t, sx_it_b, sx_len_l, sx_len_b, sx_ty_b, sx_ty_p, sx_by, sx_app, sx_ext, sx_pop, sx_cnt, sx_pair, sx_tail, sx_mt_l, sx_mt_b, sx_nr0, sx_ib, sx_il, sx_ir1, sx_ir3, sx_irev, sx_ien, sx_mk, sx_trn, sx_resub, sx_isi1, sx_isi2, sx_sum, sx_min, sx_sorted, sx_si, sx_sl, sx_slr, sx_mis1, sx_mis2, sx_mis3, sx_mis4, String.reduceBEq, String.reduceEq, List.map_cons, List.map_nil, List.zip_cons_cons, List.zip_nil_right, List.lookup_cons, List.lookup_nil, List.any_cons, List.any_nil, Nat.reduceEqDiff, Nat.reduceBEq, beq_self_eq_true, Option.some.injEq, exists_eq_left', exists_eq_left, reduceCtorEq, ite_true, ite_false, if_true, if_false, ↓reduceIte, Bool.false_eq_true, decide_eq_true_eq, true_and, and_true, Bool.not_true, Bool.not_false, Bool.or_false, Bool.false_or, MHeap.set_self, exists_eq', List.length_cons, List.length_nil, Nat.zero_add, Nat.reduceAdd, Nat.reduceLeDiff]
          have e1 : ((lb + 8 - 6 * j : Nat) : Int) - 6 = ((lb + 8 - 6 * j - 6 : Nat) : Int) := by lia
          rw [e1, Int.toNat_natCast]
          have e2 : Int.fdiv (M : Int) (2 ^ (lb + 8 - 6 * j - 6)) = ((M / 2 ^ (lb + 8 - 6 * j - 6) : Nat) : Int) := by
            rw [← fdiv_nat]; simp
          rw [e2, show (63 : Int) = ((63 : Nat) : Int) from rfl, bitAnd_nat, and_63]
          have hlt : M / 2 ^ (lb + 8 - 6 * j - 6) % 64 < 64 := Nat.mod_lt _ (by decide)
          generalize hx : M / 2 ^ (lb + 8 - 6 * j - 6) % 64 = x at hlt
          refine ⟨by lia, b64char x, by lia, by decide, ?_, ⟨by simp [asInts, emit]; lia, ?_⟩⟩
          · rw [Int.toNat_natCast]
            unfold b64char
            have : x < b64abc.length := by show x < 64; exact hlt
            rw [List.getElem?_eq_getElem this, List.getD_eq_getElem?_getD, List.getElem?_eq_getElem this]; rfl
          · have e3 : ((lb + 8 - 6 * j : Nat) : Int) - 6 = ((lb + 8 - 6 * (j + 1) : Nat) : Int) := by lia
            rw [e2s1]
            simp only [j4, sx_then_next, sx_then_ret, sx_then_brk, sx_then_cont, sx_boolof, sx_set, sx_loc, sx_clear, sx_add_i, sx_add_b, sx_add_l, sx_sub, sx_mul_i, sx_mul_l, sx_mul_b, sx_div, sx_mod, sx_pow, sx_shl, sx_shr, sx_and, sx_or, sx_iadd, sx_eq_i, sx_eq_b, sx_eq_t, sx_eq_l, sx_ne_i, sx_ne_b, sx_ne_t, sx_lt_i, sx_lt_t, sx_le, sx_gt, sx_ge, sx_is, sx_isn, sx_tr_b, sx_tr_i, sx_tr_l, sx_neg, sx_it_l, sx_it_t, sx_it_b, sx_len_l, sx_len_b, sx_ty_b, sx_ty_p, sx_by, sx_app, sx_ext, sx_pop, sx_cnt, sx_pair, sx_tail, sx_mt_l, sx_mt_b, sx_nr0, sx_ib, sx_il, sx_ir1, sx_ir3, sx_irev, sx_ien, sx_mk, sx_trn, sx_resub, sx_isi1, sx_isi2, sx_sum, sx_min, sx_sorted, sx_si, sx_sl, sx_slr, sx_mis1, sx_mis2, sx_mis3, sx_mis4, String.reduceBEq, String.reduceEq, List.map_cons, List.map_nil, List.zip_cons_cons, List.zip_nil_right, List.lookup_cons, List.lookup_nil, List.any_cons, List.any_nil, Nat.reduceEqDiff, Nat.reduceBEq, beq_self_eq_true, Option.some.injEq, exists_eq_left', exists_eq_left, reduceCtorEq, ite_true, ite_false, if_true, if_false, ↓reduceIte, Bool.false_eq_true, decide_eq_true_eq, true_and, and_true, Bool.not_true, Bool.not_false, Bool.or_false, Bool.false_or, MHeap.set_self, exists_eq', List.length_cons, List.length_nil, Nat.zero_add, Nat.reduceAdd, Nat.reduceLeDiff]
            refine ⟨k - 1, by lia, j + 1, by lia, ?_⟩
            refine ⟨j1, j3, by rw [← e3]; rfl, j5, ?_, by simp [emit]; lia⟩
            rw [MHeap.set_set]
            congr 1
            have : emit M (lb + 8) (j + 1) = emit M (lb + 8) j ++ [b64char x] := by
              unfold emit
              rw [List.range_succ, List.map_append, List.map_cons, List.map_nil, ← hx, show lb + 8 - 6 - 6 * j = lb + 8 - 6 * j - 6 from by lia]
            rw [this]
            simp [asInts]
    · rintro ρ' H' L' ⟨j1, j3, j4, j5, rfl, _⟩
      rw [sx_then_next, e0s6]
      simp only [j4, sx_then_next, sx_then_ret, sx_then_brk, sx_then_cont, sx_boolof, sx_set, sx_loc, sx_clear, sx_add_i, sx_add_b, sx_add_l, sx_sub, sx_mul_i, sx_mul_l, sx_mul_b, sx_div, sx_mod, sx_pow, sx_shl, sx_shr, sx_and, sx_or, sx_iadd, sx_eq_i, sx_eq_b, sx_eq_t, sx_eq_l, sx_ne_i, sx_ne_b, sx_ne_t, sx_lt_i, sx_lt_t, sx_le, sx_gt, sx_ge, sx_is, sx_isn, sx_tr_b, sx_tr_i, sx_tr_l, sx_neg, sx_it_l, sx_it_t, sx_it_b, sx_len_l, sx_len_b, sx_ty_b, sx_ty_p, sx_by, sx_app, sx_ext, sx_pop, sx_cnt, sx_pair, sx_tail, sx_mt_l, sx_mt_b, sx_nr0, sx_ib, sx_il, sx_ir1, sx_ir3, sx_irev, sx_ien, sx_mk, sx_trn, sx_resub, sx_isi1, sx_isi2, sx_sum, sx_min, sx_sorted, sx_si, sx_sl, sx_slr, sx_mis1, sx_mis2, sx_mis3, sx_mis4, String.reduceBEq, String.reduceEq, List.map_cons, List.map_nil, List.zip_cons_cons, List.zip_nil_right, List.lookup_cons, List.lookup_nil, List.any_cons, List.any_nil, Nat.reduceEqDiff, Nat.reduceBEq, beq_self_eq_true, Option.some.injEq, exists_eq_left', exists_eq_left, reduceCtorEq, ite_true, ite_false, if_true, if_false, ↓reduceIte, Bool.false_eq_true, decide_eq_true_eq, true_and, and_true, Bool.not_true, Bool.not_false, Bool.or_false, Bool.false_or, MHeap.set_self, exists_eq', List.length_cons, List.length_nil, Nat.zero_add, Nat.reduceAdd, Nat.reduceLeDiff]
      rw [if_neg (by decide), e3s0]
      simp only [j4, sx_then_next, sx_then_ret, sx_then_brk, sx_then_cont, sx_boolof, sx_set, sx_loc, sx_clear, sx_add_i, sx_add_b, sx_add_l, sx_sub, sx_mul_i, sx_mul_l, sx_mul_b, sx_div, sx_mod, sx_pow, sx_shl, sx_shr, sx_and, sx_or, sx_iadd, sx_eq_i, sx_eq_b, sx_eq_t, sx_eq_l, sx_ne_i, sx_ne_b, sx_ne_t, sx_lt_i, sx_lt_t, sx_le, sx_gt, sx_ge, sx_is, sx_isn, sx_tr_b, sx_tr_i, sx_tr_l, sx_neg, sx_it_l, sx_it_t, sx_it_b, sx_len_l, sx_len_b, sx_ty_b, sx_ty_p, sx_by, sx_app, sx_ext, sx_pop, sx_cnt, sx_pair, sx_tail, sx_mt_l, sx_mt_b, sx_nr0, sx_ib, sx_il, sx_ir1, sx_ir3, sx_irev, sx_ien, sx_mk, sx_trn, sx_resub, sx_isi1, sx_isi2, sx_sum, sx_min, sx_sorted, sx_si, sx_sl, sx_slr, sx_mis1, sx_mis2, sx_mis3, sx_mis4, String.reduceBEq, String.reduceEq, List.map_cons, List.map_nil, List.zip_cons_cons, List.zip_nil_right, List.lookup_cons, List.lookup_nil, List.any_cons, List.any_nil, Nat.reduceEqDiff, Nat.reduceBEq, beq_self_eq_true, Option.some.injEq, exists_eq_left', exists_eq_left, reduceCtorEq, ite_true, ite_false, if_true, if_false, ↓reduceIte, Bool.false_eq_true, decide_eq_true_eq, true_and, and_true, Bool.not_true, Bool.not_false, Bool.or_false, Bool.false_or, MHeap.set_self, exists_eq', List.length_cons, List.length_nil, Nat.zero_add, Nat.reduceAdd, Nat.reduceLeDiff]
      rw [if_neg (by decide), e0s7]
      simp only [j1, sx_then_next, sx_then_ret, sx_then_brk, sx_then_cont, sx_boolof, sx_set, sx_loc, sx_clear, sx_add_i, sx_add_b, sx_add_l, sx_sub, sx_mul_i, sx_mul_l, sx_mul_b, sx_div, sx_mod, sx_pow, sx_shl, sx_shr, sx_and, sx_or, sx_iadd, sx_eq_i, sx_eq_b, sx_eq_t, sx_eq_l, sx_ne_i, sx_ne_b, sx_ne_t, sx_lt_i, sx_lt_t, sx_le, sx_gt, sx_ge, sx_is, sx_isn, sx_tr_b, sx_tr_i, sx_tr_l, sx_neg, sx_it_l, sx_it_t, sx_it_b, sx_len_l, sx_len_b, sx_ty_b, sx_ty_p, sx_by, sx_app, sx_ext, sx_pop, sx_cnt, sx_pair, sx_tail, sx_mt_l, sx_mt_b, sx_nr0, sx_ib, sx_il, sx_ir1, sx_ir3, sx_irev, sx_ien, sx_mk, sx_trn, sx_resub, sx_isi1, sx_isi2, sx_sum, sx_min, sx_sorted, sx_si, sx_sl, sx_slr, sx_mis1, sx_mis2, sx_mis3, sx_mis4, String.reduceBEq, String.reduceEq, List.map_cons, List.map_nil, List.zip_cons_cons, List.zip_nil_right, List.lookup_cons, List.lookup_nil, List.any_cons, List.any_nil, Nat.reduceEqDiff, Nat.reduceBEq, beq_self_eq_true, Option.some.injEq, exists_eq_left', exists_eq_left, reduceCtorEq, ite_true, ite_false, if_true, if_false, ↓reduceIte, Bool.false_eq_true, decide_eq_true_eq, true_and, and_true, Bool.not_true, Bool.not_false, Bool.or_false, Bool.false_or, MHeap.set_self, exists_eq', List.length_cons, List.length_nil, Nat.zero_add, Nat.reduceAdd, Nat.reduceLeDiff]
      rw [e0s8]
      simp only [j3, sx_then_next, sx_then_ret, sx_then_brk, sx_then_cont, sx_boolof, sx_set, sx_loc, sx_clear, sx_add_i, sx_add_b, sx_add_l, sx_sub, sx_mul_i, sx_mul_l, sx_mul_b, sx_div, sx_mod, sx_pow, sx_shl, sx_shr, sx_and, sx_or, sx_iadd, sx_eq_i, sx_eq_b, sx_eq_t, sx_eq_l, sx_ne_i, sx_ne_b, sx_ne_t, sx_lt_i, sx_lt_t, sx_le, sx_gt, sx_ge, sx_is, sx_isn, sx_tr_b, sx_tr_i, sx_tr_l, sx_neg, sx_it_l, sx_it_t, sx_it_b, sx_len_l, sx_len_b, sx_ty_b, sx_ty_p, sx_by, sx_app, sx_ext, sx_pop, sx_cnt, sx_pair, sx_tail, sx_mt_l, sx_mt_b, sx_nr0, sx_ib, sx_il, sx_ir1, sx_ir3, sx_irev, sx_ien, sx_mk, sx_trn, sx_resub, sx_isi1, sx_isi2, sx_sum, sx_min, sx_sorted, sx_si, sx_sl, sx_slr, sx_mis1, sx_mis2, sx_mis3, sx_mis4, String.reduceBEq, String.reduceEq, List.map_cons, List.map_nil, List.zip_cons_cons, List.zip_nil_right, List.lookup_cons, List.lookup_nil, List.any_cons, List.any_nil, Nat.reduceEqDiff, Nat.reduceBEq, beq_self_eq_true, Option.some.injEq, exists_eq_left', exists_eq_left, reduceCtorEq, ite_true, ite_false, if_true, if_false, ↓reduceIte, Bool.false_eq_true, decide_eq_true_eq, true_and, and_true, Bool.not_true, Bool.not_false, Bool.or_false, Bool.false_or, MHeap.set_self, exists_eq', List.length_cons, List.length_nil, Nat.zero_add, Nat.reduceAdd, Nat.reduceLeDiff]
      rw [List.nil_append]
      exact by_ok (X := fun v => Back Q (.ret v) ρ' _) (by simp; lia) (back_ret (sub_set ho) q)

-- a2b
theorem b64_inv : ∀ v : Fin 64, b64value ((b64char v.1).toNat : Nat) = (v.1 : Nat) ∧ ((b64char v.1).toNat : Nat) ≠ 61 := by decide +kernel

structure JA (o : Addr) (H0 : MHeap) (ρ : Loc) (H : MHeap) (q L : Nat) (outs : List UInt8) : Prop where
  h1 : ρ 1 = some (.bool false)
  h3 : ρ 3 = some (.lst o)
  h4 : ρ 4 = some (.int (q : Nat))
  h5 : ρ 5 = some (.int (L : Nat))
  h6 : ρ 6 = some (.int 0)
  h7 : ∃ i, ρ 7 = some (.int i)
  hH : H = H0.set o (asInts outs)
  hz : outs.length ≤ 100000
def aOut (q L v : Nat) : List UInt8 := if q = 0 then [] else if q = 1 then [UInt8.ofNat (L * 4 + v / 16)] else if q = 2 then [UInt8.ofNat (L * 16 + v / 4)] else [UInt8.ofNat (L * 64 + v)]
def aLeft (q v : Nat) : Nat := if q = 0 then v else if q = 1 then v % 16 else if q = 2 then v % 4 else 0

theorem loop_a2b {o : Addr} {H0 : MHeap} {Wb : WS} {K : MFlow → Loc → MHeap → Prop}
    (step : ∀ ρ H q L outs (v : Nat) K', JA o H0 ρ H q L outs → outs.length ≤ 50000 → v < 64 → q < 4 → (q = 1 → L < 64) → (q = 2 → L < 16) → (q = 3 → L < 4) → (∀ ρ' H', JA o H0 ρ' H' ((q + 1) % 4) (aLeft q v) (outs ++ aOut q L v) → K' .next ρ' H') → Wb (ρ.set 8 (.int ((b64char v).toNat : Nat))) K' H) :
    ∀ (n : Nat) (vs : List Nat) (outs : List UInt8) (ρ : Loc) (H : MHeap), vs.length = 4 * n → (∀ v ∈ vs, v < 64) → outs.length + 4 * n ≤ 40000 → JA o H0 ρ H 0 0 outs →
      (∀ ρ' H', JA o H0 ρ' H' 0 0 (outs ++ oct4 vs) → K .next ρ' H') → loopW Wb 8 (fun _ => True) K (byteItems (vs.map b64char)) ρ H := by
  intro n
  induction n with
  | zero =>
    intro vs outs ρ H hl hv hz hJ hK
    match vs, hl with
    | [], _ => exact hK ρ H (by rw [show oct4 [] = [] from rfl, List.append_nil]; exact hJ)
  | succ n ih =>
    intro vs outs ρ H hl hv hz hJ hK
    match vs, hl with
    | a :: b :: c :: d :: r, hl =>
      have ha := hv a (by simp)
      have hb := hv b (by simp)
      have hc := hv c (by simp)
      have hd := hv d (by simp)
      show loopW Wb 8 (fun _ => True) K (.int ((b64char a).toNat : Int) :: .int ((b64char b).toNat : Int) :: .int ((b64char c).toNat : Int) :: .int ((b64char d).toNat : Int) :: byteItems (r.map b64char)) ρ H
      refine step ρ H 0 0 outs a _ hJ (by lia) ha (by decide) (by lia) (by lia) (by lia) fun ρ1 H1 J1 => ⟨trivial, ?_⟩
      refine step ρ1 H1 1 a (outs ++ []) b _ J1 (by simp; lia) hb (by decide) (by lia) (by lia) (by lia) fun ρ2 H2 J2 => ⟨trivial, ?_⟩
      refine step ρ2 H2 2 (b % 16) _ c _ J2 (by simp [aOut]; lia) hc (by decide) (by lia) (by lia) (by lia) fun ρ3 H3 J3 => ⟨trivial, ?_⟩
      refine step ρ3 H3 3 (c % 4) _ d _ J3 (by simp [aOut]; lia) hd (by decide) (by lia) (by lia) (by lia) fun ρ4 H4 J4 => ⟨trivial, ?_⟩
      have e : outs ++ [] ++ aOut 1 a b ++ aOut 2 (b % 16) c ++ aOut 3 (c % 4) d = outs ++ [UInt8.ofNat (a * 4 + b / 16), UInt8.ofNat (b % 16 * 16 + c / 4), UInt8.ofNat (c % 4 * 64 + d)] := by
        simp [aOut]
      rw [e] at J4
      refine ih r _ ρ4 H4 (by simp at hl; lia) (fun v hv' => hv v (by simp [hv'])) (by simp; lia) J4 fun ρ' H' J' => hK ρ' H' ?_
      have e2 : outs ++ oct4 (a :: b :: c :: d :: r) = outs ++ [UInt8.ofNat (a * 4 + b / 16), UInt8.ofNat (b % 16 * 16 + c / 4), UInt8.ofNat (c % 4 * 64 + d)] ++ oct4 r := by
        rw [List.append_assoc]; rfl
      rw [e2]; exact J'

def wk_a2b : List MV → List MV → (MV → MHeap → Prop) → MHeap → Prop
  | [.bytes l], [.bool false], Q, H => ∃ vs n, l = vs.map b64char ∧ vs.length = 4 * n ∧ n ≤ 5000 ∧ (∀ v ∈ vs, v < 64) ∧ Q (.bytes (oct4 vs)) H
  | _, _, _, _ => False

theorem oct4_len : ∀ (n : Nat) (vs : List Nat), vs.length = 4 * n → (oct4 vs).length = 3 * n
  | 0, vs, h => by
    match vs, h with
    | [], _ => rfl
  | n + 1, vs, h => by
    match vs, h with
    | a :: b :: c :: d :: r, h =>
      have := oct4_len n r (by simp at h; lia)
      show (oct4 r).length + 1 + 1 + 1 = 3 * (n + 1)
      rw [this]; lia

set_option maxHeartbeats 4000000 in
theorem ck_a2b_base64 (g : Pg G P) : DCallK G 2 (.ref 107) [Str.ofString "strict_mode"] wk_a2b := by
  refine den_cps (G := G) (fm := fm_a2b_base64) (d := 1) (tlB (selB false (tlB (tlB (tlB (tlB (tlB (selB false (tlB (tlB (tlB (tlB (tlB (tlB (tlB (bodyOf P 107)))))))))))))))) (db_cons (ds_assign (.tail _ (.tail _ (.tail _ (.tail _ (.tail _ (.head _)))))) (de_var (.tail _ (.tail _ (.tail _ (.tail _ (.tail _ (.tail _ (.tail _ (.tail _ (.head _))))))))))) db_nil) fun W2s1 h2s1 e2s1 => ?_
  refine den_cps (G := G) (fm := fm_a2b_base64) (d := 1) (selB false (tlB (tlB (tlB (tlB (tlB (selB false (tlB (tlB (tlB (tlB (tlB (tlB (tlB (bodyOf P 107))))))))))))))) (db_cons (ds_assign (.tail _ (.tail _ (.tail _ (.tail _ (.head _))))) de_int) h2s1) fun W2s0 h2s0 e2s0 => ?_
  refine den_cps (G := G) (fm := fm_a2b_base64) (d := 1) (tlB (tlB (selB false (selB true (tlB (tlB (tlB (tlB (tlB (selB false (tlB (tlB (tlB (tlB (tlB (tlB (tlB (bodyOf P 107)))))))))))))))))) (db_cons (ds_assign (.tail _ (.tail _ (.tail _ (.tail _ (.tail _ (.head _)))))) (de_bin (de_var (.tail _ (.tail _ (.tail _ (.tail _ (.tail _ (.tail _ (.tail _ (.tail _ (.head _)))))))))) de_int dop_and)) db_nil) fun W4s2 h4s2 e4s2 => ?_
  refine den_cps (G := G) (fm := fm_a2b_base64) (d := 1) (tlB (selB false (selB true (tlB (tlB (tlB (tlB (tlB (selB false (tlB (tlB (tlB (tlB (tlB (tlB (tlB (bodyOf P 107))))))))))))))))) (db_cons (ds_expr (de_append (de_var (.tail _ (.tail _ (.tail _ (.head _))))) (de_bin (de_bin (de_var (.tail _ (.tail _ (.tail _ (.tail _ (.tail _ (.head _))))))) de_int dop_shl) (de_bin (de_var (.tail _ (.tail _ (.tail _ (.tail _ (.tail _ (.tail _ (.tail _ (.tail _ (.head _)))))))))) de_int dop_shr) dop_or))) h4s2) fun W4s1 h4s1 e4s1 => ?_
  refine den_cps (G := G) (fm := fm_a2b_base64) (d := 1) (selB false (selB true (tlB (tlB (tlB (tlB (tlB (selB false (tlB (tlB (tlB (tlB (tlB (tlB (tlB (bodyOf P 107)))))))))))))))) (db_cons (ds_assign (.tail _ (.tail _ (.tail _ (.tail _ (.head _))))) de_int) h4s1) fun W4s0 h4s0 e4s0 => ?_
  refine den_cps (G := G) (fm := fm_a2b_base64) (d := 1) (tlB (tlB (selB false (selB true (selB true (tlB (tlB (tlB (tlB (tlB (selB false (tlB (tlB (tlB (tlB (tlB (tlB (tlB (bodyOf P 107))))))))))))))))))) (db_cons (ds_assign (.tail _ (.tail _ (.tail _ (.tail _ (.tail _ (.head _)))))) (de_bin (de_var (.tail _ (.tail _ (.tail _ (.tail _ (.tail _ (.tail _ (.tail _ (.tail _ (.head _)))))))))) de_int dop_and)) db_nil) fun W6s2 h6s2 e6s2 => ?_
  refine den_cps (G := G) (fm := fm_a2b_base64) (d := 1) (tlB (selB false (selB true (selB true (tlB (tlB (tlB (tlB (tlB (selB false (tlB (tlB (tlB (tlB (tlB (tlB (tlB (bodyOf P 107)))))))))))))))))) (db_cons (ds_expr (de_append (de_var (.tail _ (.tail _ (.tail _ (.head _))))) (de_bin (de_bin (de_var (.tail _ (.tail _ (.tail _ (.tail _ (.tail _ (.head _))))))) de_int dop_shl) (de_bin (de_var (.tail _ (.tail _ (.tail _ (.tail _ (.tail _ (.tail _ (.tail _ (.tail _ (.head _)))))))))) de_int dop_shr) dop_or))) h6s2) fun W6s1 h6s1 e6s1 => ?_
  refine den_cps (G := G) (fm := fm_a2b_base64) (d := 1) (selB false (selB true (selB true (tlB (tlB (tlB (tlB (tlB (selB false (tlB (tlB (tlB (tlB (tlB (tlB (tlB (bodyOf P 107))))))))))))))))) (db_cons (ds_assign (.tail _ (.tail _ (.tail _ (.tail _ (.head _))))) de_int) h6s1) fun W6s0 h6s0 e6s0 => ?_
  refine den_cps (G := G) (fm := fm_a2b_base64) (d := 1) (tlB (tlB (selB true (selB true (selB true (tlB (tlB (tlB (tlB (tlB (selB false (tlB (tlB (tlB (tlB (tlB (tlB (tlB (bodyOf P 107))))))))))))))))))) (db_cons (ds_assign (.tail _ (.tail _ (.tail _ (.tail _ (.tail _ (.head _)))))) de_int) db_nil) fun W7s2 h7s2 e7s2 => ?_
  refine den_cps (G := G) (fm := fm_a2b_base64) (d := 1) (tlB (selB true (selB true (selB true (tlB (tlB (tlB (tlB (tlB (selB false (tlB (tlB (tlB (tlB (tlB (tlB (tlB (bodyOf P 107)))))))))))))))))) (db_cons (ds_expr (de_append (de_var (.tail _ (.tail _ (.tail _ (.head _))))) (de_bin (de_bin (de_var (.tail _ (.tail _ (.tail _ (.tail _ (.tail _ (.head _))))))) de_int dop_shl) (de_var (.tail _ (.tail _ (.tail _ (.tail _ (.tail _ (.tail _ (.tail _ (.tail _ (.head _)))))))))) dop_or))) h7s2) fun W7s1 h7s1 e7s1 => ?_
  refine den_cps (G := G) (fm := fm_a2b_base64) (d := 1) (selB true (selB true (selB true (tlB (tlB (tlB (tlB (tlB (selB false (tlB (tlB (tlB (tlB (tlB (tlB (tlB (bodyOf P 107))))))))))))))))) (db_cons (ds_assign (.tail _ (.tail _ (.tail _ (.tail _ (.head _))))) de_int) h7s1) fun W7s0 h7s0 e7s0 => ?_
  refine den_cps (G := G) (fm := fm_a2b_base64) (d := 1) (selB true (selB true (tlB (tlB (tlB (tlB (tlB (selB false (tlB (tlB (tlB (tlB (tlB (tlB (tlB (bodyOf P 107)))))))))))))))) (db_cons (ds_if (dt_cmp (de_var (.tail _ (.tail _ (.tail _ (.tail _ (.head _)))))) de_int dop_eq) h6s0
    h7s0) db_nil) fun W5s0 h5s0 e5s0 => ?_
  refine den_cps (G := G) (fm := fm_a2b_base64) (d := 1) (selB true (tlB (tlB (tlB (tlB (tlB (selB false (tlB (tlB (tlB (tlB (tlB (tlB (tlB (bodyOf P 107))))))))))))))) (db_cons (ds_if (dt_cmp (de_var (.tail _ (.tail _ (.tail _ (.tail _ (.head _)))))) de_int dop_eq) h4s0
    h5s0) db_nil) fun W3s0 h3s0 e3s0 => ?_
  refine den_cps (G := G) (fm := fm_a2b_base64) (d := 1) (tlB (tlB (tlB (tlB (tlB (tlB (selB false (tlB (tlB (tlB (tlB (tlB (tlB (tlB (bodyOf P 107))))))))))))))) (db_cons (ds_assign (.tail _ (.tail _ (.tail _ (.tail _ (.tail _ (.tail _ (.tail _ (.head _)))))))) (de_bin (de_var (.tail _ (.tail _ (.tail _ (.tail _ (.tail _ (.tail _ (.tail _ (.head _))))))))) de_int dop_add)) db_nil) fun W1s6 h1s6 e1s6 => ?_
  refine den_cps (G := G) (fm := fm_a2b_base64) (d := 1) (tlB (tlB (tlB (tlB (tlB (selB false (tlB (tlB (tlB (tlB (tlB (tlB (tlB (bodyOf P 107)))))))))))))) (db_cons (ds_if (dt_cmp (de_var (.tail _ (.tail _ (.tail _ (.tail _ (.head _)))))) de_int dop_eq) h2s0
    h3s0) h1s6) fun W1s5 h1s5 e1s5 => ?_
  refine den_cps (G := G) (fm := fm_a2b_base64) (d := 1) (tlB (tlB (tlB (tlB (selB false (tlB (tlB (tlB (tlB (tlB (tlB (tlB (bodyOf P 107))))))))))))) (db_cons (ds_assign (.tail _ (.tail _ (.tail _ (.tail _ (.tail _ (.tail _ (.head _))))))) de_int) h1s5) fun W1s4 h1s4 e1s4 => ?_
  refine den_cps (G := G) (fm := fm_a2b_base64) (d := 1) (tlB (tlB (tlB (selB false (tlB (tlB (tlB (tlB (tlB (tlB (tlB (bodyOf P 107)))))))))))) (db_cons (ds_if (dt_bool (dall_and_cons (dt_name (de_var (.tail _ (.tail _ (.tail _ (.tail _ (.tail _ (.tail _ (.head _))))))))) (dall_and_cons (dt_name (de_var (.tail _ (.head _)))) dall_and_nil))) db_dead
    db_nil) h1s4) fun W1s3 h1s3 e1s3 => ?_
  refine den_cps (G := G) (fm := fm_a2b_base64) (d := 1) (tlB (tlB (selB false (tlB (tlB (tlB (tlB (tlB (tlB (tlB (bodyOf P 107))))))))))) (db_cons (ds_if (dt_cmp (de_var (.tail _ (.tail _ (.tail _ (.tail _ (.tail _ (.tail _ (.tail _ (.tail _ (.head _)))))))))) de_int dop_ge) db_dead
    db_nil) h1s3) fun W1s2 h1s2 e1s2 => ?_
  refine den_cps (G := G) (fm := fm_a2b_base64) (d := 1) (tlB (selB false (tlB (tlB (tlB (tlB (tlB (tlB (tlB (bodyOf P 107)))))))))) (db_cons (ds_assign (.tail _ (.tail _ (.tail _ (.tail _ (.tail _ (.tail _ (.tail _ (.tail _ (.head _))))))))) (de_callF (.tail _ (.tail _ (.tail _ (.head _)))) (gl__b64_value g) (fn__b64_value g) (da_cons (de_var (.tail _ (.tail _ (.tail _ (.tail _ (.tail _ (.tail _ (.tail _ (.tail _ (.head _)))))))))) da_nil) ((c__b64_value g).le (by decide)))) h1s2) fun W1s1 h1s1 e1s1 => ?_
  refine den_cps (G := G) (fm := fm_a2b_base64) (d := 1) (selB false (tlB (tlB (tlB (tlB (tlB (tlB (tlB (bodyOf P 107))))))))) (db_cons (ds_if (dt_cmp (de_var (.tail _ (.tail _ (.tail _ (.tail _ (.tail _ (.tail _ (.tail _ (.tail _ (.head _)))))))))) de_int dop_eq) db_dead
    db_nil) h1s1) fun W1s0 h1s0 e1s0 => ?_
  refine den_cps (G := G) (fm := fm_a2b_base64) (d := 1) (selB false (tlB (tlB (tlB (tlB (tlB (tlB (tlB (tlB (bodyOf P 107)))))))))) (db_cons ds_dead db_nil) fun W8s0 h8s0 e8s0 => ?_
  refine den_cps (G := G) (fm := fm_a2b_base64) (d := 1) (selB false (tlB (tlB (tlB (tlB (tlB (tlB (tlB (tlB (tlB (bodyOf P 107))))))))))) (db_cons ds_dead db_nil) fun W9s0 h9s0 e9s0 => ?_
  refine den_cps (G := G) (fm := fm_a2b_base64) (d := 1) (tlB (tlB (tlB (tlB (tlB (tlB (tlB (tlB (tlB (tlB (bodyOf P 107))))))))))) (db_cons (ds_return (de_callT (.tail _ (.tail _ (.tail _ (.tail _ (.tail _ (.head _)))))) (gt_bytes g) (da_cons (de_var (.tail _ (.tail _ (.tail _ (.head _))))) da_nil) dcall_bytes)) db_nil) fun W0s10 h0s10 e0s10 => ?_
  refine den_cps (G := G) (fm := fm_a2b_base64) (d := 1) (tlB (tlB (tlB (tlB (tlB (tlB (tlB (tlB (tlB (bodyOf P 107)))))))))) (db_cons (ds_if (dt_bool (dall_and_cons (dt_cmp (de_var (.tail _ (.tail _ (.tail _ (.tail _ (.head _)))))) de_int dop_ne) (dall_and_cons (dt_cmp (de_bin (de_var (.tail _ (.tail _ (.tail _ (.tail _ (.head _)))))) (de_var (.tail _ (.tail _ (.tail _ (.tail _ (.tail _ (.tail _ (.head _)))))))) dop_add) de_int dop_lt) dall_and_nil))) h9s0
    db_nil) h0s10) fun W0s9 h0s9 e0s9 => ?_
  refine den_cps (G := G) (fm := fm_a2b_base64) (d := 1) (tlB (tlB (tlB (tlB (tlB (tlB (tlB (tlB (bodyOf P 107))))))))) (db_cons (ds_if (dt_cmp (de_var (.tail _ (.tail _ (.tail _ (.tail _ (.head _)))))) de_int dop_eq) h8s0
    db_nil) h0s9) fun W0s8 h0s8 e0s8 => ?_
  refine den_cps (G := G) (fm := fm_a2b_base64) (d := 1) (tlB (tlB (tlB (tlB (tlB (tlB (tlB (bodyOf P 107)))))))) (db_cons (ds_for (.tail _ (.tail _ (.tail _ (.tail _ (.tail _ (.tail _ (.tail _ (.tail _ (.head _))))))))) (di_bytes (de_var (.tail _ (.tail _ (.head _)))))
    h1s0) h0s8) fun W0s7 h0s7 e0s7 => ?_
  refine den_cps (G := G) (fm := fm_a2b_base64) (d := 1) (tlB (tlB (tlB (tlB (tlB (tlB (bodyOf P 107))))))) (db_cons (ds_assign (.tail _ (.tail _ (.tail _ (.tail _ (.tail _ (.tail _ (.tail _ (.head _)))))))) de_int) h0s7) fun W0s6 h0s6 e0s6 => ?_
  refine den_cps (G := G) (fm := fm_a2b_base64) (d := 1) (tlB (tlB (tlB (tlB (tlB (bodyOf P 107)))))) (db_cons (ds_assign (.tail _ (.tail _ (.tail _ (.tail _ (.tail _ (.tail _ (.head _))))))) de_int) h0s6) fun W0s5 h0s5 e0s5 => ?_
  refine den_cps (G := G) (fm := fm_a2b_base64) (d := 1) (tlB (tlB (tlB (tlB (bodyOf P 107))))) (db_cons (ds_assign (.tail _ (.tail _ (.tail _ (.tail _ (.tail _ (.head _)))))) de_int) h0s5) fun W0s4 h0s4 e0s4 => ?_
  refine den_cps (G := G) (fm := fm_a2b_base64) (d := 1) (tlB (tlB (tlB (bodyOf P 107)))) (db_cons (ds_assign (.tail _ (.tail _ (.tail _ (.tail _ (.head _))))) de_int) h0s4) fun W0s3 h0s3 e0s3 => ?_
  refine den_cps (G := G) (fm := fm_a2b_base64) (d := 1) (tlB (tlB (bodyOf P 107))) (db_cons (ds_assign (.tail _ (.tail _ (.tail _ (.head _)))) (de_list da_nil)) h0s3) fun W0s2 h0s2 e0s2 => ?_
  refine den_cps (G := G) (fm := fm_a2b_base64) (d := 1) (tlB (bodyOf P 107)) (db_cons (ds_assign (.tail _ (.head _)) (de_callF (.tail _ (.head _)) (gl__truth g) (fn__truth g) (da_cons (de_var (.tail _ (.head _))) da_nil) ((c__truth g).le (by decide)))) h0s2) fun W0s1 h0s1 e0s1 => ?_
  refine den_cps (G := G) (fm := fm_a2b_base64) (d := 1) (bodyOf P 107) (db_cons (ds_assign (.tail _ (.tail _ (.head _))) (de_callF (.head _) (gl__ascii_buffer g) (fn__ascii_buffer g) (da_cons (de_var (.head _)) da_nil) ((c__ascii_buffer g).le (by decide)))) h0s1) fun W0s0 h0s0 e0s0 => ?_
  refine DCallK.mono (dcall_def (fm := fm_a2b_base64) (d := 1) (body := bodyOf P 107) (ps := ps_a2b_base64) g.ok (g.kin _ _ o_a2b_base64) f_a2b_base64 b_a2b_base64 (codeRec_of g.kin cd_a2b_base64) (by kernel_rfl) (by kernel_rfl) (by kernel_rfl) s_a2b_base64 nc_a2b_base64 (by decide) (by decide) bind_a2b_base64
    h0s0) ?_
  intro ms kms Q H w
  cases ms with
  | nil => exact w.elim
  | cons m ms =>
  cases m <;> first | exact w.elim | skip
  cases ms with
  | cons _ _ => exact w.elim
  | nil =>
  cases kms with
  | nil => exact w.elim
  | cons m kms =>
  cases m <;> first | exact w.elim | skip
  rename_i bb
  cases bb <;> first | exact w.elim | skip
  cases kms with
  | cons _ _ => exact w.elim
  | nil =>
  · obtain ⟨vs, n, rfl, hl, hn, hv, q⟩ := w
    refine ⟨_, rfl, ?_⟩
    rw [e0s0, e0s1, e0s2]
    simp only [ps_a2b_base64, sx_one, sx_isb, sx_isbool, sx_then_next, sx_then_ret, sx_then_brk, sx_then_cont, sx_boolof, sx_set, sx_loc, sx_clear, sx_add_i, sx_add_b, sx_add_l, sx_sub, sx_mul_i, sx_mul_l, sx_mul_b, sx_div, sx_mod, sx_pow, sx_shl, sx_shr, sx_and, sx_or, sx_iadd, sx_eq_i, sx_eq_b, sx_eq_t, sx_eq_l, sx_ne_i, sx_ne_b, sx_ne_t, sx_lt_i, sx_lt_t, sx_le, sx_gt, sx_ge, sx_is, sx_isn, sx_tr_b, sx_tr_i, sx_tr_l, sx_neg, sx_it_l, sx_it_t, sx_it_b, sx_len_l, sx_len_b, sx_ty_b, sx_ty_p, sx_by, sx_app, sx_ext, sx_pop, sx_cnt, sx_pair, sx_tail, sx_mt_l, sx_mt_b, sx_nr0, sx_ib, sx_il, sx_ir1, sx_ir3, sx_irev, sx_ien, sx_mk, sx_trn, sx_resub, sx_isi1, sx_isi2, sx_sum, sx_min, sx_sorted, sx_si, sx_sl, sx_slr, sx_mis1, sx_mis2, sx_mis3, sx_mis4, String.reduceBEq, String.reduceEq, List.map_cons, List.map_nil, List.zip_cons_cons, List.zip_nil_right, List.lookup_cons, List.lookup_nil, List.any_cons, List.any_nil, Nat.reduceEqDiff, Nat.reduceBEq, beq_self_eq_true, Option.some.injEq, exists_eq_left', exists_eq_left, reduceCtorEq, ite_true, ite_false, if_true, if_false, ↓reduceIte, Bool.false_eq_true, decide_eq_true_eq, true_and, and_true, Bool.not_true, Bool.not_false, Bool.or_false, Bool.false_or, MHeap.set_self, exists_eq', List.length_cons, List.length_nil, Nat.zero_add, Nat.reduceAdd, Nat.reduceLeDiff]
    intro o ho
    rw [e0s3, e0s4, e0s5, e0s6, e0s7]
    simp only [sx_then_next, sx_then_ret, sx_then_brk, sx_then_cont, sx_boolof, sx_set, sx_loc, sx_clear, sx_add_i, sx_add_b, sx_add_l, sx_sub, sx_mul_i, sx_mul_l, sx_mul_b, sx_div, sx_mod, sx_pow, sx_shl, sx_shr, sx_and, sx_or, sx_iadd, sx_eq_i, sx_eq_b, sx_eq_t, sx_eq_l, sx_ne_i, sx_ne_b, sx_ne_t, sx_lt_i, sx_lt_t, sx_le, sx_gt, sx_ge, sx_is, sx_isn, sx_tr_b, sx_tr_i, sx_tr_l, sx_neg, sx_it_l, sx_it_t, sx_it_b, sx_len_l, sx_len_b, sx_ty_b, sx_ty_p, sx_by, sx_app, sx_ext, sx_pop, sx_cnt, sx_pair, sx_tail, sx_mt_l, sx_mt_b, sx_nr0, sx_ib, sx_il, sx_ir1, sx_ir3, sx_irev, sx_ien, sx_mk, sx_trn, sx_resub, sx_isi1, sx_isi2, sx_sum, sx_min, sx_sorted, sx_si, sx_sl, sx_slr, sx_mis1, sx_mis2, sx_mis3, sx_mis4, String.reduceBEq, String.reduceEq, List.map_cons, List.map_nil, List.zip_cons_cons, List.zip_nil_right, List.lookup_cons, List.lookup_nil, List.any_cons, List.any_nil, Nat.reduceEqDiff, Nat.reduceBEq, beq_self_eq_true, Option.some.injEq, exists_eq_left', exists_eq_left, reduceCtorEq, ite_true, ite_false, if_true, if_false, ↓reduceIte, Bool.false_eq_true, decide_eq_true_eq, true_and, and_true, Bool.not_true, Bool.not_false, Bool.or_false, Bool.false_or, MHeap.set_self, exists_eq', List.length_cons, List.length_nil, Nat.zero_add, Nat.reduceAdd, Nat.reduceLeDiff]
    refine loop_a2b (o := o) (H0 := H) ?_ n vs [] _ _ hl hv (by simp; lia) ⟨rfl, rfl, rfl, rfl, rfl, ⟨_, rfl⟩, rfl, by simp⟩ ?_
    · intro ρ H' q L outs v K' hJ hz hv hq hL1 hL2 hL3 hK
      obtain ⟨h1, h3, h4, h5, h6, ⟨i, h7⟩, rfl, _⟩ := hJ
      obtain ⟨hbv, hne⟩ := b64_inv ⟨v, hv⟩
      have hne' : ¬ (((b64char v).toNat : Nat) : Int) = 61 := by
        have : (b64char v).toNat ≠ 61 := hne
        lia
      simp only at hbv
      rw [e1s0]
      simp only [sx_then_next, sx_then_ret, sx_then_brk, sx_then_cont, sx_boolof, sx_set, sx_loc, sx_clear, sx_add_i, sx_add_b, sx_add_l, sx_sub, sx_mul_i, sx_mul_l, sx_mul_b, sx_div, sx_mod, sx_pow, sx_shl, sx_shr, sx_and, sx_or, sx_iadd, sx_eq_i, sx_eq_b, sx_eq_t, sx_eq_l, sx_ne_i, sx_ne_b, sx_ne_t, sx_lt_i, sx_lt_t, sx_le, sx_gt, sx_ge, sx_is, sx_isn, sx_tr_b, sx_tr_i, sx_tr_l, sx_neg, sx_it_l, sx_it_t, sx_it_b, sx_len_l, sx_len_b, sx_ty_b, sx_ty_p, sx_by, sx_app, sx_ext, sx_pop, sx_cnt, sx_pair, sx_tail, sx_mt_l, sx_mt_b, sx_nr0, sx_ib, sx_il, sx_ir1, sx_ir3, sx_irev, sx_ien, sx_mk, sx_trn, sx_resub, sx_isi1, sx_isi2, sx_sum, sx_min, sx_sorted, sx_si, sx_sl, sx_slr, sx_mis1, sx_mis2, sx_mis3, sx_mis4, String.reduceBEq, String.reduceEq, List.map_cons, List.map_nil, List.zip_cons_cons, List.zip_nil_right, List.lookup_cons, List.lookup_nil, List.any_cons, List.any_nil, Nat.reduceEqDiff, Nat.reduceBEq, beq_self_eq_true, Option.some.injEq, exists_eq_left', exists_eq_left, reduceCtorEq, ite_true, ite_false, if_true, if_false, ↓reduceIte, Bool.false_eq_true, decide_eq_true_eq, true_and, and_true, Bool.not_true, Bool.not_false, Bool.or_false, Bool.false_or, MHeap.set_self, exists_eq', List.length_cons, List.length_nil, Nat.zero_add, Nat.reduceAdd, Nat.reduceLeDiff]
      rw [if_neg hne', e1s1]
      simp only [sx_b64v, hbv, sx_then_next, sx_then_ret, sx_then_brk, sx_then_cont, sx_boolof, sx_set, sx_loc, sx_clear, sx_add_i, sx_add_b, sx_add_l, sx_sub, sx_mul_i, sx_mul_l, sx_mul_b, sx_div, sx_mod, sx_pow, sx_shl, sx_shr, sx_and, sx_or, sx_iadd, sx_eq_i, sx_eq_b, sx_eq_t, sx_eq_l, sx_ne_i, sx_ne_b, sx_ne_t, sx_lt_i, sx_lt_t, sx_le, sx_gt, sx_ge, sx_is, sx_isn, sx_tr_b, sx_tr_i, sx_tr_l, sx_neg, sx_it_l, sx_it_t, sx_it_b, sx_len_l, sx_len_b, sx_ty_b, sx_ty_p, sx_by, sx_app, sx_ext, sx_pop, sx_cnt, sx_pair, sx_tail, sx_mt_l, sx_mt_b, sx_nr0, sx_ib, sx_il, sx_ir1, sx_ir3, sx_irev, sx_ien, sx_mk, sx_trn, sx_resub, sx_isi1, sx_isi2, sx_sum, sx_min, sx_sorted, sx_si, sx_sl, sx_slr, sx_mis1, sx_mis2, sx_mis3, sx_mis4, String.reduceBEq, String.reduceEq, List.map_cons, List.map_nil, List.zip_cons_cons, List.zip_nil_right, List.lookup_cons, List.lookup_nil, List.any_cons, List.any_nil, Nat.reduceEqDiff, Nat.reduceBEq, beq_self_eq_true, Option.some.injEq, exists_eq_left', exists_eq_left, reduceCtorEq, ite_true, ite_false, if_true, if_false, ↓reduceIte, Bool.false_eq_true, decide_eq_true_eq, true_and, and_true, Bool.not_true, Bool.not_false, Bool.or_false, Bool.false_or, MHeap.set_self, exists_eq', List.length_cons, List.length_nil, Nat.zero_add, Nat.reduceAdd, Nat.reduceLeDiff]
      rw [e1s2]
      simp only [sx_then_next, sx_then_ret, sx_then_brk, sx_then_cont, sx_boolof, sx_set, sx_loc, sx_clear, sx_add_i, sx_add_b, sx_add_l, sx_sub, sx_mul_i, sx_mul_l, sx_mul_b, sx_div, sx_mod, sx_pow, sx_shl, sx_shr, sx_and, sx_or, sx_iadd, sx_eq_i, sx_eq_b, sx_eq_t, sx_eq_l, sx_ne_i, sx_ne_b, sx_ne_t, sx_lt_i, sx_lt_t, sx_le, sx_gt, sx_ge, sx_is, sx_isn, sx_tr_b, sx_tr_i, sx_tr_l, sx_neg, sx_it_l, sx_it_t, sx_it_b, sx_len_l, sx_len_b, sx_ty_b, sx_ty_p, sx_by, sx_app, sx_ext, sx_pop, sx_cnt, sx_pair, sx_tail, sx_mt_l, sx_mt_b, sx_nr0, sx_ib, sx_il, sx_ir1, sx_ir3, sx_irev, sx_ien, sx_mk, sx_trn, sx_resub, sx_isi1, sx_isi2, sx_sum, sx_min, sx_sorted, sx_si, sx_sl, sx_slr, sx_mis1, sx_mis2, sx_mis3, sx_mis4, String.reduceBEq, String.reduceEq, List.map_cons, List.map_nil, List.zip_cons_cons, List.zip_nil_right, List.lookup_cons, List.lookup_nil, List.any_cons, List.any_nil, Nat.reduceEqDiff, Nat.reduceBEq, beq_self_eq_true, Option.some.injEq, exists_eq_left', exists_eq_left, reduceCtorEq, ite_true, ite_false, if_true, if_false, ↓reduceIte, Bool.false_eq_true, decide_eq_true_eq, true_and, and_true, Bool.not_true, Bool.not_false, Bool.or_false, Bool.false_or, MHeap.set_self, exists_eq', List.length_cons, List.length_nil, Nat.zero_add, Nat.reduceAdd, Nat.reduceLeDiff]
      rw [if_neg (by lia), e1s3]
      simp only [h1, h6, sx_then_next, sx_then_ret, sx_then_brk, sx_then_cont, sx_boolof, sx_set, sx_loc, sx_clear, sx_add_i, sx_add_b, sx_add_l, sx_sub, sx_mul_i, sx_mul_l, sx_mul_b, sx_div, sx_mod, sx_pow, sx_shl, sx_shr, sx_and, sx_or, sx_iadd, sx_eq_i, sx_eq_b, sx_eq_t, sx_eq_l, sx_ne_i, sx_ne_b, sx_ne_t, sx_lt_i, sx_lt_t, sx_le, sx_gt, sx_ge, sx_is, sx_isn, sx_tr_b, sx_tr_i, sx_tr_l, sx_neg, sx_it_l, sx_it_t, sx_it_b, sx_len_l, sx_len_b, sx_ty_b, sx_ty_p, sx_by, sx_app, sx_ext, sx_pop, sx_cnt, sx_pair, sx_tail, sx_mt_l, sx_mt_b, sx_nr0, sx_ib, sx_il, sx_ir1, sx_ir3, sx_irev, sx_ien, sx_mk, sx_trn, sx_resub, sx_isi1, sx_isi2, sx_sum, sx_min, sx_sorted, sx_si, sx_sl, sx_slr, sx_mis1, sx_mis2, sx_mis3, sx_mis4, String.reduceBEq, String.reduceEq, List.map_cons, List.map_nil, List.zip_cons_cons, List.zip_nil_right, List.lookup_cons, List.lookup_nil, List.any_cons, List.any_nil, Nat.reduceEqDiff, Nat.reduceBEq, beq_self_eq_true, Option.some.injEq, exists_eq_left', exists_eq_left, reduceCtorEq, ite_true, ite_false, if_true, if_false, ↓reduceIte, Bool.false_eq_true, decide_eq_true_eq, true_and, and_true, Bool.not_true, Bool.not_false, Bool.or_false, Bool.false_or, MHeap.set_self, exists_eq', List.length_cons, List.length_nil, Nat.zero_add, Nat.reduceAdd, Nat.reduceLeDiff]
      rw [if_neg (by decide), e1s4, e1s5]
      simp only [h4, sx_then_next, sx_then_ret, sx_then_brk, sx_then_cont, sx_boolof, sx_set, sx_loc, sx_clear, sx_add_i, sx_add_b, sx_add_l, sx_sub, sx_mul_i, sx_mul_l, sx_mul_b, sx_div, sx_mod, sx_pow, sx_shl, sx_shr, sx_and, sx_or, sx_iadd, sx_eq_i, sx_eq_b, sx_eq_t, sx_eq_l, sx_ne_i, sx_ne_b, sx_ne_t, sx_lt_i, sx_lt_t, sx_le, sx_gt, sx_ge, sx_is, sx_isn, sx_tr_b, sx_tr_i, sx_tr_l, sx_neg, sx_it_l, sx_it_t, sx_it_b, sx_len_l, sx_len_b, sx_ty_b, sx_ty_p, sx_by, sx_app, sx_ext, sx_pop, sx_cnt, sx_pair, sx_tail, sx_mt_l, sx_mt_b, sx_nr0, sx_ib, sx_il, sx_ir1, sx_ir3, sx_irev, sx_ien, sx_mk, sx_trn, sx_resub, sx_isi1, sx_isi2, sx_sum, sx_min, sx_sorted, sx_si, sx_sl, sx_slr, sx_mis1, sx_mis2, sx_mis3, sx_mis4, String.reduceBEq, String.reduceEq, List.map_cons, List.map_nil, List.zip_cons_cons, List.zip_nil_right, List.lookup_cons, List.lookup_nil, List.any_cons, List.any_nil, Nat.reduceEqDiff, Nat.reduceBEq, beq_self_eq_true, Option.some.injEq, exists_eq_left', exists_eq_left, reduceCtorEq, ite_true, ite_false, if_true, if_false, ↓reduceIte, Bool.false_eq_true, decide_eq_true_eq, true_and, and_true, Bool.not_true, Bool.not_false, Bool.or_false, Bool.false_or, MHeap.set_self, exists_eq', List.length_cons, List.length_nil, Nat.zero_add, Nat.reduceAdd, Nat.reduceLeDiff]
      have fin : ∀ (q' : Nat) (L' : Nat) (outs' : List UInt8) (ρ' : Loc) (H' : MHeap), q' = (q + 1) % 4 → L' = aLeft q v → outs' = outs ++ aOut q L v → outs'.length ≤ 100000 →
          ρ' 1 = some (.bool false) → ρ' 3 = some (.lst o) → ρ' 4 = some (.int (q' : Nat)) → ρ' 5 = some (.int (L' : Nat)) → ρ' 6 = some (.int 0) → ρ' 7 = some (.int i) → H' = H.set o (asInts outs') → W1s6 ρ' K' H' := by
        rintro q' L' outs' ρ' H' rfl rfl rfl hz' r1 r3 r4 r5 r6 r7 rfl
        rw [e1s6]
        simp only [r7, sx_then_next, sx_then_ret, sx_then_brk, sx_then_cont, sx_boolof, sx_set, sx_loc, sx_clear, sx_add_i, sx_add_b, sx_add_l, sx_sub, sx_mul_i, sx_mul_l, sx_mul_b, sx_div, sx_mod, sx_pow, sx_shl, sx_shr, sx_and, sx_or, sx_iadd, sx_eq_i, sx_eq_b, sx_eq_t, sx_eq_l, sx_ne_i, sx_ne_b, sx_ne_t, sx_lt_i, sx_lt_t, sx_le, sx_gt, sx_ge, sx_is, sx_isn, sx_tr_b, sx_tr_i, sx_tr_l, sx_neg, sx_it_l, sx_it_t, sx_it_b, sx_len_l, sx_len_b, sx_ty_b, sx_ty_p, sx_by, sx_app, sx_ext, sx_pop, sx_cnt, sx_pair, sx_tail, sx_mt_l, sx_mt_b, sx_nr0, sx_ib, sx_il, sx_ir1, sx_ir3, sx_irev, sx_ien, sx_mk, sx_trn, sx_resub, sx_isi1, sx_isi2, sx_sum, sx_min, sx_sorted, sx_si, sx_sl, sx_slr, sx_mis1, sx_mis2, sx_mis3, sx_mis4, String.reduceBEq, String.reduceEq, List.map_cons, List.map_nil, List.zip_cons_cons, List.zip_nil_right, List.lookup_cons, List.lookup_nil, List.any_cons, List.any_nil, Nat.reduceEqDiff, Nat.reduceBEq, beq_self_eq_true, Option.some.injEq, exists_eq_left', exists_eq_left, reduceCtorEq, ite_true, ite_false, if_true, if_false, ↓reduceIte, Bool.false_eq_true, decide_eq_true_eq, true_and, and_true, Bool.not_true, Bool.not_false, Bool.or_false, Bool.false_or, MHeap.set_self, exists_eq', List.length_cons, List.length_nil, Nat.zero_add, Nat.reduceAdd, Nat.reduceLeDiff]
        exact hK _ _ ⟨r1, r3, r4, r5, r6, ⟨_, rfl⟩, rfl, hz'⟩
      clear hK e1s0 e1s1 e1s2 e1s3 e1s4 e1s5 e1s6
      have hq' : q = 0 ∨ q = 1 ∨ q = 2 ∨ q = 3 := by lia
      have hlen : (asInts outs).length ≤ 1000000 := by simp [asInts]; lia
      have hH : ∀ x : Nat, x < 256 → (H.set o (asInts outs)).set o (asInts outs ++ [.int (x : Nat)]) = H.set o (asInts (outs ++ [UInt8.ofNat x])) := fun x hx => by
        rw [MHeap.set_set]; congr 1; simp [asInts]; lia
      rcases hq' with rfl | rfl | rfl | rfl
      · rw [if_pos (by decide), e2s0, e2s1]
        simp only [sx_then_next, sx_then_ret, sx_then_brk, sx_then_cont, sx_boolof, sx_set, sx_loc, sx_clear, sx_add_i, sx_add_b, sx_add_l, sx_sub, sx_mul_i, sx_mul_l, sx_mul_b, sx_div, sx_mod, sx_pow, sx_shl, sx_shr, sx_and, sx_or, sx_iadd, sx_eq_i, sx_eq_b, sx_eq_t, sx_eq_l, sx_ne_i, sx_ne_b, sx_ne_t, sx_lt_i, sx_lt_t, sx_le, sx_gt, sx_ge, sx_is, sx_isn, sx_tr_b, sx_tr_i, sx_tr_l, sx_neg, sx_it_l, sx_it_t, sx_it_b, sx_len_l, sx_len_b, sx_ty_b, sx_ty_p, sx_by, sx_app, sx_ext, sx_pop, sx_cnt, sx_pair, sx_tail, sx_mt_l, sx_mt_b, sx_nr0, sx_ib, sx_il, sx_ir1, sx_ir3, sx_irev, sx_ien, sx_mk, sx_trn, sx_resub, sx_isi1, sx_isi2, sx_sum, sx_min, sx_sorted, sx_si, sx_sl, sx_slr, sx_mis1, sx_mis2, sx_mis3, sx_mis4, String.reduceBEq, String.reduceEq, List.map_cons, List.map_nil, List.zip_cons_cons, List.zip_nil_right, List.lookup_cons, List.lookup_nil, List.any_cons, List.any_nil, Nat.reduceEqDiff, Nat.reduceBEq, beq_self_eq_true, Option.some.injEq, exists_eq_left', exists_eq_left, reduceCtorEq, ite_true, ite_false, if_true, if_false, ↓reduceIte, Bool.false_eq_true, decide_eq_true_eq, true_and, and_true, Bool.not_true, Bool.not_false, Bool.or_false, Bool.false_or, MHeap.set_self, exists_eq', List.length_cons, List.length_nil, Nat.zero_add, Nat.reduceAdd, Nat.reduceLeDiff]
        exact fin 1 v outs _ _ rfl rfl (by simp [aOut]) (by lia) h1 h3 rfl rfl rfl h7 rfl
      · have hL := hL1 rfl
        rw [if_neg (by decide), e3s0]
        simp only [h4, sx_then_next, sx_then_ret, sx_then_brk, sx_then_cont, sx_boolof, sx_set, sx_loc, sx_clear, sx_add_i, sx_add_b, sx_add_l, sx_sub, sx_mul_i, sx_mul_l, sx_mul_b, sx_div, sx_mod, sx_pow, sx_shl, sx_shr, sx_and, sx_or, sx_iadd, sx_eq_i, sx_eq_b, sx_eq_t, sx_eq_l, sx_ne_i, sx_ne_b, sx_ne_t, sx_lt_i, sx_lt_t, sx_le, sx_gt, sx_ge, sx_is, sx_isn, sx_tr_b, sx_tr_i, sx_tr_l, sx_neg, sx_it_l, sx_it_t, sx_it_b, sx_len_l, sx_len_b, sx_ty_b, sx_ty_p, sx_by, sx_app, sx_ext, sx_pop, sx_cnt, sx_pair, sx_tail, sx_mt_l, sx_mt_b, sx_nr0, sx_ib, sx_il, sx_ir1, sx_ir3, sx_irev, sx_ien, sx_mk, sx_trn, sx_resub, sx_isi1, sx_isi2, sx_sum, sx_min, sx_sorted, sx_si, sx_sl, sx_slr, sx_mis1, sx_mis2, sx_mis3, sx_mis4, String.reduceBEq, String.reduceEq, List.map_cons, List.map_nil, List.zip_cons_cons, List.zip_nil_right, List.lookup_cons, List.lookup_nil, List.any_cons, List.any_nil, Nat.reduceEqDiff, Nat.reduceBEq, beq_self_eq_true, Option.some.injEq, exists_eq_left', exists_eq_left, reduceCtorEq, ite_true, ite_false, if_true, if_false, ↓reduceIte, Bool.false_eq_true, decide_eq_true_eq, true_and, and_true, Bool.not_true, Bool.not_false, Bool.or_false, Bool.false_or, MHeap.set_self, exists_eq', List.length_cons, List.length_nil, Nat.zero_add, Nat.reduceAdd, Nat.reduceLeDiff]
        rw [if_pos (by decide), e4s0, e4s1, e4s2]
        simp only [h3, h5, sx_then_next, sx_then_ret, sx_then_brk, sx_then_cont, sx_boolof, sx_set, sx_loc, sx_clear, sx_add_i, sx_add_b, sx_add_l, sx_sub, sx_mul_i, sx_mul_l, sx_mul_b, sx_div, sx_mod, sx_pow, sx_shl, sx_shr, sx_and, sx_or, sx_iadd, sx_eq_i, sx_eq_b, sx_eq_t, sx_eq_l, sx_ne_i, sx_ne_b, sx_ne_t, sx_lt_i, sx_lt_t, sx_le, sx_gt, sx_ge, sx_is, sx_isn, sx_tr_b, sx_tr_i, sx_tr_l, sx_neg, sx_it_l, sx_it_t, sx_it_b, sx_len_l, sx_len_b, sx_ty_b, sx_ty_p, sx_by, sx_app, sx_ext, sx_pop, sx_cnt, sx_pair, sx_tail, sx_mt_l, sx_mt_b, sx_nr0, sx_ib, sx_il, sx_ir1, sx_ir3, sx_irev, sx_ien, sx_mk, sx_trn, sx_resub, sx_isi1, sx_isi2, sx_sum, sx_min, sx_sorted, sx_si, sx_sl, sx_slr, sx_mis1, sx_mis2, sx_mis3, sx_mis4, String.reduceBEq, String.reduceEq, List.map_cons, List.map_nil, List.zip_cons_cons, List.zip_nil_right, List.lookup_cons, List.lookup_nil, List.any_cons, List.any_nil, Nat.reduceEqDiff, Nat.reduceBEq, beq_self_eq_true, Option.some.injEq, exists_eq_left', exists_eq_left, reduceCtorEq, ite_true, ite_false, if_true, if_false, ↓reduceIte, Bool.false_eq_true, decide_eq_true_eq, true_and, and_true, Bool.not_true, Bool.not_false, Bool.or_false, Bool.false_or, MHeap.set_self, exists_eq', List.length_cons, List.length_nil, Nat.zero_add, Nat.reduceAdd, Nat.reduceLeDiff]
        refine ⟨by lia, by lia, by lia, hlen, ?_⟩
        have e1 : Builtin.bitOr (((L : Nat) : Int) * 2 ^ Int.toNat 2) (((v : Nat) : Int).fdiv (2 ^ Int.toNat 4)) = ((L * 4 + v / 16 : Nat) : Int) := by
          rw [show ((L : Nat) : Int) * 2 ^ Int.toNat 2 = ((L * 2 ^ 2 : Nat) : Int) from by simp, show (2 : Int) ^ Int.toNat 4 = ((16 : Nat) : Int) from rfl, fdiv_nat, bitOr_nat, or_shift L (v / 16) 2 (by lia)]
        have e2 : Builtin.bitAnd ((v : Nat) : Int) 15 = ((v % 16 : Nat) : Int) := by rw [show (15 : Int) = ((15 : Nat) : Int) from rfl, bitAnd_nat, and_15]
        rw [e1, e2, hH _ (by lia)]
        exact fin 2 (v % 16) (outs ++ [UInt8.ofNat (L * 4 + v / 16)]) _ _ rfl rfl (by simp [aOut]) (by simp; lia) h1 h3 rfl rfl rfl h7 rfl
      · have hL := hL2 rfl
        rw [if_neg (by decide), e3s0]
        simp only [h4, sx_then_next, sx_then_ret, sx_then_brk, sx_then_cont, sx_boolof, sx_set, sx_loc, sx_clear, sx_add_i, sx_add_b, sx_add_l, sx_sub, sx_mul_i, sx_mul_l, sx_mul_b, sx_div, sx_mod, sx_pow, sx_shl, sx_shr, sx_and, sx_or, sx_iadd, sx_eq_i, sx_eq_b, sx_eq_t, sx_eq_l, sx_ne_i, sx_ne_b, sx_ne_t, sx_lt_i, sx_lt_t, sx_le, sx_gt, sx_ge, sx_is, sx_isn, sx_tr_b, sx_tr_i, sx_tr_l, sx_neg, sx_it_l, sx_it_t, sx_it_b, sx_len_l, sx_len_b, sx_ty_b, sx_ty_p, sx_by, sx_app, sx_ext, sx_pop, sx_cnt, sx_pair, sx_tail, sx_mt_l, sx_mt_b, sx_nr0, sx_ib, sx_il, sx_ir1, sx_ir3, sx_irev, sx_ien, sx_mk, sx_trn, sx_resub, sx_isi1, sx_isi2, sx_sum, sx_min, sx_sorted, sx_si, sx_sl, sx_slr, sx_mis1, sx_mis2, sx_mis3, sx_mis4, String.reduceBEq, String.reduceEq, List.map_cons, List.map_nil, List.zip_cons_cons, List.zip_nil_right, List.lookup_cons, List.lookup_nil, List.any_cons, List.any_nil, Nat.reduceEqDiff, Nat.reduceBEq, beq_self_eq_true, Option.some.injEq, exists_eq_left', exists_eq_left, reduceCtorEq, ite_true, ite_false, if_true, if_false, ↓reduceIte, Bool.false_eq_true, decide_eq_true_eq, true_and, and_true, Bool.not_true, Bool.not_false, Bool.or_false, Bool.false_or, MHeap.set_self, exists_eq', List.length_cons, List.length_nil, Nat.zero_add, Nat.reduceAdd, Nat.reduceLeDiff]
        rw [if_neg (by decide), e5s0]
        simp only [h4, sx_then_next, sx_then_ret, sx_then_brk, sx_then_cont, sx_boolof, sx_set, sx_loc, sx_clear, sx_add_i, sx_add_b, sx_add_l, sx_sub, sx_mul_i, sx_mul_l, sx_mul_b, sx_div, sx_mod, sx_pow, sx_shl, sx_shr, sx_and, sx_or, sx_iadd, sx_eq_i, sx_eq_b, sx_eq_t, sx_eq_l, sx_ne_i, sx_ne_b, sx_ne_t, sx_lt_i, sx_lt_t, sx_le, sx_gt, sx_ge, sx_is, sx_isn, sx_tr_b, sx_tr_i, sx_tr_l, sx_neg, sx_it_l, sx_it_t, sx_it_b, sx_len_l, sx_len_b, sx_ty_b, sx_ty_p, sx_by, sx_app, sx_ext, sx_pop, sx_cnt, sx_pair, sx_tail, sx_mt_l, sx_mt_b, sx_nr0, sx_ib, sx_il, sx_ir1, sx_ir3, sx_irev, sx_ien, sx_mk, sx_trn, sx_resub, sx_isi1, sx_isi2, sx_sum, sx_min, sx_sorted, sx_si, sx_sl, sx_slr, sx_mis1, sx_mis2, sx_mis3, sx_mis4, String.reduceBEq, String.reduceEq, List.map_cons, List.map_nil, List.zip_cons_cons, List.zip_nil_right, List.lookup_cons, List.lookup_nil, List.any_cons, List.any_nil, Nat.reduceEqDiff, Nat.reduceBEq, beq_self_eq_true, Option.some.injEq, exists_eq_left', exists_eq_left, reduceCtorEq, ite_true, ite_false, if_true, if_false, ↓reduceIte, Bool.false_eq_true, decide_eq_true_eq, true_and, and_true, Bool.not_true, Bool.not_false, Bool.or_false, Bool.false_or, MHeap.set_self, exists_eq', List.length_cons, List.length_nil, Nat.zero_add, Nat.reduceAdd, Nat.reduceLeDiff]
        rw [if_pos (by decide), e6s0, e6s1, e6s2]
        simp only [h3, h5, sx_then_next, sx_then_ret, sx_then_brk, sx_then_cont, sx_boolof, sx_set, sx_loc, sx_clear, sx_add_i, sx_add_b, sx_add_l, sx_sub, sx_mul_i, sx_mul_l, sx_mul_b, sx_div, sx_mod, sx_pow, sx_shl, sx_shr, sx_and, sx_or, sx_iadd, sx_eq_i, sx_eq_b, sx_eq_t, sx_eq_l, sx_ne_i, sx_ne_b, sx_ne_t, sx_lt_i, sx_lt_t, sx_le, sx_gt, sx_ge, sx_is, sx_isn, sx_tr_b, sx_tr_i, sx_tr_l, sx_neg, sx_it_l, sx_it_t, sx_it_b, sx_len_l, sx_len_b, sx_ty_b, sx_ty_p, sx_by, sx_app, sx_ext, sx_pop, sx_cnt, sx_pair, sx_tail, sx_mt_l, sx_mt_b, sx_nr0, sx_ib, sx_il, sx_ir1, sx_ir3, sx_irev, sx_ien, sx_mk, sx_trn, sx_resub, sx_isi1, sx_isi2, sx_sum, sx_min, sx_sorted, sx_si, sx_sl, sx_slr, sx_mis1, sx_mis2, sx_mis3, sx_mis4, String.reduceBEq, String.reduceEq, List.map_cons, List.map_nil, List.zip_cons_cons, List.zip_nil_right, List.lookup_cons, List.lookup_nil, List.any_cons, List.any_nil, Nat.reduceEqDiff, Nat.reduceBEq, beq_self_eq_true, Option.some.injEq, exists_eq_left', exists_eq_left, reduceCtorEq, ite_true, ite_false, if_true, if_false, ↓reduceIte, Bool.false_eq_true, decide_eq_true_eq, true_and, and_true, Bool.not_true, Bool.not_false, Bool.or_false, Bool.false_or, MHeap.set_self, exists_eq', List.length_cons, List.length_nil, Nat.zero_add, Nat.reduceAdd, Nat.reduceLeDiff]
        refine ⟨by lia, by lia, by lia, hlen, ?_⟩
        have e1 : Builtin.bitOr (((L : Nat) : Int) * 2 ^ Int.toNat 4) (((v : Nat) : Int).fdiv (2 ^ Int.toNat 2)) = ((L * 16 + v / 4 : Nat) : Int) := by
          rw [show ((L : Nat) : Int) * 2 ^ Int.toNat 4 = ((L * 2 ^ 4 : Nat) : Int) from by simp, show (2 : Int) ^ Int.toNat 2 = ((4 : Nat) : Int) from rfl, fdiv_nat, bitOr_nat, or_shift L (v / 4) 4 (by lia)]
        have e2 : Builtin.bitAnd ((v : Nat) : Int) 3 = ((v % 4 : Nat) : Int) := by rw [show (3 : Int) = ((3 : Nat) : Int) from rfl, bitAnd_nat, and_3]
        rw [e1, e2, hH _ (by lia)]
        exact fin 3 (v % 4) (outs ++ [UInt8.ofNat (L * 16 + v / 4)]) _ _ rfl rfl (by simp [aOut]) (by simp; lia) h1 h3 rfl rfl rfl h7 rfl
      · have hL := hL3 rfl
        rw [if_neg (by decide), e3s0]
        simp only [h4, sx_then_next, sx_then_ret, sx_then_brk, sx_then_cont, sx_boolof, sx_set, sx_loc, sx_clear, sx_add_i, sx_add_b, sx_add_l, sx_sub, sx_mul_i, sx_mul_l, sx_mul_b, sx_div, sx_mod, sx_pow, sx_shl, sx_shr, sx_and, sx_or, sx_iadd, sx_eq_i, sx_eq_b, sx_eq_t, sx_eq_l, sx_ne_i, sx_ne_b, sx_ne_t, sx_lt_i, sx_lt_t, sx_le, sx_gt, sx_ge, sx_is, sx_isn, sx_tr_b, sx_tr_i, sx_tr_l, sx_neg, sx_it_l, sx_it_t, sx_it_b, sx_len_l, sx_len_b, sx_ty_b, sx_ty_p, sx_by, sx_app, sx_ext, sx_pop, sx_cnt, sx_pair, sx_tail, sx_mt_l, sx_mt_b, sx_nr0, sx_ib, sx_il, sx_ir1, sx_ir3, sx_irev, sx_ien, sx_mk, sx_trn, sx_resub, sx_isi1, sx_isi2, sx_sum, sx_min, sx_sorted, sx_si, sx_sl, sx_slr, sx_mis1, sx_mis2, sx_mis3, sx_mis4, String.reduceBEq, String.reduceEq, List.map_cons, List.map_nil, List.zip_cons_cons, List.zip_nil_right, List.lookup_cons, List.lookup_nil, List.any_cons, List.any_nil, Nat.reduceEqDiff, Nat.reduceBEq, beq_self_eq_true, Option.some.injEq, exists_eq_left', exists_eq_left, reduceCtorEq, ite_true, ite_false, if_true, if_false, ↓reduceIte, Bool.false_eq_true, decide_eq_true_eq, true_and, and_true, Bool.not_true, Bool.not_false, Bool.or_false, Bool.false_or, MHeap.set_self, exists_eq', List.length_cons, List.length_nil, Nat.zero_add, Nat.reduceAdd, Nat.reduceLeDiff]
        rw [if_neg (by decide), e5s0]
        simp only [h4, sx_then_next, sx_then_ret, sx_then_brk, sx_then_cont, sx_boolof, sx_set, sx_loc, sx_clear, sx_add_i, sx_add_b, sx_add_l, sx_sub, sx_mul_i, sx_mul_l, sx_mul_b, sx_div, sx_mod, sx_pow, sx_shl, sx_shr, sx_and, sx_or, sx_iadd, sx_eq_i, sx_eq_b, sx_eq_t, sx_eq_l, sx_ne_i, sx_ne_b, sx_ne_t, sx_lt_i, sx_lt_t, sx_le, sx_gt, sx_ge, sx_is, sx_isn, sx_tr_b, sx_tr_i, sx_tr_l, sx_neg, sx_it_l, sx_it_t, sx_it_b, sx_len_l, sx_len_b, sx_ty_b, sx_ty_p, sx_by, sx_app, sx_ext, sx_pop, sx_cnt, sx_pair, sx_tail, sx_mt_l, sx_mt_b, sx_nr0, sx_ib, sx_il, sx_ir1, sx_ir3, sx_irev, sx_ien, sx_mk, sx_trn, sx_resub, sx_isi1, sx_isi2, sx_sum, sx_min, sx_sorted, sx_si, sx_sl, sx_slr, sx_mis1, sx_mis2, sx_mis3, sx_mis4, String.reduceBEq, String.reduceEq, List.map_cons, List.map_nil, List.zip_cons_cons, List.zip_nil_right, List.lookup_cons, List.lookup_nil, List.any_cons, List.any_nil, Nat.reduceEqDiff, Nat.reduceBEq, beq_self_eq_true, Option.some.injEq, exists_eq_left', exists_eq_left, reduceCtorEq, ite_true, ite_false, if_true, if_false, ↓reduceIte, Bool.false_eq_true, decide_eq_true_eq, true_and, and_true, Bool.not_true, Bool.not_false, Bool.or_false, Bool.false_or, MHeap.set_self, exists_eq', List.length_cons, List.length_nil, Nat.zero_add, Nat.reduceAdd, Nat.reduceLeDiff]
        rw [if_neg (by decide), e7s0, e7s1, e7s2]
        simp only [h3, h5, sx_then_next, sx_then_ret, sx_then_brk, sx_then_cont, sx_boolof, sx_set, sx_loc, sx_clear, sx_add_i, sx_add_b, sx_add_l, sx_sub, sx_mul_i, sx_mul_l, sx_mul_b, sx_div, sx_mod, sx_pow, sx_shl, sx_shr, sx_and, sx_or, sx_iadd, sx_eq_i, sx_eq_b, sx_eq_t, sx_eq_l, sx_ne_i, sx_ne_b, sx_ne_t, sx_lt_i, sx_lt_t, sx_le, sx_gt, sx_ge, sx_is, sx_isn, sx_tr_b, sx_tr_i, sx_tr_l, sx_neg, sx_it_l, sx_it_t, sx_it_b, sx_len_l, sx_len_b, sx_ty_b, sx_ty_p, sx_by, sx_app, sx_ext, sx_pop, sx_cnt, sx_pair, sx_tail, sx_mt_l, sx_mt_b, sx_nr0, sx_ib, sx_il, sx_ir1, sx_ir3, sx_irev, sx_ien, sx_mk, sx_trn, sx_resub, sx_isi1, sx_isi2, sx_sum, sx_min, sx_sorted, sx_si, sx_sl, sx_slr, sx_mis1, sx_mis2, sx_mis3, sx_mis4, String.reduceBEq, String.reduceEq, List.map_cons, List.map_nil, List.zip_cons_cons, List.zip_nil_right, List.lookup_cons, List.lookup_nil, List.any_cons, List.any_nil, Nat.reduceEqDiff, Nat.reduceBEq, beq_self_eq_true, Option.some.injEq, exists_eq_left', exists_eq_left, reduceCtorEq, ite_true, ite_false, if_true, if_false, ↓reduceIte, Bool.false_eq_true, decide_eq_true_eq, true_and, and_true, Bool.not_true, Bool.not_false, Bool.or_false, Bool.false_or, MHeap.set_self, exists_eq', List.length_cons, List.length_nil, Nat.zero_add, Nat.reduceAdd, Nat.reduceLeDiff]
        refine ⟨by lia, by lia, hlen, ?_⟩
        have e1 : Builtin.bitOr (((L : Nat) : Int) * 2 ^ Int.toNat 6) ((v : Nat) : Int) = ((L * 64 + v : Nat) : Int) := by
          rw [show ((L : Nat) : Int) * 2 ^ Int.toNat 6 = ((L * 2 ^ 6 : Nat) : Int) from by simp, bitOr_nat, or_shift L v 6 (by lia)]
        rw [e1, hH _ (by lia)]
        exact fin 0 0 (outs ++ [UInt8.ofNat (L * 64 + v)]) _ _ rfl rfl (by simp [aOut]) (by simp; lia) h1 h3 rfl rfl rfl h7 rfl
    · rintro ρ' H' ⟨j1, j3, j4, j5, j6, ⟨i, j7⟩, rfl, _⟩
      rw [sx_then_next, e0s8]
      simp only [j4, sx_then_next, sx_then_ret, sx_then_brk, sx_then_cont, sx_boolof, sx_set, sx_loc, sx_clear, sx_add_i, sx_add_b, sx_add_l, sx_sub, sx_mul_i, sx_mul_l, sx_mul_b, sx_div, sx_mod, sx_pow, sx_shl, sx_shr, sx_and, sx_or, sx_iadd, sx_eq_i, sx_eq_b, sx_eq_t, sx_eq_l, sx_ne_i, sx_ne_b, sx_ne_t, sx_lt_i, sx_lt_t, sx_le, sx_gt, sx_ge, sx_is, sx_isn, sx_tr_b, sx_tr_i, sx_tr_l, sx_neg, sx_it_l, sx_it_t, sx_it_b, sx_len_l, sx_len_b, sx_ty_b, sx_ty_p, sx_by, sx_app, sx_ext, sx_pop, sx_cnt, sx_pair, sx_tail, sx_mt_l, sx_mt_b, sx_nr0, sx_ib, sx_il, sx_ir1, sx_ir3, sx_irev, sx_ien, sx_mk, sx_trn, sx_resub, sx_isi1, sx_isi2, sx_sum, sx_min, sx_sorted, sx_si, sx_sl, sx_slr, sx_mis1, sx_mis2, sx_mis3, sx_mis4, String.reduceBEq, String.reduceEq, List.map_cons, List.map_nil, List.zip_cons_cons, List.zip_nil_right, List.lookup_cons, List.lookup_nil, List.any_cons, List.any_nil, Nat.reduceEqDiff, Nat.reduceBEq, beq_self_eq_true, Option.some.injEq, exists_eq_left', exists_eq_left, reduceCtorEq, ite_true, ite_false, if_true, if_false, ↓reduceIte, Bool.false_eq_true, decide_eq_true_eq, true_and, and_true, Bool.not_true, Bool.not_false, Bool.or_false, Bool.false_or, MHeap.set_self, exists_eq', List.length_cons, List.length_nil, Nat.zero_add, Nat.reduceAdd, Nat.reduceLeDiff]
      rw [if_neg (by decide), e0s9]
      simp only [j4, j6, sx_then_next, sx_then_ret, sx_then_brk, sx_then_cont, sx_boolof, sx_set, sx_loc, sx_clear, sx_add_i, sx_add_b, sx_add_l, sx_sub, sx_mul_i, sx_mul_l, sx_mul_b, sx_div, sx_mod, sx_pow, sx_shl, sx_shr, sx_and, sx_or, sx_iadd, sx_eq_i, sx_eq_b, sx_eq_t, sx_eq_l, sx_ne_i, sx_ne_b, sx_ne_t, sx_lt_i, sx_lt_t, sx_le, sx_gt, sx_ge, sx_is, sx_isn, sx_tr_b, sx_tr_i, sx_tr_l, sx_neg, sx_it_l, sx_it_t, sx_it_b, sx_len_l, sx_len_b, sx_ty_b, sx_ty_p, sx_by, sx_app, sx_ext, sx_pop, sx_cnt, sx_pair, sx_tail, sx_mt_l, sx_mt_b, sx_nr0, sx_ib, sx_il, sx_ir1, sx_ir3, sx_irev, sx_ien, sx_mk, sx_trn, sx_resub, sx_isi1, sx_isi2, sx_sum, sx_min, sx_sorted, sx_si, sx_sl, sx_slr, sx_mis1, sx_mis2, sx_mis3, sx_mis4, String.reduceBEq, String.reduceEq, List.map_cons, List.map_nil, List.zip_cons_cons, List.zip_nil_right, List.lookup_cons, List.lookup_nil, List.any_cons, List.any_nil, Nat.reduceEqDiff, Nat.reduceBEq, beq_self_eq_true, Option.some.injEq, exists_eq_left', exists_eq_left, reduceCtorEq, ite_true, ite_false, if_true, if_false, ↓reduceIte, Bool.false_eq_true, decide_eq_true_eq, true_and, and_true, Bool.not_true, Bool.not_false, Bool.or_false, Bool.false_or, MHeap.set_self, exists_eq', List.length_cons, List.length_nil, Nat.zero_add, Nat.reduceAdd, Nat.reduceLeDiff]
      rw [if_neg (by decide), e0s10]
      simp only [j3, sx_then_next, sx_then_ret, sx_then_brk, sx_then_cont, sx_boolof, sx_set, sx_loc, sx_clear, sx_add_i, sx_add_b, sx_add_l, sx_sub, sx_mul_i, sx_mul_l, sx_mul_b, sx_div, sx_mod, sx_pow, sx_shl, sx_shr, sx_and, sx_or, sx_iadd, sx_eq_i, sx_eq_b, sx_eq_t, sx_eq_l, sx_ne_i, sx_ne_b, sx_ne_t, sx_lt_i, sx_lt_t, sx_le, sx_gt, sx_ge, sx_is, sx_isn, sx_tr_b, sx_tr_i, sx_tr_l, sx_neg, sx_it_l, sx_it_t, sx_it_b, sx_len_l, sx_len_b, sx_ty_b, sx_ty_p, sx_by, sx_app, sx_ext, sx_pop, sx_cnt, sx_pair, sx_tail, sx_mt_l, sx_mt_b, sx_nr0, sx_ib, sx_il, sx_ir1, sx_ir3, sx_irev, sx_ien, sx_mk, sx_trn, sx_resub, sx_isi1, sx_isi2, sx_sum, sx_min, sx_sorted, sx_si, sx_sl, sx_slr, sx_mis1, sx_mis2, sx_mis3, sx_mis4, String.reduceBEq, String.reduceEq, List.map_cons, List.map_nil, List.zip_cons_cons, List.zip_nil_right, List.lookup_cons, List.lookup_nil, List.any_cons, List.any_nil, Nat.reduceEqDiff, Nat.reduceBEq, beq_self_eq_true, Option.some.injEq, exists_eq_left', exists_eq_left, reduceCtorEq, ite_true, ite_false, if_true, if_false, ↓reduceIte, Bool.false_eq_true, decide_eq_true_eq, true_and, and_true, Bool.not_true, Bool.not_false, Bool.or_false, Bool.false_or, MHeap.set_self, exists_eq', List.length_cons, List.length_nil, Nat.zero_add, Nat.reduceAdd, Nat.reduceLeDiff]
      have ho3 := oct4_len n vs hl
      rw [List.nil_append]
      exact by_ok (X := fun v => Back Q (.ret v) ρ' _) (by lia) (back_ret (sub_set ho) q)

-- b64encode, b64decode
def dfF (ds : List MV) (n : Nat) : List MV → List MV → Option (List MV) := fun ms _ => if ms.length = 2 then some (ms ++ ds.drop (ds.length - (n - 2))) else none
theorem bind_b64encode (g : Pg G P) : DBind G (fdOf P 123) ps_b64encode [] (dfF [] 2) := by
  intro s vs ks ms kms all old r rk hF
  unfold dfF at hF
  split at hF
  · rename_i hl
    cases hF
    obtain ⟨m1, m2, rfl⟩ := len_2 hl
    · cases r with
      | cons r1 r0 =>
        cases r0 with
        | cons r2 r0 =>
          cases r0
          rename_i v1 v2
          refine ⟨[v1, v2], .cons r1 (.cons r2 .nil), rfl, ?_⟩
          refine BindsTo.of_defaults (T := 116) (items := #[.none]) (n := 0) (k := _) (by kernel_rfl) (old _ _ (g.kin 116 { cls := .type "tuple", data := .seq #[.none] 0 } (by kernel_rfl))) rfl (by rfl) (by rfl)
  · cases hF
theorem bind_b64decode (g : Pg G P) : DBind G (fdOf P 131) ps_b64decode [] (dfF [.none, .bool false] 3) := by
  intro s vs ks ms kms all old r rk hF
  unfold dfF at hF
  split at hF
  · rename_i hl
    cases hF
    obtain ⟨m1, m2, rfl⟩ := len_2 hl
    · cases r with
      | cons r1 r0 =>
        cases r0 with
        | cons r2 r0 =>
          cases r0
          rename_i v1 v2
          refine ⟨[v1, v2, .bool false], .cons r1 (.cons r2 (.cons (.bool false) .nil)), rfl, ?_⟩
          refine BindsTo.of_defaults (T := 124) (items := #[.none, .bool false]) (n := 0) (k := _) (by kernel_rfl) (old _ _ (g.kin 124 { cls := .type "tuple", data := .seq #[.none, .bool false] 0 } (by kernel_rfl))) rfl (by rfl) (by rfl)
  · cases hF

def w_b64encode : List MV → (MV → MHeap → Prop) → MHeap → Prop
  | [.bytes l, .bytes [x, y]], Q, H => ∃ vs n, l = oct4 vs ∧ vs.length = 4 * n ∧ n ≤ 5000 ∧ (∀ v ∈ vs, v < 64) ∧ Q (.bytes (trans (mkTab [43, 47] [x, y]).toList (vs.map b64char))) H
  | _, _, _ => False
def w_b64decode : List MV → (MV → MHeap → Prop) → MHeap → Prop
  | [.bytes l, .bytes [x, y]], Q, H => ∃ vs n, trans (mkTab [x, y] [43, 47]).toList l = vs.map b64char ∧ vs.length = 4 * n ∧ n ≤ 5000 ∧ (∀ v ∈ vs, v < 64) ∧ Q (.bytes (oct4 vs)) H
  | _, _, _ => False

theorem sx_wkb {l : List UInt8} {Q : MV → MHeap → Prop} {H : MHeap} : wk_b2a [.bytes l] [.bool false] Q H = ∃ vs n, l = oct4 vs ∧ vs.length = 4 * n ∧ n ≤ 5000 ∧ (∀ v ∈ vs, v < 64) ∧ Q (.bytes (vs.map b64char)) H := rfl
theorem sx_wka {l : List UInt8} {Q : MV → MHeap → Prop} {H : MHeap} : wk_a2b [.bytes l] [.bool false] Q H = ∃ vs n, l = vs.map b64char ∧ vs.length = 4 * n ∧ n ≤ 5000 ∧ (∀ v ∈ vs, v < 64) ∧ Q (.bytes (oct4 vs)) H := rfl
theorem c_b64encode (g : Pg G P) : DCall G 3 (.ref 123) w_b64encode := by
  refine den_cps (G := G) (fm := fm_b64encode) (d := 2) (tlB (selB false (tlB (bodyOf P 123)))) (db_cons (ds_return (de_translate (de_var (.tail _ (.tail _ (.head _)))) (de_maketrans (.tail _ (.tail _ (.tail _ (.head _)))) (gt_bytes g) (da_cons de_bytes (da_cons (de_var (.tail _ (.head _))) da_nil))))) db_nil) fun W1s1 h1s1 e1s1 => ?_
  refine den_cps (G := G) (fm := fm_b64encode) (d := 2) (selB false (tlB (bodyOf P 123))) (db_cons (ds_assert (dt_cmp (de_callB (.tail _ (.head _)) (gb_len g) (da_cons (de_var (.tail _ (.head _))) da_nil) dcall_len) de_int dop_eq)) h1s1) fun W1s0 h1s0 e1s0 => ?_
  refine den_cps (G := G) (fm := fm_b64encode) (d := 2) (tlB (bodyOf P 123)) (db_cons (ds_if (dt_cmp (de_var (.tail _ (.head _))) de_none dop_isnot) h1s0
    db_nil) db_dead) fun W0s1 h0s1 e0s1 => ?_
  refine den_cps (G := G) (fm := fm_b64encode) (d := 2) (bodyOf P 123) (db_cons (ds_assign (.tail _ (.tail _ (.head _))) (de_callFk (.head _) (gl_b2a_base64 g) (fn_b2a_base64 g) (da_cons (de_var (.head _)) da_nil) de_bool ((ck_b2a_base64 g).le (by decide)))) h0s1) fun W0s0 h0s0 e0s0 => ?_
  refine DCallK.plain (dcall_def (fm := fm_b64encode) (d := 2) (body := bodyOf P 123) (ps := ps_b64encode) g.ok (g.kin _ _ o_b64encode) f_b64encode b_b64encode (codeRec_of g.kin cd_b64encode) (by kernel_rfl) (by kernel_rfl) (by kernel_rfl) s_b64encode nc_b64encode (by decide) (by decide) (bind_b64encode g)
    h0s0) ?_
  intro ms Q H w
  cases ms with
  | nil => exact w.elim
  | cons m ms =>
  cases m <;> first | exact w.elim | skip
  cases ms with
  | nil => exact w.elim
  | cons m ms =>
  cases m <;> first | exact w.elim | skip
  rename_i ll
  cases ll with
  | nil => exact w.elim
  | cons x ll =>
  cases ll with
  | nil => exact w.elim
  | cons y ll =>
  cases ll with
  | cons _ _ => exact w.elim
  | nil =>
  cases ms with
  | cons _ _ => exact w.elim
  | nil =>
  · skip
    obtain ⟨vs, n, rfl, hl, hn, hv, q⟩ := w
    refine ⟨[.bytes (oct4 vs), .bytes [x, y]], rfl, ?_⟩
    have hsz : (mkTab [43, 47] [x, y]).toList.length = 256 := by rw [Array.length_toList, mkTab_size]
    rw [e0s0]
    refine ⟨.bytes (oct4 vs), rfl, vs, n, rfl, hl, hn, hv, ?_⟩
    show W0s1 _ _ _
    have r1 : (locOf ps_b64encode [.bytes (oct4 vs), .bytes [x, y]]).set 2 (.bytes (vs.map b64char)) 1 = some (.bytes [x, y]) := rfl
    have r2 : (locOf ps_b64encode [.bytes (oct4 vs), .bytes [x, y]]).set 2 (.bytes (vs.map b64char)) 2 = some (.bytes (vs.map b64char)) := rfl
    generalize (locOf ps_b64encode [.bytes (oct4 vs), .bytes [x, y]]).set 2 (.bytes (vs.map b64char)) = ρ at r1 r2 ⊢
    rw [e0s1]
    refine ⟨.bytes [x, y], r1, false, rfl, ?_⟩
    show W1s0 _ _ _
    rw [e1s0]
    refine ⟨.bytes [x, y], r1, by simp, rfl, ?_⟩
    show W1s1 _ _ _
    rw [e1s1]
    exact ⟨.bytes (vs.map b64char), r2, (by rw [sx_mt_b]; trivial), .bytes [x, y], r1, rfl, hsz, by rw [List.length_map]; lia, back_ret (ρ := ρ) (Sub.refl _) q⟩
theorem c_b64decode (g : Pg G P) : DCall G 3 (.ref 131) w_b64decode := by
  refine den_cps (G := G) (fm := fm_b64decode) (d := 2) (tlB (tlB (selB false (tlB (bodyOf P 131))))) (db_cons (ds_assign (.head _) (de_translate (de_var (.head _)) (de_maketrans (.tail _ (.tail _ (.tail _ (.head _)))) (gt_bytes g) (da_cons (de_var (.tail _ (.head _))) (da_cons de_bytes da_nil))))) db_nil) fun W1s2 h1s2 e1s2 => ?_
  refine den_cps (G := G) (fm := fm_b64decode) (d := 2) (tlB (selB false (tlB (bodyOf P 131)))) (db_cons (ds_assert (dt_cmp (de_callB (.tail _ (.head _)) (gb_len g) (da_cons (de_var (.tail _ (.head _))) da_nil) dcall_len) de_int dop_eq)) h1s2) fun W1s1 h1s1 e1s1 => ?_
  refine den_cps (G := G) (fm := fm_b64decode) (d := 2) (selB false (tlB (bodyOf P 131))) (db_cons (ds_assign (.tail _ (.head _)) (de_callF (.head _) (gl__bytes_from_decode_data g) (fn__bytes_from_decode_data g) (da_cons (de_var (.tail _ (.head _))) da_nil) ((c__bytes_from_decode_data g).le (by decide)))) h1s1) fun W1s0 h1s0 e1s0 => ?_
  refine den_cps (G := G) (fm := fm_b64decode) (d := 2) (tlB (tlB (bodyOf P 131))) (db_cons (ds_return (de_callFk (.tail _ (.tail _ (.tail _ (.tail _ (.head _))))) (gl_a2b_base64 g) (fn_a2b_base64 g) (da_cons (de_var (.head _)) da_nil) (de_var (.tail _ (.tail _ (.head _)))) ((ck_a2b_base64 g).le (by decide)))) db_nil) fun W0s2 h0s2 e0s2 => ?_
  refine den_cps (G := G) (fm := fm_b64decode) (d := 2) (tlB (bodyOf P 131)) (db_cons (ds_if (dt_cmp (de_var (.tail _ (.head _))) de_none dop_isnot) h1s0
    db_nil) h0s2) fun W0s1 h0s1 e0s1 => ?_
  refine den_cps (G := G) (fm := fm_b64decode) (d := 2) (bodyOf P 131) (db_cons (ds_assign (.head _) (de_callF (.head _) (gl__bytes_from_decode_data g) (fn__bytes_from_decode_data g) (da_cons (de_var (.head _)) da_nil) ((c__bytes_from_decode_data g).le (by decide)))) h0s1) fun W0s0 h0s0 e0s0 => ?_
  refine DCallK.plain (dcall_def (fm := fm_b64decode) (d := 2) (body := bodyOf P 131) (ps := ps_b64decode) g.ok (g.kin _ _ o_b64decode) f_b64decode b_b64decode (codeRec_of g.kin cd_b64decode) (by kernel_rfl) (by kernel_rfl) (by kernel_rfl) s_b64decode nc_b64decode (by decide) (by decide) (bind_b64decode g)
    h0s0) ?_
  intro ms Q H w
  cases ms with
  | nil => exact w.elim
  | cons m ms =>
  cases m <;> first | exact w.elim | skip
  cases ms with
  | nil => exact w.elim
  | cons m ms =>
  cases m <;> first | exact w.elim | skip
  rename_i ll
  cases ll with
  | nil => exact w.elim
  | cons x ll =>
  cases ll with
  | nil => exact w.elim
  | cons y ll =>
  cases ll with
  | cons _ _ => exact w.elim
  | nil =>
  cases ms with
  | cons _ _ => exact w.elim
  | nil =>
  · rename_i l
    obtain ⟨vs, n, ht, hl, hn, hv, q⟩ := w
    refine ⟨[.bytes l, .bytes [x, y], .bool false], rfl, ?_⟩
    have hsz : (mkTab [x, y] [43, 47]).toList.length = 256 := by rw [Array.length_toList, mkTab_size]
    have hll : l.length = vs.length := by
      have := congrArg List.length ht
      simpa [trans] using this
    rw [e0s0]
    refine ⟨.bytes l, rfl, trivial, ?_⟩
    show W0s1 _ _ _
    have r0 : (locOf ps_b64decode [.bytes l, .bytes [x, y], .bool false]).set 0 (.bytes l) 0 = some (.bytes l) := rfl
    have r1 : (locOf ps_b64decode [.bytes l, .bytes [x, y], .bool false]).set 0 (.bytes l) 1 = some (.bytes [x, y]) := rfl
    have r2 : (locOf ps_b64decode [.bytes l, .bytes [x, y], .bool false]).set 0 (.bytes l) 2 = some (.bool false) := rfl
    generalize (locOf ps_b64decode [.bytes l, .bytes [x, y], .bool false]).set 0 (.bytes l) = ρ at r0 r1 r2 ⊢
    rw [e0s1]
    refine ⟨.bytes [x, y], r1, false, rfl, ?_⟩
    show W1s0 _ _ _
    rw [e1s0]
    refine ⟨.bytes [x, y], r1, trivial, ?_⟩
    show W1s1 _ _ _
    rw [e1s1]
    refine ⟨.bytes [x, y], rfl, by simp, rfl, ?_⟩
    show W1s2 _ _ _
    rw [e1s2]
    refine ⟨.bytes l, r0, (by rw [sx_mt_b]; trivial), .bytes [x, y], rfl, rfl, hsz, by omega, ?_⟩
    show W0s2 _ _ _
    rw [e0s2]
    exact ⟨_, rfl, _, r2, vs, n, ht, hl, hn, hv, back_ret (ρ := (ρ.set 1 (.bytes [x, y])).set 0 (.bytes (trans (mkTab [x, y] [43, 47]).toList l))) (Sub.refl _) q⟩
end
end Mine
end
-- part MHp
section
open PySem PySem.W PyProof.Rows PySem.SeqAt
namespace Mine

def hle (a b : Ent) : Prop := elt b a = false
theorem hle_iff {a b : Ent} : hle a b ↔ a.2.length < b.2.length ∨ (a.2.length = b.2.length ∧ a.1 ≤ b.1) := by
  unfold hle elt
  simp only [Bool.or_eq_false_iff, Bool.and_eq_false_iff, decide_eq_false_iff_not]
  omega
theorem hle_refl (a : Ent) : hle a a := by rw [hle_iff]; lia
theorem hle_trans {a b c : Ent} (h1 : hle a b) (h2 : hle b c) : hle a c := by rw [hle_iff] at *; lia
theorem hle_of_lt {a b : Ent} (h : elt a b = true) : hle a b := by
  rw [hle_iff]
  unfold elt at h
  simp only [Bool.or_eq_true, Bool.and_eq_true, decide_eq_true_eq] at h
  lia
theorem hle_total (a b : Ent) : hle a b ∨ elt b a = true := by
  unfold hle
  cases elt b a <;> simp

abbrev eat (A : List Ent) (i : Nat) : Ent := A.getD i (0, [])
theorem eat_get {A : List Ent} {i : Nat} (h : i < A.length) : A[i]? = some (eat A i) := by simp [eat, List.getD_eq_getElem?_getD, h]
theorem eat_elem {A : List Ent} {i : Nat} (h : i < A.length) : eat A i = A[i] := by simp [eat, List.getD_eq_getElem?_getD, h]
theorem eat_set {A : List Ent} {i j : Nat} {x : Ent} (h : i < A.length) : eat (A.set i x) j = if j = i then x else eat A j := by
  unfold eat
  rw [List.getD_eq_getElem?_getD, List.getElem?_set, List.getD_eq_getElem?_getD]
  by_cases hij : j = i
  · subst hij; simp [h]
  · rw [if_neg hij, if_neg (Ne.symm hij)]

def HeapFrom (s : Nat) (A : List Ent) : Prop := ∀ i, 0 < i → i < A.length → s ≤ (i - 1) / 2 → hle (eat A ((i - 1) / 2)) (eat A i)

inductive Desc (s : Nat) : Nat → Prop
  | refl : Desc s s
  | left {q : Nat} : Desc s q → Desc s (2 * q + 1)
  | right {q : Nat} : Desc s q → Desc s (2 * q + 2)
theorem Desc.le {s p : Nat} (h : Desc s p) : s ≤ p := by induction h <;> lia
theorem Desc.up {s p : Nat} (h : Desc s p) (hp : p ≠ s) : Desc s ((p - 1) / 2) := by
  cases h with
  | refl => exact absurd rfl hp
  | @left q h => rw [show (2 * q + 1 - 1) / 2 = q from by lia]; exact h
  | @right q h => rw [show (2 * q + 2 - 1) / 2 = q from by lia]; exact h
theorem Desc.par {s p : Nat} (h : Desc s p) (hp : p ≠ s) : s ≤ (p - 1) / 2 := (h.up hp).le

def Dist (A : List Ent) : Prop := (A.map (·.1)).Nodup
theorem Dist.ne {A : List Ent} (h : Dist A) {i j : Nat} (hi : i < A.length) (hj : j < A.length) (hne : i ≠ j) : (eat A i).1 ≠ (eat A j).1 := by
  have hi' : i < (A.map (·.1)).length := by simpa using hi
  have hj' : j < (A.map (·.1)).length := by simpa using hj
  have hpw := List.pairwise_iff_getElem.mp h
  rw [eat_elem hi, eat_elem hj]
  rcases Nat.lt_trichotomy i j with g | g | g
  · simpa using hpw i j hi' hj' g
  · exact absurd g hne
  · simpa using (hpw j i hj' hi' g).symm
theorem Dist.perm {A B : List Ent} (h : Dist A) (p : B.Perm A) : Dist B := (p.map _).nodup_iff.mpr h

/-- the state of _siftdown -/
structure SDn (s p : Nat) (B : List Ent) : Prop where
  lt : p < B.length
  desc : Desc s p
  edge : ∀ i, 0 < i → i < B.length → i ≠ p → s ≤ (i - 1) / 2 → hle (eat B ((i - 1) / 2)) (eat B i)
  kids : p ≠ s → ∀ c, c < B.length → 0 < c → (c - 1) / 2 = p → hle (eat B ((p - 1) / 2)) (eat B c)
theorem SDn.top {s : Nat} {B : List Ent} (h : SDn s s B) : HeapFrom s B := fun i h0 hi hs => h.edge i h0 hi (fun e => by subst e; lia) hs
theorem SDn.stop {s p : Nat} {B : List Ent} (h : SDn s p B) (hp : p ≠ s) (hle' : hle (eat B ((p - 1) / 2)) (eat B p)) : HeapFrom s B := fun i h0 hi hs => by
  by_cases e : i = p
  · subst e; exact hle'
  · exact h.edge i h0 hi e hs
theorem SDn.up {s p : Nat} {B : List Ent} (h : SDn s p B) (hp : p ≠ s) (hlt : elt (eat B p) (eat B ((p - 1) / 2)) = true) :
    SDn s ((p - 1) / 2) ((B.set p (eat B ((p - 1) / 2))).set ((p - 1) / 2) (eat B p)) ∧ ((B.set p (eat B ((p - 1) / 2))).set ((p - 1) / 2) (eat B p)).Perm B := by
  have hle' := h.desc.le
  have hpl := h.lt
  have hpar := h.desc.par hp
  have h0 : 0 < p := by lia
  have hq : (p - 1) / 2 < B.length := by lia
  have hqp : (p - 1) / 2 ≠ p := by lia
  have ev : ∀ j, eat ((B.set p (eat B ((p - 1) / 2))).set ((p - 1) / 2) (eat B p)) j = if j = (p - 1) / 2 then eat B p else if j = p then eat B ((p - 1) / 2) else eat B j := fun j => by
    rw [eat_set (by simpa using hq), eat_set hpl]
  refine ⟨⟨by simpa using hq, h.desc.up hp, fun i hi0 hi hne hs => ?_, fun hne c hc hc0 hcp => ?_⟩, ?_⟩
  · have hi' : i < B.length := by simpa using hi
    rw [ev, ev]
    rw [if_neg hne]
    by_cases e1 : i = p
    · subst e1
      rw [if_pos rfl, if_pos rfl]
      exact hle_of_lt hlt
    · rw [if_neg e1]
      by_cases e2 : (i - 1) / 2 = (p - 1) / 2
      · rw [if_pos e2]
        have := h.edge i hi0 hi' e1 hs
        rw [e2] at this
        exact hle_trans (hle_of_lt hlt) this
      · rw [if_neg e2]
        by_cases e3 : (i - 1) / 2 = p
        · rw [if_pos e3]
          exact h.kids hp i hi' hi0 e3
        · rw [if_neg e3]
          exact h.edge i hi0 hi' e1 hs
  · have hc' : c < B.length := by simpa using hc
    have hg : s ≤ ((p - 1) / 2 - 1) / 2 := (h.desc.up hp).par hne
    have hup : hle (eat B (((p - 1) / 2 - 1) / 2)) (eat B ((p - 1) / 2)) := h.edge ((p - 1) / 2) (by have := (h.desc.up hp).le; lia) hq hqp hg
    rw [ev, ev, if_neg (by lia), if_neg (by lia)]
    by_cases e1 : c = p
    · subst e1
      rw [if_neg (by lia), if_pos rfl]
      exact hup
    · rw [if_neg (by lia), if_neg e1]
      have := h.edge c hc0 hc' e1 (by lia)
      rw [hcp] at this
      exact hle_trans hup this
  · have := List.set_set_perm (as := B) (i := p) (j := (p - 1) / 2) hpl hq
    rw [eat_elem hpl, eat_elem hq]
    exact this

/-- the state of _siftup: the hole is at p, x is in hand -/
structure SUp (s p : Nat) (A : List Ent) : Prop where
  lt : p < A.length
  desc : Desc s p
  edge : ∀ i, 0 < i → i < A.length → (i - 1) / 2 ≠ p → s ≤ (i - 1) / 2 → hle (eat A ((i - 1) / 2)) (eat A i)
  kids : p ≠ s → ∀ c, c < A.length → 0 < c → (c - 1) / 2 = p → hle (eat A ((p - 1) / 2)) (eat A c)
theorem SUp.start {s : Nat} {A : List Ent} (h : HeapFrom (s + 1) A) (hs : s < A.length) : SUp s s A :=
  ⟨hs, .refl, fun i h0 hi hne hle => h i h0 hi (by lia), fun h => absurd rfl h⟩
/-- one step down to the smaller child -/
theorem SUp.down {s p c : Nat} {A : List Ent} (h : SUp s p A) (hc : c = 2 * p + 1 ∨ c = 2 * p + 2) (hcl : c < A.length) (hmin : ∀ k, k < A.length → (k = 2 * p + 1 ∨ k = 2 * p + 2) → hle (eat A c) (eat A k)) : SUp s c (A.set p (eat A c)) := by
  have hpl := h.lt
  have hle' := h.desc.le
  refine ⟨by simpa using hcl, ?_, fun i h0 hi hne hs => ?_, fun hne k hk hk0 hkp => ?_⟩
  · rcases hc with rfl | rfl
    · exact .left h.desc
    · exact .right h.desc
  · have hi' : i < A.length := by simpa using hi
    rw [eat_set hpl, eat_set hpl]
    by_cases e1 : (i - 1) / 2 = p
    · rw [if_pos e1, if_neg (by lia)]
      exact hmin i hi' (by lia)
    · rw [if_neg e1]
      by_cases e2 : i = p
      · subst e2
        rw [if_pos rfl]
        have hps : i ≠ s := fun e => by subst e; lia
        exact h.kids hps c hcl (by lia) (by lia)
      · rw [if_neg e2]
        exact h.edge i h0 hi' e1 hs
  · have hk' : k < A.length := by simpa using hk
    rw [eat_set hpl, eat_set hpl]
    rw [if_pos (by lia), if_neg (by lia)]
    have := h.edge k hk0 hk' (by lia) (by lia)
    rw [hkp] at this
    exact this
theorem SUp.leaf {s p : Nat} {A : List Ent} (h : SUp s p A) (hl : A.length ≤ 2 * p + 1) (x : Ent) : SDn s p (A.set p x) := by
  have hpl := h.lt
  refine ⟨by simpa using hpl, h.desc, fun i h0 hi hne hs => ?_, fun hne c hc hc0 hcp => ?_⟩
  · have hi' : i < A.length := by simpa using hi
    rw [eat_set hpl, eat_set hpl, if_neg (by lia), if_neg hne]
    exact h.edge i h0 hi' (by lia) hs
  · have hc' : c < A.length := by simpa using hc
    lia
theorem sup_perm {A : List Ent} {p c : Nat} (x : Ent) (hp : p < A.length) (hc : c < A.length) (hne : c ≠ p) : ((A.set p (eat A c)).set c x).Perm (A.set p x) := by
  have hp' : p < (A.set p x).length := by simpa using hp
  have hc' : c < (A.set p x).length := by simpa using hc
  have := List.set_set_perm (as := A.set p x) (i := p) (j := c) hp' hc'
  have e1 : (A.set p x)[p] = x := by simp
  have e2 : (A.set p x)[c] = A[c] := by rw [List.getElem_set]; rw [if_neg (Ne.symm hne)]
  rw [e1, e2, List.set_set] at this
  rw [eat_elem hc]
  exact this
end Mine
end
-- part MP4
section
open PySem PySem.W PyProof.Rows PySem.SeqAt
set_option maxRecDepth 100000
set_option linter.unusedSimpArgs false
set_option linter.unusedVariables false
namespace Mine
section
variable {G : Gd} {P : Params} {d : Nat} {fm : Fm}

def entL (e : Ent) : List MV := [.int (e.2.length : Nat), .int (e.1 : Nat), .bytes e.2]
theorem ent_tup (e : Ent) : ent e = .tup (entL e) := rfl
theorem mlt_ent {x y : Ent} (h : x.1 ≠ y.1) : mlt (entL x) (entL y) = some (elt x y) := by
  unfold entL elt
  rw [mlt_ii]
  simp only [mlt_ii]
  by_cases h1 : x.2.length = y.2.length
  · rw [if_pos (by lia), if_neg (by lia)]
    simp [h1]
  · rw [if_neg (by lia)]
    simp [h1]
theorem entL_len (e : Ent) : (entL e).length = 3 := rfl
theorem map_get {A : List Ent} {i : Nat} (h : i < A.length) : (A.map ent)[i]? = some (ent (eat A i)) := by rw [List.getElem?_map, eat_get h]; rfl
theorem map_set (A : List Ent) (i : Nat) (x : Ent) : (A.map ent).set i (ent x) = (A.set i x).map ent := by rw [List.map_set]

def w__siftdown : List MV → (MV → MHeap → Prop) → MHeap → Prop
  | [.lst a, .int s, .int p], Q, H => ∃ (B : List Ent) (s' p' : Nat), s = s' ∧ p = p' ∧ H a = some (B.map ent) ∧ B.length ≤ 1000 ∧ Dist B ∧ SDn s' p' B ∧ ∀ B' : List Ent, B'.Perm B → HeapFrom s' B' → Q .none (H.set a (B'.map ent))
  | _, _, _ => False

inductive IDn (a : Addr) (B : List Ent) (s : Nat) (x : Ent) (H : MHeap) (n : Nat) (ρ : Loc) (H' : MHeap) : Prop
  | mk (p' : Nat) (A : List Ent) (hn : n = p') (h0 : ρ 0 = some (.lst a)) (h1 : ρ 1 = some (.int (s : Nat))) (h2 : ρ 2 = some (.int (p' : Nat))) (h3 : ρ 3 = some (ent x)) (hH : H' = H.set a (A.map ent)) (hl : A.length = B.length) (hp : (A.set p' x).Perm B) (hS : SDn s p' (A.set p' x)) : IDn a B s x H n ρ H'
inductive IUp (a : Addr) (B : List Ent) (s : Nat) (x : Ent) (H : MHeap) (n : Nat) (ρ : Loc) (H' : MHeap) : Prop
  | mk (p' : Nat) (A : List Ent) (hn : n = B.length - p') (h0 : ρ 0 = some (.lst a)) (h1 : ρ 1 = some (.int (p' : Nat))) (h2 : ρ 2 = some (.int (B.length : Nat))) (h3 : ρ 3 = some (.int (s : Nat))) (h4 : ρ 4 = some (ent x)) (h5 : ρ 5 = some (.int ((2 * p' + 1 : Nat) : Int))) (hH : H' = H.set a (A.map ent)) (hl : A.length = B.length) (hp : (A.set p' x).Perm B) (hS : SUp s p' A) : IUp a B s x H n ρ H'
set_option maxHeartbeats 2000000 in
theorem c__siftdown (g : Pg G P) : DCall G 1 (.ref 159) w__siftdown := by
  refine den_cps (G := G) (fm := fm__siftdown) (d := 0) (tlB (tlB (selB false (tlB (tlB (selB false (tlB (bodyOf P 159)))))))) (db_cons ds_continue db_nil) fun W2s2 h2s2 e2s2 => ?_
  refine den_cps (G := G) (fm := fm__siftdown) (d := 0) (tlB (selB false (tlB (tlB (selB false (tlB (bodyOf P 159))))))) (db_cons (ds_assign (.tail _ (.tail _ (.head _))) (de_var (.tail _ (.tail _ (.tail _ (.tail _ (.head _))))))) h2s2) fun W2s1 h2s1 e2s1 => ?_
  refine den_cps (G := G) (fm := fm__siftdown) (d := 0) (selB false (tlB (tlB (selB false (tlB (bodyOf P 159)))))) (db_cons (ds_sset (de_var (.tail _ (.tail _ (.tail _ (.tail _ (.tail _ (.head _))))))) (de_var (.head _)) (de_var (.tail _ (.tail _ (.head _))))) h2s1) fun W2s0 h2s0 e2s0 => ?_
  refine den_cps (G := G) (fm := fm__siftdown) (d := 0) (tlB (tlB (tlB (selB false (tlB (bodyOf P 159)))))) (db_cons ds_break db_nil) fun W1s3 h1s3 e1s3 => ?_
  refine den_cps (G := G) (fm := fm__siftdown) (d := 0) (tlB (tlB (selB false (tlB (bodyOf P 159))))) (db_cons (ds_if (dt_cmp (de_var (.tail _ (.tail _ (.tail _ (.head _))))) (de_var (.tail _ (.tail _ (.tail _ (.tail _ (.tail _ (.head _))))))) dop_lt) h2s0
    db_nil) h1s3) fun W1s2 h1s2 e1s2 => ?_
  refine den_cps (G := G) (fm := fm__siftdown) (d := 0) (tlB (selB false (tlB (bodyOf P 159)))) (db_cons (ds_assign (.tail _ (.tail _ (.tail _ (.tail _ (.tail _ (.head _)))))) (de_item (de_var (.head _)) (de_var (.tail _ (.tail _ (.tail _ (.tail _ (.head _)))))))) h1s2) fun W1s1 h1s1 e1s1 => ?_
  refine den_cps (G := G) (fm := fm__siftdown) (d := 0) (selB false (tlB (bodyOf P 159))) (db_cons (ds_assign (.tail _ (.tail _ (.tail _ (.tail _ (.head _))))) (de_bin (de_bin (de_var (.tail _ (.tail _ (.head _)))) de_int dop_sub) de_int dop_shr)) h1s1) fun W1s0 h1s0 e1s0 => ?_
  refine den_cps (G := G) (fm := fm__siftdown) (d := 0) (tlB (tlB (bodyOf P 159))) (db_cons (ds_sset (de_var (.tail _ (.tail _ (.tail _ (.head _))))) (de_var (.head _)) (de_var (.tail _ (.tail _ (.head _))))) db_nil) fun W0s2 h0s2 e0s2 => ?_
  refine den_cps (G := G) (fm := fm__siftdown) (d := 0) (tlB (bodyOf P 159)) (db_cons (ds_while (dt_cmp (de_var (.tail _ (.tail _ (.head _)))) (de_var (.tail _ (.head _))) dop_gt)
    h1s0) h0s2) fun W0s1 h0s1 e0s1 => ?_
  refine den_cps (G := G) (fm := fm__siftdown) (d := 0) (bodyOf P 159) (db_cons (ds_assign (.tail _ (.tail _ (.tail _ (.head _)))) (de_item (de_var (.head _)) (de_var (.tail _ (.tail _ (.head _)))))) h0s1) fun W0s0 h0s0 e0s0 => ?_
  refine DCallK.plain (dcall_def (fm := fm__siftdown) (d := 0) (body := bodyOf P 159) (ps := ps__siftdown) g.ok (g.kin _ _ o__siftdown) f__siftdown b__siftdown (codeRec_of g.kin cd__siftdown) (by kernel_rfl) (by kernel_rfl) (by kernel_rfl) s__siftdown nc__siftdown (by decide) (by decide) (dbind_pos bi__siftdown)
    h0s0) ?_
  intro ms Q H w
  cases ms with
  | nil => exact w.elim
  | cons m ms =>
  cases m <;> first | exact w.elim | skip
  cases ms with
  | nil => exact w.elim
  | cons m ms =>
  cases m <;> first | exact w.elim | skip
  cases ms with
  | nil => exact w.elim
  | cons m ms =>
  cases m <;> first | exact w.elim | skip
  cases ms with
  | cons _ _ => exact w.elim
  | nil =>
  · rename_i a s p
    obtain ⟨B, s, p, rfl, rfl, hH, hz, hD, hS, q⟩ := w
    refine ⟨_, rfl, ?_⟩
    rw [e0s0]
    simp only [ps__siftdown, hH, sx_then_next, sx_then_ret, sx_then_brk, sx_then_cont, sx_boolof, sx_set, sx_loc, sx_clear, sx_add_i, sx_add_b, sx_add_l, sx_sub, sx_mul_i, sx_mul_l, sx_mul_b, sx_div, sx_mod, sx_pow, sx_shl, sx_shr, sx_and, sx_or, sx_iadd, sx_eq_i, sx_eq_b, sx_eq_t, sx_eq_l, sx_ne_i, sx_ne_b, sx_ne_t, sx_lt_i, sx_lt_t, sx_le, sx_gt, sx_ge, sx_is, sx_isn, sx_tr_b, sx_tr_i, sx_tr_l, sx_neg, sx_it_l, sx_it_t, sx_it_b, sx_len_l, sx_len_b, sx_ty_b, sx_ty_p, sx_by, sx_app, sx_ext, sx_pop, sx_cnt, sx_pair, sx_tail, sx_mt_l, sx_mt_b, sx_nr0, sx_ib, sx_il, sx_ir1, sx_ir3, sx_irev, sx_ien, sx_mk, sx_trn, sx_resub, sx_isi1, sx_isi2, sx_sum, sx_min, sx_sorted, sx_si, sx_sl, sx_slr, sx_mis1, sx_mis2, sx_mis3, sx_mis4, String.reduceBEq, String.reduceEq, List.map_cons, List.map_nil, List.zip_cons_cons, List.zip_nil_right, List.lookup_cons, List.lookup_nil, List.any_cons, List.any_nil, Nat.reduceEqDiff, Nat.reduceBEq, beq_self_eq_true, Option.some.injEq, exists_eq_left', exists_eq_left, reduceCtorEq, ite_true, ite_false, if_true, if_false, ↓reduceIte, Bool.false_eq_true, decide_eq_true_eq, true_and, and_true, Bool.not_true, Bool.not_false, Bool.or_false, Bool.false_or, MHeap.set_self, exists_eq', List.length_cons, List.length_nil, Nat.zero_add, Nat.reduceAdd, Nat.reduceLeDiff]
    have hpl := hS.lt
    refine ⟨by lia, ent (eat B p), by rw [Int.toNat_natCast]; exact map_get hpl, ?_⟩
    rw [e0s1]
    refine ⟨IDn a B s (eat B p) H, ⟨p, ⟨p, B, rfl, rfl, rfl, rfl, rfl, ?_, rfl, ?_, ?_⟩⟩, ?_⟩
    · funext b; unfold MHeap.set; split
      · rename_i e; rw [e, hH]
      · rfl
    · rw [show B.set p (eat B p) = B from by rw [eat_elem hpl]; simp]
    · rw [show B.set p (eat B p) = B from by rw [eat_elem hpl]; simp]; exact hS
    · rintro n ρ H' ⟨p', A, rfl, h0, h1, h2, h3, rfl, hl, hp, hS'⟩
      have back : ∀ (p1 : Nat) (A1 : List Ent) (ρ' : Loc), p1 < n → ρ' 0 = some (.lst a) → ρ' 1 = some (.int (s : Nat)) → ρ' 2 = some (.int (p1 : Nat)) → ρ' 3 = some (ent (eat B p)) → A1.length = B.length → (A1.set p1 (eat B p)).Perm B → SDn s p1 (A1.set p1 (eat B p)) → ∃ m, m < n ∧ IDn a B s (eat B p) H m ρ' (H.set a (A1.map ent)) :=
        fun p1 A1 ρ' h x0 x1 x2 x3 x4 x5 x6 => ⟨p1, h, ⟨p1, A1, rfl, x0, x1, x2, x3, rfl, x4, x5, x6⟩⟩
      generalize eat B p = x at h3 hp hS' back
      have hpl' : n < A.length := by have := hS'.lt; simpa using this
      have hsp := hS'.desc.le
      have hx : eat (A.set n x) n = x := by rw [eat_set hpl', if_pos rfl]
      have stop : HeapFrom s (A.set n x) → ∀ ρ' : Loc, ρ' 0 = some (.lst a) → ρ' 2 = some (.int (n : Nat)) → ρ' 3 = some (ent x) → W0s2 ρ' (Back Q) (H.set a (A.map ent)) := by
        intro hF ρ' h0 h2 h3
        rw [e0s2]
        simp only [h0, h2, h3, sx_then_next, sx_then_ret, sx_then_brk, sx_then_cont, sx_boolof, sx_set, sx_loc, sx_clear, sx_add_i, sx_add_b, sx_add_l, sx_sub, sx_mul_i, sx_mul_l, sx_mul_b, sx_div, sx_mod, sx_pow, sx_shl, sx_shr, sx_and, sx_or, sx_iadd, sx_eq_i, sx_eq_b, sx_eq_t, sx_eq_l, sx_ne_i, sx_ne_b, sx_ne_t, sx_lt_i, sx_lt_t, sx_le, sx_gt, sx_ge, sx_is, sx_isn, sx_tr_b, sx_tr_i, sx_tr_l, sx_neg, sx_it_l, sx_it_t, sx_it_b, sx_len_l, sx_len_b, sx_ty_b, sx_ty_p, sx_by, sx_app, sx_ext, sx_pop, sx_cnt, sx_pair, sx_tail, sx_mt_l, sx_mt_b, sx_nr0, sx_ib, sx_il, sx_ir1, sx_ir3, sx_irev, sx_ien, sx_mk, sx_trn, sx_resub, sx_isi1, sx_isi2, sx_sum, sx_min, sx_sorted, sx_si, sx_sl, sx_slr, sx_mis1, sx_mis2, sx_mis3, sx_mis4, String.reduceBEq, String.reduceEq, List.map_cons, List.map_nil, List.zip_cons_cons, List.zip_nil_right, List.lookup_cons, List.lookup_nil, List.any_cons, List.any_nil, Nat.reduceEqDiff, Nat.reduceBEq, beq_self_eq_true, Option.some.injEq, exists_eq_left', exists_eq_left, reduceCtorEq, ite_true, ite_false, if_true, if_false, ↓reduceIte, Bool.false_eq_true, decide_eq_true_eq, true_and, and_true, Bool.not_true, Bool.not_false, Bool.or_false, Bool.false_or, MHeap.set_self, exists_eq', List.length_cons, List.length_nil, Nat.zero_add, Nat.reduceAdd, Nat.reduceLeDiff]
        refine ⟨by rw [List.length_map]; lia, ?_⟩
        rw [MHeap.set_set, Int.toNat_natCast, map_set]
        exact back_next (Sub.refl _) (q _ hp hF)
      clear q e0s2 e0s1 e0s0
      simp only [h1, h2, sx_then_next, sx_then_ret, sx_then_brk, sx_then_cont, sx_boolof, sx_set, sx_loc, sx_clear, sx_add_i, sx_add_b, sx_add_l, sx_sub, sx_mul_i, sx_mul_l, sx_mul_b, sx_div, sx_mod, sx_pow, sx_shl, sx_shr, sx_and, sx_or, sx_iadd, sx_eq_i, sx_eq_b, sx_eq_t, sx_eq_l, sx_ne_i, sx_ne_b, sx_ne_t, sx_lt_i, sx_lt_t, sx_le, sx_gt, sx_ge, sx_is, sx_isn, sx_tr_b, sx_tr_i, sx_tr_l, sx_neg, sx_it_l, sx_it_t, sx_it_b, sx_len_l, sx_len_b, sx_ty_b, sx_ty_p, sx_by, sx_app, sx_ext, sx_pop, sx_cnt, sx_pair, sx_tail, sx_mt_l, sx_mt_b, sx_nr0, sx_ib, sx_il, sx_ir1, sx_ir3, sx_irev, sx_ien, sx_mk, sx_trn, sx_resub, sx_isi1, sx_isi2, sx_sum, sx_min, sx_sorted, sx_si, sx_sl, sx_slr, sx_mis1, sx_mis2, sx_mis3, sx_mis4, String.reduceBEq, String.reduceEq, List.map_cons, List.map_nil, List.zip_cons_cons, List.zip_nil_right, List.lookup_cons, List.lookup_nil, List.any_cons, List.any_nil, Nat.reduceEqDiff, Nat.reduceBEq, beq_self_eq_true, Option.some.injEq, exists_eq_left', exists_eq_left, reduceCtorEq, ite_true, ite_false, if_true, if_false, ↓reduceIte, Bool.false_eq_true, decide_eq_true_eq, true_and, and_true, Bool.not_true, Bool.not_false, Bool.or_false, Bool.false_or, MHeap.set_self, exists_eq', List.length_cons, List.length_nil, Nat.zero_add, Nat.reduceAdd, Nat.reduceLeDiff]
      by_cases hlt : s < n
      · rw [if_pos (by lia), e1s0]
        simp only [h2, sx_then_next, sx_then_ret, sx_then_brk, sx_then_cont, sx_boolof, sx_set, sx_loc, sx_clear, sx_add_i, sx_add_b, sx_add_l, sx_sub, sx_mul_i, sx_mul_l, sx_mul_b, sx_div, sx_mod, sx_pow, sx_shl, sx_shr, sx_and, sx_or, sx_iadd, sx_eq_i, sx_eq_b, sx_eq_t, sx_eq_l, sx_ne_i, sx_ne_b, sx_ne_t, sx_lt_i, sx_lt_t, sx_le, sx_gt, sx_ge, sx_is, sx_isn, sx_tr_b, sx_tr_i, sx_tr_l, sx_neg, sx_it_l, sx_it_t, sx_it_b, sx_len_l, sx_len_b, sx_ty_b, sx_ty_p, sx_by, sx_app, sx_ext, sx_pop, sx_cnt, sx_pair, sx_tail, sx_mt_l, sx_mt_b, sx_nr0, sx_ib, sx_il, sx_ir1, sx_ir3, sx_irev, sx_ien, sx_mk, sx_trn, sx_resub, sx_isi1, sx_isi2, sx_sum, sx_min, sx_sorted, sx_si, sx_sl, sx_slr, sx_mis1, sx_mis2, sx_mis3, sx_mis4, String.reduceBEq, String.reduceEq, List.map_cons, List.map_nil, List.zip_cons_cons, List.zip_nil_right, List.lookup_cons, List.lookup_nil, List.any_cons, List.any_nil, Nat.reduceEqDiff, Nat.reduceBEq, beq_self_eq_true, Option.some.injEq, exists_eq_left', exists_eq_left, reduceCtorEq, ite_true, ite_false, if_true, if_false, ↓reduceIte, Bool.false_eq_true, decide_eq_true_eq, true_and, and_true, Bool.not_true, Bool.not_false, Bool.or_false, Bool.false_or, MHeap.set_self, exists_eq', List.length_cons, List.length_nil, Nat.zero_add, Nat.reduceAdd, Nat.reduceLeDiff]
        refine ⟨by decide, ?_⟩
        have ep : ((n : Nat) : Int) - 1 = ((n - 1 : Nat) : Int) := by lia
        have e1 : (((n : Nat) : Int) - 1).fdiv (2 ^ Int.toNat 1) = (((n - 1) / 2 : Nat) : Int) := by
          rw [ep, show (2 : Int) ^ Int.toNat 1 = ((2 : Nat) : Int) from rfl, fdiv_nat]
        rw [e1, e1s1]
        simp only [h0, sx_then_next, sx_then_ret, sx_then_brk, sx_then_cont, sx_boolof, sx_set, sx_loc, sx_clear, sx_add_i, sx_add_b, sx_add_l, sx_sub, sx_mul_i, sx_mul_l, sx_mul_b, sx_div, sx_mod, sx_pow, sx_shl, sx_shr, sx_and, sx_or, sx_iadd, sx_eq_i, sx_eq_b, sx_eq_t, sx_eq_l, sx_ne_i, sx_ne_b, sx_ne_t, sx_lt_i, sx_lt_t, sx_le, sx_gt, sx_ge, sx_is, sx_isn, sx_tr_b, sx_tr_i, sx_tr_l, sx_neg, sx_it_l, sx_it_t, sx_it_b, sx_len_l, sx_len_b, sx_ty_b, sx_ty_p, sx_by, sx_app, sx_ext, sx_pop, sx_cnt, sx_pair, sx_tail, sx_mt_l, sx_mt_b, sx_nr0, sx_ib, sx_il, sx_ir1, sx_ir3, sx_irev, sx_ien, sx_mk, sx_trn, sx_resub, sx_isi1, sx_isi2, sx_sum, sx_min, sx_sorted, sx_si, sx_sl, sx_slr, sx_mis1, sx_mis2, sx_mis3, sx_mis4, String.reduceBEq, String.reduceEq, List.map_cons, List.map_nil, List.zip_cons_cons, List.zip_nil_right, List.lookup_cons, List.lookup_nil, List.any_cons, List.any_nil, Nat.reduceEqDiff, Nat.reduceBEq, beq_self_eq_true, Option.some.injEq, exists_eq_left', exists_eq_left, reduceCtorEq, ite_true, ite_false, if_true, if_false, ↓reduceIte, Bool.false_eq_true, decide_eq_true_eq, true_and, and_true, Bool.not_true, Bool.not_false, Bool.or_false, Bool.false_or, MHeap.set_self, exists_eq', List.length_cons, List.length_nil, Nat.zero_add, Nat.reduceAdd, Nat.reduceLeDiff]
        have hpp : (n - 1) / 2 < A.length := by lia
        have hne : (n - 1) / 2 ≠ n := by lia
        have hy : eat (A.set n x) ((n - 1) / 2) = eat A ((n - 1) / 2) := by rw [eat_set hpl', if_neg hne]
        have hdist : Dist (A.set n x) := hD.perm hp
        have hd := hdist.ne (i := n) (j := (n - 1) / 2) (by simpa using hpl') (by simpa using hpp) (Ne.symm hne)
        rw [hx, hy] at hd
        refine ⟨by lia, ent (eat A ((n - 1) / 2)), by rw [Int.toNat_natCast]; exact map_get hpp, ?_⟩
        rw [e1s2]
        simp only [h3, sx_then_next, sx_then_ret, sx_then_brk, sx_then_cont, sx_boolof, sx_set, sx_loc, sx_clear, sx_add_i, sx_add_b, sx_add_l, sx_sub, sx_mul_i, sx_mul_l, sx_mul_b, sx_div, sx_mod, sx_pow, sx_shl, sx_shr, sx_and, sx_or, sx_iadd, sx_eq_i, sx_eq_b, sx_eq_t, sx_eq_l, sx_ne_i, sx_ne_b, sx_ne_t, sx_lt_i, sx_lt_t, sx_le, sx_gt, sx_ge, sx_is, sx_isn, sx_tr_b, sx_tr_i, sx_tr_l, sx_neg, sx_it_l, sx_it_t, sx_it_b, sx_len_l, sx_len_b, sx_ty_b, sx_ty_p, sx_by, sx_app, sx_ext, sx_pop, sx_cnt, sx_pair, sx_tail, sx_mt_l, sx_mt_b, sx_nr0, sx_ib, sx_il, sx_ir1, sx_ir3, sx_irev, sx_ien, sx_mk, sx_trn, sx_resub, sx_isi1, sx_isi2, sx_sum, sx_min, sx_sorted, sx_si, sx_sl, sx_slr, sx_mis1, sx_mis2, sx_mis3, sx_mis4, String.reduceBEq, String.reduceEq, List.map_cons, List.map_nil, List.zip_cons_cons, List.zip_nil_right, List.lookup_cons, List.lookup_nil, List.any_cons, List.any_nil, Nat.reduceEqDiff, Nat.reduceBEq, beq_self_eq_true, Option.some.injEq, exists_eq_left', exists_eq_left, reduceCtorEq, ite_true, ite_false, if_true, if_false, ↓reduceIte, Bool.false_eq_true, decide_eq_true_eq, true_and, and_true, Bool.not_true, Bool.not_false, Bool.or_false, Bool.false_or, MHeap.set_self, exists_eq', List.length_cons, List.length_nil, Nat.zero_add, Nat.reduceAdd, Nat.reduceLeDiff]
        rw [ent_tup, ent_tup, sx_lt_t]
        refine ⟨rfl, _, mlt_ent hd, ?_⟩
        rw [sx_boolof]
        by_cases hlt' : elt x (eat A ((n - 1) / 2)) = true
        · rw [if_pos hlt', e2s0, e2s1, e2s2]
          obtain ⟨u1, u2⟩ := hS'.up (by lia) (by rw [hx, hy]; exact hlt')
          rw [hx, hy, List.set_set] at u1 u2
          simp only [h0, h2, sx_then_next, sx_then_ret, sx_then_brk, sx_then_cont, sx_boolof, sx_set, sx_loc, sx_clear, sx_add_i, sx_add_b, sx_add_l, sx_sub, sx_mul_i, sx_mul_l, sx_mul_b, sx_div, sx_mod, sx_pow, sx_shl, sx_shr, sx_and, sx_or, sx_iadd, sx_eq_i, sx_eq_b, sx_eq_t, sx_eq_l, sx_ne_i, sx_ne_b, sx_ne_t, sx_lt_i, sx_lt_t, sx_le, sx_gt, sx_ge, sx_is, sx_isn, sx_tr_b, sx_tr_i, sx_tr_l, sx_neg, sx_it_l, sx_it_t, sx_it_b, sx_len_l, sx_len_b, sx_ty_b, sx_ty_p, sx_by, sx_app, sx_ext, sx_pop, sx_cnt, sx_pair, sx_tail, sx_mt_l, sx_mt_b, sx_nr0, sx_ib, sx_il, sx_ir1, sx_ir3, sx_irev, sx_ien, sx_mk, sx_trn, sx_resub, sx_isi1, sx_isi2, sx_sum, sx_min, sx_sorted, sx_si, sx_sl, sx_slr, sx_mis1, sx_mis2, sx_mis3, sx_mis4, String.reduceBEq, String.reduceEq, List.map_cons, List.map_nil, List.zip_cons_cons, List.zip_nil_right, List.lookup_cons, List.lookup_nil, List.any_cons, List.any_nil, Nat.reduceEqDiff, Nat.reduceBEq, beq_self_eq_true, Option.some.injEq, exists_eq_left', exists_eq_left, reduceCtorEq, ite_true, ite_false, if_true, if_false, ↓reduceIte, Bool.false_eq_true, decide_eq_true_eq, true_and, and_true, Bool.not_true, Bool.not_false, Bool.or_false, Bool.false_or, MHeap.set_self, exists_eq', List.length_cons, List.length_nil, Nat.zero_add, Nat.reduceAdd, Nat.reduceLeDiff]
          refine ⟨by rw [List.length_map]; lia, ?_⟩
          rw [MHeap.set_set, Int.toNat_natCast, ← ent_tup (eat A ((n - 1) / 2)), map_set]
          exact back ((n - 1) / 2) (A.set n (eat A ((n - 1) / 2))) _ (by lia) h0 h1 rfl h3 (by simpa using hl) (u2.trans hp) u1
        · rw [if_neg hlt', e1s3]
          refine stop (hS'.stop (by lia) ?_) _ h0 h2 h3
          rw [hx, hy]
          rcases hle_total (eat A ((n - 1) / 2)) x with h | h
          · exact h
          · exact absurd h hlt'
      · rw [if_neg (by lia)]
        have hns : n = s := by lia
        refine stop ?_ _ h0 h2 h3
        rw [hns] at hS' ⊢
        exact hS'.top

def w__siftup : List MV → (MV → MHeap → Prop) → MHeap → Prop
  | [.lst a, .int p], Q, H => ∃ (B : List Ent) (p' : Nat), p = p' ∧ H a = some (B.map ent) ∧ B.length ≤ 1000 ∧ Dist B ∧ p' < B.length ∧ HeapFrom (p' + 1) B ∧ ∀ B' : List Ent, B'.Perm B → HeapFrom p' B' → Q .none (H.set a (B'.map ent))
  | _, _, _ => False
theorem sx_wsd {a : Addr} {s p : Int} {Q : MV → MHeap → Prop} {H : MHeap} : w__siftdown [.lst a, .int s, .int p] Q H = ∃ (B : List Ent) (s' p' : Nat), s = s' ∧ p = p' ∧ H a = some (B.map ent) ∧ B.length ≤ 1000 ∧ Dist B ∧ SDn s' p' B ∧ ∀ B' : List Ent, B'.Perm B → HeapFrom s' B' → Q .none (H.set a (B'.map ent)) := rfl

set_option maxHeartbeats 2000000 in
theorem c__siftup (g : Pg G P) : DCall G 2 (.ref 166) w__siftup := by
  refine den_cps (G := G) (fm := fm__siftup) (d := 1) (selB false (tlB (selB false (tlB (tlB (tlB (tlB (bodyOf P 166)))))))) (db_cons (ds_assign (.tail _ (.tail _ (.tail _ (.tail _ (.tail _ (.head _)))))) (de_var (.tail _ (.tail _ (.tail _ (.tail _ (.tail _ (.tail _ (.head _))))))))) db_nil) fun W2s0 h2s0 e2s0 => ?_
  refine den_cps (G := G) (fm := fm__siftup) (d := 1) (tlB (tlB (tlB (tlB (selB false (tlB (tlB (tlB (tlB (bodyOf P 166)))))))))) (db_cons (ds_assign (.tail _ (.tail _ (.tail _ (.tail _ (.tail _ (.head _)))))) (de_bin (de_bin de_int (de_var (.tail _ (.head _))) dop_mul) de_int dop_add)) db_nil) fun W1s4 h1s4 e1s4 => ?_
  refine den_cps (G := G) (fm := fm__siftup) (d := 1) (tlB (tlB (tlB (selB false (tlB (tlB (tlB (tlB (bodyOf P 166))))))))) (db_cons (ds_assign (.tail _ (.head _)) (de_var (.tail _ (.tail _ (.tail _ (.tail _ (.tail _ (.head _)))))))) h1s4) fun W1s3 h1s3 e1s3 => ?_
  refine den_cps (G := G) (fm := fm__siftup) (d := 1) (tlB (tlB (selB false (tlB (tlB (tlB (tlB (bodyOf P 166)))))))) (db_cons (ds_sset (de_item (de_var (.head _)) (de_var (.tail _ (.tail _ (.tail _ (.tail _ (.tail _ (.head _)))))))) (de_var (.head _)) (de_var (.tail _ (.head _)))) h1s3) fun W1s2 h1s2 e1s2 => ?_
  refine den_cps (G := G) (fm := fm__siftup) (d := 1) (tlB (selB false (tlB (tlB (tlB (tlB (bodyOf P 166))))))) (db_cons (ds_if (dt_bool (dall_and_cons (dt_cmp (de_var (.tail _ (.tail _ (.tail _ (.tail _ (.tail _ (.tail _ (.head _)))))))) (de_var (.tail _ (.tail _ (.head _)))) dop_lt) (dall_and_cons (dt_not (dt_cmp (de_item (de_var (.head _)) (de_var (.tail _ (.tail _ (.tail _ (.tail _ (.tail _ (.head _)))))))) (de_item (de_var (.head _)) (de_var (.tail _ (.tail _ (.tail _ (.tail _ (.tail _ (.tail _ (.head _))))))))) dop_lt)) dall_and_nil))) h2s0
    db_nil) h1s2) fun W1s1 h1s1 e1s1 => ?_
  refine den_cps (G := G) (fm := fm__siftup) (d := 1) (selB false (tlB (tlB (tlB (tlB (bodyOf P 166)))))) (db_cons (ds_assign (.tail _ (.tail _ (.tail _ (.tail _ (.tail _ (.tail _ (.head _))))))) (de_bin (de_var (.tail _ (.tail _ (.tail _ (.tail _ (.tail _ (.head _))))))) de_int dop_add)) h1s1) fun W1s0 h1s0 e1s0 => ?_
  refine den_cps (G := G) (fm := fm__siftup) (d := 1) (tlB (tlB (tlB (tlB (tlB (tlB (bodyOf P 166))))))) (db_cons (ds_expr (de_callF (.tail _ (.head _)) (gl__siftdown g) (fn__siftdown g) (da_cons (de_var (.head _)) (da_cons (de_var (.tail _ (.tail _ (.tail _ (.head _))))) (da_cons (de_var (.tail _ (.head _))) da_nil))) ((c__siftdown g).le (by decide)))) db_nil) fun W0s6 h0s6 e0s6 => ?_
  refine den_cps (G := G) (fm := fm__siftup) (d := 1) (tlB (tlB (tlB (tlB (tlB (bodyOf P 166)))))) (db_cons (ds_sset (de_var (.tail _ (.tail _ (.tail _ (.tail _ (.head _)))))) (de_var (.head _)) (de_var (.tail _ (.head _)))) h0s6) fun W0s5 h0s5 e0s5 => ?_
  refine den_cps (G := G) (fm := fm__siftup) (d := 1) (tlB (tlB (tlB (tlB (bodyOf P 166))))) (db_cons (ds_while (dt_cmp (de_var (.tail _ (.tail _ (.tail _ (.tail _ (.tail _ (.head _))))))) (de_var (.tail _ (.tail _ (.head _)))) dop_lt)
    h1s0) h0s5) fun W0s4 h0s4 e0s4 => ?_
  refine den_cps (G := G) (fm := fm__siftup) (d := 1) (tlB (tlB (tlB (bodyOf P 166)))) (db_cons (ds_assign (.tail _ (.tail _ (.tail _ (.tail _ (.tail _ (.head _)))))) (de_bin (de_bin de_int (de_var (.tail _ (.head _))) dop_mul) de_int dop_add)) h0s4) fun W0s3 h0s3 e0s3 => ?_
  refine den_cps (G := G) (fm := fm__siftup) (d := 1) (tlB (tlB (bodyOf P 166))) (db_cons (ds_assign (.tail _ (.tail _ (.tail _ (.tail _ (.head _))))) (de_item (de_var (.head _)) (de_var (.tail _ (.head _))))) h0s3) fun W0s2 h0s2 e0s2 => ?_
  refine den_cps (G := G) (fm := fm__siftup) (d := 1) (tlB (bodyOf P 166)) (db_cons (ds_assign (.tail _ (.tail _ (.tail _ (.head _)))) (de_var (.tail _ (.head _)))) h0s2) fun W0s1 h0s1 e0s1 => ?_
  refine den_cps (G := G) (fm := fm__siftup) (d := 1) (bodyOf P 166) (db_cons (ds_assign (.tail _ (.tail _ (.head _))) (de_callB (.head _) (gb_len g) (da_cons (de_var (.head _)) da_nil) dcall_len)) h0s1) fun W0s0 h0s0 e0s0 => ?_
  refine DCallK.plain (dcall_def (fm := fm__siftup) (d := 1) (body := bodyOf P 166) (ps := ps__siftup) g.ok (g.kin _ _ o__siftup) f__siftup b__siftup (codeRec_of g.kin cd__siftup) (by kernel_rfl) (by kernel_rfl) (by kernel_rfl) s__siftup nc__siftup (by decide) (by decide) (dbind_pos bi__siftup)
    h0s0) ?_
  intro ms Q H w
  cases ms with
  | nil => exact w.elim
  | cons m ms =>
  cases m <;> first | exact w.elim | skip
  cases ms with
  | nil => exact w.elim
  | cons m ms =>
  cases m <;> first | exact w.elim | skip
  cases ms with
  | cons _ _ => exact w.elim
  | nil =>
  · rename_i a p
    obtain ⟨B, s, rfl, hH, hz, hD, hpl, hF, q⟩ := w
    refine ⟨_, rfl, ?_⟩
    have hlB : (B.map ent).length = B.length := List.length_map ..
    rw [e0s0, e0s1, e0s2]
    simp only [ps__siftup, hH, hlB, sx_then_next, sx_then_ret, sx_then_brk, sx_then_cont, sx_boolof, sx_set, sx_loc, sx_clear, sx_add_i, sx_add_b, sx_add_l, sx_sub, sx_mul_i, sx_mul_l, sx_mul_b, sx_div, sx_mod, sx_pow, sx_shl, sx_shr, sx_and, sx_or, sx_iadd, sx_eq_i, sx_eq_b, sx_eq_t, sx_eq_l, sx_ne_i, sx_ne_b, sx_ne_t, sx_lt_i, sx_lt_t, sx_le, sx_gt, sx_ge, sx_is, sx_isn, sx_tr_b, sx_tr_i, sx_tr_l, sx_neg, sx_it_l, sx_it_t, sx_it_b, sx_len_l, sx_len_b, sx_ty_b, sx_ty_p, sx_by, sx_app, sx_ext, sx_pop, sx_cnt, sx_pair, sx_tail, sx_mt_l, sx_mt_b, sx_nr0, sx_ib, sx_il, sx_ir1, sx_ir3, sx_irev, sx_ien, sx_mk, sx_trn, sx_resub, sx_isi1, sx_isi2, sx_sum, sx_min, sx_sorted, sx_si, sx_sl, sx_slr, sx_mis1, sx_mis2, sx_mis3, sx_mis4, String.reduceBEq, String.reduceEq, List.map_cons, List.map_nil, List.zip_cons_cons, List.zip_nil_right, List.lookup_cons, List.lookup_nil, List.any_cons, List.any_nil, Nat.reduceEqDiff, Nat.reduceBEq, beq_self_eq_true, Option.some.injEq, exists_eq_left', exists_eq_left, reduceCtorEq, ite_true, ite_false, if_true, if_false, ↓reduceIte, Bool.false_eq_true, decide_eq_true_eq, true_and, and_true, Bool.not_true, Bool.not_false, Bool.or_false, Bool.false_or, MHeap.set_self, exists_eq', List.length_cons, List.length_nil, Nat.zero_add, Nat.reduceAdd, Nat.reduceLeDiff]
    refine ⟨by lia, by lia, ent (eat B s), by rw [Int.toNat_natCast]; exact map_get hpl, ?_⟩
    rw [e0s3]
    simp only [sx_then_next, sx_then_ret, sx_then_brk, sx_then_cont, sx_boolof, sx_set, sx_loc, sx_clear, sx_add_i, sx_add_b, sx_add_l, sx_sub, sx_mul_i, sx_mul_l, sx_mul_b, sx_div, sx_mod, sx_pow, sx_shl, sx_shr, sx_and, sx_or, sx_iadd, sx_eq_i, sx_eq_b, sx_eq_t, sx_eq_l, sx_ne_i, sx_ne_b, sx_ne_t, sx_lt_i, sx_lt_t, sx_le, sx_gt, sx_ge, sx_is, sx_isn, sx_tr_b, sx_tr_i, sx_tr_l, sx_neg, sx_it_l, sx_it_t, sx_it_b, sx_len_l, sx_len_b, sx_ty_b, sx_ty_p, sx_by, sx_app, sx_ext, sx_pop, sx_cnt, sx_pair, sx_tail, sx_mt_l, sx_mt_b, sx_nr0, sx_ib, sx_il, sx_ir1, sx_ir3, sx_irev, sx_ien, sx_mk, sx_trn, sx_resub, sx_isi1, sx_isi2, sx_sum, sx_min, sx_sorted, sx_si, sx_sl, sx_slr, sx_mis1, sx_mis2, sx_mis3, sx_mis4, String.reduceBEq, String.reduceEq, List.map_cons, List.map_nil, List.zip_cons_cons, List.zip_nil_right, List.lookup_cons, List.lookup_nil, List.any_cons, List.any_nil, Nat.reduceEqDiff, Nat.reduceBEq, beq_self_eq_true, Option.some.injEq, exists_eq_left', exists_eq_left, reduceCtorEq, ite_true, ite_false, if_true, if_false, ↓reduceIte, Bool.false_eq_true, decide_eq_true_eq, true_and, and_true, Bool.not_true, Bool.not_false, Bool.or_false, Bool.false_or, MHeap.set_self, exists_eq', List.length_cons, List.length_nil, Nat.zero_add, Nat.reduceAdd, Nat.reduceLeDiff]
    refine ⟨by lia, ?_⟩
    rw [e0s4]
    refine ⟨IUp a B s (eat B s) H, ⟨B.length - s, ⟨s, B, rfl, rfl, rfl, rfl, rfl, rfl, ?_, ?_, rfl, ?_, SUp.start hF hpl⟩⟩, ?_⟩
    · rw [show ((2 * s + 1 : Nat) : Int) = 2 * (s : Nat) + 1 from by lia]; rfl
    · funext b; unfold MHeap.set; split
      · rename_i e; rw [e, hH]
      · rfl
    · rw [show B.set s (eat B s) = B from by rw [eat_elem hpl]; simp]
    · rintro n ρ H' ⟨p', A, rfl, h0, h1, h2, h3, h4, h5, rfl, hl, hp, hS'⟩
      have hpl' : p' < A.length := hS'.lt
      have step : ∀ (c : Nat) (ρ' : Loc), (c = 2 * p' + 1 ∨ c = 2 * p' + 2) → c < A.length → (∀ k, k < A.length → (k = 2 * p' + 1 ∨ k = 2 * p' + 2) → hle (eat A c) (eat A k)) →
          ρ' 0 = some (.lst a) → ρ' 1 = some (.int (p' : Nat)) → ρ' 2 = some (.int (B.length : Nat)) → ρ' 3 = some (.int (s : Nat)) → ρ' 4 = some (ent (eat B s)) → ρ' 5 = some (.int (c : Nat)) → W1s2 ρ' (fun f ρ₂ H₂ => match f with | .next => ∃ m, m < B.length - p' ∧ IUp a B s (eat B s) H m ρ₂ H₂ | .cont => ∃ m, m < B.length - p' ∧ IUp a B s (eat B s) H m ρ₂ H₂ | .brk => thenW W0s5 (Back Q) .next ρ₂ H₂ | .ret v => thenW W0s5 (Back Q) (.ret v) ρ₂ H₂) (H.set a (A.map ent)) := by
        intro c ρ' hc hcl hmin h0 h1 h2 h3 h4 h5
        rw [e1s2]
        simp only [h0, h1, h5, sx_then_next, sx_then_ret, sx_then_brk, sx_then_cont, sx_boolof, sx_set, sx_loc, sx_clear, sx_add_i, sx_add_b, sx_add_l, sx_sub, sx_mul_i, sx_mul_l, sx_mul_b, sx_div, sx_mod, sx_pow, sx_shl, sx_shr, sx_and, sx_or, sx_iadd, sx_eq_i, sx_eq_b, sx_eq_t, sx_eq_l, sx_ne_i, sx_ne_b, sx_ne_t, sx_lt_i, sx_lt_t, sx_le, sx_gt, sx_ge, sx_is, sx_isn, sx_tr_b, sx_tr_i, sx_tr_l, sx_neg, sx_it_l, sx_it_t, sx_it_b, sx_len_l, sx_len_b, sx_ty_b, sx_ty_p, sx_by, sx_app, sx_ext, sx_pop, sx_cnt, sx_pair, sx_tail, sx_mt_l, sx_mt_b, sx_nr0, sx_ib, sx_il, sx_ir1, sx_ir3, sx_irev, sx_ien, sx_mk, sx_trn, sx_resub, sx_isi1, sx_isi2, sx_sum, sx_min, sx_sorted, sx_si, sx_sl, sx_slr, sx_mis1, sx_mis2, sx_mis3, sx_mis4, String.reduceBEq, String.reduceEq, List.map_cons, List.map_nil, List.zip_cons_cons, List.zip_nil_right, List.lookup_cons, List.lookup_nil, List.any_cons, List.any_nil, Nat.reduceEqDiff, Nat.reduceBEq, beq_self_eq_true, Option.some.injEq, exists_eq_left', exists_eq_left, reduceCtorEq, ite_true, ite_false, if_true, if_false, ↓reduceIte, Bool.false_eq_true, decide_eq_true_eq, true_and, and_true, Bool.not_true, Bool.not_false, Bool.or_false, Bool.false_or, MHeap.set_self, exists_eq', List.length_cons, List.length_nil, Nat.zero_add, Nat.reduceAdd, Nat.reduceLeDiff]
        refine ⟨by lia, _, map_get hcl, by rw [List.length_map]; lia, ?_⟩
        rw [MHeap.set_set, Int.toNat_natCast, map_set, e1s3, e1s4]
        simp only [h5, sx_then_next, sx_then_ret, sx_then_brk, sx_then_cont, sx_boolof, sx_set, sx_loc, sx_clear, sx_add_i, sx_add_b, sx_add_l, sx_sub, sx_mul_i, sx_mul_l, sx_mul_b, sx_div, sx_mod, sx_pow, sx_shl, sx_shr, sx_and, sx_or, sx_iadd, sx_eq_i, sx_eq_b, sx_eq_t, sx_eq_l, sx_ne_i, sx_ne_b, sx_ne_t, sx_lt_i, sx_lt_t, sx_le, sx_gt, sx_ge, sx_is, sx_isn, sx_tr_b, sx_tr_i, sx_tr_l, sx_neg, sx_it_l, sx_it_t, sx_it_b, sx_len_l, sx_len_b, sx_ty_b, sx_ty_p, sx_by, sx_app, sx_ext, sx_pop, sx_cnt, sx_pair, sx_tail, sx_mt_l, sx_mt_b, sx_nr0, sx_ib, sx_il, sx_ir1, sx_ir3, sx_irev, sx_ien, sx_mk, sx_trn, sx_resub, sx_isi1, sx_isi2, sx_sum, sx_min, sx_sorted, sx_si, sx_sl, sx_slr, sx_mis1, sx_mis2, sx_mis3, sx_mis4, String.reduceBEq, String.reduceEq, List.map_cons, List.map_nil, List.zip_cons_cons, List.zip_nil_right, List.lookup_cons, List.lookup_nil, List.any_cons, List.any_nil, Nat.reduceEqDiff, Nat.reduceBEq, beq_self_eq_true, Option.some.injEq, exists_eq_left', exists_eq_left, reduceCtorEq, ite_true, ite_false, if_true, if_false, ↓reduceIte, Bool.false_eq_true, decide_eq_true_eq, true_and, and_true, Bool.not_true, Bool.not_false, Bool.or_false, Bool.false_or, MHeap.set_self, exists_eq', List.length_cons, List.length_nil, Nat.zero_add, Nat.reduceAdd, Nat.reduceLeDiff]
        refine ⟨by lia, B.length - c, by lia, ⟨c, A.set p' (eat A c), rfl, h0, rfl, h2, h3, h4, ?_, rfl, by simpa using hl, ?_, hS'.down hc hcl hmin⟩⟩
        · rw [show ((2 * c + 1 : Nat) : Int) = 2 * (c : Nat) + 1 from by lia]; rfl
        · exact (sup_perm _ hpl' hcl (by lia)).trans hp
      clear e1s2 e1s3 e1s4 e0s0 e0s1 e0s2 e0s3 e0s4
      generalize eat B s = x at h4 hp step
      have hdist : Dist (A.set p' x) := hD.perm hp
      simp only [h2, h5, sx_then_next, sx_then_ret, sx_then_brk, sx_then_cont, sx_boolof, sx_set, sx_loc, sx_clear, sx_add_i, sx_add_b, sx_add_l, sx_sub, sx_mul_i, sx_mul_l, sx_mul_b, sx_div, sx_mod, sx_pow, sx_shl, sx_shr, sx_and, sx_or, sx_iadd, sx_eq_i, sx_eq_b, sx_eq_t, sx_eq_l, sx_ne_i, sx_ne_b, sx_ne_t, sx_lt_i, sx_lt_t, sx_le, sx_gt, sx_ge, sx_is, sx_isn, sx_tr_b, sx_tr_i, sx_tr_l, sx_neg, sx_it_l, sx_it_t, sx_it_b, sx_len_l, sx_len_b, sx_ty_b, sx_ty_p, sx_by, sx_app, sx_ext, sx_pop, sx_cnt, sx_pair, sx_tail, sx_mt_l, sx_mt_b, sx_nr0, sx_ib, sx_il, sx_ir1, sx_ir3, sx_irev, sx_ien, sx_mk, sx_trn, sx_resub, sx_isi1, sx_isi2, sx_sum, sx_min, sx_sorted, sx_si, sx_sl, sx_slr, sx_mis1, sx_mis2, sx_mis3, sx_mis4, String.reduceBEq, String.reduceEq, List.map_cons, List.map_nil, List.zip_cons_cons, List.zip_nil_right, List.lookup_cons, List.lookup_nil, List.any_cons, List.any_nil, Nat.reduceEqDiff, Nat.reduceBEq, beq_self_eq_true, Option.some.injEq, exists_eq_left', exists_eq_left, reduceCtorEq, ite_true, ite_false, if_true, if_false, ↓reduceIte, Bool.false_eq_true, decide_eq_true_eq, true_and, and_true, Bool.not_true, Bool.not_false, Bool.or_false, Bool.false_or, MHeap.set_self, exists_eq', List.length_cons, List.length_nil, Nat.zero_add, Nat.reduceAdd, Nat.reduceLeDiff]
      by_cases hc1 : 2 * p' + 1 < B.length
      · rw [if_pos (by lia), e1s0]
        simp only [h5, sx_then_next, sx_then_ret, sx_then_brk, sx_then_cont, sx_boolof, sx_set, sx_loc, sx_clear, sx_add_i, sx_add_b, sx_add_l, sx_sub, sx_mul_i, sx_mul_l, sx_mul_b, sx_div, sx_mod, sx_pow, sx_shl, sx_shr, sx_and, sx_or, sx_iadd, sx_eq_i, sx_eq_b, sx_eq_t, sx_eq_l, sx_ne_i, sx_ne_b, sx_ne_t, sx_lt_i, sx_lt_t, sx_le, sx_gt, sx_ge, sx_is, sx_isn, sx_tr_b, sx_tr_i, sx_tr_l, sx_neg, sx_it_l, sx_it_t, sx_it_b, sx_len_l, sx_len_b, sx_ty_b, sx_ty_p, sx_by, sx_app, sx_ext, sx_pop, sx_cnt, sx_pair, sx_tail, sx_mt_l, sx_mt_b, sx_nr0, sx_ib, sx_il, sx_ir1, sx_ir3, sx_irev, sx_ien, sx_mk, sx_trn, sx_resub, sx_isi1, sx_isi2, sx_sum, sx_min, sx_sorted, sx_si, sx_sl, sx_slr, sx_mis1, sx_mis2, sx_mis3, sx_mis4, String.reduceBEq, String.reduceEq, List.map_cons, List.map_nil, List.zip_cons_cons, List.zip_nil_right, List.lookup_cons, List.lookup_nil, List.any_cons, List.any_nil, Nat.reduceEqDiff, Nat.reduceBEq, beq_self_eq_true, Option.some.injEq, exists_eq_left', exists_eq_left, reduceCtorEq, ite_true, ite_false, if_true, if_false, ↓reduceIte, Bool.false_eq_true, decide_eq_true_eq, true_and, and_true, Bool.not_true, Bool.not_false, Bool.or_false, Bool.false_or, MHeap.set_self, exists_eq', List.length_cons, List.length_nil, Nat.zero_add, Nat.reduceAdd, Nat.reduceLeDiff]
        have e2 : ((2 * p' + 1 : Nat) : Int) + 1 = ((2 * p' + 2 : Nat) : Int) := by lia
        rw [e2, e1s1]
        simp only [h0, h2, h5, sx_then_next, sx_then_ret, sx_then_brk, sx_then_cont, sx_boolof, sx_set, sx_loc, sx_clear, sx_add_i, sx_add_b, sx_add_l, sx_sub, sx_mul_i, sx_mul_l, sx_mul_b, sx_div, sx_mod, sx_pow, sx_shl, sx_shr, sx_and, sx_or, sx_iadd, sx_eq_i, sx_eq_b, sx_eq_t, sx_eq_l, sx_ne_i, sx_ne_b, sx_ne_t, sx_lt_i, sx_lt_t, sx_le, sx_gt, sx_ge, sx_is, sx_isn, sx_tr_b, sx_tr_i, sx_tr_l, sx_neg, sx_it_l, sx_it_t, sx_it_b, sx_len_l, sx_len_b, sx_ty_b, sx_ty_p, sx_by, sx_app, sx_ext, sx_pop, sx_cnt, sx_pair, sx_tail, sx_mt_l, sx_mt_b, sx_nr0, sx_ib, sx_il, sx_ir1, sx_ir3, sx_irev, sx_ien, sx_mk, sx_trn, sx_resub, sx_isi1, sx_isi2, sx_sum, sx_min, sx_sorted, sx_si, sx_sl, sx_slr, sx_mis1, sx_mis2, sx_mis3, sx_mis4, String.reduceBEq, String.reduceEq, List.map_cons, List.map_nil, List.zip_cons_cons, List.zip_nil_right, List.lookup_cons, List.lookup_nil, List.any_cons, List.any_nil, Nat.reduceEqDiff, Nat.reduceBEq, beq_self_eq_true, Option.some.injEq, exists_eq_left', exists_eq_left, reduceCtorEq, ite_true, ite_false, if_true, if_false, ↓reduceIte, Bool.false_eq_true, decide_eq_true_eq, true_and, and_true, Bool.not_true, Bool.not_false, Bool.or_false, Bool.false_or, MHeap.set_self, exists_eq', List.length_cons, List.length_nil, Nat.zero_add, Nat.reduceAdd, Nat.reduceLeDiff]
        by_cases hc2 : 2 * p' + 2 < B.length
        · rw [if_pos (by lia)]
          rw [Int.toNat_natCast, Int.toNat_natCast]
          refine ⟨by lia, ent (eat A (2 * p' + 1)), map_get (by lia), by lia, ent (eat A (2 * p' + 2)), map_get (by lia), ?_⟩
          have hd := hdist.ne (i := 2 * p' + 1) (j := 2 * p' + 2) (by simp; lia) (by simp; lia) (by lia)
          rw [eat_set hpl', eat_set hpl', if_neg (by lia), if_neg (by lia)] at hd
          rw [ent_tup, ent_tup, sx_lt_t]
          refine ⟨rfl, _, mlt_ent hd, ?_⟩
          rw [sx_boolof]
          cases hlt : elt (eat A (2 * p' + 1)) (eat A (2 * p' + 2)) with
          | false =>
            rw [if_pos (by decide), e2s0]
            simp only [sx_then_next, sx_then_ret, sx_then_brk, sx_then_cont, sx_boolof, sx_set, sx_loc, sx_clear, sx_add_i, sx_add_b, sx_add_l, sx_sub, sx_mul_i, sx_mul_l, sx_mul_b, sx_div, sx_mod, sx_pow, sx_shl, sx_shr, sx_and, sx_or, sx_iadd, sx_eq_i, sx_eq_b, sx_eq_t, sx_eq_l, sx_ne_i, sx_ne_b, sx_ne_t, sx_lt_i, sx_lt_t, sx_le, sx_gt, sx_ge, sx_is, sx_isn, sx_tr_b, sx_tr_i, sx_tr_l, sx_neg, sx_it_l, sx_it_t, sx_it_b, sx_len_l, sx_len_b, sx_ty_b, sx_ty_p, sx_by, sx_app, sx_ext, sx_pop, sx_cnt, sx_pair, sx_tail, sx_mt_l, sx_mt_b, sx_nr0, sx_ib, sx_il, sx_ir1, sx_ir3, sx_irev, sx_ien, sx_mk, sx_trn, sx_resub, sx_isi1, sx_isi2, sx_sum, sx_min, sx_sorted, sx_si, sx_sl, sx_slr, sx_mis1, sx_mis2, sx_mis3, sx_mis4, String.reduceBEq, String.reduceEq, List.map_cons, List.map_nil, List.zip_cons_cons, List.zip_nil_right, List.lookup_cons, List.lookup_nil, List.any_cons, List.any_nil, Nat.reduceEqDiff, Nat.reduceBEq, beq_self_eq_true, Option.some.injEq, exists_eq_left', exists_eq_left, reduceCtorEq, ite_true, ite_false, if_true, if_false, ↓reduceIte, Bool.false_eq_true, decide_eq_true_eq, true_and, and_true, Bool.not_true, Bool.not_false, Bool.or_false, Bool.false_or, MHeap.set_self, exists_eq', List.length_cons, List.length_nil, Nat.zero_add, Nat.reduceAdd, Nat.reduceLeDiff]
            refine step (2 * p' + 2) _ (.inr rfl) (by lia) (fun k hk hk' => ?_) h0 h1 h2 h3 h4 rfl
            rcases hk' with rfl | rfl
            · exact hlt
            · exact hle_refl _
          | true =>
            rw [if_neg (by decide)]
            refine step (2 * p' + 1) _ (.inl rfl) (by lia) (fun k hk hk' => ?_) h0 h1 h2 h3 h4 h5
            rcases hk' with rfl | rfl
            · exact hle_refl _
            · exact hle_of_lt hlt
        · rw [if_neg (by lia)]
          refine step (2 * p' + 1) _ (.inl rfl) (by lia) (fun k hk hk' => ?_) h0 h1 h2 h3 h4 h5
          rcases hk' with rfl | rfl
          · exact hle_refl _
          · lia
      · rw [if_neg (by lia), e0s5]
        simp only [h0, h1, h4, sx_then_next, sx_then_ret, sx_then_brk, sx_then_cont, sx_boolof, sx_set, sx_loc, sx_clear, sx_add_i, sx_add_b, sx_add_l, sx_sub, sx_mul_i, sx_mul_l, sx_mul_b, sx_div, sx_mod, sx_pow, sx_shl, sx_shr, sx_and, sx_or, sx_iadd, sx_eq_i, sx_eq_b, sx_eq_t, sx_eq_l, sx_ne_i, sx_ne_b, sx_ne_t, sx_lt_i, sx_lt_t, sx_le, sx_gt, sx_ge, sx_is, sx_isn, sx_tr_b, sx_tr_i, sx_tr_l, sx_neg, sx_it_l, sx_it_t, sx_it_b, sx_len_l, sx_len_b, sx_ty_b, sx_ty_p, sx_by, sx_app, sx_ext, sx_pop, sx_cnt, sx_pair, sx_tail, sx_mt_l, sx_mt_b, sx_nr0, sx_ib, sx_il, sx_ir1, sx_ir3, sx_irev, sx_ien, sx_mk, sx_trn, sx_resub, sx_isi1, sx_isi2, sx_sum, sx_min, sx_sorted, sx_si, sx_sl, sx_slr, sx_mis1, sx_mis2, sx_mis3, sx_mis4, String.reduceBEq, String.reduceEq, List.map_cons, List.map_nil, List.zip_cons_cons, List.zip_nil_right, List.lookup_cons, List.lookup_nil, List.any_cons, List.any_nil, Nat.reduceEqDiff, Nat.reduceBEq, beq_self_eq_true, Option.some.injEq, exists_eq_left', exists_eq_left, reduceCtorEq, ite_true, ite_false, if_true, if_false, ↓reduceIte, Bool.false_eq_true, decide_eq_true_eq, true_and, and_true, Bool.not_true, Bool.not_false, Bool.or_false, Bool.false_or, MHeap.set_self, exists_eq', List.length_cons, List.length_nil, Nat.zero_add, Nat.reduceAdd, Nat.reduceLeDiff]
        refine ⟨by rw [List.length_map]; lia, ?_⟩
        rw [MHeap.set_set, Int.toNat_natCast, map_set, e0s6]
        simp only [sx_wsd, h0, h1, h3, sx_then_next, sx_then_ret, sx_then_brk, sx_then_cont, sx_boolof, sx_set, sx_loc, sx_clear, sx_add_i, sx_add_b, sx_add_l, sx_sub, sx_mul_i, sx_mul_l, sx_mul_b, sx_div, sx_mod, sx_pow, sx_shl, sx_shr, sx_and, sx_or, sx_iadd, sx_eq_i, sx_eq_b, sx_eq_t, sx_eq_l, sx_ne_i, sx_ne_b, sx_ne_t, sx_lt_i, sx_lt_t, sx_le, sx_gt, sx_ge, sx_is, sx_isn, sx_tr_b, sx_tr_i, sx_tr_l, sx_neg, sx_it_l, sx_it_t, sx_it_b, sx_len_l, sx_len_b, sx_ty_b, sx_ty_p, sx_by, sx_app, sx_ext, sx_pop, sx_cnt, sx_pair, sx_tail, sx_mt_l, sx_mt_b, sx_nr0, sx_ib, sx_il, sx_ir1, sx_ir3, sx_irev, sx_ien, sx_mk, sx_trn, sx_resub, sx_isi1, sx_isi2, sx_sum, sx_min, sx_sorted, sx_si, sx_sl, sx_slr, sx_mis1, sx_mis2, sx_mis3, sx_mis4, String.reduceBEq, String.reduceEq, List.map_cons, List.map_nil, List.zip_cons_cons, List.zip_nil_right, List.lookup_cons, List.lookup_nil, List.any_cons, List.any_nil, Nat.reduceEqDiff, Nat.reduceBEq, beq_self_eq_true, Option.some.injEq, exists_eq_left', exists_eq_left, reduceCtorEq, ite_true, ite_false, if_true, if_false, ↓reduceIte, Bool.false_eq_true, decide_eq_true_eq, true_and, and_true, Bool.not_true, Bool.not_false, Bool.or_false, Bool.false_or, MHeap.set_self, exists_eq', List.length_cons, List.length_nil, Nat.zero_add, Nat.reduceAdd, Nat.reduceLeDiff]
        refine ⟨A.set p' x, s, p', rfl, rfl, rfl, by simp; lia, hdist, hS'.leaf (by lia) x, fun B' hB' hF' => ?_⟩
        rw [MHeap.set_set]
        exact back_next (Sub.refl _) (q B' (hB'.trans hp) hF')

theorem sx_wsu {a : Addr} {p : Int} {Q : MV → MHeap → Prop} {H : MHeap} : w__siftup [.lst a, .int p] Q H = ∃ (B : List Ent) (p' : Nat), p = p' ∧ H a = some (B.map ent) ∧ B.length ≤ 1000 ∧ Dist B ∧ p' < B.length ∧ HeapFrom (p' + 1) B ∧ ∀ B' : List Ent, B'.Perm B → HeapFrom p' B' → Q .none (H.set a (B'.map ent)) := rfl
def w_heappop : List MV → (MV → MHeap → Prop) → MHeap → Prop
  | [.lst a], Q, H => ∃ (e : Ent) (hs : List Ent), H a = some ((e :: hs).map ent) ∧ hs.length < 1000 ∧ Dist (e :: hs) ∧ HeapFrom 0 (e :: hs) ∧ ∀ hs' : List Ent, hs'.Perm hs → HeapFrom 0 hs' → Q (ent e) (H.set a (hs'.map ent))
  | _, _, _ => False
def w_heapreplace : List MV → (MV → MHeap → Prop) → MHeap → Prop
  | [.lst a, x], Q, H => ∃ (e f : Ent) (hs : List Ent), x = ent f ∧ H a = some ((e :: hs).map ent) ∧ hs.length < 1000 ∧ Dist (f :: hs) ∧ HeapFrom 0 (e :: hs) ∧ ∀ hs' : List Ent, hs'.Perm (f :: hs) → HeapFrom 0 hs' → Q (ent e) (H.set a (hs'.map ent))
  | _, _, _ => False
def w_heapify : List MV → (MV → MHeap → Prop) → MHeap → Prop
  | [.lst a], Q, H => ∃ (hs : List Ent), H a = some (hs.map ent) ∧ hs.length ≤ 1000 ∧ Dist hs ∧ ∀ hs' : List Ent, hs'.Perm hs → HeapFrom 0 hs' → Q .none (H.set a (hs'.map ent))
  | _, _, _ => False
theorem root_new {e f : Ent} {hs : List Ent} (h : HeapFrom 0 (e :: hs)) : HeapFrom (0 + 1) (f :: hs) := fun i h0 hi hs' => by
  have := h i h0 (by simpa using hi) (by lia)
  have e1 : ∀ j, 0 < j → eat (f :: hs) j = eat (e :: hs) j := fun j hj => by
    match j, hj with
    | j + 1, _ => rfl
  rw [e1 _ (by lia), e1 _ h0]; exact this

set_option maxHeartbeats 2000000 in
theorem c_heappop (g : Pg G P) : DCall G 3 (.ref 138) w_heappop := by
  refine DCallK.plain (dcall_def (fm := fm_heappop) (d := 2) (body := bodyOf P 138) (ps := ps_heappop) g.ok (g.kin _ _ o_heappop) f_heappop b_heappop (codeRec_of g.kin cd_heappop) (by kernel_rfl) (by kernel_rfl) (by kernel_rfl) s_heappop nc_heappop (by decide) (by decide) (dbind_pos bi_heappop)
    (db_cons (ds_assign (.tail _ (.head _)) (de_pop (de_var (.head _))))
    (db_cons (ds_if (dt_name (de_var (.head _))) (db_cons (ds_assign (.tail _ (.tail _ (.head _))) (de_item (de_var (.head _)) de_int))
    (db_cons (ds_sset (de_var (.tail _ (.head _))) (de_var (.head _)) de_int)
    (db_cons (ds_expr (de_callF (.head _) (gl__siftup g) (fn__siftup g) (da_cons (de_var (.head _)) (da_cons de_int da_nil)) ((c__siftup g).le (by decide))))
    (db_cons (ds_return (de_var (.tail _ (.tail _ (.head _)))))
    db_nil))))
    db_nil)
    (db_cons (ds_return (de_var (.tail _ (.head _))))
    db_nil)))) ?_
  intro ms Q H w
  cases ms with
  | nil => exact w.elim
  | cons m ms =>
  cases m <;> first | exact w.elim | skip
  cases ms with
  | cons _ _ => exact w.elim
  | nil =>
  · rename_i a
    obtain ⟨e, hs, hH, hz, hD, hF, q⟩ := w
    refine ⟨_, rfl, ?_⟩
    simp only [ps_heappop, hH, sx_wsu, sx_then_next, sx_then_ret, sx_then_brk, sx_then_cont, sx_boolof, sx_set, sx_loc, sx_clear, sx_add_i, sx_add_b, sx_add_l, sx_sub, sx_mul_i, sx_mul_l, sx_mul_b, sx_div, sx_mod, sx_pow, sx_shl, sx_shr, sx_and, sx_or, sx_iadd, sx_eq_i, sx_eq_b, sx_eq_t, sx_eq_l, sx_ne_i, sx_ne_b, sx_ne_t, sx_lt_i, sx_lt_t, sx_le, sx_gt, sx_ge, sx_is, sx_isn, sx_tr_b, sx_tr_i, sx_tr_l, sx_neg, sx_it_l, sx_it_t, sx_it_b, sx_len_l, sx_len_b, sx_ty_b, sx_ty_p, sx_by, sx_app, sx_ext, sx_pop, sx_cnt, sx_pair, sx_tail, sx_mt_l, sx_mt_b, sx_nr0, sx_ib, sx_il, sx_ir1, sx_ir3, sx_irev, sx_ien, sx_mk, sx_trn, sx_resub, sx_isi1, sx_isi2, sx_sum, sx_min, sx_sorted, sx_si, sx_sl, sx_slr, sx_mis1, sx_mis2, sx_mis3, sx_mis4, String.reduceBEq, String.reduceEq, List.map_cons, List.map_nil, List.zip_cons_cons, List.zip_nil_right, List.lookup_cons, List.lookup_nil, List.any_cons, List.any_nil, Nat.reduceEqDiff, Nat.reduceBEq, beq_self_eq_true, Option.some.injEq, exists_eq_left', exists_eq_left, reduceCtorEq, ite_true, ite_false, if_true, if_false, ↓reduceIte, Bool.false_eq_true, decide_eq_true_eq, true_and, and_true, Bool.not_true, Bool.not_false, Bool.or_false, Bool.false_or, MHeap.set_self, exists_eq', List.length_cons, List.length_nil, Nat.zero_add, Nat.reduceAdd, Nat.reduceLeDiff]
    rcases List.eq_nil_or_concat hs with rfl | ⟨init, last, rfl⟩
    · refine ⟨[], ent e, rfl, by simp, by simp, ?_⟩
      rw [if_neg (by simp)]
      exact back_ret (Sub.refl _) (q [] (List.Perm.refl _) (fun i h0 hi _ => by simp at hi))
    · rw [List.concat_eq_append] at *
      refine ⟨(e :: init).map ent, ent last, by simp, by simp at hz ⊢; lia, by simp at hz ⊢; lia, ?_⟩
      rw [if_pos (by simp)]
      refine ⟨by decide, ent e, rfl, by simp only [List.map_cons, List.length_cons]; lia, last :: init, 0, rfl, rfl, by simp at hz ⊢; lia, ?_, by simp, ?_, fun B' hB' hF' => ?_⟩
      · unfold Dist at hD ⊢
        have h1 : ((init ++ [last]).map (·.1)).Nodup := by
          rw [List.map_cons, List.nodup_cons] at hD; exact hD.2
        have hp : (last :: init).Perm (init ++ [last]) := (List.perm_append_singleton last init).symm
        exact (hp.map _).nodup_iff.mpr h1
      · refine root_new (e := e) fun i h0 hi hs => ?_
        have := hF i h0 (by simp at hi ⊢; lia) hs
        have e1 : ∀ j, j < init.length + 1 → eat (e :: init) j = eat (e :: (init ++ [last])) j := fun j hj => by
          unfold eat
          rw [List.getD_eq_getElem?_getD, List.getD_eq_getElem?_getD, ← List.cons_append, List.getElem?_append_left (by simpa using hj)]
        have hi' : i < init.length + 1 := by simpa using hi
        rw [e1 i hi', e1 _ (by lia)]; exact this
      · rw [MHeap.set_set, MHeap.set_set]
        exact back_ret (Sub.refl _) (q B' (hB'.trans (List.perm_append_singleton last init).symm) hF')
set_option maxHeartbeats 2000000 in
theorem c_heapreplace (g : Pg G P) : DCall G 3 (.ref 145) w_heapreplace := by
  refine DCallK.plain (dcall_def (fm := fm_heapreplace) (d := 2) (body := bodyOf P 145) (ps := ps_heapreplace) g.ok (g.kin _ _ o_heapreplace) f_heapreplace b_heapreplace (codeRec_of g.kin cd_heapreplace) (by kernel_rfl) (by kernel_rfl) (by kernel_rfl) s_heapreplace nc_heapreplace (by decide) (by decide) (dbind_pos bi_heapreplace)
    (db_cons (ds_assign (.tail _ (.tail _ (.head _))) (de_item (de_var (.head _)) de_int))
    (db_cons (ds_sset (de_var (.tail _ (.head _))) (de_var (.head _)) de_int)
    (db_cons (ds_expr (de_callF (.head _) (gl__siftup g) (fn__siftup g) (da_cons (de_var (.head _)) (da_cons de_int da_nil)) ((c__siftup g).le (by decide))))
    (db_cons (ds_return (de_var (.tail _ (.tail _ (.head _)))))
    db_nil))))) ?_
  intro ms Q H w
  cases ms with
  | nil => exact w.elim
  | cons m ms =>
  cases m <;> first | exact w.elim | skip
  cases ms with
  | nil => exact w.elim
  | cons x ms =>
  cases ms with
  | cons _ _ => exact w.elim
  | nil =>
  · rename_i a
    obtain ⟨e, f, hs, rfl, hH, hz, hD, hF, q⟩ := w
    refine ⟨_, rfl, ?_⟩
    simp only [ps_heapreplace, hH, sx_wsu, sx_then_next, sx_then_ret, sx_then_brk, sx_then_cont, sx_boolof, sx_set, sx_loc, sx_clear, sx_add_i, sx_add_b, sx_add_l, sx_sub, sx_mul_i, sx_mul_l, sx_mul_b, sx_div, sx_mod, sx_pow, sx_shl, sx_shr, sx_and, sx_or, sx_iadd, sx_eq_i, sx_eq_b, sx_eq_t, sx_eq_l, sx_ne_i, sx_ne_b, sx_ne_t, sx_lt_i, sx_lt_t, sx_le, sx_gt, sx_ge, sx_is, sx_isn, sx_tr_b, sx_tr_i, sx_tr_l, sx_neg, sx_it_l, sx_it_t, sx_it_b, sx_len_l, sx_len_b, sx_ty_b, sx_ty_p, sx_by, sx_app, sx_ext, sx_pop, sx_cnt, sx_pair, sx_tail, sx_mt_l, sx_mt_b, sx_nr0, sx_ib, sx_il, sx_ir1, sx_ir3, sx_irev, sx_ien, sx_mk, sx_trn, sx_resub, sx_isi1, sx_isi2, sx_sum, sx_min, sx_sorted, sx_si, sx_sl, sx_slr, sx_mis1, sx_mis2, sx_mis3, sx_mis4, String.reduceBEq, String.reduceEq, List.map_cons, List.map_nil, List.zip_cons_cons, List.zip_nil_right, List.lookup_cons, List.lookup_nil, List.any_cons, List.any_nil, Nat.reduceEqDiff, Nat.reduceBEq, beq_self_eq_true, Option.some.injEq, exists_eq_left', exists_eq_left, reduceCtorEq, ite_true, ite_false, if_true, if_false, ↓reduceIte, Bool.false_eq_true, decide_eq_true_eq, true_and, and_true, Bool.not_true, Bool.not_false, Bool.or_false, Bool.false_or, MHeap.set_self, exists_eq', List.length_cons, List.length_nil, Nat.zero_add, Nat.reduceAdd, Nat.reduceLeDiff]
    refine ⟨by decide, ent e, rfl, by lia, f :: hs, 0, rfl, rfl, by simp; lia, hD, by simp, root_new hF, fun B' hB' hF' => ?_⟩
    rw [MHeap.set_set]
    exact back_ret (Sub.refl _) (q B' hB' hF')
theorem run_down (j : Nat) : runItems (j : Nat) (-1) (j + 1) = .int (j : Nat) :: runItems ((j : Nat) - 1) (-1) j := by
  unfold runItems
  rw [List.range_succ_eq_map, List.map_cons, List.map_map]
  have e0 : MV.int ((j : Nat) + ((0 : Nat) : Int) * -1) = MV.int (j : Nat) := by simp
  rw [e0]
  congr 1
  apply List.map_congr_left
  intro k _
  show MV.int ((j : Nat) + ((k + 1 : Nat) : Int) * -1) = MV.int ((j : Nat) - 1 + ((k : Nat) : Int) * -1)
  congr 1
  lia
theorem loop_heapify {a : Addr} {H0 : MHeap} {Wb : WS} {K : MFlow → Loc → MHeap → Prop} {hs : List Ent}
    (step : ∀ (ρ : Loc) (A : List Ent) (j : Nat) K', ρ 0 = some (.lst a) → A.Perm hs → j < A.length → HeapFrom (j + 1) A → (∀ (A' : List Ent) (ρ' : Loc), ρ' 0 = some (.lst a) → A'.Perm hs → HeapFrom j A' → K' .next ρ' (H0.set a (A'.map ent))) → Wb (ρ.set 2 (.int (j : Nat))) K' (H0.set a (A.map ent))) :
    ∀ (k : Nat) (A : List Ent) (ρ : Loc), k ≤ hs.length → ρ 0 = some (.lst a) → A.Perm hs → HeapFrom k A → (∀ (A' : List Ent) (ρ' : Loc), A'.Perm hs → HeapFrom 0 A' → K .next ρ' (H0.set a (A'.map ent))) →
      loopW Wb 2 (fun _ => True) K (runItems ((k : Nat) - 1) (-1) k) ρ (H0.set a (A.map ent)) := by
  intro k
  induction k with
  | zero => intro A ρ _ _ hp hF hK; exact hK A ρ hp hF
  | succ j ih =>
    intro A ρ hk h0 hp hF hK
    rw [show ((j + 1 : Nat) : Int) - 1 = (j : Nat) from by lia, run_down]
    refine step ρ A j _ h0 hp (by rw [hp.length_eq]; lia) hF fun A' ρ' h0' hp' hF' => ⟨trivial, ?_⟩
    exact ih A' ρ' (by lia) h0' hp' hF' hK

set_option maxHeartbeats 2000000 in
theorem c_heapify (g : Pg G P) : DCall G 3 (.ref 152) w_heapify := by
  refine DCallK.plain (dcall_def (fm := fm_heapify) (d := 2) (body := bodyOf P 152) (ps := ps_heapify) g.ok (g.kin _ _ o_heapify) f_heapify b_heapify (codeRec_of g.kin cd_heapify) (by kernel_rfl) (by kernel_rfl) (by kernel_rfl) s_heapify nc_heapify (by decide) (by decide) (dbind_pos bi_heapify)
    (db_cons (ds_assign (.tail _ (.head _)) (de_callB (.head _) (gb_len g) (da_cons (de_var (.head _)) da_nil) dcall_len))
    (db_cons (ds_for (.tail _ (.tail _ (.head _))) (di_rev (.tail _ (.head _)) (gt_reversed g) (.tail _ (.tail _ (.head _))) (gt_range g) (da_cons (de_bin (de_var (.tail _ (.head _))) de_int dop_div) da_nil))
    (db_cons (ds_expr (de_callF (.tail _ (.tail _ (.tail _ (.head _)))) (gl__siftup g) (fn__siftup g) (da_cons (de_var (.head _)) (da_cons (de_var (.tail _ (.tail _ (.head _)))) da_nil)) ((c__siftup g).le (by decide))))
    db_nil))
    db_nil))) ?_
  intro ms Q H w
  cases ms with
  | nil => exact w.elim
  | cons m ms =>
  cases m <;> first | exact w.elim | skip
  cases ms with
  | cons _ _ => exact w.elim
  | nil =>
  · rename_i a
    obtain ⟨hs, hH, hz, hD, q⟩ := w
    refine ⟨_, rfl, ?_⟩
    simp only [ps_heapify, hH, sx_wsu, sx_then_next, sx_then_ret, sx_then_brk, sx_then_cont, sx_boolof, sx_set, sx_loc, sx_clear, sx_add_i, sx_add_b, sx_add_l, sx_sub, sx_mul_i, sx_mul_l, sx_mul_b, sx_div, sx_mod, sx_pow, sx_shl, sx_shr, sx_and, sx_or, sx_iadd, sx_eq_i, sx_eq_b, sx_eq_t, sx_eq_l, sx_ne_i, sx_ne_b, sx_ne_t, sx_lt_i, sx_lt_t, sx_le, sx_gt, sx_ge, sx_is, sx_isn, sx_tr_b, sx_tr_i, sx_tr_l, sx_neg, sx_it_l, sx_it_t, sx_it_b, sx_len_l, sx_len_b, sx_ty_b, sx_ty_p, sx_by, sx_app, sx_ext, sx_pop, sx_cnt, sx_pair, sx_tail, sx_mt_l, sx_mt_b, sx_nr0, sx_ib, sx_il, sx_ir1, sx_ir3, sx_irev, sx_ien, sx_mk, sx_trn, sx_resub, sx_isi1, sx_isi2, sx_sum, sx_min, sx_sorted, sx_si, sx_sl, sx_slr, sx_mis1, sx_mis2, sx_mis3, sx_mis4, String.reduceBEq, String.reduceEq, List.map_cons, List.map_nil, List.zip_cons_cons, List.zip_nil_right, List.lookup_cons, List.lookup_nil, List.any_cons, List.any_nil, Nat.reduceEqDiff, Nat.reduceBEq, beq_self_eq_true, Option.some.injEq, exists_eq_left', exists_eq_left, reduceCtorEq, ite_true, ite_false, if_true, if_false, ↓reduceIte, Bool.false_eq_true, decide_eq_true_eq, true_and, and_true, Bool.not_true, Bool.not_false, Bool.or_false, Bool.false_or, MHeap.set_self, exists_eq', List.length_cons, List.length_nil, Nat.zero_add, Nat.reduceAdd, Nat.reduceLeDiff]
    have hl : (hs.map ent).length = hs.length := List.length_map ..
    rw [hl]
    have e1 : ((hs.length : Nat) : Int).fdiv 2 = ((hs.length / 2 : Nat) : Int) := by rw [show (2 : Int) = ((2 : Nat) : Int) from rfl, fdiv_nat]
    rw [e1, Int.toNat_natCast]
    refine ⟨by lia, by decide, by lia, ?_⟩
    have eH : H = H.set a (hs.map ent) := by
      funext b; unfold MHeap.set; split
      · rename_i e; rw [e, hH]
      · rfl
    rw [eH]
    refine loop_heapify (hs := hs) ?_ (hs.length / 2) hs _ (by lia) (by simp only [sx_then_next, sx_then_ret, sx_then_brk, sx_then_cont, sx_boolof, sx_set, sx_loc, sx_clear, sx_add_i, sx_add_b, sx_add_l, sx_sub, sx_mul_i, sx_mul_l, sx_mul_b, sx_div, sx_mod, sx_pow, sx_shl, sx_shr, sx_and, sx_or, sx_iadd, sx_eq_i, sx_eq_b, sx_eq_t, sx_eq_l, sx_ne_i, sx_ne_b, sx_ne_t, sx_lt_i, sx_lt_t, sx_le, sx_gt, sx_ge, sx_is, sx_isn, sx_tr_b, sx_tr_i, sx_tr_l, sx_neg, sx_it_l, sx_it_t, sx_it_b, sx_len_l, sx_len_b, sx_ty_b, sx_ty_p, sx_by, sx_app, sx_ext, sx_pop, sx_cnt, sx_pair, sx_tail, sx_mt_l, sx_mt_b, sx_nr0, sx_ib, sx_il, sx_ir1, sx_ir3, sx_irev, sx_ien, sx_mk, sx_trn, sx_resub, sx_isi1, sx_isi2, sx_sum, sx_min, sx_sorted, sx_si, sx_sl, sx_slr, sx_mis1, sx_mis2, sx_mis3, sx_mis4, String.reduceBEq, String.reduceEq, List.map_cons, List.map_nil, List.zip_cons_cons, List.zip_nil_right, List.lookup_cons, List.lookup_nil, List.any_cons, List.any_nil, Nat.reduceEqDiff, Nat.reduceBEq, beq_self_eq_true, Option.some.injEq, exists_eq_left', exists_eq_left, reduceCtorEq, ite_true, ite_false, if_true, if_false, ↓reduceIte, Bool.false_eq_true, decide_eq_true_eq, true_and, and_true, Bool.not_true, Bool.not_false, Bool.or_false, Bool.false_or, MHeap.set_self, exists_eq', List.length_cons, List.length_nil, Nat.zero_add, Nat.reduceAdd, Nat.reduceLeDiff]) (List.Perm.refl _) (fun i h0 hi hs' => by lia) ?_
    · intro ρ A j K' h0 hp hj hF hK
      simp only [h0, sx_wsu, sx_then_next, sx_then_ret, sx_then_brk, sx_then_cont, sx_boolof, sx_set, sx_loc, sx_clear, sx_add_i, sx_add_b, sx_add_l, sx_sub, sx_mul_i, sx_mul_l, sx_mul_b, sx_div, sx_mod, sx_pow, sx_shl, sx_shr, sx_and, sx_or, sx_iadd, sx_eq_i, sx_eq_b, sx_eq_t, sx_eq_l, sx_ne_i, sx_ne_b, sx_ne_t, sx_lt_i, sx_lt_t, sx_le, sx_gt, sx_ge, sx_is, sx_isn, sx_tr_b, sx_tr_i, sx_tr_l, sx_neg, sx_it_l, sx_it_t, sx_it_b, sx_len_l, sx_len_b, sx_ty_b, sx_ty_p, sx_by, sx_app, sx_ext, sx_pop, sx_cnt, sx_pair, sx_tail, sx_mt_l, sx_mt_b, sx_nr0, sx_ib, sx_il, sx_ir1, sx_ir3, sx_irev, sx_ien, sx_mk, sx_trn, sx_resub, sx_isi1, sx_isi2, sx_sum, sx_min, sx_sorted, sx_si, sx_sl, sx_slr, sx_mis1, sx_mis2, sx_mis3, sx_mis4, String.reduceBEq, String.reduceEq, List.map_cons, List.map_nil, List.zip_cons_cons, List.zip_nil_right, List.lookup_cons, List.lookup_nil, List.any_cons, List.any_nil, Nat.reduceEqDiff, Nat.reduceBEq, beq_self_eq_true, Option.some.injEq, exists_eq_left', exists_eq_left, reduceCtorEq, ite_true, ite_false, if_true, if_false, ↓reduceIte, Bool.false_eq_true, decide_eq_true_eq, true_and, and_true, Bool.not_true, Bool.not_false, Bool.or_false, Bool.false_or, MHeap.set_self, exists_eq', List.length_cons, List.length_nil, Nat.zero_add, Nat.reduceAdd, Nat.reduceLeDiff]
      refine ⟨A, j, rfl, rfl, by rw [hp.length_eq]; lia, hD.perm hp, hj, hF, fun B' hB' hF' => ?_⟩
      rw [MHeap.set_set]
      exact hK B' _ (by simp only [h0, sx_then_next, sx_then_ret, sx_then_brk, sx_then_cont, sx_boolof, sx_set, sx_loc, sx_clear, sx_add_i, sx_add_b, sx_add_l, sx_sub, sx_mul_i, sx_mul_l, sx_mul_b, sx_div, sx_mod, sx_pow, sx_shl, sx_shr, sx_and, sx_or, sx_iadd, sx_eq_i, sx_eq_b, sx_eq_t, sx_eq_l, sx_ne_i, sx_ne_b, sx_ne_t, sx_lt_i, sx_lt_t, sx_le, sx_gt, sx_ge, sx_is, sx_isn, sx_tr_b, sx_tr_i, sx_tr_l, sx_neg, sx_it_l, sx_it_t, sx_it_b, sx_len_l, sx_len_b, sx_ty_b, sx_ty_p, sx_by, sx_app, sx_ext, sx_pop, sx_cnt, sx_pair, sx_tail, sx_mt_l, sx_mt_b, sx_nr0, sx_ib, sx_il, sx_ir1, sx_ir3, sx_irev, sx_ien, sx_mk, sx_trn, sx_resub, sx_isi1, sx_isi2, sx_sum, sx_min, sx_sorted, sx_si, sx_sl, sx_slr, sx_mis1, sx_mis2, sx_mis3, sx_mis4, String.reduceBEq, String.reduceEq, List.map_cons, List.map_nil, List.zip_cons_cons, List.zip_nil_right, List.lookup_cons, List.lookup_nil, List.any_cons, List.any_nil, Nat.reduceEqDiff, Nat.reduceBEq, beq_self_eq_true, Option.some.injEq, exists_eq_left', exists_eq_left, reduceCtorEq, ite_true, ite_false, if_true, if_false, ↓reduceIte, Bool.false_eq_true, decide_eq_true_eq, true_and, and_true, Bool.not_true, Bool.not_false, Bool.or_false, Bool.false_or, MHeap.set_self, exists_eq', List.length_cons, List.length_nil, Nat.zero_add, Nat.reduceAdd, Nat.reduceLeDiff]) (hB'.trans hp) hF'
    · intro A' ρ' hp hF
      simp only [sx_then_next, sx_then_ret, sx_then_brk, sx_then_cont, sx_boolof, sx_set, sx_loc, sx_clear, sx_add_i, sx_add_b, sx_add_l, sx_sub, sx_mul_i, sx_mul_l, sx_mul_b, sx_div, sx_mod, sx_pow, sx_shl, sx_shr, sx_and, sx_or, sx_iadd, sx_eq_i, sx_eq_b, sx_eq_t, sx_eq_l, sx_ne_i, sx_ne_b, sx_ne_t, sx_lt_i, sx_lt_t, sx_le, sx_gt, sx_ge, sx_is, sx_isn, sx_tr_b, sx_tr_i, sx_tr_l, sx_neg, sx_it_l, sx_it_t, sx_it_b, sx_len_l, sx_len_b, sx_ty_b, sx_ty_p, sx_by, sx_app, sx_ext, sx_pop, sx_cnt, sx_pair, sx_tail, sx_mt_l, sx_mt_b, sx_nr0, sx_ib, sx_il, sx_ir1, sx_ir3, sx_irev, sx_ien, sx_mk, sx_trn, sx_resub, sx_isi1, sx_isi2, sx_sum, sx_min, sx_sorted, sx_si, sx_sl, sx_slr, sx_mis1, sx_mis2, sx_mis3, sx_mis4, String.reduceBEq, String.reduceEq, List.map_cons, List.map_nil, List.zip_cons_cons, List.zip_nil_right, List.lookup_cons, List.lookup_nil, List.any_cons, List.any_nil, Nat.reduceEqDiff, Nat.reduceBEq, beq_self_eq_true, Option.some.injEq, exists_eq_left', exists_eq_left, reduceCtorEq, ite_true, ite_false, if_true, if_false, ↓reduceIte, Bool.false_eq_true, decide_eq_true_eq, true_and, and_true, Bool.not_true, Bool.not_false, Bool.or_false, Bool.false_or, MHeap.set_self, exists_eq', List.length_cons, List.length_nil, Nat.zero_add, Nat.reduceAdd, Nat.reduceLeDiff]
      exact back_next (Sub.refl _) (q A' hp hF)
end
end Mine
end
-- part MPl
section
open PySem PySem.W PyProof.Rows PySem.SeqAt
namespace Mine

/-- is x, behind prev, a place that the manner m doubles? -/
def isHead (m : Nat) (prev : Option Nat) (x : Nat) : Bool :=
  if m < 2 then x == 62 + m && (prev == none || prev == some (63 - m)) else prev == none && x == 60 + m
def rep (ts : Nat → Nat) (prev : Option Nat) (x : Nat) : Nat :=
  (if isHead 0 prev x then ts 0 else 0) + (if isHead 1 prev x then ts 1 else 0) + (if isHead 2 prev x then ts 2 else 0) + (if isHead 3 prev x then ts 3 else 0)
def grow (ts : Nat → Nat) : Option Nat → List Nat → List Nat
  | _, [] => []
  | prev, x :: r => List.replicate (rep ts prev x) x ++ x :: grow ts (some x) r
def heads (m : Nat) : Option Nat → List Nat → Nat
  | _, [] => 0
  | prev, x :: r => (if isHead m prev x then 1 else 0) + heads m (some x) r
def padOf (h : Nat) : Nat := (4 - h % 4) % 4
def zeros (ts : Nat → Nat) (L : List Nat) : Nat := ts 0 * padOf (heads 0 none L) + ts 1 * padOf (heads 1 none L) + ts 2 * padOf (heads 2 none L) + ts 3 * padOf (heads 3 none L)
/-- the letter's values after the turns ts -/
def curV (L : List Nat) (ts : Nat → Nat) : List Nat := grow ts none L ++ List.replicate (zeros ts L) 0
def bump (ts : Nat → Nat) (m : Nat) : Nat → Nat := fun j => if j = m then ts j + 1 else ts j

/-- what the doubling does to values, at a line's start or not -/
def dotV (m : Nat) : Nat := 62 + m % 2
def isNl (m x : Nat) : Bool := decide (m < 2) && x == 63 - m
def gq (m : Nat) : Bool → List Nat → List Nat
  | _, [] => []
  | ls, x :: r => (if ls && x == dotV m then [x, x] else [x]) ++ gq m (isNl m x) r

theorem gq_append (m : Nat) : ∀ (A : List Nat) (ls : Bool) (B : List Nat), gq m ls (A ++ B) = gq m ls A ++ gq m (if A = [] then ls else isNl m (A.getLastD 0)) B
  | [], ls, B => by rw [if_pos rfl]; rfl
  | x :: r, ls, B => by
    rw [List.cons_append]
    show (if ls && x == dotV m then [x, x] else [x]) ++ gq m (isNl m x) (r ++ B) = ((if ls && x == dotV m then [x, x] else [x]) ++ gq m (isNl m x) r) ++ _
    rw [gq_append m r, List.append_assoc]
    congr 2
    cases r with
    | nil => simp
    | cons y r => simp
theorem gq_zeros (m : Nat) : ∀ (n : Nat) (ls : Bool), gq m ls (List.replicate n 0) = List.replicate n 0
  | 0, _ => rfl
  | n + 1, ls => by
    rw [List.replicate_succ]
    have h1 : ((0 : Nat) == dotV m) = false := by unfold dotV; simp; lia
    show (if ls && ((0 : Nat) == dotV m) then [0, 0] else [0]) ++ gq m (isNl m 0) (List.replicate n 0) = _
    rw [h1, gq_zeros m n]; simp

def lsOf (m : Nat) (prev : Option Nat) : Bool := match prev with | none => true | some p => isNl m p

theorem head_iff {m x : Nat} {prev : Option Nat} (hm : m < 4) : isHead m prev x = (x == dotV m && lsOf m prev) := by
  unfold isHead dotV lsOf isNl
  rcases (show m = 0 ∨ m = 1 ∨ m = 2 ∨ m = 3 by lia) with rfl | rfl | rfl | rfl <;> cases prev <;> simp
theorem head_dot {m x : Nat} {prev : Option Nat} (hm : m < 4) (h : isHead m prev x = true) : x = dotV m ∧ lsOf m prev = true := by
  rw [head_iff hm, Bool.and_eq_true, beq_iff_eq] at h; exact h
theorem dot_head {m x : Nat} {prev : Option Nat} (hm : m < 4) (h1 : x = dotV m) (h2 : lsOf m prev = true) : isHead m prev x = true := by
  rw [head_iff hm, h1, h2]; simp
theorem dot_nl {m : Nat} (hm : m < 4) : isNl m (dotV m) = false := by
  unfold isNl dotV
  rcases (show m = 0 ∨ m = 1 ∨ m = 2 ∨ m = 3 by lia) with rfl | rfl | rfl | rfl <;> decide

theorem sum4_at {f c : Nat → Nat} {m : Nat} (hm : m < 4) : (f 0 + if 0 = m then c 0 else 0) + (f 1 + if 1 = m then c 1 else 0) + (f 2 + if 2 = m then c 2 else 0) + (f 3 + if 3 = m then c 3 else 0) = f 0 + f 1 + f 2 + f 3 + c m := by
  generalize f 0 = a
  generalize f 1 = b
  generalize f 2 = d
  generalize f 3 = e
  rcases (show m = 0 ∨ m = 1 ∨ m = 2 ∨ m = 3 by lia) with rfl | rfl | rfl | rfl <;> simp only [Nat.reduceEqDiff, ite_true, ite_false, if_true, if_false] <;> lia
theorem bump_mul (ts : Nat → Nat) (m : Nat) (p : Nat → Nat) (j : Nat) : bump ts m j * p j = ts j * p j + if j = m then p j else 0 := by
  unfold bump
  split
  · rw [Nat.add_mul, Nat.one_mul]
  · rfl
theorem rep_bump {ts : Nat → Nat} {m : Nat} (hm : m < 4) (prev : Option Nat) (x : Nat) : rep (bump ts m) prev x = rep ts prev x + (if isHead m prev x then 1 else 0) := by
  have k : ∀ j, (if isHead j prev x then bump ts m j else 0) = (if isHead j prev x then ts j else 0) + if j = m then (if isHead j prev x then 1 else 0) else 0 := fun j => by
    unfold bump
    cases isHead j prev x <;> by_cases h : j = m <;> simp [h]
  unfold rep
  rw [k, k, k, k]
  exact sum4_at (f := fun j => if isHead j prev x then ts j else 0) (c := fun j => if isHead j prev x then 1 else 0) hm

/-- a block of one value -/
theorem gq_block {m x n : Nat} (hm : m < 4) (ls : Bool) (R : List Nat) : gq m ls (List.replicate n x ++ x :: R) = (if ls && x == dotV m then List.replicate (n + 1) x else List.replicate n x) ++ x :: gq m (isNl m x) R := by
  induction n generalizing ls with
  | zero =>
    show (if ls && x == dotV m then [x, x] else [x]) ++ gq m (isNl m x) R = _
    split <;> simp
  | succ n ih =>
    rw [List.replicate_succ, List.cons_append]
    show (if ls && x == dotV m then [x, x] else [x]) ++ gq m (isNl m x) (List.replicate n x ++ x :: R) = _
    rw [ih]
    by_cases hx : x = dotV m
    · have hn : isNl m x = false := by rw [hx]; exact dot_nl hm
      rw [hn]
      simp only [Bool.false_and, Bool.false_eq_true, if_false]
      split
      · simp [List.replicate_succ]
      · simp [List.replicate_succ]
    · have hb : (x == dotV m) = false := by simpa using hx
      rw [hb]
      simp [List.replicate_succ]

theorem gq_grow {m : Nat} (hm : m < 4) (ts : Nat → Nat) : ∀ (L : List Nat) (prev : Option Nat), gq m (lsOf m prev) (grow ts prev L) = grow (bump ts m) prev L
  | [], _ => rfl
  | x :: r, prev => by
    unfold grow
    rw [gq_block hm, rep_bump hm]
    have ih := gq_grow hm ts r (some x)
    have e : gq m (isNl m x) (grow ts (some x) r) = grow (bump ts m) (some x) r := ih
    rw [e]
    cases hh : isHead m prev x with
    | true =>
      obtain ⟨h1, h2⟩ := head_dot hm hh
      rw [h2, show (x == dotV m) = true from by simpa using h1]; rfl
    | false =>
      have : ¬ (lsOf m prev && x == dotV m) = true := by
        intro h
        simp only [Bool.and_eq_true, beq_iff_eq] at h
        rw [dot_head hm h.2 h.1] at hh; cases hh
      rw [if_neg this]; rfl

theorem grow_len (ts : Nat → Nat) : ∀ (L : List Nat) (prev : Option Nat), (grow ts prev L).length = L.length + ts 0 * heads 0 prev L + ts 1 * heads 1 prev L + ts 2 * heads 2 prev L + ts 3 * heads 3 prev L
  | [], _ => by simp [grow, heads]
  | x :: r, prev => by
    unfold grow heads
    rw [List.length_append, List.length_replicate, List.length_cons, grow_len ts r, List.length_cons]
    unfold rep
    simp only [Nat.mul_add]
    have k : ∀ j, ts j * (if isHead j prev x = true then 1 else 0) = if isHead j prev x = true then ts j else 0 := fun j => by split <;> simp
    rw [k, k, k, k]
    lia
theorem heads_le (m : Nat) : ∀ (L : List Nat) (prev : Option Nat), heads m prev L ≤ L.length
  | [], _ => by simp [heads]
  | x :: r, prev => by
    unfold heads
    have := heads_le m r (some x)
    rw [List.length_cons]
    split <;> lia

def tsum (ts : Nat → Nat) : Nat := ts 0 + ts 1 + ts 2 + ts 3
theorem pad_lt (h : Nat) : padOf h < 4 := by unfold padOf; lia
theorem curV_len {L : List Nat} {n : Nat} (hL : L.length = 4 * n) (ts : Nat → Nat) : ∃ k, (curV L ts).length = 4 * k ∧ (curV L ts).length ≤ L.length + tsum ts * (L.length + 3) := by
  have h0 : ∀ j, ∃ q, ts j * heads j none L + ts j * padOf (heads j none L) = 4 * q ∧ ts j * heads j none L + ts j * padOf (heads j none L) ≤ ts j * (L.length + 3) := fun j => by
    rw [← Nat.mul_add]
    have hp := pad_lt (heads j none L)
    have hl := heads_le j L none
    refine ⟨ts j * ((heads j none L + padOf (heads j none L)) / 4), ?_, Nat.mul_le_mul_left _ (by lia)⟩
    have : (heads j none L + padOf (heads j none L)) % 4 = 0 := by unfold padOf; lia
    have e : heads j none L + padOf (heads j none L) = 4 * ((heads j none L + padOf (heads j none L)) / 4) := by lia
    rw [Nat.mul_left_comm, ← e]
  obtain ⟨q0, a0, b0⟩ := h0 0
  obtain ⟨q1, a1, b1⟩ := h0 1
  obtain ⟨q2, a2, b2⟩ := h0 2
  obtain ⟨q3, a3, b3⟩ := h0 3
  unfold curV
  rw [List.length_append, List.length_replicate, grow_len]
  unfold zeros tsum
  refine ⟨n + q0 + q1 + q2 + q3, by lia, ?_⟩
  simp only [Nat.add_mul]
  lia

/-- one turn -/
theorem turn_vals {L : List Nat} {n m : Nat} (hm : m < 4) (hL : L.length = 4 * n) (ts : Nat → Nat) :
    gq m true (curV L ts) ++ List.replicate (padOf (gq m true (curV L ts)).length) 0 = curV L (bump ts m) := by
  obtain ⟨k, hk, _⟩ := curV_len hL ts
  unfold curV at hk ⊢
  have e1 : gq m true (grow ts none L ++ List.replicate (zeros ts L) 0) = grow (bump ts m) none L ++ List.replicate (zeros ts L) 0 := by
    rw [gq_append, gq_zeros]
    congr 1
    exact gq_grow hm ts L none
  rw [e1, List.append_assoc]
  congr 1
  rw [List.replicate_append_replicate]
  congr 1
  rw [List.length_append, List.length_replicate, grow_len]
  rw [List.length_append, List.length_replicate, grow_len] at hk
  have hz : zeros (bump ts m) L = zeros ts L + padOf (heads m none L) := by
    unfold zeros
    rw [bump_mul ts m (fun j => padOf (heads j none L)) 0, bump_mul ts m (fun j => padOf (heads j none L)) 1, bump_mul ts m (fun j => padOf (heads j none L)) 2, bump_mul ts m (fun j => padOf (heads j none L)) 3]
    exact sum4_at (f := fun j => ts j * padOf (heads j none L)) (c := fun j => padOf (heads j none L)) hm
  rw [hz]
  congr 1
  have hs := sum4_at (f := fun j => ts j * heads j none L) (c := fun j => heads j none L) hm
  rw [bump_mul ts m (fun j => heads j none L) 0, bump_mul ts m (fun j => heads j none L) 1, bump_mul ts m (fun j => heads j none L) 2, bump_mul ts m (fun j => heads j none L) 3]
  generalize (if 0 = m then heads 0 none L else 0) = c0 at hs ⊢
  generalize (if 1 = m then heads 1 none L else 0) = c1 at hs ⊢
  generalize (if 2 = m then heads 2 none L else 0) = c2 at hs ⊢
  generalize (if 3 = m then heads 3 none L else 0) = c3 at hs ⊢
  generalize ts 0 * heads 0 none L = x0 at hs hk ⊢
  generalize ts 1 * heads 1 none L = x1 at hs hk ⊢
  generalize ts 2 * heads 2 none L = x2 at hs hk ⊢
  generalize ts 3 * heads 3 none L = x3 at hs hk ⊢
  have : L.length + (x0 + c0) + (x1 + c1) + (x2 + c2) + (x3 + c3) + zeros ts L = 4 * k + heads m none L := by lia
  rw [this]
  unfold padOf
  rw [Nat.mul_add_mod]
theorem grow_lt {ts : Nat → Nat} : ∀ (L : List Nat) (prev : Option Nat), (∀ v ∈ L, v < 64) → ∀ v ∈ grow ts prev L, v < 64
  | [], _, _, v, hv => nomatch hv
  | x :: r, prev, h, v, hv => by
    unfold grow at hv
    rcases List.mem_append.mp hv with g | g
    · rw [(List.mem_replicate.mp g).2]; exact h x (.head _)
    · rcases List.mem_cons.mp g with rfl | g
      · exact h v (.head _)
      · exact grow_lt r (some x) (fun w hw => h w (.tail _ hw)) v g
theorem curV_lt {L : List Nat} {ts : Nat → Nat} (h : ∀ v ∈ L, v < 64) : ∀ v ∈ curV L ts, v < 64 := fun v hv => by
  unfold curV at hv
  rcases List.mem_append.mp hv with g | g
  · exact grow_lt L none h v g
  · rw [(List.mem_replicate.mp g).2]; lia
end Mine
end
-- part MP5
section
open PySem PySem.W PyProof.Rows PySem.SeqAt
set_option maxRecDepth 100000
set_option linter.unusedSimpArgs false
set_option linter.unusedVariables false
namespace Mine
section
variable {G : Gd} {P : Params} {d : Nat} {fm : Fm}

def sg0 (m : Nat) : UInt8 := if m = 0 then 46 else if m = 1 then 10 else if m = 2 then 46 else 13
def sg1 (m : Nat) : UInt8 := if m = 0 then 10 else if m = 1 then 46 else if m = 2 then 13 else 46
def sgn (m v : Nat) : UInt8 := if v = 62 then sg0 m else if v = 63 then sg1 m else b64char v
theorem sgn_enc : ∀ m : Fin 4, ∀ v : Fin 64, (mkTab [43, 47] [sg0 m.1, sg1 m.1]).toList.getD (b64char v.1).toNat (b64char v.1) = sgn m.1 v.1 := by decide +kernel
theorem sgn_dec : ∀ m : Fin 4, ∀ v : Fin 64, (mkTab [sg0 m.1, sg1 m.1] [43, 47]).toList.getD (sgn m.1 v.1).toNat (sgn m.1 v.1) = b64char v.1 := by decide +kernel
theorem sgn_dot : ∀ m : Fin 4, ∀ v : Fin 64, (sgn m.1 v.1 == 46) = (v.1 == dotV m.1) ∧ (sgn m.1 v.1 == 10) = isNl m.1 v.1 := by decide +kernel
theorem sgn_zero : ∀ m : Fin 4, sgn m.1 0 = 65 := by decide +kernel

theorem trans_enc {m : Nat} (hm : m < 4) {vs : List Nat} (h : ∀ v ∈ vs, v < 64) : trans (mkTab [43, 47] [sg0 m, sg1 m]).toList (vs.map b64char) = vs.map (sgn m) := by
  unfold trans
  rw [List.map_map]
  exact List.map_congr_left fun v hv => sgn_enc ⟨m, hm⟩ ⟨v, h v hv⟩
theorem trans_dec {m : Nat} (hm : m < 4) {vs : List Nat} (h : ∀ v ∈ vs, v < 64) : trans (mkTab [sg0 m, sg1 m] [43, 47]).toList (vs.map (sgn m)) = vs.map b64char := by
  unfold trans
  rw [List.map_map]
  exact List.map_congr_left fun v hv => sgn_dec ⟨m, hm⟩ ⟨v, h v hv⟩
theorem quote_vals {m : Nat} (hm : m < 4) : ∀ (vs : List Nat) (ls : Bool), (∀ v ∈ vs, v < 64) → quote ls (vs.map (sgn m)) = (gq m ls vs).map (sgn m)
  | [], _, _ => rfl
  | v :: r, ls, h => by
    obtain ⟨h1, h2⟩ := sgn_dot ⟨m, hm⟩ ⟨v, h v (.head _)⟩
    simp only at h1 h2
    show (if ls && sgn m v == 46 then [46, 46] else [sgn m v]) ++ quote (sgn m v == 10) (r.map (sgn m)) = ((if ls && v == dotV m then [v, v] else [v]) ++ gq m (isNl m v) r).map (sgn m)
    rw [h1, h2, quote_vals hm r _ fun w hw => h w (.tail _ hw), List.map_append]
    congr 1
    by_cases hd : (ls && v == dotV m) = true
    · rw [if_pos hd, if_pos hd]
      have hv : (sgn m v == 46) = true := by rw [h1]; simp only [Bool.and_eq_true] at hd; exact hd.2
      have hv' : sgn m v = 46 := by simpa using hv
      simp [hv']
    · rw [if_neg hd, if_neg hd]; rfl

theorem fmod_bd (a : Int) {b : Int} (hb : 0 < b) : 0 ≤ a.fmod b ∧ a.fmod b < b := by
  rw [Int.fmod_eq_emod_of_nonneg _ (by lia)]; exact ⟨Int.emod_nonneg _ (by lia), Int.emod_lt_of_pos _ hb⟩
-- _law_values
def natInts (vs : List Nat) : List MV := vs.map fun v => .int (v : Nat)
theorem run_cons (a c : Int) (n : Nat) : runItems a c (n + 1) = .int a :: runItems (a + c) c n := by
  unfold runItems
  rw [List.range_succ_eq_map, List.map_cons, List.map_map]
  have e0 : MV.int (a + ((0 : Nat) : Int) * c) = MV.int a := by simp
  rw [e0]
  congr 1
  apply List.map_congr_left
  intro k _
  show MV.int (a + ((k + 1 : Nat) : Int) * c) = MV.int (a + c + ((k : Nat) : Int) * c)
  congr 1
  rw [Int.natCast_add, Int.add_mul]; lia

def w__law_values : List MV → (MV → MHeap → Prop) → MHeap → Prop
  | [.int x], Q, H => ∀ (c : Addr) (L : List Nat) (n : Nat), H c = none → (∀ v ∈ L, v < 64) → L.length = 4 * n → n ≤ 3 → Q (.lst c) (H.set c (natInts L))
  | _, _, _ => False

theorem loop_values {a : Addr} {H0 : MHeap} {Wb : WS} {K : MFlow → Loc → MHeap → Prop}
    (step : ∀ (ρ : Loc) (vs : List Nat) (r : Int) (k : Nat) K', ρ 1 = some (.lst a) → ρ 2 = some (.int r) → vs.length = k → k < 13 → (∀ v ∈ vs, v < 64) → (∀ (ρ' : Loc) (r' : Int) (v : Nat), v < 64 → ρ' 1 = some (.lst a) → ρ' 2 = some (.int r') → K' .next ρ' (H0.set a (natInts (vs ++ [v])))) → Wb (ρ.set 3 (.int (k : Nat))) K' (H0.set a (natInts vs))) :
    ∀ (n k : Nat) (vs : List Nat) (ρ : Loc) (r : Int), vs.length = k → k + n ≤ 12 → (∀ v ∈ vs, v < 64) → ρ 1 = some (.lst a) → ρ 2 = some (.int r) → (∀ (vs' : List Nat) (ρ' : Loc), vs'.length = k + n → (∀ v ∈ vs', v < 64) → ρ' 1 = some (.lst a) → K .next ρ' (H0.set a (natInts vs'))) →
      loopW Wb 3 (fun _ => True) K (runItems (k : Nat) 1 n) ρ (H0.set a (natInts vs)) := by
  intro n
  induction n with
  | zero => intro k vs ρ r hl _ hv h1 _ hK; exact hK vs ρ (by omega) hv h1
  | succ n ih =>
    intro k vs ρ r hl hk hv h1 h2 hK
    rw [run_cons]
    refine step ρ vs r k _ h1 h2 hl (by lia) hv fun ρ' r' v hv' h1' h2' => ⟨trivial, ?_⟩
    rw [show ((k : Nat) : Int) + 1 = ((k + 1 : Nat) : Int) from by lia]
    refine ih (k + 1) (vs ++ [v]) ρ' r' (by simp [hl]) (by lia) (fun w hw => ?_) h1' h2' fun vs' ρ'' hl' hv'' h1'' => hK vs' ρ'' (by lia) hv'' h1''
    rcases List.mem_append.mp hw with g | g
    · exact hv w g
    · rw [List.mem_singleton.mp g]; exact hv'

set_option maxHeartbeats 2000000 in
theorem c__law_values (g : Pg G P) : DCall G 1 (.ref 173) w__law_values := by
  refine den_cps (G := G) (fm := fm__law_values) (d := 0) (tlB (selB false (tlB (tlB (bodyOf P 173))))) (db_cons (ds_aug (.tail _ (.tail _ (.head _))) de_int dop_idiv) db_nil) fun W1s1 h1s1 e1s1 => ?_
  refine den_cps (G := G) (fm := fm__law_values) (d := 0) (selB false (tlB (tlB (bodyOf P 173)))) (db_cons (ds_expr (de_append (de_var (.tail _ (.head _))) (de_item (de_tuple (da_cons de_int (da_cons de_int (da_cons (de_bin (de_var (.tail _ (.tail _ (.tail _ (.head _))))) de_int dop_add) da_nil)))) (de_bin (de_var (.tail _ (.tail _ (.head _)))) de_int dop_mod)))) h1s1) fun W1s0 h1s0 e1s0 => ?_
  refine den_cps (G := G) (fm := fm__law_values) (d := 0) (tlB (tlB (tlB (bodyOf P 173)))) (db_cons (ds_return (de_bin (de_var (.tail _ (.head _))) (de_bin (de_list (da_cons de_int da_nil)) (de_bin (de_neg (de_callB (.tail _ (.head _)) (gb_len g) (da_cons (de_var (.tail _ (.head _))) da_nil) dcall_len)) de_int dop_mod) dop_mul) dop_add)) db_nil) fun W0s3 h0s3 e0s3 => ?_
  refine den_cps (G := G) (fm := fm__law_values) (d := 0) (tlB (tlB (bodyOf P 173))) (db_cons (ds_for (.tail _ (.tail _ (.tail _ (.head _)))) (di_range (.head _) (gt_range g) (da_cons (de_bin (de_var (.head _)) de_int dop_mod) da_nil))
    h1s0) h0s3) fun W0s2 h0s2 e0s2 => ?_
  refine den_cps (G := G) (fm := fm__law_values) (d := 0) (tlB (bodyOf P 173)) (db_cons (ds_assign (.tail _ (.tail _ (.head _))) (de_bin (de_var (.head _)) de_int dop_div)) h0s2) fun W0s1 h0s1 e0s1 => ?_
  refine den_cps (G := G) (fm := fm__law_values) (d := 0) (bodyOf P 173) (db_cons (ds_assign (.tail _ (.head _)) (de_list da_nil)) h0s1) fun W0s0 h0s0 e0s0 => ?_
  refine DCallK.plain (dcall_def (fm := fm__law_values) (d := 0) (body := bodyOf P 173) (ps := ps__law_values) g.ok (g.kin _ _ o__law_values) f__law_values b__law_values (codeRec_of g.kin cd__law_values) (by kernel_rfl) (by kernel_rfl) (by kernel_rfl) s__law_values nc__law_values (by decide) (by decide) (dbind_pos bi__law_values)
    h0s0) ?_
  intro ms Q H w
  cases ms with
  | nil => exact w.elim
  | cons m ms =>
  cases m <;> first | exact w.elim | skip
  cases ms with
  | cons _ _ => exact w.elim
  | nil =>
  · rename_i x
    refine ⟨_, rfl, ?_⟩
    rw [e0s0]
    simp only [ps__law_values, sx_then_next, sx_then_ret, sx_then_brk, sx_then_cont, sx_boolof, sx_set, sx_loc, sx_clear, sx_add_i, sx_add_b, sx_add_l, sx_sub, sx_mul_i, sx_mul_l, sx_mul_b, sx_div, sx_mod, sx_pow, sx_shl, sx_shr, sx_and, sx_or, sx_iadd, sx_eq_i, sx_eq_b, sx_eq_t, sx_eq_l, sx_ne_i, sx_ne_b, sx_ne_t, sx_lt_i, sx_lt_t, sx_le, sx_gt, sx_ge, sx_is, sx_isn, sx_tr_b, sx_tr_i, sx_tr_l, sx_neg, sx_it_l, sx_it_t, sx_it_b, sx_len_l, sx_len_b, sx_ty_b, sx_ty_p, sx_by, sx_app, sx_ext, sx_pop, sx_cnt, sx_pair, sx_tail, sx_mt_l, sx_mt_b, sx_nr0, sx_ib, sx_il, sx_ir1, sx_ir3, sx_irev, sx_ien, sx_mk, sx_trn, sx_resub, sx_isi1, sx_isi2, sx_sum, sx_min, sx_sorted, sx_si, sx_sl, sx_slr, sx_mis1, sx_mis2, sx_mis3, sx_mis4, String.reduceBEq, String.reduceEq, List.map_cons, List.map_nil, List.zip_cons_cons, List.zip_nil_right, List.lookup_cons, List.lookup_nil, List.any_cons, List.any_nil, Nat.reduceEqDiff, Nat.reduceBEq, beq_self_eq_true, Option.some.injEq, exists_eq_left', exists_eq_left, reduceCtorEq, ite_true, ite_false, if_true, if_false, ↓reduceIte, Bool.false_eq_true, decide_eq_true_eq, true_and, and_true, Bool.not_true, Bool.not_false, Bool.or_false, Bool.false_or, MHeap.set_self, exists_eq', List.length_cons, List.length_nil, Nat.zero_add, Nat.reduceAdd, Nat.reduceLeDiff]
    intro o ho
    rw [e0s1]
    simp only [sx_then_next, sx_then_ret, sx_then_brk, sx_then_cont, sx_boolof, sx_set, sx_loc, sx_clear, sx_add_i, sx_add_b, sx_add_l, sx_sub, sx_mul_i, sx_mul_l, sx_mul_b, sx_div, sx_mod, sx_pow, sx_shl, sx_shr, sx_and, sx_or, sx_iadd, sx_eq_i, sx_eq_b, sx_eq_t, sx_eq_l, sx_ne_i, sx_ne_b, sx_ne_t, sx_lt_i, sx_lt_t, sx_le, sx_gt, sx_ge, sx_is, sx_isn, sx_tr_b, sx_tr_i, sx_tr_l, sx_neg, sx_it_l, sx_it_t, sx_it_b, sx_len_l, sx_len_b, sx_ty_b, sx_ty_p, sx_by, sx_app, sx_ext, sx_pop, sx_cnt, sx_pair, sx_tail, sx_mt_l, sx_mt_b, sx_nr0, sx_ib, sx_il, sx_ir1, sx_ir3, sx_irev, sx_ien, sx_mk, sx_trn, sx_resub, sx_isi1, sx_isi2, sx_sum, sx_min, sx_sorted, sx_si, sx_sl, sx_slr, sx_mis1, sx_mis2, sx_mis3, sx_mis4, String.reduceBEq, String.reduceEq, List.map_cons, List.map_nil, List.zip_cons_cons, List.zip_nil_right, List.lookup_cons, List.lookup_nil, List.any_cons, List.any_nil, Nat.reduceEqDiff, Nat.reduceBEq, beq_self_eq_true, Option.some.injEq, exists_eq_left', exists_eq_left, reduceCtorEq, ite_true, ite_false, if_true, if_false, ↓reduceIte, Bool.false_eq_true, decide_eq_true_eq, true_and, and_true, Bool.not_true, Bool.not_false, Bool.or_false, Bool.false_or, MHeap.set_self, exists_eq', List.length_cons, List.length_nil, Nat.zero_add, Nat.reduceAdd, Nat.reduceLeDiff]
    obtain ⟨hm, hm'⟩ := fmod_bd x (show (0 : Int) < 13 by decide)
    refine ⟨by decide, ?_⟩
    rw [e0s2]
    simp only [sx_then_next, sx_then_ret, sx_then_brk, sx_then_cont, sx_boolof, sx_set, sx_loc, sx_clear, sx_add_i, sx_add_b, sx_add_l, sx_sub, sx_mul_i, sx_mul_l, sx_mul_b, sx_div, sx_mod, sx_pow, sx_shl, sx_shr, sx_and, sx_or, sx_iadd, sx_eq_i, sx_eq_b, sx_eq_t, sx_eq_l, sx_ne_i, sx_ne_b, sx_ne_t, sx_lt_i, sx_lt_t, sx_le, sx_gt, sx_ge, sx_is, sx_isn, sx_tr_b, sx_tr_i, sx_tr_l, sx_neg, sx_it_l, sx_it_t, sx_it_b, sx_len_l, sx_len_b, sx_ty_b, sx_ty_p, sx_by, sx_app, sx_ext, sx_pop, sx_cnt, sx_pair, sx_tail, sx_mt_l, sx_mt_b, sx_nr0, sx_ib, sx_il, sx_ir1, sx_ir3, sx_irev, sx_ien, sx_mk, sx_trn, sx_resub, sx_isi1, sx_isi2, sx_sum, sx_min, sx_sorted, sx_si, sx_sl, sx_slr, sx_mis1, sx_mis2, sx_mis3, sx_mis4, String.reduceBEq, String.reduceEq, List.map_cons, List.map_nil, List.zip_cons_cons, List.zip_nil_right, List.lookup_cons, List.lookup_nil, List.any_cons, List.any_nil, Nat.reduceEqDiff, Nat.reduceBEq, beq_self_eq_true, Option.some.injEq, exists_eq_left', exists_eq_left, reduceCtorEq, ite_true, ite_false, if_true, if_false, ↓reduceIte, Bool.false_eq_true, decide_eq_true_eq, true_and, and_true, Bool.not_true, Bool.not_false, Bool.or_false, Bool.false_or, MHeap.set_self, exists_eq', List.length_cons, List.length_nil, Nat.zero_add, Nat.reduceAdd, Nat.reduceLeDiff]
    refine ⟨by decide, by omega, ?_⟩
    refine loop_values (a := o) (H0 := H) ?_ (x.fmod 13).toNat 0 [] _ (x.fdiv 13) rfl (by omega) (fun v hv => nomatch hv) rfl rfl ?_
    · intro ρ vs r k K' h1 h2 hl hk hv hK
      rw [e1s0]
      simp only [h1, h2, sx_then_next, sx_then_ret, sx_then_brk, sx_then_cont, sx_boolof, sx_set, sx_loc, sx_clear, sx_add_i, sx_add_b, sx_add_l, sx_sub, sx_mul_i, sx_mul_l, sx_mul_b, sx_div, sx_mod, sx_pow, sx_shl, sx_shr, sx_and, sx_or, sx_iadd, sx_eq_i, sx_eq_b, sx_eq_t, sx_eq_l, sx_ne_i, sx_ne_b, sx_ne_t, sx_lt_i, sx_lt_t, sx_le, sx_gt, sx_ge, sx_is, sx_isn, sx_tr_b, sx_tr_i, sx_tr_l, sx_neg, sx_it_l, sx_it_t, sx_it_b, sx_len_l, sx_len_b, sx_ty_b, sx_ty_p, sx_by, sx_app, sx_ext, sx_pop, sx_cnt, sx_pair, sx_tail, sx_mt_l, sx_mt_b, sx_nr0, sx_ib, sx_il, sx_ir1, sx_ir3, sx_irev, sx_ien, sx_mk, sx_trn, sx_resub, sx_isi1, sx_isi2, sx_sum, sx_min, sx_sorted, sx_si, sx_sl, sx_slr, sx_mis1, sx_mis2, sx_mis3, sx_mis4, String.reduceBEq, String.reduceEq, List.map_cons, List.map_nil, List.zip_cons_cons, List.zip_nil_right, List.lookup_cons, List.lookup_nil, List.any_cons, List.any_nil, Nat.reduceEqDiff, Nat.reduceBEq, beq_self_eq_true, Option.some.injEq, exists_eq_left', exists_eq_left, reduceCtorEq, ite_true, ite_false, if_true, if_false, ↓reduceIte, Bool.false_eq_true, decide_eq_true_eq, true_and, and_true, Bool.not_true, Bool.not_false, Bool.or_false, Bool.false_or, MHeap.set_self, exists_eq', List.length_cons, List.length_nil, Nat.zero_add, Nat.reduceAdd, Nat.reduceLeDiff]
      obtain ⟨h3, h3'⟩ := fmod_bd r (show (0 : Int) < 3 by decide)
      refine ⟨by decide, by omega, ?_⟩
      have fin : ∀ v : Nat, v < 64 → (natInts vs).length ≤ 1000000 ∧ W1s1 (ρ.set 3 (.int (k : Nat))) K' ((H.set o (natInts vs)).set o (natInts vs ++ [.int (v : Nat)])) := fun v hv' => by
        refine ⟨by simp [natInts]; lia, ?_⟩
        rw [e1s1]
        simp only [h2, sx_then_next, sx_then_ret, sx_then_brk, sx_then_cont, sx_boolof, sx_set, sx_loc, sx_clear, sx_add_i, sx_add_b, sx_add_l, sx_sub, sx_mul_i, sx_mul_l, sx_mul_b, sx_div, sx_mod, sx_pow, sx_shl, sx_shr, sx_and, sx_or, sx_iadd, sx_eq_i, sx_eq_b, sx_eq_t, sx_eq_l, sx_ne_i, sx_ne_b, sx_ne_t, sx_lt_i, sx_lt_t, sx_le, sx_gt, sx_ge, sx_is, sx_isn, sx_tr_b, sx_tr_i, sx_tr_l, sx_neg, sx_it_l, sx_it_t, sx_it_b, sx_len_l, sx_len_b, sx_ty_b, sx_ty_p, sx_by, sx_app, sx_ext, sx_pop, sx_cnt, sx_pair, sx_tail, sx_mt_l, sx_mt_b, sx_nr0, sx_ib, sx_il, sx_ir1, sx_ir3, sx_irev, sx_ien, sx_mk, sx_trn, sx_resub, sx_isi1, sx_isi2, sx_sum, sx_min, sx_sorted, sx_si, sx_sl, sx_slr, sx_mis1, sx_mis2, sx_mis3, sx_mis4, String.reduceBEq, String.reduceEq, List.map_cons, List.map_nil, List.zip_cons_cons, List.zip_nil_right, List.lookup_cons, List.lookup_nil, List.any_cons, List.any_nil, Nat.reduceEqDiff, Nat.reduceBEq, beq_self_eq_true, Option.some.injEq, exists_eq_left', exists_eq_left, reduceCtorEq, ite_true, ite_false, if_true, if_false, ↓reduceIte, Bool.false_eq_true, decide_eq_true_eq, true_and, and_true, Bool.not_true, Bool.not_false, Bool.or_false, Bool.false_or, MHeap.set_self, exists_eq', List.length_cons, List.length_nil, Nat.zero_add, Nat.reduceAdd, Nat.reduceLeDiff]
        have := hK ((ρ.set 3 (.int (k : Nat))).set 2 (.int (r.fdiv 3))) (r.fdiv 3) v hv' h1 rfl
        rw [MHeap.set_set]
        exact ⟨by decide, by simpa [natInts] using this⟩
      rcases (show r.fmod 3 = 0 ∨ r.fmod 3 = 1 ∨ r.fmod 3 = 2 by lia) with h | h | h
      · rw [h]; exact ⟨_, rfl, fin 62 (by decide)⟩
      · rw [h]; exact ⟨_, rfl, fin 63 (by decide)⟩
      · rw [h]; exact ⟨_, rfl, fin (k + 1) (by lia)⟩
    · intro vs ρ hl hv h1
      rw [sx_then_next, e0s3]
      simp only [h1, sx_then_next, sx_then_ret, sx_then_brk, sx_then_cont, sx_boolof, sx_set, sx_loc, sx_clear, sx_add_i, sx_add_b, sx_add_l, sx_sub, sx_mul_i, sx_mul_l, sx_mul_b, sx_div, sx_mod, sx_pow, sx_shl, sx_shr, sx_and, sx_or, sx_iadd, sx_eq_i, sx_eq_b, sx_eq_t, sx_eq_l, sx_ne_i, sx_ne_b, sx_ne_t, sx_lt_i, sx_lt_t, sx_le, sx_gt, sx_ge, sx_is, sx_isn, sx_tr_b, sx_tr_i, sx_tr_l, sx_neg, sx_it_l, sx_it_t, sx_it_b, sx_len_l, sx_len_b, sx_ty_b, sx_ty_p, sx_by, sx_app, sx_ext, sx_pop, sx_cnt, sx_pair, sx_tail, sx_mt_l, sx_mt_b, sx_nr0, sx_ib, sx_il, sx_ir1, sx_ir3, sx_irev, sx_ien, sx_mk, sx_trn, sx_resub, sx_isi1, sx_isi2, sx_sum, sx_min, sx_sorted, sx_si, sx_sl, sx_slr, sx_mis1, sx_mis2, sx_mis3, sx_mis4, String.reduceBEq, String.reduceEq, List.map_cons, List.map_nil, List.zip_cons_cons, List.zip_nil_right, List.lookup_cons, List.lookup_nil, List.any_cons, List.any_nil, Nat.reduceEqDiff, Nat.reduceBEq, beq_self_eq_true, Option.some.injEq, exists_eq_left', exists_eq_left, reduceCtorEq, ite_true, ite_false, if_true, if_false, ↓reduceIte, Bool.false_eq_true, decide_eq_true_eq, true_and, and_true, Bool.not_true, Bool.not_false, Bool.or_false, Bool.false_or, MHeap.set_self, exists_eq', List.length_cons, List.length_nil, Nat.zero_add, Nat.reduceAdd, Nat.reduceLeDiff]
      intro c hc
      have hco : o ≠ c := fun e => by rw [e, MHeap.set_self] at hc; cases hc
      have hcH : H c = none := by rw [MHeap.set_ne _ _ (Ne.symm hco)] at hc; exact hc
      rw [MHeap.set_ne _ _ hco, MHeap.set_self]
      have hlen : (natInts vs).length = vs.length := by simp [natInts]
      refine ⟨_, rfl, by rw [hlen]; omega, by decide, ?_⟩
      have hp : Int.fmod (-((natInts vs).length : Int)) 4 = ((padOf vs.length : Nat) : Int) := by
        rw [hlen, Int.fmod_eq_emod_of_nonneg _ (by decide)]
        unfold padOf
        omega
      rw [hp]
      refine ⟨.int 0, rfl, by have := pad_lt vs.length; omega, fun k hk => ?_⟩
      have hok : o ≠ k := fun e => by rw [← e, MHeap.set_ne _ _ hco, MHeap.set_self] at hk; cases hk
      have hck : c ≠ k := fun e => by rw [← e, MHeap.set_self] at hk; cases hk
      have hkH : H k = none := by rw [MHeap.set_ne _ _ (Ne.symm hck), MHeap.set_ne _ _ (Ne.symm hok)] at hk; exact hk
      refine ⟨natInts vs, by rw [MHeap.set_ne _ _ hok, MHeap.set_ne _ _ hco, MHeap.set_self], by have := pad_lt vs.length; simp [natInts]; omega, fun e he => ?_⟩
      have heH : H e = none := by
        by_cases e1 : e = k
        · rw [e1, MHeap.set_self] at he; cases he
        · rw [MHeap.set_ne _ _ e1] at he
          by_cases e2 : e = c
          · rw [e2, MHeap.set_self] at he; cases he
          · rw [MHeap.set_ne _ _ e2] at he
            by_cases e3 : e = o
            · rw [e3, MHeap.set_self] at he; cases he
            · rw [MHeap.set_ne _ _ e3] at he; exact he
      have hpad : ∃ n, vs.length + padOf vs.length = 4 * n ∧ n ≤ 3 := by
        have : vs.length ≤ 12 := by omega
        refine ⟨(vs.length + padOf vs.length) / 4, ?_, ?_⟩ <;> unfold padOf <;> lia
      obtain ⟨n, hn, hn3⟩ := hpad
      have hq := w e (vs ++ List.replicate (padOf vs.length) 0) n heH (fun v hv' => by
        rcases List.mem_append.mp hv' with g | g
        · exact hv v g
        · rw [(List.mem_replicate.mp g).2]; decide) (by simpa using hn) hn3
      have e1 : natInts vs ++ List.replicate (((padOf vs.length : Nat) : Int).toNat) (MV.int 0) = natInts (vs ++ List.replicate (padOf vs.length) 0) := by
        rw [Int.toNat_natCast]; simp [natInts]
      rw [e1]
      refine back_ret (H' := H.set e (natInts (vs ++ List.replicate (padOf vs.length) 0))) (fun b ys hb => ?_) hq
      by_cases e2 : b = e
      · rw [e2, MHeap.set_self] at hb ⊢; exact hb
      · rw [MHeap.set_ne _ _ e2] at hb ⊢
        have : ∀ z, H z = none → b ≠ z := fun z hz e => by rw [e, hz] at hb; cases hb
        rw [MHeap.set_ne _ _ (this k hkH), MHeap.set_ne _ _ (this c hcH), MHeap.set_ne _ _ (this o ho)]
        exact hb

-- _law_octets
def w__law_octets : List MV → (MV → MHeap → Prop) → MHeap → Prop
  | [.lst a], Q, H => ∃ (vs : List Nat) (n : Nat), H a = some (natInts vs) ∧ vs.length = 4 * n ∧ n ≤ 1000 ∧ (∀ v ∈ vs, v < 64) ∧ Q (.bytes (oct4 vs)) H
  | _, _, _ => False

theorem drop4 {vs : List Nat} {k : Nat} (h : 4 * k + 4 ≤ vs.length) : ∃ a b c d, vs.drop (4 * k) = a :: b :: c :: d :: vs.drop (4 * k + 4) ∧ a ∈ vs ∧ b ∈ vs ∧ c ∈ vs ∧ d ∈ vs := by
  refine ⟨vs[4 * k], vs[4 * k + 1], vs[4 * k + 2], vs[4 * k + 3], ?_, List.getElem_mem _, List.getElem_mem _, List.getElem_mem _, List.getElem_mem _⟩
  rw [List.drop_eq_getElem_cons (by omega), List.drop_eq_getElem_cons (by omega), List.drop_eq_getElem_cons (by omega), List.drop_eq_getElem_cons (by omega)]

/-- the told lists of H0 stay, and a told list more -/
structure Ex (H0 : MHeap) (o : Addr) (xs : List MV) (H : MHeap) : Prop where
  sub : Sub H0 H
  at_ : H o = some xs

theorem loop_octets {o : Addr} {H0 : MHeap} {vs : List Nat} {Wb : WS} {K : MFlow → Loc → MHeap → Prop} {v0 : MV} (hv : ∀ v ∈ vs, v < 64) (hz : vs.length ≤ 4000)
    (step : ∀ (ρ : Loc) (H : MHeap) (outs : List UInt8) (k : Nat) (a b c d : Nat) K', ρ 0 = some v0 → ρ 1 = some (.lst o) → Ex H0 o (asInts outs) H → outs.length ≤ 10000 → (vs.take (4 * k + 4)).drop (4 * k) = [a, b, c, d] → a < 64 → b < 64 → c < 64 → d < 64 →
      (∀ (ρ' : Loc) (H' : MHeap), ρ' 0 = some v0 → ρ' 1 = some (.lst o) → Ex H0 o (asInts (outs ++ [UInt8.ofNat (a * 4 + b / 16), UInt8.ofNat (b % 16 * 16 + c / 4), UInt8.ofNat (c % 4 * 64 + d)])) H' → K' .next ρ' H') → Wb (ρ.set 2 (.int ((4 * k : Nat) : Int))) K' H) :
    ∀ (n k : Nat) (outs : List UInt8) (ρ : Loc) (H : MHeap), vs.length = 4 * (k + n) → outs.length = 3 * k → ρ 0 = some v0 → ρ 1 = some (.lst o) → Ex H0 o (asInts outs) H →
      (∀ (ρ' : Loc) (H' : MHeap), ρ' 1 = some (.lst o) → Ex H0 o (asInts (outs ++ oct4 (vs.drop (4 * k)))) H' → K .next ρ' H') → loopW Wb 2 (fun _ => True) K (runItems ((4 * k : Nat) : Int) 4 n) ρ H := by
  intro n
  induction n with
  | zero =>
    intro k outs ρ H hl ho h0 h1 hE hK
    refine hK ρ H h1 ?_
    rw [show 4 * k = vs.length from by lia, List.drop_length]
    rw [show oct4 [] = [] from rfl, List.append_nil]; exact hE
  | succ n ih =>
    intro k outs ρ H hl ho h0 h1 hE hK
    obtain ⟨a, b, c, d, hd, ma, mb, mc, md⟩ := drop4 (vs := vs) (k := k) (by lia)
    rw [run_cons]
    have ht : (vs.take (4 * k + 4)).drop (4 * k) = [a, b, c, d] := by
      rw [List.drop_take, hd, show 4 * k + 4 - 4 * k = 4 from by lia]; rfl
    refine step ρ H outs k a b c d _ h0 h1 hE (by lia) ht (hv a ma) (hv b mb) (hv c mc) (hv d md) fun ρ' H' h0' h1' hE' => ⟨trivial, ?_⟩
    rw [show ((4 * k : Nat) : Int) + 4 = ((4 * (k + 1) : Nat) : Int) from by lia]
    refine ih (k + 1) _ ρ' H' (by lia) (by simp; lia) h0' h1' hE' fun ρ'' H'' h1'' hE'' => hK ρ'' H'' h1'' ?_
    rw [hd]
    rw [List.append_assoc] at hE''
    exact hE''

set_option maxHeartbeats 2000000 in
theorem c__law_octets (g : Pg G P) : DCall G 1 (.ref 180) w__law_octets := by
  refine den_cps (G := G) (fm := fm__law_octets) (d := 0) (selB false (tlB (selB false (tlB (bodyOf P 180))))) (db_cons (ds_assign (.tail _ (.tail _ (.tail _ (.head _)))) (de_bin (de_bin (de_var (.tail _ (.tail _ (.tail _ (.head _))))) de_int dop_mul) (de_var (.tail _ (.tail _ (.tail _ (.tail _ (.head _)))))) dop_add)) db_nil) fun W2s0 h2s0 e2s0 => ?_
  refine den_cps (G := G) (fm := fm__law_octets) (d := 0) (tlB (tlB (selB false (tlB (bodyOf P 180))))) (db_cons (ds_expr (de_extend (de_var (.tail _ (.head _))) (de_list (da_cons (de_bin (de_var (.tail _ (.tail _ (.tail _ (.head _))))) de_int dop_div) (da_cons (de_bin (de_bin (de_var (.tail _ (.tail _ (.tail _ (.head _))))) de_int dop_div) de_int dop_mod) (da_cons (de_bin (de_var (.tail _ (.tail _ (.tail _ (.head _))))) de_int dop_mod) da_nil)))))) db_nil) fun W1s2 h1s2 e1s2 => ?_
  refine den_cps (G := G) (fm := fm__law_octets) (d := 0) (tlB (selB false (tlB (bodyOf P 180)))) (db_cons (ds_for (.tail _ (.tail _ (.tail _ (.tail _ (.head _))))) (di_list (de_sliceRun (de_var (.head _)) (de_var (.tail _ (.tail _ (.head _)))) (de_bin (de_var (.tail _ (.tail _ (.head _)))) de_int dop_add)))
    h2s0) h1s2) fun W1s1 h1s1 e1s1 => ?_
  refine den_cps (G := G) (fm := fm__law_octets) (d := 0) (selB false (tlB (bodyOf P 180))) (db_cons (ds_assign (.tail _ (.tail _ (.tail _ (.head _)))) de_int) h1s1) fun W1s0 h1s0 e1s0 => ?_
  refine den_cps (G := G) (fm := fm__law_octets) (d := 0) (tlB (tlB (bodyOf P 180))) (db_cons (ds_return (de_callT (.tail _ (.tail _ (.head _))) (gt_bytes g) (da_cons (de_var (.tail _ (.head _))) da_nil) dcall_bytes)) db_nil) fun W0s2 h0s2 e0s2 => ?_
  refine den_cps (G := G) (fm := fm__law_octets) (d := 0) (tlB (bodyOf P 180)) (db_cons (ds_for (.tail _ (.tail _ (.head _))) (di_range (.head _) (gt_range g) (da_cons de_int (da_cons (de_callB (.tail _ (.head _)) (gb_len g) (da_cons (de_var (.head _)) da_nil) dcall_len) (da_cons de_int da_nil))))
    h1s0) h0s2) fun W0s1 h0s1 e0s1 => ?_
  refine den_cps (G := G) (fm := fm__law_octets) (d := 0) (bodyOf P 180) (db_cons (ds_assign (.tail _ (.head _)) (de_list da_nil)) h0s1) fun W0s0 h0s0 e0s0 => ?_
  refine DCallK.plain (dcall_def (fm := fm__law_octets) (d := 0) (body := bodyOf P 180) (ps := ps__law_octets) g.ok (g.kin _ _ o__law_octets) f__law_octets b__law_octets (codeRec_of g.kin cd__law_octets) (by kernel_rfl) (by kernel_rfl) (by kernel_rfl) s__law_octets nc__law_octets (by decide) (by decide) (dbind_pos bi__law_octets)
    h0s0) ?_
  intro ms Q H w
  cases ms with
  | nil => exact w.elim
  | cons m ms =>
  cases m <;> first | exact w.elim | skip
  cases ms with
  | cons _ _ => exact w.elim
  | nil =>
  · rename_i a
    obtain ⟨vs, n, hH, hl, hn, hv, q⟩ := w
    refine ⟨_, rfl, ?_⟩
    rw [e0s0]
    simp only [ps__law_octets, sx_then_next, sx_then_ret, sx_then_brk, sx_then_cont, sx_boolof, sx_set, sx_loc, sx_clear, sx_add_i, sx_add_b, sx_add_l, sx_sub, sx_mul_i, sx_mul_l, sx_mul_b, sx_div, sx_mod, sx_pow, sx_shl, sx_shr, sx_and, sx_or, sx_iadd, sx_eq_i, sx_eq_b, sx_eq_t, sx_eq_l, sx_ne_i, sx_ne_b, sx_ne_t, sx_lt_i, sx_lt_t, sx_le, sx_gt, sx_ge, sx_is, sx_isn, sx_tr_b, sx_tr_i, sx_tr_l, sx_neg, sx_it_l, sx_it_t, sx_it_b, sx_len_l, sx_len_b, sx_ty_b, sx_ty_p, sx_by, sx_app, sx_ext, sx_pop, sx_cnt, sx_pair, sx_tail, sx_mt_l, sx_mt_b, sx_nr0, sx_ib, sx_il, sx_ir1, sx_ir3, sx_irev, sx_ien, sx_mk, sx_trn, sx_resub, sx_isi1, sx_isi2, sx_sum, sx_min, sx_sorted, sx_si, sx_sl, sx_slr, sx_mis1, sx_mis2, sx_mis3, sx_mis4, String.reduceBEq, String.reduceEq, List.map_cons, List.map_nil, List.zip_cons_cons, List.zip_nil_right, List.lookup_cons, List.lookup_nil, List.any_cons, List.any_nil, Nat.reduceEqDiff, Nat.reduceBEq, beq_self_eq_true, Option.some.injEq, exists_eq_left', exists_eq_left, reduceCtorEq, ite_true, ite_false, if_true, if_false, ↓reduceIte, Bool.false_eq_true, decide_eq_true_eq, true_and, and_true, Bool.not_true, Bool.not_false, Bool.or_false, Bool.false_or, MHeap.set_self, exists_eq', List.length_cons, List.length_nil, Nat.zero_add, Nat.reduceAdd, Nat.reduceLeDiff]
    intro o ho
    rw [e0s1]
    have hao : a ≠ o := fun e => by rw [e, ho] at hH; cases hH
    simp only [MHeap.set_ne _ _ hao, hH, sx_then_next, sx_then_ret, sx_then_brk, sx_then_cont, sx_boolof, sx_set, sx_loc, sx_clear, sx_add_i, sx_add_b, sx_add_l, sx_sub, sx_mul_i, sx_mul_l, sx_mul_b, sx_div, sx_mod, sx_pow, sx_shl, sx_shr, sx_and, sx_or, sx_iadd, sx_eq_i, sx_eq_b, sx_eq_t, sx_eq_l, sx_ne_i, sx_ne_b, sx_ne_t, sx_lt_i, sx_lt_t, sx_le, sx_gt, sx_ge, sx_is, sx_isn, sx_tr_b, sx_tr_i, sx_tr_l, sx_neg, sx_it_l, sx_it_t, sx_it_b, sx_len_l, sx_len_b, sx_ty_b, sx_ty_p, sx_by, sx_app, sx_ext, sx_pop, sx_cnt, sx_pair, sx_tail, sx_mt_l, sx_mt_b, sx_nr0, sx_ib, sx_il, sx_ir1, sx_ir3, sx_irev, sx_ien, sx_mk, sx_trn, sx_resub, sx_isi1, sx_isi2, sx_sum, sx_min, sx_sorted, sx_si, sx_sl, sx_slr, sx_mis1, sx_mis2, sx_mis3, sx_mis4, String.reduceBEq, String.reduceEq, List.map_cons, List.map_nil, List.zip_cons_cons, List.zip_nil_right, List.lookup_cons, List.lookup_nil, List.any_cons, List.any_nil, Nat.reduceEqDiff, Nat.reduceBEq, beq_self_eq_true, Option.some.injEq, exists_eq_left', exists_eq_left, reduceCtorEq, ite_true, ite_false, if_true, if_false, ↓reduceIte, Bool.false_eq_true, decide_eq_true_eq, true_and, and_true, Bool.not_true, Bool.not_false, Bool.or_false, Bool.false_or, MHeap.set_self, exists_eq', List.length_cons, List.length_nil, Nat.zero_add, Nat.reduceAdd, Nat.reduceLeDiff]
    have hlen : (natInts vs).length = vs.length := by simp [natInts]
    rw [hlen]
    refine ⟨by lia, by lia, ?_⟩
    rw [show (((vs.length : Nat) : Int) + 3) / 4 = ((n : Nat) : Int) from by lia, Int.toNat_natCast]
    refine loop_octets (o := o) (H0 := H) (vs := vs) (v0 := .lst a) hv (by lia) ?_ n 0 [] _ _ (by lia) rfl rfl rfl ⟨sub_set ho, by rw [MHeap.set_self]; rfl⟩ ?_
    · intro ρ H' outs k x y z t K' h0 h1 hE hz ht hx hy hz' ht' hK
      have hHa := hE.sub a _ hH
      rw [e1s0, e1s1]
      simp only [h0, hHa, sx_then_next, sx_then_ret, sx_then_brk, sx_then_cont, sx_boolof, sx_set, sx_loc, sx_clear, sx_add_i, sx_add_b, sx_add_l, sx_sub, sx_mul_i, sx_mul_l, sx_mul_b, sx_div, sx_mod, sx_pow, sx_shl, sx_shr, sx_and, sx_or, sx_iadd, sx_eq_i, sx_eq_b, sx_eq_t, sx_eq_l, sx_ne_i, sx_ne_b, sx_ne_t, sx_lt_i, sx_lt_t, sx_le, sx_gt, sx_ge, sx_is, sx_isn, sx_tr_b, sx_tr_i, sx_tr_l, sx_neg, sx_it_l, sx_it_t, sx_it_b, sx_len_l, sx_len_b, sx_ty_b, sx_ty_p, sx_by, sx_app, sx_ext, sx_pop, sx_cnt, sx_pair, sx_tail, sx_mt_l, sx_mt_b, sx_nr0, sx_ib, sx_il, sx_ir1, sx_ir3, sx_irev, sx_ien, sx_mk, sx_trn, sx_resub, sx_isi1, sx_isi2, sx_sum, sx_min, sx_sorted, sx_si, sx_sl, sx_slr, sx_mis1, sx_mis2, sx_mis3, sx_mis4, String.reduceBEq, String.reduceEq, List.map_cons, List.map_nil, List.zip_cons_cons, List.zip_nil_right, List.lookup_cons, List.lookup_nil, List.any_cons, List.any_nil, Nat.reduceEqDiff, Nat.reduceBEq, beq_self_eq_true, Option.some.injEq, exists_eq_left', exists_eq_left, reduceCtorEq, ite_true, ite_false, if_true, if_false, ↓reduceIte, Bool.false_eq_true, decide_eq_true_eq, true_and, and_true, Bool.not_true, Bool.not_false, Bool.or_false, Bool.false_or, MHeap.set_self, exists_eq', List.length_cons, List.length_nil, Nat.zero_add, Nat.reduceAdd, Nat.reduceLeDiff]
      refine ⟨4 * k, 4 * k + 4, rfl, by congr 1, by rw [hlen]; lia, fun c hc => ?_⟩
      have hsl : List.drop (4 * k) (List.take (4 * k + 4) (natInts vs)) = [.int (x : Nat), .int (y : Nat), .int (z : Nat), .int (t : Nat)] := by
        unfold natInts
        rw [← List.map_take, ← List.map_drop, ht]; rfl
      have hac : a ≠ c := fun e => by rw [← e, hHa] at hc; cases hc
      have hoc : o ≠ c := fun e => by rw [← e, hE.at_] at hc; cases hc
      rw [hsl]
      have one : ∀ (ρ' : Loc) (N v : Int) (H2 : MHeap) (K2 : MFlow → Loc → MHeap → Prop), ρ' 3 = some (.int N) → K2 .next ((ρ'.set 4 (.int v)).set 3 (.int (N * 64 + v))) H2 → W2s0 (ρ'.set 4 (.int v)) K2 H2 := by
        intro ρ' N v H2 K2 h3 hK2
        rw [e2s0]
        simp only [h3, sx_then_next, sx_then_ret, sx_then_brk, sx_then_cont, sx_boolof, sx_set, sx_loc, sx_clear, sx_add_i, sx_add_b, sx_add_l, sx_sub, sx_mul_i, sx_mul_l, sx_mul_b, sx_div, sx_mod, sx_pow, sx_shl, sx_shr, sx_and, sx_or, sx_iadd, sx_eq_i, sx_eq_b, sx_eq_t, sx_eq_l, sx_ne_i, sx_ne_b, sx_ne_t, sx_lt_i, sx_lt_t, sx_le, sx_gt, sx_ge, sx_is, sx_isn, sx_tr_b, sx_tr_i, sx_tr_l, sx_neg, sx_it_l, sx_it_t, sx_it_b, sx_len_l, sx_len_b, sx_ty_b, sx_ty_p, sx_by, sx_app, sx_ext, sx_pop, sx_cnt, sx_pair, sx_tail, sx_mt_l, sx_mt_b, sx_nr0, sx_ib, sx_il, sx_ir1, sx_ir3, sx_irev, sx_ien, sx_mk, sx_trn, sx_resub, sx_isi1, sx_isi2, sx_sum, sx_min, sx_sorted, sx_si, sx_sl, sx_slr, sx_mis1, sx_mis2, sx_mis3, sx_mis4, String.reduceBEq, String.reduceEq, List.map_cons, List.map_nil, List.zip_cons_cons, List.zip_nil_right, List.lookup_cons, List.lookup_nil, List.any_cons, List.any_nil, Nat.reduceEqDiff, Nat.reduceBEq, beq_self_eq_true, Option.some.injEq, exists_eq_left', exists_eq_left, reduceCtorEq, ite_true, ite_false, if_true, if_false, ↓reduceIte, Bool.false_eq_true, decide_eq_true_eq, true_and, and_true, Bool.not_true, Bool.not_false, Bool.or_false, Bool.false_or, MHeap.set_self, exists_eq', List.length_cons, List.length_nil, Nat.zero_add, Nat.reduceAdd, Nat.reduceLeDiff]
        exact ⟨by decide, hK2⟩
      show W2s0 _ _ _
      refine one _ 0 _ _ _ rfl ⟨MHeap.set_self _ _ _, ?_⟩
      show W2s0 _ _ _
      refine one _ _ _ _ _ rfl ⟨MHeap.set_self _ _ _, ?_⟩
      show W2s0 _ _ _
      refine one _ _ _ _ _ rfl ⟨MHeap.set_self _ _ _, ?_⟩
      show W2s0 _ _ _
      refine one _ _ _ _ _ rfl ⟨MHeap.set_self _ _ _, ?_⟩
      show W1s2 _ _ _
      clear one
      rw [e1s2]
      simp only [h1, MHeap.set_ne _ _ hoc, hE.at_, sx_then_next, sx_then_ret, sx_then_brk, sx_then_cont, sx_boolof, sx_set, sx_loc, sx_clear, sx_add_i, sx_add_b, sx_add_l, sx_sub, sx_mul_i, sx_mul_l, sx_mul_b, sx_div, sx_mod, sx_pow, sx_shl, sx_shr, sx_and, sx_or, sx_iadd, sx_eq_i, sx_eq_b, sx_eq_t, sx_eq_l, sx_ne_i, sx_ne_b, sx_ne_t, sx_lt_i, sx_lt_t, sx_le, sx_gt, sx_ge, sx_is, sx_isn, sx_tr_b, sx_tr_i, sx_tr_l, sx_neg, sx_it_l, sx_it_t, sx_it_b, sx_len_l, sx_len_b, sx_ty_b, sx_ty_p, sx_by, sx_app, sx_ext, sx_pop, sx_cnt, sx_pair, sx_tail, sx_mt_l, sx_mt_b, sx_nr0, sx_ib, sx_il, sx_ir1, sx_ir3, sx_irev, sx_ien, sx_mk, sx_trn, sx_resub, sx_isi1, sx_isi2, sx_sum, sx_min, sx_sorted, sx_si, sx_sl, sx_slr, sx_mis1, sx_mis2, sx_mis3, sx_mis4, String.reduceBEq, String.reduceEq, List.map_cons, List.map_nil, List.zip_cons_cons, List.zip_nil_right, List.lookup_cons, List.lookup_nil, List.any_cons, List.any_nil, Nat.reduceEqDiff, Nat.reduceBEq, beq_self_eq_true, Option.some.injEq, exists_eq_left', exists_eq_left, reduceCtorEq, ite_true, ite_false, if_true, if_false, ↓reduceIte, Bool.false_eq_true, decide_eq_true_eq, true_and, and_true, Bool.not_true, Bool.not_false, Bool.or_false, Bool.false_or, MHeap.set_self, exists_eq', List.length_cons, List.length_nil, Nat.zero_add, Nat.reduceAdd, Nat.reduceLeDiff]
      have e1 : (((0 : Int) * 64 + ((x : Nat) : Int)) * 64 + ((y : Nat) : Int)) * 64 + ((z : Nat) : Int) = (((x * 64 + y) * 64 + z : Nat) : Int) := by lia
      have e2 : ((((0 : Int) * 64 + ((x : Nat) : Int)) * 64 + ((y : Nat) : Int)) * 64 + ((z : Nat) : Int)) * 64 + ((t : Nat) : Int) = ((((x * 64 + y) * 64 + z) * 64 + t : Nat) : Int) := by lia
      rw [e2]
      have f1 : (((((x * 64 + y) * 64 + z) * 64 + t : Nat) : Int)).fdiv 65536 = ((x * 4 + y / 16 : Nat) : Int) := by
        rw [show (65536 : Int) = ((65536 : Nat) : Int) from rfl, fdiv_nat]; lia
      have f2 : ((((((x * 64 + y) * 64 + z) * 64 + t : Nat) : Int)).fdiv 256).fmod 256 = ((y % 16 * 16 + z / 4 : Nat) : Int) := by
        rw [show (256 : Int) = ((256 : Nat) : Int) from rfl, fdiv_nat, fmod_nat]; lia
      have f3 : (((((x * 64 + y) * 64 + z) * 64 + t : Nat) : Int)).fmod 256 = ((z % 4 * 64 + t : Nat) : Int) := by
        rw [show (256 : Int) = ((256 : Nat) : Int) from rfl, fmod_nat]; omega
      rw [f1, f2, f3]
      refine ⟨by decide, by decide, by decide, by decide, fun e he => ?_⟩
      have hoe : o ≠ e := fun z => by rw [← z, MHeap.set_ne _ _ hoc, hE.at_] at he; cases he
      have hce : c ≠ e := fun z => by rw [← z, MHeap.set_self] at he; cases he
      have heH : H' e = none := by rw [MHeap.set_ne _ _ (Ne.symm hce)] at he; exact he
      refine ⟨asInts outs, by rw [MHeap.set_ne _ _ hoe, MHeap.set_ne _ _ hoc]; exact hE.at_, hoe, by simp [asInts]; lia, ?_⟩
      refine hK _ _ h0 h1 ⟨fun b ys hb => ?_, ?_⟩
      · have hb' := hE.sub b ys hb
        have hbo : b ≠ o := fun z => by rw [z, ho] at hb; cases hb
        have hbc : b ≠ c := fun z => by rw [z, hc] at hb'; cases hb'
        have hbe : b ≠ e := fun z => by rw [z, heH] at hb'; cases hb'
        rw [MHeap.set_ne _ _ hbo, MHeap.set_ne _ _ hbe, MHeap.set_ne _ _ hbc]; exact hb'
      · rw [MHeap.set_self]
        unfold asInts
        rw [List.map_append]
        have g1 : (UInt8.ofNat (x * 4 + y / 16)).toNat = x * 4 + y / 16 := by simp; lia
        have g2 : (UInt8.ofNat (y % 16 * 16 + z / 4)).toNat = y % 16 * 16 + z / 4 := by simp; lia
        have g3 : (UInt8.ofNat (z % 4 * 64 + t)).toNat = z % 4 * 64 + t := by simp; lia
        simp only [List.map_cons, List.map_nil, g1, g2, g3]
    · intro ρ' H' h1 hE
      rw [sx_then_next, e0s2]
      simp only [h1, hE.at_, sx_then_next, sx_then_ret, sx_then_brk, sx_then_cont, sx_boolof, sx_set, sx_loc, sx_clear, sx_add_i, sx_add_b, sx_add_l, sx_sub, sx_mul_i, sx_mul_l, sx_mul_b, sx_div, sx_mod, sx_pow, sx_shl, sx_shr, sx_and, sx_or, sx_iadd, sx_eq_i, sx_eq_b, sx_eq_t, sx_eq_l, sx_ne_i, sx_ne_b, sx_ne_t, sx_lt_i, sx_lt_t, sx_le, sx_gt, sx_ge, sx_is, sx_isn, sx_tr_b, sx_tr_i, sx_tr_l, sx_neg, sx_it_l, sx_it_t, sx_it_b, sx_len_l, sx_len_b, sx_ty_b, sx_ty_p, sx_by, sx_app, sx_ext, sx_pop, sx_cnt, sx_pair, sx_tail, sx_mt_l, sx_mt_b, sx_nr0, sx_ib, sx_il, sx_ir1, sx_ir3, sx_irev, sx_ien, sx_mk, sx_trn, sx_resub, sx_isi1, sx_isi2, sx_sum, sx_min, sx_sorted, sx_si, sx_sl, sx_slr, sx_mis1, sx_mis2, sx_mis3, sx_mis4, String.reduceBEq, String.reduceEq, List.map_cons, List.map_nil, List.zip_cons_cons, List.zip_nil_right, List.lookup_cons, List.lookup_nil, List.any_cons, List.any_nil, Nat.reduceEqDiff, Nat.reduceBEq, beq_self_eq_true, Option.some.injEq, exists_eq_left', exists_eq_left, reduceCtorEq, ite_true, ite_false, if_true, if_false, ↓reduceIte, Bool.false_eq_true, decide_eq_true_eq, true_and, and_true, Bool.not_true, Bool.not_false, Bool.or_false, Bool.false_or, MHeap.set_self, exists_eq', List.length_cons, List.length_nil, Nat.zero_add, Nat.reduceAdd, Nat.reduceLeDiff]
      have ho3 := oct4_len n vs hl
      refine by_ok (X := fun v => Back Q (.ret v) ρ' H') (by simp; lia) (back_ret hE.sub ?_)
      simpa using q

end
end Mine
end
-- part MP6
section
open PySem PySem.W PyProof.Rows PySem.SeqAt
set_option maxRecDepth 100000
set_option linter.unusedSimpArgs false
set_option linter.unusedVariables false
namespace Mine
section
variable {G : Gd} {P : Params} {d : Nat} {fm : Fm}

-- _law_grown
def tsInts (ts : Nat → Nat) : List MV := [.int (ts 0 : Nat), .int (ts 1 : Nat), .int (ts 2 : Nat), .int (ts 3 : Nat)]
def w__law_grown : List MV → (MV → MHeap → Prop) → MHeap → Prop
  | [.lst a, .lst b], Q, H => ∃ (L : List Nat) (ts : Nat → Nat), H a = some (natInts L) ∧ H b = some (tsInts ts) ∧ a ≠ b ∧ L.length ≤ 100 ∧ tsum ts ≤ 100 ∧ (∀ v ∈ L, v < 64) ∧ ∀ c, H c = none → Q (.lst c) (H.set c (natInts (curV L ts)))
  | _, _, _ => False

def prevOf (L : List Nat) (k : Nat) : Option Nat := if k = 0 then none else L[k - 1]?
structure GI (a b gr hd : Addr) (H0 : MHeap) (ts : Nat → Nat) (ρ : Loc) (H : MHeap) (acc : List Nat) (hs : Nat → Nat) : Prop where
  r0 : ρ 0 = some (.lst a)
  r1 : ρ 1 = some (.lst b)
  r2 : ρ 2 = some (.lst gr)
  r3 : ρ 3 = some (.lst hd)
  sub : Sub H0 H
  gr_ : H gr = some (natInts acc)
  hd_ : H hd = some (tsInts hs)
def hs' (hs : Nat → Nat) (prev : Option Nat) (x : Nat) : Nat → Nat := fun m => hs m + if isHead m prev x then 1 else 0

theorem loop_grown {a b gr hd : Addr} {H0 : MHeap} {ts : Nat → Nat} {L : List Nat} {Wb : WS} {K : MFlow → Loc → MHeap → Prop}
    (step : ∀ (ρ : Loc) (H : MHeap) (acc : List Nat) (hs : Nat → Nat) (k x : Nat) K', GI a b gr hd H0 ts ρ H acc hs → L[k]? = some x → acc.length ≤ 50000 → (∀ m, m < 4 → hs m ≤ 100) → (∀ (ρ' : Loc) (H' : MHeap), GI a b gr hd H0 ts ρ' H' (acc ++ (List.replicate (rep ts (prevOf L k) x) x ++ [x])) (hs' hs (prevOf L k) x) → K' .next ρ' H') → Wb (ρ.set 4 (.int (k : Nat))) K' H) (hz : (grow ts none L).length ≤ 50000) (hl : L.length ≤ 100) :
    ∀ (n k : Nat) (acc : List Nat) (hs : Nat → Nat) (ρ : Loc) (H : MHeap), k + n = L.length → GI a b gr hd H0 ts ρ H acc hs → acc ++ grow ts (prevOf L k) (L.drop k) = grow ts none L → (∀ m, hs m + heads m (prevOf L k) (L.drop k) = heads m none L) →
      (∀ (ρ' : Loc) (H' : MHeap) (hs : Nat → Nat), GI a b gr hd H0 ts ρ' H' (grow ts none L) hs → (∀ m, hs m = heads m none L) → K .next ρ' H') → loopW Wb 4 (fun _ => True) K (runItems (k : Nat) 1 n) ρ H := by
  intro n
  induction n with
  | zero =>
    intro k acc hs ρ H hk hG hacc hhs hK
    have hd0 : L.drop k = [] := by rw [show k = L.length from by lia, List.drop_length]
    rw [hd0] at hacc hhs
    refine hK ρ H hs ?_ fun m => ?_
    · have : acc = grow ts none L := by simpa [grow] using hacc
      rw [← this]; exact hG
    · have := hhs m
      simpa [heads] using this
  | succ n ih =>
    intro k acc hs ρ H hk hG hacc hhs hK
    have hlt : k < L.length := by lia
    have hd1 : L.drop k = L[k] :: L.drop (k + 1) := List.drop_eq_getElem_cons hlt
    have hp : prevOf L (k + 1) = some L[k] := by unfold prevOf; rw [if_neg (by lia), Nat.add_sub_cancel, List.getElem?_eq_getElem hlt]
    rw [run_cons]
    rw [hd1] at hacc hhs
    refine step ρ H acc hs k L[k] _ hG (List.getElem?_eq_getElem hlt) ?_ ?_ fun ρ' H' hG' => ⟨trivial, ?_⟩
    · have := congrArg List.length hacc
      rw [List.length_append] at this; lia
    · intro m _
      have h1 := hhs m
      have h2 := heads_le m L none
      lia
    · rw [show ((k : Nat) : Int) + 1 = ((k + 1 : Nat) : Int) from by lia]
      refine ih (k + 1) _ _ ρ' H' (by lia) hG' ?_ (fun m => ?_) hK
      · rw [hp, ← hacc]
        show _ = acc ++ (List.replicate (rep ts (prevOf L k) L[k]) L[k] ++ L[k] :: grow ts (some L[k]) (L.drop (k + 1)))
        simp
      · rw [hp, ← hhs m]
        show hs m + (if isHead m (prevOf L k) L[k] = true then 1 else 0) + _ = hs m + ((if isHead m (prevOf L k) L[k] = true then 1 else 0) + heads m (some L[k]) (L.drop (k + 1)))
        lia

theorem ts_get (ts : Nat → Nat) {j : Nat} (hj : j < 4) : (tsInts ts)[j]? = some (.int (ts j : Nat)) := by
  rcases (show j = 0 ∨ j = 1 ∨ j = 2 ∨ j = 3 by lia) with rfl | rfl | rfl | rfl <;> rfl
theorem ts_set (ts : Nat → Nat) {j : Nat} (hj : j < 4) (v : Nat) : (tsInts ts).set j (.int (v : Nat)) = tsInts (fun m => if m = j then v else ts m) := by
  rcases (show j = 0 ∨ j = 1 ∨ j = 2 ∨ j = 3 by lia) with rfl | rfl | rfl | rfl <;> rfl

/-- [x] * turns[j] goes onto grown, and heads[j] += 1 -/
theorem blk {b gr hd : Addr} {H1 : MHeap} {ts hs : Nat → Nat} {acc : List Nat} {x j : Nat} {q : Int} {K2 : MHeap → Prop} (hq : q = (j : Nat)) (hj : j < 4) (hb : H1 b = some (tsInts ts)) (hg : H1 gr = some (natInts acc)) (hh : H1 hd = some (tsInts hs)) (hbg : b ≠ gr) (hbh : b ≠ hd) (hne : gr ≠ hd) (hz : acc.length ≤ 60000) (hts : ts j ≤ 100)
    (hK : ∀ H4, (∀ z ys, H1 z = some ys → z ≠ gr → z ≠ hd → H4 z = some ys) → H4 gr = some (natInts (acc ++ List.replicate (ts j) x)) → H4 hd = some (tsInts (fun m => if m = j then hs j + 1 else hs m)) → K2 H4) :
    ∀ c, H1 c = none → ∃ xs, (H1.set c [MV.int (x : Nat)]) b = some xs ∧ (0 ≤ q ∧ q < 1000000) ∧ ∃ x_1, xs[q.toNat]? = some x_1 ∧
      wMul (.lst c) x_1 (fun v H₂ => wExtend [.lst gr, v] (fun v H₁ => notRef v ∧ ∃ a k xs y, MV.lst hd = MV.lst a ∧ MV.int q = MV.int k ∧ H₁ a = some xs ∧ (0 ≤ k ∧ k < 1000000) ∧ xs[k.toNat]? = some y ∧
        wIAdd y (.int 1) (fun r H₄ => wSetItem (.lst hd) (.int q) r K2 H₄) H₁) H₂) (H1.set c [MV.int (x : Nat)]) := by
  subst hq
  intro c hc
  have hbc : b ≠ c := fun e => by rw [e, hc] at hb; cases hb
  have hgc : gr ≠ c := fun e => by rw [e, hc] at hg; cases hg
  have hhc : hd ≠ c := fun e => by rw [e, hc] at hh; cases hh
  refine ⟨tsInts ts, by rw [MHeap.set_ne _ _ hbc]; exact hb, by lia, .int (ts j : Nat), by rw [Int.toNat_natCast]; exact ts_get ts hj, ?_⟩
  rw [sx_mul_l]
  refine ⟨.int (x : Nat), MHeap.set_self _ _ _, by lia, fun k hk => ?_⟩
  have hgk : gr ≠ k := fun e => by rw [← e, MHeap.set_ne _ _ hgc, hg] at hk; cases hk
  have hhk : hd ≠ k := fun e => by rw [← e, MHeap.set_ne _ _ hhc, hh] at hk; cases hk
  have hck : c ≠ k := fun e => by rw [← e, MHeap.set_self] at hk; cases hk
  have hkH : H1 k = none := by rw [MHeap.set_ne _ _ (Ne.symm hck)] at hk; exact hk
  rw [sx_ext]
  refine ⟨natInts acc, by rw [MHeap.set_ne _ _ hgk, MHeap.set_ne _ _ hgc]; exact hg, _, MHeap.set_self _ _ _, hgk, by simp [natInts]; lia, trivial, hd, (j : Nat), tsInts hs, .int (hs j : Nat), rfl, rfl, ?_, by lia, by rw [Int.toNat_natCast]; exact ts_get hs hj, ?_⟩
  · rw [MHeap.set_ne _ _ (Ne.symm hne), MHeap.set_ne _ _ hhk, MHeap.set_ne _ _ hhc]; exact hh
  · rw [sx_iadd, sx_si]
    refine ⟨tsInts hs, ?_, ⟨by lia, by show ((j : Nat) : Int) < ((4 : Nat) : Int); lia, by lia⟩, ?_⟩
    · rw [MHeap.set_ne _ _ (Ne.symm hne), MHeap.set_ne _ _ hhk, MHeap.set_ne _ _ hhc]; exact hh
    · refine hK _ (fun z ys hz' h1 h2 => ?_) ?_ ?_
      · have hzc : z ≠ c := fun e => by rw [e, hc] at hz'; cases hz'
        have hzk : z ≠ k := fun e => by rw [e, hkH] at hz'; cases hz'
        rw [MHeap.set_ne _ _ h2, MHeap.set_ne _ _ h1, MHeap.set_ne _ _ hzk, MHeap.set_ne _ _ hzc]; exact hz'
      · rw [MHeap.set_ne _ _ hne, MHeap.set_self]
        simp [natInts]
      · rw [MHeap.set_self, Int.toNat_natCast, show ((hs j : Nat) : Int) + 1 = ((hs j + 1 : Nat) : Int) from by lia, ts_set hs hj]

def hd1 (prev : Option Nat) (x : Nat) : Bool := decide (62 ≤ x) && isHead (x - 62) prev x
def hd2 (prev : Option Nat) (x : Nat) : Bool := decide (62 ≤ x) && isHead (x - 60) prev x
def bmp (c : Bool) (j : Nat) (hs : Nat → Nat) : Nat → Nat := fun m => if c && m == j then hs j + 1 else hs m
theorem hd_lo {prev : Option Nat} {x : Nat} (h : x < 62) : hd1 prev x = false ∧ hd2 prev x = false := by
  unfold hd1 hd2
  rw [decide_eq_false (by omega)]
  exact ⟨rfl, rfl⟩
theorem x_two {x : Nat} (h : ¬ x < 62) (h' : x < 64) : x = 62 ∨ x = 63 := by omega
theorem hd_none {x : Nat} (h : ¬ x < 62) (h' : x < 64) : hd1 none x = true ∧ hd2 none x = true := by
  rcases x_two h h' with rfl | rfl <;> exact ⟨rfl, rfl⟩
theorem hd_some {x : Nat} (y : Nat) (h : ¬ x < 62) (h' : x < 64) : hd1 (some y) x = (y == 125 - x) ∧ hd2 (some y) x = false := by
  rcases x_two h h' with rfl | rfl <;> exact ⟨rfl, rfl⟩
theorem head_ne {m x : Nat} {prev : Option Nat} (hm : m < 4) (h : (x == dotV m) = false) : isHead m prev x = false := by
  rw [head_iff hm, h]; rfl
theorem head_lo {m x : Nat} {prev : Option Nat} (hm : m < 4) (h : x < 62) : isHead m prev x = false :=
  head_ne hm (by unfold dotV; exact beq_false_of_ne (by omega))
theorem rep_two (ts : Nat → Nat) (prev : Option Nat) {x : Nat} (hx : x < 64) : rep ts prev x = (if hd1 prev x then ts (x - 62) else 0) + (if hd2 prev x then ts (x - 60) else 0) := by
  unfold rep
  by_cases h : x < 62
  · rw [head_lo (by decide) h, head_lo (by decide) h, head_lo (by decide) h, head_lo (by decide) h, (hd_lo h).1, (hd_lo h).2]; rfl
  · rcases x_two h hx with rfl | rfl
    · rw [head_ne (m := 1) (by decide) rfl, head_ne (m := 3) (by decide) rfl]; rfl
    · rw [head_ne (m := 0) (by decide) rfl, head_ne (m := 2) (by decide) rfl]
      show 0 + (if isHead 1 prev 63 = true then ts 1 else 0) + 0 + (if isHead 3 prev 63 = true then ts 3 else 0) = (if isHead 1 prev 63 = true then ts 1 else 0) + (if isHead 3 prev 63 = true then ts 3 else 0)
      rw [Nat.zero_add]; rfl
theorem hs_two (hs : Nat → Nat) (prev : Option Nat) {x : Nat} (hx : x < 64) : tsInts (bmp (hd2 prev x) (x - 60) (bmp (hd1 prev x) (x - 62) hs)) = tsInts (hs' hs prev x) := by
  unfold tsInts hs'
  by_cases h : x < 62
  · rw [head_lo (by decide) h, head_lo (by decide) h, head_lo (by decide) h, head_lo (by decide) h, (hd_lo h).1, (hd_lo h).2]; rfl
  · rcases x_two h hx with rfl | rfl
    · rw [head_ne (m := 1) (by decide) rfl, head_ne (m := 3) (by decide) rfl]
      show tsInts (bmp (isHead 2 prev 62) 2 (bmp (isHead 0 prev 62) 0 hs)) = _
      cases isHead 2 prev 62 <;> cases isHead 0 prev 62 <;> rfl
    · rw [head_ne (m := 0) (by decide) rfl, head_ne (m := 2) (by decide) rfl]
      show tsInts (bmp (isHead 3 prev 63) 3 (bmp (isHead 1 prev 63) 1 hs)) = _
      cases isHead 3 prev 63 <;> cases isHead 1 prev 63 <;> rfl
/-- the names, in the loop -/
structure GL (ρ : Loc) (a b gr hd : Addr) (k : Nat) : Prop where
  r0 : ρ 0 = some (.lst a)
  r1 : ρ 1 = some (.lst b)
  r2 : ρ 2 = some (.lst gr)
  r3 : ρ 3 = some (.lst hd)
  r4 : ρ 4 = some (.int (k : Nat))

theorem comp_pads {acc b hd : Addr} {ts hs : Nat → Nat} {Qf : MHeap → Prop} {H1 : MHeap} (hb : H1 b = some (tsInts ts)) (hh : H1 hd = some (tsInts hs)) (hc : H1 acc = none) : ∀ (js : List Nat) (ys : List MV) (ρ : Loc), (∀ j ∈ js, j < 4) → ρ 1 = some (.lst b) → ρ 3 = some (.lst hd) → ys.length + js.length ≤ 100 →
    Qf (H1.set acc (ys ++ js.map fun j => .int (ts j * padOf (hs j) : Nat))) →
    compW (fun x Q H => Q true H) (fun ρ Q H => ∃ v, ρ 1 = some v ∧ ∃ v_1, ρ 100 = some v_1 ∧ wItem v v_1 (fun a H₁ => ∃ v, ρ 3 = some v ∧ ∃ v_2, ρ 100 = some v_2 ∧ wItem v v_2 (fun v H₁ => wNeg v (fun a_1 H₁ => wMod a_1 (MV.int 4) (fun b H₂ => wMul a b Q H₂) H₁) H₁) H₁) H)
      (bind1 100) (fun _ => True) acc Qf (js.map fun j => .int (j : Nat)) ρ (H1.set acc ys)
  | [], ys, ρ, _, r1, r3, hl, hQ => by
    rw [List.map_nil, List.append_nil] at hQ
    exact hQ
  | j :: js, ys, ρ, hj, r1, r3, hl, hQ => by
    have nb : b ≠ acc := fun e => by rw [e, hc] at hb; cases hb
    have nh : hd ≠ acc := fun e => by rw [e, hc] at hh; cases hh
    refine ⟨ρ.set 100 (.int (j : Nat)), rfl, ?_⟩
    refine ⟨.lst b, r1, .int (j : Nat), rfl, ?_⟩
    rw [sx_it_l]
    refine ⟨_, (MHeap.set_ne _ _ nb).trans hb, by have := hj j (.head _); lia, _, ts_get ts (hj j (.head _)), .lst hd, r3, .int (j : Nat), rfl, ?_⟩
    rw [sx_it_l]
    refine ⟨_, (MHeap.set_ne _ _ nh).trans hh, by have := hj j (.head _); lia, _, ts_get hs (hj j (.head _)), by decide, ?_⟩
    have hpd : Int.fmod (-((hs j : Nat) : Int)) 4 = ((padOf (hs j) : Nat) : Int) := by
      rw [Int.fmod_eq_emod_of_nonneg _ (by decide)]
      unfold padOf
      lia
    have hp := pad_lt (hs j)
    show wMul (.int (ts j : Nat)) (.int (Int.fmod (-((hs j : Nat) : Int)) 4)) _ _
    rw [hpd, sx_mul_i]
    simp at hl
    refine ⟨by lia, _, MHeap.set_self _ _ _, by lia, trivial, ?_⟩
    rw [MHeap.set_set]
    refine comp_pads hb hh hc js _ _ (fun i hi => hj i (.tail _ hi)) r1 r3 (by simp; lia) ?_
    rw [List.append_assoc]
    rw [List.map_cons, Int.natCast_mul] at hQ
    exact hQ

set_option maxHeartbeats 4000000 in
theorem c__law_grown (g : Pg G P) : DCall G 1 (.ref 185) w__law_grown := by
  refine den_cps (G := G) (fm := fm__law_grown) (d := 0) (tlB (selB false (tlB (selB false (tlB (tlB (bodyOf P 185))))))) (db_cons (ds_augs (de_var (.tail _ (.tail _ (.tail _ (.head _))))) (de_var (.tail _ (.tail _ (.tail _ (.tail _ (.tail _ (.head _))))))) de_int dop_iadd) db_nil) fun W2s1 h2s1 e2s1 => ?_
  refine den_cps (G := G) (fm := fm__law_grown) (d := 0) (selB false (tlB (selB false (tlB (tlB (bodyOf P 185)))))) (db_cons (ds_expr (de_extend (de_var (.tail _ (.tail _ (.head _)))) (de_bin (de_list (da_cons (de_item (de_var (.head _)) (de_var (.tail _ (.tail _ (.tail _ (.tail _ (.head _))))))) da_nil)) (de_item (de_var (.tail _ (.head _))) (de_var (.tail _ (.tail _ (.tail _ (.tail _ (.tail _ (.head _)))))))) dop_mul))) h2s1) fun W2s0 h2s0 e2s0 => ?_
  refine den_cps (G := G) (fm := fm__law_grown) (d := 0) (tlB (selB false (tlB (tlB (selB false (tlB (tlB (bodyOf P 185)))))))) (db_cons (ds_augs (de_var (.tail _ (.tail _ (.tail _ (.head _))))) (de_bin (de_var (.tail _ (.tail _ (.tail _ (.tail _ (.tail _ (.head _))))))) de_int dop_add) de_int dop_iadd) db_nil) fun W3s1 h3s1 e3s1 => ?_
  refine den_cps (G := G) (fm := fm__law_grown) (d := 0) (selB false (tlB (tlB (selB false (tlB (tlB (bodyOf P 185))))))) (db_cons (ds_expr (de_extend (de_var (.tail _ (.tail _ (.head _)))) (de_bin (de_list (da_cons (de_item (de_var (.head _)) (de_var (.tail _ (.tail _ (.tail _ (.tail _ (.head _))))))) da_nil)) (de_item (de_var (.tail _ (.head _))) (de_bin (de_var (.tail _ (.tail _ (.tail _ (.tail _ (.tail _ (.head _))))))) de_int dop_add)) dop_mul))) h3s1) fun W3s0 h3s0 e3s0 => ?_
  refine den_cps (G := G) (fm := fm__law_grown) (d := 0) (tlB (tlB (tlB (selB false (tlB (tlB (bodyOf P 185))))))) (db_cons (ds_expr (de_append (de_var (.tail _ (.tail _ (.head _)))) (de_item (de_var (.head _)) (de_var (.tail _ (.tail _ (.tail _ (.tail _ (.head _))))))))) db_nil) fun W1s3 h1s3 e1s3 => ?_
  refine den_cps (G := G) (fm := fm__law_grown) (d := 0) (tlB (tlB (selB false (tlB (tlB (bodyOf P 185)))))) (db_cons (ds_if (dt_bool (dall_and_cons (dt_cmp (de_var (.tail _ (.tail _ (.tail _ (.tail _ (.tail _ (.head _))))))) de_int dop_ge) (dall_and_cons (dt_cmp (de_var (.tail _ (.tail _ (.tail _ (.tail _ (.head _)))))) de_int dop_eq) dall_and_nil))) h3s0
    db_nil) h1s3) fun W1s2 h1s2 e1s2 => ?_
  refine den_cps (G := G) (fm := fm__law_grown) (d := 0) (tlB (selB false (tlB (tlB (bodyOf P 185))))) (db_cons (ds_if (dt_bool (dall_and_cons (dt_cmp (de_var (.tail _ (.tail _ (.tail _ (.tail _ (.tail _ (.head _))))))) de_int dop_ge) (dall_and_cons (dt_bool (dall_or_cons (dt_cmp (de_var (.tail _ (.tail _ (.tail _ (.tail _ (.head _)))))) de_int dop_eq) (dall_or_cons (dt_cmp (de_item (de_var (.head _)) (de_bin (de_var (.tail _ (.tail _ (.tail _ (.tail _ (.head _)))))) de_int dop_sub)) (de_bin de_int (de_var (.tail _ (.tail _ (.tail _ (.tail _ (.tail _ (.head _))))))) dop_sub) dop_eq) dall_or_nil))) dall_and_nil))) h2s0
    db_nil) h1s2) fun W1s1 h1s1 e1s1 => ?_
  refine den_cps (G := G) (fm := fm__law_grown) (d := 0) (selB false (tlB (tlB (bodyOf P 185)))) (db_cons (ds_assign (.tail _ (.tail _ (.tail _ (.tail _ (.tail _ (.head _)))))) (de_bin (de_item (de_var (.head _)) (de_var (.tail _ (.tail _ (.tail _ (.tail _ (.head _))))))) de_int dop_sub)) h1s1) fun W1s0 h1s0 e1s0 => ?_
  refine den_cps (G := G) (fm := fm__law_grown) (d := 0) (tlB (tlB (tlB (bodyOf P 185)))) (db_cons (ds_return (de_bin (de_var (.tail _ (.tail _ (.head _)))) (de_bin (de_list (da_cons de_int da_nil)) (de_callB (.tail _ (.tail _ (.head _))) (gb_sum g) (da_cons (de_comp (fmC := fm__law_grown_c0) (dit_name (di_range (.head _) (gt_range g) (da_cons de_int da_nil))) (asg_name (.head _)) dts_nil (de_bin (de_item (de_var (.tail _ (.head _))) (de_var (.head _))) (de_bin (de_neg (de_item (de_var (.tail _ (.tail _ (.head _)))) (de_var (.head _)))) de_int dop_mod) dop_mul) (by kernel_rfl)) da_nil) dcall_sum) dop_mul) dop_add)) db_nil) fun W0s3 h0s3 e0s3 => ?_
  refine den_cps (G := G) (fm := fm__law_grown) (d := 0) (tlB (tlB (bodyOf P 185))) (db_cons (ds_for (.tail _ (.tail _ (.tail _ (.tail _ (.head _))))) (di_range (.head _) (gt_range g) (da_cons (de_callB (.tail _ (.head _)) (gb_len g) (da_cons (de_var (.head _)) da_nil) dcall_len) da_nil))
    h1s0) h0s3) fun W0s2 h0s2 e0s2 => ?_
  refine den_cps (G := G) (fm := fm__law_grown) (d := 0) (tlB (bodyOf P 185)) (db_cons (ds_assign (.tail _ (.tail _ (.tail _ (.head _)))) (de_list (da_cons de_int (da_cons de_int (da_cons de_int (da_cons de_int da_nil)))))) h0s2) fun W0s1 h0s1 e0s1 => ?_
  refine den_cps (G := G) (fm := fm__law_grown) (d := 0) (bodyOf P 185) (db_cons (ds_assign (.tail _ (.tail _ (.head _))) (de_list da_nil)) h0s1) fun W0s0 h0s0 e0s0 => ?_
  refine DCall.mono (dcall_cells (fm := fm__law_grown) (d := 0) (body := bodyOf P 185) (ps := ps__law_grown) g.ok (g.kin _ _ o__law_grown) f__law_grown b__law_grown (codeRec_of g.kin cd__law_grown) (by kernel_rfl) (by kernel_rfl) (by kernel_rfl) s__law_grown (by decide) (by decide) bi__law_grown
    h0s0) ?_
  intro ms Q H w
  cases ms with
  | nil => exact w.elim
  | cons m ms =>
  cases m <;> first | exact w.elim | skip
  cases ms with
  | nil => exact w.elim
  | cons m ms =>
  cases m <;> first | exact w.elim | skip
  cases ms with
  | cons _ _ => exact w.elim
  | nil =>
  · rename_i a b
    obtain ⟨L, ts, hHa, hHb, hab, hL, hts, hv, q⟩ := w
    refine ⟨rfl, ?_⟩
    rw [e0s0]
    simp only [ps__law_grown, sx_then_next, sx_then_ret, sx_then_brk, sx_then_cont, sx_boolof, sx_set, sx_loc, sx_clear, sx_add_i, sx_add_b, sx_add_l, sx_sub, sx_mul_i, sx_mul_l, sx_mul_b, sx_div, sx_mod, sx_pow, sx_shl, sx_shr, sx_and, sx_or, sx_iadd, sx_eq_i, sx_eq_b, sx_eq_t, sx_eq_l, sx_ne_i, sx_ne_b, sx_ne_t, sx_lt_i, sx_lt_t, sx_le, sx_gt, sx_ge, sx_is, sx_isn, sx_tr_b, sx_tr_i, sx_tr_l, sx_neg, sx_it_l, sx_it_t, sx_it_b, sx_len_l, sx_len_b, sx_ty_b, sx_ty_p, sx_by, sx_app, sx_ext, sx_pop, sx_cnt, sx_pair, sx_tail, sx_mt_l, sx_mt_b, sx_nr0, sx_ib, sx_il, sx_ir1, sx_ir3, sx_irev, sx_ien, sx_mk, sx_trn, sx_resub, sx_isi1, sx_isi2, sx_sum, sx_min, sx_sorted, sx_si, sx_sl, sx_slr, sx_mis1, sx_mis2, sx_mis3, sx_mis4, String.reduceBEq, String.reduceEq, List.map_cons, List.map_nil, List.zip_cons_cons, List.zip_nil_right, List.lookup_cons, List.lookup_nil, List.any_cons, List.any_nil, Nat.reduceEqDiff, Nat.reduceBEq, beq_self_eq_true, Option.some.injEq, exists_eq_left', exists_eq_left, reduceCtorEq, ite_true, ite_false, if_true, if_false, ↓reduceIte, Bool.false_eq_true, decide_eq_true_eq, true_and, and_true, Bool.not_true, Bool.not_false, Bool.or_false, Bool.false_or, MHeap.set_self, exists_eq', List.length_cons, List.length_nil, Nat.zero_add, Nat.reduceAdd, Nat.reduceLeDiff]
    intro gr hgr
    rw [e0s1]
    simp only [sx_then_next, sx_then_ret, sx_then_brk, sx_then_cont, sx_boolof, sx_set, sx_loc, sx_clear, sx_add_i, sx_add_b, sx_add_l, sx_sub, sx_mul_i, sx_mul_l, sx_mul_b, sx_div, sx_mod, sx_pow, sx_shl, sx_shr, sx_and, sx_or, sx_iadd, sx_eq_i, sx_eq_b, sx_eq_t, sx_eq_l, sx_ne_i, sx_ne_b, sx_ne_t, sx_lt_i, sx_lt_t, sx_le, sx_gt, sx_ge, sx_is, sx_isn, sx_tr_b, sx_tr_i, sx_tr_l, sx_neg, sx_it_l, sx_it_t, sx_it_b, sx_len_l, sx_len_b, sx_ty_b, sx_ty_p, sx_by, sx_app, sx_ext, sx_pop, sx_cnt, sx_pair, sx_tail, sx_mt_l, sx_mt_b, sx_nr0, sx_ib, sx_il, sx_ir1, sx_ir3, sx_irev, sx_ien, sx_mk, sx_trn, sx_resub, sx_isi1, sx_isi2, sx_sum, sx_min, sx_sorted, sx_si, sx_sl, sx_slr, sx_mis1, sx_mis2, sx_mis3, sx_mis4, String.reduceBEq, String.reduceEq, List.map_cons, List.map_nil, List.zip_cons_cons, List.zip_nil_right, List.lookup_cons, List.lookup_nil, List.any_cons, List.any_nil, Nat.reduceEqDiff, Nat.reduceBEq, beq_self_eq_true, Option.some.injEq, exists_eq_left', exists_eq_left, reduceCtorEq, ite_true, ite_false, if_true, if_false, ↓reduceIte, Bool.false_eq_true, decide_eq_true_eq, true_and, and_true, Bool.not_true, Bool.not_false, Bool.or_false, Bool.false_or, MHeap.set_self, exists_eq', List.length_cons, List.length_nil, Nat.zero_add, Nat.reduceAdd, Nat.reduceLeDiff]
    intro hd hhd
    rw [e0s2]
    simp only [sx_then_next, sx_then_ret, sx_then_brk, sx_then_cont, sx_boolof, sx_set, sx_loc, sx_clear, sx_add_i, sx_add_b, sx_add_l, sx_sub, sx_mul_i, sx_mul_l, sx_mul_b, sx_div, sx_mod, sx_pow, sx_shl, sx_shr, sx_and, sx_or, sx_iadd, sx_eq_i, sx_eq_b, sx_eq_t, sx_eq_l, sx_ne_i, sx_ne_b, sx_ne_t, sx_lt_i, sx_lt_t, sx_le, sx_gt, sx_ge, sx_is, sx_isn, sx_tr_b, sx_tr_i, sx_tr_l, sx_neg, sx_it_l, sx_it_t, sx_it_b, sx_len_l, sx_len_b, sx_ty_b, sx_ty_p, sx_by, sx_app, sx_ext, sx_pop, sx_cnt, sx_pair, sx_tail, sx_mt_l, sx_mt_b, sx_nr0, sx_ib, sx_il, sx_ir1, sx_ir3, sx_irev, sx_ien, sx_mk, sx_trn, sx_resub, sx_isi1, sx_isi2, sx_sum, sx_min, sx_sorted, sx_si, sx_sl, sx_slr, sx_mis1, sx_mis2, sx_mis3, sx_mis4, String.reduceBEq, String.reduceEq, List.map_cons, List.map_nil, List.zip_cons_cons, List.zip_nil_right, List.lookup_cons, List.lookup_nil, List.any_cons, List.any_nil, Nat.reduceEqDiff, Nat.reduceBEq, beq_self_eq_true, Option.some.injEq, exists_eq_left', exists_eq_left, reduceCtorEq, ite_true, ite_false, if_true, if_false, ↓reduceIte, Bool.false_eq_true, decide_eq_true_eq, true_and, and_true, Bool.not_true, Bool.not_false, Bool.or_false, Bool.false_or, MHeap.set_self, exists_eq', List.length_cons, List.length_nil, Nat.zero_add, Nat.reduceAdd, Nat.reduceLeDiff]
    have hne : gr ≠ hd := fun e => by rw [← e, MHeap.set_self] at hhd; cases hhd
    have hhd' : H hd = none := by rw [MHeap.set_ne _ _ (Ne.symm hne)] at hhd; exact hhd
    have ha1 : a ≠ gr := fun e => by rw [e, hgr] at hHa; cases hHa
    have ha2 : a ≠ hd := fun e => by rw [e, hhd'] at hHa; cases hHa
    rw [MHeap.set_ne _ _ ha2, MHeap.set_ne _ _ ha1, hHa]
    have hbg : b ≠ gr := fun e => by rw [e, hgr] at hHb; cases hHb
    have hbh : b ≠ hd := fun e => by rw [e, hhd'] at hHb; cases hHb
    have hlen : (natInts L).length = L.length := by simp [natInts]
    refine ⟨_, rfl, by rw [hlen]; lia, by rw [hlen]; lia, ?_⟩
    rw [hlen, Int.toNat_natCast]
    have hgl : (grow ts none L).length ≤ 50000 := by
      rw [grow_len]
      have k : ∀ m, ts m * heads m none L ≤ ts m * 100 := fun m => Nat.mul_le_mul_left _ (Nat.le_trans (heads_le m L none) hL)
      have := k 0; have := k 1; have := k 2; have := k 3
      unfold tsum at hts
      lia
    have hsub0 : Sub H ((H.set gr []).set hd [MV.int 0, MV.int 0, MV.int 0, MV.int 0]) := fun z ys hz' => by
      have z1 : z ≠ gr := fun e => by rw [e, hgr] at hz'; cases hz'
      have z2 : z ≠ hd := fun e => by rw [e, hhd'] at hz'; cases hz'
      rw [MHeap.set_ne _ _ z2, MHeap.set_ne _ _ z1]; exact hz'
    refine loop_grown (a := a) (b := b) (gr := gr) (hd := hd) (H0 := H) (ts := ts) (L := L) ?_ hgl hL L.length 0 [] (fun _ => 0) _ _ (by lia) ⟨by simp only [ps__law_grown, sx_then_next, sx_then_ret, sx_then_brk, sx_then_cont, sx_boolof, sx_set, sx_loc, sx_clear, sx_add_i, sx_add_b, sx_add_l, sx_sub, sx_mul_i, sx_mul_l, sx_mul_b, sx_div, sx_mod, sx_pow, sx_shl, sx_shr, sx_and, sx_or, sx_iadd, sx_eq_i, sx_eq_b, sx_eq_t, sx_eq_l, sx_ne_i, sx_ne_b, sx_ne_t, sx_lt_i, sx_lt_t, sx_le, sx_gt, sx_ge, sx_is, sx_isn, sx_tr_b, sx_tr_i, sx_tr_l, sx_neg, sx_it_l, sx_it_t, sx_it_b, sx_len_l, sx_len_b, sx_ty_b, sx_ty_p, sx_by, sx_app, sx_ext, sx_pop, sx_cnt, sx_pair, sx_tail, sx_mt_l, sx_mt_b, sx_nr0, sx_ib, sx_il, sx_ir1, sx_ir3, sx_irev, sx_ien, sx_mk, sx_trn, sx_resub, sx_isi1, sx_isi2, sx_sum, sx_min, sx_sorted, sx_si, sx_sl, sx_slr, sx_mis1, sx_mis2, sx_mis3, sx_mis4, String.reduceBEq, String.reduceEq, List.map_cons, List.map_nil, List.zip_cons_cons, List.zip_nil_right, List.lookup_cons, List.lookup_nil, List.any_cons, List.any_nil, Nat.reduceEqDiff, Nat.reduceBEq, beq_self_eq_true, Option.some.injEq, exists_eq_left', exists_eq_left, reduceCtorEq, ite_true, ite_false, if_true, if_false, ↓reduceIte, Bool.false_eq_true, decide_eq_true_eq, true_and, and_true, Bool.not_true, Bool.not_false, Bool.or_false, Bool.false_or, MHeap.set_self, exists_eq', List.length_cons, List.length_nil, Nat.zero_add, Nat.reduceAdd, Nat.reduceLeDiff], by simp only [ps__law_grown, sx_then_next, sx_then_ret, sx_then_brk, sx_then_cont, sx_boolof, sx_set, sx_loc, sx_clear, sx_add_i, sx_add_b, sx_add_l, sx_sub, sx_mul_i, sx_mul_l, sx_mul_b, sx_div, sx_mod, sx_pow, sx_shl, sx_shr, sx_and, sx_or, sx_iadd, sx_eq_i, sx_eq_b, sx_eq_t, sx_eq_l, sx_ne_i, sx_ne_b, sx_ne_t, sx_lt_i, sx_lt_t, sx_le, sx_gt, sx_ge, sx_is, sx_isn, sx_tr_b, sx_tr_i, sx_tr_l, sx_neg, sx_it_l, sx_it_t, sx_it_b, sx_len_l, sx_len_b, sx_ty_b, sx_ty_p, sx_by, sx_app, sx_ext, sx_pop, sx_cnt, sx_pair, sx_tail, sx_mt_l, sx_mt_b, sx_nr0, sx_ib, sx_il, sx_ir1, sx_ir3, sx_irev, sx_ien, sx_mk, sx_trn, sx_resub, sx_isi1, sx_isi2, sx_sum, sx_min, sx_sorted, sx_si, sx_sl, sx_slr, sx_mis1, sx_mis2, sx_mis3, sx_mis4, String.reduceBEq, String.reduceEq, List.map_cons, List.map_nil, List.zip_cons_cons, List.zip_nil_right, List.lookup_cons, List.lookup_nil, List.any_cons, List.any_nil, Nat.reduceEqDiff, Nat.reduceBEq, beq_self_eq_true, Option.some.injEq, exists_eq_left', exists_eq_left, reduceCtorEq, ite_true, ite_false, if_true, if_false, ↓reduceIte, Bool.false_eq_true, decide_eq_true_eq, true_and, and_true, Bool.not_true, Bool.not_false, Bool.or_false, Bool.false_or, MHeap.set_self, exists_eq', List.length_cons, List.length_nil, Nat.zero_add, Nat.reduceAdd, Nat.reduceLeDiff], by simp only [sx_then_next, sx_then_ret, sx_then_brk, sx_then_cont, sx_boolof, sx_set, sx_loc, sx_clear, sx_add_i, sx_add_b, sx_add_l, sx_sub, sx_mul_i, sx_mul_l, sx_mul_b, sx_div, sx_mod, sx_pow, sx_shl, sx_shr, sx_and, sx_or, sx_iadd, sx_eq_i, sx_eq_b, sx_eq_t, sx_eq_l, sx_ne_i, sx_ne_b, sx_ne_t, sx_lt_i, sx_lt_t, sx_le, sx_gt, sx_ge, sx_is, sx_isn, sx_tr_b, sx_tr_i, sx_tr_l, sx_neg, sx_it_l, sx_it_t, sx_it_b, sx_len_l, sx_len_b, sx_ty_b, sx_ty_p, sx_by, sx_app, sx_ext, sx_pop, sx_cnt, sx_pair, sx_tail, sx_mt_l, sx_mt_b, sx_nr0, sx_ib, sx_il, sx_ir1, sx_ir3, sx_irev, sx_ien, sx_mk, sx_trn, sx_resub, sx_isi1, sx_isi2, sx_sum, sx_min, sx_sorted, sx_si, sx_sl, sx_slr, sx_mis1, sx_mis2, sx_mis3, sx_mis4, String.reduceBEq, String.reduceEq, List.map_cons, List.map_nil, List.zip_cons_cons, List.zip_nil_right, List.lookup_cons, List.lookup_nil, List.any_cons, List.any_nil, Nat.reduceEqDiff, Nat.reduceBEq, beq_self_eq_true, Option.some.injEq, exists_eq_left', exists_eq_left, reduceCtorEq, ite_true, ite_false, if_true, if_false, ↓reduceIte, Bool.false_eq_true, decide_eq_true_eq, true_and, and_true, Bool.not_true, Bool.not_false, Bool.or_false, Bool.false_or, MHeap.set_self, exists_eq', List.length_cons, List.length_nil, Nat.zero_add, Nat.reduceAdd, Nat.reduceLeDiff], by simp only [sx_then_next, sx_then_ret, sx_then_brk, sx_then_cont, sx_boolof, sx_set, sx_loc, sx_clear, sx_add_i, sx_add_b, sx_add_l, sx_sub, sx_mul_i, sx_mul_l, sx_mul_b, sx_div, sx_mod, sx_pow, sx_shl, sx_shr, sx_and, sx_or, sx_iadd, sx_eq_i, sx_eq_b, sx_eq_t, sx_eq_l, sx_ne_i, sx_ne_b, sx_ne_t, sx_lt_i, sx_lt_t, sx_le, sx_gt, sx_ge, sx_is, sx_isn, sx_tr_b, sx_tr_i, sx_tr_l, sx_neg, sx_it_l, sx_it_t, sx_it_b, sx_len_l, sx_len_b, sx_ty_b, sx_ty_p, sx_by, sx_app, sx_ext, sx_pop, sx_cnt, sx_pair, sx_tail, sx_mt_l, sx_mt_b, sx_nr0, sx_ib, sx_il, sx_ir1, sx_ir3, sx_irev, sx_ien, sx_mk, sx_trn, sx_resub, sx_isi1, sx_isi2, sx_sum, sx_min, sx_sorted, sx_si, sx_sl, sx_slr, sx_mis1, sx_mis2, sx_mis3, sx_mis4, String.reduceBEq, String.reduceEq, List.map_cons, List.map_nil, List.zip_cons_cons, List.zip_nil_right, List.lookup_cons, List.lookup_nil, List.any_cons, List.any_nil, Nat.reduceEqDiff, Nat.reduceBEq, beq_self_eq_true, Option.some.injEq, exists_eq_left', exists_eq_left, reduceCtorEq, ite_true, ite_false, if_true, if_false, ↓reduceIte, Bool.false_eq_true, decide_eq_true_eq, true_and, and_true, Bool.not_true, Bool.not_false, Bool.or_false, Bool.false_or, MHeap.set_self, exists_eq', List.length_cons, List.length_nil, Nat.zero_add, Nat.reduceAdd, Nat.reduceLeDiff], hsub0, by rw [MHeap.set_ne _ _ hne, MHeap.set_self]; rfl, by rw [MHeap.set_self]; rfl⟩ rfl (fun m => by simp [prevOf]) ?_
    · intro ρ H' acc hs k x K' hG hx hz hh hK
      obtain ⟨r0, r1, r2, r3, hsub, hgr', hhd''⟩ := hG
      have hkl : k < L.length := by
        rcases Nat.lt_or_ge k L.length with h | h
        · exact h
        · rw [List.getElem?_eq_none h] at hx; cases hx
      have hx' : (natInts L)[k]? = some (.int (x : Nat)) := by simp [natInts, hx]
      have hxlt : x < 64 := hv x (List.mem_of_getElem? hx)
      have hts1 : ∀ j, j < 4 → ts j ≤ 100 := fun j hj => by
        unfold tsum at hts
        rcases (show j = 0 ∨ j = 1 ∨ j = 2 ∨ j = 3 by lia) with rfl | rfl | rfl | rfl <;> lia
      have key3 : ∀ (ρ' : Loc) (H2 : MHeap) (acc2 : List Nat) (hs2 : Nat → Nat), GL ρ' a b gr hd k → Sub H H2 → H2 gr = some (natInts acc2) → H2 hd = some (tsInts hs2) → acc2 = acc ++ List.replicate (rep ts (prevOf L k) x) x → tsInts hs2 = tsInts (hs' hs (prevOf L k) x) → W1s3 ρ' K' H2 := by
        rintro ρ' H2 acc2 hs2 ⟨t0, t1, t2, t3, t4⟩ hs hg2 hh2 rfl he
        have hrl : rep ts (prevOf L k) x ≤ 200 := by
          rw [rep_two ts _ hxlt]
          have h1 := hts1 (x - 62) (by lia)
          have h2 := hts1 (x - 60) (by lia)
          split <;> split <;> lia
        rw [e1s3]
        simp only [t0, t2, t4, hg2, hs a _ hHa, Int.toNat_natCast, hx', sx_then_next, sx_then_ret, sx_then_brk, sx_then_cont, sx_boolof, sx_set, sx_loc, sx_clear, sx_add_i, sx_add_b, sx_add_l, sx_sub, sx_mul_i, sx_mul_l, sx_mul_b, sx_div, sx_mod, sx_pow, sx_shl, sx_shr, sx_and, sx_or, sx_iadd, sx_eq_i, sx_eq_b, sx_eq_t, sx_eq_l, sx_ne_i, sx_ne_b, sx_ne_t, sx_lt_i, sx_lt_t, sx_le, sx_gt, sx_ge, sx_is, sx_isn, sx_tr_b, sx_tr_i, sx_tr_l, sx_neg, sx_it_l, sx_it_t, sx_it_b, sx_len_l, sx_len_b, sx_ty_b, sx_ty_p, sx_by, sx_app, sx_ext, sx_pop, sx_cnt, sx_pair, sx_tail, sx_mt_l, sx_mt_b, sx_nr0, sx_ib, sx_il, sx_ir1, sx_ir3, sx_irev, sx_ien, sx_mk, sx_trn, sx_resub, sx_isi1, sx_isi2, sx_sum, sx_min, sx_sorted, sx_si, sx_sl, sx_slr, sx_mis1, sx_mis2, sx_mis3, sx_mis4, String.reduceBEq, String.reduceEq, List.map_cons, List.map_nil, List.zip_cons_cons, List.zip_nil_right, List.lookup_cons, List.lookup_nil, List.any_cons, List.any_nil, Nat.reduceEqDiff, Nat.reduceBEq, beq_self_eq_true, Option.some.injEq, exists_eq_left', exists_eq_left, reduceCtorEq, ite_true, ite_false, if_true, if_false, ↓reduceIte, Bool.false_eq_true, decide_eq_true_eq, true_and, and_true, Bool.not_true, Bool.not_false, Bool.or_false, Bool.false_or, MHeap.set_self, exists_eq', List.length_cons, List.length_nil, Nat.zero_add, Nat.reduceAdd, Nat.reduceLeDiff]
        refine ⟨by lia, by simp [natInts]; lia, ?_⟩
        refine hK ρ' _ ⟨t0, t1, t2, t3, fun z ys hz => ?_, ?_, ?_⟩
        · have : z ≠ gr := fun e => by rw [e, hgr] at hz; cases hz
          rw [MHeap.set_ne _ _ this]; exact hs z ys hz
        · rw [MHeap.set_self]; simp [natInts]
        · rw [MHeap.set_ne _ _ (Ne.symm hne), hh2, he]
      clear hK e1s3
      have key2 : ∀ (ρ' : Loc) (H2 : MHeap) (acc2 : List Nat) (hs2 : Nat → Nat), GL ρ' a b gr hd k → ρ' 5 = some (.int ((x : Nat) - 62)) → Sub H H2 → H2 gr = some (natInts acc2) → H2 hd = some (tsInts hs2) → acc2 = acc ++ List.replicate (if hd1 (prevOf L k) x then ts (x - 62) else 0) x → hs2 = bmp (hd1 (prevOf L k) x) (x - 62) hs → W1s2 ρ' K' H2 := by
        rintro ρ' H2 acc2 hs2 hGL t5 hs hg2 hh2 hacc rfl
        have ⟨t0, t1, t2, t3, t4⟩ := hGL
        have fin : hd2 (prevOf L k) x = false → W1s3 ρ' K' H2 := fun h => by
          refine key3 ρ' H2 acc2 _ hGL hs hg2 hh2 ?_ ?_
          · rw [hacc, rep_two ts _ hxlt, h]; rfl
          · rw [← hs_two _ _ hxlt, h]; rfl
        rw [e1s2]
        simp only [t4, t5, sx_then_next, sx_then_ret, sx_then_brk, sx_then_cont, sx_boolof, sx_set, sx_loc, sx_clear, sx_add_i, sx_add_b, sx_add_l, sx_sub, sx_mul_i, sx_mul_l, sx_mul_b, sx_div, sx_mod, sx_pow, sx_shl, sx_shr, sx_and, sx_or, sx_iadd, sx_eq_i, sx_eq_b, sx_eq_t, sx_eq_l, sx_ne_i, sx_ne_b, sx_ne_t, sx_lt_i, sx_lt_t, sx_le, sx_gt, sx_ge, sx_is, sx_isn, sx_tr_b, sx_tr_i, sx_tr_l, sx_neg, sx_it_l, sx_it_t, sx_it_b, sx_len_l, sx_len_b, sx_ty_b, sx_ty_p, sx_by, sx_app, sx_ext, sx_pop, sx_cnt, sx_pair, sx_tail, sx_mt_l, sx_mt_b, sx_nr0, sx_ib, sx_il, sx_ir1, sx_ir3, sx_irev, sx_ien, sx_mk, sx_trn, sx_resub, sx_isi1, sx_isi2, sx_sum, sx_min, sx_sorted, sx_si, sx_sl, sx_slr, sx_mis1, sx_mis2, sx_mis3, sx_mis4, String.reduceBEq, String.reduceEq, List.map_cons, List.map_nil, List.zip_cons_cons, List.zip_nil_right, List.lookup_cons, List.lookup_nil, List.any_cons, List.any_nil, Nat.reduceEqDiff, Nat.reduceBEq, beq_self_eq_true, Option.some.injEq, exists_eq_left', exists_eq_left, reduceCtorEq, ite_true, ite_false, if_true, if_false, ↓reduceIte, Bool.false_eq_true, decide_eq_true_eq, true_and, and_true, Bool.not_true, Bool.not_false, Bool.or_false, Bool.false_or, MHeap.set_self, exists_eq', List.length_cons, List.length_nil, Nat.zero_add, Nat.reduceAdd, Nat.reduceLeDiff]
        by_cases hlo : x < 62
        · rw [if_neg (by lia)]
          exact fin (hd_lo hlo).2
        · rw [if_pos (by lia)]
          by_cases hk0 : k = 0
          · rw [if_pos (by lia), e3s0, e3s1]
            have hh2t : hd2 (prevOf L k) x = true := by unfold prevOf; rw [if_pos hk0]; exact (hd_none hlo hxlt).2
            simp only [t0, t1, t2, t3, t4, t5, hs a _ hHa, hg2, Int.toNat_natCast, hx', sx_then_next, sx_then_ret, sx_then_brk, sx_then_cont, sx_boolof, sx_set, sx_loc, sx_clear, sx_add_i, sx_add_b, sx_add_l, sx_sub, sx_mul_i, sx_mul_l, sx_mul_b, sx_div, sx_mod, sx_pow, sx_shl, sx_shr, sx_and, sx_or, sx_iadd, sx_eq_i, sx_eq_b, sx_eq_t, sx_eq_l, sx_ne_i, sx_ne_b, sx_ne_t, sx_lt_i, sx_lt_t, sx_le, sx_gt, sx_ge, sx_is, sx_isn, sx_tr_b, sx_tr_i, sx_tr_l, sx_neg, sx_it_l, sx_it_t, sx_it_b, sx_len_l, sx_len_b, sx_ty_b, sx_ty_p, sx_by, sx_app, sx_ext, sx_pop, sx_cnt, sx_pair, sx_tail, sx_mt_l, sx_mt_b, sx_nr0, sx_ib, sx_il, sx_ir1, sx_ir3, sx_irev, sx_ien, sx_mk, sx_trn, sx_resub, sx_isi1, sx_isi2, sx_sum, sx_min, sx_sorted, sx_sl, sx_slr, sx_mis1, sx_mis2, sx_mis3, sx_mis4, String.reduceBEq, String.reduceEq, List.map_cons, List.map_nil, List.zip_cons_cons, List.zip_nil_right, List.lookup_cons, List.lookup_nil, List.any_cons, List.any_nil, Nat.reduceEqDiff, Nat.reduceBEq, beq_self_eq_true, Option.some.injEq, exists_eq_left', exists_eq_left, reduceCtorEq, ite_true, ite_false, if_true, if_false, ↓reduceIte, Bool.false_eq_true, decide_eq_true_eq, true_and, and_true, Bool.not_true, Bool.not_false, Bool.or_false, Bool.false_or, MHeap.set_self, exists_eq', List.length_cons, List.length_nil, Nat.zero_add, Nat.reduceAdd, Nat.reduceLeDiff]
            refine ⟨by lia, ?_⟩
            refine blk (j := x - 60) (by lia) (by lia) (hs b _ hHb) hg2 hh2 hbg hbh hne ?_ (hts1 _ (by lia)) fun H4 f4 g4 h4 => ?_
            · rw [hacc, List.length_append, List.length_replicate]
              have := hts1 (x - 62) (by lia)
              split <;> lia
            · refine key3 ρ' H4 _ _ hGL (fun z ys hz => ?_) g4 h4 ?_ ?_
              · have z1 : z ≠ gr := fun e => by rw [e, hgr] at hz; cases hz
                have z2 : z ≠ hd := fun e => by rw [e, hhd'] at hz; cases hz
                exact f4 z ys (hs z ys hz) z1 z2
              · rw [hacc, rep_two ts _ hxlt, hh2t, if_pos rfl, List.append_assoc, List.replicate_append_replicate]
              · rw [← hs_two _ _ hxlt, hh2t]
                congr 1
                funext m
                unfold bmp
                simp
          · rw [if_neg (by lia)]
            exact fin (by unfold prevOf; rw [if_neg hk0, List.getElem?_eq_getElem (by omega)]; exact (hd_some _ hlo hxlt).2)
      clear key3 e1s2 e3s0 e3s1
      rw [e1s0]
      simp only [r0, hsub a _ hHa, Int.toNat_natCast, hx', sx_then_next, sx_then_ret, sx_then_brk, sx_then_cont, sx_boolof, sx_set, sx_loc, sx_clear, sx_add_i, sx_add_b, sx_add_l, sx_sub, sx_mul_i, sx_mul_l, sx_mul_b, sx_div, sx_mod, sx_pow, sx_shl, sx_shr, sx_and, sx_or, sx_iadd, sx_eq_i, sx_eq_b, sx_eq_t, sx_eq_l, sx_ne_i, sx_ne_b, sx_ne_t, sx_lt_i, sx_lt_t, sx_le, sx_gt, sx_ge, sx_is, sx_isn, sx_tr_b, sx_tr_i, sx_tr_l, sx_neg, sx_it_l, sx_it_t, sx_it_b, sx_len_l, sx_len_b, sx_ty_b, sx_ty_p, sx_by, sx_app, sx_ext, sx_pop, sx_cnt, sx_pair, sx_tail, sx_mt_l, sx_mt_b, sx_nr0, sx_ib, sx_il, sx_ir1, sx_ir3, sx_irev, sx_ien, sx_mk, sx_trn, sx_resub, sx_isi1, sx_isi2, sx_sum, sx_min, sx_sorted, sx_si, sx_sl, sx_slr, sx_mis1, sx_mis2, sx_mis3, sx_mis4, String.reduceBEq, String.reduceEq, List.map_cons, List.map_nil, List.zip_cons_cons, List.zip_nil_right, List.lookup_cons, List.lookup_nil, List.any_cons, List.any_nil, Nat.reduceEqDiff, Nat.reduceBEq, beq_self_eq_true, Option.some.injEq, exists_eq_left', exists_eq_left, reduceCtorEq, ite_true, ite_false, if_true, if_false, ↓reduceIte, Bool.false_eq_true, decide_eq_true_eq, true_and, and_true, Bool.not_true, Bool.not_false, Bool.or_false, Bool.false_or, MHeap.set_self, exists_eq', List.length_cons, List.length_nil, Nat.zero_add, Nat.reduceAdd, Nat.reduceLeDiff]
      refine ⟨by lia, ?_⟩
      have hGL : GL ((ρ.set 4 (.int (k : Nat))).set 5 (.int ((x : Nat) - 62))) a b gr hd k := ⟨r0, r1, r2, r3, rfl⟩
      generalize hρ : (ρ.set 4 (.int (k : Nat))).set 5 (.int ((x : Nat) - 62)) = ρ1 at hGL ⊢
      have t5 : ρ1 5 = some (.int ((x : Nat) - 62)) := by rw [← hρ]; rfl
      clear hρ r0 r1 r2 r3
      have ⟨t0, t1, t2, t3, t4⟩ := hGL
      have no : hd1 (prevOf L k) x = false → W1s2 ρ1 K' H' := fun h => key2 ρ1 H' acc _ hGL t5 hsub hgr' hhd'' (by rw [h]; simp) (by funext m; unfold bmp; rw [h]; rfl)
      have yes : hd1 (prevOf L k) x = true → W2s0 ρ1 (thenW W1s2 K') H' := fun h => by
        have hlo : 62 ≤ x := by
          rcases Nat.lt_or_ge x 62 with g | g
          · rw [(hd_lo g).1] at h; cases h
          · exact g
        rw [e2s0, e2s1]
        simp only [t0, t1, t2, t3, t4, t5, hsub a _ hHa, hgr', Int.toNat_natCast, hx', sx_then_next, sx_then_ret, sx_then_brk, sx_then_cont, sx_boolof, sx_set, sx_loc, sx_clear, sx_add_i, sx_add_b, sx_add_l, sx_sub, sx_mul_i, sx_mul_l, sx_mul_b, sx_div, sx_mod, sx_pow, sx_shl, sx_shr, sx_and, sx_or, sx_iadd, sx_eq_i, sx_eq_b, sx_eq_t, sx_eq_l, sx_ne_i, sx_ne_b, sx_ne_t, sx_lt_i, sx_lt_t, sx_le, sx_gt, sx_ge, sx_is, sx_isn, sx_tr_b, sx_tr_i, sx_tr_l, sx_neg, sx_it_l, sx_it_t, sx_it_b, sx_len_l, sx_len_b, sx_ty_b, sx_ty_p, sx_by, sx_app, sx_ext, sx_pop, sx_cnt, sx_pair, sx_tail, sx_mt_l, sx_mt_b, sx_nr0, sx_ib, sx_il, sx_ir1, sx_ir3, sx_irev, sx_ien, sx_mk, sx_trn, sx_resub, sx_isi1, sx_isi2, sx_sum, sx_min, sx_sorted, sx_sl, sx_slr, sx_mis1, sx_mis2, sx_mis3, sx_mis4, String.reduceBEq, String.reduceEq, List.map_cons, List.map_nil, List.zip_cons_cons, List.zip_nil_right, List.lookup_cons, List.lookup_nil, List.any_cons, List.any_nil, Nat.reduceEqDiff, Nat.reduceBEq, beq_self_eq_true, Option.some.injEq, exists_eq_left', exists_eq_left, reduceCtorEq, ite_true, ite_false, if_true, if_false, ↓reduceIte, Bool.false_eq_true, decide_eq_true_eq, true_and, and_true, Bool.not_true, Bool.not_false, Bool.or_false, Bool.false_or, MHeap.set_self, exists_eq', List.length_cons, List.length_nil, Nat.zero_add, Nat.reduceAdd, Nat.reduceLeDiff]
        refine ⟨by lia, ?_⟩
        refine blk (j := x - 62) (by lia) (by lia) (hsub b _ hHb) hgr' hhd'' hbg hbh hne (by lia) (hts1 _ (by lia)) fun H4 f4 g4 h4 => ?_
        refine key2 ρ1 H4 _ _ hGL t5 (fun z ys hz => ?_) g4 h4 (by rw [h]; rfl) ?_
        · have z1 : z ≠ gr := fun e => by rw [e, hgr] at hz; cases hz
          have z2 : z ≠ hd := fun e => by rw [e, hhd'] at hz; cases hz
          exact f4 z ys (hsub z ys hz) z1 z2
        · rw [h]
          funext m
          unfold bmp
          simp
      clear key2 e2s0 e2s1
      rw [e1s1]
      simp only [t0, t4, t5, hsub a _ hHa, sx_then_next, sx_then_ret, sx_then_brk, sx_then_cont, sx_boolof, sx_set, sx_loc, sx_clear, sx_add_i, sx_add_b, sx_add_l, sx_sub, sx_mul_i, sx_mul_l, sx_mul_b, sx_div, sx_mod, sx_pow, sx_shl, sx_shr, sx_and, sx_or, sx_iadd, sx_eq_i, sx_eq_b, sx_eq_t, sx_eq_l, sx_ne_i, sx_ne_b, sx_ne_t, sx_lt_i, sx_lt_t, sx_le, sx_gt, sx_ge, sx_is, sx_isn, sx_tr_b, sx_tr_i, sx_tr_l, sx_neg, sx_it_l, sx_it_t, sx_it_b, sx_len_l, sx_len_b, sx_ty_b, sx_ty_p, sx_by, sx_app, sx_ext, sx_pop, sx_cnt, sx_pair, sx_tail, sx_mt_l, sx_mt_b, sx_nr0, sx_ib, sx_il, sx_ir1, sx_ir3, sx_irev, sx_ien, sx_mk, sx_trn, sx_resub, sx_isi1, sx_isi2, sx_sum, sx_min, sx_sorted, sx_si, sx_sl, sx_slr, sx_mis1, sx_mis2, sx_mis3, sx_mis4, String.reduceBEq, String.reduceEq, List.map_cons, List.map_nil, List.zip_cons_cons, List.zip_nil_right, List.lookup_cons, List.lookup_nil, List.any_cons, List.any_nil, Nat.reduceEqDiff, Nat.reduceBEq, beq_self_eq_true, Option.some.injEq, exists_eq_left', exists_eq_left, reduceCtorEq, ite_true, ite_false, if_true, if_false, ↓reduceIte, Bool.false_eq_true, decide_eq_true_eq, true_and, and_true, Bool.not_true, Bool.not_false, Bool.or_false, Bool.false_or, MHeap.set_self, exists_eq', List.length_cons, List.length_nil, Nat.zero_add, Nat.reduceAdd, Nat.reduceLeDiff]
      by_cases hlo : x < 62
      · rw [if_neg (by lia)]
        exact no (hd_lo hlo).1
      · rw [if_pos (by lia)]
        by_cases hk0 : k = 0
        · rw [if_pos (by lia)]
          exact yes (by unfold prevOf; rw [if_pos hk0]; exact (hd_none hlo hxlt).1)
        · rw [if_neg (by lia)]
          have hk1 : k - 1 < L.length := by lia
          obtain ⟨y, hy⟩ : ∃ y, L[k - 1]? = some y := ⟨L[k - 1], List.getElem?_eq_getElem hk1⟩
          have hpv : prevOf L k = some y := by unfold prevOf; rw [if_neg hk0, hy]
          have hy' : (natInts L)[k - 1]? = some (.int (y : Nat)) := by simp [natInts, hy]
          refine ⟨by lia, .int (y : Nat), by rw [show (((k : Nat) : Int) - 1).toNat = k - 1 from by lia]; exact hy', ?_⟩
          rw [sx_eq_i, sx_boolof]
          by_cases hyj : y = 125 - x
          · rw [if_pos (by rw [decide_eq_true_eq]; lia)]
            exact yes (by rw [hpv, (hd_some y hlo hxlt).1, hyj]; exact beq_self_eq_true _)
          · rw [if_neg (by rw [decide_eq_true_eq]; lia)]
            exact no (by rw [hpv, (hd_some y hlo hxlt).1]; exact beq_false_of_ne hyj)
    · intro ρ' H' hs hG hhs
      obtain ⟨r0, r1, r2, r3, hsub, hgr', hhd''⟩ := hG
      rw [e0s3]
      simp only [r0, r1, r2, r3, sx_then_next, sx_then_ret, sx_then_brk, sx_then_cont, sx_boolof, sx_set, sx_loc, sx_clear, sx_add_i, sx_add_b, sx_add_l, sx_sub, sx_mul_i, sx_mul_l, sx_mul_b, sx_div, sx_mod, sx_pow, sx_shl, sx_shr, sx_and, sx_or, sx_iadd, sx_eq_i, sx_eq_b, sx_eq_t, sx_eq_l, sx_ne_i, sx_ne_b, sx_ne_t, sx_lt_i, sx_lt_t, sx_le, sx_gt, sx_ge, sx_is, sx_isn, sx_tr_b, sx_tr_i, sx_tr_l, sx_neg, sx_it_l, sx_it_t, sx_it_b, sx_len_l, sx_len_b, sx_ty_b, sx_ty_p, sx_by, sx_app, sx_ext, sx_pop, sx_cnt, sx_pair, sx_tail, sx_mt_l, sx_mt_b, sx_nr0, sx_ib, sx_il, sx_ir1, sx_ir3, sx_irev, sx_ien, sx_mk, sx_trn, sx_resub, sx_isi1, sx_isi2, sx_sum, sx_min, sx_sorted, sx_si, sx_sl, sx_slr, sx_mis1, sx_mis2, sx_mis3, sx_mis4, String.reduceBEq, String.reduceEq, List.map_cons, List.map_nil, List.zip_cons_cons, List.zip_nil_right, List.lookup_cons, List.lookup_nil, List.any_cons, List.any_nil, Nat.reduceEqDiff, Nat.reduceBEq, beq_self_eq_true, Option.some.injEq, exists_eq_left', exists_eq_left, reduceCtorEq, ite_true, ite_false, if_true, if_false, ↓reduceIte, Bool.false_eq_true, decide_eq_true_eq, true_and, and_true, Bool.not_true, Bool.not_false, Bool.or_false, Bool.false_or, MHeap.set_self, exists_eq', List.length_cons, List.length_nil, Nat.zero_add, Nat.reduceAdd, Nat.reduceLeDiff]
      intro c hc
      refine ⟨by decide, ?_⟩
      have hH'b : H' b = some (tsInts ts) := hsub b _ hHb
      have hbc : b ≠ c := fun e => by rw [e, hc] at hH'b; cases hH'b
      have hhc : hd ≠ c := fun e => by rw [e, hc] at hhd''; cases hhd''
      have hgc : gr ≠ c := fun e => by rw [e, hc] at hgr'; cases hgr'
      intro s hs0
      have hsc : c ≠ s := fun e => by rw [← e, MHeap.set_self] at hs0; cases hs0
      have hsH : H' s = none := by rw [MHeap.set_ne _ _ (Ne.symm hsc)] at hs0; exact hs0
      have hbs : b ≠ s := fun e => by rw [e, hsH] at hH'b; cases hH'b
      have hhs' : hd ≠ s := fun e => by rw [e, hsH] at hhd''; cases hhd''
      have hgs : gr ≠ s := fun e => by rw [e, hsH] at hgr'; cases hgr'
      refine ⟨trivial, ?_⟩
      rw [show runItems 0 1 (Int.toNat 4) = [0, 1, 2, 3].map (fun j : Nat => MV.int (j : Nat)) from rfl]
      refine comp_pads ((MHeap.set_ne _ _ hbc).trans hH'b) ((MHeap.set_ne _ _ hhc).trans hhd'') hs0 [0, 1, 2, 3] [] _ (by simp) r1 r3 (by simp) ?_
      show wSum [.lst s] _ _
      rw [sx_sum]
      refine ⟨[0, 1, 2, 3].map fun j => ((ts j * padOf (hs j) : Nat) : Int), by rw [MHeap.set_self, List.map_map]; rfl, ?_⟩
      rw [sx_mul_l]
      refine ⟨.int 0, ?_, ?_⟩
      · rw [MHeap.set_ne _ _ hsc, MHeap.set_self]
      · have hsum : List.sum ([0, 1, 2, 3].map fun j => ((ts j * padOf (hs j) : Nat) : Int)) = ((zeros ts L : Nat) : Int) := by
          unfold zeros
          simp only [List.map_cons, List.map_nil, List.sum_cons, List.sum_nil, hhs]
          lia
        have hzb : zeros ts L ≤ 400 := by
          unfold zeros
          have k : ∀ m, ts m * padOf (heads m none L) ≤ ts m * 4 := fun m => Nat.mul_le_mul_left _ (Nat.le_of_lt (pad_lt _))
          have := k 0; have := k 1; have := k 2; have := k 3
          unfold tsum at hts
          lia
        rw [hsum, Int.toNat_natCast]
        refine ⟨by lia, fun k hk => ?_⟩
        have hgk : gr ≠ k := fun e => by rw [← e, MHeap.set_ne _ _ hgs, MHeap.set_ne _ _ hgc, hgr'] at hk; cases hk
        have hkn : H' k = none := by
          have k1 : k ≠ s := fun e => by rw [e, MHeap.set_self] at hk; cases hk
          rw [MHeap.set_ne _ _ k1] at hk
          have k2 : k ≠ c := fun e => by rw [e, MHeap.set_self] at hk; cases hk
          rw [MHeap.set_ne _ _ k2] at hk; exact hk
        show wAdd (.lst gr) (.lst k) _ _
        rw [sx_add_l]
        refine ⟨natInts (grow ts none L), by rw [MHeap.set_ne _ _ hgk, MHeap.set_ne _ _ hgs, MHeap.set_ne _ _ hgc]; exact hgr', _, MHeap.set_self _ _ _, by simp [natInts]; lia, fun e he => ?_⟩
        have hen : H' e = none := by
          have k0 : e ≠ k := fun z => by rw [z, MHeap.set_self] at he; cases he
          rw [MHeap.set_ne _ _ k0] at he
          have k1 : e ≠ s := fun z => by rw [z, MHeap.set_self] at he; cases he
          rw [MHeap.set_ne _ _ k1] at he
          have k2 : e ≠ c := fun z => by rw [z, MHeap.set_self] at he; cases he
          rw [MHeap.set_ne _ _ k2] at he; exact he
        have heH : H e = none := by
          cases z : H e with
          | none => rfl
          | some ys => rw [hsub e ys z] at hen; cases hen
        have e1 : natInts (grow ts none L) ++ List.replicate (zeros ts L) (MV.int 0) = natInts (curV L ts) := by
          unfold curV natInts; simp
        rw [e1]
        refine back_ret (H' := H.set e (natInts (curV L ts))) (fun z ys hz' => ?_) (q e heH)
        by_cases ze : z = e
        · rw [ze, MHeap.set_self] at hz' ⊢; exact hz'
        · rw [MHeap.set_ne _ _ ze] at hz' ⊢
          have hz2 := hsub z ys hz'
          have n1 : z ≠ k := fun w => by rw [w, hkn] at hz2; cases hz2
          have n2 : z ≠ s := fun w => by rw [w, hsH] at hz2; cases hz2
          have n3 : z ≠ c := fun w => by rw [w, hc] at hz2; cases hz2
          rw [MHeap.set_ne _ _ n1, MHeap.set_ne _ _ n2, MHeap.set_ne _ _ n3]; exact hz2
end
end Mine
end
-- part MPl2
section
open PySem PySem.W PyProof.Rows PySem.SeqAt
namespace Mine

theorem heap_top {A : List Ent} (h : HeapFrom 0 A) : ∀ n i, i ≤ n → i < A.length → hle (eat A 0) (eat A i) := by
  intro n
  induction n with
  | zero => intro i hi hl; rw [show i = 0 from by lia]; exact hle_refl _
  | succ n ih =>
    intro i hi hl
    by_cases h0 : i = 0
    · subst h0; exact hle_refl _
    · exact hle_trans (ih ((i - 1) / 2) (by lia) (by lia)) (h i (by lia) hl (Nat.zero_le _))
theorem heap_min {e : Ent} {hs : List Ent} (h : HeapFrom 0 (e :: hs)) : ∀ f ∈ e :: hs, hle e f := fun f hf => by
  obtain ⟨i, hi, rfl⟩ := List.getElem_of_mem hf
  have := heap_top h i i (Nat.le_refl _) hi
  rw [eat_elem hi] at this
  exact this
theorem hle_anti {A : List Ent} (hD : Dist A) {a b : Ent} (ha : a ∈ A) (hb : b ∈ A) (h1 : hle a b) (h2 : hle b a) : a = b := by
  rw [hle_iff] at h1 h2
  have hp : a.1 = b.1 := by lia
  obtain ⟨i, hi, rfl⟩ := List.getElem_of_mem ha
  obtain ⟨j, hj, rfl⟩ := List.getElem_of_mem hb
  by_cases e : i = j
  · subst e; rfl
  · have := hD.ne hi hj e
    rw [eat_elem hi, eat_elem hj] at this
    exact absurd hp this
theorem tlt_ent {x y : Ent} (h : x.1 ≠ y.1) : tlt (ent x) (ent y) = some (elt x y) := by
  unfold tlt ent elt
  simp only [List.length_cons, List.length_nil, if_true, mlt_ii]
  by_cases h1 : x.2.length = y.2.length
  · rw [if_pos (by lia), if_neg (by lia)]
    simp [h1]
  · rw [if_neg (by lia)]
    simp [h1]
theorem min_ok : ∀ (xs : List Ent) (cur : Ent), Dist (cur :: xs) → ∃ m, minFrom (ent cur) (xs.map ent) = some (ent m) ∧ m ∈ cur :: xs ∧ ∀ f ∈ cur :: xs, hle m f
  | [], cur, _ => ⟨cur, rfl, .head _, fun f hf => by rw [List.mem_singleton.mp hf]; exact hle_refl _⟩
  | x :: r, cur, hD => by
    have hne : x.1 ≠ cur.1 := by
      unfold Dist at hD
      simp only [List.map_cons, List.nodup_cons, List.mem_cons, not_or] at hD
      exact fun e => hD.1.1 e.symm
    have hDx : Dist (x :: r) := by unfold Dist at *; simp only [List.map_cons, List.nodup_cons] at *; exact hD.2
    have hDc : Dist (cur :: r) := by
      unfold Dist at *
      simp only [List.map_cons, List.nodup_cons, List.mem_cons, not_or] at *
      exact ⟨hD.1.2, hD.2.2⟩
    show ∃ m, (match tlt (ent x) (ent cur) with | some true => minFrom (ent x) (r.map ent) | some false => minFrom (ent cur) (r.map ent) | none => none) = some (ent m) ∧ _
    rw [tlt_ent hne]
    cases hlt : elt x cur with
    | true =>
      obtain ⟨m, h1, h2, h3⟩ := min_ok r x hDx
      refine ⟨m, h1, .tail _ h2, fun f hf => ?_⟩
      rcases List.mem_cons.mp hf with rfl | hf
      · exact hle_trans (h3 x (.head _)) (hle_of_lt hlt)
      · exact h3 f hf
    | false =>
      obtain ⟨m, h1, h2, h3⟩ := min_ok r cur hDc
      refine ⟨m, h1, ?_, fun f hf => ?_⟩
      · rcases List.mem_cons.mp h2 with h | h
        · rw [h]; exact .head _
        · exact .tail _ (.tail _ h)
      · rcases List.mem_cons.mp hf with rfl | hf
        · exact h3 _ (.head _)
        · rcases List.mem_cons.mp hf with rfl | hf
          · exact hle_trans (h3 cur (.head _)) hlt
          · exact h3 f (.tail _ hf)

theorem sorted_unique {A out fs : List Ent} (hD : Dist A) (h1 : out.Perm A) (h2 : fs.Perm A) (s1 : out.Pairwise hle) (s2 : fs.Pairwise (fun e f => elt e f = true)) : out = fs := by
  refine List.Perm.eq_of_pairwise (le := hle) (fun a b ha hb g1 g2 => hle_anti hD (h1.mem_iff.mp ha) (h2.mem_iff.mp hb) g1 g2) s1 (s2.imp fun h => hle_of_lt h) (h1.trans h2.symm)

-- turns counted
def cnt (dn : List (Nat × Nat)) (p : Nat) : Nat → Nat := fun m => dn.count (p, m)
theorem cnt_bump (dn : List (Nat × Nat)) (p m : Nat) : cnt (dn ++ [(p, m)]) p = bump (cnt dn p) m := by
  funext j
  unfold cnt bump
  rw [List.count_append]
  by_cases h : j = m
  · subst h; simp
  · rw [if_neg h]
    have : ((p, m) == (p, j)) = false := by simp; lia
    simp [List.count_cons, this]
theorem cnt_other (dn : List (Nat × Nat)) {p q : Nat} (m : Nat) (h : q ≠ p) : cnt (dn ++ [(p, m)]) q = cnt dn q := by
  funext j
  unfold cnt
  rw [List.count_append]
  have : ((p, m) == (q, j)) = false := by simp; lia
  simp [List.count_cons, this]
theorem tsum_le (dn : List (Nat × Nat)) (p : Nat) : tsum (cnt dn p) ≤ dn.length := by
  unfold tsum cnt
  induction dn with
  | nil => simp
  | cons x r ih =>
    simp only [List.count_cons, List.length_cons]
    have : (if (x == (p, 0)) = true then 1 else 0) + (if (x == (p, 1)) = true then 1 else 0) + (if (x == (p, 2)) = true then 1 else 0) + (if (x == (p, 3)) = true then 1 else 0) ≤ 1 := by
      obtain ⟨a, b⟩ := x
      simp only [beq_iff_eq, Prod.mk.injEq]
      repeat' split
      all_goals lia
    lia
def prM (x : Nat × Nat) : MV := .tup [.int (x.1 : Nat), .int (x.2 : Nat)]
theorem meq_pr (x y : Nat × Nat) : meq 3 (prM x) (prM y) = some (x == y) := by
  obtain ⟨a, b⟩ := x
  obtain ⟨c, d⟩ := y
  have : meq 3 (prM (a, b)) (prM (c, d)) = some (((a : Int) == (c : Int)) && (((b : Int) == (d : Int)) && true)) := rfl
  rw [this, Bool.and_true]
  congr 1
  rw [Bool.eq_iff_iff]
  simp
  lia
theorem count_pr (dn : List (Nat × Nat)) (y : Nat × Nat) : countM (dn.map prM) (prM y) = dn.count y := by
  unfold countM
  rw [List.countP_map]
  unfold List.count
  congr 1
  funext x
  simp [Function.comp, meq_pr]
end Mine
end
-- part MP7
section
open PySem PySem.W PyProof.Rows PySem.SeqAt
set_option maxRecDepth 100000
set_option linter.unusedSimpArgs false
set_option linter.unusedVariables false
namespace Mine
section
variable {G : Gd} {P : Params} {d : Nat} {fm : Fm}

theorem fresh_set {H : MHeap} {a c : Addr} {xs : List MV} (h : (H.set a xs) c = none) : a ≠ c ∧ H c = none := by
  have hne : a ≠ c := fun e => by rw [← e, MHeap.set_self] at h; cases h
  rw [MHeap.set_ne _ _ (Ne.symm hne)] at h
  exact ⟨hne, h⟩
theorem told_ne {H : MHeap} {a c : Addr} {xs : List MV} (h : H a = some xs) (hc : H c = none) : a ≠ c := fun e => by rw [e, hc] at h; cases h

/-- one letter -/
structure Lt1 (H : MHeap) (x : Addr) (L : List Nat) : Prop where
  at_ : H x = some (natInts L)
  len : ∃ n, L.length = 4 * n ∧ n ≤ 3
  lt : ∀ v ∈ L, v < 64
inductive Lts (H : MHeap) : List Addr → List (List Nat) → Prop
  | nil : Lts H [] []
  | cons {x : Addr} {L : List Nat} {xs : List Addr} {Ls : List (List Nat)} : Lt1 H x L → Lts H xs Ls → Lts H (x :: xs) (L :: Ls)
theorem Lts.mono {H H' : MHeap} {xs : List Addr} {Ls : List (List Nat)} (h : Lts H xs Ls) (k : ∀ x ∈ xs, ∀ ys, H x = some ys → H' x = some ys) : Lts H' xs Ls := by
  induction h with
  | nil => exact .nil
  | cons h r ih => exact .cons ⟨k _ (.head _) _ h.at_, h.len, h.lt⟩ (ih fun x hx => k x (.tail _ hx))
theorem Lts.not_mem {H : MHeap} {c : Addr} (hc : H c = none) {xs : List Addr} {Ls : List (List Nat)} (h : Lts H xs Ls) : c ∉ xs := by
  induction h with
  | nil => exact fun hm => nomatch hm
  | cons h r ih =>
    intro hm
    rcases List.mem_cons.mp hm with rfl | hm
    · rw [h.at_] at hc; cases hc
    · exact ih hm
theorem Lts.snoc {H : MHeap} {x : Addr} {L : List Nat} {xs : List Addr} {Ls : List (List Nat)} (h : Lts H xs Ls) (hl : Lt1 H x L) : Lts H (xs ++ [x]) (Ls ++ [L]) := by
  induction h with
  | nil => exact .cons hl .nil
  | cons h' r ih => exact .cons h' ih

theorem comp_letters {la src : Addr} {X : List MV} {Qf : MHeap → Prop} : ∀ (items : List Int) (addrs : List Addr) (Ls : List (List Nat)) (ρ : Loc) (H : MHeap), H la = some (addrs.map .lst) → H src = some X → src ≠ la → Lts H addrs Ls → la ∉ addrs → src ∉ addrs → addrs.Nodup → addrs.length + items.length ≤ 1000 →
    (∀ (addrs' : List Addr) (Ls' : List (List Nat)) (H' : MHeap), (∀ z ys, z ≠ la → H z = some ys → H' z = some ys) → H' la = some (addrs'.map .lst) → Lts H' addrs' Ls' → la ∉ addrs' → addrs'.Nodup → addrs'.length = addrs.length + items.length → (∀ x ∈ addrs', x ∈ addrs ∨ H x = none) → Qf H') →
    compW (fun _ Q H => Q true H) (fun ρ Q H => ∃ v, ρ 100 = some v ∧ w__law_values [v] Q H) (bind1 100) (fun H' => H' src = some X) la Qf (items.map .int) ρ H
  | [], addrs, Ls, ρ, H, h1, h2, h3, h4, h5, h6, h7, h8, hQ => hQ addrs Ls H (fun _ _ _ e => e) h1 h4 h5 h7 rfl (fun x hx => .inl hx)
  | i :: r, addrs, Ls, ρ, H, h1, h2, h3, h4, h5, h6, h7, h8, hQ => by
    refine ⟨ρ.set 100 (.int i), rfl, ?_⟩
    simp only [sx_then_next, sx_then_ret, sx_then_brk, sx_then_cont, sx_boolof, sx_set, sx_loc, sx_clear, sx_add_i, sx_add_b, sx_add_l, sx_sub, sx_mul_i, sx_mul_l, sx_mul_b, sx_div, sx_mod, sx_pow, sx_shl, sx_shr, sx_and, sx_or, sx_iadd, sx_eq_i, sx_eq_b, sx_eq_t, sx_eq_l, sx_ne_i, sx_ne_b, sx_ne_t, sx_lt_i, sx_lt_t, sx_le, sx_gt, sx_ge, sx_is, sx_isn, sx_tr_b, sx_tr_i, sx_tr_l, sx_neg, sx_it_l, sx_it_t, sx_it_b, sx_len_l, sx_len_b, sx_ty_b, sx_ty_p, sx_by, sx_app, sx_ext, sx_pop, sx_cnt, sx_pair, sx_tail, sx_mt_l, sx_mt_b, sx_nr0, sx_ib, sx_il, sx_ir1, sx_ir3, sx_irev, sx_ien, sx_mk, sx_trn, sx_resub, sx_isi1, sx_isi2, sx_sum, sx_min, sx_sorted, sx_si, sx_sl, sx_slr, sx_mis1, sx_mis2, sx_mis3, sx_mis4, String.reduceBEq, String.reduceEq, List.map_cons, List.map_nil, List.zip_cons_cons, List.zip_nil_right, List.lookup_cons, List.lookup_nil, List.any_cons, List.any_nil, Nat.reduceEqDiff, Nat.reduceBEq, beq_self_eq_true, Option.some.injEq, exists_eq_left', exists_eq_left, reduceCtorEq, ite_true, ite_false, if_true, if_false, ↓reduceIte, Bool.false_eq_true, decide_eq_true_eq, true_and, and_true, Bool.not_true, Bool.not_false, Bool.or_false, Bool.false_or, MHeap.set_self, exists_eq', List.length_cons, List.length_nil, Nat.zero_add, Nat.reduceAdd, Nat.reduceLeDiff]
    intro c L n hc hv hl hn
    have hlc := told_ne h1 hc
    have hsc := told_ne h2 hc
    have hac : c ∉ addrs := h4.not_mem hc
    refine ⟨addrs.map .lst, by rw [MHeap.set_ne _ _ hlc]; exact h1, by simp at h8 ⊢; lia, by rw [MHeap.set_ne _ _ h3, MHeap.set_ne _ _ hsc]; exact h2, ?_⟩
    refine comp_letters r (addrs ++ [c]) (Ls ++ [L]) _ _ (by rw [MHeap.set_self]; simp) (by rw [MHeap.set_ne _ _ h3, MHeap.set_ne _ _ hsc]; exact h2) h3 ?_ ?_ ?_ ?_ (by simp at h8 ⊢; lia) ?_
    · refine Lts.snoc (h4.mono fun x hx ys e => ?_) ⟨?_, ⟨n, hl, hn⟩, hv⟩
      · have x1 : x ≠ la := fun e => h5 (e ▸ hx)
        have x2 : x ≠ c := fun e => hac (e ▸ hx)
        rw [MHeap.set_ne _ _ x1, MHeap.set_ne _ _ x2]; exact e
      · rw [MHeap.set_ne _ _ (Ne.symm hlc), MHeap.set_self]
    · intro hm
      rcases List.mem_append.mp hm with g | g
      · exact h5 g
      · exact hlc (List.mem_singleton.mp g)
    · intro hm
      rcases List.mem_append.mp hm with g | g
      · exact h6 g
      · exact hsc (List.mem_singleton.mp g)
    · rw [List.nodup_append]
      refine ⟨h7, by simp, fun x hx y hy => ?_⟩
      rw [List.mem_singleton.mp hy]
      exact fun e => hac (e ▸ hx)
    · intro addrs' Ls' H' k1 k2 k3 k4 k5 k6 k7
      refine hQ addrs' Ls' H' (fun z ys hz e => ?_) k2 k3 k4 k5 (by simp at k6 ⊢; lia) (fun x hx => ?_)
      · have z2 : z ≠ c := fun w => by rw [w, hc] at e; cases e
        exact k1 z ys hz (by rw [MHeap.set_ne _ _ hz, MHeap.set_ne _ _ z2]; exact e)
      · rcases k7 x hx with g | g
        · rcases List.mem_append.mp g with g | g
          · exact .inl g
          · rw [List.mem_singleton.mp g]; exact .inr hc
        · have y1 := fresh_set g
          exact .inr (fresh_set y1.2).2

theorem sx_wlo {a : Addr} {Q : MV → MHeap → Prop} {H : MHeap} : w__law_octets [.lst a] Q H = ∃ (vs : List Nat) (n : Nat), H a = some (natInts vs) ∧ vs.length = 4 * n ∧ n ≤ 1000 ∧ (∀ v ∈ vs, v < 64) ∧ Q (.bytes (oct4 vs)) H := rfl
def entsFrom : Nat → List (List Nat) → List Ent
  | _, [] => []
  | p, L :: r => (p, oct4 L) :: entsFrom (p + 1) r
theorem comp_waiting {wt src : Addr} {X : List MV} {Qf : MHeap → Prop} : ∀ (xs : List Addr) (Ls : List (List Nat)) (p : Nat) (es : List Ent) (ρ : Loc) (H : MHeap), H wt = some (es.map ent) → H src = some X → src ≠ wt → Lts H xs Ls → wt ∉ xs → es.length + xs.length ≤ 1000 →
    Qf (H.set wt ((es ++ entsFrom p Ls).map ent)) →
    compW (fun _ Q H => Q true H) (fun ρ Q H => ∃ v, ρ 111 = some v ∧ wLen [v] (fun a H₁ => wDiv a (MV.int 4) (fun a H₁ => wMul a (MV.int 3) (fun v H₁ => ∃ v_1, ρ 110 = some v_1 ∧ ∃ v_2, ρ 111 = some v_2 ∧ w__law_octets [v_2] (fun v_3 H₂ => Q (.tup [v, v_1, v_3]) H₂) H₁) H₁) H₁) H) (bind2 110 111) (fun H' => H' src = some X) wt Qf (enumFrom p (xs.map .lst)) ρ H
  | [], Ls, p, es, ρ, H, h1, h2, h3, h4, h5, h6, hQ => by
    cases h4
    have e : H.set wt ((es ++ entsFrom p []).map ent) = H := by
      funext z; unfold MHeap.set; split
      · rename_i e; rw [e, h1]; simp [entsFrom]
      · rfl
    rw [e] at hQ
    exact hQ
  | x :: r, Ls, p, es, ρ, H, h1, h2, h3, h4, h5, h6, hQ => by
    cases h4 with
    | @cons _ L _ Ls' hL hr =>
      obtain ⟨n, hl, hn⟩ := hL.len
      refine ⟨(ρ.set 110 (.int (p : Nat))).set 111 (.lst x), rfl, ?_⟩
      have hlen : (natInts L).length = L.length := by simp [natInts]
      simp only [sx_wlo, hL.at_, sx_then_next, sx_then_ret, sx_then_brk, sx_then_cont, sx_boolof, sx_set, sx_loc, sx_clear, sx_add_i, sx_add_b, sx_add_l, sx_sub, sx_mul_i, sx_mul_l, sx_mul_b, sx_div, sx_mod, sx_pow, sx_shl, sx_shr, sx_and, sx_or, sx_iadd, sx_eq_i, sx_eq_b, sx_eq_t, sx_eq_l, sx_ne_i, sx_ne_b, sx_ne_t, sx_lt_i, sx_lt_t, sx_le, sx_gt, sx_ge, sx_is, sx_isn, sx_tr_b, sx_tr_i, sx_tr_l, sx_neg, sx_it_l, sx_it_t, sx_it_b, sx_len_l, sx_len_b, sx_ty_b, sx_ty_p, sx_by, sx_app, sx_ext, sx_pop, sx_cnt, sx_pair, sx_tail, sx_mt_l, sx_mt_b, sx_nr0, sx_ib, sx_il, sx_ir1, sx_ir3, sx_irev, sx_ien, sx_mk, sx_trn, sx_resub, sx_isi1, sx_isi2, sx_sum, sx_min, sx_sorted, sx_si, sx_sl, sx_slr, sx_mis1, sx_mis2, sx_mis3, sx_mis4, String.reduceBEq, String.reduceEq, List.map_cons, List.map_nil, List.zip_cons_cons, List.zip_nil_right, List.lookup_cons, List.lookup_nil, List.any_cons, List.any_nil, Nat.reduceEqDiff, Nat.reduceBEq, beq_self_eq_true, Option.some.injEq, exists_eq_left', exists_eq_left, reduceCtorEq, ite_true, ite_false, if_true, if_false, ↓reduceIte, Bool.false_eq_true, decide_eq_true_eq, true_and, and_true, Bool.not_true, Bool.not_false, Bool.or_false, Bool.false_or, MHeap.set_self, exists_eq', List.length_cons, List.length_nil, Nat.zero_add, Nat.reduceAdd, Nat.reduceLeDiff]
      have hwx : wt ≠ x := fun e => h5 (by rw [e]; exact .head _)
      refine ⟨by rw [hlen]; lia, by decide, by decide, L, n, rfl, hl, by lia, hL.lt, es.map ent, h1, by simp at h6 ⊢; lia, by rw [MHeap.set_ne _ _ h3]; exact h2, ?_⟩
      have e1 : es.map ent ++ [.tup [.int (((natInts L).length : Int).fdiv 4 * 3), .int (p : Nat), .bytes (oct4 L)]] = (es ++ [(p, oct4 L)]).map ent := by
        rw [List.map_append]
        congr 1
        have : ((natInts L).length : Int).fdiv 4 * 3 = (((oct4 L).length : Nat) : Int) := by
          rw [hlen, hl, oct4_len n L hl, show (4 : Int) = ((4 : Nat) : Int) from rfl, fdiv_nat]; lia
        rw [this]; rfl
      rw [e1]
      refine comp_waiting r Ls' (p + 1) (es ++ [(p, oct4 L)]) _ _ (MHeap.set_self _ _ _) (by rw [MHeap.set_ne _ _ h3]; exact h2) h3 (hr.mono fun z hz ys e => ?_) (fun hm => h5 (.tail _ hm)) (by simp at h6 ⊢; lia) ?_
      · rw [MHeap.set_ne _ _ (fun e => h5 (by rw [← e]; exact .tail _ hz))]; exact e
      · rw [MHeap.set_set]
        have : es ++ [(p, oct4 L)] ++ entsFrom (p + 1) Ls' = es ++ entsFrom p (L :: Ls') := by simp [entsFrom]
        rw [this]; exact hQ

theorem comp_filter {nw src : Addr} {X : List MV} {pl : Nat} {Qf : MHeap → Prop} : ∀ (es acc : List Ent) (ρ : Loc) (H : MHeap), ρ 10 = some (.int (pl : Nat)) → H nw = some (acc.map ent) → H src = some X → src ≠ nw → acc.length + es.length ≤ 1000 →
    Qf (H.set nw ((acc ++ es.filter fun e => e.1 != pl).map ent)) →
    compW (fun ρ Q H => ∃ v, ρ 130 = some v ∧ wItem v (MV.int 1) (fun a H₁ => ∃ v_1, ρ 10 = some v_1 ∧ wNe a v_1 (BoolOf Q) H₁) H) (fun ρ Q H => ∃ v, ρ 130 = some v ∧ Q v H) (bind1 130) (fun H' => H' src = some X) nw Qf (es.map ent) ρ H
  | [], acc, ρ, H, h0, h1, h2, h3, h4, hQ => by
    have e : H.set nw ((acc ++ ([] : List Ent).filter fun e => e.1 != pl).map ent) = H := by
      funext z; unfold MHeap.set; split
      · rename_i e; rw [e, h1]; simp
      · rfl
    rw [e] at hQ
    exact hQ
  | x :: r, acc, ρ, H, h0, h1, h2, h3, h4, hQ => by
    refine ⟨ρ.set 130 (ent x), rfl, ?_⟩
    have hx : ent x = .tup [.int (x.2.length : Nat), .int (x.1 : Nat), .bytes x.2] := rfl
    simp only [h0, sx_then_next, sx_then_ret, sx_then_brk, sx_then_cont, sx_boolof, sx_set, sx_loc, sx_clear, sx_add_i, sx_add_b, sx_add_l, sx_sub, sx_mul_i, sx_mul_l, sx_mul_b, sx_div, sx_mod, sx_pow, sx_shl, sx_shr, sx_and, sx_or, sx_iadd, sx_eq_i, sx_eq_b, sx_eq_t, sx_eq_l, sx_ne_i, sx_ne_b, sx_ne_t, sx_lt_i, sx_lt_t, sx_le, sx_gt, sx_ge, sx_is, sx_isn, sx_tr_b, sx_tr_i, sx_tr_l, sx_neg, sx_it_l, sx_it_t, sx_it_b, sx_len_l, sx_len_b, sx_ty_b, sx_ty_p, sx_by, sx_app, sx_ext, sx_pop, sx_cnt, sx_pair, sx_tail, sx_mt_l, sx_mt_b, sx_nr0, sx_ib, sx_il, sx_ir1, sx_ir3, sx_irev, sx_ien, sx_mk, sx_trn, sx_resub, sx_isi1, sx_isi2, sx_sum, sx_min, sx_sorted, sx_si, sx_sl, sx_slr, sx_mis1, sx_mis2, sx_mis3, sx_mis4, String.reduceBEq, String.reduceEq, List.map_cons, List.map_nil, List.zip_cons_cons, List.zip_nil_right, List.lookup_cons, List.lookup_nil, List.any_cons, List.any_nil, Nat.reduceEqDiff, Nat.reduceBEq, beq_self_eq_true, Option.some.injEq, exists_eq_left', exists_eq_left, reduceCtorEq, ite_true, ite_false, if_true, if_false, ↓reduceIte, Bool.false_eq_true, decide_eq_true_eq, true_and, and_true, Bool.not_true, Bool.not_false, Bool.or_false, Bool.false_or, MHeap.set_self, exists_eq', List.length_cons, List.length_nil, Nat.zero_add, Nat.reduceAdd, Nat.reduceLeDiff]
    rw [hx, sx_it_t]
    refine ⟨by decide, .int (x.1 : Nat), rfl, ?_⟩
    rw [sx_ne_i, sx_boolof]
    by_cases hp : x.1 = pl
    · rw [if_neg (by simp; lia)]
      refine ⟨h2, ?_⟩
      refine comp_filter (pl := pl) r acc _ H (by simp only [h0, sx_then_next, sx_then_ret, sx_then_brk, sx_then_cont, sx_boolof, sx_set, sx_loc, sx_clear, sx_add_i, sx_add_b, sx_add_l, sx_sub, sx_mul_i, sx_mul_l, sx_mul_b, sx_div, sx_mod, sx_pow, sx_shl, sx_shr, sx_and, sx_or, sx_iadd, sx_eq_i, sx_eq_b, sx_eq_t, sx_eq_l, sx_ne_i, sx_ne_b, sx_ne_t, sx_lt_i, sx_lt_t, sx_le, sx_gt, sx_ge, sx_is, sx_isn, sx_tr_b, sx_tr_i, sx_tr_l, sx_neg, sx_it_l, sx_it_t, sx_it_b, sx_len_l, sx_len_b, sx_ty_b, sx_ty_p, sx_by, sx_app, sx_ext, sx_pop, sx_cnt, sx_pair, sx_tail, sx_mt_l, sx_mt_b, sx_nr0, sx_ib, sx_il, sx_ir1, sx_ir3, sx_irev, sx_ien, sx_mk, sx_trn, sx_resub, sx_isi1, sx_isi2, sx_sum, sx_min, sx_sorted, sx_si, sx_sl, sx_slr, sx_mis1, sx_mis2, sx_mis3, sx_mis4, String.reduceBEq, String.reduceEq, List.map_cons, List.map_nil, List.zip_cons_cons, List.zip_nil_right, List.lookup_cons, List.lookup_nil, List.any_cons, List.any_nil, Nat.reduceEqDiff, Nat.reduceBEq, beq_self_eq_true, Option.some.injEq, exists_eq_left', exists_eq_left, reduceCtorEq, ite_true, ite_false, if_true, if_false, ↓reduceIte, Bool.false_eq_true, decide_eq_true_eq, true_and, and_true, Bool.not_true, Bool.not_false, Bool.or_false, Bool.false_or, MHeap.set_self, exists_eq', List.length_cons, List.length_nil, Nat.zero_add, Nat.reduceAdd, Nat.reduceLeDiff]) h1 h2 h3 (by simp at h4 ⊢; lia) ?_
      have : (x :: r).filter (fun e => e.1 != pl) = r.filter (fun e => e.1 != pl) := by rw [List.filter_cons]; simp [hp]
      rw [this] at hQ; exact hQ
    · rw [if_pos (by simp; lia)]
      refine ⟨acc.map ent, h1, by simp at h4 ⊢; lia, by rw [MHeap.set_ne _ _ h3]; exact h2, ?_⟩
      rw [← hx, show acc.map ent ++ [ent x] = (acc ++ [x]).map ent from by simp]
      refine comp_filter (pl := pl) r (acc ++ [x]) _ _ (by simp only [h0, sx_then_next, sx_then_ret, sx_then_brk, sx_then_cont, sx_boolof, sx_set, sx_loc, sx_clear, sx_add_i, sx_add_b, sx_add_l, sx_sub, sx_mul_i, sx_mul_l, sx_mul_b, sx_div, sx_mod, sx_pow, sx_shl, sx_shr, sx_and, sx_or, sx_iadd, sx_eq_i, sx_eq_b, sx_eq_t, sx_eq_l, sx_ne_i, sx_ne_b, sx_ne_t, sx_lt_i, sx_lt_t, sx_le, sx_gt, sx_ge, sx_is, sx_isn, sx_tr_b, sx_tr_i, sx_tr_l, sx_neg, sx_it_l, sx_it_t, sx_it_b, sx_len_l, sx_len_b, sx_ty_b, sx_ty_p, sx_by, sx_app, sx_ext, sx_pop, sx_cnt, sx_pair, sx_tail, sx_mt_l, sx_mt_b, sx_nr0, sx_ib, sx_il, sx_ir1, sx_ir3, sx_irev, sx_ien, sx_mk, sx_trn, sx_resub, sx_isi1, sx_isi2, sx_sum, sx_min, sx_sorted, sx_si, sx_sl, sx_slr, sx_mis1, sx_mis2, sx_mis3, sx_mis4, String.reduceBEq, String.reduceEq, List.map_cons, List.map_nil, List.zip_cons_cons, List.zip_nil_right, List.lookup_cons, List.lookup_nil, List.any_cons, List.any_nil, Nat.reduceEqDiff, Nat.reduceBEq, beq_self_eq_true, Option.some.injEq, exists_eq_left', exists_eq_left, reduceCtorEq, ite_true, ite_false, if_true, if_false, ↓reduceIte, Bool.false_eq_true, decide_eq_true_eq, true_and, and_true, Bool.not_true, Bool.not_false, Bool.or_false, Bool.false_or, MHeap.set_self, exists_eq', List.length_cons, List.length_nil, Nat.zero_add, Nat.reduceAdd, Nat.reduceLeDiff]) (MHeap.set_self _ _ _) (by rw [MHeap.set_ne _ _ h3]; exact h2) h3 (by simp at h4 ⊢; lia) ?_
      rw [MHeap.set_set]
      have : acc ++ [x] ++ r.filter (fun e => e.1 != pl) = acc ++ (x :: r).filter (fun e => e.1 != pl) := by rw [List.filter_cons]; simp [hp]
      rw [this]; exact hQ

theorem sx_whp {a : Addr} {Q : MV → MHeap → Prop} {H : MHeap} : w_heappop [.lst a] Q H = ∃ (e : Ent) (hs : List Ent), H a = some ((e :: hs).map ent) ∧ hs.length < 1000 ∧ Dist (e :: hs) ∧ HeapFrom 0 (e :: hs) ∧ ∀ hs' : List Ent, hs'.Perm hs → HeapFrom 0 hs' → Q (ent e) (H.set a (hs'.map ent)) := rfl
theorem comp_pops {nw src hp : Addr} {X : List MV} {A : List Ent} {Qf : MHeap → Prop} (hD : Dist A) (hz : A.length ≤ 900) : ∀ (items : List MV) (outs hs : List Ent) (ρ : Loc) (H : MHeap), ρ 5 = some (.lst hp) → H nw = some (outs.map ent) → H hp = some (hs.map ent) → H src = some X → src ≠ nw → src ≠ hp → hp ≠ nw → hs.length = items.length → (outs ++ hs).Perm A → HeapFrom 0 hs → outs.Pairwise hle → (∀ o ∈ outs, ∀ h ∈ hs, hle o h) →
    (∀ (outs' : List Ent) (H' : MHeap), outs'.Perm A → outs'.Pairwise hle → H' nw = some (outs'.map ent) → H' hp = some [] → (∀ z ys, z ≠ nw → z ≠ hp → H z = some ys → H' z = some ys) → Qf H') →
    compW (fun x Q H => Q true H) (fun ρ Q H => ∃ v, ρ 5 = some v ∧ w_heappop [v] Q H) (bind1 140) (fun H' => H' src = some X) nw Qf items ρ H
  | [], outs, hs, ρ, H, h0, h1, h2, h3, h4, h5, h6, h7, h8, h9, h10, h11, hQ => by
    match hs, h7 with
    | [], _ => exact hQ outs H (by simpa using h8) h10 h1 h2 (fun _ _ _ _ e => e)
  | x :: r, outs, hs, ρ, H, h0, h1, h2, h3, h4, h5, h6, h7, h8, h9, h10, h11, hQ => by
    match hs, h7 with
    | e :: hs, h7 =>
      refine ⟨ρ.set 140 x, rfl, ?_⟩
      simp only [h0, sx_whp, sx_then_next, sx_then_ret, sx_then_brk, sx_then_cont, sx_boolof, sx_set, sx_loc, sx_clear, sx_add_i, sx_add_b, sx_add_l, sx_sub, sx_mul_i, sx_mul_l, sx_mul_b, sx_div, sx_mod, sx_pow, sx_shl, sx_shr, sx_and, sx_or, sx_iadd, sx_eq_i, sx_eq_b, sx_eq_t, sx_eq_l, sx_ne_i, sx_ne_b, sx_ne_t, sx_lt_i, sx_lt_t, sx_le, sx_gt, sx_ge, sx_is, sx_isn, sx_tr_b, sx_tr_i, sx_tr_l, sx_neg, sx_it_l, sx_it_t, sx_it_b, sx_len_l, sx_len_b, sx_ty_b, sx_ty_p, sx_by, sx_app, sx_ext, sx_pop, sx_cnt, sx_pair, sx_tail, sx_mt_l, sx_mt_b, sx_nr0, sx_ib, sx_il, sx_ir1, sx_ir3, sx_irev, sx_ien, sx_mk, sx_trn, sx_resub, sx_isi1, sx_isi2, sx_sum, sx_min, sx_sorted, sx_si, sx_sl, sx_slr, sx_mis1, sx_mis2, sx_mis3, sx_mis4, String.reduceBEq, String.reduceEq, List.map_cons, List.map_nil, List.zip_cons_cons, List.zip_nil_right, List.lookup_cons, List.lookup_nil, List.any_cons, List.any_nil, Nat.reduceEqDiff, Nat.reduceBEq, beq_self_eq_true, Option.some.injEq, exists_eq_left', exists_eq_left, reduceCtorEq, ite_true, ite_false, if_true, if_false, ↓reduceIte, Bool.false_eq_true, decide_eq_true_eq, true_and, and_true, Bool.not_true, Bool.not_false, Bool.or_false, Bool.false_or, MHeap.set_self, exists_eq', List.length_cons, List.length_nil, Nat.zero_add, Nat.reduceAdd, Nat.reduceLeDiff]
      have hDo : Dist (outs ++ e :: hs) := hD.perm h8
      have hDe : Dist (e :: hs) := by
        unfold Dist at *
        rw [List.map_append, List.nodup_append] at hDo
        exact hDo.2.1
      have hl := h8.length_eq
      rw [List.length_append, List.length_cons] at hl
      refine ⟨e, hs, h2, by lia, hDe, h9, fun hs' hp' hF' => ?_⟩
      refine ⟨outs.map ent, by rw [MHeap.set_ne _ _ (Ne.symm h6)]; exact h1, by simp; lia, by rw [MHeap.set_ne _ _ h4, MHeap.set_ne _ _ h5]; exact h3, ?_⟩
      rw [show outs.map ent ++ [ent e] = (outs ++ [e]).map ent from by simp]
      refine comp_pops hD hz r (outs ++ [e]) hs' _ _ (by simp only [h0, sx_then_next, sx_then_ret, sx_then_brk, sx_then_cont, sx_boolof, sx_set, sx_loc, sx_clear, sx_add_i, sx_add_b, sx_add_l, sx_sub, sx_mul_i, sx_mul_l, sx_mul_b, sx_div, sx_mod, sx_pow, sx_shl, sx_shr, sx_and, sx_or, sx_iadd, sx_eq_i, sx_eq_b, sx_eq_t, sx_eq_l, sx_ne_i, sx_ne_b, sx_ne_t, sx_lt_i, sx_lt_t, sx_le, sx_gt, sx_ge, sx_is, sx_isn, sx_tr_b, sx_tr_i, sx_tr_l, sx_neg, sx_it_l, sx_it_t, sx_it_b, sx_len_l, sx_len_b, sx_ty_b, sx_ty_p, sx_by, sx_app, sx_ext, sx_pop, sx_cnt, sx_pair, sx_tail, sx_mt_l, sx_mt_b, sx_nr0, sx_ib, sx_il, sx_ir1, sx_ir3, sx_irev, sx_ien, sx_mk, sx_trn, sx_resub, sx_isi1, sx_isi2, sx_sum, sx_min, sx_sorted, sx_si, sx_sl, sx_slr, sx_mis1, sx_mis2, sx_mis3, sx_mis4, String.reduceBEq, String.reduceEq, List.map_cons, List.map_nil, List.zip_cons_cons, List.zip_nil_right, List.lookup_cons, List.lookup_nil, List.any_cons, List.any_nil, Nat.reduceEqDiff, Nat.reduceBEq, beq_self_eq_true, Option.some.injEq, exists_eq_left', exists_eq_left, reduceCtorEq, ite_true, ite_false, if_true, if_false, ↓reduceIte, Bool.false_eq_true, decide_eq_true_eq, true_and, and_true, Bool.not_true, Bool.not_false, Bool.or_false, Bool.false_or, MHeap.set_self, exists_eq', List.length_cons, List.length_nil, Nat.zero_add, Nat.reduceAdd, Nat.reduceLeDiff]) (MHeap.set_self _ _ _) (by rw [MHeap.set_ne _ _ h6, MHeap.set_self]) (by rw [MHeap.set_ne _ _ h4, MHeap.set_ne _ _ h5]; exact h3) h4 h5 h6 (by rw [hp'.length_eq]; simp at h7; exact h7) ?_ hF' ?_ ?_ ?_
      · rw [List.append_assoc]
        exact ((hp'.cons e).append_left outs).trans h8
      · rw [List.pairwise_append]
        refine ⟨h10, List.pairwise_singleton _ _, fun o ho y hy => ?_⟩
        rw [List.mem_singleton.mp hy]
        exact h11 o ho e (.head _)
      · intro o ho h hh
        have hh' := hp'.mem_iff.mp hh
        rcases List.mem_append.mp ho with g | g
        · exact h11 o g h (.tail _ hh')
        · rw [List.mem_singleton.mp g]
          exact heap_min h9 h (.tail _ hh')
      · intro outs' H' k1 k2 k3 k4 k5
        exact hQ outs' H' k1 k2 k3 k4 fun z ys z1 z2 e => k5 z ys z1 z2 (by rw [MHeap.set_ne _ _ z1, MHeap.set_ne _ _ z2]; exact e)

def w_law (G : Gd) : List MV → (MV → MHeap → Prop) → MHeap → Prop
  | [.raw (.ref a)], Q, H => ∃ ns : List Int, RO G a (ns.map .int) ∧ ns.length ≤ 63 ∧ Q (.bool true) H
  | _, _, _ => False
end
end Mine
end
-- part MP8
section
open PySem PySem.W PyProof.Rows PySem.SeqAt
set_option maxRecDepth 100000
set_option linter.unusedSimpArgs false
set_option linter.unusedVariables false
namespace Mine
section
variable {G : Gd} {P : Params} {d : Nat} {fm : Fm}

theorem ents_len : ∀ (Ls : List (List Nat)) (p : Nat), (entsFrom p Ls).length = Ls.length
  | [], _ => rfl
  | _ :: r, p => congrArg (· + 1) (ents_len r (p + 1))
theorem ents_mem : ∀ (Ls : List (List Nat)) (p : Nat) (e : Ent), e ∈ entsFrom p Ls → ∃ i L, Ls[i]? = some L ∧ e = (p + i, oct4 L)
  | L :: r, p, e, h => by
    rcases List.mem_cons.mp h with rfl | h
    · exact ⟨0, L, rfl, rfl⟩
    · obtain ⟨i, L', h1, h2⟩ := ents_mem r (p + 1) e h
      exact ⟨i + 1, L', by simpa using h1, by rw [h2, show p + 1 + i = p + (i + 1) from by lia]⟩
theorem ents_dist : ∀ (Ls : List (List Nat)) (p : Nat), Dist (entsFrom p Ls)
  | [], _ => List.nodup_nil
  | L :: r, p => by
    unfold Dist entsFrom
    rw [List.map_cons, List.nodup_cons]
    refine ⟨fun hm => ?_, ents_dist r (p + 1)⟩
    obtain ⟨e, he, h1⟩ := List.mem_map.mp hm
    obtain ⟨i, L', _, h2⟩ := ents_mem r (p + 1) e he
    rw [h2] at h1
    simp only at h1
    lia
theorem rep_zero (prev : Option Nat) (x : Nat) : rep (cnt [] p) prev x = 0 := by
  unfold rep cnt; simp
theorem grow_zero (p : Nat) : ∀ (L : List Nat) (prev : Option Nat), grow (cnt [] p) prev L = L
  | [], _ => rfl
  | x :: r, prev => by unfold grow; rw [rep_zero, grow_zero p r]; rfl
theorem curV_zero (p : Nat) (L : List Nat) : curV L (cnt [] p) = L := by
  unfold curV zeros
  rw [grow_zero]
  simp [cnt]
theorem Lts.lens {H : MHeap} {xs : List Addr} {Ls : List (List Nat)} (h : Lts H xs Ls) : xs.length = Ls.length := by
  induction h with
  | nil => rfl
  | cons _ _ ih => exact congrArg (· + 1) ih
theorem Lts.get {H : MHeap} {xs : List Addr} {Ls : List (List Nat)} {i : Nat} {L : List Nat} (h : Lts H xs Ls) (e : Ls[i]? = some L) : ∃ x, xs[i]? = some x ∧ Lt1 H x L := by
  induction h generalizing i with
  | nil => cases e
  | cons h r ih =>
    cases i with
    | zero => cases e; exact ⟨_, rfl, h⟩
    | succ i => exact ih e

/-- the heap's side of what holds at the head of the loop -/
structure LH (H0 : MHeap) (la : Addr) (addrs : List Addr) (Ls : List (List Nat)) (dn wt hp : Addr) (H : MHeap) (D W X : List MV) : Prop where
  sub : Sub H0 H
  fdn : H0 dn = none
  fwt : H0 wt = none
  fhp : H0 hp = none
  hla : H la = some (addrs.map .lst)
  lts : Lts H addrs Ls
  hdn : H dn = some D
  hwt : H wt = some W
  hhp : H hp = some X
  d1 : dn ≠ la
  d2 : dn ∉ addrs
  d3 : wt ≠ la
  d4 : wt ∉ addrs
  d5 : hp ≠ la
  d6 : hp ∉ addrs
  d7 : dn ≠ wt
  d8 : dn ≠ hp
  d9 : wt ≠ hp
theorem told_keep {H : MHeap} {a c : Addr} {xs ys : List MV} (h : H a = some xs) (hc : H c = none) : (H.set c ys) a = some xs := by
  rw [MHeap.set_ne _ _ (told_ne h hc)]; exact h
theorem Lts.set {H : MHeap} {xs : List Addr} {Ls : List (List Nat)} (h : Lts H xs Ls) {c : Addr} {ys : List MV} (hc : c ∉ xs) : Lts (H.set c ys) xs Ls :=
  h.mono fun x hx ws e => by rw [MHeap.set_ne _ _ (fun z : x = c => hc (z ▸ hx))]; exact e
theorem sub_fresh {H0 H : MHeap} (s : Sub H0 H) {c : Addr} (h : H c = none) : H0 c = none := by
  cases z : H0 c with
  | none => rfl
  | some ys => rw [s c ys z] at h; cases h
theorem sub_put {H0 H : MHeap} (s : Sub H0 H) {c : Addr} {ys : List MV} (h : H0 c = none) : Sub H0 (H.set c ys) := fun a xs e => by
  rw [MHeap.set_ne _ _ (fun z : a = c => by rw [z, h] at e; cases e)]; exact s a xs e
section
variable {H0 H : MHeap} {la dn wt hp : Addr} {addrs : List Addr} {Ls : List (List Nat)} {D W X : List MV}
theorem LH.fresh (I : LH H0 la addrs Ls dn wt hp H D W X) {c : Addr} (ys : List MV) (hc : H c = none) : LH H0 la addrs Ls dn wt hp (H.set c ys) D W X where
  sub := sub_put I.sub (sub_fresh I.sub hc)
  fdn := I.fdn
  fwt := I.fwt
  fhp := I.fhp
  hla := told_keep I.hla hc
  lts := I.lts.set (I.lts.not_mem hc)
  hdn := told_keep I.hdn hc
  hwt := told_keep I.hwt hc
  hhp := told_keep I.hhp hc
  d1 := I.d1
  d2 := I.d2
  d3 := I.d3
  d4 := I.d4
  d5 := I.d5
  d6 := I.d6
  d7 := I.d7
  d8 := I.d8
  d9 := I.d9
theorem LH.setDn (I : LH H0 la addrs Ls dn wt hp H D W X) (D' : List MV) : LH H0 la addrs Ls dn wt hp (H.set dn D') D' W X where
  sub := sub_put I.sub I.fdn
  fdn := I.fdn
  fwt := I.fwt
  fhp := I.fhp
  hla := by rw [MHeap.set_ne _ _ (Ne.symm I.d1)]; exact I.hla
  lts := I.lts.set I.d2
  hdn := MHeap.set_self _ _ _
  hwt := by rw [MHeap.set_ne _ _ (Ne.symm I.d7)]; exact I.hwt
  hhp := by rw [MHeap.set_ne _ _ (Ne.symm I.d8)]; exact I.hhp
  d1 := I.d1
  d2 := I.d2
  d3 := I.d3
  d4 := I.d4
  d5 := I.d5
  d6 := I.d6
  d7 := I.d7
  d8 := I.d8
  d9 := I.d9
theorem LH.setHp (I : LH H0 la addrs Ls dn wt hp H D W X) (X' : List MV) : LH H0 la addrs Ls dn wt hp (H.set hp X') D W X' where
  sub := sub_put I.sub I.fhp
  fdn := I.fdn
  fwt := I.fwt
  fhp := I.fhp
  hla := by rw [MHeap.set_ne _ _ (Ne.symm I.d5)]; exact I.hla
  lts := I.lts.set I.d6
  hdn := by rw [MHeap.set_ne _ _ I.d8]; exact I.hdn
  hwt := by rw [MHeap.set_ne _ _ I.d9]; exact I.hwt
  hhp := MHeap.set_self _ _ _
  d1 := I.d1
  d2 := I.d2
  d3 := I.d3
  d4 := I.d4
  d5 := I.d5
  d6 := I.d6
  d7 := I.d7
  d8 := I.d8
  d9 := I.d9
theorem LH.setWt (I : LH H0 la addrs Ls dn wt hp H D W X) (W' : List MV) : LH H0 la addrs Ls dn wt hp (H.set wt W') D W' X where
  sub := sub_put I.sub I.fwt
  fdn := I.fdn
  fwt := I.fwt
  fhp := I.fhp
  hla := by rw [MHeap.set_ne _ _ (Ne.symm I.d3)]; exact I.hla
  lts := I.lts.set I.d4
  hdn := by rw [MHeap.set_ne _ _ I.d7]; exact I.hdn
  hwt := MHeap.set_self _ _ _
  hhp := by rw [MHeap.set_ne _ _ (Ne.symm I.d9)]; exact I.hhp
  d1 := I.d1
  d2 := I.d2
  d3 := I.d3
  d4 := I.d4
  d5 := I.d5
  d6 := I.d6
  d7 := I.d7
  d8 := I.d8
  d9 := I.d9
theorem LH.newWt (I : LH H0 la addrs Ls dn wt hp H D W X) {c : Addr} (W' : List MV) (hc : H c = none) : LH H0 la addrs Ls dn c hp (H.set c W') D W' X where
  sub := sub_put I.sub (sub_fresh I.sub hc)
  fdn := I.fdn
  fwt := sub_fresh I.sub hc
  fhp := I.fhp
  hla := told_keep I.hla hc
  lts := I.lts.set (I.lts.not_mem hc)
  hdn := told_keep I.hdn hc
  hwt := MHeap.set_self _ _ _
  hhp := told_keep I.hhp hc
  d1 := I.d1
  d2 := I.d2
  d3 := Ne.symm (told_ne I.hla hc)
  d4 := I.lts.not_mem hc
  d5 := I.d5
  d6 := I.d6
  d7 := told_ne I.hdn hc
  d8 := I.d8
  d9 := Ne.symm (told_ne I.hhp hc)
end
/-- the names' side -/
structure LR (ρ : Loc) (la : Addr) (marks : Int) (dn wt hp : Addr) : Prop where
  r1 : ρ 1 = some (.lst la)
  r2 : ρ 2 = some (.int marks)
  r3 : ρ 3 = some (.lst dn)
  r4 : ρ 4 = some (.lst wt)
  r5 : ρ 5 = some (.lst hp)
/-- the plain side -/
structure LP (Ls : List (List Nat)) (dnl : List (Nat × Nat)) (es hs : List Ent) : Prop where
  perm : hs.Perm es
  heap : HeapFrom 0 hs
  dist : Dist es
  few : es.length ≤ 8
  vals : ∀ e ∈ es, ∃ L, Ls[e.1]? = some L ∧ e.2 = oct4 (curV L (cnt dnl e.1))
inductive LJ (H0 : MHeap) (la : Addr) (addrs : List Addr) (Ls : List (List Nat)) (marks : Int) (t : Nat) (ρ : Loc) (H : MHeap) : Prop
  | mk (dn wt hp : Addr) (dnl : List (Nat × Nat)) (es hs : List Ent) (hdl : dnl.length = t) (hR : LR ρ la marks dn wt hp) (hI : LH H0 la addrs Ls dn wt hp H (dnl.map prM) (es.map ent) (hs.map ent)) (hP : LP Ls dnl es hs) : LJ H0 la addrs Ls marks t ρ H

theorem filt_perm {e : Ent} {hs es : List Ent} (h : (e :: hs).Perm es) (hD : Dist es) : hs.Perm (es.filter fun f => f.1 != e.1) := by
  have hD' : Dist (e :: hs) := hD.perm h
  have h1 := h.filter (fun f => f.1 != e.1)
  have h2 : (e :: hs).filter (fun f => f.1 != e.1) = hs := by
    rw [List.filter_cons]
    simp only [bne_self_eq_false, Bool.false_eq_true, if_false]
    rw [List.filter_eq_self]
    intro f hf
    unfold Dist at hD'
    rw [List.map_cons, List.nodup_cons] at hD'
    have : f.1 ≠ e.1 := fun z => hD'.1 (z ▸ List.mem_map.mpr ⟨f, hf, rfl⟩)
    simpa using this
  rw [h2] at h1; exact h1
theorem LP.out {Ls : List (List Nat)} {dnl : List (Nat × Nat)} {es hs hs' : List Ent} {e : Ent} {m : Nat} (I : LP Ls dnl es (e :: hs)) (hp : hs'.Perm hs) (hF : HeapFrom 0 hs') : LP Ls (dnl ++ [(e.1, m)]) (es.filter fun f => f.1 != e.1) hs' where
  perm := hp.trans (filt_perm I.perm I.dist)
  heap := hF
  dist := by
    have := I.dist
    unfold Dist at *
    exact this.sublist (List.filter_sublist.map _)
  few := Nat.le_trans (List.length_filter_le _ _) I.few
  vals := fun f hf => by
    obtain ⟨h1, h2⟩ := List.mem_filter.mp hf
    obtain ⟨L, h3, h4⟩ := I.vals f h1
    refine ⟨L, h3, ?_⟩
    rw [cnt_other]; exact h4
    simpa using h2
theorem LP.back {Ls : List (List Nat)} {dnl : List (Nat × Nat)} {es hs hs' : List Ent} {e : Ent} {m : Nat} {L : List Nat} {oc : List UInt8} (I : LP Ls dnl es (e :: hs)) (hL : Ls[e.1]? = some L) (ho : oc = oct4 (curV L (cnt (dnl ++ [(e.1, m)]) e.1)))
    (hp : hs'.Perm ((e.1, oc) :: hs)) (hF : HeapFrom 0 hs') : LP Ls (dnl ++ [(e.1, m)]) ((es.filter fun f => f.1 != e.1) ++ [(e.1, oc)]) hs' where
  perm := (hp.trans ((filt_perm I.perm I.dist).cons _)).trans (List.perm_append_singleton _ _).symm
  heap := hF
  dist := by
    have := I.dist
    unfold Dist at *
    rw [List.map_append, List.nodup_append]
    refine ⟨this.sublist (List.filter_sublist.map _), by simp, fun x hx y hy => ?_⟩
    obtain ⟨f, hf, rfl⟩ := List.mem_map.mp hx
    have := (List.mem_filter.mp hf).2
    simp at hy this
    rw [hy]; exact this
  few := by
    have h1 := (filt_perm I.perm I.dist).length_eq
    have h2 := I.perm.length_eq
    have h3 := I.few
    simp at h2 ⊢
    lia
  vals := fun f hf => by
    rcases List.mem_append.mp hf with hf | hf
    · obtain ⟨h1, h2⟩ := List.mem_filter.mp hf
      obtain ⟨L, h3, h4⟩ := I.vals f h1
      refine ⟨L, h3, ?_⟩
      rw [cnt_other]; exact h4
      simpa using h2
    · rw [List.mem_singleton.mp hf]
      exact ⟨L, hL, ho⟩

theorem loop_turns {H0 : MHeap} {la : Addr} {addrs : List Addr} {Ls : List (List Nat)} {marks : Int} {Wb : WS} {K : MFlow → Loc → MHeap → Prop}
    (step : ∀ t ρ H K', t < 9 → LJ H0 la addrs Ls marks t ρ H → (∀ t ρ' H', LJ H0 la addrs Ls marks t ρ' H' → K' .brk ρ' H') → (∀ ρ' H', LJ H0 la addrs Ls marks (t + 1) ρ' H' → K' .next ρ' H') → Wb (ρ.set 6 (.int (t : Nat))) K' H)
    (fin : ∀ t ρ H, LJ H0 la addrs Ls marks t ρ H → K .next ρ H) : ∀ n t ρ H, n + t = 9 → LJ H0 la addrs Ls marks t ρ H → loopW Wb 6 (fun _ => True) K (runItems (t : Nat) 1 n) ρ H
  | 0, t, ρ, H, _, hJ => fin t ρ H hJ
  | n + 1, t, ρ, H, hn, hJ => by
    rw [run_cons]
    refine step t ρ H _ (by lia) hJ (fun t' ρ' H' hJ' => fin t' ρ' H' hJ') fun ρ' H' hJ' => ⟨trivial, ?_⟩
    exact loop_turns step fin n (t + 1) ρ' H' (by lia) hJ'

/-- one turn's octets, read and written -/
theorem turn_read {L : List Nat} {n m : Nat} (hm : m < 4) (hL : L.length = 4 * n) (hn : n ≤ 3) (hv : ∀ v ∈ L, v < 64) {ts : Nat → Nat} (hts : tsum ts ≤ 9) :
    ∃ k, (curV L ts).length = 4 * k ∧ k ≤ 100 := by
  obtain ⟨k, h1, h2⟩ := curV_len hL ts
  refine ⟨k, h1, ?_⟩
  have : tsum ts * (L.length + 3) ≤ 9 * 15 := Nat.mul_le_mul hts (by lia)
  lia
theorem turn_sent {m : Nat} (hm : m < 4) {vs : List Nat} (h : ∀ v ∈ vs, v < 64) : quote true (trans (mkTab [43, 47] [sg0 m, sg1 m]).toList (vs.map b64char)) = (gq m true vs).map (sgn m) := by
  rw [trans_enc hm h, quote_vals hm vs true h]
theorem gq_len (m : Nat) : ∀ (vs : List Nat) (ls : Bool), (gq m ls vs).length ≤ 2 * vs.length
  | [], _ => Nat.le_refl 0
  | x :: r, ls => by
    have := gq_len m r (isNl m x)
    show ((if ls && x == dotV m then [x, x] else [x]) ++ gq m (isNl m x) r).length ≤ 2 * (r.length + 1)
    rw [List.length_append]
    split <;> simp <;> lia
theorem gq_lt (m : Nat) : ∀ (vs : List Nat) (ls : Bool), (∀ v ∈ vs, v < 64) → ∀ v ∈ gq m ls vs, v < 64
  | [], _, _, v, hv => nomatch hv
  | x :: r, ls, h, v, hv => by
    have hv' : v ∈ (if ls && x == dotV m then [x, x] else [x]) ++ gq m (isNl m x) r := hv
    rcases List.mem_append.mp hv' with g | g
    · have : v = x := by
        split at g
        · simpa using g
        · simpa using g
      rw [this]; exact h x (.head _)
    · exact gq_lt m r _ (fun w hw => h w (.tail _ hw)) v g
theorem turn_back {m : Nat} (hm : m < 4) {vs : List Nat} (h : ∀ v ∈ vs, v < 64) : trans (mkTab [sg0 m, sg1 m] [43, 47]).toList ((gq m true vs).map (sgn m) ++ List.replicate (padOf (gq m true vs).length) 65) = (gq m true vs ++ List.replicate (padOf (gq m true vs).length) 0).map b64char := by
  have e : (gq m true vs).map (sgn m) ++ List.replicate (padOf (gq m true vs).length) 65 = (gq m true vs ++ List.replicate (padOf (gq m true vs).length) 0).map (sgn m) := by
    rw [List.map_append, List.map_replicate, sgn_zero ⟨m, hm⟩]
  rw [e, trans_dec hm]
  intro v hv
  rcases List.mem_append.mp hv with g | g
  · exact gq_lt m vs true h v g
  · rw [(List.mem_replicate.mp g).2]; lia

theorem sx_why {a : Addr} {Q : MV → MHeap → Prop} {H : MHeap} : w_heapify [.lst a] Q H = ∃ (hs : List Ent), H a = some (hs.map ent) ∧ hs.length ≤ 1000 ∧ Dist hs ∧ ∀ hs' : List Ent, hs'.Perm hs → HeapFrom 0 hs' → Q .none (H.set a (hs'.map ent)) := rfl

end
end Mine
end
-- part MP9
section
open PySem PySem.W PyProof.Rows PySem.SeqAt
set_option maxRecDepth 100000
set_option linter.unusedSimpArgs false
set_option linter.unusedVariables false
namespace Mine
section
variable {G : Gd} {P : Params} {d : Nat} {fm : Fm}

theorem both2 {b : Prop} [Decidable b] {X : Int} {F : Int → Prop} {m : Nat} (hm : X + (if b then 2 else 0) = (m : Nat)) (h : F (m : Nat)) : if b then F (X + 2) else F (X + 0) := by
  split at hm
  · rename_i hb
    rw [if_pos hb, hm]; exact h
  · rename_i hb
    rw [if_neg hb, hm]; exact h
theorem manner (X : Int) (b : Prop) [Decidable b] : ∃ m : Nat, X.fmod 2 + (if b then 2 else 0) = (m : Nat) ∧ m < 4 := by
  have := fmod_bd X (b := 2) (by decide)
  refine ⟨(X.fmod 2 + (if b then 2 else 0)).toNat, ?_, ?_⟩ <;> split <;> lia
theorem signs_at {m : Nat} (hm : m < 4) : [MV.bytes [46, 10], MV.bytes [10, 46], MV.bytes [46, 13], MV.bytes [13, 46]][m]? = some (.bytes [sg0 m, sg1 m]) := by
  rcases (show m = 0 ∨ m = 1 ∨ m = 2 ∨ m = 3 by lia) with rfl | rfl | rfl | rfl <;> rfl
theorem sx_wbe {l : List UInt8} {x y : UInt8} {Q : MV → MHeap → Prop} {H : MHeap} : w_b64encode [.bytes l, .bytes [x, y]] Q H = ∃ vs n, l = oct4 vs ∧ vs.length = 4 * n ∧ n ≤ 5000 ∧ (∀ v ∈ vs, v < 64) ∧ Q (.bytes (trans (mkTab [43, 47] [x, y]).toList (vs.map b64char))) H := rfl
theorem sx_wbd {l : List UInt8} {x y : UInt8} {Q : MV → MHeap → Prop} {H : MHeap} : w_b64decode [.bytes l, .bytes [x, y]] Q H = ∃ vs n, trans (mkTab [x, y] [43, 47]).toList l = vs.map b64char ∧ vs.length = 4 * n ∧ n ≤ 5000 ∧ (∀ v ∈ vs, v < 64) ∧ Q (.bytes (oct4 vs)) H := rfl
theorem sx_wqp {l : List UInt8} {Q : MV → MHeap → Prop} {H : MHeap} : w__quote_periods [.bytes l] Q H = (l.length ≤ 100000 ∧ Q (.bytes (quote true l)) H) := rfl
theorem meq_pair (e : Ent) (l : List UInt8) : meq 3 (.tup [ent e, .bytes l]) (.tup [ent e, .bytes l]) = some true := by
  have : meq 3 (.tup [ent e, .bytes l]) (.tup [ent e, .bytes l]) = some (((((e.2.length : Nat) : Int) == ((e.2.length : Nat) : Int)) && ((((e.1 : Nat) : Int) == ((e.1 : Nat) : Int)) && ((e.2 == e.2) && true))) && ((l == l) && true)) := rfl
  rw [this]
  simp only [beq_self_eq_true, Bool.and_self]
theorem comp_turns {acc dn : Addr} {dnl : List (Nat × Nat)} {p : Nat} {Qf : MHeap → Prop} {H : MHeap} (hdn : H dn = some (dnl.map prM)) (hc : H acc = none) : ∀ (js : List Nat) (ys : List MV) (ρ : Loc), ρ 3 = some (.lst dn) → ρ 10 = some (.int (p : Nat)) → ys.length + js.length ≤ 100 →
    Qf (H.set acc (ys ++ js.map fun j => .int (cnt dnl p j : Nat))) →
    compW (fun x Q H => Q true H) (fun ρ Q H => ∃ v, ρ 3 = some v ∧ mtype "list" v H ∧ ∃ v_3, ρ 10 = some v_3 ∧ ∃ v_4, ρ 120 = some v_4 ∧ wCount [v, MV.tup [v_3, v_4]] Q H) (bind1 120) (fun _ => True) acc Qf (js.map fun j => .int (j : Nat)) ρ (H.set acc ys)
  | [], ys, ρ, r3, r10, hl, hQ => by
    rw [List.map_nil, List.append_nil] at hQ
    exact hQ
  | j :: js, ys, ρ, r3, r10, hl, hQ => by
    have hd : ∀ ys, (H.set acc ys) dn = some (dnl.map prM) := fun ys => told_keep hdn hc
    refine ⟨ρ.set 120 (.int (j : Nat)), rfl, ?_⟩
    simp only [r3, r10, if_true]
    refine ⟨.lst dn, by simp only [r3, sx_then_next, sx_then_ret, sx_then_brk, sx_then_cont, sx_boolof, sx_set, sx_loc, sx_clear, sx_add_i, sx_add_b, sx_add_l, sx_sub, sx_mul_i, sx_mul_l, sx_mul_b, sx_div, sx_mod, sx_pow, sx_shl, sx_shr, sx_and, sx_or, sx_iadd, sx_eq_i, sx_eq_b, sx_eq_t, sx_eq_l, sx_ne_i, sx_ne_b, sx_ne_t, sx_lt_i, sx_lt_t, sx_le, sx_gt, sx_ge, sx_is, sx_isn, sx_tr_b, sx_tr_i, sx_tr_l, sx_neg, sx_it_l, sx_it_t, sx_it_b, sx_len_l, sx_len_b, sx_ty_b, sx_ty_p, sx_by, sx_app, sx_ext, sx_pop, sx_cnt, sx_pair, sx_tail, sx_mt_l, sx_mt_b, sx_nr0, sx_ib, sx_il, sx_ir1, sx_ir3, sx_irev, sx_ien, sx_mk, sx_trn, sx_resub, sx_isi1, sx_isi2, sx_sum, sx_min, sx_sorted, sx_si, sx_sl, sx_slr, sx_mis1, sx_mis2, sx_mis3, sx_mis4, String.reduceBEq, String.reduceEq, List.map_cons, List.map_nil, List.zip_cons_cons, List.zip_nil_right, List.lookup_cons, List.lookup_nil, List.any_cons, List.any_nil, Nat.reduceEqDiff, Nat.reduceBEq, beq_self_eq_true, Option.some.injEq, exists_eq_left', exists_eq_left, reduceCtorEq, ite_true, ite_false, if_true, if_false, ↓reduceIte, Bool.false_eq_true, decide_eq_true_eq, true_and, and_true, Bool.not_true, Bool.not_false, Bool.or_false, Bool.false_or, MHeap.set_self, exists_eq', List.length_cons, List.length_nil, Nat.zero_add, Nat.reduceAdd, Nat.reduceLeDiff], ⟨_, hd _⟩, .int (p : Nat), by simp only [r10, sx_then_next, sx_then_ret, sx_then_brk, sx_then_cont, sx_boolof, sx_set, sx_loc, sx_clear, sx_add_i, sx_add_b, sx_add_l, sx_sub, sx_mul_i, sx_mul_l, sx_mul_b, sx_div, sx_mod, sx_pow, sx_shl, sx_shr, sx_and, sx_or, sx_iadd, sx_eq_i, sx_eq_b, sx_eq_t, sx_eq_l, sx_ne_i, sx_ne_b, sx_ne_t, sx_lt_i, sx_lt_t, sx_le, sx_gt, sx_ge, sx_is, sx_isn, sx_tr_b, sx_tr_i, sx_tr_l, sx_neg, sx_it_l, sx_it_t, sx_it_b, sx_len_l, sx_len_b, sx_ty_b, sx_ty_p, sx_by, sx_app, sx_ext, sx_pop, sx_cnt, sx_pair, sx_tail, sx_mt_l, sx_mt_b, sx_nr0, sx_ib, sx_il, sx_ir1, sx_ir3, sx_irev, sx_ien, sx_mk, sx_trn, sx_resub, sx_isi1, sx_isi2, sx_sum, sx_min, sx_sorted, sx_si, sx_sl, sx_slr, sx_mis1, sx_mis2, sx_mis3, sx_mis4, String.reduceBEq, String.reduceEq, List.map_cons, List.map_nil, List.zip_cons_cons, List.zip_nil_right, List.lookup_cons, List.lookup_nil, List.any_cons, List.any_nil, Nat.reduceEqDiff, Nat.reduceBEq, beq_self_eq_true, Option.some.injEq, exists_eq_left', exists_eq_left, reduceCtorEq, ite_true, ite_false, if_true, if_false, ↓reduceIte, Bool.false_eq_true, decide_eq_true_eq, true_and, and_true, Bool.not_true, Bool.not_false, Bool.or_false, Bool.false_or, MHeap.set_self, exists_eq', List.length_cons, List.length_nil, Nat.zero_add, Nat.reduceAdd, Nat.reduceLeDiff], .int (j : Nat), by simp only [sx_then_next, sx_then_ret, sx_then_brk, sx_then_cont, sx_boolof, sx_set, sx_loc, sx_clear, sx_add_i, sx_add_b, sx_add_l, sx_sub, sx_mul_i, sx_mul_l, sx_mul_b, sx_div, sx_mod, sx_pow, sx_shl, sx_shr, sx_and, sx_or, sx_iadd, sx_eq_i, sx_eq_b, sx_eq_t, sx_eq_l, sx_ne_i, sx_ne_b, sx_ne_t, sx_lt_i, sx_lt_t, sx_le, sx_gt, sx_ge, sx_is, sx_isn, sx_tr_b, sx_tr_i, sx_tr_l, sx_neg, sx_it_l, sx_it_t, sx_it_b, sx_len_l, sx_len_b, sx_ty_b, sx_ty_p, sx_by, sx_app, sx_ext, sx_pop, sx_cnt, sx_pair, sx_tail, sx_mt_l, sx_mt_b, sx_nr0, sx_ib, sx_il, sx_ir1, sx_ir3, sx_irev, sx_ien, sx_mk, sx_trn, sx_resub, sx_isi1, sx_isi2, sx_sum, sx_min, sx_sorted, sx_si, sx_sl, sx_slr, sx_mis1, sx_mis2, sx_mis3, sx_mis4, String.reduceBEq, String.reduceEq, List.map_cons, List.map_nil, List.zip_cons_cons, List.zip_nil_right, List.lookup_cons, List.lookup_nil, List.any_cons, List.any_nil, Nat.reduceEqDiff, Nat.reduceBEq, beq_self_eq_true, Option.some.injEq, exists_eq_left', exists_eq_left, reduceCtorEq, ite_true, ite_false, if_true, if_false, ↓reduceIte, Bool.false_eq_true, decide_eq_true_eq, true_and, and_true, Bool.not_true, Bool.not_false, Bool.or_false, Bool.false_or, MHeap.set_self, exists_eq', List.length_cons, List.length_nil, Nat.zero_add, Nat.reduceAdd, Nat.reduceLeDiff], ?_⟩
    rw [sx_cnt]
    refine ⟨_, hd ys, fun y hy => ?_, ?_⟩
    · obtain ⟨z, _, rfl⟩ := List.mem_map.mp hy
      have := meq_pr z (p, j)
      rw [show MV.tup [.int (p : Nat), .int (j : Nat)] = prM (p, j) from rfl, this]; rfl
    · have := count_pr dnl (p, j)
      rw [show MV.tup [.int (p : Nat), .int (j : Nat)] = prM (p, j) from rfl, this]
      simp at hl
      refine ⟨_, MHeap.set_self _ _ _, by lia, trivial, ?_⟩
      rw [MHeap.set_set]
      refine comp_turns (p := p) hdn hc js _ _ (by simp only [r3, sx_then_next, sx_then_ret, sx_then_brk, sx_then_cont, sx_boolof, sx_set, sx_loc, sx_clear, sx_add_i, sx_add_b, sx_add_l, sx_sub, sx_mul_i, sx_mul_l, sx_mul_b, sx_div, sx_mod, sx_pow, sx_shl, sx_shr, sx_and, sx_or, sx_iadd, sx_eq_i, sx_eq_b, sx_eq_t, sx_eq_l, sx_ne_i, sx_ne_b, sx_ne_t, sx_lt_i, sx_lt_t, sx_le, sx_gt, sx_ge, sx_is, sx_isn, sx_tr_b, sx_tr_i, sx_tr_l, sx_neg, sx_it_l, sx_it_t, sx_it_b, sx_len_l, sx_len_b, sx_ty_b, sx_ty_p, sx_by, sx_app, sx_ext, sx_pop, sx_cnt, sx_pair, sx_tail, sx_mt_l, sx_mt_b, sx_nr0, sx_ib, sx_il, sx_ir1, sx_ir3, sx_irev, sx_ien, sx_mk, sx_trn, sx_resub, sx_isi1, sx_isi2, sx_sum, sx_min, sx_sorted, sx_si, sx_sl, sx_slr, sx_mis1, sx_mis2, sx_mis3, sx_mis4, String.reduceBEq, String.reduceEq, List.map_cons, List.map_nil, List.zip_cons_cons, List.zip_nil_right, List.lookup_cons, List.lookup_nil, List.any_cons, List.any_nil, Nat.reduceEqDiff, Nat.reduceBEq, beq_self_eq_true, Option.some.injEq, exists_eq_left', exists_eq_left, reduceCtorEq, ite_true, ite_false, if_true, if_false, ↓reduceIte, Bool.false_eq_true, decide_eq_true_eq, true_and, and_true, Bool.not_true, Bool.not_false, Bool.or_false, Bool.false_or, MHeap.set_self, exists_eq', List.length_cons, List.length_nil, Nat.zero_add, Nat.reduceAdd, Nat.reduceLeDiff]) (by simp only [r10, sx_then_next, sx_then_ret, sx_then_brk, sx_then_cont, sx_boolof, sx_set, sx_loc, sx_clear, sx_add_i, sx_add_b, sx_add_l, sx_sub, sx_mul_i, sx_mul_l, sx_mul_b, sx_div, sx_mod, sx_pow, sx_shl, sx_shr, sx_and, sx_or, sx_iadd, sx_eq_i, sx_eq_b, sx_eq_t, sx_eq_l, sx_ne_i, sx_ne_b, sx_ne_t, sx_lt_i, sx_lt_t, sx_le, sx_gt, sx_ge, sx_is, sx_isn, sx_tr_b, sx_tr_i, sx_tr_l, sx_neg, sx_it_l, sx_it_t, sx_it_b, sx_len_l, sx_len_b, sx_ty_b, sx_ty_p, sx_by, sx_app, sx_ext, sx_pop, sx_cnt, sx_pair, sx_tail, sx_mt_l, sx_mt_b, sx_nr0, sx_ib, sx_il, sx_ir1, sx_ir3, sx_irev, sx_ien, sx_mk, sx_trn, sx_resub, sx_isi1, sx_isi2, sx_sum, sx_min, sx_sorted, sx_si, sx_sl, sx_slr, sx_mis1, sx_mis2, sx_mis3, sx_mis4, String.reduceBEq, String.reduceEq, List.map_cons, List.map_nil, List.zip_cons_cons, List.zip_nil_right, List.lookup_cons, List.lookup_nil, List.any_cons, List.any_nil, Nat.reduceEqDiff, Nat.reduceBEq, beq_self_eq_true, Option.some.injEq, exists_eq_left', exists_eq_left, reduceCtorEq, ite_true, ite_false, if_true, if_false, ↓reduceIte, Bool.false_eq_true, decide_eq_true_eq, true_and, and_true, Bool.not_true, Bool.not_false, Bool.or_false, Bool.false_or, MHeap.set_self, exists_eq', List.length_cons, List.length_nil, Nat.zero_add, Nat.reduceAdd, Nat.reduceLeDiff]) (by simp; lia) ?_
      rw [List.append_assoc]; exact hQ

theorem ents_eq : ∀ es : List Ent, allSome (List.zipWith (meq 3) (es.map ent) (es.map ent)) = some true
  | [] => rfl
  | e :: r => by
    have h0 : meq 3 (ent e) (ent e) = some ((((e.2.length : Nat) : Int) == ((e.2.length : Nat) : Int)) && ((((e.1 : Nat) : Int) == ((e.1 : Nat) : Int)) && ((e.2 == e.2) && true))) := rfl
    have h1 : meq 3 (ent e) (ent e) = some true := by rw [h0]; simp only [beq_self_eq_true, Bool.and_self]
    rw [List.map_cons, List.zipWith_cons_cons, h1]
    show (match allSome (List.zipWith (meq 3) (r.map ent) (r.map ent)) with | some b => some (true && b) | none => none) = _
    rw [ents_eq r]; rfl

theorem turn_all {L : List Nat} {n m : Nat} {dnl : List (Nat × Nat)} {p : Nat} (hm4 : m < 4) (hLn : L.length = 4 * n) (hn3 : n ≤ 3) (hlt : ∀ v ∈ L, v < 64) (hd : dnl.length < 9) :
    ∃ (V V' : List Nat) (S : List UInt8) (k k' q : Nat), V = curV L (cnt dnl p) ∧ V' = curV L (cnt (dnl ++ [(p, m)]) p) ∧ V.length = 4 * k ∧ k ≤ 100 ∧ (∀ v ∈ V, v < 64) ∧ V'.length = 4 * k' ∧ k' ≤ 100 ∧ (∀ v ∈ V', v < 64) ∧
      tsum (cnt (dnl ++ [(p, m)]) p) ≤ 9 ∧ (trans (mkTab [43, 47] [sg0 m, sg1 m]).toList (V.map b64char)).length ≤ 400 ∧ quote true (trans (mkTab [43, 47] [sg0 m, sg1 m]).toList (V.map b64char)) = S ∧ S.length ≤ 800 ∧
      Int.fmod (-((S.length : Nat) : Int)) 4 = ((q : Nat) : Int) ∧ q < 4 ∧ trans (mkTab [sg0 m, sg1 m] [43, 47]).toList (S ++ List.replicate q 65) = V'.map b64char := by
  have hts : tsum (cnt dnl p) ≤ 9 := Nat.le_trans (tsum_le _ _) (by lia)
  have hts2 : tsum (cnt (dnl ++ [(p, m)]) p) ≤ 9 := Nat.le_trans (tsum_le _ _) (by rw [List.length_append]; simp; lia)
  obtain ⟨k, hcl, hck⟩ := turn_read hm4 hLn hn3 hlt hts
  obtain ⟨k', hcl', hck'⟩ := turn_read hm4 hLn hn3 hlt hts2
  have hcv := curV_lt (ts := cnt dnl p) hlt
  have hgl := gq_len m (curV L (cnt dnl p)) true
  have htb := turn_back hm4 hcv
  rw [turn_vals hm4 hLn (cnt dnl p), ← cnt_bump] at htb
  refine ⟨_, _, (gq m true (curV L (cnt dnl p))).map (sgn m), k, k', padOf (gq m true (curV L (cnt dnl p))).length, rfl, rfl, hcl, hck, hcv, hcl', hck', curV_lt hlt, hts2, ?_, turn_sent hm4 hcv, ?_, ?_, pad_lt _, htb⟩
  · unfold trans; rw [List.length_map, List.length_map]; lia
  · rw [List.length_map]; lia
  · rw [List.length_map, Int.fmod_eq_emod_of_nonneg _ (by decide)]; unfold padOf; lia
theorem turn_cps {T : Prop} {L : List Nat} {n m : Nat} {dnl : List (Nat × Nat)} {p : Nat} (hm4 : m < 4) (hLn : L.length = 4 * n) (hn3 : n ≤ 3) (hlt : ∀ v ∈ L, v < 64) (hd : dnl.length < 9)
    (K : ∀ (V V' : List Nat) (S : List UInt8) (k k' q : Nat), (V = curV L (cnt dnl p)) → (V' = curV L (cnt (dnl ++ [(p, m)]) p)) → (V.length = 4 * k) → (k ≤ 100) → ((∀ v ∈ V, v < 64)) → (V'.length = 4 * k') → (k' ≤ 100) → ((∀ v ∈ V', v < 64)) → (tsum (cnt (dnl ++ [(p, m)]) p) ≤ 9) → ((trans (mkTab [43, 47] [sg0 m, sg1 m]).toList (V.map b64char)).length ≤ 400) → (quote true (trans (mkTab [43, 47] [sg0 m, sg1 m]).toList (V.map b64char)) = S) → (S.length ≤ 800) → (Int.fmod (-((S.length : Nat) : Int)) 4 = ((q : Nat) : Int)) → (q < 4) → (trans (mkTab [sg0 m, sg1 m] [43, 47]).toList (S ++ List.replicate q 65) = V'.map b64char) → T) : T := by
  obtain ⟨V, V', S, k, k', q, h0, h1, h2, h3, h4, h5, h6, h7, h8, h9, h10, h11, h12, h13, h14⟩ := turn_all (p := p) hm4 hLn hn3 hlt hd
  exact K V V' S k k' q h0 h1 h2 h3 h4 h5 h6 h7 h8 h9 h10 h11 h12 h13 h14
set_option maxHeartbeats 8000000 in
theorem c_law (g : Pg G P) : DCall G 4 (.ref 190) (w_law G) := by
  refine den_cps (G := G) (fm := fm_law) (d := 3) (selB false (selB false (tlB (tlB (tlB (tlB (tlB (tlB (bodyOf P 190))))))))) (db_cons ds_break db_nil) fun W2s0 h2s0 e2s0 => ?_
  refine den_cps (G := G) (fm := fm_law) (d := 3) (selB false (tlB (tlB (tlB (tlB (tlB (tlB (tlB (selB false (tlB (tlB (tlB (tlB (tlB (tlB (bodyOf P 190)))))))))))))))) (db_cons (ds_assign (.tail _ (.tail _ (.tail _ (.tail _ (.tail _ (.tail _ (.tail _ (.tail _ (.tail _ (.tail _ (.tail _ (.tail _ (.tail _ (.tail _ (.head _))))))))))))))) (de_callF (.tail _ (.tail _ (.tail _ (.tail _ (.tail _ (.tail _ (.tail _ (.tail _ (.tail _ (.head _)))))))))) (gl_heappop g) (fn_heappop g) (da_cons (de_var (.tail _ (.tail _ (.tail _ (.tail _ (.tail _ (.head _))))))) da_nil) ((c_heappop g).le (by decide)))) db_nil) fun W3s0 h3s0 e3s0 => ?_
  refine den_cps (G := G) (fm := fm_law) (d := 3) (selB true (tlB (tlB (tlB (tlB (tlB (tlB (tlB (selB false (tlB (tlB (tlB (tlB (tlB (tlB (bodyOf P 190)))))))))))))))) (db_cons (ds_assign (.tail _ (.tail _ (.tail _ (.tail _ (.tail _ (.tail _ (.tail _ (.tail _ (.tail _ (.tail _ (.tail _ (.tail _ (.tail _ (.tail _ (.head _))))))))))))))) (de_callF (.tail _ (.tail _ (.tail _ (.tail _ (.tail _ (.tail _ (.tail _ (.tail _ (.tail _ (.tail _ (.head _))))))))))) (gl_heapreplace g) (fn_heapreplace g) (da_cons (de_var (.tail _ (.tail _ (.tail _ (.tail _ (.tail _ (.head _))))))) (da_cons (de_tuple (da_cons (de_callB (.tail _ (.tail _ (.tail _ (.tail _ (.tail _ (.tail _ (.tail _ (.tail _ (.head _))))))))) (gb_len g) (da_cons (de_var (.tail _ (.tail _ (.tail _ (.tail _ (.tail _ (.tail _ (.tail _ (.tail _ (.tail _ (.tail _ (.tail _ (.tail _ (.tail _ (.head _))))))))))))))) da_nil) dcall_len) (da_cons (de_var (.tail _ (.tail _ (.tail _ (.tail _ (.tail _ (.tail _ (.tail _ (.tail _ (.tail _ (.tail _ (.head _)))))))))))) (da_cons (de_var (.tail _ (.tail _ (.tail _ (.tail _ (.tail _ (.tail _ (.tail _ (.tail _ (.tail _ (.tail _ (.tail _ (.tail _ (.tail _ (.head _))))))))))))))) da_nil)))) da_nil)) ((c_heapreplace g).le (by decide)))) db_nil) fun W4s0 h4s0 e4s0 => ?_
  refine den_cps (G := G) (fm := fm_law) (d := 3) (selB false (tlB (tlB (tlB (tlB (tlB (tlB (tlB (tlB (tlB (tlB (tlB (selB false (tlB (tlB (tlB (tlB (tlB (tlB (bodyOf P 190)))))))))))))))))))) (db_cons (ds_return de_bool) db_nil) fun W5s0 h5s0 e5s0 => ?_
  refine den_cps (G := G) (fm := fm_law) (d := 3) (selB false (tlB (tlB (tlB (tlB (tlB (tlB (tlB (tlB (tlB (tlB (tlB (tlB (tlB (selB false (tlB (tlB (tlB (tlB (tlB (tlB (bodyOf P 190)))))))))))))))))))))) (db_cons (ds_expr (de_append (de_var (.tail _ (.tail _ (.tail _ (.tail _ (.head _)))))) (de_tuple (da_cons (de_callB (.tail _ (.tail _ (.tail _ (.tail _ (.tail _ (.tail _ (.tail _ (.tail _ (.head _))))))))) (gb_len g) (da_cons (de_var (.tail _ (.tail _ (.tail _ (.tail _ (.tail _ (.tail _ (.tail _ (.tail _ (.tail _ (.tail _ (.tail _ (.tail _ (.tail _ (.tail _ (.tail _ (.tail _ (.head _)))))))))))))))))) da_nil) dcall_len) (da_cons (de_var (.tail _ (.tail _ (.tail _ (.tail _ (.tail _ (.tail _ (.tail _ (.tail _ (.tail _ (.tail _ (.head _)))))))))))) (da_cons (de_var (.tail _ (.tail _ (.tail _ (.tail _ (.tail _ (.tail _ (.tail _ (.tail _ (.tail _ (.tail _ (.tail _ (.tail _ (.tail _ (.tail _ (.tail _ (.tail _ (.head _)))))))))))))))))) da_nil)))))) db_nil) fun W6s0 h6s0 e6s0 => ?_
  refine den_cps (G := G) (fm := fm_law) (d := 3) (tlB (tlB (tlB (tlB (tlB (tlB (tlB (tlB (tlB (tlB (tlB (tlB (tlB (selB false (tlB (tlB (tlB (tlB (tlB (tlB (bodyOf P 190))))))))))))))))))))) (db_cons (ds_if (dt_cmp (de_var (.tail _ (.tail _ (.tail _ (.tail _ (.tail _ (.tail _ (.tail _ (.tail _ (.tail _ (.tail _ (.tail _ (.tail _ (.tail _ (.head _))))))))))))))) (de_var (.tail _ (.tail _ (.tail _ (.tail _ (.tail _ (.tail _ (.tail _ (.tail _ (.tail _ (.tail _ (.tail _ (.head _))))))))))))) dop_ne) h6s0
    db_nil) db_nil) fun W1s13 h1s13 e1s13 => ?_
  refine den_cps (G := G) (fm := fm_law) (d := 3) (tlB (tlB (tlB (tlB (tlB (tlB (tlB (tlB (tlB (tlB (tlB (tlB (selB false (tlB (tlB (tlB (tlB (tlB (tlB (bodyOf P 190)))))))))))))))))))) (db_cons (ds_comp (fmC := fm_law_c3) (.tail _ (.tail _ (.tail _ (.tail _ (.head _))))) (dit_name (di_list (de_var (.tail _ (.tail _ (.tail _ (.tail _ (.head _)))))))) (asg_name (.head _)) (dts_one (dt_cmp (de_item (de_var (.head _)) de_int) (de_var (.tail _ (.head _))) dop_ne)) (de_var (.head _)) (by kernel_rfl) (by rfl) (by kernel_rfl)) h1s13) fun W1s12 h1s12 e1s12 => ?_
  refine den_cps (G := G) (fm := fm_law) (d := 3) (tlB (tlB (tlB (tlB (tlB (tlB (tlB (tlB (tlB (tlB (tlB (selB false (tlB (tlB (tlB (tlB (tlB (tlB (bodyOf P 190))))))))))))))))))) (db_cons (ds_if (dt_cmp (de_tuple (da_cons (de_var (.tail _ (.tail _ (.tail _ (.tail _ (.tail _ (.tail _ (.tail _ (.tail _ (.tail _ (.tail _ (.tail _ (.tail _ (.tail _ (.tail _ (.head _)))))))))))))))) (da_cons (de_var (.tail _ (.tail _ (.tail _ (.tail _ (.tail _ (.tail _ (.tail _ (.tail _ (.tail _ (.tail _ (.tail _ (.tail _ (.tail _ (.head _))))))))))))))) da_nil))) (de_tuple (da_cons (de_var (.tail _ (.tail _ (.tail _ (.tail _ (.tail _ (.tail _ (.tail _ (.tail _ (.tail _ (.head _))))))))))) (da_cons (de_var (.tail _ (.tail _ (.tail _ (.tail _ (.tail _ (.tail _ (.tail _ (.tail _ (.tail _ (.tail _ (.tail _ (.tail _ (.tail _ (.tail _ (.tail _ (.tail _ (.head _)))))))))))))))))) da_nil))) dop_ne) h5s0
    db_nil) h1s12) fun W1s11 h1s11 e1s11 => ?_
  refine den_cps (G := G) (fm := fm_law) (d := 3) (tlB (tlB (tlB (tlB (tlB (tlB (tlB (tlB (tlB (tlB (selB false (tlB (tlB (tlB (tlB (tlB (tlB (bodyOf P 190)))))))))))))))))) (db_cons (ds_assign (.tail _ (.tail _ (.tail _ (.tail _ (.tail _ (.tail _ (.tail _ (.tail _ (.tail _ (.tail _ (.tail _ (.tail _ (.tail _ (.tail _ (.tail _ (.tail _ (.head _))))))))))))))))) (de_callF (.tail _ (.tail _ (.tail _ (.tail _ (.tail _ (.tail _ (.tail _ (.tail _ (.tail _ (.tail _ (.tail _ (.head _)))))))))))) (gl__law_octets g) (fn__law_octets g) (da_cons (de_callF (.tail _ (.tail _ (.tail _ (.tail _ (.tail _ (.tail _ (.tail _ (.tail _ (.tail _ (.tail _ (.tail _ (.tail _ (.head _))))))))))))) (gl__law_grown g) (fn__law_grown g) (da_cons (de_item (de_var (.tail _ (.head _))) (de_var (.tail _ (.tail _ (.tail _ (.tail _ (.tail _ (.tail _ (.tail _ (.tail _ (.tail _ (.tail _ (.head _))))))))))))) (da_cons (de_var (.tail _ (.tail _ (.tail _ (.tail _ (.tail _ (.tail _ (.tail _ (.tail _ (.tail _ (.tail _ (.tail _ (.tail _ (.tail _ (.tail _ (.tail _ (.head _))))))))))))))))) da_nil)) ((c__law_grown g).le (by decide))) da_nil) ((c__law_octets g).le (by decide)))) h1s11) fun W1s10 h1s10 e1s10 => ?_
  refine den_cps (G := G) (fm := fm_law) (d := 3) (tlB (tlB (tlB (tlB (tlB (tlB (tlB (tlB (tlB (selB false (tlB (tlB (tlB (tlB (tlB (tlB (bodyOf P 190))))))))))))))))) (db_cons (ds_comp (fmC := fm_law_c2) (.tail _ (.tail _ (.tail _ (.tail _ (.tail _ (.tail _ (.tail _ (.tail _ (.tail _ (.tail _ (.tail _ (.tail _ (.tail _ (.tail _ (.tail _ (.head _)))))))))))))))) (dit_name (di_range (.tail _ (.tail _ (.tail _ (.head _)))) (gt_range g) (da_cons de_int da_nil))) (asg_name (.head _)) dts_nil (de_count (de_var (.tail _ (.head _))) (de_tuple (da_cons (de_var (.tail _ (.tail _ (.head _)))) (da_cons (de_var (.head _)) da_nil)))) (by kernel_rfl) (by rfl) (by kernel_rfl)) h1s10) fun W1s9 h1s9 e1s9 => ?_
  refine den_cps (G := G) (fm := fm_law) (d := 3) (tlB (tlB (tlB (tlB (tlB (tlB (tlB (tlB (selB false (tlB (tlB (tlB (tlB (tlB (tlB (bodyOf P 190)))))))))))))))) (db_cons (ds_expr (de_append (de_var (.tail _ (.tail _ (.tail _ (.head _))))) (de_tuple (da_cons (de_var (.tail _ (.tail _ (.tail _ (.tail _ (.tail _ (.tail _ (.tail _ (.tail _ (.tail _ (.tail _ (.head _)))))))))))) (da_cons (de_var (.tail _ (.tail _ (.tail _ (.tail _ (.tail _ (.tail _ (.tail _ (.head _))))))))) da_nil))))) h1s9) fun W1s8 h1s8 e1s8 => ?_
  refine den_cps (G := G) (fm := fm_law) (d := 3) (tlB (tlB (tlB (tlB (tlB (tlB (tlB (selB false (tlB (tlB (tlB (tlB (tlB (tlB (bodyOf P 190))))))))))))))) (db_cons (ds_if (dt_cmp (de_var (.tail _ (.tail _ (.tail _ (.tail _ (.tail _ (.tail _ (.tail _ (.tail _ (.tail _ (.tail _ (.tail _ (.tail _ (.tail _ (.head _))))))))))))))) (de_var (.tail _ (.tail _ (.tail _ (.tail _ (.tail _ (.tail _ (.tail _ (.tail _ (.tail _ (.tail _ (.tail _ (.head _))))))))))))) dop_eq) h3s0
    h4s0) h1s8) fun W1s7 h1s7 e1s7 => ?_
  refine den_cps (G := G) (fm := fm_law) (d := 3) (tlB (tlB (tlB (tlB (tlB (tlB (selB false (tlB (tlB (tlB (tlB (tlB (tlB (bodyOf P 190)))))))))))))) (db_cons (ds_assign (.tail _ (.tail _ (.tail _ (.tail _ (.tail _ (.tail _ (.tail _ (.tail _ (.tail _ (.tail _ (.tail _ (.tail _ (.tail _ (.head _)))))))))))))) (de_callF (.tail _ (.tail _ (.tail _ (.tail _ (.tail _ (.tail _ (.tail _ (.head _)))))))) (gl_b64decode g) (fn_b64decode g) (da_cons (de_bin (de_var (.tail _ (.tail _ (.tail _ (.tail _ (.tail _ (.tail _ (.tail _ (.tail _ (.tail _ (.tail _ (.tail _ (.tail _ (.head _)))))))))))))) (de_bin de_bytes (de_bin (de_neg (de_callB (.tail _ (.tail _ (.tail _ (.tail _ (.tail _ (.tail _ (.tail _ (.tail _ (.head _))))))))) (gb_len g) (da_cons (de_var (.tail _ (.tail _ (.tail _ (.tail _ (.tail _ (.tail _ (.tail _ (.tail _ (.tail _ (.tail _ (.tail _ (.tail _ (.head _)))))))))))))) da_nil) dcall_len)) de_int dop_mod) dop_mul) dop_add) (da_cons (de_var (.tail _ (.tail _ (.tail _ (.tail _ (.tail _ (.tail _ (.tail _ (.tail _ (.head _)))))))))) da_nil)) ((c_b64decode g).le (by decide)))) h1s7) fun W1s6 h1s6 e1s6 => ?_
  refine den_cps (G := G) (fm := fm_law) (d := 3) (tlB (tlB (tlB (tlB (tlB (selB false (tlB (tlB (tlB (tlB (tlB (tlB (bodyOf P 190))))))))))))) (db_cons (ds_assign (.tail _ (.tail _ (.tail _ (.tail _ (.tail _ (.tail _ (.tail _ (.tail _ (.tail _ (.tail _ (.tail _ (.tail _ (.head _))))))))))))) (de_callF (.tail _ (.tail _ (.tail _ (.tail _ (.tail _ (.head _)))))) (gl__quote_periods g) (fn__quote_periods g) (da_cons (de_callF (.tail _ (.tail _ (.tail _ (.tail _ (.tail _ (.tail _ (.head _))))))) (gl_b64encode g) (fn_b64encode g) (da_cons (de_var (.tail _ (.tail _ (.tail _ (.tail _ (.tail _ (.tail _ (.tail _ (.tail _ (.tail _ (.tail _ (.tail _ (.head _))))))))))))) (da_cons (de_var (.tail _ (.tail _ (.tail _ (.tail _ (.tail _ (.tail _ (.tail _ (.tail _ (.head _)))))))))) da_nil)) ((c_b64encode g).le (by decide))) da_nil) ((c__quote_periods g).le (by decide)))) h1s6) fun W1s5 h1s5 e1s5 => ?_
  refine den_cps (G := G) (fm := fm_law) (d := 3) (tlB (tlB (tlB (tlB (selB false (tlB (tlB (tlB (tlB (tlB (tlB (bodyOf P 190)))))))))))) (db_cons (ds_asg2 (.tail _ (.tail _ (.tail _ (.tail _ (.tail _ (.tail _ (.tail _ (.tail _ (.tail _ (.tail _ (.head _))))))))))) (.tail _ (.tail _ (.tail _ (.tail _ (.tail _ (.tail _ (.tail _ (.tail _ (.tail _ (.tail _ (.tail _ (.head _)))))))))))) (de_tail (de_item (de_var (.tail _ (.tail _ (.tail _ (.tail _ (.tail _ (.head _))))))) de_int))) h1s5) fun W1s4 h1s4 e1s4 => ?_
  refine den_cps (G := G) (fm := fm_law) (d := 3) (tlB (tlB (tlB (selB false (tlB (tlB (tlB (tlB (tlB (tlB (bodyOf P 190))))))))))) (db_cons (ds_assign (.tail _ (.tail _ (.tail _ (.tail _ (.tail _ (.tail _ (.tail _ (.tail _ (.tail _ (.head _)))))))))) (de_callB (.tail _ (.tail _ (.tail _ (.tail _ (.head _))))) (gb_min g) (da_cons (de_var (.tail _ (.tail _ (.tail _ (.tail _ (.head _)))))) da_nil) dcall_min)) h1s4) fun W1s3 h1s3 e1s3 => ?_
  refine den_cps (G := G) (fm := fm_law) (d := 3) (tlB (tlB (selB false (tlB (tlB (tlB (tlB (tlB (tlB (bodyOf P 190)))))))))) (db_cons (ds_assign (.tail _ (.tail _ (.tail _ (.tail _ (.tail _ (.tail _ (.tail _ (.tail _ (.head _))))))))) (de_item (de_tuple (da_cons de_bytes (da_cons de_bytes (da_cons de_bytes (da_cons de_bytes da_nil))))) (de_var (.tail _ (.tail _ (.tail _ (.tail _ (.tail _ (.tail _ (.tail _ (.head _))))))))))) h1s3) fun W1s2 h1s2 e1s2 => ?_
  refine den_cps (G := G) (fm := fm_law) (d := 3) (tlB (selB false (tlB (tlB (tlB (tlB (tlB (tlB (bodyOf P 190))))))))) (db_cons (ds_assign (.tail _ (.tail _ (.tail _ (.tail _ (.tail _ (.tail _ (.tail _ (.head _)))))))) (de_bin (de_bin (de_bin (de_var (.tail _ (.tail _ (.head _)))) (de_bin de_int (de_var (.tail _ (.tail _ (.tail _ (.tail _ (.tail _ (.tail _ (.head _)))))))) dop_pow) dop_div) de_int dop_mod) (de_ifexp (dt_cmp (de_bin (de_var (.tail _ (.tail _ (.tail _ (.tail _ (.tail _ (.tail _ (.head _)))))))) de_int dop_mod) de_int dop_eq) de_int de_int) dop_add)) h1s2) fun W1s1 h1s1 e1s1 => ?_
  refine den_cps (G := G) (fm := fm_law) (d := 3) (selB false (tlB (tlB (tlB (tlB (tlB (tlB (bodyOf P 190)))))))) (db_cons (ds_if (dt_cmp (de_var (.tail _ (.tail _ (.tail _ (.tail _ (.head _)))))) (de_list da_nil) dop_eq) h2s0
    db_nil) h1s1) fun W1s0 h1s0 e1s0 => ?_
  refine den_cps (G := G) (fm := fm_law) (d := 3) (tlB (tlB (tlB (tlB (tlB (tlB (tlB (bodyOf P 190)))))))) (db_cons (ds_return (de_and (de_cmp (de_comp (fmC := fm_law_c4) (dit_name (di_list (de_var (.tail _ (.tail _ (.tail _ (.tail _ (.head _)))))))) (asg_name (.head _)) dts_nil (de_callF (.head _) (gl_heappop g) (fn_heappop g) (da_cons (de_var (.tail _ (.head _))) da_nil) ((c_heappop g).le (by decide))) (by kernel_rfl)) (de_callB (.tail _ (.tail _ (.tail _ (.tail _ (.tail _ (.tail _ (.tail _ (.tail _ (.tail _ (.tail _ (.tail _ (.tail _ (.tail _ (.head _)))))))))))))) (gb_sorted g) (da_cons (de_var (.tail _ (.tail _ (.tail _ (.tail _ (.head _)))))) da_nil) dcall_sorted) dop_eq) (de_cmp (de_var (.tail _ (.tail _ (.tail _ (.tail _ (.tail _ (.head _))))))) (de_list da_nil) dop_eq))) db_nil) fun W0s7 h0s7 e0s7 => ?_
  refine den_cps (G := G) (fm := fm_law) (d := 3) (tlB (tlB (tlB (tlB (tlB (tlB (bodyOf P 190))))))) (db_cons (ds_for (.tail _ (.tail _ (.tail _ (.tail _ (.tail _ (.tail _ (.head _))))))) (di_range (.tail _ (.tail _ (.tail _ (.head _)))) (gt_range g) (da_cons de_int da_nil))
    h1s0) h0s7) fun W0s6 h0s6 e0s6 => ?_
  refine den_cps (G := G) (fm := fm_law) (d := 3) (tlB (tlB (tlB (tlB (tlB (bodyOf P 190)))))) (db_cons (ds_expr (de_callF (.tail _ (.tail _ (.head _))) (gl_heapify g) (fn_heapify g) (da_cons (de_var (.tail _ (.tail _ (.tail _ (.tail _ (.tail _ (.head _))))))) da_nil) ((c_heapify g).le (by decide)))) h0s6) fun W0s5 h0s5 e0s5 => ?_
  refine den_cps (G := G) (fm := fm_law) (d := 3) (tlB (tlB (tlB (tlB (bodyOf P 190))))) (db_cons (ds_assign (.tail _ (.tail _ (.tail _ (.tail _ (.tail _ (.head _)))))) (de_sliceAll (de_var (.tail _ (.tail _ (.tail _ (.tail _ (.head _)))))))) h0s5) fun W0s4 h0s4 e0s4 => ?_
  refine den_cps (G := G) (fm := fm_law) (d := 3) (tlB (tlB (tlB (bodyOf P 190)))) (db_cons (ds_comp (fmC := fm_law_c1) (.tail _ (.tail _ (.tail _ (.tail _ (.head _))))) (dit_enum (.tail _ (.head _)) (gt_enumerate g) (de_var (.tail _ (.head _)))) (asg_pair (.head _) (.tail _ (.head _))) dts_nil (de_tuple (da_cons (de_bin (de_bin (de_callB (.tail _ (.head _)) (gb_len g) (da_cons (de_var (.tail _ (.head _))) da_nil) dcall_len) de_int dop_div) de_int dop_mul) (da_cons (de_var (.head _)) (da_cons (de_callF (.head _) (gl__law_octets g) (fn__law_octets g) (da_cons (de_var (.tail _ (.head _))) da_nil) ((c__law_octets g).le (by decide))) da_nil)))) (by kernel_rfl) (by rfl) (by kernel_rfl)) h0s4) fun W0s3 h0s3 e0s3 => ?_
  refine den_cps (G := G) (fm := fm_law) (d := 3) (tlB (tlB (bodyOf P 190))) (db_cons (ds_assign (.tail _ (.tail _ (.tail _ (.head _)))) (de_list da_nil)) h0s3) fun W0s2 h0s2 e0s2 => ?_
  refine den_cps (G := G) (fm := fm_law) (d := 3) (tlB (bodyOf P 190)) (db_cons (ds_assign (.tail _ (.tail _ (.head _))) (de_bin de_int (de_callB (.head _) (gb_sum g) (da_cons (de_sliceTo (de_var (.head _)) de_int) da_nil) dcall_sum) dop_add)) h0s2) fun W0s1 h0s1 e0s1 => ?_
  refine den_cps (G := G) (fm := fm_law) (d := 3) (bodyOf P 190) (db_cons (ds_comp (fmC := fm_law_c0) (.tail _ (.head _)) (dit_name (di_list (de_bin (de_list (da_cons de_int (da_cons de_int (da_cons de_int da_nil)))) (de_sliceTo (de_var (.head _)) de_int) dop_add))) (asg_name (.head _)) dts_nil (de_callF (.head _) (gl__law_values g) (fn__law_values g) (da_cons (de_var (.head _)) da_nil) ((c__law_values g).le (by decide))) (by kernel_rfl) (by rfl) (by kernel_rfl)) h0s1) fun W0s0 h0s0 e0s0 => ?_
  refine DCall.mono (dcall_cells (fm := fm_law) (d := 3) (body := bodyOf P 190) (ps := ps_law) g.ok (g.kin _ _ o_law) f_law b_law (codeRec_of g.kin cd_law) (by kernel_rfl) (by kernel_rfl) (by kernel_rfl) s_law (by decide) (by decide) bi_law
    h0s0) ?_
  intro ms Q H w
  cases ms with
  | nil => exact w.elim
  | cons m ms =>
  cases m <;> first | exact w.elim | skip
  rename_i vv
  cases vv <;> first | exact w.elim | skip
  cases ms with
  | cons _ _ => exact w.elim
  | nil =>
  · rename_i a
    obtain ⟨ns, hro, hlen, q⟩ := w
    refine ⟨rfl, ?_⟩
    rw [e0s0]
    simp only [ps_law, sx_then_next, sx_then_ret, sx_then_brk, sx_then_cont, sx_boolof, sx_set, sx_loc, sx_clear, sx_add_i, sx_add_b, sx_add_l, sx_sub, sx_mul_i, sx_mul_l, sx_mul_b, sx_div, sx_mod, sx_pow, sx_shl, sx_shr, sx_and, sx_or, sx_iadd, sx_eq_i, sx_eq_b, sx_eq_t, sx_eq_l, sx_ne_i, sx_ne_b, sx_ne_t, sx_lt_i, sx_lt_t, sx_le, sx_gt, sx_ge, sx_is, sx_isn, sx_tr_b, sx_tr_i, sx_tr_l, sx_neg, sx_it_l, sx_it_t, sx_it_b, sx_len_l, sx_len_b, sx_ty_b, sx_ty_p, sx_by, sx_app, sx_ext, sx_pop, sx_cnt, sx_pair, sx_tail, sx_mt_l, sx_mt_b, sx_nr0, sx_ib, sx_il, sx_ir1, sx_ir3, sx_irev, sx_ien, sx_mk, sx_trn, sx_resub, sx_isi1, sx_isi2, sx_sum, sx_min, sx_sorted, sx_si, sx_sl, sx_slr, sx_mis1, sx_mis2, sx_mis3, sx_mis4, String.reduceBEq, String.reduceEq, List.map_cons, List.map_nil, List.zip_cons_cons, List.zip_nil_right, List.lookup_cons, List.lookup_nil, List.any_cons, List.any_nil, Nat.reduceEqDiff, Nat.reduceBEq, beq_self_eq_true, Option.some.injEq, exists_eq_left', exists_eq_left, reduceCtorEq, ite_true, ite_false, if_true, if_false, ↓reduceIte, Bool.false_eq_true, decide_eq_true_eq, true_and, and_true, Bool.not_true, Bool.not_false, Bool.or_false, Bool.false_or, MHeap.set_self, exists_eq', List.length_cons, List.length_nil, Nat.zero_add, Nat.reduceAdd, Nat.reduceLeDiff]
    intro c1 hc1
    refine ⟨5, rfl, ns.map .int, hro, by simp; lia, fun c2 hc2 => ?_⟩
    obtain ⟨n12, hc2'⟩ := fresh_set hc2
    refine ⟨[MV.int 745, MV.int 1423, MV.int 146], by rw [MHeap.set_ne _ _ n12, MHeap.set_self], by simp; lia, fun c3 hc3 => ?_⟩
    have hit : [MV.int 745, MV.int 1423, MV.int 146] ++ List.take 5 (ns.map MV.int) = ([745, 1423, 146] ++ ns.take 5).map MV.int := by simp [List.map_take]
    rw [hit]
    intro la hla
    refine ⟨by show (MHeap.set _ la []) c3 = _; rw [MHeap.set_ne _ _ (fresh_set hla).1, MHeap.set_self], ?_⟩
    refine comp_letters _ [] [] _ _ (MHeap.set_self _ _ _) (by rw [MHeap.set_ne _ _ (fresh_set hla).1, MHeap.set_self]) (fresh_set hla).1 .nil (by simp) (by simp) (by simp) (by simp; lia) ?_
    intro addrs Ls H1 hk1 hla1 hLs1 hlan hnd hal hfr
    show W0s1 _ _ _
    rw [e0s1]
    simp only [sx_then_next, sx_then_ret, sx_then_brk, sx_then_cont, sx_boolof, sx_set, sx_loc, sx_clear, sx_add_i, sx_add_b, sx_add_l, sx_sub, sx_mul_i, sx_mul_l, sx_mul_b, sx_div, sx_mod, sx_pow, sx_shl, sx_shr, sx_and, sx_or, sx_iadd, sx_eq_i, sx_eq_b, sx_eq_t, sx_eq_l, sx_ne_i, sx_ne_b, sx_ne_t, sx_lt_i, sx_lt_t, sx_le, sx_gt, sx_ge, sx_is, sx_isn, sx_tr_b, sx_tr_i, sx_tr_l, sx_neg, sx_it_l, sx_it_t, sx_it_b, sx_len_l, sx_len_b, sx_ty_b, sx_ty_p, sx_by, sx_app, sx_ext, sx_pop, sx_cnt, sx_pair, sx_tail, sx_mt_l, sx_mt_b, sx_nr0, sx_ib, sx_il, sx_ir1, sx_ir3, sx_irev, sx_ien, sx_mk, sx_trn, sx_resub, sx_isi1, sx_isi2, sx_sum, sx_min, sx_sorted, sx_si, sx_sl, sx_slr, sx_mis1, sx_mis2, sx_mis3, sx_mis4, String.reduceBEq, String.reduceEq, List.map_cons, List.map_nil, List.zip_cons_cons, List.zip_nil_right, List.lookup_cons, List.lookup_nil, List.any_cons, List.any_nil, Nat.reduceEqDiff, Nat.reduceBEq, beq_self_eq_true, Option.some.injEq, exists_eq_left', exists_eq_left, reduceCtorEq, ite_true, ite_false, if_true, if_false, ↓reduceIte, Bool.false_eq_true, decide_eq_true_eq, true_and, and_true, Bool.not_true, Bool.not_false, Bool.or_false, Bool.false_or, MHeap.set_self, exists_eq', List.length_cons, List.length_nil, Nat.zero_add, Nat.reduceAdd, Nat.reduceLeDiff]
    refine ⟨5, rfl, ns.map .int, hro, by simp; lia, fun c4 hc4 => ⟨ns.take 5, by simp [List.map_take], ?_⟩⟩
    rw [e0s2]
    simp only [sx_then_next, sx_then_ret, sx_then_brk, sx_then_cont, sx_boolof, sx_set, sx_loc, sx_clear, sx_add_i, sx_add_b, sx_add_l, sx_sub, sx_mul_i, sx_mul_l, sx_mul_b, sx_div, sx_mod, sx_pow, sx_shl, sx_shr, sx_and, sx_or, sx_iadd, sx_eq_i, sx_eq_b, sx_eq_t, sx_eq_l, sx_ne_i, sx_ne_b, sx_ne_t, sx_lt_i, sx_lt_t, sx_le, sx_gt, sx_ge, sx_is, sx_isn, sx_tr_b, sx_tr_i, sx_tr_l, sx_neg, sx_it_l, sx_it_t, sx_it_b, sx_len_l, sx_len_b, sx_ty_b, sx_ty_p, sx_by, sx_app, sx_ext, sx_pop, sx_cnt, sx_pair, sx_tail, sx_mt_l, sx_mt_b, sx_nr0, sx_ib, sx_il, sx_ir1, sx_ir3, sx_irev, sx_ien, sx_mk, sx_trn, sx_resub, sx_isi1, sx_isi2, sx_sum, sx_min, sx_sorted, sx_si, sx_sl, sx_slr, sx_mis1, sx_mis2, sx_mis3, sx_mis4, String.reduceBEq, String.reduceEq, List.map_cons, List.map_nil, List.zip_cons_cons, List.zip_nil_right, List.lookup_cons, List.lookup_nil, List.any_cons, List.any_nil, Nat.reduceEqDiff, Nat.reduceBEq, beq_self_eq_true, Option.some.injEq, exists_eq_left', exists_eq_left, reduceCtorEq, ite_true, ite_false, if_true, if_false, ↓reduceIte, Bool.false_eq_true, decide_eq_true_eq, true_and, and_true, Bool.not_true, Bool.not_false, Bool.or_false, Bool.false_or, MHeap.set_self, exists_eq', List.length_cons, List.length_nil, Nat.zero_add, Nat.reduceAdd, Nat.reduceLeDiff]
    intro dn hdn
    rw [e0s3]
    simp only [sx_then_next, sx_then_ret, sx_then_brk, sx_then_cont, sx_boolof, sx_set, sx_loc, sx_clear, sx_add_i, sx_add_b, sx_add_l, sx_sub, sx_mul_i, sx_mul_l, sx_mul_b, sx_div, sx_mod, sx_pow, sx_shl, sx_shr, sx_and, sx_or, sx_iadd, sx_eq_i, sx_eq_b, sx_eq_t, sx_eq_l, sx_ne_i, sx_ne_b, sx_ne_t, sx_lt_i, sx_lt_t, sx_le, sx_gt, sx_ge, sx_is, sx_isn, sx_tr_b, sx_tr_i, sx_tr_l, sx_neg, sx_it_l, sx_it_t, sx_it_b, sx_len_l, sx_len_b, sx_ty_b, sx_ty_p, sx_by, sx_app, sx_ext, sx_pop, sx_cnt, sx_pair, sx_tail, sx_mt_l, sx_mt_b, sx_nr0, sx_ib, sx_il, sx_ir1, sx_ir3, sx_irev, sx_ien, sx_mk, sx_trn, sx_resub, sx_isi1, sx_isi2, sx_sum, sx_min, sx_sorted, sx_si, sx_sl, sx_slr, sx_mis1, sx_mis2, sx_mis3, sx_mis4, String.reduceBEq, String.reduceEq, List.map_cons, List.map_nil, List.zip_cons_cons, List.zip_nil_right, List.lookup_cons, List.lookup_nil, List.any_cons, List.any_nil, Nat.reduceEqDiff, Nat.reduceBEq, beq_self_eq_true, Option.some.injEq, exists_eq_left', exists_eq_left, reduceCtorEq, ite_true, ite_false, if_true, if_false, ↓reduceIte, Bool.false_eq_true, decide_eq_true_eq, true_and, and_true, Bool.not_true, Bool.not_false, Bool.or_false, Bool.false_or, MHeap.set_self, exists_eq', List.length_cons, List.length_nil, Nat.zero_add, Nat.reduceAdd, Nat.reduceLeDiff]
    obtain ⟨n4d, hdn'⟩ := fresh_set hdn
    refine ⟨addrs.map .lst, by rw [MHeap.set_ne _ _ (told_ne hla1 hdn'), MHeap.set_ne _ _ (told_ne hla1 hc4)]; exact hla1, ?_⟩
    intro wt hwt
    obtain ⟨ndw, hwt'⟩ := fresh_set hwt
    obtain ⟨n4w, hwt''⟩ := fresh_set hwt'
    have nadr : ∀ z, H1 z = none → z ∉ addrs := fun z hz => hLs1.not_mem hz
    have hla2 : (((H1.set c4 (List.take 5 (List.map MV.int ns))).set dn []).set wt []) la = some (List.map MV.lst addrs) := by
      rw [MHeap.set_ne _ _ (told_ne hla1 hwt''), MHeap.set_ne _ _ (told_ne hla1 hdn'), MHeap.set_ne _ _ (told_ne hla1 hc4)]; exact hla1
    have hLs2 : Lts (((H1.set c4 (List.take 5 (List.map MV.int ns))).set dn []).set wt []) addrs Ls := hLs1.mono fun x hx ys e => by
      rw [MHeap.set_ne _ _ (fun z : x = wt => nadr wt hwt'' (z ▸ hx)), MHeap.set_ne _ _ (fun z : x = dn => nadr dn hdn' (z ▸ hx)), MHeap.set_ne _ _ (fun z : x = c4 => nadr c4 hc4 (z ▸ hx))]; exact e
    have hLl := hLs1.lens
    refine ⟨hla2, comp_waiting addrs Ls 0 [] _ _ (MHeap.set_self _ _ _) hla2 (told_ne hla1 hwt'') hLs2 (nadr wt hwt'') (by simp at hal ⊢; lia) ?_⟩
    rw [MHeap.set_set, List.nil_append]
    show W0s4 _ _ _
    rw [e0s4]
    simp only [sx_then_next, sx_then_ret, sx_then_brk, sx_then_cont, sx_boolof, sx_set, sx_loc, sx_clear, sx_add_i, sx_add_b, sx_add_l, sx_sub, sx_mul_i, sx_mul_l, sx_mul_b, sx_div, sx_mod, sx_pow, sx_shl, sx_shr, sx_and, sx_or, sx_iadd, sx_eq_i, sx_eq_b, sx_eq_t, sx_eq_l, sx_ne_i, sx_ne_b, sx_ne_t, sx_lt_i, sx_lt_t, sx_le, sx_gt, sx_ge, sx_is, sx_isn, sx_tr_b, sx_tr_i, sx_tr_l, sx_neg, sx_it_l, sx_it_t, sx_it_b, sx_len_l, sx_len_b, sx_ty_b, sx_ty_p, sx_by, sx_app, sx_ext, sx_pop, sx_cnt, sx_pair, sx_tail, sx_mt_l, sx_mt_b, sx_nr0, sx_ib, sx_il, sx_ir1, sx_ir3, sx_irev, sx_ien, sx_mk, sx_trn, sx_resub, sx_isi1, sx_isi2, sx_sum, sx_min, sx_sorted, sx_si, sx_sl, sx_slr, sx_mis1, sx_mis2, sx_mis3, sx_mis4, String.reduceBEq, String.reduceEq, List.map_cons, List.map_nil, List.zip_cons_cons, List.zip_nil_right, List.lookup_cons, List.lookup_nil, List.any_cons, List.any_nil, Nat.reduceEqDiff, Nat.reduceBEq, beq_self_eq_true, Option.some.injEq, exists_eq_left', exists_eq_left, reduceCtorEq, ite_true, ite_false, if_true, if_false, ↓reduceIte, Bool.false_eq_true, decide_eq_true_eq, true_and, and_true, Bool.not_true, Bool.not_false, Bool.or_false, Bool.false_or, MHeap.set_self, exists_eq', List.length_cons, List.length_nil, Nat.zero_add, Nat.reduceAdd, Nat.reduceLeDiff]
    refine ⟨by rw [List.length_map, ents_len]; simp at hal; lia, fun hp hhp => ?_⟩
    rw [e0s5]
    simp only [sx_why, sx_then_next, sx_then_ret, sx_then_brk, sx_then_cont, sx_boolof, sx_set, sx_loc, sx_clear, sx_add_i, sx_add_b, sx_add_l, sx_sub, sx_mul_i, sx_mul_l, sx_mul_b, sx_div, sx_mod, sx_pow, sx_shl, sx_shr, sx_and, sx_or, sx_iadd, sx_eq_i, sx_eq_b, sx_eq_t, sx_eq_l, sx_ne_i, sx_ne_b, sx_ne_t, sx_lt_i, sx_lt_t, sx_le, sx_gt, sx_ge, sx_is, sx_isn, sx_tr_b, sx_tr_i, sx_tr_l, sx_neg, sx_it_l, sx_it_t, sx_it_b, sx_len_l, sx_len_b, sx_ty_b, sx_ty_p, sx_by, sx_app, sx_ext, sx_pop, sx_cnt, sx_pair, sx_tail, sx_mt_l, sx_mt_b, sx_nr0, sx_ib, sx_il, sx_ir1, sx_ir3, sx_irev, sx_ien, sx_mk, sx_trn, sx_resub, sx_isi1, sx_isi2, sx_sum, sx_min, sx_sorted, sx_si, sx_sl, sx_slr, sx_mis1, sx_mis2, sx_mis3, sx_mis4, String.reduceBEq, String.reduceEq, List.map_cons, List.map_nil, List.zip_cons_cons, List.zip_nil_right, List.lookup_cons, List.lookup_nil, List.any_cons, List.any_nil, Nat.reduceEqDiff, Nat.reduceBEq, beq_self_eq_true, Option.some.injEq, exists_eq_left', exists_eq_left, reduceCtorEq, ite_true, ite_false, if_true, if_false, ↓reduceIte, Bool.false_eq_true, decide_eq_true_eq, true_and, and_true, Bool.not_true, Bool.not_false, Bool.or_false, Bool.false_or, MHeap.set_self, exists_eq', List.length_cons, List.length_nil, Nat.zero_add, Nat.reduceAdd, Nat.reduceLeDiff]
    have hwt3 : (((H1.set c4 (List.take 5 (List.map MV.int ns))).set dn []).set wt (List.map ent (entsFrom 0 Ls))) wt = some (List.map ent (entsFrom 0 Ls)) := MHeap.set_self _ _ _
    refine ⟨entsFrom 0 Ls, rfl, by rw [ents_len]; simp at hal; lia, ents_dist _ _, fun hs' hp' hF' => ?_⟩
    rw [e0s6]
    simp only [sx_then_next, sx_then_ret, sx_then_brk, sx_then_cont, sx_boolof, sx_set, sx_loc, sx_clear, sx_add_i, sx_add_b, sx_add_l, sx_sub, sx_mul_i, sx_mul_l, sx_mul_b, sx_div, sx_mod, sx_pow, sx_shl, sx_shr, sx_and, sx_or, sx_iadd, sx_eq_i, sx_eq_b, sx_eq_t, sx_eq_l, sx_ne_i, sx_ne_b, sx_ne_t, sx_lt_i, sx_lt_t, sx_le, sx_gt, sx_ge, sx_is, sx_isn, sx_tr_b, sx_tr_i, sx_tr_l, sx_neg, sx_it_l, sx_it_t, sx_it_b, sx_len_l, sx_len_b, sx_ty_b, sx_ty_p, sx_by, sx_app, sx_ext, sx_pop, sx_cnt, sx_pair, sx_tail, sx_mt_l, sx_mt_b, sx_nr0, sx_ib, sx_il, sx_ir1, sx_ir3, sx_irev, sx_ien, sx_mk, sx_trn, sx_resub, sx_isi1, sx_isi2, sx_sum, sx_min, sx_sorted, sx_si, sx_sl, sx_slr, sx_mis1, sx_mis2, sx_mis3, sx_mis4, String.reduceBEq, String.reduceEq, List.map_cons, List.map_nil, List.zip_cons_cons, List.zip_nil_right, List.lookup_cons, List.lookup_nil, List.any_cons, List.any_nil, Nat.reduceEqDiff, Nat.reduceBEq, beq_self_eq_true, Option.some.injEq, exists_eq_left', exists_eq_left, reduceCtorEq, ite_true, ite_false, if_true, if_false, ↓reduceIte, Bool.false_eq_true, decide_eq_true_eq, true_and, and_true, Bool.not_true, Bool.not_false, Bool.or_false, Bool.false_or, MHeap.set_self, exists_eq', List.length_cons, List.length_nil, Nat.zero_add, Nat.reduceAdd, Nat.reduceLeDiff]
    refine ⟨by decide, ?_⟩
    have hLH : LH H la addrs Ls dn wt hp ((((H1.set c4 (List.take 5 (List.map MV.int ns))).set dn []).set wt (List.map ent (entsFrom 0 Ls))).set hp (List.map ent hs')) [] ((entsFrom 0 Ls).map ent) (hs'.map ent) := by
      have h3' := fresh_set hc3
      have h3H : H c3 = none := (fresh_set h3'.2).2
      have laH : H la = none := (fresh_set (fresh_set (fresh_set hla).2).2).2
      have hs1 : Sub H H1 := fun z ys e => hk1 z ys (told_ne e laH) (told_keep (told_keep (told_keep (told_keep e hc1) hc2) hc3) hla)
      have hhp1 : H1 hp = none := (fresh_set (fresh_set (fresh_set hhp).2).2).2
      have hdn3 : (((H1.set c4 (List.take 5 (List.map MV.int ns))).set dn []).set wt (List.map ent (entsFrom 0 Ls))) dn = some [] := told_keep (MHeap.set_self _ _ _) hwt
      refine ⟨?_, sub_fresh hs1 hdn', sub_fresh hs1 hwt'', sub_fresh hs1 hhp1, ?_, ?_, told_keep hdn3 hhp, told_keep hwt3 hhp, MHeap.set_self _ _ _,
        Ne.symm (told_ne hla1 hdn'), nadr dn hdn', Ne.symm (told_ne hla1 hwt''), nadr wt hwt'', Ne.symm (told_ne hla1 hhp1), nadr hp hhp1, ndw, told_ne hdn3 hhp, told_ne hwt3 hhp⟩
      · exact sub_put (sub_put (sub_put (sub_put hs1 (sub_fresh hs1 hc4)) (sub_fresh hs1 hdn')) (sub_fresh hs1 hwt'')) (sub_fresh hs1 hhp1)
      · exact told_keep (told_keep (told_keep (told_keep hla1 hc4) hdn) hwt) hhp
      · exact (((hLs1.set (nadr c4 hc4)).set (nadr dn hdn')).set (nadr wt hwt'')).set (nadr hp hhp1)
    have hLP : LP Ls [] (entsFrom 0 Ls) hs' := by
      refine ⟨hp', hF', ents_dist _ _, by rw [ents_len]; simp at hal; lia, fun e he => ?_⟩
      obtain ⟨i, L, h1, rfl⟩ := ents_mem _ _ _ he
      exact ⟨L, by simpa using h1, by rw [curV_zero]⟩
    rw [MHeap.set_set]
    refine loop_turns (H0 := H) (la := la) (addrs := addrs) (Ls := Ls) (marks := 26 + (List.take 5 ns).sum) ?_ ?_ 9 0 _ _ rfl ⟨dn, wt, hp, [], entsFrom 0 Ls, hs', rfl, ⟨by simp only [sx_then_next, sx_then_ret, sx_then_brk, sx_then_cont, sx_boolof, sx_set, sx_loc, sx_clear, sx_add_i, sx_add_b, sx_add_l, sx_sub, sx_mul_i, sx_mul_l, sx_mul_b, sx_div, sx_mod, sx_pow, sx_shl, sx_shr, sx_and, sx_or, sx_iadd, sx_eq_i, sx_eq_b, sx_eq_t, sx_eq_l, sx_ne_i, sx_ne_b, sx_ne_t, sx_lt_i, sx_lt_t, sx_le, sx_gt, sx_ge, sx_is, sx_isn, sx_tr_b, sx_tr_i, sx_tr_l, sx_neg, sx_it_l, sx_it_t, sx_it_b, sx_len_l, sx_len_b, sx_ty_b, sx_ty_p, sx_by, sx_app, sx_ext, sx_pop, sx_cnt, sx_pair, sx_tail, sx_mt_l, sx_mt_b, sx_nr0, sx_ib, sx_il, sx_ir1, sx_ir3, sx_irev, sx_ien, sx_mk, sx_trn, sx_resub, sx_isi1, sx_isi2, sx_sum, sx_min, sx_sorted, sx_si, sx_sl, sx_slr, sx_mis1, sx_mis2, sx_mis3, sx_mis4, String.reduceBEq, String.reduceEq, List.map_cons, List.map_nil, List.zip_cons_cons, List.zip_nil_right, List.lookup_cons, List.lookup_nil, List.any_cons, List.any_nil, Nat.reduceEqDiff, Nat.reduceBEq, beq_self_eq_true, Option.some.injEq, exists_eq_left', exists_eq_left, reduceCtorEq, ite_true, ite_false, if_true, if_false, ↓reduceIte, Bool.false_eq_true, decide_eq_true_eq, true_and, and_true, Bool.not_true, Bool.not_false, Bool.or_false, Bool.false_or, MHeap.set_self, exists_eq', List.length_cons, List.length_nil, Nat.zero_add, Nat.reduceAdd, Nat.reduceLeDiff], by simp only [sx_then_next, sx_then_ret, sx_then_brk, sx_then_cont, sx_boolof, sx_set, sx_loc, sx_clear, sx_add_i, sx_add_b, sx_add_l, sx_sub, sx_mul_i, sx_mul_l, sx_mul_b, sx_div, sx_mod, sx_pow, sx_shl, sx_shr, sx_and, sx_or, sx_iadd, sx_eq_i, sx_eq_b, sx_eq_t, sx_eq_l, sx_ne_i, sx_ne_b, sx_ne_t, sx_lt_i, sx_lt_t, sx_le, sx_gt, sx_ge, sx_is, sx_isn, sx_tr_b, sx_tr_i, sx_tr_l, sx_neg, sx_it_l, sx_it_t, sx_it_b, sx_len_l, sx_len_b, sx_ty_b, sx_ty_p, sx_by, sx_app, sx_ext, sx_pop, sx_cnt, sx_pair, sx_tail, sx_mt_l, sx_mt_b, sx_nr0, sx_ib, sx_il, sx_ir1, sx_ir3, sx_irev, sx_ien, sx_mk, sx_trn, sx_resub, sx_isi1, sx_isi2, sx_sum, sx_min, sx_sorted, sx_si, sx_sl, sx_slr, sx_mis1, sx_mis2, sx_mis3, sx_mis4, String.reduceBEq, String.reduceEq, List.map_cons, List.map_nil, List.zip_cons_cons, List.zip_nil_right, List.lookup_cons, List.lookup_nil, List.any_cons, List.any_nil, Nat.reduceEqDiff, Nat.reduceBEq, beq_self_eq_true, Option.some.injEq, exists_eq_left', exists_eq_left, reduceCtorEq, ite_true, ite_false, if_true, if_false, ↓reduceIte, Bool.false_eq_true, decide_eq_true_eq, true_and, and_true, Bool.not_true, Bool.not_false, Bool.or_false, Bool.false_or, MHeap.set_self, exists_eq', List.length_cons, List.length_nil, Nat.zero_add, Nat.reduceAdd, Nat.reduceLeDiff], by simp only [sx_then_next, sx_then_ret, sx_then_brk, sx_then_cont, sx_boolof, sx_set, sx_loc, sx_clear, sx_add_i, sx_add_b, sx_add_l, sx_sub, sx_mul_i, sx_mul_l, sx_mul_b, sx_div, sx_mod, sx_pow, sx_shl, sx_shr, sx_and, sx_or, sx_iadd, sx_eq_i, sx_eq_b, sx_eq_t, sx_eq_l, sx_ne_i, sx_ne_b, sx_ne_t, sx_lt_i, sx_lt_t, sx_le, sx_gt, sx_ge, sx_is, sx_isn, sx_tr_b, sx_tr_i, sx_tr_l, sx_neg, sx_it_l, sx_it_t, sx_it_b, sx_len_l, sx_len_b, sx_ty_b, sx_ty_p, sx_by, sx_app, sx_ext, sx_pop, sx_cnt, sx_pair, sx_tail, sx_mt_l, sx_mt_b, sx_nr0, sx_ib, sx_il, sx_ir1, sx_ir3, sx_irev, sx_ien, sx_mk, sx_trn, sx_resub, sx_isi1, sx_isi2, sx_sum, sx_min, sx_sorted, sx_si, sx_sl, sx_slr, sx_mis1, sx_mis2, sx_mis3, sx_mis4, String.reduceBEq, String.reduceEq, List.map_cons, List.map_nil, List.zip_cons_cons, List.zip_nil_right, List.lookup_cons, List.lookup_nil, List.any_cons, List.any_nil, Nat.reduceEqDiff, Nat.reduceBEq, beq_self_eq_true, Option.some.injEq, exists_eq_left', exists_eq_left, reduceCtorEq, ite_true, ite_false, if_true, if_false, ↓reduceIte, Bool.false_eq_true, decide_eq_true_eq, true_and, and_true, Bool.not_true, Bool.not_false, Bool.or_false, Bool.false_or, MHeap.set_self, exists_eq', List.length_cons, List.length_nil, Nat.zero_add, Nat.reduceAdd, Nat.reduceLeDiff], by simp only [sx_then_next, sx_then_ret, sx_then_brk, sx_then_cont, sx_boolof, sx_set, sx_loc, sx_clear, sx_add_i, sx_add_b, sx_add_l, sx_sub, sx_mul_i, sx_mul_l, sx_mul_b, sx_div, sx_mod, sx_pow, sx_shl, sx_shr, sx_and, sx_or, sx_iadd, sx_eq_i, sx_eq_b, sx_eq_t, sx_eq_l, sx_ne_i, sx_ne_b, sx_ne_t, sx_lt_i, sx_lt_t, sx_le, sx_gt, sx_ge, sx_is, sx_isn, sx_tr_b, sx_tr_i, sx_tr_l, sx_neg, sx_it_l, sx_it_t, sx_it_b, sx_len_l, sx_len_b, sx_ty_b, sx_ty_p, sx_by, sx_app, sx_ext, sx_pop, sx_cnt, sx_pair, sx_tail, sx_mt_l, sx_mt_b, sx_nr0, sx_ib, sx_il, sx_ir1, sx_ir3, sx_irev, sx_ien, sx_mk, sx_trn, sx_resub, sx_isi1, sx_isi2, sx_sum, sx_min, sx_sorted, sx_si, sx_sl, sx_slr, sx_mis1, sx_mis2, sx_mis3, sx_mis4, String.reduceBEq, String.reduceEq, List.map_cons, List.map_nil, List.zip_cons_cons, List.zip_nil_right, List.lookup_cons, List.lookup_nil, List.any_cons, List.any_nil, Nat.reduceEqDiff, Nat.reduceBEq, beq_self_eq_true, Option.some.injEq, exists_eq_left', exists_eq_left, reduceCtorEq, ite_true, ite_false, if_true, if_false, ↓reduceIte, Bool.false_eq_true, decide_eq_true_eq, true_and, and_true, Bool.not_true, Bool.not_false, Bool.or_false, Bool.false_or, MHeap.set_self, exists_eq', List.length_cons, List.length_nil, Nat.zero_add, Nat.reduceAdd, Nat.reduceLeDiff], by simp only [sx_then_next, sx_then_ret, sx_then_brk, sx_then_cont, sx_boolof, sx_set, sx_loc, sx_clear, sx_add_i, sx_add_b, sx_add_l, sx_sub, sx_mul_i, sx_mul_l, sx_mul_b, sx_div, sx_mod, sx_pow, sx_shl, sx_shr, sx_and, sx_or, sx_iadd, sx_eq_i, sx_eq_b, sx_eq_t, sx_eq_l, sx_ne_i, sx_ne_b, sx_ne_t, sx_lt_i, sx_lt_t, sx_le, sx_gt, sx_ge, sx_is, sx_isn, sx_tr_b, sx_tr_i, sx_tr_l, sx_neg, sx_it_l, sx_it_t, sx_it_b, sx_len_l, sx_len_b, sx_ty_b, sx_ty_p, sx_by, sx_app, sx_ext, sx_pop, sx_cnt, sx_pair, sx_tail, sx_mt_l, sx_mt_b, sx_nr0, sx_ib, sx_il, sx_ir1, sx_ir3, sx_irev, sx_ien, sx_mk, sx_trn, sx_resub, sx_isi1, sx_isi2, sx_sum, sx_min, sx_sorted, sx_si, sx_sl, sx_slr, sx_mis1, sx_mis2, sx_mis3, sx_mis4, String.reduceBEq, String.reduceEq, List.map_cons, List.map_nil, List.zip_cons_cons, List.zip_nil_right, List.lookup_cons, List.lookup_nil, List.any_cons, List.any_nil, Nat.reduceEqDiff, Nat.reduceBEq, beq_self_eq_true, Option.some.injEq, exists_eq_left', exists_eq_left, reduceCtorEq, ite_true, ite_false, if_true, if_false, ↓reduceIte, Bool.false_eq_true, decide_eq_true_eq, true_and, and_true, Bool.not_true, Bool.not_false, Bool.or_false, Bool.false_or, MHeap.set_self, exists_eq', List.length_cons, List.length_nil, Nat.zero_add, Nat.reduceAdd, Nat.reduceLeDiff]⟩, hLH, hLP⟩
    · have hal8 : addrs.length ≤ 8 := by simp at hal; lia
      clear hLH hLP hwt3 hF' hp' hhp hLs2 hla2 hwt'' hwt' hwt hdn' hdn hc4 hfr hal hLs1 hla1 hk1 hc3 hc2' hc2 hc1 hit hla
      clear hs' hp n4w ndw wt n4d dn nadr
      rintro t ρ H' K' ht ⟨dn, wt, hp, dnl, es, hs, hdl, hR, hI, hP⟩ kbrk knext
      obtain ⟨r1, r2, r3, r4, r5⟩ := hR
      rw [e1s0]
      simp only [r4, sx_then_next, sx_then_ret, sx_then_brk, sx_then_cont, sx_boolof, sx_set, sx_loc, sx_clear, sx_add_i, sx_add_b, sx_add_l, sx_sub, sx_mul_i, sx_mul_l, sx_mul_b, sx_div, sx_mod, sx_pow, sx_shl, sx_shr, sx_and, sx_or, sx_iadd, sx_eq_i, sx_eq_b, sx_eq_t, sx_eq_l, sx_ne_i, sx_ne_b, sx_ne_t, sx_lt_i, sx_lt_t, sx_le, sx_gt, sx_ge, sx_is, sx_isn, sx_tr_b, sx_tr_i, sx_tr_l, sx_neg, sx_it_l, sx_it_t, sx_it_b, sx_len_l, sx_len_b, sx_ty_b, sx_ty_p, sx_by, sx_app, sx_ext, sx_pop, sx_cnt, sx_pair, sx_tail, sx_mt_l, sx_mt_b, sx_nr0, sx_ib, sx_il, sx_ir1, sx_ir3, sx_irev, sx_ien, sx_mk, sx_trn, sx_resub, sx_isi1, sx_isi2, sx_sum, sx_min, sx_sorted, sx_si, sx_sl, sx_slr, sx_mis1, sx_mis2, sx_mis3, sx_mis4, String.reduceBEq, String.reduceEq, List.map_cons, List.map_nil, List.zip_cons_cons, List.zip_nil_right, List.lookup_cons, List.lookup_nil, List.any_cons, List.any_nil, Nat.reduceEqDiff, Nat.reduceBEq, beq_self_eq_true, Option.some.injEq, exists_eq_left', exists_eq_left, reduceCtorEq, ite_true, ite_false, if_true, if_false, ↓reduceIte, Bool.false_eq_true, decide_eq_true_eq, true_and, and_true, Bool.not_true, Bool.not_false, Bool.or_false, Bool.false_or, MHeap.set_self, exists_eq', List.length_cons, List.length_nil, Nat.zero_add, Nat.reduceAdd, Nat.reduceLeDiff]
      intro c hc
      refine ⟨_, told_keep hI.hwt hc, ?_⟩
      cases es with
      | nil =>
        refine .inr ⟨rfl, true, rfl, ?_⟩
        rw [if_pos rfl, e2s0]
        exact kbrk t _ _ ⟨dn, wt, hp, dnl, [], hs, hdl, ⟨r1, r2, r3, r4, r5⟩, hI.fresh _ hc, hP⟩
      | cons e0 er =>
        refine .inl ⟨by simp, ?_⟩
        have hI1 := hI.fresh [] hc
        clear hI
        generalize H'.set c [] = H1 at hI1 ⊢
        clear kbrk hc c H'
        rw [e1s1]
        have hpw : (2 : Int) ^ Int.toNat (t : Nat) = ((2 ^ t : Nat) : Int) := by rw [Int.toNat_natCast]; simp
        have hpb : 2 ^ t ≤ 2 ^ 9 := Nat.pow_le_pow_right (by decide) (by lia)
        simp only [r2, hpw, sx_then_next, sx_then_ret, sx_then_brk, sx_then_cont, sx_boolof, sx_set, sx_loc, sx_clear, sx_add_i, sx_add_b, sx_add_l, sx_sub, sx_mul_i, sx_mul_l, sx_mul_b, sx_div, sx_mod, sx_pow, sx_shl, sx_shr, sx_and, sx_or, sx_iadd, sx_eq_i, sx_eq_b, sx_eq_t, sx_eq_l, sx_ne_i, sx_ne_b, sx_ne_t, sx_lt_i, sx_lt_t, sx_le, sx_gt, sx_ge, sx_is, sx_isn, sx_tr_b, sx_tr_i, sx_tr_l, sx_neg, sx_it_l, sx_it_t, sx_it_b, sx_len_l, sx_len_b, sx_ty_b, sx_ty_p, sx_by, sx_app, sx_ext, sx_pop, sx_cnt, sx_pair, sx_tail, sx_mt_l, sx_mt_b, sx_nr0, sx_ib, sx_il, sx_ir1, sx_ir3, sx_irev, sx_ien, sx_mk, sx_trn, sx_resub, sx_isi1, sx_isi2, sx_sum, sx_min, sx_sorted, sx_si, sx_sl, sx_slr, sx_mis1, sx_mis2, sx_mis3, sx_mis4, String.reduceBEq, String.reduceEq, List.map_cons, List.map_nil, List.zip_cons_cons, List.zip_nil_right, List.lookup_cons, List.lookup_nil, List.any_cons, List.any_nil, Nat.reduceEqDiff, Nat.reduceBEq, beq_self_eq_true, Option.some.injEq, exists_eq_left', exists_eq_left, reduceCtorEq, ite_true, ite_false, if_true, if_false, ↓reduceIte, Bool.false_eq_true, decide_eq_true_eq, true_and, and_true, Bool.not_true, Bool.not_false, Bool.or_false, Bool.false_or, MHeap.set_self, exists_eq', List.length_cons, List.length_nil, Nat.zero_add, Nat.reduceAdd, Nat.reduceLeDiff]
        refine ⟨by lia, by decide, ⟨by have := Nat.two_pow_pos t; lia, by lia⟩, by decide, by decide, ?_⟩
        generalize ((2 ^ t : Nat) : Int) = tw
        clear hpw hpb
        obtain ⟨m, hm, hm4⟩ := manner ((26 + (List.take 5 ns).sum).fdiv tw) ((((t : Nat) : Int).fmod 3) = 2)
        refine both2 (F := fun z => W1s2 ((ρ.set 6 (.int (t : Nat))).set 7 (.int z)) K' H1) hm ?_
        show W1s2 _ _ _
        clear hm tw
        rw [e1s2]
        simp only [sx_then_next, sx_then_ret, sx_then_brk, sx_then_cont, sx_boolof, sx_set, sx_loc, sx_clear, sx_add_i, sx_add_b, sx_add_l, sx_sub, sx_mul_i, sx_mul_l, sx_mul_b, sx_div, sx_mod, sx_pow, sx_shl, sx_shr, sx_and, sx_or, sx_iadd, sx_eq_i, sx_eq_b, sx_eq_t, sx_eq_l, sx_ne_i, sx_ne_b, sx_ne_t, sx_lt_i, sx_lt_t, sx_le, sx_gt, sx_ge, sx_is, sx_isn, sx_tr_b, sx_tr_i, sx_tr_l, sx_neg, sx_it_l, sx_it_t, sx_it_b, sx_len_l, sx_len_b, sx_ty_b, sx_ty_p, sx_by, sx_app, sx_ext, sx_pop, sx_cnt, sx_pair, sx_tail, sx_mt_l, sx_mt_b, sx_nr0, sx_ib, sx_il, sx_ir1, sx_ir3, sx_irev, sx_ien, sx_mk, sx_trn, sx_resub, sx_isi1, sx_isi2, sx_sum, sx_min, sx_sorted, sx_si, sx_sl, sx_slr, sx_mis1, sx_mis2, sx_mis3, sx_mis4, String.reduceBEq, String.reduceEq, List.map_cons, List.map_nil, List.zip_cons_cons, List.zip_nil_right, List.lookup_cons, List.lookup_nil, List.any_cons, List.any_nil, Nat.reduceEqDiff, Nat.reduceBEq, beq_self_eq_true, Option.some.injEq, exists_eq_left', exists_eq_left, reduceCtorEq, ite_true, ite_false, if_true, if_false, ↓reduceIte, Bool.false_eq_true, decide_eq_true_eq, true_and, and_true, Bool.not_true, Bool.not_false, Bool.or_false, Bool.false_or, MHeap.set_self, exists_eq', List.length_cons, List.length_nil, Nat.zero_add, Nat.reduceAdd, Nat.reduceLeDiff]
        refine ⟨by lia, _, by rw [Int.toNat_natCast]; exact signs_at hm4, ?_⟩
        rw [e1s3]
        simp only [r4, sx_then_next, sx_then_ret, sx_then_brk, sx_then_cont, sx_boolof, sx_set, sx_loc, sx_clear, sx_add_i, sx_add_b, sx_add_l, sx_sub, sx_mul_i, sx_mul_l, sx_mul_b, sx_div, sx_mod, sx_pow, sx_shl, sx_shr, sx_and, sx_or, sx_iadd, sx_eq_i, sx_eq_b, sx_eq_t, sx_eq_l, sx_ne_i, sx_ne_b, sx_ne_t, sx_lt_i, sx_lt_t, sx_le, sx_gt, sx_ge, sx_is, sx_isn, sx_tr_b, sx_tr_i, sx_tr_l, sx_neg, sx_it_l, sx_it_t, sx_it_b, sx_len_l, sx_len_b, sx_ty_b, sx_ty_p, sx_by, sx_app, sx_ext, sx_pop, sx_cnt, sx_pair, sx_tail, sx_mt_l, sx_mt_b, sx_nr0, sx_ib, sx_il, sx_ir1, sx_ir3, sx_irev, sx_ien, sx_mk, sx_trn, sx_resub, sx_isi1, sx_isi2, sx_sum, sx_min, sx_sorted, sx_si, sx_sl, sx_slr, sx_mis1, sx_mis2, sx_mis3, sx_mis4, String.reduceBEq, String.reduceEq, List.map_cons, List.map_nil, List.zip_cons_cons, List.zip_nil_right, List.lookup_cons, List.lookup_nil, List.any_cons, List.any_nil, Nat.reduceEqDiff, Nat.reduceBEq, beq_self_eq_true, Option.some.injEq, exists_eq_left', exists_eq_left, reduceCtorEq, ite_true, ite_false, if_true, if_false, ↓reduceIte, Bool.false_eq_true, decide_eq_true_eq, true_and, and_true, Bool.not_true, Bool.not_false, Bool.or_false, Bool.false_or, MHeap.set_self, exists_eq', List.length_cons, List.length_nil, Nat.zero_add, Nat.reduceAdd, Nat.reduceLeDiff]
        obtain ⟨lm, hmin, hlm, hle'⟩ := min_ok er e0 hP.dist
        cases hs with
        | nil => exact absurd hP.perm.length_eq (by simp)
        | cons h0 hr =>
        have hlm' : lm ∈ h0 :: hr := hP.perm.mem_iff.mpr hlm
        have eq0 : lm = h0 := hle_anti hP.dist hlm (hP.perm.mem_iff.mp (.head _)) (hle' h0 (hP.perm.mem_iff.mp (.head _))) (heap_min hP.heap lm hlm')
        subst eq0
        refine ⟨ent e0, er.map ent, ent lm, hI1.hwt, hmin, ?_⟩
        clear hmin hle' hlm'
        rw [e1s4]
        simp only [r5, sx_then_next, sx_then_ret, sx_then_brk, sx_then_cont, sx_boolof, sx_set, sx_loc, sx_clear, sx_add_i, sx_add_b, sx_add_l, sx_sub, sx_mul_i, sx_mul_l, sx_mul_b, sx_div, sx_mod, sx_pow, sx_shl, sx_shr, sx_and, sx_or, sx_iadd, sx_eq_i, sx_eq_b, sx_eq_t, sx_eq_l, sx_ne_i, sx_ne_b, sx_ne_t, sx_lt_i, sx_lt_t, sx_le, sx_gt, sx_ge, sx_is, sx_isn, sx_tr_b, sx_tr_i, sx_tr_l, sx_neg, sx_it_l, sx_it_t, sx_it_b, sx_len_l, sx_len_b, sx_ty_b, sx_ty_p, sx_by, sx_app, sx_ext, sx_pop, sx_cnt, sx_pair, sx_tail, sx_mt_l, sx_mt_b, sx_nr0, sx_ib, sx_il, sx_ir1, sx_ir3, sx_irev, sx_ien, sx_mk, sx_trn, sx_resub, sx_isi1, sx_isi2, sx_sum, sx_min, sx_sorted, sx_si, sx_sl, sx_slr, sx_mis1, sx_mis2, sx_mis3, sx_mis4, String.reduceBEq, String.reduceEq, List.map_cons, List.map_nil, List.zip_cons_cons, List.zip_nil_right, List.lookup_cons, List.lookup_nil, List.any_cons, List.any_nil, Nat.reduceEqDiff, Nat.reduceBEq, beq_self_eq_true, Option.some.injEq, exists_eq_left', exists_eq_left, reduceCtorEq, ite_true, ite_false, if_true, if_false, ↓reduceIte, Bool.false_eq_true, decide_eq_true_eq, true_and, and_true, Bool.not_true, Bool.not_false, Bool.or_false, Bool.false_or, MHeap.set_self, exists_eq', List.length_cons, List.length_nil, Nat.zero_add, Nat.reduceAdd, Nat.reduceLeDiff]
        refine ⟨_, hI1.hhp, by decide, ent lm, rfl, ?_⟩
        obtain ⟨L, hLp, hoc⟩ := hP.vals lm hlm
        obtain ⟨x, hxp, hL1⟩ := hI1.lts.get hLp
        obtain ⟨n, hLn, hn3⟩ := hL1.len
        refine turn_cps (p := lm.1) hm4 hLn hn3 hL1.lt (dnl := dnl) (by omega) fun V V' S k k' q' hV hV' hVl hk hVlt hVl' hk' hVlt' hts2 htr hS hSl hq' hq4 hback => ?_
        rw [← hV] at hoc
        clear hL1 hxp x hV hlm
        have hlm0 : ent lm = .tup [.int (lm.2.length : Nat), .int (lm.1 : Nat), .bytes lm.2] := rfl
        rw [hlm0]
        simp only [sx_then_next, sx_then_ret, sx_then_brk, sx_then_cont, sx_boolof, sx_set, sx_loc, sx_clear, sx_add_i, sx_add_b, sx_add_l, sx_sub, sx_mul_i, sx_mul_l, sx_mul_b, sx_div, sx_mod, sx_pow, sx_shl, sx_shr, sx_and, sx_or, sx_iadd, sx_eq_i, sx_eq_b, sx_eq_t, sx_eq_l, sx_ne_i, sx_ne_b, sx_ne_t, sx_lt_i, sx_lt_t, sx_le, sx_gt, sx_ge, sx_is, sx_isn, sx_tr_b, sx_tr_i, sx_tr_l, sx_neg, sx_it_l, sx_it_t, sx_it_b, sx_len_l, sx_len_b, sx_ty_b, sx_ty_p, sx_by, sx_app, sx_ext, sx_pop, sx_cnt, sx_pair, sx_tail, sx_mt_l, sx_mt_b, sx_nr0, sx_ib, sx_il, sx_ir1, sx_ir3, sx_irev, sx_ien, sx_mk, sx_trn, sx_resub, sx_isi1, sx_isi2, sx_sum, sx_min, sx_sorted, sx_si, sx_sl, sx_slr, sx_mis1, sx_mis2, sx_mis3, sx_mis4, String.reduceBEq, String.reduceEq, List.map_cons, List.map_nil, List.zip_cons_cons, List.zip_nil_right, List.lookup_cons, List.lookup_nil, List.any_cons, List.any_nil, Nat.reduceEqDiff, Nat.reduceBEq, beq_self_eq_true, Option.some.injEq, exists_eq_left', exists_eq_left, reduceCtorEq, ite_true, ite_false, if_true, if_false, ↓reduceIte, Bool.false_eq_true, decide_eq_true_eq, true_and, and_true, Bool.not_true, Bool.not_false, Bool.or_false, Bool.false_or, MHeap.set_self, exists_eq', List.length_cons, List.length_nil, Nat.zero_add, Nat.reduceAdd, Nat.reduceLeDiff]
        rw [← hlm0, e1s5]
        simp only [sx_wbe, sx_wqp, sx_then_next, sx_then_ret, sx_then_brk, sx_then_cont, sx_boolof, sx_set, sx_loc, sx_clear, sx_add_i, sx_add_b, sx_add_l, sx_sub, sx_mul_i, sx_mul_l, sx_mul_b, sx_div, sx_mod, sx_pow, sx_shl, sx_shr, sx_and, sx_or, sx_iadd, sx_eq_i, sx_eq_b, sx_eq_t, sx_eq_l, sx_ne_i, sx_ne_b, sx_ne_t, sx_lt_i, sx_lt_t, sx_le, sx_gt, sx_ge, sx_is, sx_isn, sx_tr_b, sx_tr_i, sx_tr_l, sx_neg, sx_it_l, sx_it_t, sx_it_b, sx_len_l, sx_len_b, sx_ty_b, sx_ty_p, sx_by, sx_app, sx_ext, sx_pop, sx_cnt, sx_pair, sx_tail, sx_mt_l, sx_mt_b, sx_nr0, sx_ib, sx_il, sx_ir1, sx_ir3, sx_irev, sx_ien, sx_mk, sx_trn, sx_resub, sx_isi1, sx_isi2, sx_sum, sx_min, sx_sorted, sx_si, sx_sl, sx_slr, sx_mis1, sx_mis2, sx_mis3, sx_mis4, String.reduceBEq, String.reduceEq, List.map_cons, List.map_nil, List.zip_cons_cons, List.zip_nil_right, List.lookup_cons, List.lookup_nil, List.any_cons, List.any_nil, Nat.reduceEqDiff, Nat.reduceBEq, beq_self_eq_true, Option.some.injEq, exists_eq_left', exists_eq_left, reduceCtorEq, ite_true, ite_false, if_true, if_false, ↓reduceIte, Bool.false_eq_true, decide_eq_true_eq, true_and, and_true, Bool.not_true, Bool.not_false, Bool.or_false, Bool.false_or, MHeap.set_self, exists_eq', List.length_cons, List.length_nil, Nat.zero_add, Nat.reduceAdd, Nat.reduceLeDiff]
        refine ⟨V, k, hoc, hVl, by lia, hVlt, by lia, ?_⟩
        rw [hS, e1s6]
        simp only [hq', sx_wbd, sx_then_next, sx_then_ret, sx_then_brk, sx_then_cont, sx_boolof, sx_set, sx_loc, sx_clear, sx_add_i, sx_add_b, sx_add_l, sx_sub, sx_mul_i, sx_mul_l, sx_mul_b, sx_div, sx_mod, sx_pow, sx_shl, sx_shr, sx_and, sx_or, sx_iadd, sx_eq_i, sx_eq_b, sx_eq_t, sx_eq_l, sx_ne_i, sx_ne_b, sx_ne_t, sx_lt_i, sx_lt_t, sx_le, sx_gt, sx_ge, sx_is, sx_isn, sx_tr_b, sx_tr_i, sx_tr_l, sx_neg, sx_it_l, sx_it_t, sx_it_b, sx_len_l, sx_len_b, sx_ty_b, sx_ty_p, sx_by, sx_app, sx_ext, sx_pop, sx_cnt, sx_pair, sx_tail, sx_mt_l, sx_mt_b, sx_nr0, sx_ib, sx_il, sx_ir1, sx_ir3, sx_irev, sx_ien, sx_mk, sx_trn, sx_resub, sx_isi1, sx_isi2, sx_sum, sx_min, sx_sorted, sx_si, sx_sl, sx_slr, sx_mis1, sx_mis2, sx_mis3, sx_mis4, String.reduceBEq, String.reduceEq, List.map_cons, List.map_nil, List.zip_cons_cons, List.zip_nil_right, List.lookup_cons, List.lookup_nil, List.any_cons, List.any_nil, Nat.reduceEqDiff, Nat.reduceBEq, beq_self_eq_true, Option.some.injEq, exists_eq_left', exists_eq_left, reduceCtorEq, ite_true, ite_false, if_true, if_false, ↓reduceIte, Bool.false_eq_true, decide_eq_true_eq, true_and, and_true, Bool.not_true, Bool.not_false, Bool.or_false, Bool.false_or, MHeap.set_self, exists_eq', List.length_cons, List.length_nil, Nat.zero_add, Nat.reduceAdd, Nat.reduceLeDiff]
        refine ⟨by lia, by decide, 65, rfl, by lia, ?_⟩
        rw [Int.toNat_natCast]
        refine ⟨by rw [List.length_replicate]; lia, V', k', hback, hVl', by lia, hVlt', ?_⟩
        generalize hR : oct4 V' = R
        have hRl : R.length ≤ 300 := by rw [← hR, oct4_len k' _ hVl']; lia
        have hDist : Dist (lm :: hr) := hP.dist.perm hP.perm
        have hrl : hr.length < 1000 := by have h1 := hP.perm.length_eq; have h2 := hP.few; simp at h1 h2; lia
        clear hback hS hSl hq' hq4 htr hoc hVl hVlt hk
        have key : ∀ (ρ' : Loc) (H2 : MHeap) (hs' : List Ent), LR ρ' la (26 + (List.take 5 ns).sum) dn wt hp → ρ' 7 = some (.int (m : Nat)) → ρ' 9 = some (ent lm) → ρ' 10 = some (.int (lm.1 : Nat)) → ρ' 11 = some (.bytes lm.2) → ρ' 13 = some (.bytes R) → ρ' 14 = some (ent lm) →
            LH H la addrs Ls dn wt hp H2 (dnl.map prM) ((e0 :: er).map ent) (hs'.map ent) → HeapFrom 0 hs' → (R = lm.2 → hs'.Perm hr) → (R ≠ lm.2 → hs'.Perm ((lm.1, R) :: hr)) → W1s8 ρ' K' H2 := by
          clear hI1 hDist hrl
          rintro ρ' H2 hs' ⟨r1, r2, r3, r4, r5⟩ r7 r9 r10 r11 r13 r14 hI2 hF' hpe hpn
          rw [e1s8]
          simp only [r3, r7, r10, sx_then_next, sx_then_ret, sx_then_brk, sx_then_cont, sx_boolof, sx_set, sx_loc, sx_clear, sx_add_i, sx_add_b, sx_add_l, sx_sub, sx_mul_i, sx_mul_l, sx_mul_b, sx_div, sx_mod, sx_pow, sx_shl, sx_shr, sx_and, sx_or, sx_iadd, sx_eq_i, sx_eq_b, sx_eq_t, sx_eq_l, sx_ne_i, sx_ne_b, sx_ne_t, sx_lt_i, sx_lt_t, sx_le, sx_gt, sx_ge, sx_is, sx_isn, sx_tr_b, sx_tr_i, sx_tr_l, sx_neg, sx_it_l, sx_it_t, sx_it_b, sx_len_l, sx_len_b, sx_ty_b, sx_ty_p, sx_by, sx_app, sx_ext, sx_pop, sx_cnt, sx_pair, sx_tail, sx_mt_l, sx_mt_b, sx_nr0, sx_ib, sx_il, sx_ir1, sx_ir3, sx_irev, sx_ien, sx_mk, sx_trn, sx_resub, sx_isi1, sx_isi2, sx_sum, sx_min, sx_sorted, sx_si, sx_sl, sx_slr, sx_mis1, sx_mis2, sx_mis3, sx_mis4, String.reduceBEq, String.reduceEq, List.map_cons, List.map_nil, List.zip_cons_cons, List.zip_nil_right, List.lookup_cons, List.lookup_nil, List.any_cons, List.any_nil, Nat.reduceEqDiff, Nat.reduceBEq, beq_self_eq_true, Option.some.injEq, exists_eq_left', exists_eq_left, reduceCtorEq, ite_true, ite_false, if_true, if_false, ↓reduceIte, Bool.false_eq_true, decide_eq_true_eq, true_and, and_true, Bool.not_true, Bool.not_false, Bool.or_false, Bool.false_or, MHeap.set_self, exists_eq', List.length_cons, List.length_nil, Nat.zero_add, Nat.reduceAdd, Nat.reduceLeDiff]
          refine ⟨⟨_, hI2.hdn⟩, _, hI2.hdn, by simp; lia, ?_⟩
          have hdd : dnl.map prM ++ [MV.tup [.int (lm.1 : Nat), .int (m : Nat)]] = (dnl ++ [(lm.1, m)]).map prM := by rw [List.map_append]; rfl
          rw [hdd]
          have hI3 := hI2.setDn ((dnl ++ [(lm.1, m)]).map prM)
          clear hI2 hdd
          generalize H2.set dn ((dnl ++ [(lm.1, m)]).map prM) = H3 at hI3 ⊢
          rw [e1s9]
          simp only [sx_then_next, sx_then_ret, sx_then_brk, sx_then_cont, sx_boolof, sx_set, sx_loc, sx_clear, sx_add_i, sx_add_b, sx_add_l, sx_sub, sx_mul_i, sx_mul_l, sx_mul_b, sx_div, sx_mod, sx_pow, sx_shl, sx_shr, sx_and, sx_or, sx_iadd, sx_eq_i, sx_eq_b, sx_eq_t, sx_eq_l, sx_ne_i, sx_ne_b, sx_ne_t, sx_lt_i, sx_lt_t, sx_le, sx_gt, sx_ge, sx_is, sx_isn, sx_tr_b, sx_tr_i, sx_tr_l, sx_neg, sx_it_l, sx_it_t, sx_it_b, sx_len_l, sx_len_b, sx_ty_b, sx_ty_p, sx_by, sx_app, sx_ext, sx_pop, sx_cnt, sx_pair, sx_tail, sx_mt_l, sx_mt_b, sx_nr0, sx_ib, sx_il, sx_ir1, sx_ir3, sx_irev, sx_ien, sx_mk, sx_trn, sx_resub, sx_isi1, sx_isi2, sx_sum, sx_min, sx_sorted, sx_si, sx_sl, sx_slr, sx_mis1, sx_mis2, sx_mis3, sx_mis4, String.reduceBEq, String.reduceEq, List.map_cons, List.map_nil, List.zip_cons_cons, List.zip_nil_right, List.lookup_cons, List.lookup_nil, List.any_cons, List.any_nil, Nat.reduceEqDiff, Nat.reduceBEq, beq_self_eq_true, Option.some.injEq, exists_eq_left', exists_eq_left, reduceCtorEq, ite_true, ite_false, if_true, if_false, ↓reduceIte, Bool.false_eq_true, decide_eq_true_eq, true_and, and_true, Bool.not_true, Bool.not_false, Bool.or_false, Bool.false_or, MHeap.set_self, exists_eq', List.length_cons, List.length_nil, Nat.zero_add, Nat.reduceAdd, Nat.reduceLeDiff]
          refine ⟨by decide, fun tn htn => ⟨trivial, ?_⟩⟩
          rw [show runItems 0 1 (Int.toNat 4) = [0, 1, 2, 3].map (fun j : Nat => MV.int (j : Nat)) from rfl]
          refine comp_turns (dn := dn) (dnl := dnl ++ [(lm.1, m)]) (p := lm.1) hI3.hdn htn _ _ _ r3 r10 (by simp) ?_
          show W1s10 _ _ _
          have hI4 := hI3.fresh ([] ++ [0, 1, 2, 3].map fun j => .int (cnt (dnl ++ [(lm.1, m)]) lm.1 j : Nat)) htn
          have htn4 : (H3.set tn ([] ++ [0, 1, 2, 3].map fun j => .int (cnt (dnl ++ [(lm.1, m)]) lm.1 j : Nat))) tn = some (tsInts (cnt (dnl ++ [(lm.1, m)]) lm.1)) := MHeap.set_self _ _ _
          obtain ⟨x, hxp, hL1⟩ := hI3.lts.get hLp
          have hxt : x ≠ tn := told_ne hL1.at_ htn
          clear hI3
          generalize H3.set tn ([] ++ [0, 1, 2, 3].map fun j => .int (cnt (dnl ++ [(lm.1, m)]) lm.1 j : Nat)) = H4 at hI4 htn4 ⊢
          obtain ⟨x', hxp', hL2⟩ := hI4.lts.get hLp
          obtain rfl : x = x' := by rw [hxp] at hxp'; exact Option.some.inj hxp'
          have hplt : lm.1 < addrs.length := by
            rcases Nat.lt_or_ge lm.1 addrs.length with h | h
            · exact h
            · rw [List.getElem?_eq_none h] at hxp; cases hxp
          rw [e1s10]
          simp only [r1, r10, sx_then_next, sx_then_ret, sx_then_brk, sx_then_cont, sx_boolof, sx_set, sx_loc, sx_clear, sx_add_i, sx_add_b, sx_add_l, sx_sub, sx_mul_i, sx_mul_l, sx_mul_b, sx_div, sx_mod, sx_pow, sx_shl, sx_shr, sx_and, sx_or, sx_iadd, sx_eq_i, sx_eq_b, sx_eq_t, sx_eq_l, sx_ne_i, sx_ne_b, sx_ne_t, sx_lt_i, sx_lt_t, sx_le, sx_gt, sx_ge, sx_is, sx_isn, sx_tr_b, sx_tr_i, sx_tr_l, sx_neg, sx_it_l, sx_it_t, sx_it_b, sx_len_l, sx_len_b, sx_ty_b, sx_ty_p, sx_by, sx_app, sx_ext, sx_pop, sx_cnt, sx_pair, sx_tail, sx_mt_l, sx_mt_b, sx_nr0, sx_ib, sx_il, sx_ir1, sx_ir3, sx_irev, sx_ien, sx_mk, sx_trn, sx_resub, sx_isi1, sx_isi2, sx_sum, sx_min, sx_sorted, sx_si, sx_sl, sx_slr, sx_mis1, sx_mis2, sx_mis3, sx_mis4, String.reduceBEq, String.reduceEq, List.map_cons, List.map_nil, List.zip_cons_cons, List.zip_nil_right, List.lookup_cons, List.lookup_nil, List.any_cons, List.any_nil, Nat.reduceEqDiff, Nat.reduceBEq, beq_self_eq_true, Option.some.injEq, exists_eq_left', exists_eq_left, reduceCtorEq, ite_true, ite_false, if_true, if_false, ↓reduceIte, Bool.false_eq_true, decide_eq_true_eq, true_and, and_true, Bool.not_true, Bool.not_false, Bool.or_false, Bool.false_or, MHeap.set_self, exists_eq', List.length_cons, List.length_nil, Nat.zero_add, Nat.reduceAdd, Nat.reduceLeDiff]
          refine ⟨_, hI4.hla, by lia, .lst x, by rw [Int.toNat_natCast, List.getElem?_map, hxp]; rfl, ?_⟩
          refine ⟨L, _, hL2.at_, htn4, hxt, by lia, by lia, hL2.lt, fun gw hgw => ?_⟩
          rw [← hV']
          refine ⟨_, k', MHeap.set_self _ _ _, hVl', by lia, hVlt', ?_⟩
          rw [hR]
          have hI5 := hI4.fresh (natInts V') hgw
          clear hI4 htn4 hxp' hL2
          generalize H4.set gw (natInts V') = H5 at hI5 ⊢
          rw [e1s11]
          simp only [r9, r13, r14, sx_then_next, sx_then_ret, sx_then_brk, sx_then_cont, sx_boolof, sx_set, sx_loc, sx_clear, sx_add_i, sx_add_b, sx_add_l, sx_sub, sx_mul_i, sx_mul_l, sx_mul_b, sx_div, sx_mod, sx_pow, sx_shl, sx_shr, sx_and, sx_or, sx_iadd, sx_eq_i, sx_eq_b, sx_eq_t, sx_eq_l, sx_ne_i, sx_ne_b, sx_ne_t, sx_lt_i, sx_lt_t, sx_le, sx_gt, sx_ge, sx_is, sx_isn, sx_tr_b, sx_tr_i, sx_tr_l, sx_neg, sx_it_l, sx_it_t, sx_it_b, sx_len_l, sx_len_b, sx_ty_b, sx_ty_p, sx_by, sx_app, sx_ext, sx_pop, sx_cnt, sx_pair, sx_tail, sx_mt_l, sx_mt_b, sx_nr0, sx_ib, sx_il, sx_ir1, sx_ir3, sx_irev, sx_ien, sx_mk, sx_trn, sx_resub, sx_isi1, sx_isi2, sx_sum, sx_min, sx_sorted, sx_si, sx_sl, sx_slr, sx_mis1, sx_mis2, sx_mis3, sx_mis4, String.reduceBEq, String.reduceEq, List.map_cons, List.map_nil, List.zip_cons_cons, List.zip_nil_right, List.lookup_cons, List.lookup_nil, List.any_cons, List.any_nil, Nat.reduceEqDiff, Nat.reduceBEq, beq_self_eq_true, Option.some.injEq, exists_eq_left', exists_eq_left, reduceCtorEq, ite_true, ite_false, if_true, if_false, ↓reduceIte, Bool.false_eq_true, decide_eq_true_eq, true_and, and_true, Bool.not_true, Bool.not_false, Bool.or_false, Bool.false_or, MHeap.set_self, exists_eq', List.length_cons, List.length_nil, Nat.zero_add, Nat.reduceAdd, Nat.reduceLeDiff]
          refine ⟨true, meq_pair lm R, ?_⟩
          rw [if_neg (by decide), e1s12]
          simp only [r4, sx_then_next, sx_then_ret, sx_then_brk, sx_then_cont, sx_boolof, sx_set, sx_loc, sx_clear, sx_add_i, sx_add_b, sx_add_l, sx_sub, sx_mul_i, sx_mul_l, sx_mul_b, sx_div, sx_mod, sx_pow, sx_shl, sx_shr, sx_and, sx_or, sx_iadd, sx_eq_i, sx_eq_b, sx_eq_t, sx_eq_l, sx_ne_i, sx_ne_b, sx_ne_t, sx_lt_i, sx_lt_t, sx_le, sx_gt, sx_ge, sx_is, sx_isn, sx_tr_b, sx_tr_i, sx_tr_l, sx_neg, sx_it_l, sx_it_t, sx_it_b, sx_len_l, sx_len_b, sx_ty_b, sx_ty_p, sx_by, sx_app, sx_ext, sx_pop, sx_cnt, sx_pair, sx_tail, sx_mt_l, sx_mt_b, sx_nr0, sx_ib, sx_il, sx_ir1, sx_ir3, sx_irev, sx_ien, sx_mk, sx_trn, sx_resub, sx_isi1, sx_isi2, sx_sum, sx_min, sx_sorted, sx_si, sx_sl, sx_slr, sx_mis1, sx_mis2, sx_mis3, sx_mis4, String.reduceBEq, String.reduceEq, List.map_cons, List.map_nil, List.zip_cons_cons, List.zip_nil_right, List.lookup_cons, List.lookup_nil, List.any_cons, List.any_nil, Nat.reduceEqDiff, Nat.reduceBEq, beq_self_eq_true, Option.some.injEq, exists_eq_left', exists_eq_left, reduceCtorEq, ite_true, ite_false, if_true, if_false, ↓reduceIte, Bool.false_eq_true, decide_eq_true_eq, true_and, and_true, Bool.not_true, Bool.not_false, Bool.or_false, Bool.false_or, MHeap.set_self, exists_eq', List.length_cons, List.length_nil, Nat.zero_add, Nat.reduceAdd, Nat.reduceLeDiff]
          refine ⟨_, hI5.hwt, fun wt' hwt' => ⟨told_keep hI5.hwt hwt', ?_⟩⟩
          have hlw := told_ne hI5.hwt hwt'
          have hfew := hP.few
          refine comp_filter (pl := lm.1) (e0 :: er) [] _ _ r10 (MHeap.set_self _ _ _) (told_keep hI5.hwt hwt') hlw (by simp at hfew ⊢; lia) ?_
          show W1s13 _ _ _
          rw [MHeap.set_set, List.nil_append]
          have hI6 := hI5.newWt (((e0 :: er).filter fun e => e.1 != lm.1).map ent) hwt'
          generalize H5.set wt' (((e0 :: er).filter fun e => e.1 != lm.1).map ent) = H6 at hI6 ⊢
          rw [e1s13]
          simp only [r11, r13, sx_then_next, sx_then_ret, sx_then_brk, sx_then_cont, sx_boolof, sx_set, sx_loc, sx_clear, sx_add_i, sx_add_b, sx_add_l, sx_sub, sx_mul_i, sx_mul_l, sx_mul_b, sx_div, sx_mod, sx_pow, sx_shl, sx_shr, sx_and, sx_or, sx_iadd, sx_eq_i, sx_eq_b, sx_eq_t, sx_eq_l, sx_ne_i, sx_ne_b, sx_ne_t, sx_lt_i, sx_lt_t, sx_le, sx_gt, sx_ge, sx_is, sx_isn, sx_tr_b, sx_tr_i, sx_tr_l, sx_neg, sx_it_l, sx_it_t, sx_it_b, sx_len_l, sx_len_b, sx_ty_b, sx_ty_p, sx_by, sx_app, sx_ext, sx_pop, sx_cnt, sx_pair, sx_tail, sx_mt_l, sx_mt_b, sx_nr0, sx_ib, sx_il, sx_ir1, sx_ir3, sx_irev, sx_ien, sx_mk, sx_trn, sx_resub, sx_isi1, sx_isi2, sx_sum, sx_min, sx_sorted, sx_si, sx_sl, sx_slr, sx_mis1, sx_mis2, sx_mis3, sx_mis4, String.reduceBEq, String.reduceEq, List.map_cons, List.map_nil, List.zip_cons_cons, List.zip_nil_right, List.lookup_cons, List.lookup_nil, List.any_cons, List.any_nil, Nat.reduceEqDiff, Nat.reduceBEq, beq_self_eq_true, Option.some.injEq, exists_eq_left', exists_eq_left, reduceCtorEq, ite_true, ite_false, if_true, if_false, ↓reduceIte, Bool.false_eq_true, decide_eq_true_eq, true_and, and_true, Bool.not_true, Bool.not_false, Bool.or_false, Bool.false_or, MHeap.set_self, exists_eq', List.length_cons, List.length_nil, Nat.zero_add, Nat.reduceAdd, Nat.reduceLeDiff]
          have hfl : ((e0 :: er).filter fun e => e.1 != lm.1).length ≤ 8 := Nat.le_trans (List.length_filter_le _ _) hP.few
          by_cases hb : R = lm.2
          · rw [if_neg (fun h => h hb)]
            exact knext _ _ ⟨dn, wt', hp, dnl ++ [(lm.1, m)], _, hs', by rw [List.length_append, hdl]; rfl, ⟨r1, r2, r3, rfl, r5⟩, hI6, hP.out (hpe hb) hF'⟩
          · rw [if_pos hb, e6s0]
            simp only [r10, sx_then_next, sx_then_ret, sx_then_brk, sx_then_cont, sx_boolof, sx_set, sx_loc, sx_clear, sx_add_i, sx_add_b, sx_add_l, sx_sub, sx_mul_i, sx_mul_l, sx_mul_b, sx_div, sx_mod, sx_pow, sx_shl, sx_shr, sx_and, sx_or, sx_iadd, sx_eq_i, sx_eq_b, sx_eq_t, sx_eq_l, sx_ne_i, sx_ne_b, sx_ne_t, sx_lt_i, sx_lt_t, sx_le, sx_gt, sx_ge, sx_is, sx_isn, sx_tr_b, sx_tr_i, sx_tr_l, sx_neg, sx_it_l, sx_it_t, sx_it_b, sx_len_l, sx_len_b, sx_ty_b, sx_ty_p, sx_by, sx_app, sx_ext, sx_pop, sx_cnt, sx_pair, sx_tail, sx_mt_l, sx_mt_b, sx_nr0, sx_ib, sx_il, sx_ir1, sx_ir3, sx_irev, sx_ien, sx_mk, sx_trn, sx_resub, sx_isi1, sx_isi2, sx_sum, sx_min, sx_sorted, sx_si, sx_sl, sx_slr, sx_mis1, sx_mis2, sx_mis3, sx_mis4, String.reduceBEq, String.reduceEq, List.map_cons, List.map_nil, List.zip_cons_cons, List.zip_nil_right, List.lookup_cons, List.lookup_nil, List.any_cons, List.any_nil, Nat.reduceEqDiff, Nat.reduceBEq, beq_self_eq_true, Option.some.injEq, exists_eq_left', exists_eq_left, reduceCtorEq, ite_true, ite_false, if_true, if_false, ↓reduceIte, Bool.false_eq_true, decide_eq_true_eq, true_and, and_true, Bool.not_true, Bool.not_false, Bool.or_false, Bool.false_or, MHeap.set_self, exists_eq', List.length_cons, List.length_nil, Nat.zero_add, Nat.reduceAdd, Nat.reduceLeDiff]
            refine ⟨⟨_, hI6.hwt⟩, by lia, _, hI6.hwt, by rw [List.length_map]; lia, ?_⟩
            refine knext _ _ ⟨dn, wt', hp, dnl ++ [(lm.1, m)], ((e0 :: er).filter fun e => e.1 != lm.1) ++ [(lm.1, R)], hs', by rw [List.length_append, hdl]; rfl, ⟨r1, r2, r3, rfl, r5⟩, ?_, hP.back hLp (by rw [← hV', hR]) (hpn hb) hF'⟩
            have := hI6.setWt (((e0 :: er).filter fun e => e.1 != lm.1).map ent ++ [.tup [.int (R.length : Nat), .int (lm.1 : Nat), .bytes R]])
            have hm2 : (((e0 :: er).filter fun e => e.1 != lm.1) ++ [(lm.1, R)]).map ent = ((e0 :: er).filter fun e => e.1 != lm.1).map ent ++ [.tup [.int (R.length : Nat), .int (lm.1 : Nat), .bytes R]] := List.map_append ..
            rw [hm2]
            exact this
        rw [e1s7]
        simp only [sx_then_next, sx_then_ret, sx_then_brk, sx_then_cont, sx_boolof, sx_set, sx_loc, sx_clear, sx_add_i, sx_add_b, sx_add_l, sx_sub, sx_mul_i, sx_mul_l, sx_mul_b, sx_div, sx_mod, sx_pow, sx_shl, sx_shr, sx_and, sx_or, sx_iadd, sx_eq_i, sx_eq_b, sx_eq_t, sx_eq_l, sx_ne_i, sx_ne_b, sx_ne_t, sx_lt_i, sx_lt_t, sx_le, sx_gt, sx_ge, sx_is, sx_isn, sx_tr_b, sx_tr_i, sx_tr_l, sx_neg, sx_it_l, sx_it_t, sx_it_b, sx_len_l, sx_len_b, sx_ty_b, sx_ty_p, sx_by, sx_app, sx_ext, sx_pop, sx_cnt, sx_pair, sx_tail, sx_mt_l, sx_mt_b, sx_nr0, sx_ib, sx_il, sx_ir1, sx_ir3, sx_irev, sx_ien, sx_mk, sx_trn, sx_resub, sx_isi1, sx_isi2, sx_sum, sx_min, sx_sorted, sx_si, sx_sl, sx_slr, sx_mis1, sx_mis2, sx_mis3, sx_mis4, String.reduceBEq, String.reduceEq, List.map_cons, List.map_nil, List.zip_cons_cons, List.zip_nil_right, List.lookup_cons, List.lookup_nil, List.any_cons, List.any_nil, Nat.reduceEqDiff, Nat.reduceBEq, beq_self_eq_true, Option.some.injEq, exists_eq_left', exists_eq_left, reduceCtorEq, ite_true, ite_false, if_true, if_false, ↓reduceIte, Bool.false_eq_true, decide_eq_true_eq, true_and, and_true, Bool.not_true, Bool.not_false, Bool.or_false, Bool.false_or, MHeap.set_self, exists_eq', List.length_cons, List.length_nil, Nat.zero_add, Nat.reduceAdd, Nat.reduceLeDiff]
        by_cases hb : R = lm.2
        · rw [if_pos hb, e3s0]
          simp only [r5, sx_then_next, sx_then_ret, sx_then_brk, sx_then_cont, sx_boolof, sx_set, sx_loc, sx_clear, sx_add_i, sx_add_b, sx_add_l, sx_sub, sx_mul_i, sx_mul_l, sx_mul_b, sx_div, sx_mod, sx_pow, sx_shl, sx_shr, sx_and, sx_or, sx_iadd, sx_eq_i, sx_eq_b, sx_eq_t, sx_eq_l, sx_ne_i, sx_ne_b, sx_ne_t, sx_lt_i, sx_lt_t, sx_le, sx_gt, sx_ge, sx_is, sx_isn, sx_tr_b, sx_tr_i, sx_tr_l, sx_neg, sx_it_l, sx_it_t, sx_it_b, sx_len_l, sx_len_b, sx_ty_b, sx_ty_p, sx_by, sx_app, sx_ext, sx_pop, sx_cnt, sx_pair, sx_tail, sx_mt_l, sx_mt_b, sx_nr0, sx_ib, sx_il, sx_ir1, sx_ir3, sx_irev, sx_ien, sx_mk, sx_trn, sx_resub, sx_isi1, sx_isi2, sx_sum, sx_min, sx_sorted, sx_si, sx_sl, sx_slr, sx_mis1, sx_mis2, sx_mis3, sx_mis4, String.reduceBEq, String.reduceEq, List.map_cons, List.map_nil, List.zip_cons_cons, List.zip_nil_right, List.lookup_cons, List.lookup_nil, List.any_cons, List.any_nil, Nat.reduceEqDiff, Nat.reduceBEq, beq_self_eq_true, Option.some.injEq, exists_eq_left', exists_eq_left, reduceCtorEq, ite_true, ite_false, if_true, if_false, ↓reduceIte, Bool.false_eq_true, decide_eq_true_eq, true_and, and_true, Bool.not_true, Bool.not_false, Bool.or_false, Bool.false_or, MHeap.set_self, exists_eq', List.length_cons, List.length_nil, Nat.zero_add, Nat.reduceAdd, Nat.reduceLeDiff]
          exact ⟨lm, hr, hI1.hhp, hrl, hDist, hP.heap, fun hs' hp' hF' => key _ _ hs' ⟨r1, r2, r3, r4, r5⟩ rfl rfl rfl rfl rfl rfl (hI1.setHp _) hF' (fun _ => hp') fun h => absurd hb h⟩
        · rw [if_neg hb, e4s0]
          simp only [r5, sx_then_next, sx_then_ret, sx_then_brk, sx_then_cont, sx_boolof, sx_set, sx_loc, sx_clear, sx_add_i, sx_add_b, sx_add_l, sx_sub, sx_mul_i, sx_mul_l, sx_mul_b, sx_div, sx_mod, sx_pow, sx_shl, sx_shr, sx_and, sx_or, sx_iadd, sx_eq_i, sx_eq_b, sx_eq_t, sx_eq_l, sx_ne_i, sx_ne_b, sx_ne_t, sx_lt_i, sx_lt_t, sx_le, sx_gt, sx_ge, sx_is, sx_isn, sx_tr_b, sx_tr_i, sx_tr_l, sx_neg, sx_it_l, sx_it_t, sx_it_b, sx_len_l, sx_len_b, sx_ty_b, sx_ty_p, sx_by, sx_app, sx_ext, sx_pop, sx_cnt, sx_pair, sx_tail, sx_mt_l, sx_mt_b, sx_nr0, sx_ib, sx_il, sx_ir1, sx_ir3, sx_irev, sx_ien, sx_mk, sx_trn, sx_resub, sx_isi1, sx_isi2, sx_sum, sx_min, sx_sorted, sx_si, sx_sl, sx_slr, sx_mis1, sx_mis2, sx_mis3, sx_mis4, String.reduceBEq, String.reduceEq, List.map_cons, List.map_nil, List.zip_cons_cons, List.zip_nil_right, List.lookup_cons, List.lookup_nil, List.any_cons, List.any_nil, Nat.reduceEqDiff, Nat.reduceBEq, beq_self_eq_true, Option.some.injEq, exists_eq_left', exists_eq_left, reduceCtorEq, ite_true, ite_false, if_true, if_false, ↓reduceIte, Bool.false_eq_true, decide_eq_true_eq, true_and, and_true, Bool.not_true, Bool.not_false, Bool.or_false, Bool.false_or, MHeap.set_self, exists_eq', List.length_cons, List.length_nil, Nat.zero_add, Nat.reduceAdd, Nat.reduceLeDiff]
          exact ⟨by lia, lm, (lm.1, R), hr, rfl, hI1.hhp, hrl, hDist, hP.heap, fun hs' hp' hF' => key _ _ hs' ⟨r1, r2, r3, r4, r5⟩ rfl rfl rfl rfl rfl rfl (hI1.setHp _) hF' (fun h => absurd h hb) fun _ => hp'⟩
    · clear hLH hLP hwt3 hF' hp' hhp hLs2 hla2 hwt'' hwt' hwt hdn' hdn hc4 hfr hal hLs1 hla1 hk1 hc3 hc2' hc2 hc1 hit hla
      clear hs' hp n4w ndw wt n4d dn nadr
      rintro t ρ H' ⟨dn, wt, hp, dnl, es, hs, hdl, hR, hI, hP⟩
      obtain ⟨r1, r2, r3, r4, r5⟩ := hR
      rw [sx_then_next, e0s7]
      simp only [r4, r5, sx_then_next, sx_then_ret, sx_then_brk, sx_then_cont, sx_boolof, sx_set, sx_loc, sx_clear, sx_add_i, sx_add_b, sx_add_l, sx_sub, sx_mul_i, sx_mul_l, sx_mul_b, sx_div, sx_mod, sx_pow, sx_shl, sx_shr, sx_and, sx_or, sx_iadd, sx_eq_i, sx_eq_b, sx_eq_t, sx_eq_l, sx_ne_i, sx_ne_b, sx_ne_t, sx_lt_i, sx_lt_t, sx_le, sx_gt, sx_ge, sx_is, sx_isn, sx_tr_b, sx_tr_i, sx_tr_l, sx_neg, sx_it_l, sx_it_t, sx_it_b, sx_len_l, sx_len_b, sx_ty_b, sx_ty_p, sx_by, sx_app, sx_ext, sx_pop, sx_cnt, sx_pair, sx_tail, sx_mt_l, sx_mt_b, sx_nr0, sx_ib, sx_il, sx_ir1, sx_ir3, sx_irev, sx_ien, sx_mk, sx_trn, sx_resub, sx_isi1, sx_isi2, sx_sum, sx_min, sx_sorted, sx_si, sx_sl, sx_slr, sx_mis1, sx_mis2, sx_mis3, sx_mis4, String.reduceBEq, String.reduceEq, List.map_cons, List.map_nil, List.zip_cons_cons, List.zip_nil_right, List.lookup_cons, List.lookup_nil, List.any_cons, List.any_nil, Nat.reduceEqDiff, Nat.reduceBEq, beq_self_eq_true, Option.some.injEq, exists_eq_left', exists_eq_left, reduceCtorEq, ite_true, ite_false, if_true, if_false, ↓reduceIte, Bool.false_eq_true, decide_eq_true_eq, true_and, and_true, Bool.not_true, Bool.not_false, Bool.or_false, Bool.false_or, MHeap.set_self, exists_eq', List.length_cons, List.length_nil, Nat.zero_add, Nat.reduceAdd, Nat.reduceLeDiff]
      refine ⟨_, hI.hwt, fun nw hnw => ⟨told_keep hI.hwt hnw, ?_⟩⟩
      have hfew := hP.few
      have hpl := hP.perm.length_eq
      refine comp_pops (A := es) hP.dist (by lia) (es.map ent) [] hs _ _ (by simp only [r5, sx_then_next, sx_then_ret, sx_then_brk, sx_then_cont, sx_boolof, sx_set, sx_loc, sx_clear, sx_add_i, sx_add_b, sx_add_l, sx_sub, sx_mul_i, sx_mul_l, sx_mul_b, sx_div, sx_mod, sx_pow, sx_shl, sx_shr, sx_and, sx_or, sx_iadd, sx_eq_i, sx_eq_b, sx_eq_t, sx_eq_l, sx_ne_i, sx_ne_b, sx_ne_t, sx_lt_i, sx_lt_t, sx_le, sx_gt, sx_ge, sx_is, sx_isn, sx_tr_b, sx_tr_i, sx_tr_l, sx_neg, sx_it_l, sx_it_t, sx_it_b, sx_len_l, sx_len_b, sx_ty_b, sx_ty_p, sx_by, sx_app, sx_ext, sx_pop, sx_cnt, sx_pair, sx_tail, sx_mt_l, sx_mt_b, sx_nr0, sx_ib, sx_il, sx_ir1, sx_ir3, sx_irev, sx_ien, sx_mk, sx_trn, sx_resub, sx_isi1, sx_isi2, sx_sum, sx_min, sx_sorted, sx_si, sx_sl, sx_slr, sx_mis1, sx_mis2, sx_mis3, sx_mis4, String.reduceBEq, String.reduceEq, List.map_cons, List.map_nil, List.zip_cons_cons, List.zip_nil_right, List.lookup_cons, List.lookup_nil, List.any_cons, List.any_nil, Nat.reduceEqDiff, Nat.reduceBEq, beq_self_eq_true, Option.some.injEq, exists_eq_left', exists_eq_left, reduceCtorEq, ite_true, ite_false, if_true, if_false, ↓reduceIte, Bool.false_eq_true, decide_eq_true_eq, true_and, and_true, Bool.not_true, Bool.not_false, Bool.or_false, Bool.false_or, MHeap.set_self, exists_eq', List.length_cons, List.length_nil, Nat.zero_add, Nat.reduceAdd, Nat.reduceLeDiff]) (MHeap.set_self _ _ _) (told_keep hI.hhp hnw) (told_keep hI.hwt hnw) (told_ne hI.hwt hnw) hI.d9 (told_ne hI.hhp hnw) (by simpa using hpl) (by simpa using hP.perm) hP.heap List.Pairwise.nil (fun o ho => nomatch ho) ?_
      intro outs H2 k1 k2 k3 k4 k5
      have hw2 : H2 wt = some (es.map ent) := k5 wt _ (told_ne hI.hwt hnw) hI.d9 (told_keep hI.hwt hnw)
      have hs2 : Sub H H2 := fun z ys e => by
        have e' := hI.sub z ys e
        exact k5 z ys (told_ne e' hnw) (fun w => by rw [w, hI.fhp] at e; cases e) (told_keep e' hnw)
      refine ⟨es, hw2, by lia, hP.dist, fun fs kk hfp hfs hkk => ?_⟩
      have hfo : outs = fs := sorted_unique hP.dist k1 hfp k2 hfs
      subst hfo
      show wEq (.lst nw) (.lst kk) _ _
      rw [sx_eq_l]
      refine ⟨_, told_keep k3 hkk, _, MHeap.set_self _ _ _, .inr ⟨rfl, true, ents_eq _, ?_⟩⟩
      rw [sx_boolof, if_pos rfl]
      intro c hc
      refine ⟨[], told_keep (told_keep k4 hkk) hc, .inr ⟨rfl, true, rfl, ?_⟩⟩
      refine back_ret ?_ q
      refine sub_put (sub_put hs2 (sub_fresh hs2 hkk)) ?_
      exact sub_fresh (sub_put hs2 (sub_fresh hs2 hkk)) hc
end
end Mine
end
-- part MFin
section
open PySem PySem.W PyProof.Rows PySem.SeqAt
set_option maxRecDepth 100000
namespace Mine
theorem vreps_of_ints {h : Heap} : ∀ {vs : List Value} {ns : List Int}, IntsAre vs ns → VReps h vs (ns.map .int) := by
  intro vs ns h
  induction h with
  | nil => exact .nil
  | cons n t _ ih => exact .cons (.int n t) ih
set_option maxHeartbeats 4000000 in
theorem fin_walk : PySem.Challenge.rw_op0052_01.Holds := by
  refine hd ?_
  intro w s₀ s₁ mg mb Gr Y fa o pm cd doc dV kV ho hdd hcd hD hmg hg args vals as hpre hlay hrd hwl hlo
  have KX := kIn_of Y
  clear ho hdd hcd hD
  wrow_args hpre hlay hrd hwl hlo
  rename_i xs _ _ _ _ _ _ _ la vs _ hL _ _ _ hI _ hlen _
  have hlaw : mg (Str.ofString "law") = some (.ref 190) := mg_of KX Gr.T.g (by kernel_rfl)
  obtain rfl : fa = 190 := by
    have := hmg.symm.trans hlaw
    injection this with e; injection e
  let G : Gd := ⟨Challenge.rw_op0052_01.row.prog, w, s₁.heap, mg, mb⟩
  have pg : Pg G w.params := ⟨⟨Gr.T.g, Gr.T.b, Gr.T.nolimit⟩, KX, Gr.T.builtins⟩
  have hrun := c_law pg callerA s₁ (fun _ => none) (fun v _ => v = .bool true) [.ref la] [.raw (.ref la)] ⟨rfl, by decide, by decide⟩ (fun _ _ e => nomatch e) (fun _ e => absurd rfl e) (.cons (.raw _) .nil) (fun _ _ e => e)
    ⟨xs, ⟨vs, hL, vreps_of_ints hI⟩, by omega, rfl⟩
  refine wpAny_mono hrun (fun v s' h => ?_) fun _ _ x => x.elim
  obtain ⟨mv, H', rfl, rv, S', k'⟩ := h
  rw [rv.bool_inv]
  refine GoodW.toG ⟨.inl ⟨_, .bool true, [], rfl, fun cls => rfl, .bool true, by with_unfolding_all rfl, fun _ => ⟨List.nodup_nil, fun a ha => nomatch ha⟩⟩, fun b o e => k'.keep b o e rfl, k'.os, k'.gens.trans hg⟩
end Mine
end
theorem PySem.Challenge.cw_op0052_01_holds : PySem.Challenge.rw_op0052_01.Holds :=
  Mine.fin_walk
