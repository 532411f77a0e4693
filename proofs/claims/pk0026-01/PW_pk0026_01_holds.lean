import PyProof.Rows.All
import Wide.All
import OpenK.AllK
import Wide.FinOn
import PySem.Challenge.RW_pk0026_01
set_option Elab.async false
set_option maxRecDepth 100000
set_option linter.unusedVariables false
set_option genSizeOf false
set_option genInjectivity false
set_option compiler.extract_closed false
@[elab_as_elim] theorem Mine.Internal.rwG.{u} {α : Sort u} {a b : α} {P : α → Prop} (h : a = b) (k : P b) : P a := h ▸ k
@[elab_as_elim] theorem Mine.Internal.rwL.{u} {α : Sort u} {a b : α} {P : α → Prop} (h : b = a) (k : P b) : P a := h ▸ k

section
namespace Mine.Internal
open PySem PySem.Calls

noncomputable abbrev NoE : Value → Shared → Prop := fun _ _ => False

inductive PV where
  | none
  | bool (b : Bool)
  | int (i : Int)
  | str (x : List Nat)
  | list (xs : List PV)
  | tup (xs : List PV)
  | obj (a : Addr)
  | ty (n : String)

inductive LV where
  | undef
  | val (p : PV)
  | own (xs : List PV)
  | ro (p : PV)

noncomputable def LV.isRo : LV → Bool
  | .ro _ => true
  | _ => false

noncomputable def PlainTuple (h : Heap) (a : Addr) (items : Array Value) : Prop := ∃ n, h.get? a = some { cls := .type "tuple", data := .seq items n }

mutual
inductive Rep (X : Addr → Prop) (h : Heap) : Value → PV → Prop where
  | none : Rep X h .none .none
  | bool (b : Bool) : Rep X h (.bool b) (.bool b)
  | int (i : Int) (t : Tok) : Rep X h (.int i t) (.int i)
  | str (x : List Nat) (t : Tok) : Rep X h (.str ⟨x.toArray⟩ t) (.str x)
  | obj (a : Addr) : Rep X h (.ref a) (.obj a)
  | ty (n : String) : Rep X h (.type n) (.ty n)
  | list {a : Addr} {vs : Array Value} {xs : List PV} : ¬ X a → h.PlainList a vs → Reps X h vs.toList xs → Rep X h (.ref a) (.list xs)
  | tup {a : Addr} {vs : Array Value} {xs : List PV} : ¬ X a → PlainTuple h a vs → Reps X h vs.toList xs → Rep X h (.ref a) (.tup xs)
inductive Reps (X : Addr → Prop) (h : Heap) : List Value → List PV → Prop where
  | nil : Reps X h [] []
  | cons {v : Value} {p : PV} {vs : List Value} {ps : List PV} : Rep X h v p → Reps X h vs ps → Reps X h (v :: vs) (p :: ps)
end

noncomputable def Obj.isSeq (o : Obj) : Prop := ∃ xs n, o.data = .seq xs n
noncomputable def Obj.isRec (o : Obj) : Prop := o.cls = .type "code" ∧ ∃ vs, o.data = .fields vs

section
variable {X X' : Addr → Prop} {h h' : Heap}
theorem Rep.mono (hX : ∀ a o, ¬ X a → Obj.isSeq o → h.get? a = some o → ¬ X' a) (hk : ∀ a o, ¬ X a → Obj.isSeq o → h.get? a = some o → h'.get? a = some o) {v : Value} {p : PV} (r : Rep X h v p) : Rep X' h' v p :=
  Rep.rec (motive_1 := fun v p _ => Rep X' h' v p) (motive_2 := fun vs ps _ => Reps X' h' vs ps) .none .bool .int .str .obj .ty
    (fun hx hl _ ih => hl.elim fun n hl => .list (hX _ _ hx ⟨_, _, rfl⟩ hl) ⟨n, hk _ _ hx ⟨_, _, rfl⟩ hl⟩ ih) (fun hx hl _ ih => hl.elim fun n hl => .tup (hX _ _ hx ⟨_, _, rfl⟩ hl) ⟨n, hk _ _ hx ⟨_, _, rfl⟩ hl⟩ ih)
    .nil (fun _ _ a b => .cons a b) r
theorem Reps.ind {motive : List Value → List PV → Prop} (n : motive [] []) (c : ∀ {v p vs ps}, Rep X h v p → Reps X h vs ps → motive vs ps → motive (v :: vs) (p :: ps)) {vs : List Value} {ps : List PV} (r : Reps X h vs ps) : motive vs ps :=
  Reps.rec (motive_1 := fun _ _ _ => True) (motive_2 := fun vs ps _ => motive vs ps) trivial (fun _ => trivial) (fun _ _ => trivial) (fun _ _ => trivial) (fun _ => trivial) (fun _ => trivial) (fun _ _ _ _ => trivial) (fun _ _ _ _ => trivial) n (fun a b _ ih => c a b ih) r
theorem Reps.mono (hX : ∀ a o, ¬ X a → Obj.isSeq o → h.get? a = some o → ¬ X' a) (hk : ∀ a o, ¬ X a → Obj.isSeq o → h.get? a = some o → h'.get? a = some o) {vs : List Value} {ps : List PV} (r : Reps X h vs ps) : Reps X' h' vs ps :=
  Reps.ind .nil (fun a _ ih => .cons (a.mono hX hk) ih) r
end

noncomputable def RepInv (X : Addr → Prop) (h : Heap) (u : Value) : PV → Prop
  | .none => u = .none
  | .bool b => u = .bool b
  | .int i => ∃ t, u = .int i t
  | .str x => ∃ t, u = .str ⟨x.toArray⟩ t
  | .obj a => u = .ref a
  | .ty n => u = .type n
  | .list xs => ∃ a vs, u = .ref a ∧ ¬ X a ∧ h.PlainList a vs ∧ Reps X h vs.toList xs
  | .tup xs => ∃ a vs, u = .ref a ∧ ¬ X a ∧ PlainTuple h a vs ∧ Reps X h vs.toList xs
noncomputable def RepsInv (X : Addr → Prop) (h : Heap) (us : List Value) : List PV → Prop
  | [] => us = []
  | p :: ps => ∃ u vs, us = u :: vs ∧ Rep X h u p ∧ Reps X h vs ps
section
variable {X : Addr → Prop} {h : Heap} {u : Value} {us : List Value} {p : PV} {ps : List PV}
theorem Rep.inv (r : Rep X h u p) : RepInv X h u p := by
  cases r with
  | none => exact rfl
  | bool => exact rfl
  | int i t => exact ⟨t, rfl⟩
  | str x t => exact ⟨t, rfl⟩
  | obj => exact rfl
  | ty => exact rfl
  | list a b c => exact ⟨_, _, rfl, a, b, c⟩
  | tup a b c => exact ⟨_, _, rfl, a, b, c⟩
theorem Reps.inv (r : Reps X h us ps) : RepsInv X h us ps := by
  cases r with
  | nil => exact rfl
  | cons a b => exact ⟨_, _, rfl, a, b⟩
section
variable {motive : Value → Prop}
@[elab_as_elim] theorem Rep.boolE {b : Bool} (r : Rep X h u (.bool b)) (k : motive (.bool b)) : motive u := (show u = _ from r.inv) ▸ k
@[elab_as_elim] theorem Rep.intE {i : Int} (r : Rep X h u (.int i)) (k : ∀ t, motive (.int i t)) : motive u := let ⟨t, e⟩ := r.inv; e ▸ k t
@[elab_as_elim] theorem Rep.strE {x : List Nat} (r : Rep X h u (.str x)) (k : ∀ t, motive (.str ⟨x.toArray⟩ t)) : motive u := let ⟨t, e⟩ := r.inv; e ▸ k t
@[elab_as_elim] theorem Rep.listE {xs : List PV} (r : Rep X h u (.list xs)) (k : ∀ a vs, ¬ X a → h.PlainList a vs → Reps X h vs.toList xs → motive (.ref a)) : motive u := let ⟨a, vs, e, h1, h2, h3⟩ := r.inv; e ▸ k a vs h1 h2 h3
@[elab_as_elim] theorem Rep.tupE {xs : List PV} (r : Rep X h u (.tup xs)) (k : ∀ a vs, ¬ X a → PlainTuple h a vs → Reps X h vs.toList xs → motive (.ref a)) : motive u := let ⟨a, vs, e, h1, h2, h3⟩ := r.inv; e ▸ k a vs h1 h2 h3
end
theorem Rep.tyE {n : String} (r : Rep X h u (.ty n)) : u = .type n := r.inv
theorem Rep.int_is {i : Int} (r : Rep X h u (.int i)) : ∃ t, u = .int i t := r.inv
theorem Reps.nilE (r : Reps X h us []) : us = [] := r.inv
section
variable {motive : List Value → Prop}
@[elab_as_elim] theorem Reps.consE (r : Reps X h us (p :: ps)) (k : ∀ u vs, Rep X h u p → Reps X h vs ps → motive (u :: vs)) : motive us := let ⟨u, vs, e, h1, h2⟩ := r.inv; e ▸ k u vs h1 h2
@[elab_as_elim] theorem Reps.oneE (r : Reps X h us [p]) (k : ∀ u, Rep X h u p → motive [u]) : motive us := Reps.consE r fun u vs h1 h2 => h2.nilE ▸ k u h1
@[elab_as_elim] theorem Reps.twoE {q : PV} (r : Reps X h us [p, q]) (k : ∀ u v, Rep X h u p → Rep X h v q → motive [u, v]) : motive us := Reps.consE r fun u vs h1 h2 => Reps.oneE (motive := fun vs => motive (u :: vs)) h2 fun v h3 => k u v h1 h3
end
theorem Reps.ints1 {a : Int} (r : Reps X h us [.int a]) : ∃ t, us = [.int a t] := Reps.oneE r fun u h1 => Rep.intE h1 fun t => ⟨t, rfl⟩
theorem Reps.ints2 {a b : Int} (r : Reps X h us [.int a, .int b]) : ∃ t t', us = [.int a t, .int b t'] := Reps.twoE r fun u v h1 h2 => Rep.intE h1 fun t => Rep.intE h2 fun t' => ⟨t, t', rfl⟩
end
theorem Rep.of_obj {X : Addr → Prop} {h : Heap} {v : Value} {a : Addr} (r : Rep X h v (.obj a)) : v = .ref a := r.inv
section
variable {X : Addr → Prop} {h : Heap} {vs : List Value} {ps : List PV}
theorem Reps.length (r : Reps X h vs ps) : vs.length = ps.length := Reps.ind (motive := fun vs ps => vs.length = ps.length) rfl (fun _ _ ih => congrArg Nat.succ ih) r
theorem Reps.get (r : Reps X h vs ps) : ∀ {i : Nat} {p : PV}, ps[i]? = some p → ∃ v, vs[i]? = some v ∧ Rep X h v p :=
  Reps.ind (motive := fun vs ps => ∀ {i : Nat} {p : PV}, ps[i]? = some p → ∃ v, vs[i]? = some v ∧ Rep X h v p) (fun e => nomatch e) (fun {v p vs ps} a _ ih {i q} e => match i, e with
    | 0, e => ⟨v, rfl, (Option.some.inj e) ▸ a⟩
    | i + 1, e => ih (i := i) e) r
theorem Reps.get' (r : Reps X h vs ps) : ∀ {i : Nat} {v : Value}, vs[i]? = some v → ∃ p, ps[i]? = some p ∧ Rep X h v p :=
  Reps.ind (motive := fun vs ps => ∀ {i : Nat} {v : Value}, vs[i]? = some v → ∃ p, ps[i]? = some p ∧ Rep X h v p) (fun e => nomatch e) (fun {v p vs ps} a _ ih {i q} e => match i, e with
    | 0, e => ⟨p, rfl, (Option.some.inj e) ▸ a⟩
    | i + 1, e => ih (i := i) e) r
theorem Reps.append {vs' : List Value} {ps' : List PV} (r : Reps X h vs ps) (r' : Reps X h vs' ps') : Reps X h (vs ++ vs') (ps ++ ps') :=
  Reps.ind (motive := fun vs ps => Reps X h (vs ++ vs') (ps ++ ps')) r' (fun a _ ih => .cons a ih) r
theorem Reps.take (n : Nat) (r : Reps X h vs ps) : Reps X h (vs.take n) (ps.take n) :=
  Reps.ind (motive := fun vs ps => ∀ n, Reps X h (vs.take n) (ps.take n)) (fun n => by ((with_reducible_and_instances (refine rwG (List.take_nil ..) ?_; refine rwG (List.take_nil ..) ?_))); exact .nil) (fun a _ ih n => match n with
    | 0 => .nil
    | n + 1 => .cons a (ih n)) r n
theorem Reps.drop (n : Nat) (r : Reps X h vs ps) : Reps X h (vs.drop n) (ps.drop n) :=
  Reps.ind (motive := fun vs ps => ∀ n, Reps X h (vs.drop n) (ps.drop n)) (fun n => by ((with_reducible_and_instances (refine rwG (List.drop_nil ..) ?_; refine rwG (List.drop_nil ..) ?_))); exact .nil) (fun a b ih n => match n with
    | 0 => .cons a b
    | n + 1 => ih n) r n
end

theorem len_two {α : Type} {l : List α} (h : l.length = 2) : ∃ a b, l = [a, b] := by
  cases l with
  | nil => cases h
  | cons a r =>
    obtain ⟨b, e⟩ := List.length_eq_one_iff.mp (Nat.succ.inj h)
    exact ⟨a, b, congrArg (a :: ·) e⟩
theorem len_three {α : Type} {l : List α} (h : l.length = 3) : ∃ a b c, l = [a, b, c] := by
  cases l with
  | nil => cases h
  | cons a r =>
    obtain ⟨b, c, e⟩ := len_two (Nat.succ.inj h)
    exact ⟨a, b, c, congrArg (a :: ·) e⟩
theorem ne_get {h : Heap} {a b : Addr} {o : Obj} (e : h.get? a = some o) (n : h.get? b = none) : a ≠ b := fun z => by rw [z, n] at e; cases e

structure Cx where
  prog : Program
  w : World
  A : Around
  env : Env
  Z : Str → Prop
  s₀ : Shared
  F : Addr → Prop
  X : Addr → Prop
  M : Addr → Prop
  G : Type
  W : G → Heap → Prop
  names : List Str
  T : Heap → Prop
  d : Nat

noncomputable abbrev Cx.mod (C : Cx) : Model := model C.prog C.w

noncomputable def isCellAddr (C : Cx) (a : Addr) : Prop := ∃ x, C.env.cells.lookup x = some a

structure Cx.Ok (C : Cx) : Prop where
  kind : C.env.scope.kind = .function
  handled : C.A.handled = none
  depth : C.A.depth + C.d < recursionLimit
  units : C.A.units + 20 * C.d + 200 < cLine
  top : ∀ h, (∀ a o, ¬ C.F a → ¬ C.M a → C.s₀.heap.get? a = some o → h.get? a = some o) → C.T h
  locF : C.F C.env.locals
  locM : ¬ C.M C.env.locals
  cellM : ∀ x c, C.env.cells.lookup x = some c → ¬ C.M c
  cellF : ∀ x c, C.env.kindOf x = some .cell → ¬ C.Z x → C.env.cells.lookup x = some c → C.F c
  inj : ∀ x y c, C.env.cells.lookup x = some c → C.env.cells.lookup y = some c → x = y
  fresh : ∀ a, C.s₀.heap.get? a = none → C.F a
  mx : ∀ a, C.M a → C.X a
  xf : ∀ a, C.X a → ¬ C.F a
  xs : ∀ a, C.X a → ∃ o, C.s₀.heap.get? a = some o
  wm : ∀ g h a, C.W g h → C.M a → ∃ o, h.get? a = some o
  stab : ∀ g h h', C.W g h → (∀ a o, (C.M a ∨ Obj.isRec o) → h.get? a = some o → h'.get? a = some o) → C.W g h'
  nodup : C.names.Nodup
  kinds : ∀ x ∈ C.names, C.env.kindOf x = some .local ∨ ((C.env.kindOf x = some .cell ∨ C.env.kindOf x = some .free) ∧ (C.env.cells.lookup x).isSome = true)
  notDebug : ∀ x ∈ C.names, (x == ("__debug__" : Str)) = false ∧ (x == ("__classdict__" : Str)) = false

noncomputable def Slot (C : Cx) (m : Str → Option Value) (h : Heap) (x : Str) (u : Value) : Prop :=
  (C.env.kindOf x = some .local ∧ m x = some u) ∨
  ((C.env.kindOf x = some .cell ∨ C.env.kindOf x = some .free) ∧ ∃ c, C.env.cells.lookup x = some c ∧ h.IsCell c (some u))

noncomputable def avoid (C : Cx) (O : List (Str × Addr)) : Addr → Prop := fun a => C.X a ∨ ∃ x, (x, a) ∈ O

noncomputable def Rw (C : Cx) (x : Str) : Prop := C.env.kindOf x ≠ some .free ∧ ¬ C.Z x

noncomputable def LIs (C : Cx) (O : List (Str × Addr)) (m : Str → Option Value) (h : Heap) (x : Str) : LV → Prop
  | .undef => Rw C x
  | .val p => Rw C x ∧ ∃ u, Slot C m h x u ∧ Rep (avoid C O) h u p
  | .own xs => Rw C x ∧ ∃ a vs, Slot C m h x (.ref a) ∧ (x, a) ∈ O ∧ h.PlainList a vs ∧ Reps (avoid C O) h vs.toList xs
  | .ro p => ∃ u, Slot C m h x u ∧ Rep (avoid C O) h u p

structure Inv (C : Cx) (ρ : List (Str × LV)) (O : List (Str × Addr)) (g : C.G) (s : Shared) : Prop where
  rest : s.gens = C.s₀.gens ∧ s.drawn = C.s₀.drawn ∧ s.os = C.s₀.os
  old : ∀ a o, ¬ C.F a → ¬ C.M a → C.s₀.heap.get? a = some o → s.heap.get? a = some o
  world : C.W g s.heap
  names : ρ.map (·.1) = C.names
  loc : ∃ m, s.heap.Ns C.env.locals m ∧ ∀ x v, (x, v) ∈ ρ → LIs C O m s.heap x v
  cells : ∀ x c, C.env.cells.lookup x = some c → ∃ v, s.heap.IsCell c v
  own : ∀ x a, (x, a) ∈ O → C.F a ∧ ¬ C.M a ∧ ∃ vs, s.heap.PlainList a vs
  uniq : ∀ x y a, (x, a) ∈ O → (y, a) ∈ O → x = y

structure Step (C : Cx) (g' : C.G) (s s' : Shared) : Prop where
  rest : s'.gens = s.gens ∧ s'.drawn = s.drawn ∧ s'.os = s.os
  keep : ∀ a o, ¬ C.M a → s.heap.get? a = some o → s'.heap.get? a = some o
  world : C.W g' s'.heap

theorem Step.refl {C : Cx} {g : C.G} {s : Shared} (w : C.W g s.heap) : Step C g s s := ⟨⟨rfl, rfl, rfl⟩, fun _ _ _ e => e, w⟩
theorem Step.trans {C : Cx} {g g' : C.G} {s s' s'' : Shared} (a : Step C g s s') (b : Step C g' s' s'') : Step C g' s s'' :=
  ⟨⟨b.rest.1.trans a.rest.1, b.rest.2.1.trans a.rest.2.1, b.rest.2.2.trans a.rest.2.2⟩, fun x o hm e => b.keep x o hm (a.keep x o hm e), b.world⟩

theorem Ns_of {h h' : Heap} {a : Addr} {m : Str → Option Value} (n : h.Ns a m) (e : ∀ o, h.get? a = some o → h'.get? a = some o) : h'.Ns a m := n.at' e
theorem IsCell_of {h h' : Heap} {a : Addr} {v : Option Value} (n : h.IsCell a v) (e : ∀ o, h.get? a = some o → h'.get? a = some o) : h'.IsCell a v :=
  let ⟨o, a, b⟩ := n; ⟨o, e o a, b⟩

section
variable {C : Cx} {ρ : List (Str × LV)} {O : List (Str × Addr)} {g g' : C.G} {s s' : Shared}

theorem avoid_not_M (hC : C.Ok) {a : Addr} (h : ¬ avoid C O a) : ¬ C.M a := fun m => h (.inl (hC.mx a m))

theorem Rep.step (hC : C.Ok) (st : Step C g' s s') {u : Value} {p : PV} (r : Rep (avoid C O) s.heap u p) : Rep (avoid C O) s'.heap u p :=
  r.mono (fun _ _ h _ _ => h) fun a o h _ e => st.keep a o (avoid_not_M hC h) e
theorem Reps.step (hC : C.Ok) (st : Step C g' s s') {u : List Value} {p : List PV} (r : Reps (avoid C O) s.heap u p) : Reps (avoid C O) s'.heap u p :=
  r.mono (fun _ _ h _ _ => h) fun a o h _ e => st.keep a o (avoid_not_M hC h) e

theorem Slot.of {m : Str → Option Value} {h h' : Heap} {x : Str} {u : Value} (k : ∀ c, C.env.cells.lookup x = some c → ∀ o, h.get? c = some o → h'.get? c = some o) (q : Slot C m h x u) : Slot C m h' x u := by
  rcases q with q | ⟨q1, c, q2, q3⟩
  · exact .inl q
  · exact .inr ⟨q1, c, q2, IsCell_of q3 (k c q2)⟩

theorem Inv.step (hC : C.Ok) (I : Inv C ρ O g s) (st : Step C g' s s') : Inv C ρ O g' s' := by
  obtain ⟨m, hn, hl⟩ := I.loc
  refine ⟨⟨st.rest.1.trans I.rest.1, st.rest.2.1.trans I.rest.2.1, st.rest.2.2.trans I.rest.2.2⟩, fun a o hf hm e => st.keep a o hm (I.old a o hf hm e), st.world, I.names,
    ⟨m, Ns_of hn fun o e => st.keep _ o hC.locM e, fun x v hx => ?_⟩, fun x c hc => ?_, fun x a ha => ?_, I.uniq⟩
  · have q := hl x v hx
    cases v with
    | undef => exact q
    | val p =>
      obtain ⟨q0, u, q1, q2⟩ := q
      exact ⟨q0, u, q1.of fun c hc o e => st.keep c o (hC.cellM x c hc) e, q2.step hC st⟩
    | ro p =>
      obtain ⟨u, q1, q2⟩ := q
      exact ⟨u, q1.of fun c hc o e => st.keep c o (hC.cellM x c hc) e, q2.step hC st⟩
    | own xs =>
      obtain ⟨q0, a, vs, q1, q2, ⟨n, q3⟩, q4⟩ := q
      exact ⟨q0, a, vs, q1.of fun c hc o e => st.keep c o (hC.cellM x c hc) e, q2, ⟨n, st.keep a _ (I.own x a q2).2.1 q3⟩, q4.step hC st⟩
  · obtain ⟨v, hv⟩ := I.cells x c hc
    exact ⟨v, IsCell_of hv fun o e => st.keep c o (hC.cellM x c hc) e⟩
  · obtain ⟨f, hm, vs, n, e⟩ := I.own x a ha
    exact ⟨f, hm, vs, n, st.keep a _ hm e⟩

theorem Inv.new (hC : C.Ok) (I : Inv C ρ O g s) {a : Addr} (e : s.heap.get? a = none) : C.F a ∧ ¬ C.X a ∧ ¬ C.M a ∧ ¬ avoid C O a := by
  have hm : ¬ C.M a := fun m => by obtain ⟨o, ho⟩ := hC.wm g s.heap a I.world m; cases ho.symm.trans e
  have hx : ¬ C.X a := fun x => by
    obtain ⟨o, ho⟩ := hC.xs a x
    rw [I.old a o (hC.xf a x) hm ho] at e; cases e
  refine ⟨?_, hx, hm, ?_⟩
  · by_cases f : C.F a
    · exact f
    · refine hC.fresh a ?_
      cases h0 : C.s₀.heap.get? a with
      | none => rfl
      | some o => rw [I.old a o f hm h0] at e; cases e
  · rintro (x | ⟨x, hx'⟩)
    · exact hx x
    · obtain ⟨_, _, vs, n, e'⟩ := I.own x a hx'
      cases e'.symm.trans e
end
theorem get_size_none (h : Heap) : h.get? h.objs.size = none := by
  cases e : h.get? h.objs.size with
  | none => rfl
  | some o => exact absurd (Heap.lt_size e) (Nat.lt_irrefl _)

noncomputable def Ev (C : Cx) (ρ : List (Str × LV)) (g : C.G) (e : Expr) (v : PV) (g' : C.G) : Prop :=
  ∀ O s, Inv C ρ O g s → wpAny C.mod C.A (eval e C.env) (fun u s' => Rep (avoid C O) s'.heap u v ∧ Step C g' s s') NoE s
noncomputable def EvB (C : Cx) (ρ : List (Str × LV)) (g : C.G) (e : Expr) (b : Bool) (g' : C.G) : Prop :=
  ∀ O s, Inv C ρ O g s → wpAny C.mod C.A (isTrue e C.env (eval e C.env)) (fun b' s' => b' = b ∧ Step C g' s s') NoE s
noncomputable def EvL (C : Cx) (ρ : List (Str × LV)) (g : C.G) (es : List Expr) (vs : List PV) (g' : C.G) : Prop :=
  ∀ O s pos, Inv C ρ O g s → wpAny C.mod C.A (spliced (backTo pos (starEach es C.env))) (fun us s' => Reps (avoid C O) s'.heap us vs ∧ Step C g' s s') NoE s

section
variable {C : Cx} {ρ : List (Str × LV)} {g g' g₁ g₂ : C.G}

theorem Ev.int {i : Int} {k : Nat} {pos : Pos} : Ev C ρ g (.Constant (.int i) k pos) (.int i) g := fun _ _ I => wpAny_Constant_int ⟨.int _ _, ⟨rfl, rfl, rfl⟩, fun _ _ _ e => e, I.world⟩
theorem Ev.bool {b : Bool} {k : Nat} {pos : Pos} : Ev C ρ g (.Constant (.bool b) k pos) (.bool b) g := fun _ _ I => wpAny_Constant_bool ⟨.bool _, .refl I.world⟩
theorem Ev.str {x : Str} {k : Nat} {pos : Pos} {l : List Nat} (h : x.cps.toList = l) : Ev C ρ g (.Constant (.str x) k pos) (.str l) g := fun _ _ I => by
  subst h
  exact wpAny_Constant_str ⟨.str x.cps.toList _, ⟨rfl, rfl, rfl⟩, fun _ _ _ e => e, I.world⟩

theorem Ev.slot (hC : C.Ok) {x : Str} {pos : Pos} {p : PV} (hx : x ∈ C.names) (h : ∀ O s m, Inv C ρ O g s → (∀ x v, (x, v) ∈ ρ → LIs C O m s.heap x v) → ∃ u, Slot C m s.heap x u ∧ Rep (avoid C O) s.heap u p) : Ev C ρ g (.Name x pos) p g := fun O s I => by
  obtain ⟨m, hn, hl⟩ := I.loc
  obtain ⟨u, q, r⟩ := h O s m I hl
  have hd := hC.notDebug x hx
  refine wpAny_Name ?_ hd.1
  rcases q with ⟨q1, q2⟩ | ⟨q1 | q1, c, q2, q3⟩
  · exact wpAny_loadName_local hC.kind q1 hn q2 ⟨r, .refl I.world⟩
  · exact wpAny_loadName_cell hC.kind q1 q2 q3 ⟨r, .refl I.world⟩
  · exact wpAny_loadName_free hC.kind q1 q2 q3 ⟨r, .refl I.world⟩ hd.2
theorem mem_names {C : Cx} {ρ : List (Str × LV)} {x : Str} {v : LV} (e : ρ.map (·.1) = C.names) (h : (x, v) ∈ ρ) : x ∈ C.names := by
  (with_reducible_and_instances (refine rwL (e ..) ?_)); exact List.mem_map.mpr ⟨_, h, rfl⟩
theorem Ev.name (hC : C.Ok) {x : Str} {pos : Pos} {p : PV} (h : (x, LV.val p) ∈ ρ) : Ev C ρ g (.Name x pos) p g := fun O s I =>
  Ev.slot hC (mem_names I.names h) (fun O s m I hl => (hl x _ h).2) O s I
theorem Ev.nameRo (hC : C.Ok) {x : Str} {pos : Pos} {p : PV} (h : (x, LV.ro p) ∈ ρ) : Ev C ρ g (.Name x pos) p g := fun O s I =>
  Ev.slot hC (mem_names I.names h) (fun O s m I hl => hl x _ h) O s I
end
end Mine.Internal
end

section
namespace Mine.Internal
open PySem PySem.Calls

noncomputable def Op2 (C : Cx) (f : Value → Value → Sem Value) (p q r : PV) : Prop :=
  ∀ (X : Addr → Prop) (s : Shared) (u v : Value), (∀ a, s.heap.get? a = none → ¬ X a) → Rep X s.heap u p → Rep X s.heap v q →
    wpAny C.mod C.A (f u v) (fun z s' => Rep X s'.heap z r ∧ Keeps s s') NoE s
theorem keeps_tok {s : Shared} {n : Nat} : Keeps s { s with toks := n } := ⟨s.heap, n, rfl, fun _ _ e => e⟩
theorem keeps_refl {s : Shared} : Keeps s s := ⟨s.heap, s.toks, rfl, fun _ _ e => e⟩
theorem keeps_push {s : Shared} {o : Obj} : Keeps s { s with heap := s.heap.push o } := ⟨_, s.toks, rfl, fun _ _ e => Heap.get?_push_of_some _ e⟩

theorem Step.of_keeps {C : Cx} (hC : C.Ok) {g : C.G} {s s' : Shared} (w : C.W g s.heap) (k : Keeps s s') : Step C g s s' := by
  obtain ⟨h', tk, rfl, k⟩ := k
  exact ⟨⟨rfl, rfl, rfl⟩, fun a o _ e => k a o e, hC.stab g _ _ w fun a o _ e => k a o e⟩

section
variable {C : Cx} {ρ : List (Str × LV)} {g g' g₁ g₂ : C.G}

theorem Ev.bin (hC : C.Ok) {a b : Expr} {op : Operator} {pos : Pos} {p q r : PV} (h1 : Ev C ρ g a p g₁) (h2 : Ev C ρ g₁ b q g₂) (ho : Op2 C (binaryOp op) p q r) : Ev C ρ g (.BinOp a op b pos) r g₂ := fun O s I =>
  wpAny_BinOp (wpAny_mono (h1 O s I) (fun u s₁ ⟨r1, st1⟩ =>
    have I1 := I.step hC st1
    wpAny_mono (h2 O s₁ I1) (fun v s₂ ⟨r2, st2⟩ =>
      have I2 := I1.step hC st2
      wpAny_mono (ho (avoid C O) s₂ u v (fun x e => (I2.new hC e).2.2.2) (r1.step hC st2) r2) (fun z s₃ ⟨r3, k⟩ => ⟨r3, (st1.trans st2).trans (.of_keeps hC I2.world k)⟩) fun _ _ x => x) fun _ _ x => x) fun _ _ x => x)

theorem Ev.cmp (hC : C.Ok) {a b : Expr} {op : CmpOp} {pos : Pos} {p q r : PV} (h1 : Ev C ρ g a p g₁) (h2 : Ev C ρ g₁ b q g₂) (ho : Op2 C (compareOp op) p q r)
    (hm : behindInMarks op b = false) : Ev C ρ g (.Compare a [op] [b] pos) r g₂ := fun O s I =>
  wpAny_Compare1 (wpAny_mono (h1 O s I) (fun u s₁ ⟨r1, st1⟩ =>
    have I1 := I.step hC st1
    wpAny_mono (h2 O s₁ I1) (fun v s₂ ⟨r2, st2⟩ =>
      have I2 := I1.step hC st2
      wpAny_mono (ho (avoid C O) s₂ u v (fun x e => (I2.new hC e).2.2.2) (r1.step hC st2) r2) (fun z s₃ ⟨r3, k⟩ => ⟨r3, (st1.trans st2).trans (.of_keeps hC I2.world k)⟩) fun _ _ x => x) fun _ _ x => x) fun _ _ x => x) hm

theorem EvB.cmp (hC : C.Ok) {a b : Expr} {op : CmpOp} {pos : Pos} {p q : PV} {r : Bool} (h1 : Ev C ρ g a p g₁) (h2 : Ev C ρ g₁ b q g₂) (ho : Op2 C (compareOp op) p q (.bool r))
    (hm : behindInMarks op b = false) : EvB C ρ g (.Compare a [op] [b] pos) r g₂ := fun O s I =>
  wpAny_isTrue_Compare1 (wpAny_mono (h1 O s I) (fun u s₁ ⟨r1, st1⟩ =>
    have I1 := I.step hC st1
    wpAny_mono (h2 O s₁ I1) (fun v s₂ ⟨r2, st2⟩ =>
      have I2 := I1.step hC st2
      wpAny_mono (ho (avoid C O) s₂ u v (fun x e => (I2.new hC e).2.2.2) (r1.step hC st2) r2) (fun z s₃ ⟨r3, k⟩ => by
        cases r3
        exact wpAny_truthy_bool ⟨rfl, (st1.trans st2).trans (.of_keeps hC I2.world k)⟩) fun _ _ x => x) fun _ _ x => x) fun _ _ x => x) hm

theorem EvB.not (hC : C.Ok) {a : Expr} {pos : Pos} {b : Bool} (h : EvB C ρ g a b g₁) : EvB C ρ g (.UnaryOp .Not a pos) (!b) g₁ := fun O s I =>
  wpAny_isTrue_Not (wpAny_mono (h O s I) (fun b' s₁ ⟨e, st⟩ => ⟨by ((with_reducible_and_instances (refine rwG (e ..) ?_)); (with_reducible rfl)), st⟩) fun _ _ x => x)

noncomputable def truthOf : PV → Bool
  | .none => false
  | .bool b => b
  | .int i => i != 0
  | .str x => !x.isEmpty
  | .list xs => !xs.isEmpty
  | .tup xs => !xs.isEmpty
  | .obj _ => true
  | .ty _ => true
theorem EvB.val (hC : C.Ok) {e : Expr} {p : PV} (h : Ev C ρ g e p g₁) (hp : (match p with | .bool _ => true | .int _ => true | _ => false) = true)
    (he : isTrue e C.env (eval e C.env) = (do let v ← eval e C.env; standAt e.pos; holding [v] (truthy v))) : EvB C ρ g e (truthOf p) g₁ := fun O s I =>
  wpAny_isTrue_value (wpAny_mono (h O s I) (fun u s₁ ⟨r, st⟩ => by
    cases p with
    | bool b => exact Rep.boolE r (wpAny_truthy_bool ⟨rfl, st⟩)
    | int i => exact Rep.intE r fun t => PyProof.Rows.truthy_int ⟨rfl, st⟩
    | none => cases hp
    | str => cases hp
    | list => cases hp
    | tup => cases hp
    | obj => cases hp
    | ty => cases hp) fun _ _ x => x) he

noncomputable def EvAll (C : Cx) (ρ : List (Str × LV)) (g : C.G) (op : BoolOp) (es : List Expr) (b : Bool) (g' : C.G) : Prop :=
  ∀ O s, Inv C ρ O g s → wpAny C.mod C.A (allTrue op es C.env) (fun b' s' => b' = b ∧ Step C g' s s') NoE s
theorem EvAll.nilAnd : EvAll C ρ g .And [] true g := fun O s I => wpAny_allTrue_And_nil ⟨rfl, .refl I.world⟩
theorem EvAll.nilOr : EvAll C ρ g .Or [] false g := fun O s I => wpAny_allTrue_Or_nil ⟨rfl, .refl I.world⟩
theorem EvAll.consAnd (hC : C.Ok) {a : Expr} {es : List Expr} {b c : Bool} (h1 : EvB C ρ g a b g) (h2 : b = true → EvAll C ρ g .And es c g) : EvAll C ρ g .And (a :: es) (b && c) g := fun O s I => by
  refine wpAny_allTrue_And_cons (wpAny_mono (h1 O s I) (fun b' s₁ ⟨e, st⟩ => ?_) fun _ _ x => x)
  subst e
  cases b' with
  | false => exact ⟨rfl, st⟩
  | true => exact wpAny_mono (h2 rfl O s₁ (I.step hC st)) (fun c' s₂ ⟨e, st2⟩ => ⟨by (with_reducible_and_instances (refine rwG (e ..) ?_)); rfl, st.trans st2⟩) fun _ _ x => x
theorem EvAll.consOr (hC : C.Ok) {a : Expr} {es : List Expr} {b c : Bool} (h1 : EvB C ρ g a b g) (h2 : b = false → EvAll C ρ g .Or es c g) : EvAll C ρ g .Or (a :: es) (b || c) g := fun O s I => by
  refine wpAny_allTrue_Or_cons (wpAny_mono (h1 O s I) (fun b' s₁ ⟨e, st⟩ => ?_) fun _ _ x => x)
  subst e
  cases b' with
  | true => exact ⟨rfl, st⟩
  | false => exact wpAny_mono (h2 rfl O s₁ (I.step hC st)) (fun c' s₂ ⟨e, st2⟩ => ⟨by (with_reducible_and_instances (refine rwG (e ..) ?_)); rfl, st.trans st2⟩) fun _ _ x => x
theorem EvB.boolOp {op : BoolOp} {es : List Expr} {pos : Pos} {b : Bool} (h : EvAll C ρ g op es b g₁) : EvB C ρ g (.BoolOp op es pos) b g₁ := fun O s I => wpAny_isTrue_BoolOp (h O s I)

theorem Ev.ifExp (hC : C.Ok) {t a b : Expr} {pos : Pos} {c : Bool} {p : PV} (h : EvB C ρ g t c g₁) (h1 : c = true → Ev C ρ g₁ a p g₂) (h2 : c = false → Ev C ρ g₁ b p g₂) : Ev C ρ g (.IfExp t a b pos) p g₂ := fun O s I => by
  refine wpAny_IfExp (wpAny_mono (h O s I) (fun c' s₁ ⟨e, st⟩ => ?_) fun _ _ x => x)
  subst e
  cases c' with
  | true => exact wpAny_mono (h1 rfl O s₁ (I.step hC st)) (fun u s₂ ⟨r, st2⟩ => ⟨r, st.trans st2⟩) fun _ _ x => x
  | false => exact wpAny_mono (h2 rfl O s₁ (I.step hC st)) (fun u s₂ ⟨r, st2⟩ => ⟨r, st.trans st2⟩) fun _ _ x => x

theorem EvL.nil : EvL C ρ g [] [] g := fun O s pos I => spliced_nil ⟨.nil, .refl I.world⟩
theorem EvL.cons (hC : C.Ok) {e : Expr} {es : List Expr} {p : PV} {ps : List PV} (h1 : Ev C ρ g e p g₁) (h2 : EvL C ρ g₁ es ps g₂)
    (hs : ∀ pos, backTo pos (starEach (e :: es) C.env) = (false, eval e C.env) :: backTo pos (starEach es C.env)) : EvL C ρ g (e :: es) (p :: ps) g₂ := fun O s pos I => by
  rw [hs]
  refine spliced_cons (wpAny_mono (h1 O s I) (fun u s₁ ⟨r1, st1⟩ => ?_) fun _ _ x => x)
  have I1 := I.step hC st1
  exact wpAny_mono (h2 O s₁ pos I1) (fun us s₂ ⟨r2, st2⟩ => ⟨.cons (r1.step hC st2) r2, st1.trans st2⟩) fun _ _ x => x

theorem Ev.list (hC : C.Ok) {es : List Expr} {pos : Pos} {ps : List PV} (h : EvL C ρ g es ps g₁) (hn : ps.length ≤ 4096) : Ev C ρ g (.List es pos) (.list ps) g₁ := fun O s I =>
  wpAny_List (wpAny_mono (h O s pos I) (fun us s₁ ⟨r, st⟩ => by
    have I1 := I.step hC st
    have hl := r.length
    refine ⟨by (with_reducible_and_instances (refine rwG (hl ..) ?_)); show _ ≤ 2 ^ 24; lia, .list (I1.new hC (get_size_none _)).2.2.2 ⟨0, Heap.get?_push_size _ rfl⟩ ?_, st.trans (.of_keeps hC I1.world keeps_push)⟩
    exact r.mono (fun _ _ h _ _ => h) fun a o _ _ e => Heap.get?_push_of_some _ e) fun _ _ x => x)
theorem Ev.tup (hC : C.Ok) {es : List Expr} {k : Nat} {pos : Pos} {ps : List PV} (h : EvL C ρ g es ps g₁) (hn : ps.length ≤ 4096) : Ev C ρ g (.Tuple es k pos) (.tup ps) g₁ := fun O s I =>
  wpAny_Tuple (wpAny_mono (h O s pos I) (fun us s₁ ⟨r, st⟩ => by
    have I1 := I.step hC st
    have hl := r.length
    refine ⟨by (with_reducible_and_instances (refine rwG (hl ..) ?_)); show _ ≤ 2 ^ 24; lia, .tup (I1.new hC (get_size_none _)).2.2.2 ⟨0, Heap.get?_push_size _ rfl⟩ ?_, st.trans (.of_keeps hC I1.world keeps_push)⟩
    exact r.mono (fun _ _ h _ _ => h) fun a o _ _ e => Heap.get?_push_of_some _ e) fun _ _ x => x)

theorem Op2.ints {f : Value → Value → Sem Value} {a b : Int} {r : PV} (k : ∀ (X : Addr → Prop) (s : Shared) (t t' : Tok), wpAny C.mod C.A (f (.int a t) (.int b t')) (fun z s' => Rep X s'.heap z r ∧ Keeps s s') NoE s) : Op2 C f (.int a) (.int b) r :=
  fun X s u v _ r1 r2 => Rep.intE (motive := fun u => wpAny C.mod C.A (f u v) (fun z s' => Rep X s'.heap z r ∧ Keeps s s') NoE s) r1 fun t => Rep.intE (motive := fun v => wpAny C.mod C.A (f (.int a t) v) (fun z s' => Rep X s'.heap z r ∧ Keeps s s') NoE s) r2 fun t' => k X s t t'
theorem Op2.strs {f : Value → Value → Sem Value} {a b : List Nat} {r : PV} (k : ∀ (X : Addr → Prop) (s : Shared) (t t' : Tok), wpAny C.mod C.A (f (.str ⟨a.toArray⟩ t) (.str ⟨b.toArray⟩ t')) (fun z s' => Rep X s'.heap z r ∧ Keeps s s') NoE s) : Op2 C f (.str a) (.str b) r :=
  fun X s u v _ r1 r2 => Rep.strE (motive := fun u => wpAny C.mod C.A (f u v) (fun z s' => Rep X s'.heap z r ∧ Keeps s s') NoE s) r1 fun t => Rep.strE (motive := fun v => wpAny C.mod C.A (f (.str ⟨a.toArray⟩ t) v) (fun z s' => Rep X s'.heap z r ∧ Keeps s s') NoE s) r2 fun t' => k X s t t'
theorem op_add {a b : Int} : Op2 C (binaryOp .Add) (.int a) (.int b) (.int (a + b)) := Op2.ints fun X s t t2 => PyProof.Rows.add_int ⟨.int _ _, keeps_tok⟩
theorem op_sub {a b : Int} : Op2 C (binaryOp .Sub) (.int a) (.int b) (.int (a - b)) := Op2.ints fun X s t t2 => PyProof.Rows.sub_int ⟨.int _ _, keeps_tok⟩
theorem op_mul {a b : Int} (h : IntMulOk a b) : Op2 C (binaryOp .Mult) (.int a) (.int b) (.int (a * b)) := Op2.ints fun X s t t2 => PyProof.Rows.mul_int ⟨.int _ _, keeps_tok⟩ h
theorem op_mod {a b : Int} (h : b ≠ 0) : Op2 C (binaryOp .Mod) (.int a) (.int b) (.int (a.fmod b)) := Op2.ints fun X s t t2 => PyProof.Rows.mod_int' h ⟨.int _ _, keeps_tok⟩
theorem op_fdiv {a b : Int} (h : b ≠ 0) (hp : Builtin.divisionGoesByPylong a b = false) : Op2 C (binaryOp .FloorDiv) (.int a) (.int b) (.int (a.fdiv b)) := Op2.ints fun X s t t2 => PyProof.Rows.floordiv_int h ⟨.int _ _, keeps_tok⟩ (.inl hp)
theorem op_and {a b : Int} : Op2 C (binaryOp .BitAnd) (.int a) (.int b) (.int (Builtin.bitAnd a b)) := Op2.ints fun X s t t2 => PyProof.Rows.and_int ⟨.int _ _, keeps_tok⟩
theorem op_xor {a b : Int} : Op2 C (binaryOp .BitXor) (.int a) (.int b) (.int (Builtin.bitXor a b)) := Op2.ints fun X s t t2 => PyProof.Rows.xor_int ⟨.int _ _, keeps_tok⟩
theorem op_pow {a n : Int} (hn : 0 ≤ n) (hsz : (Builtin.Int.intBits a : Int) * n ≤ 2 ^ 27) : Op2 C (binaryOp .Pow) (.int a) (.int n) (.int (a ^ n.toNat)) := Op2.ints fun X s t t2 => PyProof.Rows.pow_int hn hsz ⟨.int _ _, keeps_tok⟩
theorem op_shl {a n : Int} (hC : C.Ok) (hn : 0 ≤ n) (hsz : (Builtin.Int.intBits a : Int) + n ≤ 2 ^ 27) : Op2 C (binaryOp .LShift) (.int a) (.int n) (.int (a * 2 ^ n.toNat)) := Op2.ints fun X s t t2 => PyProof.Rows.lshift_int_or hC.handled (fun h => absurd hn (by lia)) (fun _ => hsz) fun _ => ⟨.int _ _, keeps_tok⟩
theorem op_shr {a n : Int} (hn : 0 ≤ n) : Op2 C (binaryOp .RShift) (.int a) (.int n) (.int (a.fdiv (2 ^ n.toNat))) := Op2.ints fun X s t t2 => PyProof.Rows.rshift_int hn ⟨.int _ _, keeps_tok⟩
theorem op_eq {a b : Int} : Op2 C (compareOp .Eq) (.int a) (.int b) (.bool (a == b)) := Op2.ints fun X s t t2 => PyProof.Rows.eq_int ⟨.bool _, keeps_refl⟩
theorem op_lt {a b : Int} : Op2 C (compareOp .Lt) (.int a) (.int b) (.bool (decide (a < b))) := Op2.ints fun X s t t2 => PyProof.Rows.lt_int ⟨.bool _, keeps_refl⟩
theorem str_append (x y : List Nat) : (⟨x.toArray⟩ : Str) ++ ⟨y.toArray⟩ = ⟨(x ++ y).toArray⟩ := by
  show (⟨x.toArray ++ y.toArray⟩ : Str) = _
  simp
theorem str_length (x : List Nat) : (⟨x.toArray⟩ : Str).length = x.length := by
  show (x.toArray).size = _
  simp
theorem op_cat {x y : List Nat} (h : x.length + y.length ≤ 16777216) : Op2 C (binaryOp .Add) (.str x) (.str y) (.str (x ++ y)) := Op2.strs fun X s t t2 => by
  refine PyProof.Rows.add_str (fun t' tk => ?_) (by rw [str_length, str_length]; exact h)
  rw [str_append]
  exact ⟨.str _ _, keeps_tok⟩
theorem op_eqs {x y : List Nat} : Op2 C (compareOp .Eq) (.str x) (.str y) (.bool (x == y)) := Op2.strs fun X s t t2 => by
  exact PySem.P.eq_str ⟨.bool _, keeps_refl⟩
end
end Mine.Internal
end

section
namespace Mine.Internal
open PySem PySem.Calls

inductive Put : List (Str × LV) → Str → LV → List (Str × LV) → Prop where
  | here {x : Str} {old v : LV} {r : List (Str × LV)} (h : old.isRo = false) : Put ((x, old) :: r) x v ((x, v) :: r)
  | there {y : Str} {w : LV} {r r' : List (Str × LV)} {x : Str} {v : LV} : Put r x v r' → Put ((y, w) :: r) x v ((y, w) :: r')

theorem Put.names {ρ ρ' : List (Str × LV)} {x : Str} {v : LV} (p : Put ρ x v ρ') : ρ'.map (·.1) = ρ.map (·.1) := by
  induction p with
  | here => rfl
  | there _ ih => ((with_reducible_and_instances (refine rwG (List.map_cons ..) ?_; refine rwG (List.map_cons ..) ?_; refine rwG (ih ..) ?_)); (with_reducible rfl))
theorem Put.has {ρ ρ' : List (Str × LV)} {x : Str} {v : LV} (p : Put ρ x v ρ') : x ∈ ρ.map (·.1) := by
  induction p with
  | here => exact List.mem_cons_self
  | there _ ih => exact List.mem_cons_of_mem _ ih
theorem Put.old {ρ ρ' : List (Str × LV)} {x : Str} {v : LV} (p : Put ρ x v ρ') : ∃ w, (x, w) ∈ ρ ∧ w.isRo = false := by
  induction p with
  | here h => exact ⟨_, List.mem_cons_self, h⟩
  | there _ ih => obtain ⟨w, a, b⟩ := ih; exact ⟨w, List.mem_cons_of_mem _ a, b⟩
theorem mem_fst {y : Str} {w : LV} {r : List (Str × LV)} (h : (y, w) ∈ r) : y ∈ r.map (·.1) := List.mem_map.mpr ⟨_, h, rfl⟩
theorem Put.mem {ρ ρ' : List (Str × LV)} {x : Str} {v : LV} (p : Put ρ x v ρ') (nd : (ρ.map (·.1)).Nodup) : ∀ y w, (y, w) ∈ ρ' → (y = x ∧ w = v) ∨ (y ≠ x ∧ (y, w) ∈ ρ) := by
  induction p with
  | here =>
    intro y w h
    rcases List.mem_cons.mp h with e | h2
    · cases e; exact .inl ⟨rfl, rfl⟩
    · refine .inr ⟨?_, List.mem_cons_of_mem _ h2⟩
      intro e
      rw [e] at h2
      exact (List.nodup_cons.mp nd).1 (mem_fst h2)
  | there q ih =>
    intro y w h
    rcases List.mem_cons.mp h with e | h2
    · cases e
      refine .inr ⟨?_, List.mem_cons_self⟩
      intro e
      refine (List.nodup_cons.mp nd).1 ?_
      have := q.has
      rw [← e] at this
      exact this
    · rcases ih (List.nodup_cons.mp nd).2 y w h2 with e | ⟨e1, e2⟩
      · exact .inl e
      · exact .inr ⟨e1, List.mem_cons_of_mem _ e2⟩

structure SKeep (C : Cx) (O O' : List (Str × Addr)) (s s' : Shared) : Prop where
  keep : ∀ a o, a ≠ C.env.locals → ¬ isCellAddr C a → (¬ ∃ x, (x, a) ∈ O) → ¬ C.M a → s.heap.get? a = some o → s'.heap.get? a = some o
  grow : ∀ x a, (x, a) ∈ O' → (x, a) ∈ O ∨ s.heap.get? a = none
  pres : ∀ a o, s.heap.get? a = some o → ∃ o', s'.heap.get? a = some o'

theorem SKeep.refl {C : Cx} {O : List (Str × Addr)} {s : Shared} : SKeep C O O s s := ⟨fun _ _ _ _ _ _ e => e, fun _ _ h => .inl h, fun _ o e => ⟨o, e⟩⟩
theorem SKeep.trans {C : Cx} {O O' O'' : List (Str × Addr)} {s s' s'' : Shared} (p : SKeep C O O' s s') (q : SKeep C O' O'' s' s'') : SKeep C O O'' s s'' := by
  have np : ∀ a o, a ≠ C.env.locals → ¬ isCellAddr C a → (¬ ∃ x, (x, a) ∈ O) → ¬ C.M a → s.heap.get? a = some o → ¬ ∃ x, (x, a) ∈ O' := by
    rintro a o _ _ h3 _ e ⟨x, hx⟩
    rcases p.grow x a hx with h | h
    · exact h3 ⟨x, h⟩
    · cases h.symm.trans e
  refine ⟨fun a o h1 h2 h3 h4 e => q.keep a o h1 h2 (np a o h1 h2 h3 h4 e) h4 (p.keep a o h1 h2 h3 h4 e), fun x a h => ?_, fun a o e => ?_⟩
  · rcases q.grow x a h with h | h
    · exact p.grow x a h
    · cases e : s.heap.get? a with
      | none => exact .inr rfl
      | some o => obtain ⟨o', e'⟩ := p.pres a o e; cases h.symm.trans e'
  · obtain ⟨o', e'⟩ := p.pres a o e
    exact q.pres a o' e'

section
variable {C : Cx} {ρ ρ' : List (Str × LV)} {O O' : List (Str × Addr)} {g g' g₁ g₂ : C.G} {s s' : Shared}

theorem Step.skeep (hC : C.Ok) (st : Step C g' s s') : SKeep C O O s s' :=
  ⟨fun a o _ _ _ hm e => st.keep a o hm e, fun _ _ h => .inl h, fun a o e => by
    by_cases m : C.M a
    · exact hC.wm g' _ a st.world m
    · exact ⟨o, st.keep a o m e⟩⟩

theorem seq_ne_dict {h : Heap} {a L : Addr} {o : Obj} {m : Str → Option Value} (hs : Obj.isSeq o) (e : h.get? a = some o) (n : h.Ns L m) : a ≠ L := by
  rintro rfl
  obtain ⟨o', es, ep, e', d, _⟩ := n
  cases e.symm.trans e'
  obtain ⟨xs, k, d'⟩ := hs
  cases d.symm.trans d'
theorem seq_ne_cell {h : Heap} {a c : Addr} {o : Obj} {v : Option Value} (hs : Obj.isSeq o) (e : h.get? a = some o) (n : h.IsCell c v) : a ≠ c := by
  rintro rfl
  obtain ⟨o', e', d⟩ := n
  cases e.symm.trans e'
  obtain ⟨xs, k, d'⟩ := hs
  cases d.symm.trans d'
theorem cell_ne_dict {h : Heap} {c L : Addr} {v : Option Value} {m : Str → Option Value} (n : h.IsCell c v) (k : h.Ns L m) : c ≠ L := by
  rintro rfl
  obtain ⟨o', e', d⟩ := n
  obtain ⟨o, es, ep, e, d', _⟩ := k
  cases e.symm.trans e'
  cases d.symm.trans d'
theorem rec_ne_dict {h : Heap} {a L : Addr} {o : Obj} {m : Str → Option Value} (hs : Obj.isRec o) (e : h.get? a = some o) (n : h.Ns L m) : a ≠ L := by
  rintro rfl
  obtain ⟨o', es, ep, e', d, _⟩ := n
  cases e.symm.trans e'
  obtain ⟨_, vs, d'⟩ := hs
  cases d.symm.trans d'
theorem rec_ne_cell {h : Heap} {a c : Addr} {o : Obj} {v : Option Value} (hs : Obj.isRec o) (e : h.get? a = some o) (n : h.IsCell c v) : a ≠ c := by
  rintro rfl
  obtain ⟨o', e', d⟩ := n
  cases e.symm.trans e'
  obtain ⟨_, vs, d'⟩ := hs
  cases d.symm.trans d'
theorem rec_ne_seq {h : Heap} {a b : Addr} {o o' : Obj} (hs : Obj.isRec o) (e : h.get? a = some o) (e' : h.get? b = some o') (hs' : Obj.isSeq o') : a ≠ b := by
  rintro rfl
  cases e.symm.trans e'
  obtain ⟨_, vs, d'⟩ := hs
  obtain ⟨xs, k, d⟩ := hs'
  cases d.symm.trans d'
theorem plain_isSeq {h : Heap} {a : Addr} {vs : Array Value} (p : h.PlainList a vs) : ∃ o, Obj.isSeq o ∧ h.get? a = some o := let ⟨n, e⟩ := p; ⟨_, ⟨_, _, rfl⟩, e⟩

theorem Rep.sameBut {X : Addr → Prop} {h h' : Heap} {b : Addr} (hs : Heap.SameBut b h h') (hb : ∀ a o, Obj.isSeq o → h.get? a = some o → a ≠ b) {u : Value} {p : PV} (r : Rep X h u p) : Rep X h' u p :=
  r.mono (fun _ _ h _ _ => h) fun a o _ q e => (hs.2 a (hb a o q e)).trans e
theorem Reps.sameBut {X : Addr → Prop} {h h' : Heap} {b : Addr} (hs : Heap.SameBut b h h') (hb : ∀ a o, Obj.isSeq o → h.get? a = some o → a ≠ b) {u : List Value} {p : List PV} (r : Reps X h u p) : Reps X h' u p :=
  r.mono (fun _ _ h _ _ => h) fun a o _ q e => (hs.2 a (hb a o q e)).trans e

theorem SKeep.sameBut {b : Addr} (hb : b = C.env.locals ∨ isCellAddr C b ∨ (∃ x, (x, b) ∈ O)) (hs : Heap.SameBut b s.heap s'.heap) (hp : ∃ o, s'.heap.get? b = some o) : SKeep C O O s s' := by
  refine ⟨fun a o h1 h2 h3 _ e => (hs.2 a ?_).trans e, fun _ _ h => .inl h, fun a o e => ?_⟩
  · rintro rfl
    rcases hb with h | h | h
    · exact h1 h
    · exact h2 h
    · exact h3 h
  · by_cases q : a = b
    · subst q; exact hp
    · exact ⟨o, (hs.2 a q).trans e⟩

theorem lookup_cells_inj (hC : C.Ok) {x y : Str} {c : Addr} (h1 : C.env.cells.lookup x = some c) (h2 : C.env.cells.lookup y = some c) : x = y := hC.inj x y c h1 h2

theorem store_lv (hC : C.Ok) {x : Str} {u : Value} {v : LV} (I : Inv C ρ O g s) (r : ∀ m h', (∀ a o, Obj.isSeq o → s.heap.get? a = some o → h'.get? a = some o) → Rw C x → Slot C m h' x u → LIs C O m h' x v) (hp : Put ρ x v ρ') {Q : Unit → Shared → Prop}
    (hQ : ∀ s', Inv C ρ' O g s' → SKeep C O O s s' → (C.env.kindOf x = some .local → ∀ b o, b ≠ C.env.locals → s.heap.get? b = some o → s'.heap.get? b = some o) → Q () s') : wpAny C.mod C.A (storeName C.env x u) Q NoE s := by
  have hx : x ∈ C.names := by (with_reducible_and_instances (refine rwL (I.names ..) ?_)); exact hp.has
  have nd : (ρ.map (·.1)).Nodup := by (with_reducible_and_instances (refine rwG (I.names ..) ?_)); exact hC.nodup
  obtain ⟨m, hn, hl⟩ := I.loc
  have hF : Rw C x := by
    obtain ⟨w, hw, ho⟩ := hp.old
    have q := hl x w hw
    cases w with
    | undef => exact q
    | val => exact q.1
    | own => exact q.1
    | ro => cases ho
  rcases hC.kinds x hx with hk | ⟨hk | hk, hc⟩
  · refine wpAny_storeName_local hk hn (fun h' hn' hs' => ?_) (by (with_reducible_and_instances (refine rwG (hC.kind ..) ?_)); rfl)
    have sq : ∀ a o, Obj.isSeq o → s.heap.get? a = some o → a ≠ C.env.locals := fun a o q e => seq_ne_dict q e hn
    refine hQ _ ⟨I.rest, fun a o hf hm e => (hs'.2 a (fun q => hf (q ▸ hC.locF))).trans (I.old a o hf hm e), hC.stab g _ _ I.world fun a o hm e => (hs'.2 a (hm.elim (fun hm q => hC.locM (q ▸ hm)) fun hr => rec_ne_dict hr e hn)).trans e, hp.names.trans I.names,
      ⟨_, hn', fun y w hy => ?_⟩, fun y c hc => ?_, fun y a ha => ?_, I.uniq⟩ (SKeep.sameBut (.inl rfl) hs' ?_) (fun _ b o hb e => (hs'.2 b hb).trans e)
    · rcases hp.mem nd y w hy with ⟨rfl, rfl⟩ | ⟨hne, hy'⟩
      · exact r _ _ (fun a o q e => (hs'.2 a (sq a o q e)).trans e) hF (.inl ⟨hk, by simp⟩)
      · have q := hl y w hy'
        have sl : ∀ z, Slot C m s.heap y z → Slot C (fun k => if k = x then some u else m k) h' y z := by
          rintro z (⟨q1, q2⟩ | ⟨q1, c, q2, q3⟩)
          · exact .inl ⟨q1, by simp [hne, q2]⟩
          · exact .inr ⟨q1, c, q2, q3.sameBut hs' (cell_ne_dict q3 hn)⟩
        cases w with
        | undef => exact q
        | val p' => obtain ⟨q0, z, q1, q2⟩ := q; exact ⟨q0, z, sl z q1, q2.sameBut hs' sq⟩
        | ro p' => obtain ⟨z, q1, q2⟩ := q; exact ⟨z, sl z q1, q2.sameBut hs' sq⟩
        | own xs =>
          obtain ⟨q0, a, vs, q1, q2, q3, q4⟩ := q
          obtain ⟨o, qs, qe⟩ := plain_isSeq q3
          obtain ⟨n, q3⟩ := q3
          exact ⟨q0, a, vs, sl _ q1, q2, ⟨n, (hs'.2 a (sq a o qs qe)).trans q3⟩, q4.sameBut hs' sq⟩
    · obtain ⟨v, hv⟩ := I.cells y c hc
      exact ⟨v, hv.sameBut hs' (cell_ne_dict hv hn)⟩
    · obtain ⟨f, hm, vs, q⟩ := I.own y a ha
      obtain ⟨o, qs, qe⟩ := plain_isSeq q
      obtain ⟨n, q⟩ := q
      exact ⟨f, hm, vs, n, (hs'.2 a (sq a o qs qe)).trans q⟩
    · obtain ⟨o, _, _, e, _⟩ := hn'; exact ⟨o, e⟩
  · obtain ⟨c, hc⟩ := Option.isSome_iff_exists.mp hc
    obtain ⟨v₀, hv₀⟩ := I.cells x c hc
    refine wpAny_storeName_cell hC.kind hk hc hv₀ fun h' hc' hs' => ?_
    have hcF := hC.cellF x c hk hF.2 hc
    have hcM := hC.cellM x c hc
    have sq : ∀ a o, Obj.isSeq o → s.heap.get? a = some o → a ≠ c := fun a o q e => seq_ne_cell q e hv₀
    refine hQ _ ⟨I.rest, fun a o hf hm e => (hs'.2 a (fun q => hf (q ▸ hcF))).trans (I.old a o hf hm e), hC.stab g _ _ I.world fun a o hm e => (hs'.2 a (hm.elim (fun hm q => hcM (q ▸ hm)) fun hr => rec_ne_cell hr e hv₀)).trans e, hp.names.trans I.names,
      ⟨m, hn.sameBut hs' (Ne.symm (cell_ne_dict hv₀ hn)), fun y w hy => ?_⟩, fun y c' hc'' => ?_, fun y a ha => ?_, I.uniq⟩ (SKeep.sameBut (.inr (.inl ⟨x, hc⟩)) hs' ?_) (fun q => by cases hk.symm.trans q)
    · rcases hp.mem nd y w hy with ⟨rfl, rfl⟩ | ⟨hne, hy'⟩
      · exact r _ _ (fun a o q e => (hs'.2 a (sq a o q e)).trans e) hF (.inr ⟨.inl hk, c, hc, hc'⟩)
      · have q := hl y w hy'
        have sl : ∀ z, Slot C m s.heap y z → Slot C m h' y z := by
          rintro z (⟨q1, q2⟩ | ⟨q1, c', q2, q3⟩)
          · exact .inl ⟨q1, q2⟩
          · exact .inr ⟨q1, c', q2, q3.sameBut hs' fun e => hne (lookup_cells_inj hC (e ▸ q2) hc)⟩
        cases w with
        | undef => exact q
        | val p' => obtain ⟨q0, z, q1, q2⟩ := q; exact ⟨q0, z, sl z q1, q2.sameBut hs' sq⟩
        | ro p' => obtain ⟨z, q1, q2⟩ := q; exact ⟨z, sl z q1, q2.sameBut hs' sq⟩
        | own xs =>
          obtain ⟨q0, a, vs, q1, q2, q3, q4⟩ := q
          obtain ⟨o, qs, qe⟩ := plain_isSeq q3
          obtain ⟨n, q3⟩ := q3
          exact ⟨q0, a, vs, sl _ q1, q2, ⟨n, (hs'.2 a (sq a o qs qe)).trans q3⟩, q4.sameBut hs' sq⟩
    · by_cases e : c' = c
      · subst e; exact ⟨_, hc'⟩
      · obtain ⟨v, hv⟩ := I.cells y c' hc''
        exact ⟨v, hv.sameBut hs' e⟩
    · obtain ⟨f, hm, vs, q⟩ := I.own y a ha
      obtain ⟨o, qs, qe⟩ := plain_isSeq q
      obtain ⟨n, q⟩ := q
      exact ⟨f, hm, vs, n, (hs'.2 a (sq a o qs qe)).trans q⟩
    · obtain ⟨o, e, _⟩ := hc'; exact ⟨o, e⟩
  · obtain ⟨c, hc⟩ := Option.isSome_iff_exists.mp hc
    exact absurd hk hF.1
theorem store_val (hC : C.Ok) {x : Str} {u : Value} {p : PV} (I : Inv C ρ O g s) (r : Rep (avoid C O) s.heap u p) (hp : Put ρ x (.val p) ρ') {Q : Unit → Shared → Prop}
    (hQ : ∀ s', Inv C ρ' O g s' → SKeep C O O s s' → (C.env.kindOf x = some .local → ∀ b o, b ≠ C.env.locals → s.heap.get? b = some o → s'.heap.get? b = some o) → Q () s') : wpAny C.mod C.A (storeName C.env x u) Q NoE s :=
  store_lv (v := .val p) hC I (fun m h' k hf sl => ⟨hf, u, sl, r.mono (fun _ _ h _ _ => h) fun a o _ q e => k a o q e⟩) hp hQ
end
end Mine.Internal
end

section
namespace Mine.Internal
open PySem PySem.Calls

inductive Fl where
  | next
  | brk
  | cont
  | ret (v : PV)

inductive FlIs (X : Addr → Prop) (h : Heap) : Flow → Fl → Prop where
  | next : FlIs X h .next .next
  | brk : FlIs X h .brk .brk
  | cont : FlIs X h .cont .cont
  | ret {u : Value} {v : PV} : Rep X h u v → FlIs X h (.ret u) (.ret v)

noncomputable abbrev Env' := List (Str × LV)
inductive Post (C : Cx) (O : List (Str × Addr)) (s : Shared) (P : Fl → Env' → C.G → Prop) (f : Flow) (s' : Shared) : Prop
  | mk (fl : Fl) (ρ' : Env') (O' : List (Str × Addr)) (g' : C.G) (hP : P fl ρ' g') (hfl : FlIs (avoid C O') s'.heap f fl) (I : Inv C ρ' O' g' s') (k : SKeep C O O' s s') : Post C O s P f s'
noncomputable def StP (C : Cx) (ρ : Env') (g : C.G) (t : Sem Flow) (P : Fl → Env' → C.G → Prop) : Prop :=
  ∀ O s, Inv C ρ O g s → wpAny C.mod C.A t (Post C O s P) NoE s
noncomputable def St (C : Cx) (ρ : Env') (g : C.G) (ss : List Stmt) (P : Fl → Env' → C.G → Prop) : Prop := StP C ρ g (execs ss C.env) P
noncomputable def St1 (C : Cx) (ρ : Env') (g : C.G) (st : Stmt) (P : Fl → Env' → C.G → Prop) : Prop := StP C ρ g (exec st C.env) P

section
variable {C : Cx} {ρ ρ' ρ₁ : Env'} {g g' g₁ g₂ : C.G} {P P' : Fl → Env' → C.G → Prop}

theorem Post.after {O O' : List (Str × Addr)} {s s' : Shared} (k : SKeep C O O' s s') {f : Flow} {s'' : Shared} (p : Post C O' s' P f s'') : Post C O s P f s'' :=
  let ⟨fl, ρ', O'', g', a, b, c, d⟩ := p; ⟨fl, ρ', O'', g', a, b, c, k.trans d⟩

theorem StP.mono {t : Sem Flow} (h : StP C ρ g t P) (hp : ∀ fl ρ' g', P fl ρ' g' → P' fl ρ' g') : StP C ρ g t P' := fun O s I =>
  wpAny_mono (h O s I) (fun f s' ⟨fl, ρ', O', g', a, b, c, d⟩ => ⟨fl, ρ', O', g', hp _ _ _ a, b, c, d⟩) fun _ _ x => x

theorem St.nil (h : P .next ρ g) : St C ρ g [] P := fun O s I => wpAny_execs_nil ⟨.next, ρ, O, g, h, .next, I, .refl⟩
noncomputable def Then (C : Cx) (rest : List Stmt) (P : Fl → Env' → C.G → Prop) : Fl → Env' → C.G → Prop := fun fl ρ' g' => match fl with | .next => St C ρ' g' rest P | fl => P fl ρ' g'
theorem St.cons {st : Stmt} {rest : List Stmt} (h : St1 C ρ g st (Then C rest P)) : St C ρ g (st :: rest) P := fun O s I => by
  refine wpAny_execs_cons (wpAny_mono (h O s I) (fun f s' ⟨fl, ρ', O', g', a, b, c, d⟩ => ?_) fun _ _ x => x)
  cases b with
  | next => exact wpAny_mono (a O' s' c) (fun f' s'' p => p.after d) fun _ _ x => x
  | brk => exact ⟨.brk, ρ', O', g', a, .brk, c, d⟩
  | cont => exact ⟨.cont, ρ', O', g', a, .cont, c, d⟩
  | ret r => exact ⟨.ret _, ρ', O', g', a, .ret r, c, d⟩
theorem St.one {st : Stmt} (h : St1 C ρ g st P) : St C ρ g [st] P := .cons (StP.mono h fun fl ρ' g' p => by
  cases fl with
  | next => exact St.nil p
  | _ => exact p)

theorem St1.assign (hC : C.Ok) {x : Str} {xp pos : Pos} {e : Expr} {v : PV} (h : Ev C ρ g e v g₁) (hp : Put ρ x (.val v) ρ') (hP : P .next ρ' g₁)
    (hs : swapsWith e (some (.Name x xp)) pos.line C.env = pure false) : St1 C ρ g (.Assign [.Name x xp] e pos) P := fun O s I =>
  wpAny_Assign_Name (wpAny_mono (h O s I) (fun u s₁ ⟨r, st⟩ => store_val hC (I.step hC st) r hp fun s' I' k _ => ⟨.next, ρ', O, g₁, hP, .next, I', (st.skeep hC).trans k⟩) fun _ _ x => x) hs

theorem St1.ret (hC : C.Ok) {e : Expr} {pos : Pos} {v : PV} (h : Ev C ρ g e v g₁) (hP : P (.ret v) ρ g₁) : St1 C ρ g (.Return (some e) pos) P := fun O s I =>
  wpAny_Return_some (wpAny_mono (h O s I) (fun u s₁ ⟨r, st⟩ => ⟨.ret v, ρ, O, g₁, hP, .ret r, I.step hC st, st.skeep hC⟩) fun _ _ x => x)

theorem St1.ifs (hC : C.Ok) {t : Expr} {a b : List Stmt} {pos : Pos} {c : Bool} (h : EvB C ρ g t c g₁) (h1 : c = true → St C ρ g₁ a P) (h2 : c = false → St C ρ g₁ b P) : St1 C ρ g (.If t a b pos) P := fun O s I => by
  refine wpAny_If (wpAny_mono (h O s I) (fun c' s₁ ⟨e, st⟩ => ?_) fun _ _ x => x)
  subst e
  cases c' with
  | true => exact wpAny_mono (h1 rfl O s₁ (I.step hC st)) (fun f' s'' p => p.after (st.skeep hC)) fun _ _ x => x
  | false => exact wpAny_mono (h2 rfl O s₁ (I.step hC st)) (fun f' s'' p => p.after (st.skeep hC)) fun _ _ x => x

theorem St1.cont {pos : Pos} (hP : P .cont ρ g) : St1 C ρ g (.Continue pos) P := fun O s I => wpAny_Continue ⟨.cont, ρ, O, g, hP, .cont, I, .refl⟩

theorem St1.aug (hC : C.Ok) {x : Str} {xp pos : Pos} {op : Operator} {e : Expr} {p q v : PV} (hx : (x, LV.val p) ∈ ρ) (h : Ev C ρ g e q g₁) (ho : Op2 C (inplaceOp op) p q v) (hp : Put ρ x (.val v) ρ') (hP : P .next ρ' g₁) :
    St1 C ρ g (.AugAssign (.Name x xp) op e pos) P := fun O s I => by
  refine wpAny_AugAssign_Name ?_
  have hn : wpAny C.mod C.A (loadName C.env x) (fun u s' => Rep (avoid C O) s'.heap u p ∧ s' = s) NoE s := by
    obtain ⟨m, hn, hl⟩ := I.loc
    obtain ⟨u, q, r⟩ := (hl x _ hx).2
    have hd := hC.notDebug x (mem_names I.names hx)
    rcases q with ⟨q1, q2⟩ | ⟨q1 | q1, c, q2, q3⟩
    · exact wpAny_loadName_local hC.kind q1 hn q2 ⟨r, rfl⟩
    · exact wpAny_loadName_cell hC.kind q1 q2 q3 ⟨r, rfl⟩
    · exact wpAny_loadName_free hC.kind q1 q2 q3 ⟨r, rfl⟩ hd.2
  refine wpAny_mono hn (fun u s₁ ⟨r1, e1⟩ => ?_) fun _ _ x => x
  subst e1
  refine wpAny_mono (h O s₁ I) (fun u2 s₂ ⟨r2, st2⟩ => ?_) fun _ _ x => x
  have I2 := I.step hC st2
  refine wpAny_mono (ho (avoid C O) s₂ u u2 (fun x e => (I2.new hC e).2.2.2) (r1.step hC st2) r2) (fun z s₃ ⟨r3, k⟩ => ?_) fun _ _ x => x
  have st3 := Step.of_keeps hC I2.world k
  exact store_val hC (I2.step hC st3) r3 hp fun s' I' k' _ => ⟨.next, ρ', O, g₁, hP, .next, I', ((st2.trans st3).skeep hC).trans k'⟩

theorem op_iadd {a b : Int} : Op2 C (inplaceOp .Add) (.int a) (.int b) (.int (a + b)) := Op2.ints fun X s t t2 => PySem.P.iadd_int ⟨.int _ _, keeps_tok⟩
theorem op_ixor {a b : Int} : Op2 C (inplaceOp .BitXor) (.int a) (.int b) (.int (Builtin.bitXor a b)) := Op2.ints fun X s t t2 => PyProof.Rows.ixor_int ⟨.int _ _, keeps_tok⟩
theorem op_ishr {a n : Int} (hn : 0 ≤ n) : Op2 C (inplaceOp .RShift) (.int a) (.int n) (.int (a.fdiv (2 ^ n.toNat))) := Op2.ints fun X s t t2 => PyProof.Rows.irshift_int hn ⟨.int _ _, keeps_tok⟩
theorem op_icat {x y : List Nat} (h : x.length + y.length ≤ 16777216) : Op2 C (inplaceOp .Add) (.str x) (.str y) (.str (x ++ y)) := Op2.strs fun X s t t2 => by
  refine PySem.SB.iadd (fun t' tk => ?_) (by rw [str_length, str_length]; exact h)
  rw [str_append]
  exact ⟨.str _ _, keeps_tok⟩

structure Iter (C : Cx) (O : List (Str × Addr)) (hb : Heap) (I : Addr) (items : List PV) (S : Nat → Heap → Prop) : Prop where
  fields : ∀ i h, S i h → ∃ o vs, h.get? I = some o ∧ o.data = .fields vs ∧ o.cls ≠ .type "code"
  frame : ∀ i h h', S i h → (∀ o, h.get? I = some o → h'.get? I = some o) → (∀ a o, ¬ avoid C O a → Obj.isSeq o → hb.get? a = some o → h'.get? a = some o) → S i h'
  item : ∀ i p (s : Shared) (Q : Option Value → Shared → Prop) (E : Value → Shared → Prop), items[i]? = some p → S i s.heap →
    (∀ v h' tk, Rep (avoid C O) hb v p → S (i + 1) h' → (∀ b o, b ≠ I → s.heap.get? b = some o → h'.get? b = some o) → Q (some v) { s with heap := h', toks := tk }) → wpAny C.mod C.A (pyNext (.ref I)) Q E s
  done : ∀ (s : Shared) (Q : Option Value → Shared → Prop) (E : Value → Shared → Prop), S items.length s.heap →
    (∀ h' tk, (∀ b o, b ≠ I → s.heap.get? b = some o → h'.get? b = some o) → Q none { s with heap := h', toks := tk }) → wpAny C.mod C.A (pyNext (.ref I)) Q E s
  self : ∀ i (s : Shared) (Q : Value → Shared → Prop) (E : Value → Shared → Prop), S i s.heap → Q (.ref I) s → wpAny C.mod C.A (pyIter (.ref I)) Q E s
  owned : ∀ i (s : Shared) elts k pos T (Q : Unit → Shared → Prop) (E : Value → Shared → Prop), S i s.heap → Q () s → wpAny C.mod C.A (letOwnedTupleGo (.Tuple elts k pos) (.ref I) T) Q E s

noncomputable def EvIt (C : Cx) (ρ : Env') (g : C.G) (e : Expr) (items : List PV) (g' : C.G) : Prop :=
  ∀ O s, Inv C ρ O g s → wpAny C.mod C.A (eval e C.env) (fun x s₁ => wpAny C.mod C.A (pyIter x) (fun it s' => ∃ I S, it = .ref I ∧ Iter C O s'.heap I items S ∧ S 0 s'.heap ∧ s.heap.get? I = none ∧ Step C g' s s') NoE s₁) NoE s

inductive BindsL : List Expr → List PV → Env' → Env' → Prop where
  | nil {ρ : Env'} : BindsL [] [] ρ ρ
  | cons {x : Str} {pos : Pos} {ts : List Expr} {v : PV} {vs : List PV} {ρ ρ₁ ρ' : Env'} : Put ρ x (.val v) ρ₁ → BindsL ts vs ρ₁ ρ' → BindsL (.Name x pos :: ts) (v :: vs) ρ ρ'
inductive Binds : Expr → PV → Env' → Env' → Prop where
  | name {x : Str} {pos : Pos} {v : PV} {ρ ρ' : Env'} : Put ρ x (.val v) ρ' → Binds (.Name x pos) v ρ ρ'
  | tup {ts : List Expr} {k : Nat} {pos : Pos} {vs : List PV} {ρ ρ' : Env'} : BindsL ts vs ρ ρ' → Binds (.Tuple ts k pos) (.tup vs) ρ ρ'

theorem PlainTuple.isTuple {h : Heap} {a : Addr} {vs : Array Value} (p : PlainTuple h a vs) : h.IsTuple a vs := let ⟨n, e⟩ := p; ⟨_, e, rfl, n, rfl⟩

theorem BindsL.each {ts : List Expr} {vs : List PV} (b : BindsL ts vs ρ ρ') (env : Env) : (assignEach ts env).length = vs.length ∧ (assignEach ts env).findIdx? (·.1) = none := by
  induction b with
  | nil => exact ⟨rfl, rfl⟩
  | cons p _ ih =>
    constructor
    · show (_ :: assignEach _ env).length = _
      ((with_reducible_and_instances (refine rwG (List.length_cons ..) ?_; refine rwG (List.length_cons ..) ?_; refine rwG (ih.1 ..) ?_)); (with_reducible rfl))
    · show List.findIdx? _ ((false, _) :: assignEach _ env) = none
      ((with_reducible_and_instances (refine rwG ((List.findIdx?_cons) ..) ?_; refine rwG (ih.2 ..) ?_))); rfl

theorem Rep.keepAll {X : Addr → Prop} {h h' : Heap} (k : ∀ a o, h.get? a = some o → h'.get? a = some o) {u : Value} {p : PV} (r : Rep X h u p) : Rep X h' u p :=
  r.mono (fun _ _ h _ _ => h) fun a o _ _ e => k a o e
theorem Reps.keepAll {X : Addr → Prop} {h h' : Heap} (k : ∀ a o, h.get? a = some o → h'.get? a = some o) {u : List Value} {p : List PV} (r : Reps X h u p) : Reps X h' u p :=
  r.mono (fun _ _ h _ _ => h) fun a o _ _ e => k a o e

theorem Reps.skeep (hC : C.Ok) {O O' : List (Str × Addr)} {s s' : Shared} (I : Inv C ρ O g s) (k : SKeep C O O' s s') {u : List Value} {p : List PV} (r : Reps (avoid C O) s.heap u p) : Reps (avoid C O') s'.heap u p := by
  obtain ⟨m, hn, _⟩ := I.loc
  refine r.mono (fun a o h _ e => ?_) fun a o h q e => k.keep a o (seq_ne_dict q e hn) ?_ (fun hx => h (.inr hx)) (avoid_not_M hC h) e
  · rintro (x | ⟨x, hx⟩)
    · exact h (.inl x)
    · rcases k.grow x a hx with h' | h'
      · exact h (.inr ⟨x, h'⟩)
      · cases h'.symm.trans e
  · rintro ⟨x, hx⟩
    obtain ⟨v, hv⟩ := I.cells x a hx
    exact seq_ne_cell q e hv rfl
noncomputable def nameOf : Expr → Option Str
  | .Name x _ => some x
  | _ => none
noncomputable def targetNames : Expr → List Str
  | .Name x _ => [x]
  | .Tuple ts _ _ => ts.filterMap nameOf
  | _ => []
theorem bind_list (hC : C.Ok) {ts : List Expr} {ps : List PV} (hb : BindsL ts ps ρ ρ') : ∀ {O : List (Str × Addr)} {s : Shared} {us : List Value} (I : Inv C ρ O g s) (r : Reps (avoid C O) s.heap us ps) {Q : Unit → Shared → Prop}
    (hQ : ∀ s', Inv C ρ' O g s' → SKeep C O O s s' → ((∀ x ∈ ts.filterMap nameOf, C.env.kindOf x = some .local) → ∀ b o, b ≠ C.env.locals → s.heap.get? b = some o → s'.heap.get? b = some o) → Q () s'), wpAny C.mod C.A (assignInOrder ((assignEach ts C.env).map (·.2)) us) Q NoE s := by
  induction hb with
  | nil => intro O s us I r Q hQ; (with_reducible_and_instances (refine rwG (r.nilE ..) ?_)); exact wpAny_pure (hQ s I .refl fun _ _ _ _ e => e)
  | cons p _ ih =>
    intro O s us I r Q hQ
    · refine Reps.consE r fun u vs r1 r2 => ?_
      refine wpAny_assignInOrder_more (wpAny_assign_Name (store_val hC I r1 p fun s' I' k kl => ?_))
      exact ih I' (r2.skeep hC I k) fun s'' I'' k' kl' => hQ s'' I'' (k.trans k') fun hl b o hb e => kl' (fun y hy => hl y (List.mem_cons_of_mem _ hy)) b o hb (kl (hl _ List.mem_cons_self) b o hb e)

theorem bind_target (hC : C.Ok) {t : Expr} {v : PV} (hb : Binds t v ρ ρ') {O : List (Str × Addr)} {s : Shared} {u : Value} (I : Inv C ρ O g s) (r : Rep (avoid C O) s.heap u v) {Q : Unit → Shared → Prop}
    (hQ : ∀ s', Inv C ρ' O g s' → SKeep C O O s s' → ((∀ x ∈ targetNames t, C.env.kindOf x = some .local) → ∀ b o, b ≠ C.env.locals → s.heap.get? b = some o → s'.heap.get? b = some o) → Q () s') : wpAny C.mod C.A (assign t C.env u) Q NoE s := by
  cases hb with
  | name p => exact wpAny_assign_Name (store_val hC I r p fun s' I' k kl => hQ s' I' k fun hl => kl (hl _ List.mem_cons_self))
  | tup b =>
    · refine Rep.tupE r fun a vs hx ht hr => ?_
      have e := b.each C.env
      have hl := hr.length
      refine wpAny_assign_Tuple hC.handled ht.isTuple (by ((with_reducible_and_instances (refine rwG (e.1 ..) ?_; refine rwL (hl ..) ?_))); simp) e.2 fun h' he => ?_
      have ka : ∀ a o, s.heap.get? a = some o → h'.get? a = some o := fun a o q => he a o (Nat.ne_of_lt (Heap.lt_size q)) q
      have st : Step C g s { s with heap := h' } := .of_keeps hC I.world ⟨h', s.toks, rfl, ka⟩
      exact bind_list hC b (I.step hC st) (hr.keepAll ka) fun s' I' k kl => hQ s' I' ((st.skeep hC).trans k) fun hl b o hb e => kl hl b o hb (ka b o e)

inductive Weak : Env' → Env' → Prop where
  | nil : Weak [] []
  | keep {e : Str × LV} {r r' : Env'} : Weak r r' → Weak (e :: r) (e :: r')
  | drop {x : Str} {v : LV} {r r' : Env'} (h : v.isRo = false) : Weak r r' → Weak ((x, v) :: r) ((x, .undef) :: r')
  | val {x : Str} {p p' : PV} {r r' : Env'} (h : p = p') : Weak r r' → Weak ((x, .val p) :: r) ((x, .val p') :: r')
  | own {x : Str} {p p' : List PV} {r r' : Env'} (h : p = p') : Weak r r' → Weak ((x, .own p) :: r) ((x, .own p') :: r')
theorem Weak.names {ρ ρ' : Env'} (h : Weak ρ ρ') : ρ'.map (·.1) = ρ.map (·.1) := by
  induction h with
  | nil => rfl
  | keep _ ih => ((with_reducible_and_instances (refine rwG (List.map_cons ..) ?_; refine rwG (List.map_cons ..) ?_; refine rwG (ih ..) ?_)); (with_reducible rfl))
  | drop _ _ ih => ((with_reducible_and_instances (refine rwG (List.map_cons ..) ?_; refine rwG (List.map_cons ..) ?_; refine rwG (ih ..) ?_)); (with_reducible rfl))
  | val _ _ ih => ((with_reducible_and_instances (refine rwG (List.map_cons ..) ?_; refine rwG (List.map_cons ..) ?_; refine rwG (ih ..) ?_)); (with_reducible rfl))
  | own _ _ ih => ((with_reducible_and_instances (refine rwG (List.map_cons ..) ?_; refine rwG (List.map_cons ..) ?_; refine rwG (ih ..) ?_)); (with_reducible rfl))
theorem Weak.mem {ρ ρ' : Env'} (h : Weak ρ ρ') : ∀ x v, (x, v) ∈ ρ' → (x, v) ∈ ρ ∨ (v = .undef ∧ ∃ w, w.isRo = false ∧ (x, w) ∈ ρ) := by
  induction h with
  | nil => intro x v h; cases h
  | keep _ ih =>
    intro x v h
    rcases List.mem_cons.mp h with e | h
    · exact .inl (e ▸ List.mem_cons_self)
    · exact (ih x v h).imp (List.mem_cons_of_mem _) fun ⟨a, w, b, c⟩ => ⟨a, w, b, List.mem_cons_of_mem _ c⟩
  | drop hr _ ih =>
    intro x v h
    rcases List.mem_cons.mp h with e | h
    · cases e; exact .inr ⟨rfl, _, hr, List.mem_cons_self⟩
    · exact (ih x v h).imp (List.mem_cons_of_mem _) fun ⟨a, w, b, c⟩ => ⟨a, w, b, List.mem_cons_of_mem _ c⟩
  | val hv _ ih =>
    intro x v h
    subst hv
    rcases List.mem_cons.mp h with e | h
    · exact .inl (e ▸ List.mem_cons_self)
    · exact (ih x v h).imp (List.mem_cons_of_mem _) fun ⟨a, w, b, c⟩ => ⟨a, w, b, List.mem_cons_of_mem _ c⟩
  | own hv _ ih =>
    intro x v h
    subst hv
    rcases List.mem_cons.mp h with e | h
    · exact .inl (e ▸ List.mem_cons_self)
    · exact (ih x v h).imp (List.mem_cons_of_mem _) fun ⟨a, w, b, c⟩ => ⟨a, w, b, List.mem_cons_of_mem _ c⟩
theorem Inv.weak {O : List (Str × Addr)} {s : Shared} (I : Inv C ρ O g s) (h : Weak ρ ρ') : Inv C ρ' O g s := by
  obtain ⟨m, hn, hl⟩ := I.loc
  refine ⟨I.rest, I.old, I.world, h.names.trans I.names, ⟨m, hn, fun x v hx => ?_⟩, I.cells, I.own, I.uniq⟩
  rcases h.mem x v hx with h | ⟨rfl, w, hw, h⟩
  · exact hl x v h
  · have q := hl x w h
    cases w with
    | undef => exact q
    | val => exact q.1
    | own => exact q.1
    | ro => cases hw
theorem St.weak {ss : List Stmt} (h : Weak ρ ρ') (k : St C ρ' g ss P) : St C ρ g ss P := fun O s I => k O s (I.weak h)

noncomputable def Turn (C : Cx) (J : Nat → Env' → C.G → Prop) (i : Nat) (P : Fl → Env' → C.G → Prop) : Fl → Env' → C.G → Prop := fun fl ρ' g' => match fl with
  | .next => ∃ ρ'', Weak ρ' ρ'' ∧ J (i + 1) ρ'' g'
  | .cont => ∃ ρ'', Weak ρ' ρ'' ∧ J (i + 1) ρ'' g'
  | .brk => P .next ρ' g'
  | .ret v => P (.ret v) ρ' g'

theorem seq_ne_fields {h : Heap} {a b : Addr} {o o' : Obj} {vs : Array Value} (hs : Obj.isSeq o) (e : h.get? a = some o) (e' : h.get? b = some o') (d : o'.data = .fields vs) : a ≠ b := by
  rintro rfl
  cases e.symm.trans e'
  obtain ⟨xs, k, d'⟩ := hs
  cases d.symm.trans d'

theorem Inv.but (hC : C.Ok) {O : List (Str × Addr)} {s s' : Shared} {b : Addr} (I : Inv C ρ O g s) (hF : C.F b) (hM : ¬ C.M b) (hL : b ≠ C.env.locals) (hc : ¬ isCellAddr C b) (hd : ∃ o vs, s.heap.get? b = some o ∧ o.data = .fields vs ∧ o.cls ≠ .type "code")
    (hr : s'.gens = s.gens ∧ s'.drawn = s.drawn ∧ s'.os = s.os) (hk : ∀ a o, a ≠ b → s.heap.get? a = some o → s'.heap.get? a = some o) : Inv C ρ O g s' := by
  obtain ⟨o', vs', e', d', dn'⟩ := hd
  have sq : ∀ a o, Obj.isSeq o → s.heap.get? a = some o → s'.heap.get? a = some o := fun a o q e => hk a o (seq_ne_fields q e e' d') e
  obtain ⟨m, hn, hl⟩ := I.loc
  have cl : ∀ x c, C.env.cells.lookup x = some c → ∀ o, s.heap.get? c = some o → s'.heap.get? c = some o := fun x c hx o e => hk c o (fun q => hc ⟨x, q ▸ hx⟩) e
  refine ⟨⟨hr.1.trans I.rest.1, hr.2.1.trans I.rest.2.1, hr.2.2.trans I.rest.2.2⟩, fun a o hf hm e => hk a o (fun q => hf (q ▸ hF)) (I.old a o hf hm e), hC.stab g _ _ I.world fun a o hm e => hk a o (hm.elim (fun hm q => hM (q ▸ hm)) fun ⟨d1, _⟩ q => by subst q; cases e.symm.trans e'; exact dn' d1) e, I.names,
    ⟨m, Ns_of hn fun o e => hk _ o (Ne.symm hL) e, fun x v hx => ?_⟩, fun x c hx => ?_, fun x a ha => ?_, I.uniq⟩
  · have q := hl x v hx
    cases v with
    | undef => exact q
    | val p => obtain ⟨q0, u, q1, q2⟩ := q; exact ⟨q0, u, q1.of (cl x), q2.mono (fun _ _ h _ _ => h) fun a o _ z e => sq a o z e⟩
    | ro p => obtain ⟨u, q1, q2⟩ := q; exact ⟨u, q1.of (cl x), q2.mono (fun _ _ h _ _ => h) fun a o _ z e => sq a o z e⟩
    | own xs =>
      obtain ⟨q0, a, vs, q1, q2, ⟨n, q3⟩, q4⟩ := q
      exact ⟨q0, a, vs, q1.of (cl x), q2, ⟨n, sq a _ ⟨_, _, rfl⟩ q3⟩, q4.mono (fun _ _ h _ _ => h) fun a o _ z e => sq a o z e⟩
  · obtain ⟨v, hv⟩ := I.cells x c hx
    exact ⟨v, IsCell_of hv (cl x c hx)⟩
  · obtain ⟨f, hm, vs, n, e⟩ := I.own x a ha
    exact ⟨f, hm, vs, n, sq a _ ⟨_, _, rfl⟩ e⟩

theorem wpAny_never {α : Type} {M : Model} {A : Around} {E : Value → Shared → Prop} {s : Shared} {t : Sem α} {Q : α → Shared → Prop} (h : wpAny M A t Q NoE s) : wpAny M A t Q E s := wpAny_noRaise h

theorem down_lt {i m : Nat} (h : i < m) : m + 1 - (i + 1) < m + 1 - i := by lia
inductive ForInv (C : Cx) (J : Nat → Env' → C.G → Prop) (O : List (Str × Addr)) (s s₂ : Shared) (S : Nat → Heap → Prop) (m n : Nat) (s' : Shared) : Prop
  | mk (i : Nat) (ρ₁ : Env') (g₂ : C.G) (O₁ : List (Str × Addr)) (hn : n = m + 1 - i) (hi : i ≤ m) (hJ : J i ρ₁ g₂) (hS : S i s'.heap) (I : Inv C ρ₁ O₁ g₂ s') (k : SKeep C O O₁ s s')
      (k2 : ∀ a o, ¬ avoid C O a → Obj.isSeq o → s₂.heap.get? a = some o → s'.heap.get? a = some o) (k3 : ∀ x a, (x, a) ∈ O₁ → (x, a) ∈ O ∨ s₂.heap.get? a = none) (kp : ∀ a o, s₂.heap.get? a = some o → ∃ o', s'.heap.get? a = some o') : ForInv C J O s s₂ S m n s'

theorem St1.for (hC : C.Ok) {t it : Expr} {body : List Stmt} {pos : Pos} {items : List PV} (h : EvIt C ρ g it items g₁) (J : Nat → Env' → C.G → Prop) (h0 : J 0 ρ g₁)
    (step : ∀ i p ρ₁ g₂, items[i]? = some p → J i ρ₁ g₂ → ∃ ρ₂, Binds t p ρ₁ ρ₂ ∧ St C ρ₂ g₂ body (Turn C J i P))
    (hend : ∀ ρ₁ g₂, J items.length ρ₁ g₂ → P .next ρ₁ g₂)
    (ht : (∃ x p, t = .Name x p) ∨ (∃ ts k p, t = .Tuple ts k p))
    (hs : ∀ x, foldedSetIterable it C.env x = pure x) : St1 C ρ g (.For t it body [] pos) P := fun O s I0 => by
  refine wpAny_For (wpAny_mono (h O s I0) (fun x s₁ h1 => wpAny_mono h1 (fun it s₂ h2 => ?_) fun _ _ x => x) fun _ _ x => x) hs
  obtain ⟨I, S, rfl, W, hst, hfr, st⟩ := h2
  have I2 := I0.step hC st
  have hIL : I ≠ C.env.locals := by
    rintro rfl
    obtain ⟨m, ⟨o, _, _, e, _⟩, _⟩ := I0.loc
    cases hfr.symm.trans e
  have hIc : ¬ isCellAddr C I := by
    rintro ⟨x, hx⟩
    obtain ⟨v, o, e, _⟩ := I0.cells x I hx
    cases hfr.symm.trans e
  have hIn := I0.new hC hfr
  refine codeAny_forLoop_any (ForInv C J O s s₂ S items.length) ?_ (items.length + 1)
    ⟨0, ρ, g₁, O, by lia, Nat.zero_le _, h0, hst, I2, st.skeep hC, fun _ _ _ _ e => e, fun _ _ h => .inl h, fun _ o e => ⟨o, e⟩⟩
  rintro n s' ⟨i, ρ₁, g₂, O₁, rfl, hi, hJ, hS, I', k, k2, k3, kp⟩
  have hIp : ∃ o vs, s'.heap.get? I = some o ∧ o.data = .fields vs ∧ o.cls ≠ .type "code" := W.fields i _ hS
  have hIO : ¬ ∃ x, (x, I) ∈ O₁ := by
    rintro ⟨x, hx⟩
    obtain ⟨_, _, vs, n, e⟩ := I'.own x I hx
    obtain ⟨o, vs', e', d, _⟩ := hIp
    exact seq_ne_fields ⟨_, _, rfl⟩ e e' d rfl
  by_cases hlt : i < items.length
  · have hp : items[i]? = some items[i] := List.getElem?_eq_getElem hlt
    refine W.item i _ s' _ _ hp hS fun v h' tk r hS' hk => ?_
    obtain ⟨ρ₂, hb, hbody⟩ := step i _ ρ₁ g₂ hp hJ
    have I'' : Inv C ρ₁ O₁ g₂ { s' with heap := h', toks := tk } := I'.but hC hIn.1 hIn.2.2.1 hIL hIc hIp ⟨rfl, rfl, rfl⟩ fun a o hne e => hk a o hne e
    have k2' : ∀ a o, ¬ avoid C O a → Obj.isSeq o → s₂.heap.get? a = some o → h'.get? a = some o := fun a o ha q e => by
      have e1 := k2 a o ha q e
      obtain ⟨o', vs', e', d', _⟩ := hIp
      exact hk a o (seq_ne_fields q e1 e' d') e1
    have r' : Rep (avoid C O₁) h' v items[i] := r.mono (fun a o ha q e => by
      rintro (x | ⟨x, hx⟩)
      · exact ha (.inl x)
      · rcases k3 x a hx with z | z
        · exact ha (.inr ⟨x, z⟩)
        · cases z.symm.trans e) k2'
    have hown : wpAny C.mod C.A (letOwnedTupleGo t (.ref I) v) (fun _ s₁' => s₁' = { s' with heap := h', toks := tk }) NoE { s' with heap := h', toks := tk } := by
      rcases ht with ⟨x, p, rfl⟩ | ⟨ts, kk, p, rfl⟩
      · exact wpAny_pure rfl
      · exact W.owned (i + 1) _ _ _ _ _ _ _ hS' rfl
    refine wpAny_never (wpAny_mono hown (fun _ s₁' e => ?_) fun _ _ x => x)
    subst e
    refine wpAny_never (bind_target hC hb I'' r' fun s₃ I3 kb _ => ?_)
    refine wpAny_never (wpAny_mono (hbody O₁ s₃ I3) (fun f s₄ pf => ?_) fun _ _ x => x)
    obtain ⟨fl, ρ₃, O₃, g₃, hP, hfl, I4, kc⟩ := pf
    have kd := kb.trans kc
    have kI : SKeep C O O₁ s { s' with heap := h', toks := tk } := ⟨fun a o h1 h2 h3 h4 e => hk a o (fun q => by rw [q, hfr] at e; cases e) (k.keep a o h1 h2 h3 h4 e), k.grow, fun a o e => by
      obtain ⟨o', e'⟩ := k.pres a o e
      exact ⟨o', hk a o' (fun q => by rw [q, hfr] at e; cases e) e'⟩⟩
    have ke : SKeep C O O₃ s s₄ := kI.trans kd
    have hIk : ∀ o, h'.get? I = some o → s₄.heap.get? I = some o := fun o e => kd.keep I o hIL hIc hIO hIn.2.2.1 e
    have k2'' : ∀ a o, ¬ avoid C O a → Obj.isSeq o → s₂.heap.get? a = some o → s₄.heap.get? a = some o := fun a o ha q e => by
      obtain ⟨m, hn, _⟩ := I''.loc
      have e1 := k2' a o ha q e
      refine kd.keep a o (seq_ne_dict q e1 hn) ?_ ?_ (avoid_not_M hC ha) e1
      · rintro ⟨x, hx⟩
        obtain ⟨v, hv⟩ := I''.cells x a hx
        exact seq_ne_cell q e1 hv rfl
      · rintro ⟨x, hx⟩
        rcases k3 x a hx with z | z
        · exact ha (.inr ⟨x, z⟩)
        · cases z.symm.trans e
    have kp' : ∀ a o, s₂.heap.get? a = some o → ∃ o', h'.get? a = some o' := fun a o e => by
      by_cases q : a = I
      · subst q
        obtain ⟨o', _, e', _⟩ := W.fields _ _ hS'
        exact ⟨o', e'⟩
      · obtain ⟨o', e'⟩ := kp a o e
        exact ⟨o', hk a o' q e'⟩
    have kp'' : ∀ a o, s₂.heap.get? a = some o → ∃ o', s₄.heap.get? a = some o' := fun a o e => by
      obtain ⟨o', e'⟩ := kp' a o e
      exact kd.pres a o' e'
    have k3'' : ∀ x a, (x, a) ∈ O₃ → (x, a) ∈ O ∨ s₂.heap.get? a = none := fun x a hx => by
      rcases kd.grow x a hx with z | z
      · exact k3 x a z
      · cases e : s₂.heap.get? a with
        | none => exact .inr rfl
        | some o =>
          obtain ⟨o', e'⟩ := kp' a o e
          have z' : h'.get? a = none := z
          cases e'.symm.trans z'
    have again : ∀ ρ₄, Weak ρ₃ ρ₄ → J (i + 1) ρ₄ g₃ → ∃ m, m < items.length + 1 - i ∧ ForInv C J O s s₂ S items.length m s₄ := fun ρ₄ hw hJ' =>
      ⟨items.length + 1 - (i + 1), down_lt hlt, i + 1, ρ₄, g₃, O₃, rfl, hlt, hJ', W.frame _ _ _ hS' hIk k2'', I4.weak hw, ke, k2'', k3'', kp''⟩
    cases hfl with
    | next => obtain ⟨ρ₄, hw, hJ'⟩ := hP; exact again ρ₄ hw hJ'
    | cont => obtain ⟨ρ₄, hw, hJ'⟩ := hP; exact again ρ₄ hw hJ'
    | brk => exact ⟨.next, ρ₃, O₃, g₃, hP, .next, I4, ke⟩
    | ret r => exact ⟨.ret _, ρ₃, O₃, g₃, hP, .ret r, I4, ke⟩
  · have hin : i = items.length := by lia
    subst hin
    refine W.done s' _ _ hS fun h' tk hk => wpAny_execs_nil ?_
    refine ⟨.next, ρ₁, O₁, g₂, hend _ _ hJ, .next, I'.but hC hIn.1 hIn.2.2.1 hIL hIc hIp ⟨rfl, rfl, rfl⟩ fun a o hne e => hk a o hne e, ?_⟩
    exact ⟨fun a o h1 h2 h3 h4 e => hk a o (fun q => by rw [q, hfr] at e; cases e) (k.keep a o h1 h2 h3 h4 e), k.grow, fun a o e => by
      obtain ⟨o', e'⟩ := k.pres a o e
      exact ⟨o', hk a o' (fun q => by rw [q, hfr] at e; cases e) e'⟩⟩
end
end Mine.Internal
end

section
namespace Mine.Internal
open PySem PySem.Calls

noncomputable def TG (T : Heap → Prop) (x : Str) (v : Value) : Prop := (x == ("__debug__" : Str)) = false ∧ ∀ h, T h → ∃ mg mb, h.Ns mainGlobals mg ∧ h.Ns builtinsNs mb ∧ (mg x = some v ∨ (mg x = none ∧ mb x = some v))
noncomputable def GlobIs (C : Cx) (x : Str) (v : Value) : Prop :=
  C.env.kindOf x = some .globalImplicit ∧ (x == ("__debug__" : Str)) = false ∧ ∀ h, C.T h → ∃ mg mb, h.Ns C.env.globals mg ∧ h.Ns C.env.builtins mb ∧ (mg x = some v ∨ (mg x = none ∧ mb x = some v))

theorem GlobIs.of {C : Cx} {x : Str} {v : Value} {T : Heap → Prop} (h : TG T x v) (hT : C.T = T) (h1 : C.env.globals = mainGlobals) (h2 : C.env.builtins = builtinsNs) (hk : C.env.kindOf x = some .globalImplicit) : GlobIs C x v :=
  ⟨hk, h.1, fun hh ht => by ((with_reducible_and_instances (refine rwG (h1 ..) ?_; refine rwG (h2 ..) ?_))); exact h.2 hh (hT ▸ ht)⟩

structure Room (d : Nat) (A : Around) : Prop where
  handled : A.handled = none
  depth : A.depth + d < recursionLimit
  units : A.units + 20 * d + 200 < cLine

noncomputable def Fn (prog : Program) (w : World) (T : Heap → Prop) (d : Nat) (f : Value) (ps : List PV) (r : PV) : Prop :=
  ∀ (A : Around) (X : Addr → Prop) (s : Shared) (us : List Value), Room d A → T s.heap → (∀ a, s.heap.get? a = none → ¬ X a) → Reps X s.heap us ps →
    wpAny (model prog w) A (call f us) (fun z s' => Rep X s'.heap z r ∧ Keeps s s') NoE s

section
variable {M : Model} {A : Around} {E : Value → Shared → Prop} {s : Shared}
theorem evalArgs_any {f : Value} {args : List (Bool × Sem Value)} {Q : Args → Shared → Prop} (hn : args.any (·.1) = false)
    (h : wpAny M A (spliced args) (fun vs s' => Q ⟨vs, []⟩ s') E s) : wpAny M A (evalArgs f true args []) Q E s := by
  match args, hn, h with
  | [], _, h =>
    unfold evalArgs
    show wpAny M A (spliced [] >>= _) Q E s
    refine wpAny_bind (wpAny_mono h (fun vs s' h' => ?_) fun _ _ x => x)
    refine wpAny_bind (wpAny_pure (wpAny_holding ?_))
    exact wpAny_bind (wpAny_pure (wpAny_bind (wpAny_pure (wpAny_pure h'))))
  | (false, x) :: rest, _, h => exact evalArgs_plain h
  | (true, x) :: rest, hn, _ => simp at hn
end

section
variable {C : Cx} {ρ ρ' ρ₁ : Env'} {g g' g₁ g₂ : C.G} {P P' : Fl → Env' → C.G → Prop}

theorem Inv.top (hC : C.Ok) {O : List (Str × Addr)} {s : Shared} (I : Inv C ρ O g s) : C.T s.heap := hC.top _ I.old
theorem Ok.room (hC : C.Ok) {d : Nat} (h : d ≤ C.d) : Room d C.A := ⟨hC.handled, by have := hC.depth; lia, by have := hC.units; lia⟩

theorem eval_glob (hC : C.Ok) {x : Str} {v : Value} {pos : Pos} (hg : GlobIs C x v) {O : List (Str × Addr)} {s : Shared} (I : Inv C ρ O g s) {Q : Value → Shared → Prop} (h : Q v s) :
    wpAny C.mod C.A (eval (.Name x pos) C.env) Q NoE s := by
  obtain ⟨hk, hd, hm⟩ := hg
  obtain ⟨mg, mb, h1, h2, h3⟩ := hm _ (I.top hC)
  refine Name_function_global hC.kind hk ?_ hd
  rcases h3 with h3 | ⟨h3, h4⟩
  · exact loadGlobal_global h1 h3 h
  · exact loadGlobal_builtin h1 h3 h2 h4 h

noncomputable def OpL (C : Cx) (f : List Value → Sem Value) (ps : List PV) (r : PV) : Prop :=
  ∀ (X : Addr → Prop) (s : Shared) (us : List Value), (∀ a, s.heap.get? a = none → ¬ X a) → Reps X s.heap us ps →
    wpAny C.mod C.A (f us) (fun z s' => Rep X s'.heap z r ∧ Keeps s s') NoE s

theorem Ev.callB (hC : C.Ok) {x : Str} {np pos : Pos} {id : String} {es : List Expr} {ps : List PV} {r : PV} (hg : GlobIs C x (.builtin id)) (h : EvL C ρ g es ps g₁) (ho : OpL C (fun us => call (.builtin id) us) ps r)
    (hn : (backTo pos (starEach es C.env)).any (·.1) = false) : Ev C ρ g (.Call (.Name x np) es [] pos) r g₁ := fun O s I => by
  refine wpAny_Call_NameR (eval_glob hC hg I (callWith_builtin hn (evalArgs_any hn (wpAny_mono (h O s pos I) (fun us s₁ ⟨r1, st⟩ => ?_) fun _ _ x => x))))
  have I1 := I.step hC st
  exact wpAny_mono (ho (avoid C O) s₁ us (fun x e => (I1.new hC e).2.2.2) r1) (fun z s₂ ⟨r2, k⟩ => ⟨r2, st.trans (.of_keeps hC I1.world k)⟩) fun _ _ x => x
theorem Ev.callF (hC : C.Ok) {x : Str} {np pos : Pos} {a : Addr} {es : List Expr} {ps : List PV} {r : PV} {d : Nat} (hg : GlobIs C x (.ref a)) (hf : ∃ o fd, o.data = .func fd ∧ ∀ h, C.T h → h.get? a = some o) (h : EvL C ρ g es ps g₁)
    (ho : Fn C.prog C.w C.T d (.ref a) ps r) (hd : d ≤ C.d) (hn : (backTo pos (starEach es C.env)).any (·.1) = false) : Ev C ρ g (.Call (.Name x np) es [] pos) r g₁ := fun O s I => by
  obtain ⟨o, fd, e1, e2⟩ := hf
  refine wpAny_Call_NameR (eval_glob hC hg I (callWith_function (o := o) (fd := fd) (evalArgs_any hn (wpAny_mono (h O s pos I) (fun us s₁ ⟨r1, st⟩ => ?_) fun _ _ x => x))))
  have I1 := I.step hC st
  exact ⟨⟨e2 _ (I1.top hC), e1⟩, wpAny_mono (ho C.A (avoid C O) s₁ us (Ok.room hC hd) (I1.top hC) (fun x e => (I1.new hC e).2.2.2) r1) (fun z s₂ ⟨r2, k⟩ => ⟨r2, st.trans (.of_keeps hC I1.world k)⟩) fun _ _ x => x⟩
end

theorem bindL_out {kindOf : Str → Option NameKind} (binds : List (Str × Value)) : ∀ (m : Str → Option Value) (x : Str), x ∉ binds.map (·.1) → bindL kindOf binds m x = m x := by
  induction binds with
  | nil => intro m x h; rfl
  | cons b r ih =>
    intro m x h
    refine (ih _ x fun q => h (List.mem_cons_of_mem _ q)).trans ?_
    have this : x ≠ b.1 := fun e => h (e ▸ List.mem_cons_self)
    by_cases k : kindOf b.1 = some .local
    · exact (congrFun (if_pos k) x).trans (if_neg this)
    · exact (congrFun (if_neg k) x)
theorem bindL_mem {kindOf : Str → Option NameKind} (binds : List (Str × Value)) : ∀ (m : Str → Option Value) (x : Str) (u : Value), (binds.map (·.1)).Nodup → (x, u) ∈ binds → kindOf x = some .local → bindL kindOf binds m x = some u := by
  induction binds with
  | nil => intro m x u nd h; exact absurd h List.not_mem_nil
  | cons b r ih =>
    intro m x u nd h hk
    have nd' := List.nodup_cons.mp nd
    rcases List.mem_cons.mp h with e | h
    · subst e
      exact (bindL_out r _ x nd'.1).trans ((congrFun (if_pos hk) x).trans (if_pos rfl))
    · exact ih _ x u nd'.2 h hk
theorem bindC_out {kindOf : Str → Option NameKind} (binds : List (Str × Value)) : ∀ (m : Str → Option Value) (x : Str), x ∉ binds.map (·.1) → bindC kindOf binds m x = m x := by
  induction binds with
  | nil => intro m x h; rfl
  | cons b r ih =>
    intro m x h
    refine (ih _ x fun q => h (List.mem_cons_of_mem _ q)).trans ?_
    have this : x ≠ b.1 := fun e => h (e ▸ List.mem_cons_self)
    by_cases k : kindOf b.1 = some .local
    · exact (congrFun (if_pos k) x)
    · exact (congrFun (if_neg k) x).trans (if_neg this)
theorem bindC_mem {kindOf : Str → Option NameKind} (binds : List (Str × Value)) : ∀ (m : Str → Option Value) (x : Str) (u : Value), (binds.map (·.1)).Nodup → (x, u) ∈ binds → kindOf x ≠ some .local → bindC kindOf binds m x = some u := by
  induction binds with
  | nil => intro m x u nd h; exact absurd h List.not_mem_nil
  | cons b r ih =>
    intro m x u nd h hk
    have nd' := List.nodup_cons.mp nd
    rcases List.mem_cons.mp h with e | h
    · subst e
      exact (bindC_out r _ x nd'.1).trans ((congrFun (if_neg hk) x).trans (if_pos rfl))
    · exact ih _ x u nd'.2 h hk

theorem none_of_le {h : Heap} {a : Addr} (e : h.objs.size ≤ a) : h.get? a = none := by
  cases q : h.get? a with
  | none => rfl
  | some o => exact absurd (Heap.lt_size q) (Nat.not_lt.mpr e)

theorem zip_vals {X : Addr → Prop} {h : Heap} : ∀ {pn : List Str} {ps : List PV} {us : List Value} {x : Str} {v : LV}, Reps X h us ps → (x, v) ∈ pn.zip (ps.map LV.val) → ∃ p u, v = .val p ∧ (x, u) ∈ pn.zip us ∧ Rep X h u p
  | [], _, _, _, _, _, m => by simp at m
  | _ :: _, _, _, _, _, .nil, m => by simp at m
  | n :: pn, _, _, x, v, .cons (v := u) (p := p) r rs, m => by
    rw [List.map_cons, List.zip_cons_cons] at m
    rcases List.mem_cons.mp m with e | m
    · cases e; exact ⟨p, u, rfl, List.mem_cons_self, r⟩
    · obtain ⟨p', u', e1, e2, e3⟩ := zip_vals rs m
      exact ⟨p', u', e1, List.mem_cons_of_mem _ e2, e3⟩

noncomputable def startEnv (pn rest : List Str) (ps : List PV) : Env' := pn.zip (ps.map LV.val) ++ rest.map (·, .undef)
theorem zip_fst : ∀ {pn : List Str} {α : Type} {us : List α}, us.length = pn.length → (pn.zip us).map (·.1) = pn
  | [], _, _, _ => rfl
  | _ :: _, _, [], h => by cases h
  | n :: pn, _, u :: us, h => by ((with_reducible_and_instances (refine rwG (List.zip_cons_cons ..) ?_; refine rwG (List.map_cons ..) ?_; refine rwG ((zip_fst (by simpa using h)) ..) ?_)); (with_reducible rfl))

structure FrameOf (C : Cx) (prog : Program) (w : World) (T : Heap → Prop) (d : Nat) (fd : FuncData) : Prop where
  ok : C.Ok
  prog : C.prog = prog
  w : C.w = w
  T : C.T = T
  d : C.d = d
  scope : C.env.scope = fd.scope
  globals : C.env.globals = fd.globals
  builtins : C.env.builtins = fd.builtins
  code : C.env.code = fd.code
  z : ∀ x, ¬ C.Z x

end Mine.Internal
end

section
namespace Mine.Internal
open PySem PySem.Calls

theorem owned_of {prog : Program} {w : World} {A : Around} {E : Value → Shared → Prop} {s : Shared} {elts : List Expr} {k : Nat} {pos : Pos} {I : Addr} {T : Value} {Q : Unit → Shared → Prop} {o : Obj} {n : String} {vs : Array Value}
    (ho : s.heap.get? I = some o) (hc : o.cls = .type n) (hd : o.data = .fields vs)
    (hn : ["enumerate", "zip", "dict_itemiterator", "dict_reverseitemiterator", "odict_iterator", "itertools.zip_longest", "itertools.pairwise"].contains n = false) (hQ : Q () s) :
    wpAny (model prog w) A (letOwnedTupleGo (.Tuple elts k pos) (.ref I) T) Q E s := by
  unfold letOwnedTupleGo
  cases T with
  | ref a =>
    refine wpAny_bind (wpAny_load ho ?_)
    ((with_reducible_and_instances (refine rwG (hc ..) ?_; refine rwG (hd ..) ?_)))
    show wpAny _ A (if (["enumerate", "zip", "dict_itemiterator", "dict_reverseitemiterator", "odict_iterator", "itertools.zip_longest", "itertools.pairwise"].contains n && vs[0]? == some (rawInt a)) = true then _ else _) Q E s
    ((with_reducible_and_instances (refine rwG ((if_neg (by rw [hn, Bool.false_and]; exact Bool.false_ne_true)) ..) ?_)))
    exact wpAny_pure hQ
  | _ => exact wpAny_pure hQ

section
variable {C : Cx} {ρ ρ' ρ₁ : Env'} {g g' g₁ g₂ : C.G} {P P' : Fl → Env' → C.G → Prop}

theorem Step.fresh (hC : C.Ok) {s s' : Shared} (st : Step C g' s s') {a : Addr} (e : s'.heap.get? a = none) : s.heap.get? a = none := by
  cases q : s.heap.get? a with
  | none => rfl
  | some o => obtain ⟨o', e'⟩ := (st.skeep (O := []) hC).pres a o q; cases e.symm.trans e'

theorem EvIt.list (hC : C.Ok) {e : Expr} {items : List PV} (h : Ev C ρ g e (.list items) g₁) : EvIt C ρ g e items g₁ := fun O s I => by
  refine wpAny_mono (h O s I) (fun u s₁ ⟨r, st⟩ => ?_) fun _ _ x => x
  · refine Rep.listE r fun a vs hx hl hr => ?_
    have I1 := I.step hC st
    have hne : a ≠ s₁.heap.objs.size := by obtain ⟨n, e⟩ := hl; exact Nat.ne_of_lt (Heap.lt_size e)
    have hlen : vs.size = items.length := by (with_reducible_and_instances (refine rwL (hr.length ..) ?_)); simp
    refine wpAny_pyIter_list hl.isList ⟨_, fun i h => h.IsListIter s₁.heap.objs.size a i ∧ h.IsList a vs, rfl, ?_, ⟨⟨_, Heap.get?_push_size _ rfl, rfl, rfl⟩, hl.isList.push _⟩, st.fresh hC (get_size_none _), st.trans (.of_keeps hC I1.world keeps_push)⟩
    refine ⟨fun i h q => ?_, fun i h h' q k1 k2 => ?_, fun i p s' Q E hp q hQ => ?_, fun s' Q E q hQ => ?_, fun i s' Q E q hQ => ?_, fun i s' elts k pos T Q E q hQ => ?_⟩
    · obtain ⟨o, e, c, d⟩ := q.1
      exact ⟨o, _, e, d, by (with_reducible_and_instances (refine rwG (c ..) ?_)); decide⟩
    · refine ⟨q.1.at k1, ?_⟩
      obtain ⟨n, e⟩ := hl
      exact ⟨_, k2 a _ hx ⟨_, _, rfl⟩ (Heap.get?_push_of_some _ e), rfl, n, rfl⟩
    · obtain ⟨v, hv, rv⟩ := hr.get hp
      refine wpAny_pyNext_list_item q.1 q.2 (x := v) (by simpa using hv) fun h' hit' hs' => ?_
      exact hQ v h' s'.toks (rv.keepAll fun _ _ e => Heap.get?_push_of_some _ e) ⟨hit', q.2.extBut hs'.extBut hne⟩ fun b o hb e => hs'.extBut b o hb e
    · exact wpAny_pyNext_list_end hC.handled q.1 q.2 (by simp [hlen]) fun h' he' => hQ h' s'.toks fun b o hb e => he' b o hb e
    · exact wpAny_pyIter_listiter q.1 hQ
    · obtain ⟨o, e, c, d⟩ := q.1
      exact owned_of e c d (by decide) hQ

theorem EvIt.str (hC : C.Ok) {e : Expr} {x : List Nat} (h : Ev C ρ g e (.str x) g₁) : EvIt C ρ g e (x.map fun c => .str [c]) g₁ := fun O s I => by
  refine wpAny_mono (h O s I) (fun u s₁ ⟨r, st⟩ => ?_) fun _ _ x => x
  · refine Rep.strE r fun t => ?_
    have I1 := I.step hC st
    have W : Walks C.prog C.w C.A s₁.heap.objs.size [s₁.heap.objs.size] [s₁.heap.objs.size] x.length (SignAt ⟨x.toArray⟩) (fun i h => h.IsStrIter s₁.heap.objs.size (strIterType ⟨x.toArray⟩) ⟨x.toArray⟩ t i) := by
      have hl : x.length = (⟨x.toArray⟩ : Str).cps.size := by simp
      (with_reducible_and_instances (refine rwG (hl ..) ?_))
      unfold strIterType
      split
      · exact Walks.strAscii hC.handled _ _ _
      · exact Walks.strWide hC.handled _ _ _
    refine wpAny_pyIter_strU ⟨_, fun i h => h.IsStrIter s₁.heap.objs.size (strIterType ⟨x.toArray⟩) ⟨x.toArray⟩ t i, rfl, ?_, ⟨_, Heap.get?_push_size _ rfl, rfl, rfl⟩, st.fresh hC (get_size_none _), st.trans (.of_keeps hC I1.world keeps_push)⟩
    refine ⟨fun i h q => ?_, fun i h h' q k1 k2 => ?_, fun i p s' Q E hp q hQ => ?_, fun s' Q E q hQ => ?_, fun i s' Q E q hQ => ?_, fun i s' elts k pos T Q E q hQ => ?_⟩
    · obtain ⟨o, e, c, d⟩ := q
      exact ⟨o, _, e, d, by (with_reducible_and_instances (refine rwG (c ..) ?_)); unfold strIterType; split <;> decide⟩
    · obtain ⟨o, e, r⟩ := q
      exact ⟨o, k1 o e, r⟩
    · have hlt : i < x.length := by
        obtain ⟨hh, _⟩ := List.getElem?_eq_some_iff.mp hp
        simpa using hh
      refine W.item i s' Q E hlt q fun v h' tk hv hS hk => ?_
      obtain ⟨c, u, hc, rfl⟩ := hv
      have : p = .str [c] := by
        rw [List.getElem?_map] at hp
        have hc' : x[i]? = some c := by simpa using hc
        rw [hc'] at hp
        simpa using hp.symm
      subst this
      exact hQ _ h' tk (.str [c] u) hS fun b o hb e => hk b o (by simpa using hb) e
    · rw [List.length_map] at q
      exact W.done s' Q E q fun h' tk hk => hQ h' tk fun b o hb e => hk b o (by simpa using hb) e
    · exact W.self i s' Q E q hQ
    · obtain ⟨o, e, c, d⟩ := q
      refine owned_of e c d ?_ hQ
      unfold strIterType
      split <;> decide

noncomputable def rangeItems (a c : Int) (n : Nat) : List PV := (List.range n).map fun (i : Nat) => PV.int (a + (i : Int) * c)
theorem rangeItems_get {a c : Int} {n i : Nat} {p : PV} (h : (rangeItems a c n)[i]? = some p) : i < n ∧ p = .int (a + (i : Int) * c) := by
  have hlt : i < n := by
    obtain ⟨hh, _⟩ := List.getElem?_eq_some_iff.mp h
    simpa [rangeItems] using hh
  refine ⟨hlt, ?_⟩
  rw [rangeItems, List.getElem?_map, List.getElem?_range hlt] at h
  simpa using h.symm
theorem rangeItems_length {a c : Int} {n : Nat} : (rangeItems a c n).length = n := by simp [rangeItems]

theorem Iter.range (hC : C.Ok) {O : List (Str × Addr)} {hb : Heap} {I : Addr} {a c : Int} {n : Nat} :
    Iter C O hb I (rangeItems a c n) (fun i h => IsRangeIter h I (a + (i : Nat) * c) ((n : Int) - (i : Nat)) c) := by
  have W : Walks C.prog C.w C.A I [I] [I] n (fun i v => ∃ t, v = .int (a + i * c) t) (fun i h => IsRangeIter h I (a + (i : Nat) * c) ((n : Int) - (i : Nat)) c) := Walks.range hC.handled I a c n
  refine ⟨fun i h q => ⟨_, _, q, rfl, by intro z; simp at z⟩, fun i h h' q k1 k2 => k1 _ q, fun i p s' Q E hp q hQ => ?_, fun s' Q E q hQ => ?_, fun i s' Q E q hQ => ?_, fun i s' elts k pos T Q E q hQ => ?_⟩
  · obtain ⟨hlt, rfl⟩ := rangeItems_get hp
    refine W.item i s' Q E hlt q fun v h' tk hv hS hk => ?_
    obtain ⟨t, rfl⟩ := hv
    exact hQ _ h' tk (.int _ _) hS fun b o hb e => hk b o (by simpa using hb) e
  · rw [rangeItems_length] at q
    exact W.done s' Q E q fun h' tk hk => hQ h' tk fun b o hb e => hk b o (by simpa using hb) e
  · exact W.self i s' Q E q hQ
  · exact owned_of q rfl rfl (by decide) hQ

theorem it_range (hC : C.Ok) {O : List (Str × Addr)} {s s₁ : Shared} (I1 : Inv C ρ O g₁ s₁) (st : Step C g₁ s s₁) {r : Addr} {a b c : Int} {t u v : Tok} {n : Nat} (hr : IsRange s₁.heap r a b c t u v) (hsmall : Builtin.Range.small a b c = true)
    (hn : Builtin.Range.rangeSize a b c = n) : wpAny C.mod C.A (pyIter (.ref r)) (fun it s' => ∃ I S, it = .ref I ∧ Iter C O s'.heap I (rangeItems a c n) S ∧ S 0 s'.heap ∧ s.heap.get? I = none ∧ Step C g₁ s s') NoE s₁ := by
  refine wpAny_pyIter_range hr hsmall ⟨s₁.heap.objs.size, fun i h => IsRangeIter h s₁.heap.objs.size (a + (i : Nat) * c) ((n : Int) - (i : Nat)) c, rfl, Iter.range hC, ?_, st.fresh hC (get_size_none _), st.trans (.of_keeps hC I1.world keeps_push)⟩
  have e1 : (a + ((0 : Nat) : Int) * c) = a := by simp
  have e2 : ((n : Int) - ((0 : Nat) : Int)) = Builtin.Range.rangeSize a b c := by (with_reducible_and_instances (refine rwG (hn ..) ?_)); simp
  show IsRangeIter _ _ (a + ((0 : Nat) : Int) * c) ((n : Int) - ((0 : Nat) : Int)) c
  ((with_reducible_and_instances (refine rwG (e1 ..) ?_; refine rwG (e2 ..) ?_)))
  exact Heap.get?_push_size _ rfl

theorem EvIt.range2 (hC : C.Ok) {x : Str} {np pos : Pos} {e₁ e₂ : Expr} {a b : Int} (hg : GlobIs C x (.type "range")) (h : EvL C ρ g [e₁, e₂] [.int a, .int b] g₁) (h1 : -(2 ^ 62) ≤ a) (h2 : a < 2 ^ 62) (h3 : -(2 ^ 62) ≤ b) (h4 : b < 2 ^ 62)
    (hn : (backTo pos (starEach [e₁, e₂] C.env)).any (·.1) = false) : EvIt C ρ g (.Call (.Name x np) [e₁, e₂] [] pos) (rangeItems a 1 (b - a).toNat) g₁ := fun O s I => by
  refine wpAny_Call_NameR (eval_glob hC hg I (PyProof.Rows.callWith_type hn (evalArgs_any hn (wpAny_mono (h O s pos I) (fun us s₁ ⟨r1, st⟩ => ?_) fun _ _ x => x))))
  have I1 := I.step hC st
  obtain ⟨t, u, rfl⟩ := r1.ints2
  refine call_range_2 ?_
  have st2 := Step.of_keeps hC I1.world (s' := { s₁ with heap := s₁.heap.push { cls := .type "range", data := .fields #[.int a t, .int b u, .int 1 s₁.toks] }, toks := s₁.toks + 1 }) ⟨_, _, rfl, fun _ _ e => Heap.get?_push_of_some _ e⟩
  exact it_range hC (I1.step hC st2) (st.trans st2) (IsRange.new ..) (small_one h1 h2 h3 h4) (by rw [rangeSize_one]; split <;> lia)

theorem EvIt.range1 (hC : C.Ok) {x : Str} {np pos : Pos} {e₁ : Expr} {b : Int} (hg : GlobIs C x (.type "range")) (h : EvL C ρ g [e₁] [.int b] g₁) (h3 : -(2 ^ 62) ≤ b) (h4 : b < 2 ^ 62)
    (hn : (backTo pos (starEach [e₁] C.env)).any (·.1) = false) : EvIt C ρ g (.Call (.Name x np) [e₁] [] pos) (rangeItems 0 1 b.toNat) g₁ := fun O s I => by
  refine wpAny_Call_NameR (eval_glob hC hg I (PyProof.Rows.callWith_type hn (evalArgs_any hn (wpAny_mono (h O s pos I) (fun us s₁ ⟨r1, st⟩ => ?_) fun _ _ x => x))))
  have I1 := I.step hC st
  obtain ⟨t, rfl⟩ := r1.ints1
  refine call_range_1 ?_
  have st2 := Step.of_keeps hC I1.world (s' := { s₁ with heap := s₁.heap.push { cls := .type "range", data := .fields #[.int 0 s₁.toks, .int b t, .int 1 (s₁.toks + 1)] }, toks := s₁.toks + 1 + 1 }) ⟨_, _, rfl, fun _ _ e => Heap.get?_push_of_some _ e⟩
  exact it_range hC (I1.step hC st2) (st.trans st2) (IsRange.new ..) (small_one (by decide) (by decide) h3 h4) (by rw [rangeSize_one]; split <;> lia)

theorem rangeSize_down (a b : Int) : Builtin.Range.rangeSize a b (-1) = (a - b).toNat := by
  unfold Builtin.Range.rangeSize
  (with_reducible_and_instances (refine rwG ((if_neg (by decide)) ..) ?_))
  have e : (a - b - 1) / (- -1) = a - b - 1 := by ((with_reducible_and_instances (refine rwG ((show (- -1 : Int) = 1 from rfl) ..) ?_)); rewrite [Int.ediv_one]; (with_reducible rfl))
  (with_reducible_and_instances (refine rwG (e ..) ?_))
  split <;> lia
theorem small_down {a b : Int} (ha : -(2 ^ 62) ≤ a) (ha' : a < 2 ^ 62) (hb : -(2 ^ 62) ≤ b) (hb' : b < 2 ^ 62) : Builtin.Range.small a b (-1) = true := by
  have hs := rangeSize_down a b
  unfold Builtin.Range.small
  simp only [Builtin.Range.rangeFitsLong, hs]
  (with_reducible_and_instances (refine rwG ((if_neg (by decide)) ..) ?_))
  simp only [Bool.and_eq_true, Bool.or_eq_true, decide_eq_true_eq]
  refine ⟨⟨⟨⟨⟨?_, ?_⟩, ?_, ?_⟩, ?_, ?_⟩, ?_, ?_⟩, .inr ⟨?_, ?_⟩⟩ <;> lia

theorem EvIt.range3 (hC : C.Ok) {x : Str} {np pos : Pos} {e₁ e₂ e₃ : Expr} {a b : Int} (hg : GlobIs C x (.type "range")) (h : EvL C ρ g [e₁, e₂, e₃] [.int a, .int b, .int (-1)] g₁) (h1 : -(2 ^ 62) ≤ a) (h2 : a < 2 ^ 62) (h3 : -(2 ^ 62) ≤ b) (h4 : b < 2 ^ 62)
    (hn : (backTo pos (starEach [e₁, e₂, e₃] C.env)).any (·.1) = false) : EvIt C ρ g (.Call (.Name x np) [e₁, e₂, e₃] [] pos) (rangeItems a (-1) (a - b).toNat) g₁ := fun O s I => by
  refine wpAny_Call_NameR (eval_glob hC hg I (PyProof.Rows.callWith_type hn (evalArgs_any hn (wpAny_mono (h O s pos I) (fun us s₁ ⟨r1, st⟩ => ?_) fun _ _ x => x))))
  have I1 := I.step hC st
  obtain ⟨t, u, v, rfl⟩ : ∃ t u v, us = [.int a t, .int b u, .int (-1) v] := Reps.consE r1 fun u vs h1 h2 => Rep.intE h1 fun t => let ⟨t2, t3, e⟩ := h2.ints2; ⟨t, t2, t3, e ▸ rfl⟩
  refine PySem.call_range_3 (by decide) ?_ (.inl (PyProof.noPylong_small (by lia)))
  have st2 := Step.of_keeps hC I1.world (s' := { s₁ with heap := s₁.heap.push { cls := .type "range", data := .fields #[.int a t, .int b u, .int (-1) v] }, toks := s₁.toks }) ⟨_, _, rfl, fun _ _ e => Heap.get?_push_of_some _ e⟩
  exact it_range hC (I1.step hC st2) (st.trans st2) (IsRange.new ..) (small_down h1 h2 h3 h4) (rangeSize_down a b)
end
end Mine.Internal
end

section
namespace Mine.Internal
open PySem PySem.Calls PyProof.Rows

theorem seqIndex_of {i : Int} {n : Nat} (h0 : 0 ≤ i) (h : i.toNat < n) : seqIndex? i n = some i.toNat := by
  unfold seqIndex?
  have h1 : ¬ i < 0 := by lia
  simp only [h1, if_false]
  ((with_reducible_and_instances (refine rwG ((if_pos (by simp only [Bool.and_eq_true, decide_eq_true_eq]; lia)) ..) ?_)); (with_reducible rfl))

noncomputable def clipTo (v : Option Int) (dflt : Int) (n : Nat) : Int := match v with
  | none => dflt
  | some i => let i := if i < 0 then i + n else i; max 0 (min i n)
noncomputable def pySlice {α : Type} (xs : List α) (lo hi : Option Int) : List α := (xs.drop (clipTo lo 0 xs.length).toNat).take (clipTo hi xs.length xs.length - clipTo lo 0 xs.length).toNat

theorem min_cast (k n : Nat) : min (k : Int) n = ((min k n : Nat) : Int) := by
  rcases Nat.le_total k n with h | h
  · ((with_reducible_and_instances (refine rwG ((Nat.min_eq_left h) ..) ?_; refine rwG ((Int.min_eq_left (Int.ofNat_le.mpr h)) ..) ?_)); (with_reducible rfl))
  · ((with_reducible_and_instances (refine rwG ((Nat.min_eq_right h) ..) ?_; refine rwG ((Int.min_eq_right (Int.ofNat_le.mpr h)) ..) ?_)); (with_reducible rfl))
theorem clip_nat (k n : Nat) (d : Int) : clipTo (some (k : Int)) d n = ((min k n : Nat) : Int) := by
  unfold clipTo
  simp only
  ((with_reducible_and_instances (refine rwG ((if_neg (Int.not_lt.mpr (Int.natCast_nonneg k))) ..) ?_)); rewrite [min_cast]; (with_reducible_and_instances (refine rwG ((Int.max_eq_right (Int.natCast_nonneg _)) ..) ?_)); (with_reducible rfl))
theorem clip_neg (n : Nat) (d : Int) : clipTo (some (-1)) d n = ((n - 1 : Nat) : Int) := by
  unfold clipTo
  simp only
  (with_reducible_and_instances (refine rwG ((if_pos (by decide)) ..) ?_))
  cases n with
  | zero => rfl
  | succ m =>
    ((with_reducible_and_instances (refine rwG ((show (-1 : Int) + ((m + 1 : Nat) : Int) = (m : Int) by rw [Int.natCast_succ, Int.add_comm, Int.add_neg_cancel_right]) ..) ?_)); rewrite [min_cast]; (with_reducible_and_instances (refine rwG ((Int.max_eq_right (Int.natCast_nonneg _)) ..) ?_; refine rwG ((Nat.min_eq_left (Nat.le_succ m)) ..) ?_)))
    rfl
theorem clipTo_is (v : Option Int) (d n : Nat) (h : d ≤ n) : ∃ k : Nat, k ≤ n ∧ clipTo v (d : Int) n = (k : Int) := by
  cases v with
  | none => exact ⟨d, h, rfl⟩
  | some i =>
    refine ⟨(max 0 (min (if i < 0 then i + n else i) n)).toNat, ?_, (Int.toNat_of_nonneg (Int.le_max_left _ _)).symm⟩
    exact Int.toNat_le.mpr (Int.max_le.mpr ⟨Int.natCast_nonneg n, Int.min_le_right _ _⟩)
theorem clipTo_is0 (v : Option Int) (n : Nat) : ∃ k : Nat, k ≤ n ∧ clipTo v 0 n = (k : Int) := clipTo_is v 0 n (Nat.zero_le _)
theorem clipTo_bounds (v : Option Int) (n : Nat) : 0 ≤ clipTo v 0 n ∧ clipTo v n n ≤ n := by
  obtain ⟨k, hk, e⟩ := clipTo_is0 v n
  obtain ⟨k2, hk2, e2⟩ := clipTo_is v n n (Nat.le_refl _)
  ((with_reducible_and_instances (refine rwG (e ..) ?_; refine rwG (e2 ..) ?_))); exact ⟨Int.natCast_nonneg k, Int.ofNat_le.mpr hk2⟩
theorem pySlice_nat {α : Type} {x : List α} {lo hi : Option Int} {a b : Nat} (h1 : clipTo lo 0 x.length = (a : Int)) (h2 : clipTo hi x.length x.length = (b : Int)) : pySlice x lo hi = (x.drop a).take (b - a) := by
  unfold pySlice; ((with_reducible_and_instances (refine rwG (h1 ..) ?_; refine rwG (h2 ..) ?_)); rewrite [Int.toNat_natCast]; rewrite [Int.toNat_sub]; (with_reducible rfl))

theorem range_pick {α : Type} (xs : List α) (a : Nat) : ∀ k : Nat, a + k ≤ xs.length → ((List.range k).map fun (j : Nat) => a + j).filterMap (xs[·]?) = (xs.drop a).take k
  | 0, _ => by simp
  | k + 1, h => by
    ((with_reducible_and_instances (refine rwG (List.range_succ ..) ?_; refine rwG (List.map_append ..) ?_; refine rwG (List.filterMap_append ..) ?_; refine rwG ((range_pick xs a k (by lia)) ..) ?_; refine rwG (List.take_add_one ..) ?_)))
    congr 1
    have hlt : a + k < xs.length := by lia
    simp [hlt]
theorem slice_pick {α : Type} (xs : List α) (a b : Int) (h0 : 0 ≤ a) (h1 : b ≤ xs.length) : (sliceRange a b 1).filterMap (xs[·]?) = (xs.drop a.toNat).take (b - a).toNat := by
  unfold sliceRange
  by_cases hab : a < b
  · have e : ((List.range (b - a).toNat).map fun (k : Nat) => (a + 1 * (k : Int)).toNat) = (List.range (b - a).toNat).map fun (j : Nat) => a.toNat + j := by
      apply List.map_congr_left
      intro k _
      lia
    simp only [show ((1 : Int) > 0) from by decide, if_true, hab, Int.add_sub_cancel, Int.ediv_one]
    (with_reducible_and_instances (refine rwG (e ..) ?_))
    exact range_pick xs a.toNat (b - a).toNat (by lia)
  · simp only [show ((1 : Int) > 0) from by decide, if_true, hab, if_false]
    have : (b - a).toNat = 0 := by lia
    (with_reducible_and_instances (refine rwG (this ..) ?_))
    simp

section
variable {C : Cx} {ρ ρ' ρ₁ : Env'} {g g' g₁ g₂ : C.G} {P P' : Fl → Env' → C.G → Prop}

theorem Ev.neg (hC : C.Ok) {e : Expr} {pos : Pos} {a : Int} (h : Ev C ρ g e (.int a) g₁) : Ev C ρ g (.UnaryOp .USub e pos) (.int (-a)) g₁ := fun O s I =>
  wpAny_UnaryOp (wpAny_mono (h O s I) (fun u s₁ ⟨r, st⟩ => by
    refine Rep.intE r fun t => ?_
    exact PyProof.Rows.neg_int ⟨.int _ _, st.trans (.of_keeps hC st.world keeps_tok)⟩) fun _ _ x => x)

noncomputable def ItemOp (C : Cx) (p q r : PV) : Prop :=
  ∀ (X : Addr → Prop) (s : Shared) (value slice : Expr) (u v : Value) , (∀ o i, subscripted slice false o i = operate [o, i] (getItem o i)) → Rep X s.heap u p → Rep X s.heap v q →
    wpAny C.mod C.A (subscriptTail value slice u v) (fun z s' => Rep X s'.heap z r ∧ Keeps s s') NoE s
theorem Ev.sub (hC : C.Ok) {a b : Expr} {pos : Pos} {p q r : PV} (h1 : Ev C ρ g a p g₁) (h2 : Ev C ρ g₁ b q g₂) (ho : ItemOp C p q r)
    (hs : ∀ o i, subscripted b false o i = operate [o, i] (getItem o i)) : Ev C ρ g (.Subscript a b pos) r g₂ := fun O s I =>
  Subscript_ (wpAny_mono (h1 O s I) (fun u s₁ ⟨r1, st1⟩ =>
    have I1 := I.step hC st1
    wpAny_mono (h2 O s₁ I1) (fun v s₂ ⟨r2, st2⟩ =>
      have I2 := I1.step hC st2
      wpAny_mono (ho (avoid C O) s₂ a b u v hs (r1.step hC st2) r2) (fun z s₃ ⟨r3, k⟩ => ⟨r3, (st1.trans st2).trans (.of_keeps hC I2.world k)⟩) fun _ _ x => x) fun _ _ x => x) fun _ _ x => x)

theorem item_list {xs : List PV} {i : Int} {r : PV} (h0 : 0 ≤ i) (h1 : i < 2 ^ 63) (hx : xs[i.toNat]? = some r) : ItemOp C (.list xs) (.int i) r := fun X s value slice u v hs r1 r2 => by
  refine Rep.intE r2 fun t => ?_
  · refine Rep.listE r1 fun a vs ha hl hr => ?_
    obtain ⟨z, hz, rz⟩ := hr.get hx
    exact tail_any hl.isList.typeIs slot_list_getitem.lookup (wpAny_getItem_list hl.isList h0 h1 (by simpa using hz) ⟨rz, keeps_refl⟩) (hs _ _)
theorem item_list_last {xs : List PV} {r : PV} (hl' : xs.length < 2 ^ 62) (hx : xs.getLast? = some r) : ItemOp C (.list xs) (.int (-1)) r := fun X s value slice u v hs r1 r2 => by
  refine Rep.intE r2 fun t => ?_
  · refine Rep.listE r1 fun a vs ha hl hr => ?_
    have hne : 0 < xs.length := by cases xs with | nil => simp at hx | cons => simp
    have hx' : xs[xs.length - 1]? = some r := by (with_reducible_and_instances (refine rwL ((List.getLast?_eq_getElem?) ..) ?_)); exact hx
    obtain ⟨z, hz, rz⟩ := hr.get hx'
    have hlen := hr.length
    simp only [Array.length_toList] at hlen
    refine tail_any hl.isList.typeIs slot_list_getitem.lookup (wpAny_getItem_list_neg hl.isList (by decide) (by lia) (by decide) (x := z) ?_ ⟨rz, keeps_refl⟩) (hs _ _)
    have : (-1 + (↑vs.size : Int)).toNat = xs.length - 1 := by lia
    (with_reducible_and_instances (refine rwG (this ..) ?_))
    simpa using hz
theorem item_tup {xs : List PV} {i : Int} {r : PV} (h0 : 0 ≤ i) (h1 : i < 2 ^ 62) (hx : xs[i.toNat]? = some r) : ItemOp C (.tup xs) (.int i) r := fun X s value slice u v hs r1 r2 => by
  refine Rep.intE r2 fun t => ?_
  · refine Rep.tupE r1 fun a vs ha hl hr => ?_
    obtain ⟨z, hz, rz⟩ := hr.get hx
    have hz' : vs[i.toNat]? = some z := by simpa using hz
    have hlt : i.toNat < vs.size := (Array.getElem?_eq_some_iff.mp hz').1
    have hj : seqIndex? i vs.size = some i.toNat := seqIndex_of h0 hlt
    obtain ⟨n, e⟩ := hl
    have ht : IsTup s.heap a vs := ⟨_, e, rfl, n, rfl⟩
    have hT : s.TypeIs (.ref a) "tuple" := ⟨_, e, rfl⟩
    exact tail_any hT PySem.F.slot_tuple_getitem.lookup (PyProof.Rows.getItem_tuple ht (by lia) (by lia) hj hz' ⟨rz, keeps_refl⟩) (hs _ _)
theorem item_str {x : List Nat} {i : Int} {c : Nat} (h0 : 0 ≤ i) (h1 : i < 2 ^ 62) (hx : x[i.toNat]? = some c) : ItemOp C (.str x) (.int i) (.str [c]) := fun X s value slice u v hs r1 r2 => by
  refine Rep.intE r2 fun t2 => ?_
  · refine Rep.strE r1 fun t => ?_
    have hlt : i.toNat < x.length := (List.getElem?_eq_some_iff.mp hx).1
    have hT : s.TypeIs (.str ⟨x.toArray⟩ t) "str" := typeIs_str s _ t
    refine tail_any hT slot_str_getitem.lookup (PyProof.Rows.getItem_str (c := c) ?_ ?_ ⟨.str [c] _, keeps_tok⟩) (hs _ _)
    · simp only [Bool.or_eq_false_iff, decide_eq_false_iff_not]; lia
    · have hj : seqIndex? i (⟨x.toArray⟩ : Str).length = some i.toNat := by
        rw [str_length]
        exact seqIndex_of h0 hlt
      (with_reducible_and_instances (refine rwG (hj ..) ?_))
      simpa using hx

theorem item_listN {xs : List PV} {i : Nat} {r : PV} (hi : i ≤ 100000) (hx : xs[i]? = some r) : ItemOp C (.list xs) (.int (i : Int)) r :=
  item_list (Int.natCast_nonneg i) (Int.lt_of_le_of_lt (Int.ofNat_le.mpr hi) (by decide)) hx
theorem item_strN {x : List Nat} {i c : Nat} (hi : i ≤ 100000) (hx : x[i]? = some c) : ItemOp C (.str x) (.int (i : Int)) (.str [c]) :=
  item_str (Int.natCast_nonneg i) (Int.lt_of_le_of_lt (Int.ofNat_le.mpr hi) (by decide)) hx

noncomputable def EvO (C : Cx) (ρ : Env') (g : C.G) (e : Option Expr) (v : Option Int) (g' : C.G) : Prop :=
  ∀ O s, Inv C ρ O g s → wpAny C.mod C.A (evalPart e C.env) (fun u s' => (∃ t, u = partValue (v.map (·, t))) ∧ Step C g' s s') NoE s
theorem EvO.none : EvO C ρ g none none g := fun O s I => wpAny_evalPart_none ⟨⟨0, rfl⟩, .refl I.world⟩
theorem EvO.some {e : Expr} {i : Int} (h : Ev C ρ g e (.int i) g₁) : EvO C ρ g (some e) (some i) g₁ := fun O s I =>
  wpAny_evalPart_some (wpAny_mono (h O s I) (fun u s₁ ⟨r, st⟩ => Rep.intE r fun t => ⟨⟨t, rfl⟩, st⟩) fun _ _ x => x)

theorem slicePick_is (vs : Array Value) (lo hi : Option Int) : (slicePick vs lo hi none).toList = pySlice vs.toList lo hi := by
  unfold slicePick pySlice
  have e1 : (sliceBounds lo hi none vs.size).1 = clipTo lo 0 vs.toList.length := by
    simp only [sliceBounds, clipTo, Array.length_toList]
    cases lo <;> simp
  have e2 : (sliceBounds lo hi none vs.size).2.1 = clipTo hi vs.toList.length vs.toList.length := by
    simp only [sliceBounds, clipTo, Array.length_toList]
    cases hi <;> simp
  have e3 : (sliceBounds lo hi none vs.size).2.2 = 1 := rfl
  ((with_reducible_and_instances (refine rwG (e1 ..) ?_; refine rwG (e2 ..) ?_; refine rwG (e3 ..) ?_)))
  (with_reducible_and_instances (refine rwL ((slice_pick vs.toList _ _ (clipTo_bounds lo vs.toList.length).1 (clipTo_bounds hi vs.toList.length).2) ..) ?_))
  simp

theorem Ev.sliceList (hC : C.Ok) {a : Expr} {lo hi : Option Expr} {p pos : Pos} {xs : List PV} {l u : Option Int} (h1 : Ev C ρ g a (.list xs) g) (h2 : EvO C ρ g lo l g) (h3 : EvO C ρ g hi u g) (hn : xs.length ≤ 4096) :
    Ev C ρ g (.Subscript a (.Slice lo hi Option.none p) pos) (.list (pySlice xs l u)) g := fun O s I => by
  refine Subscript_ (wpAny_mono (h1 O s I) (fun v s₁ ⟨r1, st1⟩ => ?_) fun _ _ x => x)
  have I1 := I.step hC st1
  refine wpAny_Slice (wpAny_mono (h2 O s₁ I1) (fun vl s₂ ⟨⟨t, el⟩, st2⟩ => ?_) fun _ _ x => x)
  have I2 := I1.step hC st2
  refine wpAny_mono (h3 O s₂ I2) (fun vu s₃ ⟨⟨t', eu⟩, st3⟩ => wpAny_evalPart_none ?_) fun _ _ x => x
  have I3 := I2.step hC st3
  subst el eu
  · refine Rep.listE r1 fun a vs ha hl hr => ?_
    have r1' := (Rep.list ha hl hr).step hC (st2.trans st3)
    have st4 := Step.of_keeps hC I3.world (keeps_push (s := s₃) (o := { cls := .type "slice", data := .fields #[partValue (l.map (·, t)), partValue (u.map (·, t')), .none] }))
    have I4 := I3.step hC st4
    have r1'' := r1'.step hC st4
    cases r1'' with
    | @list _ vs _ ha hl hr =>
      have hsz : vs.size ≤ 4096 := by have := hr.length; simp only [Array.length_toList] at this; lia
      refine tail_any (ops := [.ref s₃.heap.objs.size, .ref a]) hl.isList.typeIs slot_list_getitem.lookup (wpAny_getItem_list_slice (lo := l) (hi := u) (st := Option.none) hl.isList ⟨_, Heap.get?_push_size _ rfl, rfl, rfl⟩ ?_ ?_ .none (by intro h; cases h) ?_ (by show _ ≤ 2 ^ 24; lia)) rfl
      · cases l with
        | none => exact .none
        | some i => exact .int _ _
      · cases u with
        | none => exact .none
        | some i => exact .int _ _
      · refine ⟨.list (I4.new hC (get_size_none _)).2.2.2 ⟨0, Heap.get?_push_size _ rfl⟩ ?_, ((st1.trans st2).trans st3).trans (st4.trans (.of_keeps hC I4.world keeps_push))⟩
        rw [slicePick_is]
        have hlen := hr.length
        unfold pySlice
        (with_reducible_and_instances (refine rwG (hlen ..) ?_))
        exact (Reps.take _ (Reps.drop _ hr)).keepAll fun _ _ e => Heap.get?_push_of_some _ e

theorem strSlice_is (x : List Nat) (lo hi : Option Int) : (Builtin.Str.strSliceIndices lo hi 1 x.length).filterMap (x[·]?) = pySlice x lo hi := by
  unfold Builtin.Str.strSliceIndices pySlice
  (with_reducible_and_instances (refine rwL ((slice_pick x _ _ (clipTo_bounds lo x.length).1 (clipTo_bounds hi x.length).2) ..) ?_))
  congr 1
theorem strSlice_len (x : List Nat) (lo hi : Option Int) : (Builtin.Str.strSliceIndices lo hi 1 x.length).length = (pySlice x lo hi).length := by
  obtain ⟨a, ha, ea⟩ := clipTo_is0 lo x.length
  obtain ⟨b, hb, eb⟩ := clipTo_is hi x.length x.length (Nat.le_refl _)
  have e : Builtin.Str.strSliceIndices lo hi 1 x.length = sliceRange (clipTo lo 0 x.length) (clipTo hi x.length x.length) 1 := by
    unfold Builtin.Str.strSliceIndices
    rfl
  ((with_reducible_and_instances (refine rwG ((pySlice_nat ea eb) ..) ?_; refine rwG (e ..) ?_; refine rwG (ea ..) ?_; refine rwG (eb ..) ?_)))
  unfold sliceRange
  simp only [List.length_map, List.length_range, List.length_take, List.length_drop, show ((1 : Int) > 0) from by decide, if_true, Int.add_sub_cancel, Int.ediv_one]
  (with_reducible_and_instances (refine rwG ((Nat.min_eq_left (Nat.sub_le_sub_right hb a)) ..) ?_))
  split
  · exact Int.toNat_sub b a
  · rename_i h
    exact (Nat.sub_eq_zero_of_le (Int.ofNat_le.mp (Int.not_lt.mp h))).symm
theorem pySlice_sub {α : Type} (x : List α) (lo hi : Option Int) : (pySlice x lo hi).Sublist x := (List.take_sublist _ _).trans (List.drop_sublist _ _)
theorem pySlice_length_le {α : Type} (x : List α) (lo hi : Option Int) : (pySlice x lo hi).length ≤ x.length := (pySlice_sub x lo hi).length_le
theorem pySlice_whole {α : Type} (x : List α) (lo hi : Option Int) (h : (pySlice x lo hi).length = x.length) : pySlice x lo hi = x := (pySlice_sub x lo hi).eq_of_length h

theorem Ev.sliceStr (hC : C.Ok) {a : Expr} {lo hi : Option Expr} {p pos : Pos} {x : List Nat} {l u : Option Int} (h1 : Ev C ρ g a (.str x) g) (h2 : EvO C ρ g lo l g) (h3 : EvO C ρ g hi u g) (hn : x.length ≤ 16777216) :
    Ev C ρ g (.Subscript a (.Slice lo hi Option.none p) pos) (.str (pySlice x l u)) g := fun O s I => by
  refine Subscript_ (wpAny_mono (h1 O s I) (fun v s₁ ⟨r1, st1⟩ => ?_) fun _ _ x => x)
  have I1 := I.step hC st1
  refine wpAny_Slice (wpAny_mono (h2 O s₁ I1) (fun vl s₂ ⟨⟨t, el⟩, st2⟩ => ?_) fun _ _ x => x)
  have I2 := I1.step hC st2
  refine wpAny_mono (h3 O s₂ I2) (fun vu s₃ ⟨⟨t', eu⟩, st3⟩ => wpAny_evalPart_none ?_) fun _ _ x => x
  have I3 := I2.step hC st3
  subst el eu
  · refine Rep.strE r1 fun tx => ?_
    have st4 := Step.of_keeps hC I3.world (keeps_push (s := s₃) (o := { cls := .type "slice", data := .fields #[partValue (l.map (·, t)), partValue (u.map (·, t')), .none] }))
    have I4 := I3.step hC st4
    have sts := ((st1.trans st2).trans st3).trans st4
    refine tail_any (ops := [.ref s₃.heap.objs.size, .str ⟨x.toArray⟩ tx]) (typeIs_str _ _ tx) slot_str_getitem.lookup (wpAny_getItem_str_slice (l := l.map (·, t)) (u := u.map (·, t')) (st := Option.none) ⟨_, Heap.get?_push_size _ rfl, rfl, rfl⟩ rfl ?_) rfl
    have ep : slicePicked ⟨x.toArray⟩ (l.map (·, t)) (u.map (·, t')) Option.none = Builtin.Str.strSliceIndices l u 1 x.length := by
      unfold slicePicked
      rw [str_length, Option.map_map, Option.map_map]
      congr 1
      · cases l <;> rfl
      · cases u <;> rfl
    unfold sliceMade
    ((with_reducible_and_instances (refine rwG (ep ..) ?_)); rewrite [str_length])
    split
    · rename_i hw
      have hlen : (pySlice x l u).length = x.length := by
        rw [← strSlice_len]
        simpa using hw
      refine ⟨?_, sts⟩
      (with_reducible_and_instances (refine rwG ((pySlice_whole x l u hlen) ..) ?_))
      exact .str x tx
    · have e2 : (Builtin.Str.strSliceIndices l u 1 x.length).filterMap (fun k => (⟨x.toArray⟩ : Str).cps[k]?) = pySlice x l u := by
        rw [← strSlice_is]
        congr 1
        funext k
        simp
      (with_reducible_and_instances (refine rwG (e2 ..) ?_))
      refine ⟨?_, .str _ _, sts.trans (.of_keeps hC I4.world keeps_tok)⟩
      rw [str_length]
      have := pySlice_length_le x l u
      show _ ≤ 2 ^ 24
      lia
end
end Mine.Internal
end

section
namespace Mine.Internal
open PySem PySem.Calls PyProof.Rows

section
variable {C : Cx} {ρ ρ' ρ₁ : Env'} {g g' g₁ g₂ : C.G} {P P' : Fl → Env' → C.G → Prop}

theorem op_catList {xs ys : List PV} (h : xs.length + ys.length ≤ 4096) : Op2 C (binaryOp .Add) (.list xs) (.list ys) (.list (xs ++ ys)) := fun X s u v hX r1 r2 => by
  · refine Rep.listE r1 fun a vs ha hl hr => ?_
    · refine Rep.listE r2 fun b ws hb hl2 hr2 => ?_
      obtain ⟨n, ho⟩ := hl
      obtain ⟨n2, ho2⟩ := hl2
      have h1 := hr.length
      have h2 := hr2.length
      simp only [Array.length_toList] at h1 h2
      refine concat_meets ⟨_, ho, rfl⟩ ⟨_, ho2, rfl⟩ noFill_list_add seq_list_add PySem.F.slot_list_add PySem.F.entry_list_add (PySem.F.args_list_add_2 _ _) (list_addW a b vs ws n n2 none none #[] #[] (by show _ ≤ 2 ^ 24; lia)) ⟨ho, ho2, ?_⟩
      refine ⟨.list (hX _ (get_size_none _)) ⟨_, Heap.get?_push_size _ rfl⟩ ?_, keeps_push⟩
      (with_reducible_and_instances (refine rwG (Array.toList_append ..) ?_))
      exact (Reps.append hr hr2).keepAll fun _ _ e => Heap.get?_push_of_some _ e

theorem Reps.replicate {X : Addr → Prop} {h : Heap} {vs : List Value} {ps : List PV} (r : Reps X h vs ps) : ∀ n : Nat, Reps X h (List.replicate n vs).flatten (List.replicate n ps).flatten
  | 0 => .nil
  | n + 1 => by ((with_reducible_and_instances (refine rwG (List.replicate_succ ..) ?_; refine rwG (List.replicate_succ ..) ?_; refine rwG (List.flatten_cons ..) ?_; refine rwG (List.flatten_cons ..) ?_))); exact r.append (Reps.replicate r n)
theorem foldl_arrays (l : List (Array Value)) : ∀ acc : Array Value, (l.foldl (fun x1 x2 => x1 ++ x2) acc).toList = acc.toList ++ (l.map Array.toList).flatten := by
  induction l with
  | nil => intro acc; simp
  | cons a l ih => intro acc; ((with_reducible_and_instances (refine rwG (List.foldl_cons ..) ?_)); rewrite [ih]); simp

theorem op_mulList {xs : List PV} {n : Int} (h0 : 0 ≤ n) (h : xs.length * n.toNat ≤ 4096) (h1 : n ≤ 4096) : Op2 C (binaryOp .Mult) (.list xs) (.int n) (.list (List.replicate n.toNat xs).flatten) := fun X s u v hX r1 r2 => by
  refine Rep.intE r2 fun tok => ?_
  · refine Rep.listE r1 fun l vs ha hl hr => ?_
    obtain ⟨k, hl⟩ := hl
    have e1 := hr.length
    simp only [Array.length_toList] at e1
    refine wpAny_binaryOp_repeat_ref (T := "list") (U := "int") (by decide) ⟨_, hl, rfl⟩ (fun s' => typeIs_int s' n tok) noFill_list_mul F.fills_int_mul F.slot_int_rmul repeat_list F.slot_int_index.lookup
      (call_meets F.slot_int_rmul (typeIs_int s n tok) F.entry_int_rmul (F.args_int_rmul_2 _ _) (int___rmul___int_list n tok l vs k)
        ⟨hl, rfl, ⟨_, hl, rfl⟩, call_meets F.slot_list_mul ⟨_, hl, rfl⟩ F.entry_list_mul (F.args_list_mul_2 _ _)
          (AutoListH.list___mul___list_int_3 l vs k n tok (by simp [Builtin.List.listFitsIndex]; lia) (by (with_reducible_and_instances (refine rwG (e1 ..) ?_)); lia) (by simp only [Builtin.List.listTooLong, sizeLine, e1]; simp; lia)) ⟨hl, ?_⟩⟩)
    refine ⟨.list (hX _ (get_size_none _)) ⟨_, Heap.get?_push_size _ rfl⟩ ?_, keeps_push⟩
    rw [foldl_arrays]
    have e2 : (List.map Array.toList (List.replicate (if vs.isEmpty = true then 0 else n.toNat) vs)).flatten = (List.replicate n.toNat vs.toList).flatten := by
      (with_reducible_and_instances (refine rwG (List.map_replicate ..) ?_))
      by_cases hv : vs.isEmpty = true
      · (with_reducible_and_instances (refine rwG ((if_pos hv) ..) ?_))
        have : vs.toList = [] := by simpa using hv
        (with_reducible_and_instances (refine rwG (this ..) ?_)); simp
      · ((with_reducible_and_instances (refine rwG ((if_neg hv) ..) ?_)); (with_reducible rfl))
    (with_reducible_and_instances (refine rwG (e2 ..) ?_))
    simp only [List.nil_append]
    exact (Reps.replicate hr n.toNat).keepAll fun _ _ e => Heap.get?_push_of_some _ e

theorem op_in {x : List Nat} {c : Nat} : Op2 C (compareOp .In) (.str [c]) (.str x) (.bool (decide (c ∈ x))) := Op2.strs fun X s t t2 => by
  refine PyProof.Rows.in_str ?_
  have := StrLaws.found_one ⟨x.toArray⟩ c
  ((with_reducible_and_instances (refine rwG ((show (⟨[c].toArray⟩ : Str) = ⟨#[c]⟩ from rfl) ..) ?_; refine rwG (this ..) ?_)))
  exact ⟨.bool _, keeps_refl⟩

theorem call_lenS {x : List Nat} (h : x.length ≤ 16777216) : OpL C (fun us => call (.builtin "len") us) [.str x] (.int x.length) := fun X s us hX r => by
  refine Reps.oneE r fun u ru => ?_
  refine Rep.strE ru fun t => ?_
  refine PyProof.Rows.len_str ?_ ?_
  · rw [str_length]; lia
  · rw [str_length]; exact ⟨.int _ _, keeps_tok⟩
theorem call_lenL {xs : List PV} (h : xs.length ≤ 16777216) : OpL C (fun us => call (.builtin "len") us) [.list xs] (.int xs.length) := fun X s us hX r => by
  refine Reps.oneE r fun u ru => ?_
  · · refine Rep.listE ru fun l vs ha hl hr => ?_
      have e := hr.length
      simp only [Array.length_toList] at e
      refine PyProof.Rows.len_list hl.isList (by lia) ?_
      (with_reducible_and_instances (refine rwG (e ..) ?_))
      exact ⟨.int _ _, keeps_tok⟩
theorem call_ord {c : Nat} : OpL C (fun us => call (.builtin "ord") us) [.str [c]] (.int c) := fun X s us hX r => by
  refine Reps.oneE r fun u ru => ?_
  refine Rep.strE ru fun t => ?_
  exact PyProof.Rows.ord_of_one rfl ⟨.int _ _, keeps_tok⟩
theorem call_chr {i : Int} (h0 : 0 ≤ i) (h1 : i ≤ 1114111) : OpL C (fun us => call (.builtin "chr") us) [.int i] (.str [i.toNat]) := fun X s us hX r => by
  refine Reps.oneE r fun u ru => ?_
  refine Rep.intE ru fun t => ?_
  exact PyProof.Rows.chr_of_range h0 h1 ⟨.str [i.toNat] _, keeps_tok⟩

theorem preSum_take (ns : List Int) : ∀ k : Nat, preSum (fun i => ns.getD i 0) k = (ns.take k).sum
  | 0 => rfl
  | k + 1 => by
    (rewrite [preSum]; (with_reducible_and_instances (refine rwG ((preSum_take ns k) ..) ?_; refine rwG (List.take_add_one ..) ?_; refine rwG (List.sum_append ..) ?_; refine rwG ((List.getD_eq_getElem?_getD) ..) ?_)))
    cases ns[k]? <;> simp
theorem reps_ints {X : Addr → Prop} {h : Heap} {vs : List Value} {ns : List Int} (r : Reps X h vs (ns.map PV.int)) : ∀ (i : Nat) (v : Value), vs[i]? = some v → ∃ t, v = Value.int (ns.getD i 0) t := fun i v e => by
  obtain ⟨p, hp, rp⟩ := r.get' e
  rw [List.getElem?_map] at hp
  cases q : ns[i]? with
  | none => rw [q] at hp; cases hp
  | some n =>
    rw [q] at hp
    cases hp
    refine Rep.intE rp fun t => ?_
    exact ⟨_, by ((with_reducible_and_instances (refine rwG ((List.getD_eq_getElem?_getD) ..) ?_; refine rwG (q ..) ?_))); rfl⟩
theorem call_sum (hC : C.Ok) {ns : List Int} (h : ∀ j, j < ns.length → InLong (ns.getD j 0) ∧ InLong ((ns.take (j + 1)).sum)) : OpL C (fun us => call (.builtin "sum") us) [.list (ns.map .int)] (.int ns.sum) := fun X s us hX r => by
  refine Reps.oneE r fun u ru => ?_
  · · refine Rep.listE ru fun l vs ha hl hr => ?_
      have e := hr.length
      simp only [Array.length_toList, List.length_map] at e
      have hne : l ≠ s.heap.objs.size := by obtain ⟨n, e⟩ := hl; exact Nat.ne_of_lt (Heap.lt_size e)
      refine call_sum_walk (wpAny_pyIter_list hl.isList ⟨s.heap.objs.size, _, _, _, _, _, fun i => ns.getD i 0, rfl, Walks.list (A := C.A.in1) hC.handled _ l hne vs, ⟨⟨_, Heap.get?_push_size _ rfl, rfl, rfl⟩, hl.isList.push _⟩, ?_, ?_, ?_, ?_⟩)
      · intro b hb
        obtain ⟨n, el⟩ := hl
        have := Heap.lt_size el
        simp only [List.mem_cons, List.not_mem_nil, or_false] at hb
        have hz : (s.heap.push { cls := .type "list_iterator", data := .fields #[.ref l, .int 0 0] }).objs.size = s.heap.objs.size + 1 := Heap.size_push ..
        show b < (s.heap.push { cls := .type "list_iterator", data := .fields #[.ref l, .int 0 0] }).objs.size
        (with_reducible_and_instances (refine rwG (hz ..) ?_))
        rcases hb with rfl | rfl
        · exact Nat.lt_succ_self _
        · exact Nat.lt_succ_of_lt this
      · intro i v hv
        exact reps_ints hr i v (by simpa using hv)
      · intro j hj
        rw [preSum_take]
        exact h j (by lia)
      · intro h' tk t' hk
        (rewrite [preSum_take]; (with_reducible_and_instances (refine rwG (e ..) ?_; refine rwG (List.take_length ..) ?_)))
        refine ⟨.int _ _, _, _, rfl, fun b o eb => hk b o ?_ (Heap.get?_push_of_some _ eb)⟩
        simp only [List.mem_cons, List.not_mem_nil, or_false]
        exact Nat.ne_of_lt (Heap.lt_size eb)
end
end Mine.Internal
end

section
namespace Mine.Internal
open PySem PySem.Calls PyProof.Rows

section
variable {C : Cx} {ρ ρ' ρ₁ : Env'} {g g' g₁ g₂ : C.G} {P P' : Fl → Env' → C.G → Prop} {O O' : List (Str × Addr)} {s s' : Shared}

theorem Inv.addOwn (hC : C.Ok) (I : Inv C ρ O g s) (x : Str) {o : Obj} {vs : Array Value} (ho : o = { cls := .type "list", data := .seq vs }) : Inv C ρ ((x, s.heap.objs.size) :: O) g { s with heap := s.heap.push o } := by
  subst ho
  have st := Step.of_keeps hC I.world (keeps_push (s := s) (o := { cls := .type "list", data := .seq vs }))
  have I2 := I.step hC st
  have hn := I.new hC (get_size_none s.heap)
  have av : ∀ a o, ¬ avoid C O a → s.heap.get? a = some o → ¬ avoid C ((x, s.heap.objs.size) :: O) a := fun a o h e => by
    rintro (q | ⟨y, q⟩)
    · exact h (.inl q)
    · rcases List.mem_cons.mp q with q | q
      · cases q; rw [get_size_none] at e; cases e
      · exact h (.inr ⟨y, q⟩)
  obtain ⟨m, hm, hl⟩ := I.loc
  refine ⟨I2.rest, I2.old, I2.world, I2.names, ⟨m, hm.push _, fun y v hy => ?_⟩, I2.cells, fun y a hy => ?_, fun y z a hy hz => ?_⟩
  · have q := hl y v hy
    have sl : ∀ z, Slot C m s.heap y z → Slot C m (s.heap.push { cls := .type "list", data := .seq vs }) y z := fun z hz => hz.of fun c _ o e => Heap.get?_push_of_some _ e
    have rp : ∀ {u : Value} {p : PV}, Rep (avoid C O) s.heap u p → Rep (avoid C ((x, s.heap.objs.size) :: O)) (s.heap.push { cls := .type "list", data := .seq vs }) u p := fun r => r.mono (fun a o h _ e => av a o h e) fun a o _ _ e => Heap.get?_push_of_some _ e
    cases v with
    | undef => exact q
    | val p => obtain ⟨q0, u, q1, q2⟩ := q; exact ⟨q0, u, sl u q1, rp q2⟩
    | ro p => obtain ⟨u, q1, q2⟩ := q; exact ⟨u, sl u q1, rp q2⟩
    | own xs =>
      obtain ⟨q0, a, ws, q1, q2, ⟨n, q3⟩, q4⟩ := q
      exact ⟨q0, a, ws, sl _ q1, List.mem_cons_of_mem _ q2, ⟨n, Heap.get?_push_of_some _ q3⟩, q4.mono (fun a o h _ e => av a o h e) fun a o _ _ e => Heap.get?_push_of_some _ e⟩
  · rcases List.mem_cons.mp hy with q | q
    · cases q; exact ⟨hn.1, hn.2.2.1, vs, 0, Heap.get?_push_size _ rfl⟩
    · exact I2.own y a q
  · rcases List.mem_cons.mp hy with q | q <;> rcases List.mem_cons.mp hz with q' | q'
    · cases q; cases q'; rfl
    · cases q; exact absurd (.inr ⟨z, q'⟩) hn.2.2.2
    · cases q'; exact absurd (.inr ⟨y, q⟩) hn.2.2.2
    · exact I.uniq y z a q q'

theorem St1.assignOwn (hC : C.Ok) {x : Str} {xp lp pos : Pos} {es : List Expr} {ps : List PV} (h : EvL C ρ g es ps g₁) (hn : ps.length ≤ 4096) (hp : Put ρ x (.own ps) ρ') (hP : P .next ρ' g₁) :
    St1 C ρ g (.Assign [.Name x xp] (.List es lp) pos) P := fun O s I => by
  refine wpAny_Assign_Name (wpAny_List (wpAny_mono (h O s lp I) (fun us s₁ ⟨r, st⟩ => ?_) fun _ _ x => x)) rfl
  have I1 := I.step hC st
  have hl := r.length
  refine ⟨by (with_reducible_and_instances (refine rwG (hl ..) ?_)); show _ ≤ 2 ^ 24; lia, ?_⟩
  have I2 := I1.addOwn hC x (vs := us.toArray) rfl
  have hnone := st.skeep (O := O) hC
  refine store_lv hC I2 (fun m h' k hf sl => ?_) hp fun s' I' k _ => ⟨.next, ρ', _, g₁, hP, .next, I', SKeep.trans (O' := (x, s₁.heap.objs.size) :: O) ?_ k⟩
  · refine ⟨hf, s₁.heap.objs.size, us.toArray, sl, List.mem_cons_self, ⟨0, k _ _ ⟨_, _, rfl⟩ (Heap.get?_push_size _ rfl)⟩, r.mono (fun a o hh _ e => ?_) fun a o _ q e => k a o q (Heap.get?_push_of_some _ e)⟩
    rintro (q | ⟨y, q⟩)
    · exact hh (.inl q)
    · rcases List.mem_cons.mp q with q | q
      · cases q; rw [get_size_none] at e; cases e
      · exact hh (.inr ⟨y, q⟩)
  · refine ⟨fun a o h1 h2 h3 h4 e => Heap.get?_push_of_some _ (hnone.keep a o h1 h2 h3 h4 e), fun y a hy => ?_, fun a o e => ?_⟩
    · rcases List.mem_cons.mp hy with q | q
      · cases q; exact .inr (st.fresh hC (get_size_none _))
      · exact .inl q
    · obtain ⟨o', e'⟩ := hnone.pres a o e
      exact ⟨o', Heap.get?_push_of_some _ e'⟩

theorem Ns_unique {h : Heap} {a : Addr} {m m' : Str → Option Value} (n : h.Ns a m) (n' : h.Ns a m') : m = m' := by
  obtain ⟨o, es, ep, e, d, _, q⟩ := n
  obtain ⟨o', es', ep', e', d', _, q'⟩ := n'
  cases e.symm.trans e'
  cases d.symm.trans d'
  funext x
  ((with_reducible_and_instances (refine rwL ((q x) ..) ?_; refine rwG ((q' x) ..) ?_)); (with_reducible rfl))
theorem eval_own (hC : C.Ok) {x : Str} {pos : Pos} {xs : List PV} (h : (x, LV.own xs) ∈ ρ) (I : Inv C ρ O g s) {Q : Value → Shared → Prop}
    (hQ : ∀ a vs, (x, a) ∈ O → s.heap.PlainList a vs → Reps (avoid C O) s.heap vs.toList xs → (∀ m, s.heap.Ns C.env.locals m → Slot C m s.heap x (.ref a)) → Q (.ref a) s) : wpAny C.mod C.A (eval (.Name x pos) C.env) Q NoE s := by
  obtain ⟨m, hn, hl⟩ := I.loc
  obtain ⟨_, a, vs, q, q2, q3, q4⟩ := hl x _ h
  have hd := hC.notDebug x (mem_names I.names h)
  have hsl : ∀ m', s.heap.Ns C.env.locals m' → Slot C m' s.heap x (.ref a) := fun m' hm' => by (with_reducible_and_instances (refine rwG ((Ns_unique hm' hn) ..) ?_)); exact q
  refine wpAny_Name ?_ hd.1
  rcases q with ⟨q1, q2'⟩ | ⟨q1 | q1, c, q2', q3'⟩
  · exact wpAny_loadName_local hC.kind q1 hn q2' (hQ a vs q2 q3 q4 hsl)
  · exact wpAny_loadName_cell hC.kind q1 q2' q3' (hQ a vs q2 q3 q4 hsl)
  · exact wpAny_loadName_free hC.kind q1 q2' q3' (hQ a vs q2 q3 q4 hsl) hd.2

theorem Inv.grow (hC : C.Ok) (I : Inv C ρ O g s) {x : Str} {a : Addr} {vs : Array Value} {xs : List PV} (ha : (x, a) ∈ O) (hr : Reps (avoid C O) s.heap vs.toList xs) {h' : Heap} (hl : h'.PlainList a vs) (hs : Heap.SameBut a s.heap h')
    (hρ : ∀ y v, (y, v) ∈ ρ' → (y = x ∧ v = .own xs ∧ ∃ ws, (x, LV.own ws) ∈ ρ) ∨ ((∀ ws, v = .own ws → y ≠ x) ∧ (y, v) ∈ ρ)) (hnm : ρ'.map (·.1) = ρ.map (·.1)) (hx : ∀ ws, (x, LV.own ws) ∈ ρ → ∀ m, s.heap.Ns C.env.locals m → Slot C m s.heap x (.ref a)) :
    Inv C ρ' O g { s with heap := h' } := by
  have hn := I.own x a ha
  obtain ⟨o0, q0, e0⟩ := plain_isSeq hn.2.2.choose_spec
  obtain ⟨m, hm, hll⟩ := I.loc
  have hL : C.env.locals ≠ a := Ne.symm (seq_ne_dict q0 e0 hm)
  have hcl : ∀ y c, C.env.cells.lookup y = some c → c ≠ a := fun y c hc => by
    obtain ⟨v, hv⟩ := I.cells y c hc
    exact Ne.symm (seq_ne_cell q0 e0 hv)
  have rp : ∀ {u : Value} {p : PV}, Rep (avoid C O) s.heap u p → Rep (avoid C O) h' u p := fun r => r.mono (fun _ _ h _ _ => h) fun b o hb _ e => (hs.2 b (fun q => hb (.inr ⟨x, q ▸ ha⟩))).trans e
  have rps : ∀ {u : List Value} {p : List PV}, Reps (avoid C O) s.heap u p → Reps (avoid C O) h' u p := fun r => r.mono (fun _ _ h _ _ => h) fun b o hb _ e => (hs.2 b (fun q => hb (.inr ⟨x, q ▸ ha⟩))).trans e
  have sl : ∀ y z, Slot C m s.heap y z → Slot C m h' y z := fun y z hz => hz.of fun c hc o e => (hs.2 c (hcl y c hc)).trans e
  refine ⟨I.rest, fun b o hf hM e => (hs.2 b (fun q => hf (q ▸ hn.1))).trans (I.old b o hf hM e), hC.stab g _ _ I.world fun b o hM e => (hs.2 b (hM.elim (fun hM q => hn.2.1 (q ▸ hM)) fun hr => rec_ne_seq hr e e0 q0)).trans e, hnm.trans I.names,
    ⟨m, hm.sameBut hs hL, fun y v hy => ?_⟩, fun y c hc => ?_, fun y b hb => ?_, I.uniq⟩
  · rcases hρ y v hy with ⟨rfl, rfl, ws, hw⟩ | ⟨hne, hy'⟩
    · have q := hll y _ hw
      exact ⟨q.1, a, vs, sl y _ (hx ws hw m hm), ha, hl, rps hr⟩
    · have q := hll y v hy'
      cases v with
      | undef => exact q
      | val p => obtain ⟨q0, u, q1, q2⟩ := q; exact ⟨q0, u, sl y u q1, rp q2⟩
      | ro p => obtain ⟨u, q1, q2⟩ := q; exact ⟨u, sl y u q1, rp q2⟩
      | own ws =>
        obtain ⟨q0, b, us, q1, q2, ⟨n, q3⟩, q4⟩ := q
        have hb : b ≠ a := fun e => hne ws rfl (I.uniq y x a (e ▸ q2) ha)
        exact ⟨q0, b, us, sl y _ q1, q2, ⟨n, (hs.2 b hb).trans q3⟩, rps q4⟩
  · obtain ⟨v, hv⟩ := I.cells y c hc
    exact ⟨v, hv.sameBut hs (hcl y c hc)⟩
  · by_cases e : b = a
    · subst e; exact ⟨hn.1, hn.2.1, vs, hl⟩
    · obtain ⟨f, hM, us, n, q⟩ := I.own y b hb
      exact ⟨f, hM, us, n, (hs.2 b e).trans q⟩

theorem St1.append (hC : C.Ok) {x : Str} {xp apos cpos pos : Pos} {e : Expr} {xs : List PV} {p : PV} (hx : (x, LV.own xs) ∈ ρ) (h : Ev C ρ g e p g₁) (hn : xs.length ≤ 4096) (hp : Put ρ x (.own (xs ++ [p])) ρ') (hP : P .next ρ' g₁)
    (hi : interactive C.env = false)
    (hline : (apos.endLine == cpos.line) = true)
    (hfew : ((backTo cpos (starEach [e] C.env)).all (fun x => !x.1) && (backToKw cpos (keywordEach [] C.env)).all (fun x => x.1.isSome)
      && decide (([e] : List Expr).length + ([] : List Keyword).length + (if ([] : List Keyword).isEmpty then 0 else 1) < 30)) = true)
    (htrees : backTo cpos (starEach [e] C.env) = [(false, eval e C.env)]) :
    St1 C ρ g (.Expr (.Call (.Attribute (.Name x xp) "append" apos) [e] [] cpos) pos) P := fun O s I => by
  refine wpAny_Expr_any (wpAny_Call_append rfl hfew hline htrees ?_) hi rfl
  refine eval_own hC hx I fun a vs ha hl hr hsl => ⟨a, vs, rfl, ?_, ?_⟩
  · obtain ⟨n, q⟩ := hl; exact ⟨_, n, q, rfl, rfl, rfl⟩
  · refine wpAny_mono (h O s I) (fun u s₁ ⟨r, st⟩ => ?_) fun _ _ x => x
    have I1 := I.step hC st
    have hl1 : s₁.heap.PlainList a vs := by obtain ⟨n, q⟩ := hl; exact ⟨n, st.keep a _ (I.own x a ha).2.1 q⟩
    have hr1 := hr.step hC st
    have hsz := hr.length
    simp only [Array.length_toList] at hsz
    refine wpAny_list_append_plain hl1 (fun h' hl' hs' => ?_) (by show _ ≤ 2 ^ 24; lia)
    have nd : (ρ.map (·.1)).Nodup := by (with_reducible_and_instances (refine rwG (I.names ..) ?_)); exact hC.nodup
    have I2 : Inv C ρ' O g₁ { s₁ with heap := h' } := by
      refine I1.grow hC ha (vs := vs.push u) (xs := xs ++ [p]) ?_ hl' hs' (fun y v hy => ?_) hp.names (fun ws hw m hm => ?_)
      · (with_reducible_and_instances (refine rwG (Array.toList_push ..) ?_)); exact hr1.append (.cons r .nil)
      · rcases hp.mem nd y v hy with ⟨rfl, rfl⟩ | ⟨hne, hy'⟩
        · exact .inl ⟨rfl, rfl, xs, hx⟩
        · exact .inr ⟨fun _ _ => hne, hy'⟩
      · obtain ⟨m0, hm0, _⟩ := I.loc
        have : m = m0 := Ns_unique hm (Ns_of hm0 fun o e => st.keep _ o hC.locM e)
        (with_reducible_and_instances (refine rwG (this ..) ?_))
        exact (hsl m0 hm0).of fun c hc o e => st.keep c o (hC.cellM x c hc) e
    exact ⟨.next, ρ', O, g₁, hP, .next, I2, (st.skeep hC).trans (SKeep.sameBut (.inr (.inr ⟨x, ha⟩)) hs' (by obtain ⟨n, q⟩ := hl'; exact ⟨_, q⟩))⟩

theorem Inv.freeze (hC : C.Ok) (I : Inv C ρ O g s) {x : Str} {xs : List PV} (hx : (x, LV.own xs) ∈ ρ) (hp : Put ρ x (.val (.list xs)) ρ') : ∃ O', Inv C ρ' O' g s ∧ SKeep C O O' s s := by
  obtain ⟨m, hm, hll⟩ := I.loc
  obtain ⟨qf, a, vs, q1, q2, q3, q4⟩ := hll x _ hx
  have nd : (ρ.map (·.1)).Nodup := by (with_reducible_and_instances (refine rwG (I.names ..) ?_)); exact hC.nodup
  have sub : ∀ y b, (y, b) ∈ O.filter (fun z => z.2 != a) → (y, b) ∈ O ∧ b ≠ a := fun y b h => by
    have := List.mem_filter.mp h
    exact ⟨this.1, by simpa using this.2⟩
  have av : ∀ b, ¬ avoid C O b → ¬ avoid C (O.filter fun z => z.2 != a) b := fun b h => by
    rintro (q | ⟨y, q⟩)
    · exact h (.inl q)
    · exact h (.inr ⟨y, (sub y b q).1⟩)
  have rp : ∀ {u : Value} {p : PV}, Rep (avoid C O) s.heap u p → Rep (avoid C (O.filter fun z => z.2 != a)) s.heap u p := fun r => r.mono (fun b _ h _ _ => av b h) fun _ _ _ _ e => e
  have rps : ∀ {u : List Value} {p : List PV}, Reps (avoid C O) s.heap u p → Reps (avoid C (O.filter fun z => z.2 != a)) s.heap u p := fun r => r.mono (fun b _ h _ _ => av b h) fun _ _ _ _ e => e
  refine ⟨O.filter fun z => z.2 != a, ⟨I.rest, I.old, I.world, hp.names.trans I.names, ⟨m, hm, fun y v hy => ?_⟩, I.cells, fun y b h => I.own y b (sub y b h).1, fun y z b h h' => I.uniq y z b (sub y b h).1 (sub z b h').1⟩,
    ⟨fun _ _ _ _ _ _ e => e, fun y b h => .inl (sub y b h).1, fun _ o e => ⟨o, e⟩⟩⟩
  rcases hp.mem nd y v hy with ⟨rfl, rfl⟩ | ⟨hne, hy'⟩
  · refine ⟨qf, .ref a, q1, .list ?_ q3 (rps q4)⟩
    rintro (q | ⟨z, q⟩)
    · exact hC.xf a q (I.own y a q2).1
    · exact (sub z a q).2 rfl
  · have q := hll y v hy'
    cases v with
    | undef => exact q
    | val p => obtain ⟨q0, u, q1, q2⟩ := q; exact ⟨q0, u, q1, rp q2⟩
    | ro p => obtain ⟨u, q1, q2⟩ := q; exact ⟨u, q1, rp q2⟩
    | own ws =>
      obtain ⟨q0, b, us, q1', q2', q3', q4'⟩ := q
      have hb : b ≠ a := fun e => hne (I.uniq y x a (e ▸ q2') q2)
      exact ⟨q0, b, us, q1', List.mem_filter.mpr ⟨q2', by simpa using hb⟩, q3', rps q4'⟩
theorem St.freeze (hC : C.Ok) {x : Str} {xs : List PV} {ss : List Stmt} (hx : (x, LV.own xs) ∈ ρ) (hp : Put ρ x (.val (.list xs)) ρ') (h : St C ρ' g ss P) : St C ρ g ss P := fun O s I => by
  obtain ⟨O', I', k⟩ := I.freeze hC hx hp
  exact wpAny_mono (h O' s I') (fun f s' p => p.after k) fun _ _ x => x

theorem Ev.lastOwn (hC : C.Ok) {x : Str} {xp pos : Pos} {b : Expr} {xs : List PV} {r : PV} (hx : (x, LV.own xs) ∈ ρ) (h2 : Ev C ρ g b (.int (-1)) g) (h1 : xs.length < 2 ^ 62) (hr : xs.getLast? = some r)
    (hs : ∀ o i, subscripted b false o i = operate [o, i] (getItem o i)) : Ev C ρ g (.Subscript (.Name x xp) b pos) r g := fun O s I => by
  refine Subscript_ (eval_own hC hx I fun a vs ha hl hrs _ => wpAny_mono (h2 O s I) (fun v s₁ ⟨r2, st⟩ => ?_) fun _ _ x => x)
  obtain ⟨tk, rfl⟩ := r2.int_is
  have hl1 : s₁.heap.PlainList a vs := by obtain ⟨n, q⟩ := hl; exact ⟨n, st.keep a _ (I.own x a ha).2.1 q⟩
  have hne : 0 < xs.length := by cases xs with | nil => simp at hr | cons => simp
  have hx' : xs[xs.length - 1]? = some r := by (with_reducible_and_instances (refine rwL ((List.getLast?_eq_getElem?) ..) ?_)); exact hr
  obtain ⟨z, hz, rz⟩ := (hrs.step hC st).get hx'
  have hlen := hrs.length
  simp only [Array.length_toList] at hlen
  refine tail_any hl1.isList.typeIs slot_list_getitem.lookup (wpAny_getItem_list_neg hl1.isList (by decide) (by lia) (by decide) (x := z) ?_ ⟨rz, st⟩) (hs _ _)
  have : (-1 + (vs.size : Int)).toNat = xs.length - 1 := by lia
  (with_reducible_and_instances (refine rwG (this ..) ?_))
  simpa using hz

theorem Ev.and2 (hC : C.Ok) {a b : Expr} {pos : Pos} {p q : Bool} (h1 : Ev C ρ g a (.bool p) g) (h2 : p = true → Ev C ρ g b (.bool q) g) : Ev C ρ g (.BoolOp .And [a, b] pos) (.bool (p && q)) g := fun O s I =>
  wpAny_And2 (wpAny_mono (h1 O s I) (fun u s₁ ⟨r, st⟩ => by
    refine Rep.boolE r ?_
    refine wpAny_truthy_bool ?_
    cases p with
    | false => exact ⟨.bool _, st⟩
    | true => exact wpAny_mono (h2 rfl O s₁ (I.step hC st)) (fun v s₂ ⟨r, st2⟩ => ⟨r, st.trans st2⟩) fun _ _ x => x) fun _ _ x => x)
theorem Ev.or2 (hC : C.Ok) {a b : Expr} {pos : Pos} {p q : Bool} (h1 : Ev C ρ g a (.bool p) g) (h2 : p = false → Ev C ρ g b (.bool q) g) : Ev C ρ g (.BoolOp .Or [a, b] pos) (.bool (p || q)) g := fun O s I =>
  wpAny_Or2 (wpAny_mono (h1 O s I) (fun u s₁ ⟨r, st⟩ => by
    refine Rep.boolE r ?_
    refine wpAny_truthy_bool ?_
    cases p with
    | true => exact ⟨.bool _, st⟩
    | false => exact wpAny_mono (h2 rfl O s₁ (I.step hC st)) (fun v s₂ ⟨r, st2⟩ => ⟨r, st.trans st2⟩) fun _ _ x => x) fun _ _ x => x)

mutual
noncomputable def PV.data : PV → PyData
  | .none => .none
  | .bool b => .bool b
  | .int i => .int i
  | .str x => .str ⟨x.toArray⟩
  | .list xs => .list (PV.datas xs)
  | .tup xs => .tuple (PV.datas xs)
  | .obj _ => .none
  | .ty _ => .none
noncomputable def PV.datas : List PV → List PyData
  | [] => []
  | x :: xs => x.data :: PV.datas xs
end
mutual
noncomputable def PV.plain : PV → Bool
  | .none => true
  | .bool _ => true
  | .int _ => true
  | .str x => x.all (· < 0x110000)
  | .list xs => PV.plains xs
  | .tup xs => PV.plains xs
  | .obj _ => false
  | .ty _ => false
noncomputable def PV.plains : List PV → Bool
  | [] => true
  | x :: xs => x.plain && PV.plains xs
end
theorem Rep.reads {X : Addr → Prop} {h : Heap} {u : Value} {p : PV} (r : Rep X h u p) : p.plain = true → ∃ as, Reads h u p.data as :=
  Rep.rec (motive_1 := fun u p _ => p.plain = true → ∃ as, Reads h u p.data as) (motive_2 := fun us ps _ => PV.plains ps = true → ∃ as, ReadsAll h us (PV.datas ps) as)
    (fun _ => ⟨_, .none⟩) (fun b _ => ⟨_, .bool b⟩) (fun i t _ => ⟨_, .int i t⟩) (fun x t _ => ⟨_, .str _ t⟩) (fun _ hp => nomatch hp) (fun _ hp => nomatch hp)
    (fun _ hl _ ih hp => hl.elim fun _ e => (ih hp).elim fun _ q => ⟨_, .list e rfl rfl q⟩) (fun _ hl _ ih hp => hl.elim fun _ e => (ih hp).elim fun _ q => ⟨_, .tuple e rfl rfl q⟩)
    (fun _ => ⟨_, .nil⟩) (fun _ _ ia ib hp => (ia (Bool.and_eq_true_iff.mp hp).1).elim fun _ q => (ib (Bool.and_eq_true_iff.mp hp).2).elim fun _ q' => ⟨_, .cons q q'⟩) r
mutual
theorem PV.canLay : ∀ p : PV, p.plain = true → p.data.canLay0 = true
  | .none, _ => rfl
  | .bool _, _ => rfl
  | .int _, _ => rfl
  | .str x, h => by
    show Array.all x.toArray (· < 0x110000) = true
    simpa [PV.plain] using h
  | .list xs, h => PV.canLays xs (by simpa [PV.plain] using h)
  | .tup xs, h => PV.canLays xs (by simpa [PV.plain] using h)
  | .obj _, h => by simp [PV.plain] at h
  | .ty _, h => by simp [PV.plain] at h
theorem PV.canLays : ∀ ps : List PV, PV.plains ps = true → PyData.canLayAll0 (PV.datas ps) = true
  | [], _ => rfl
  | x :: xs, h => by
    rw [PV.plains, Bool.and_eq_true] at h
    rw [PV.datas]
    show (x.data.canLay0 && PyData.canLayAll0 (PV.datas xs)) = true
    ((with_reducible_and_instances (refine rwG ((PV.canLay x h.1) ..) ?_; refine rwG ((PV.canLays xs h.2) ..) ?_))); rfl
end
theorem op_neSame (hC : C.Ok) {p : PV} (hp : p.plain = true) (hd : p.data.depth ≤ 64) : Op2 C (compareOp .NotEq) p p (.bool false) := fun X s u v hX r1 r2 => by
  obtain ⟨as, q1⟩ := r1.reads hp
  obtain ⟨bs, q2⟩ := r2.reads hp
  refine PySem.SeqAt.compareNe_reads q1 q2 (PV.canLay p hp) (PV.canLay p hp) (by have := hC.units; lia) ?_
  (with_reducible_and_instances (refine rwG ((PySem.SeqAt.eqv_refl _ (PV.canLay p hp)) ..) ?_))
  exact ⟨.bool _, keeps_refl⟩
end
end Mine.Internal
end

section
namespace Mine.Internal
open PySem PySem.Calls PyProof.Rows

section
variable {prog : Program} {w : World} {A : Around} {R : Result → Shared → Prop} {s : Shared}
theorem compLoop_any {elt target iter : Expr} {ifs : List Expr} {scope : Scope} {pos : Pos} {it acc : Value} {env : Env} (I : Nat → Shared → Prop)
    (turn : ∀ n s, I n s → wpAny (model prog w) A (pyNext it) (fun r s₁ => match r with
      | none => R (.ok .next) s₁
      | some v => wpAny (model prog w) A (letOwnedTupleGo target it v) (fun _ s₀ => wpAny (model prog w) A (assign target env v) (fun _ s₂ =>
          wpAny (model prog w) A (forIn ifs true fun c r => if r = true then do let ok ← isTrue c env (eval c env); pure (ForInStep.yield ok) else pure (ForInStep.yield r)) (fun ok s₃ =>
            if ok = true then wpAny (model prog w) A (eval elt env) (fun x s₄ =>
              wpAny (model prog w) A (call (.builtin "list.append") [acc, x]) (fun _ s₅ => ∃ m, m < n ∧ I m s₅) NoE s₄) NoE s₃
            else ∃ m, m < n ∧ I m s₃) NoE s₂) NoE s₀) NoE s₁) NoE s)
    (n : Nat) (h : I n s) : codeAny (model prog w) A (.compLoop (.ListComp elt [⟨target, iter, ifs, 0⟩] scope pos) 0 it acc env) R s := by
  refine codeAny_loop rfl I (fun n s hI => ?_) n h
  show wpAny _ A ((compTurn (.ListComp elt [⟨target, iter, ifs, 0⟩] scope pos) 0 it acc env).onRaise (fun x => do noteFrame x env; theTreesLotGoes x)) _ _ s
  refine wpAny_noted ?_
  rw [compTurn_list]
  refine wpAny_bind (wpAny_standAt (wpAny_bind (wpAny_mono (turn n s hI) (fun r s₁ h₁ => ?_) fun _ _ h' => h'.elim)))
  cases r with
  | none => exact wpAny_pure h₁
  | some v =>
    refine wpAny_bind (wpAny_mono h₁ (fun _ s₀ h₀ => ?_) fun _ _ h' => h'.elim)
    refine wpAny_bind (wpAny_mono h₀ (fun _ s₂ h₂ => wpAny_bind (wpAny_mono h₂ (fun ok s₃ h₃ => ?_) fun _ _ h' => h'.elim)) fun _ _ h' => h'.elim)
    cases ok with
    | false => exact wpAny_pure ⟨rfl, h₃⟩
    | true =>
      exact wpAny_bind (wpAny_bind (wpAny_mono h₃ (fun x s₄ h₄ => wpAny_bind (wpAny_mono h₄ (fun _ s₅ h₅ => wpAny_pure (wpAny_pure ⟨rfl, h₅⟩)) fun _ _ h' => h'.elim)) fun _ _ h' => h'.elim))
end

noncomputable def closeL (cells : List (Str × Addr)) : List (Str × NameKind) → List (Str × Addr) → List (Str × Addr)
  | [], acc => acc
  | (n, k) :: r, acc => if k == .free then (match cells.lookup n with | some c => closeL cells r ((n, c) :: acc) | none => closeL cells r acc) else closeL cells r acc

theorem closureFor_is {scope : Scope} {env : Env} (h : ∀ n, (n, NameKind.free) ∈ scope.names → (env.cells.lookup n).isSome = true) : closureFor scope env = pure (closeL env.cells scope.names []) := by
  unfold closureFor
  generalize scope.names = ns at h
  have key : ∀ (ns : List (Str × NameKind)) (acc : List (Str × Addr)), (∀ n, (n, NameKind.free) ∈ ns → (env.cells.lookup n).isSome = true) →
      (forIn ns acc (fun x r => match x with | (name, kind) => if (kind == NameKind.free) = true then do let a ← cellOf env name; pure (ForInStep.yield ((name, a) :: r)) else pure (ForInStep.yield r)) : Sem (List (Str × Addr))) = pure (closeL env.cells ns acc) := by
    intro ns
    induction ns with
    | nil => intro acc _; rfl
    | cons x r ih =>
      intro acc hh
      obtain ⟨n, k⟩ := x
      rw [List.forIn_cons]
      by_cases hk : (k == NameKind.free) = true
      · have hk' : k = .free := by simpa using hk
        subst hk'
        obtain ⟨c, hc⟩ := Option.isSome_iff_exists.mp (hh n List.mem_cons_self)
        have e : cellOf env n = pure c := by unfold cellOf; ((with_reducible_and_instances (refine rwG (hc ..) ?_)); (with_reducible rfl))
        simp only [beq_self_eq_true, if_true, e, pure_bind]
        refine (ih _ fun m hm => hh m (List.mem_cons_of_mem _ hm)).trans ?_
        simp only [closeL, beq_self_eq_true, if_true, hc]
      · have hk' : (k == NameKind.free) = false := by simpa using hk
        simp only [hk', Bool.false_eq_true, if_false, pure_bind]
        refine (ih _ fun m hm => hh m (List.mem_cons_of_mem _ hm)).trans ?_
        simp only [closeL, hk', Bool.false_eq_true, if_false]
  have := key ns [] h
  simp only [bind_pure]
  exact this

theorem closeL_mem {cells : List (Str × Addr)} : ∀ (ns : List (Str × NameKind)) (acc : List (Str × Addr)) (n : Str) (c : Addr), (n, c) ∈ closeL cells ns acc → (n, c) ∈ acc ∨ (cells.lookup n = some c ∧ (n, NameKind.free) ∈ ns)
  | [], acc, n, c, h => .inl h
  | (m, k) :: r, acc, n, c, h => by
    unfold closeL at h
    have up : ∀ {acc' : List (Str × Addr)}, ((n, c) ∈ acc' ∨ (cells.lookup n = some c ∧ (n, NameKind.free) ∈ r)) → ((n, c) ∈ acc' ∨ (cells.lookup n = some c ∧ (n, NameKind.free) ∈ (m, k) :: r)) := fun q => q.imp id fun q => ⟨q.1, List.mem_cons_of_mem _ q.2⟩
    split at h
    · rename_i hk
      split at h
      · rename_i c' hc
        rcases closeL_mem r _ n c h with h | h
        · rcases List.mem_cons.mp h with e | h
          · cases e
            have hk' : k = .free := by simpa using hk
            subst hk'
            exact .inr ⟨hc, List.mem_cons_self⟩
          · exact .inl h
        · exact up (.inr h)
      · exact up (closeL_mem r _ n c h)
    · exact up (closeL_mem r _ n c h)
theorem closeL_keeps {cells : List (Str × Addr)} : ∀ (ns : List (Str × NameKind)) (acc : List (Str × Addr)) (n : Str), (acc.lookup n).isSome = true → ((closeL cells ns acc).lookup n).isSome = true
  | [], acc, n, h => h
  | (m, k) :: r, acc, n, h => by
    unfold closeL
    split
    · split
      · refine closeL_keeps r _ n ?_
        (with_reducible_and_instances (refine rwG (List.lookup_cons ..) ?_))
        split <;> first | rfl | exact h
      · exact closeL_keeps r _ n h
    · exact closeL_keeps r _ n h
theorem closeL_has {cells : List (Str × Addr)} : ∀ (ns : List (Str × NameKind)) (acc : List (Str × Addr)) (n : Str), (n, NameKind.free) ∈ ns → (cells.lookup n).isSome = true → ((closeL cells ns acc).lookup n).isSome = true
  | (m, k) :: r, acc, n, h, hc => by
    unfold closeL
    rcases List.mem_cons.mp h with e | h
    · cases e
      obtain ⟨c, hc⟩ := Option.isSome_iff_exists.mp hc
      simp only [beq_self_eq_true, if_true, hc]
      refine closeL_keeps r _ _ ?_
      (with_reducible_and_instances (refine rwG (List.lookup_cons ..) ?_)); simp
    · split
      · split
        · exact closeL_has r _ n h hc
        · exact closeL_has r _ n h hc
      · exact closeL_has r _ n h hc

theorem lookup_relabel {env : Env} {f : NameKind → NameKind → Prop} : ∀ {names : List (Str × NameKind)} {x : Str} {k : NameKind}, names.lookup x = some k → k ≠ .free →
    (names.map fun (n, k) => if (k == NameKind.free && env.scope.kind == .function && env.kindOf n == some .cell) then (n, NameKind.cell) else (n, k)).lookup x = some k
  | [], _, _, h, _ => by simp at h
  | (n, k') :: r, x, k, h, hk => by
    show List.lookup x ((if (k' == NameKind.free && env.scope.kind == .function && env.kindOf n == some .cell) = true then (n, NameKind.cell) else (n, k')) :: _) = _
    cases hx : x == n with
    | true =>
      simp only [List.lookup_cons, hx] at h
      cases h
      have : (k' == NameKind.free) = false := by simpa using hk
      ((with_reducible_and_instances (refine rwG ((if_neg (by rw [this]; simp)) ..) ?_)))
      simp only [List.lookup_cons, hx]
    | false =>
      simp only [List.lookup_cons, hx] at h
      have ih := lookup_relabel (env := env) (f := f) h hk
      split <;> (simp only [List.lookup_cons, hx]; exact ih)
theorem lookup_relabel_free {env : Env} (he : env.scope.kind = .function) : ∀ {names : List (Str × NameKind)} {x : Str}, names.lookup x = some .free → env.kindOf x = some .cell →
    (names.map fun (n, k) => if (k == NameKind.free && env.scope.kind == .function && env.kindOf n == some .cell) then (n, NameKind.cell) else (n, k)).lookup x = some .cell
  | [], _, h, _ => by simp at h
  | (n, k') :: r, x, h, hk => by
    show List.lookup x ((if (k' == NameKind.free && env.scope.kind == .function && env.kindOf n == some .cell) = true then (n, NameKind.cell) else (n, k')) :: _) = _
    cases hx : x == n with
    | true =>
      simp only [List.lookup_cons, hx] at h
      cases h
      have e : x = n := by simpa using hx
      subst e
      ((with_reducible_and_instances (refine rwG (he ..) ?_; refine rwG (hk ..) ?_)))
      simp [List.lookup_cons]
    | false =>
      simp only [List.lookup_cons, hx] at h
      have ih := lookup_relabel_free he h hk
      split <;> (simp only [List.lookup_cons, hx]; exact ih)

noncomputable def Cx.comp (C : Cx) (scope : Scope) (L : Addr) (names : List Str) : Cx := { C with env := compEnvC scope (closeL C.env.cells scope.names []) L C.env, names := names }

inductive CompEnv (scope : Scope) (ρ : Env') : Env' → Prop where
  | nil : CompEnv scope ρ []
  | tgt {x : Str} {r : Env'} : scope.names.lookup x = some .local → CompEnv scope ρ r → CompEnv scope ρ ((x, .undef) :: r)
  | free {x : Str} {p : PV} {r : Env'} : scope.names.lookup x = some .free → (x, LV.val p) ∈ ρ → CompEnv scope ρ r → CompEnv scope ρ ((x, .ro p) :: r)
theorem CompEnv.mem {scope : Scope} {ρ r : Env'} (h : CompEnv scope ρ r) : ∀ x v, (x, v) ∈ r → (v = .undef ∧ scope.names.lookup x = some .local) ∨ (∃ p, v = .ro p ∧ scope.names.lookup x = some .free ∧ (x, LV.val p) ∈ ρ) := by
  induction h with
  | nil => intro x v h; cases h
  | tgt h _ ih =>
    intro x v hx
    rcases List.mem_cons.mp hx with e | hx
    · cases e; exact .inl ⟨rfl, h⟩
    · exact ih x v hx
  | free h h2 _ ih =>
    intro x v hx
    rcases List.mem_cons.mp hx with e | hx
    · cases e; exact .inr ⟨_, rfl, h, h2⟩
    · exact ih x v hx

structure CompOk (C : Cx) (scope : Scope) (t : Expr) (ρ ρc : Env') : Prop where
  kind : scope.kind = .function
  nocell : ∀ y ∈ scope.names, y.2 ≠ .cell
  locals : ∀ y ∈ scope.names, y.2 = .local → scope.names.lookup y.1 = some .local
  frees : ∀ n, (n, NameKind.free) ∈ scope.names → C.env.kindOf n = some .cell ∧ ∃ v, (n, v) ∈ ρ
  env : CompEnv scope ρ ρc
  nodup : (ρc.map (·.1)).Nodup
  notDebug : ∀ x ∈ ρc.map (·.1), (x == ("__debug__" : Str)) = false ∧ (x == ("__classdict__" : Str)) = false
  targets : ∀ x ∈ targetNames t, scope.names.lookup x = some .local
  nz : ∀ x, ¬ C.Z x

theorem lookup_mem {α : Type} {l : List (Str × α)} {n : Str} {c : α} (h : l.lookup n = some c) : (n, c) ∈ l := mem_of_lookup h

section
variable {C : Cx} {ρ ρ' ρ₁ : Env'} {g g' g₁ g₂ : C.G} {P P' : Fl → Env' → C.G → Prop}

theorem comp_cells {scope : Scope} {x : Str} {c : Addr} (h : (closeL C.env.cells scope.names []).lookup x = some c) : C.env.cells.lookup x = some c ∧ (x, NameKind.free) ∈ scope.names := by
  rcases closeL_mem _ _ _ _ (lookup_mem h) with q | q
  · cases q
  · exact q

theorem comp_ok (hC : C.Ok) {scope : Scope} {t : Expr} {ρc : Env'} (h : CompOk C scope t ρ ρc) {O : List (Str × Addr)} {s : Shared} (I : Inv C ρ O g s) {L : Addr} (hL : s.heap.get? L = none) : (C.comp scope L (ρc.map (·.1))).Ok := by
  have hn := I.new hC hL
  have hcs : ∀ n, (n, NameKind.free) ∈ scope.names → (C.env.cells.lookup n).isSome = true := fun n hf => by
    obtain ⟨hk, v, hv⟩ := h.frees n hf
    rcases hC.kinds n (mem_names I.names hv) with q | q
    · cases hk.symm.trans q
    · exact q.2
  exact {
    kind := h.kind
    handled := hC.handled
    depth := hC.depth
    units := hC.units
    top := hC.top
    locF := hn.1
    locM := hn.2.2.1
    cellM := fun x c hc => hC.cellM x c (comp_cells hc).1
    cellF := fun x c _ _ hc => hC.cellF x c (h.frees x (comp_cells hc).2).1 (h.nz x) (comp_cells hc).1
    inj := fun x y c h1 h2 => hC.inj x y c (comp_cells h1).1 (comp_cells h2).1
    fresh := hC.fresh
    mx := hC.mx
    xf := hC.xf
    xs := hC.xs
    wm := hC.wm
    stab := hC.stab
    nodup := h.nodup
    kinds := fun x hx => by
      obtain ⟨e, he, rfl⟩ := List.mem_map.mp hx
      rcases h.env.mem e.1 e.2 he with ⟨_, q⟩ | ⟨p, _, q, _⟩
      · exact .inl (lookup_relabel_local q)
      · have hf : (e.1, NameKind.free) ∈ scope.names := lookup_mem q
        exact .inr ⟨.inl (lookup_relabel_free hC.kind q (h.frees _ hf).1), closeL_has _ _ _ hf (hcs _ hf)⟩
    notDebug := h.notDebug }

theorem comp_inv (hC : C.Ok) {scope : Scope} {t : Expr} {ρc : Env'} (h : CompOk C scope t ρ ρc) {O : List (Str × Addr)} {s : Shared} (I : Inv C ρ O g s) {L : Addr} {m : Str → Option Value} (hL : s.heap.Ns L m) : Inv (C.comp scope L (ρc.map (·.1))) ρc O g s := by
  obtain ⟨m', hm', hl⟩ := I.loc
  refine ⟨I.rest, I.old, I.world, rfl, ⟨m, hL, fun x v hx => ?_⟩, fun x c hc => I.cells x c (comp_cells hc).1, I.own, I.uniq⟩
  rcases h.env.mem x v hx with ⟨rfl, q⟩ | ⟨p, rfl, q, hp⟩
  · refine ⟨fun e => ?_, h.nz x⟩
    have e' : (relabel scope C.env).names.lookup x = some .free := e
    have q' : (relabel scope C.env).names.lookup x = some .local := lookup_relabel_local q
    cases q'.symm.trans e'
  · have hf : (x, NameKind.free) ∈ scope.names := lookup_mem q
    obtain ⟨_, u, sl, r⟩ := hl x _ hp
    have hk := (h.frees x hf).1
    rcases sl with ⟨q1, _⟩ | ⟨_, c, q2, q3⟩
    · cases hk.symm.trans q1
    · have hs : ((closeL C.env.cells scope.names []).lookup x).isSome = true := closeL_has _ _ _ hf (by (with_reducible_and_instances (refine rwG (q2 ..) ?_)); rfl)
      obtain ⟨c', hc'⟩ := Option.isSome_iff_exists.mp hs
      have : c' = c := by have := (comp_cells hc').1; cases q2.symm.trans this; rfl
      subst this
      exact ⟨u, .inr ⟨.inl (lookup_relabel_free hC.kind q hk), c', hc', q3⟩, r⟩

noncomputable def CompTurn (C : Cx) (ρ : Env') (g : C.G) (ifs : List Expr) (elt : Expr) (o : Option PV) : Prop :=
  ∃ b : Bool, ((ifs = [] ∧ b = true) ∨ (∃ c, ifs = [c] ∧ EvB C ρ g c b g)) ∧ (b = true → ∃ v, o = some v ∧ Ev C ρ g elt v g) ∧ (b = false → o = none)
end
end Mine.Internal
end

section
namespace Mine.Internal
open PySem PySem.Calls PyProof.Rows

section
variable {C : Cx} {ρ ρ' ρ₁ : Env'} {g g' g₁ g₂ : C.G} {P P' : Fl → Env' → C.G → Prop}

theorem Inv.butN (hC : C.Ok) {O : List (Str × Addr)} {s s' : Shared} {b : Addr} (I : Inv C ρ O g s) (hF : C.F b) (hM : ¬ C.M b) (hL : b ≠ C.env.locals) (hc : ¬ isCellAddr C b) (hd : ∀ o, s.heap.get? b = some o → ¬ Obj.isSeq o ∧ ¬ Obj.isRec o)
    (hr : s'.gens = s.gens ∧ s'.drawn = s.drawn ∧ s'.os = s.os) (hk : ∀ a o, a ≠ b → s.heap.get? a = some o → s'.heap.get? a = some o) : Inv C ρ O g s' := by
  have sq : ∀ a o, Obj.isSeq o → s.heap.get? a = some o → s'.heap.get? a = some o := fun a o q e => hk a o (fun z => by subst z; exact (hd o e).1 q) e
  obtain ⟨m, hn, hl⟩ := I.loc
  have cl : ∀ x c, C.env.cells.lookup x = some c → ∀ o, s.heap.get? c = some o → s'.heap.get? c = some o := fun x c hx o e => hk c o (fun q => hc ⟨x, q ▸ hx⟩) e
  refine ⟨⟨hr.1.trans I.rest.1, hr.2.1.trans I.rest.2.1, hr.2.2.trans I.rest.2.2⟩, fun a o hf hm e => hk a o (fun q => hf (q ▸ hF)) (I.old a o hf hm e), hC.stab g _ _ I.world fun a o hm e => hk a o (hm.elim (fun hm q => hM (q ▸ hm)) fun hr q => by subst q; exact (hd o e).2 hr) e, I.names,
    ⟨m, Ns_of hn fun o e => hk _ o (Ne.symm hL) e, fun x v hx => ?_⟩, fun x c hx => ?_, fun x a ha => ?_, I.uniq⟩
  · have q := hl x v hx
    cases v with
    | undef => exact q
    | val p => obtain ⟨q0, u, q1, q2⟩ := q; exact ⟨q0, u, q1.of (cl x), q2.mono (fun _ _ h _ _ => h) fun a o _ z e => sq a o z e⟩
    | ro p => obtain ⟨u, q1, q2⟩ := q; exact ⟨u, q1.of (cl x), q2.mono (fun _ _ h _ _ => h) fun a o _ z e => sq a o z e⟩
    | own xs =>
      obtain ⟨q0, a, vs, q1, q2, ⟨n, q3⟩, q4⟩ := q
      exact ⟨q0, a, vs, q1.of (cl x), q2, ⟨n, sq a _ ⟨_, _, rfl⟩ q3⟩, q4.mono (fun _ _ h _ _ => h) fun a o _ z e => sq a o z e⟩
  · obtain ⟨v, hv⟩ := I.cells x c hx
    exact ⟨v, IsCell_of hv (cl x c hx)⟩
  · obtain ⟨f, hm, vs, n, e⟩ := I.own x a ha
    exact ⟨f, hm, vs, n, sq a _ ⟨_, _, rfl⟩ e⟩

theorem wpAny_tests {env : Env} {ifs : List Expr} {s : Shared} {b : Bool} {Q : Bool → Shared → Prop} (h : (ifs = [] ∧ b = true ∧ Q true s) ∨ (∃ c, ifs = [c] ∧ wpAny C.mod C.A (isTrue c env (eval c env)) Q NoE s)) :
    wpAny C.mod C.A (forIn ifs true fun c r => if r = true then do let ok ← isTrue c env (eval c env); pure (ForInStep.yield ok) else pure (ForInStep.yield r)) Q NoE s := by
  rcases h with ⟨rfl, _, h⟩ | ⟨c, rfl, h⟩
  · exact wpAny_tests_nil h
  · exact wpAny_tests_one h

theorem take_filterMap {α β : Type} (f : α → Option β) (l : List α) (i : Nat) (p : α) (h : l[i]? = some p) : (l.take (i + 1)).filterMap f = (l.take i).filterMap f ++ (f p).toList := by
  ((with_reducible_and_instances (refine rwG (List.take_add_one ..) ?_; refine rwG (h ..) ?_; refine rwG (List.filterMap_append ..) ?_)))
  cases hp : f p <;> simp [hp]

inductive CompInv (C C' : Cx) (g : C'.G) (ρc : Env') (O : List (Str × Addr)) (S : Nat → Heap → Prop) (I D L : Addr) (items : List PV) (f : PV → Option PV) (s₂ : Shared) (n : Nat) (s' : Shared) : Prop
  | mk (i : Nat) (vs : Array Value) (hn : n = items.length + 1 - i) (hi : i ≤ items.length) (hS : S i s'.heap) (hD : s'.heap.PlainList D vs) (hr : Reps (avoid C ((Str.ofString ".acc", D) :: O)) s'.heap vs.toList ((items.take i).filterMap f))
      (I' : Inv C' ρc ((Str.ofString ".acc", D) :: O) g s') (kk : ∀ a o, ¬ C.M a → a ≠ I → a ≠ D → a ≠ L → s₂.heap.get? a = some o → s'.heap.get? a = some o) : CompInv C C' g ρc O S I D L items f s₂ n s'

theorem comp_turn (hC : C.Ok) {elt it t : Expr} {ifs : List Expr} {scope : Scope} {pos : Pos} {items : List PV} {ρc : Env'} {f : PV → Option PV} (hok : CompOk C scope t ρ ρc) (hlen : items.length ≤ 4096)
    (ht : (∃ x p, t = .Name x p) ∨ (∃ ts k p, t = .Tuple ts k p))
    (body : ∀ p, p ∈ items → ∀ L, (C.comp scope L (ρc.map (·.1))).Ok → ∃ ρ₁, Binds t p ρc ρ₁ ∧ Weak ρ₁ ρc ∧ CompTurn (C.comp scope L (ρc.map (·.1))) ρ₁ g ifs elt (f p))
    {O : List (Str × Addr)} {s s₂ s₄ : Shared} (I : Inv C ρ O g s) {use : Option (Value → Sem Unit)} {Q : Value → Shared → Prop}
    (hend : ∀ D L m s', Rep (avoid C O) s'.heap (.ref D) (.list (items.filterMap f)) → Step C g s s' → s'.heap.Ns L m → s.heap.get? L = none → compPost C.mod C.A NoE use Q (.ref D) L (.ok .next) s')
    {Ia D L : Addr} {S : Nat → Heap → Prop} (W : Iter C O s₂.heap Ia items S) (hst : S 0 s₂.heap) (hfr : s.heap.get? Ia = none) (st : Step C g s s₂)
    (hDn : s₂.heap.get? D = none) (hLs2 : s₂.heap.get? L = none) (hDL : D ≠ L) (hDM : ¬ C.M D) (hCc : (C.comp scope L (ρc.map (·.1))).Ok)
    (start : CompInv C (C.comp scope L (ρc.map (·.1))) g ρc O S Ia D L items f s₂ (items.length + 1) s₄) :
    codeAny C.mod C.A (.compLoop (.ListComp elt [⟨t, it, ifs, 0⟩] scope pos) 0 (.ref Ia) (.ref D) (C.comp scope L (ρc.map (·.1))).env) (compPost C.mod C.A NoE use Q (.ref D) L) s₄ := by
  have hLs : s.heap.get? L = none := st.fresh hC hLs2
  have hDs : s.heap.get? D = none := st.fresh hC hDn
  have hIp2 : ∃ o, s₂.heap.get? Ia = some o := by obtain ⟨o, _, e, _⟩ := W.fields 0 _ hst; exact ⟨o, e⟩
  have hID : Ia ≠ D := hIp2.elim fun _ e => ne_get e hDn
  have hIL : Ia ≠ L := hIp2.elim fun _ e => ne_get e hLs2
  have hIn := I.new hC hfr
  have hIc : ¬ isCellAddr C Ia := by
    rintro ⟨x, hx⟩
    obtain ⟨v, o, e, _⟩ := I.cells x Ia hx
    cases hfr.symm.trans e
  have hIcc : ¬ isCellAddr (C.comp scope L (ρc.map (·.1))) Ia := by
    rintro ⟨x, hx⟩
    exact hIc ⟨x, (comp_cells hx).1⟩
  have hWS2 : ∀ i h', S i h' → ∀ o, h'.get? Ia = some o → ¬ Obj.isSeq o ∧ ¬ Obj.isRec o := fun i h' hS o e => by
    obtain ⟨o', vs, e', d, dn⟩ := W.fields i h' hS
    cases e.symm.trans e'
    constructor
    · rintro ⟨xs, n, d'⟩
      cases d.symm.trans d'
    · rintro ⟨d2, _⟩
      exact dn d2
  have hWS : ∀ i h', S i h' → ∀ o, h'.get? Ia = some o → ¬ Obj.isSeq o := fun i h' hS o e => (hWS2 i h' hS o e).1
  have av23 : ∀ a o, ¬ avoid C O a → s₂.heap.get? a = some o → ¬ avoid C ((Str.ofString ".acc", D) :: O) a := fun a o ha e => by
    rintro (q | ⟨y, q⟩)
    · exact ha (.inl q)
    · rcases List.mem_cons.mp q with q | q
      · cases q; cases hDn.symm.trans e
      · exact ha (.inr ⟨y, q⟩)
  refine compLoop_any (CompInv C (C.comp scope L (ρc.map (·.1))) g ρc O S Ia D L items f s₂) ?_ (items.length + 1) start
  rintro k s' ⟨i, vs, rfl, hi, hS, hpl, hrs, Iv, kk⟩
  have hwm : ∀ a o, ¬ avoid C O a → Obj.isSeq o → s₂.heap.get? a = some o → s'.heap.get? a = some o := fun a o ha q e => by
    refine kk a o (avoid_not_M hC ha) ?_ ?_ ?_ e
    · exact fun z => hWS 0 _ hst o (z ▸ e) q
    · exact ne_get e hDn
    · exact ne_get e hLs2
  by_cases hlt : i < items.length
  · have hp : items[i]? = some items[i] := List.getElem?_eq_getElem hlt
    refine W.item i _ s' _ _ hp hS fun v h' tk r hS' hk => ?_
    obtain ⟨ρ₁, hb, hw, b, htest, helt, hno⟩ := body items[i] (List.getElem_mem hlt) L hCc
    have Iv1 : Inv (C.comp scope L (ρc.map (·.1))) ρc ((Str.ofString ".acc", D) :: O) g { s' with heap := h', toks := tk } := Iv.butN hCc hIn.1 hIn.2.2.1 hIL hIcc (hWS2 i _ hS) ⟨rfl, rfl, rfl⟩ fun a o hne e => hk a o hne e
    have hwm' : ∀ a o, ¬ avoid C O a → Obj.isSeq o → s₂.heap.get? a = some o → h'.get? a = some o := fun a o ha q e => hk a o (fun z => hWS 0 _ hst o (z ▸ e) q) (hwm a o ha q e)
    have r' : Rep (avoid (C.comp scope L (ρc.map (·.1))) ((Str.ofString ".acc", D) :: O)) h' v items[i] := r.mono (fun a o ha _ e => av23 a o ha e) hwm'
    have hown : wpAny C.mod C.A (letOwnedTupleGo t (.ref Ia) v) (fun _ s₁' => s₁' = { s' with heap := h', toks := tk }) NoE { s' with heap := h', toks := tk } := by
      rcases ht with ⟨x, p, rfl⟩ | ⟨ts, kk', p, rfl⟩
      · exact wpAny_pure rfl
      · exact W.owned (i + 1) _ _ _ _ _ _ _ hS' rfl
    refine wpAny_mono hown (fun _ s₁' e => ?_) fun _ _ x => x
    subst e
    refine bind_target hCc hb Iv1 r' fun s₅ I5 kb kl => ?_
    have hloc : ∀ x ∈ targetNames t, (C.comp scope L (ρc.map (·.1))).env.kindOf x = some .local := fun x hx => lookup_relabel_local (hok.targets x hx)
    have kl5 := kl hloc
    have hS5 : S (i + 1) s₅.heap := W.frame _ _ _ hS' (fun o e => kl5 Ia o hIL e) fun a o ha q e => kl5 a o (ne_get e hLs2) (hwm' a o ha q e)
    have hpl5 : s₅.heap.PlainList D vs := by obtain ⟨n, e⟩ := hpl; exact ⟨n, kl5 D _ hDL (hk D _ (Ne.symm hID) e)⟩
    have hrs5 : Reps (avoid C ((Str.ofString ".acc", D) :: O)) s₅.heap vs.toList ((items.take i).filterMap f) := by
      have q1 : Reps (avoid (C.comp scope L (ρc.map (·.1))) ((Str.ofString ".acc", D) :: O)) h' vs.toList ((items.take i).filterMap f) := hrs.mono (fun _ _ h _ _ => h) fun a o ha q e => hk a o (fun z => hWS i _ hS o (z ▸ e) q) e
      exact Reps.skeep hCc Iv1 kb q1
    have kk5 : ∀ a o, ¬ C.M a → a ≠ Ia → a ≠ D → a ≠ L → s₂.heap.get? a = some o → s₅.heap.get? a = some o := fun a o h1 h2 h3 h4 e => kl5 a o h4 (hk a o h2 (kk a o h1 h2 h3 h4 e))
    have I5' : Inv (C.comp scope L (ρc.map (·.1))) ρ₁ ((Str.ofString ".acc", D) :: O) g s₅ := I5
    have hT : wpAny C.mod C.A (forIn ifs true fun c r => if r = true then do let ok ← isTrue c (C.comp scope L (ρc.map (·.1))).env (eval c (C.comp scope L (ρc.map (·.1))).env); pure (ForInStep.yield ok) else pure (ForInStep.yield r))
        (fun ok s₆ => ok = b ∧ Step (C.comp scope L (ρc.map (·.1))) g s₅ s₆) NoE s₅ := by
      refine wpAny_tests (b := b) ?_
      rcases htest with ⟨e1, e2⟩ | ⟨c, e1, hc⟩
      · exact .inl ⟨e1, e2, e2.symm, .refl I5'.world⟩
      · exact .inr ⟨c, e1, hc _ s₅ I5'⟩
    refine wpAny_mono hT (fun ok s₆ ⟨e6, st6⟩ => ?_) fun _ _ x => x
    subst e6
    have I6 := I5'.step hCc st6
    have st6k : ∀ a o, ¬ C.M a → s₅.heap.get? a = some o → s₆.heap.get? a = some o := st6.keep
    have hS6 : S (i + 1) s₆.heap := W.frame _ _ _ hS5 (fun o e => st6k Ia o hIn.2.2.1 e) fun a o ha q e => by
      have h4 : a ≠ L := ne_get e hLs2
      have h3 : a ≠ D := ne_get e hDn
      have h2 : a ≠ Ia := fun z => hWS 0 _ hst o (z ▸ e) q
      exact st6k a o (avoid_not_M hC ha) (kk5 a o (avoid_not_M hC ha) h2 h3 h4 e)
    have hpl6 : s₆.heap.PlainList D vs := by obtain ⟨n, e⟩ := hpl5; exact ⟨n, st6k D _ hDM e⟩
    have hrs6 : Reps (avoid C ((Str.ofString ".acc", D) :: O)) s₆.heap vs.toList ((items.take i).filterMap f) := Reps.step (C := C.comp scope L (ρc.map (·.1))) hCc st6 hrs5
    have kk6 : ∀ a o, ¬ C.M a → a ≠ Ia → a ≠ D → a ≠ L → s₂.heap.get? a = some o → s₆.heap.get? a = some o := fun a o h1 h2 h3 h4 e => st6k a o h1 (kk5 a o h1 h2 h3 h4 e)
    cases ok with
    | false =>
      (with_reducible_and_instances (refine rwG ((if_neg Bool.false_ne_true) ..) ?_))
      refine ⟨items.length + 1 - (i + 1), down_lt hlt, i + 1, vs, rfl, hlt, hS6, hpl6, ?_, I6.weak hw, kk6⟩
      ((with_reducible_and_instances (refine rwG ((take_filterMap f items i _ hp) ..) ?_; refine rwG ((hno rfl) ..) ?_)))
      simpa using hrs6
    | true =>
      (with_reducible_and_instances (refine rwG ((if_pos rfl) ..) ?_))
      obtain ⟨y, hy, hel⟩ := helt rfl
      refine wpAny_mono (hel _ s₆ I6) (fun u s₇ ⟨r7, st7⟩ => ?_) fun _ _ x => x
      have I7 := I6.step hCc st7
      have st7k : ∀ a o, ¬ C.M a → s₆.heap.get? a = some o → s₇.heap.get? a = some o := st7.keep
      have hpl7 : s₇.heap.PlainList D vs := by obtain ⟨n, e⟩ := hpl6; exact ⟨n, st7k D _ hDM e⟩
      have hrs7 : Reps (avoid C ((Str.ofString ".acc", D) :: O)) s₇.heap vs.toList ((items.take i).filterMap f) := Reps.step (C := C.comp scope L (ρc.map (·.1))) hCc st7 hrs6
      have hsz := hrs7.length
      simp only [Array.length_toList] at hsz
      have hsz2 : ((items.take i).filterMap f).length ≤ 4096 := Nat.le_trans (List.length_filterMap_le _ _) (Nat.le_trans (by (with_reducible_and_instances (refine rwG (List.length_take ..) ?_)); lia) hlen)
      refine wpAny_list_append_plain hpl7 (fun h8 hpl8 hs8 => ?_) (by show _ ≤ 2 ^ 24; lia)
      have hnew : Reps (avoid C ((Str.ofString ".acc", D) :: O)) s₇.heap (vs.push u).toList ((items.take (i + 1)).filterMap f) := by
        ((with_reducible_and_instances (refine rwG (Array.toList_push ..) ?_; refine rwG ((take_filterMap f items i _ hp) ..) ?_; refine rwG (hy ..) ?_)))
        exact hrs7.append (.cons r7 .nil)
      have noOwn : ∀ y ws, (y, LV.own ws) ∈ ρc → False := fun y ws hy' => by
        rcases hok.env.mem y _ hy' with ⟨e, _⟩ | ⟨p, e, _⟩ <;> cases e
      have I8 : Inv (C.comp scope L (ρc.map (·.1))) ρc ((Str.ofString ".acc", D) :: O) g { s₇ with heap := h8 } :=
        Inv.grow (ρ' := ρc) hCc (I7.weak hw) (x := Str.ofString ".acc") (a := D) List.mem_cons_self hnew hpl8 hs8 (fun y v hy' => .inr ⟨fun ws e _ => noOwn y ws (e ▸ hy'), hy'⟩) rfl (fun ws hw' => (noOwn _ _ hw').elim)
      refine ⟨items.length + 1 - (i + 1), down_lt hlt, i + 1, vs.push u, rfl, hlt, ?_, hpl8, ?_, I8, fun a o h1 h2 h3 h4 e => (hs8.2 a h3).trans (st7k a o h1 (kk6 a o h1 h2 h3 h4 e))⟩
      · refine W.frame _ _ _ hS6 (fun o e => (hs8.2 Ia hID).trans (st7k Ia o hIn.2.2.1 e)) fun a o ha q e => ?_
        have h4 : a ≠ L := ne_get e hLs2
        have h3 : a ≠ D := ne_get e hDn
        have h2 : a ≠ Ia := fun z => hWS 0 _ hst o (z ▸ e) q
        exact (hs8.2 a h3).trans (st7k a o (avoid_not_M hC ha) (kk6 a o (avoid_not_M hC ha) h2 h3 h4 e))
      · exact hnew.mono (fun _ _ h _ _ => h) fun a o ha q e => (hs8.2 a (fun z => ha (.inr ⟨Str.ofString ".acc", by (with_reducible_and_instances (refine rwG (z ..) ?_)); exact List.mem_cons_self⟩))).trans e
  · have hin : i = items.length := by lia
    subst hin
    refine W.done s' _ _ hS fun h' tk hk => ?_
    obtain ⟨mL, hmL, _⟩ := Iv.loc
    refine hend D L mL _ ?_ ?_ (Ns_of hmL fun o e => hk L o (Ne.symm hIL) e) hLs
    · obtain ⟨n, e⟩ := hpl
      rw [List.take_length] at hrs
      refine .list ?_ ⟨n, hk D _ (Ne.symm hID) e⟩ (hrs.mono (fun a o ha _ _ => ?_) fun a o ha q e => hk a o (fun z => hWS _ _ hS o (z ▸ e) q) e)
      · exact (I.new hC hDs).2.2.2
      · rintro (q | ⟨y, q⟩)
        · exact ha (.inl q)
        · exact ha (.inr ⟨y, List.mem_cons_of_mem _ q⟩)
    · refine ⟨?_, fun a o hm e => ?_, hC.stab g _ _ Iv.world fun a o hm e => hk a o (hm.elim (fun hm q => hIn.2.2.1 (q ▸ hm)) fun hr q => by subst q; exact (hWS2 _ _ hS o e).2 hr) e⟩
      · have a1 := Iv.rest
        have a2 := I.rest
        exact ⟨a1.1.trans a2.1.symm, a1.2.1.trans a2.2.1.symm, a1.2.2.trans a2.2.2.symm⟩
      · have h4 : a ≠ L := ne_get e hLs
        have h3 : a ≠ D := ne_get e hDs
        have h2 : a ≠ Ia := ne_get e hfr
        exact hk a o h2 (kk a o hm h2 h3 h4 (st.keep a o hm e))

theorem comp_core (hC : C.Ok) {elt it t : Expr} {ifs : List Expr} {scope : Scope} {pos cpos : Pos} {items : List PV} {ρc : Env'} {f : PV → Option PV} (hok : CompOk C scope t ρ ρc)
    (h : EvIt C ρ g it items g) (hlen : items.length ≤ 4096)
    (ht : (∃ x p, t = .Name x p) ∨ (∃ ts k p, t = .Tuple ts k p))
    (body : ∀ p, p ∈ items → ∀ L, (C.comp scope L (ρc.map (·.1))).Ok → ∃ ρ₁, Binds t p ρc ρ₁ ∧ Weak ρ₁ ρc ∧ CompTurn (C.comp scope L (ρc.map (·.1))) ρ₁ g ifs elt (f p))
    {O : List (Str × Addr)} {s : Shared} (I : Inv C ρ O g s) {use : Option (Value → Sem Unit)} {Q : Value → Shared → Prop}
    (hend : ∀ D L m s', Rep (avoid C O) s'.heap (.ref D) (.list (items.filterMap f)) → Step C g s s' → s'.heap.Ns L m → s.heap.get? L = none → compPost C.mod C.A NoE use Q (.ref D) L (.ok .next) s')
    (hs : ∀ x, foldedSetIterable it C.env x = pure x) :
    wpAny C.mod C.A (comprehension (.ListComp elt [⟨t, it, ifs, 0⟩] scope pos) scope C.env cpos (newList []) false (eval it C.env) use) Q NoE s := by
  have hcs : ∀ n, (n, NameKind.free) ∈ scope.names → (C.env.cells.lookup n).isSome = true := fun n hf => by
    obtain ⟨hk, v, hv⟩ := hok.frees n hf
    rcases hC.kinds n (mem_names I.names hv) with q | q
    · cases hk.symm.trans q
    · exact q.2
  refine wpAny_comprehension_free rfl hs (closureFor_is hcs) hok.kind hok.locals (wpAny_mono (h O s I) (fun x s₁ h1 => wpAny_mono h1 (fun itv s₂ h2 => ?_) fun _ _ x => x) fun _ _ x => x)
  obtain ⟨Ia, S, rfl, W, hst, hfr, st⟩ := h2
  have I2 := I.step hC st
  refine wpAny_newList (items := []) ?_
  have I3 : Inv C ρ ((Str.ofString ".acc", s₂.heap.objs.size) :: O) g { s₂ with heap := s₂.heap.push { cls := .type "list", data := .seq [].toArray } } := I2.addOwn hC (Str.ofString ".acc") rfl
  refine wpAny_newFunctionEnv hok.nocell (by intro y hy; cases hy) (fun h₁ hns hsb => ?_) hok.kind
  have hLn := get_size_none (s₂.heap.push { cls := .type "list", data := .seq [].toArray })
  have k34 : ∀ a o, (s₂.heap.push { cls := .type "list", data := .seq [].toArray }).get? a = some o → h₁.get? a = some o := fun a o e => hsb.extBut a o (Nat.ne_of_lt (Heap.lt_size e)) (Heap.get?_push_of_some _ e)
  have k24 : ∀ a o, s₂.heap.get? a = some o → h₁.get? a = some o := fun a o e => k34 a o (Heap.get?_push_of_some _ e)
  have hD3 := Heap.get?_push_size s₂.heap (o := { cls := .type "list", data := .seq [].toArray }) rfl
  have I4 := I3.step hC (.of_keeps hC I3.world ⟨h₁, s₂.toks + ([] : List (Str × Value)).length, rfl, k34⟩)
  have hCc := comp_ok hC hok I3 hLn
  have Ic := comp_inv hC hok I4 hns
  have hst1 := W.frame 0 _ _ hst (fun o e => k24 _ o e) (fun a o _ _ e => k24 a o e)
  have loop := comp_turn (elt := elt) (it := it) (pos := pos) hC hok hlen ht body I hend W hst hfr st (get_size_none _) (Option.eq_none_iff_forall_ne_some.mpr fun o e => nomatch (Heap.get?_push_of_some _ e).symm.trans hLn) (ne_get hD3 hLn) (I4.own _ _ List.mem_cons_self).2.1 hCc
    ⟨0, #[], rfl, Nat.zero_le _, hst1, ⟨_, k34 _ _ hD3⟩, .nil, Ic, fun a o _ _ _ _ e => k24 a o e⟩
  exact codeAny_compStart_list loop (W.self 0 _ _ _ hst1 loop)

theorem Ev.comp (hC : C.Ok) {elt it t : Expr} {ifs : List Expr} {scope : Scope} {pos : Pos} {items : List PV} {ρc : Env'} {f : PV → Option PV} (hok : CompOk C scope t ρ ρc)
    (h : EvIt C ρ g it items g) (hlen : items.length ≤ 4096)
    (body : ∀ p, p ∈ items → ∀ L, (C.comp scope L (ρc.map (·.1))).Ok → ∃ ρ₁, Binds t p ρc ρ₁ ∧ Weak ρ₁ ρc ∧ CompTurn (C.comp scope L (ρc.map (·.1))) ρ₁ g ifs elt (f p))
    (ht : (∃ x p, t = .Name x p) ∨ (∃ ts k p, t = .Tuple ts k p))
    (hs : ∀ x, foldedSetIterable it C.env x = pure x) :
    Ev C ρ g (.ListComp elt [⟨t, it, ifs, 0⟩] scope pos) (.list (items.filterMap f)) g := fun O s I => by
  rw [eval_ListComp]
  refine comp_core hC hok h hlen ht body I (use := Option.none) (fun D L m s' r st hL hLs => ?_) (hs := hs)
  refine ⟨m, hL, fun h' hs' => ⟨r.sameBut hs' fun a o q e => seq_ne_dict q e hL, ?_⟩⟩
  refine ⟨st.rest, fun a o hm e => (hs'.2 a (ne_get e hLs)).trans (st.keep a o hm e), hC.stab g _ _ st.world fun a o hm e => (hs'.2 a (hm.elim (fun hm z => ?_) fun hr => rec_ne_dict hr e hL)).trans e⟩
  obtain ⟨o', e'⟩ := hC.wm g s.heap a I.world hm
  rw [z, hLs] at e'; cases e'

theorem St1.assignComp (hC : C.Ok) {x : Str} {xp spos : Pos} {elt it t : Expr} {ifs : List Expr} {scope : Scope} {pos : Pos} {items : List PV} {ρc : Env'} {f : PV → Option PV} (hok : CompOk C scope t ρ ρc)
    (h : EvIt C ρ g it items g) (hlen : items.length ≤ 4096)
    (body : ∀ p, p ∈ items → ∀ L, (C.comp scope L (ρc.map (·.1))).Ok → ∃ ρ₁, Binds t p ρc ρ₁ ∧ Weak ρ₁ ρc ∧ CompTurn (C.comp scope L (ρc.map (·.1))) ρ₁ g ifs elt (f p))
    (hp : Put ρ x (.val (.list (items.filterMap f))) ρ') (hP : P .next ρ' g) (hx : C.env.kindOf x = some .local)
    (hsw : swapsWith (.ListComp elt [⟨t, it, ifs, 0⟩] scope pos) (some (.Name x xp)) spos.line C.env = pure true)
    (ht : (∃ x p, t = .Name x p) ∨ (∃ ts k p, t = .Tuple ts k p))
    (hs : ∀ x, foldedSetIterable it C.env x = pure x) :
    St1 C ρ g (.Assign [.Name x xp] (.ListComp elt [⟨t, it, ifs, 0⟩] scope pos) spos) P := fun O s I => by
  (with_reducible_and_instances (refine rwG ((exec_Assign_Name_used _ _ _ _ hsw) ..) ?_))
  refine wpAny_bind (wpAny_standAt (wpAny_bind ?_))
  show wpAny _ C.A (do let _ ← comprehension (.ListComp elt [⟨t, it, ifs, 0⟩] scope pos) scope C.env _ (newList []) false (eval it C.env) (some (PySem.assign (.Name x xp) C.env))) _ _ s
  refine wpAny_bind (wpAny_mono (comp_core hC hok h hlen ht body I (use := some (PySem.assign (.Name x xp) C.env)) (Q := fun _ s' => Post C O s P .next s') (fun D L m s' r st hL hLs => ?_) (hs := hs)) (fun _ s' hq => wpAny_pure (wpAny_pure hq)) fun _ _ e => e)
  have I' := I.step hC st
  show wpAny _ C.A (PySem.assign (.Name x xp) C.env (.ref D)) _ _ _
  have hLl : L ≠ C.env.locals := by
    rintro rfl
    obtain ⟨m0, ⟨o, _, _, e, _⟩, _⟩ := I.loc
    cases hLs.symm.trans e
  refine wpAny_assign_Name (store_val hC I' r hp fun s'' I'' k kl => ?_)
  have hL'' : s''.heap.Ns L m := Ns_of hL fun o e => kl hx L o hLl e
  refine ⟨m, hL'', fun h' hs' => ?_⟩
  have hn := I.new hC hLs
  have I3 : Inv C ρ' O g { s'' with heap := h' } := by
    refine I''.butN hC hn.1 hn.2.2.1 hLl ?_ (fun o e => ⟨fun q => ?_, fun q => rec_ne_dict q e hL'' rfl⟩) ⟨rfl, rfl, rfl⟩ fun a o hne e => (hs'.2 a hne).trans e
    · rintro ⟨y, hy⟩
      obtain ⟨v, o, e, _⟩ := I.cells y L hy
      cases hLs.symm.trans e
    · exact seq_ne_dict q e hL'' rfl
  refine ⟨.next, ρ', O, g, hP, .next, I3, ?_⟩
  have k0 := (st.skeep (O := O) hC).trans k
  refine ⟨fun a o h1 h2 h3 h4 e => (hs'.2 a (ne_get e hLs)).trans (k0.keep a o h1 h2 h3 h4 e), k0.grow, fun a o e => ?_⟩
  obtain ⟨o', e'⟩ := k0.pres a o e
  exact ⟨o', (hs'.2 a (ne_get e hLs)).trans e'⟩
end
end Mine.Internal
end

section
namespace Mine.Internal
open PySem PySem.Calls PyProof.Rows

section
variable {C : Cx} {ρ ρ' ρ₁ : Env'} {g g' g₁ g₂ : C.G} {P P' : Fl → Env' → C.G → Prop}

theorem Ev.globT (hC : C.Ok) {x : Str} {pos : Pos} {n : String} (hg : GlobIs C x (.type n)) : Ev C ρ g (.Name x pos) (.ty n) g := fun O s I => eval_glob hC hg I ⟨.ty n, .refl I.world⟩
theorem call_isiInt {i : Int} : OpL C (fun us => call (.builtin "isinstance") us) [.int i, .ty "int"] (.bool true) := fun X s us hX r => by
  refine Reps.twoE r fun u v h1 h2 => ?_
  refine Rep.intE h1 fun t => ?_
  (with_reducible_and_instances (refine rwG (h2.tyE ..) ?_))
  exact PySem.IsiPair.int_int ⟨.bool _, keeps_refl⟩
theorem call_isiBool {i : Int} : OpL C (fun us => call (.builtin "isinstance") us) [.int i, .ty "bool"] (.bool false) := fun X s us hX r => by
  refine Reps.twoE r fun u v h1 h2 => ?_
  refine Rep.intE h1 fun t => ?_
  (with_reducible_and_instances (refine rwG (h2.tyE ..) ?_))
  exact PySem.IsiPair.int_bool ⟨.bool _, keeps_tok⟩

theorem St1.assignTup (hC : C.Ok) {ts : List Expr} {k : Nat} {tp pos : Pos} {e : Expr} {vs : List PV} (h : Ev C ρ g e (.tup vs) g₁) (hb : BindsL ts vs ρ ρ') (hP : P .next ρ' g₁)
    (hs : swapsWithSole [.Tuple ts k tp] e pos.line C.env = pure false) (hw : swappedStores [.Tuple ts k tp] e C.env = pure none) : St1 C ρ g (.Assign [.Tuple ts k tp] e pos) P := fun O s I =>
  Assign_Tuple (wpAny_mono (h O s I) (fun u s₁ ⟨r, st⟩ => bind_target hC (.tup hb) (I.step hC st) r fun s' I' k _ => ⟨.next, ρ', O, g₁, hP, .next, I', (st.skeep hC).trans k⟩) fun _ _ x => x) hs hw

theorem reps_strs {X : Addr → Prop} {h : Heap} : ∀ {vs : List Value} {xs : List (List Nat)}, Reps X h vs (xs.map PV.str) → StrsAre vs (xs.map fun x => (⟨x.toArray⟩ : Str))
  | _, [], .nil => .nil
  | _, x :: xs, .cons a r => by
    cases a
    exact .cons _ _ (reps_strs r)
theorem glued_go (l : List (List Nat)) : ∀ acc : Array Nat, ((l.map fun x => (⟨x.toArray⟩ : Str)).foldl (fun acc p => acc ++ (#[] : Array Nat) ++ p.cps) acc).toList = acc.toList ++ l.flatten := by
  induction l with
  | nil => intro acc; simp
  | cons x l ih => intro acc; ((with_reducible_and_instances (refine rwG (List.map_cons ..) ?_; refine rwG (List.foldl_cons ..) ?_)); rewrite [ih]); simp
theorem glued_nil (xs : List (List Nat)) : Txt.join ⟨#[]⟩ (xs.map fun x => (⟨x.toArray⟩ : Str)) = ⟨xs.flatten.toArray⟩ := by
  show (⟨_⟩ : Str) = _
  congr 1
  apply Array.ext'
  cases xs with
  | nil => rfl
  | cons x xs =>
    (with_reducible_and_instances (refine rwG (List.map_cons ..) ?_))
    show (List.foldl _ (x.toArray) (List.map _ xs)).toList = _
    rw [glued_go]
    simp
theorem Ev.join (hC : C.Ok) {x : Str} {k : Nat} {cp apos pos : Pos} {e : Expr} {xs : List (List Nat)} (hx : x.cps.toList = []) (h : Ev C ρ g e (.list (xs.map .str)) g₁) (hn : (xs.map List.length).sum ≤ 16777216)
    (hline : (apos.endLine == pos.line) = true)
    (hfew : ((backTo pos (starEach [e] C.env)).all (fun x => !x.1) && (backToKw pos (keywordEach [] C.env)).all (fun x => x.1.isSome)
      && decide (([e] : List Expr).length + ([] : List Keyword).length + (if ([] : List Keyword).isEmpty then 0 else 1) < 30)) = true)
    (htrees : backTo pos (starEach [e] C.env) = [(false, eval e C.env)]) :
    Ev C ρ g (.Call (.Attribute (.Constant (.str x) k cp) "join" apos) [e] [] pos) (.str xs.flatten) g₁ := fun O s I => by
  refine wpAny_Call_method rfl hfew hline PySem.F.plainAttrs_str PySem.F.slot_str_join PySem.F.type_str_join (wpAny_Constant_str ⟨typeIs_str _ _ _, (fun a e => nomatch e), ?_⟩)
  (with_reducible_and_instances (refine rwG (htrees ..) ?_))
  have st0 : Step C g s { s with toks := s.toks + 1 } := .of_keeps hC I.world keeps_tok
  have I0 := I.step hC st0
  refine callWith_builtin rfl (evalArgs_any rfl (spliced_cons (wpAny_mono (h O _ I0) (fun u s₁ ⟨r, st⟩ => spliced_nil ?_) fun _ _ x => x)))
  have I1 := I0.step hC st
  have ex : x = ⟨#[]⟩ := by cases x with | mk cps => simp at hx; simp [hx]
  subst ex
  · refine Rep.listE r fun a vs ha hl hr => ?_
    refine join_list hl.isList (reps_strs hr) ?_ fun t' kk => ?_
    · simp only [List.map_map, List.length_map]
      have e1 : (xs.map ((fun (y : Str) => y.length) ∘ fun x => (⟨x.toArray⟩ : Str))) = xs.map List.length := by
        apply List.map_congr_left
        intro y _
        exact str_length y
      (with_reducible_and_instances (refine rwG (e1 ..) ?_))
      simpa [Str.length] using hn
    · rw [glued_nil]
      exact ⟨.str _ _, (st0.trans st).trans (.of_keeps hC I1.world keeps_tok)⟩

end
end Mine.Internal
end

section
namespace Mine.Internal
open PySem PySem.Calls PyProof.Rows

structure Wd where
  M : Addr → Prop
  G : Type
  W : G → Heap → Prop
structure Wd.Ok (V : Wd) : Prop where
  wm : ∀ g h a, V.W g h → V.M a → ∃ o, h.get? a = some o
  stab : ∀ g h h', V.W g h → (∀ a o, (V.M a ∨ Obj.isRec o) → h.get? a = some o → h'.get? a = some o) → V.W g h'

noncomputable def FnW (prog : Program) (w : World) (T : Heap → Prop) (V : Wd) (d : Nat) (f : Value) (g : V.G) (ps : List PV) (r : PV) (g' : V.G) : Prop :=
  ∀ (A : Around) (X : Addr → Prop) (s : Shared) (us : List Value), Room d A → T s.heap → (∀ a, s.heap.get? a = none → ¬ X a) → (∀ a, V.M a → X a) → V.W g s.heap → Reps X s.heap us ps →
    codeAny (model prog w) A (.call f ⟨us, []⟩) (fun r' s' => match r' with | .ok (.ret z) => Rep X s'.heap z r ∧ (s'.gens = s.gens ∧ s'.drawn = s.drawn ∧ s'.os = s.os) ∧ (∀ a o, ¬ V.M a → s.heap.get? a = some o → s'.heap.get? a = some o) ∧ V.W g' s'.heap | .ok _ => False | .error e => NoE e s') s
theorem FnW.wp {prog : Program} {w : World} {T : Heap → Prop} {V : Wd} {d : Nat} {f : Value} {g : V.G} {ps : List PV} {r : PV} {g' : V.G} (h : FnW prog w T V d f g ps r g') (A : Around) (X : Addr → Prop) (s : Shared) (us : List Value) (hR : Room d A) (hT : T s.heap) (hX : ∀ a, s.heap.get? a = none → ¬ X a) (hM : ∀ a, V.M a → X a) (hW : V.W g s.heap) (hr : Reps X s.heap us ps) :
    wpAny (model prog w) A (call f us) (fun z s' => Rep X s'.heap z r ∧ (s'.gens = s.gens ∧ s'.drawn = s.drawn ∧ s'.os = s.os) ∧ (∀ a o, ¬ V.M a → s.heap.get? a = some o → s'.heap.get? a = some o) ∧ V.W g' s'.heap) NoE s :=
  wpAny_call (h A X s us hR hT hX hM hW hr)

theorem ret_of {r : Result} {Q : Value → Prop} {E : Value → Prop} (h : match r with | .ok (.ret z) => Q z | .ok _ => False | .error e => E e) (hE : ∀ e, ¬ E e) : ∃ z, r = .ok (.ret z) ∧ Q z := by
  cases r with
  | ok f => cases f with
    | ret z => exact ⟨z, rfl, h⟩
    | _ => exact h.elim
  | error e => exact (hE e h).elim

noncomputable def frameW (prog : Program) (w : World) (T : Heap → Prop) (V : Wd) (d : Nat) (fd : FuncData) (names : List Str) (a : Addr) (cells : List (Str × Addr)) (A : Around) (X : Addr → Prop) (s : Shared) : Cx :=
  { prog, w, A := A.deeper (newEnv fd.scope s.heap.objs.size fd.globals cells (fd.qualname ++ ".<locals>.") (some a) fd.code none fd.builtins),
    env := newEnv fd.scope s.heap.objs.size fd.globals cells (fd.qualname ++ ".<locals>.") (some a) fd.code none fd.builtins, Z := fun _ => False,
    s₀ := s, F := fun b => s.heap.get? b = none, X, M := V.M, G := V.G, W := V.W, names, T, d }

theorem frameW_ok {prog : Program} {w : World} {T : Heap → Prop} {V : Wd} {d : Nat} {fd : FuncData} {names : List Str} {a : Addr} {cells : List (Str × Addr)} {A : Around} {X : Addr → Prop} {s : Shared} {g : V.G} (hV : V.Ok)
    (hT : ∀ h h' : Heap, T h → (∀ b o, ¬ V.M b → h.get? b = some o → h'.get? b = some o) → T h') (hR : Room (d + 1) A) (hTs : T s.heap) (hX : ∀ a, s.heap.get? a = none → ¬ X a) (hMX : ∀ a, V.M a → X a) (hw : V.W g s.heap)
    (hk : fd.scope.kind = .function) (hcF : ∀ y c, (newEnv fd.scope s.heap.objs.size fd.globals cells (fd.qualname ++ ".<locals>.") (some a) fd.code none fd.builtins).kindOf y = some .cell → cells.lookup y = some c → s.heap.get? c = none)
    (hcM : ∀ y c, cells.lookup y = some c → ¬ V.M c) (hinj : ∀ x y c, cells.lookup x = some c → cells.lookup y = some c → x = y) (hnd : names.Nodup)
    (hkinds : ∀ x ∈ names, fd.scope.names.lookup x = some .local ∨ ((fd.scope.names.lookup x = some .cell ∨ fd.scope.names.lookup x = some .free) ∧ (cells.lookup x).isSome = true))
    (hdbg : ∀ x ∈ names, (x == ("__debug__" : Str)) = false ∧ (x == ("__classdict__" : Str)) = false) : (frameW prog w T V d fd names a cells A X s).Ok := {
  kind := hk
  handled := hR.handled
  depth := by have := hR.depth; show A.depth + 1 + d < recursionLimit; lia
  units := by have := hR.units; show A.units + 3 + 20 * d + 200 < cLine; lia
  top := fun h q => hT _ _ hTs fun b o hm e => q b o (fun n => by have n' : s.heap.get? b = none := n; cases n'.symm.trans e) hm e
  locF := get_size_none _
  locM := fun m => by obtain ⟨o, e⟩ := hV.wm g _ _ hw m; rw [show (frameW prog w T V d fd names a cells A X s).env.locals = s.heap.objs.size from rfl, get_size_none] at e; cases e
  cellM := hcM
  cellF := fun y c h _ hc => hcF y c h hc
  inj := hinj
  fresh := fun _ h => h
  mx := hMX
  xf := fun b hx hn => hX b hn hx
  xs := fun b hx => by
    show ∃ o, s.heap.get? b = some o
    cases q : s.heap.get? b with
    | none => exact absurd hx (hX b q)
    | some o => exact ⟨o, rfl⟩
  wm := hV.wm
  stab := hV.stab
  nodup := hnd
  kinds := hkinds
  notDebug := hdbg }

theorem frameW_end {prog : Program} {w : World} {T : Heap → Prop} {V : Wd} {d : Nat} {fd : FuncData} {names : List Str} {a : Addr} {cells : List (Str × Addr)} {A : Around} {X : Addr → Prop} {s s' : Shared} {ρ' : Env'} {O' : List (Str × Addr)} {g' : V.G}
    (I' : Inv (frameW prog w T V d fd names a cells A X s) ρ' O' g' s') : (s'.gens = s.gens ∧ s'.drawn = s.drawn ∧ s'.os = s.os) ∧ (∀ a o, ¬ V.M a → s.heap.get? a = some o → s'.heap.get? a = some o) ∧ V.W g' s'.heap :=
  ⟨I'.rest, fun b o hm e => I'.old b o (fun n => by have n' : s.heap.get? b = none := n; cases n'.symm.trans e) hm e, I'.world⟩

theorem FnW.intro {prog : Program} {w : World} {T : Heap → Prop} {V : Wd} {d : Nat} {a : Addr} {o : Obj} {fd : FuncData} {body : List Stmt} {pn rest : List Str} {ps : List PV} {r : PV} {g g' : V.G} (hV : V.Ok)
    (hT : ∀ h h' : Heap, T h → (∀ b o, ¬ V.M b → h.get? b = some o → h'.get? b = some o) → T h')
    (hf : ∀ h, T h → h.get? a = some o ∧ h.CodeRec fd.code fd.qualname ∧ h.NoLimit) (hd : o.data = .func fd) (hb : fd.body = .stmts body) (hclo : fd.closure = [])
    (hbind : ∀ vals : List Value, vals.length = pn.length → bindArgs fd ⟨vals, []⟩ = pure (pn.zip vals)) (hlen : ps.length = pn.length)
    (hnd : (pn ++ rest).Nodup) (hkinds : ((pn ++ rest).all fun x => fd.scope.names.lookup x == some .local || fd.scope.names.lookup x == some .cell) = true)
    (hdbg : ((pn ++ rest).all fun x => !(x == ("__debug__" : Str)) && !(x == ("__classdict__" : Str))) = true)
    (hco : fd.scope.isCoroutine = false) (hgen : fd.scope.isGenerator = false) (hk : fd.scope.kind = .function)
    (hbody : ∀ cells A X s, (frameW prog w T V d fd (pn ++ rest) a cells A X s).Ok →
      St (frameW prog w T V d fd (pn ++ rest) a cells A X s) (startEnv pn rest ps) g body (fun fl _ g₁ => (fl = .ret r ∨ (fl = .next ∧ r = .none)) ∧ g₁ = g')) :
    FnW prog w T V (d + 1) (.ref a) g ps r g' := by
  intro A X s us hR hTs hX hMX hw hr
  have hlu : us.length = pn.length := by ((with_reducible_and_instances (refine rwG (hr.length ..) ?_; refine rwG (hlen ..) ?_)); (with_reducible rfl))
  have ndp : ((pn.zip us).map (·.1)).Nodup := by (with_reducible_and_instances (refine rwG ((zip_fst hlu) ..) ?_)); exact (List.nodup_append.mp hnd).1
  have hkd : ∀ x ∈ pn ++ rest, fd.scope.names.lookup x = some .local ∨ fd.scope.names.lookup x = some .cell := fun x hx => by
    have := List.all_eq_true.mp hkinds x hx
    simpa using this
  refine codeAny_call_cells (body := body) (by have := hR.depth; lia) (hf _ hTs).1 hd (hf _ hTs).2.2 (hf _ hTs).2.1 hb (hbind us hlu) hclo ?_ ?_ hco hgen hk
  · intro x hx
    have hx' : x.1 ∈ pn := by have := List.mem_map_of_mem (f := (·.1)) hx; rw [zip_fst hlu] at this; exact this
    rcases hkd x.1 (List.mem_append_left _ hx') with h | h
    · exact .inl h
    · exact .inr ⟨h, PySem.W.cellsFrom_some _ _ _ (.inl h)⟩
  · intro s₁ x
    have hcells : ∀ y c, (callEnvC fd s.heap.objs.size a).cells.lookup y = some c → s.heap.get? c = none := fun y c hc => none_of_le (Nat.le_of_lt (x.above y c (mem_of_lookup hc)))
    have hC : (frameW prog w T V d fd (pn ++ rest) a (cellsFrom (s.heap.objs.size + 1) fd.scope.names []) A X s).Ok := frameW_ok hV hT hR hTs hX hMX hw hk (fun y c _ hc => hcells y c hc)
      (fun y c hc m => by obtain ⟨o, e⟩ := hV.wm g _ _ hw m; rw [hcells y c hc] at e; cases e)
      (fun y z c h1 h2 => name_of_addr x.apart (mem_of_lookup h1) (mem_of_lookup h2)) hnd
      (fun y hy => (hkd y hy).imp id fun h => ⟨.inl h, PySem.W.cellsFrom_some _ _ _ (.inl h)⟩)
      (fun y hy => by have := List.all_eq_true.mp hdbg y hy; simpa using this)
    obtain ⟨h₁, tk, e1, hk₁⟩ := x.done
    subst e1
    have nf : ∀ y ∈ pn ++ rest, Rw (frameW prog w T V d fd (pn ++ rest) a (cellsFrom (s.heap.objs.size + 1) fd.scope.names []) A X s) y := fun y hy => by
      refine ⟨fun e => ?_, id⟩
      rcases hkd y hy with h | h
      · have : some NameKind.local = some NameKind.free := h.symm.trans e
        cases this
      · have : some NameKind.cell = some NameKind.free := h.symm.trans e
        cases this
    have I : Inv (frameW prog w T V d fd (pn ++ rest) a (cellsFrom (s.heap.objs.size + 1) fd.scope.names []) A X s) (startEnv pn rest ps) [] g { s with heap := h₁, toks := tk } := by
      refine ⟨⟨rfl, rfl, rfl⟩, fun b o _ _ e => hk₁ b o e, hV.stab _ _ _ hw fun b o _ e => hk₁ b o e, ?_, ⟨_, x.toInCall.ns, fun y v hy => ?_⟩, fun y c hc => ⟨_, x.cell y c hc⟩, fun _ _ h => (nomatch h), fun _ _ _ h => (nomatch h)⟩
      · show (startEnv pn rest ps).map (·.1) = pn ++ rest
        (rewrite [startEnv]; (with_reducible_and_instances (refine rwG (List.map_append ..) ?_; refine rwG ((zip_fst (by simpa using hlen)) ..) ?_; refine rwG (List.map_map ..) ?_)))
        congr 1
        exact List.map_id _
      · rcases List.mem_append.mp hy with h | h
        · obtain ⟨p, u, rfl, hu, hrp⟩ := zip_vals hr h
          have hyp : y ∈ pn := by have := List.mem_map_of_mem (f := (·.1)) hu; rw [zip_fst hlu] at this; exact this
          refine ⟨nf y (List.mem_append_left _ hyp), u, ?_, hrp.mono (fun b o hb _ e => ?_) fun b o _ _ e => hk₁ b o e⟩
          · rcases hkd y (List.mem_append_left _ hyp) with h | h
            · exact .inl ⟨h, bindL_mem _ _ _ _ ndp hu h⟩
            · have hs : ((callEnvC fd s.heap.objs.size a).cells.lookup y).isSome = true := PySem.W.cellsFrom_some _ _ _ (.inl h)
              obtain ⟨c, hc⟩ := Option.isSome_iff_exists.mp hs
              have hne : (callEnvC fd s.heap.objs.size a).kindOf y ≠ some .local := fun e => by
                have : some NameKind.cell = some NameKind.local := h.symm.trans e
                cases this
              refine .inr ⟨.inl h, c, hc, ?_⟩
              have := x.cell y c hc
              rw [bindC_mem _ _ _ _ ndp hu hne] at this
              exact this
          · rintro (q | ⟨_, q⟩)
            · exact hb q
            · cases q
        · obtain ⟨z, hz, e⟩ := List.mem_map.mp h
          cases e
          exact nf y (List.mem_append_right _ hz)
    refine wpAny_mono (hbody _ A X s hC [] _ I) (fun f s' ⟨fl, ρ', O', g₁, ⟨hP, hg⟩, hfl, I', k⟩ => ?_) fun _ _ h => h.elim
    subst hg
    have hXr : ∀ {u : Value} {p : PV}, Rep (avoid (frameW prog w T V d fd (pn ++ rest) a (cellsFrom (s.heap.objs.size + 1) fd.scope.names []) A X s) O') s'.heap u p → Rep X s'.heap u p := fun q => q.mono (fun b o hb _ _ hx => hb (.inl hx)) fun _ _ _ _ e => e
    rcases hP with rfl | ⟨rfl, rfl⟩
    · cases hfl with
      | ret q => exact ⟨hXr q, frameW_end I'⟩
    · cases hfl
      exact ⟨.none, frameW_end I'⟩

noncomputable def V0 : Wd := ⟨fun _ => False, Unit, fun _ _ => True⟩
theorem V0.ok : V0.Ok := ⟨fun _ _ _ _ m => m.elim, fun _ _ _ _ _ => trivial⟩
theorem keeps_of {s s' : Shared} (h1 : s'.gens = s.gens ∧ s'.drawn = s.drawn ∧ s'.os = s.os) (h2 : ∀ a o, s.heap.get? a = some o → s'.heap.get? a = some o) : Keeps s s' :=
  ⟨s'.heap, s'.toks, by ((with_reducible_and_instances (refine rwL (h1.1 ..) ?_; refine rwL (h1.2.1 ..) ?_; refine rwL (h1.2.2 ..) ?_)); (with_reducible rfl)), h2⟩
theorem Fn.intro {prog : Program} {w : World} {T : Heap → Prop} {d : Nat} {a : Addr} {o : Obj} {fd : FuncData} {body : List Stmt} {pn rest : List Str} {ps : List PV} {r : PV}
    (hT : ∀ h h' : Heap, T h → (∀ b o, h.get? b = some o → h'.get? b = some o) → T h')
    (hf : ∀ h, T h → h.get? a = some o ∧ h.CodeRec fd.code fd.qualname ∧ h.NoLimit) (hd : o.data = .func fd) (hb : fd.body = .stmts body) (hclo : fd.closure = [])
    (hbind : ∀ vals : List Value, vals.length = pn.length → bindArgs fd ⟨vals, []⟩ = pure (pn.zip vals)) (hlen : ps.length = pn.length)
    (hnd : (pn ++ rest).Nodup) (hkinds : ((pn ++ rest).all fun x => fd.scope.names.lookup x == some .local || fd.scope.names.lookup x == some .cell) = true)
    (hdbg : ((pn ++ rest).all fun x => !(x == ("__debug__" : Str)) && !(x == ("__classdict__" : Str))) = true)
    (hco : fd.scope.isCoroutine = false) (hgen : fd.scope.isGenerator = false) (hk : fd.scope.kind = .function)
    (hbody : ∀ (C : Cx) (g : C.G), FrameOf C prog w T d fd → St C (startEnv pn rest ps) g body (fun fl _ _ => fl = .ret r ∨ (fl = .next ∧ r = .none))) :
    Fn prog w T (d + 1) (.ref a) ps r := fun A X s us hR hTs hX hr =>
  wpAny_mono (FnW.wp (FnW.intro (V := V0) (g := ()) (g' := ()) V0.ok (fun h h' t k => hT h h' t fun b o e => k b o id e) hf hd hb hclo hbind hlen hnd hkinds hdbg hco hgen hk fun cells A X s ok => StP.mono (hbody (frameW prog w T V0 d fd (pn ++ rest) a cells A X s) (show V0.G from ()) ⟨ok, rfl, rfl, rfl, rfl, rfl, rfl, rfl, rfl, fun _ h => h⟩) fun _ _ _ q => ⟨q, rfl⟩) A X s us hR hTs hX (fun _ m => m.elim) trivial hr)
    (fun z s' q => ⟨q.1, keeps_of q.2.1 fun a o e => q.2.2.1 a o id e⟩) fun _ _ x => x

theorem lookup_nodup {α : Type} : ∀ {l : List (Str × α)}, (l.map (·.1)).Nodup → ∀ {y : Str} {u : α}, (y, u) ∈ l → l.lookup y = some u
  | [], _, _, _, h => nomatch h
  | (z, w) :: l, nd, y, u, h => by
    rw [List.map_cons, List.nodup_cons] at nd
    rcases List.mem_cons.mp h with e | e
    · cases e; ((with_reducible_and_instances (refine rwG (List.lookup_cons ..) ?_; refine rwG (BEq.rfl ..) ?_)); (with_reducible rfl))
    · have hne : (y == z) = false := by
        rw [beq_eq_false_iff_ne]; rintro rfl; exact nd.1 (List.mem_map.mpr ⟨_, e, rfl⟩)
      ((with_reducible_and_instances (refine rwG (List.lookup_cons ..) ?_; refine rwG (hne ..) ?_)))
      exact lookup_nodup nd.2 e

theorem FnW.introC {prog : Program} {w : World} {T : Heap → Prop} {V : Wd} {d : Nat} {a : Addr} {o : Obj} {fd : FuncData} {body : List Stmt} {pn rest : List Str} {frees : List (Str × PV)} {ps : List PV} {r : PV} {g g' : V.G} (hV : V.Ok)
    (hT : ∀ h h' : Heap, T h → (∀ b o, ¬ V.M b → h.get? b = some o → h'.get? b = some o) → T h')
    (hf : ∀ g h, T h → V.W g h → h.get? a = some o ∧ h.CodeRec fd.code fd.qualname ∧ h.NoLimit) (hd : o.data = .func fd) (hb : fd.body = .stmts body)
    (hbind : ∀ vals : List Value, vals.length = pn.length → bindArgs fd ⟨vals, []⟩ = pure (pn.zip vals)) (hlen : ps.length = pn.length)
    (hnd : (pn ++ rest ++ frees.map (·.1)).Nodup) (hkinds : ((pn ++ rest).all fun x => fd.scope.names.lookup x == some .local) = true)
    (hnocell : ∀ x ∈ fd.scope.names, x.2 ≠ .cell)
    (hfree : ∀ y p, (y, p) ∈ frees → fd.scope.names.lookup y = some .free ∧ ∃ c, fd.closure.lookup y = some c ∧ ∀ h, T h → ∃ u, h.IsCell c (some u) ∧ ∀ X h', Rep X h' u p)
    (hclos : ∀ y c, fd.closure.lookup y = some c → ¬ V.M c ∧ ∀ h, T h → ∃ v, h.IsCell c v) (hinj : ∀ x y c, fd.closure.lookup x = some c → fd.closure.lookup y = some c → x = y)
    (hdbg : ((pn ++ rest ++ frees.map (·.1)).all fun x => !(x == ("__debug__" : Str)) && !(x == ("__classdict__" : Str))) = true)
    (hco : fd.scope.isCoroutine = false) (hgen : fd.scope.isGenerator = false) (hk : fd.scope.kind = .function) (hncl : ∀ y, fd.scope.names.lookup y ≠ some .cell)
    (hbody : ∀ A X s, (frameW prog w T V d fd (pn ++ rest ++ frees.map (·.1)) a fd.closure A X s).Ok →
      St (frameW prog w T V d fd (pn ++ rest ++ frees.map (·.1)) a fd.closure A X s) (startEnv pn rest ps ++ frees.map fun y => (y.1, LV.ro y.2)) g body (fun fl _ g₁ => (fl = .ret r ∨ (fl = .next ∧ r = .none)) ∧ g₁ = g')) :
    FnW prog w T V (d + 1) (.ref a) g ps r g' := by
  intro A X s us hR hTs hX hMX hw hr
  have hlu : us.length = pn.length := by ((with_reducible_and_instances (refine rwG (hr.length ..) ?_; refine rwG (hlen ..) ?_)); (with_reducible rfl))
  have ndp : ((pn.zip us).map (·.1)).Nodup := by (with_reducible_and_instances (refine rwG ((zip_fst hlu) ..) ?_)); exact (List.nodup_append.mp (List.nodup_append.mp hnd).1).1
  have hkd : ∀ x ∈ pn ++ rest, fd.scope.names.lookup x = some .local := fun x hx => by
    have := List.all_eq_true.mp hkinds x hx
    simpa using this
  refine codeAny_call_function (by have := hR.depth; lia) (hf _ _ hTs hw).1 hd hco hgen hb (hf _ _ hTs hw).2.1 ?_
  (with_reducible_and_instances (refine rwG ((hbind us hlu) ..) ?_))
  refine wpAny_pure (wpAny_newFunctionEnv hnocell ?_ (fun h₁ hns hsb => ?_) hk)
  · intro x hx
    have hx' : x.1 ∈ pn := by have := List.mem_map_of_mem (f := (·.1)) hx; rw [zip_fst hlu] at this; exact this
    exact hkd x.1 (List.mem_append_left _ hx')
  have hk₁ : ∀ b o, s.heap.get? b = some o → h₁.get? b = some o := fun b o e => hsb.extBut b o (Nat.ne_of_lt (Heap.lt_size e)) (Heap.get?_push_of_some _ e)
  refine ⟨(hf _ _ hTs hw).2.2.keeps hk₁, codeAny_func ?_⟩
  have hC : (frameW prog w T V d fd (pn ++ rest ++ frees.map (·.1)) a fd.closure A X s).Ok := frameW_ok hV hT hR hTs hX hMX hw hk (fun y c hy _ => absurd hy (hncl y)) (fun y c hc => (hclos y c hc).1) hinj hnd
    (fun y hy => by
      rcases List.mem_append.mp hy with h | h
      · exact .inl (hkd y h)
      · obtain ⟨z, hz, rfl⟩ := List.mem_map.mp h
        obtain ⟨q1, c, q2, _⟩ := hfree z.1 z.2 hz
        exact .inr ⟨.inr q1, by (with_reducible_and_instances (refine rwG (q2 ..) ?_)); rfl⟩)
    (fun y hy => by have := List.all_eq_true.mp hdbg y hy; simpa using this)
  have nf : ∀ y ∈ pn ++ rest, Rw (frameW prog w T V d fd (pn ++ rest ++ frees.map (·.1)) a fd.closure A X s) y := fun y hy => by
    refine ⟨fun e => ?_, id⟩
    have : some NameKind.local = some NameKind.free := (hkd y hy).symm.trans e
    cases this
  have hrev : ∀ y u, (y, u) ∈ pn.zip us → (pn.zip us).reverse.lookup y = some u := fun y u hy => by
    have nd' : ((pn.zip us).reverse.map (·.1)).Nodup := by (with_reducible_and_instances (refine rwG (List.map_reverse ..) ?_)); exact (List.reverse_perm _).nodup_iff.mpr ndp
    exact lookup_nodup nd' (List.mem_reverse.mpr hy)
  have I : Inv (frameW prog w T V d fd (pn ++ rest ++ frees.map (·.1)) a fd.closure A X s) (startEnv pn rest ps ++ frees.map fun y => (y.1, LV.ro y.2)) [] g { s with heap := h₁, toks := s.toks + (pn.zip us).length } := by
    refine ⟨⟨rfl, rfl, rfl⟩, fun b o _ _ e => hk₁ b o e, hV.stab _ _ _ hw fun b o _ e => hk₁ b o e, ?_, ⟨_, hns, fun y v hy => ?_⟩, fun y c hc => ?_, fun _ _ h => (nomatch h), fun _ _ _ h => (nomatch h)⟩
    · show (startEnv pn rest ps ++ frees.map fun y => (y.1, LV.ro y.2)).map (·.1) = pn ++ rest ++ frees.map (·.1)
      (rewrite [startEnv]; (with_reducible_and_instances (refine rwG (List.map_append ..) ?_; refine rwG (List.map_append ..) ?_; refine rwG ((zip_fst (by simpa using hlen)) ..) ?_; refine rwG (List.map_map ..) ?_; refine rwG (List.map_map ..) ?_)))
      congr 1
      congr 1
      exact List.map_id _
    · rcases List.mem_append.mp hy with hy | hy
      · rcases List.mem_append.mp hy with h | h
        · obtain ⟨p, u, rfl, hu, hrp⟩ := zip_vals hr h
          have hyp : y ∈ pn := by have := List.mem_map_of_mem (f := (·.1)) hu; rw [zip_fst hlu] at this; exact this
          refine ⟨nf y (List.mem_append_left _ hyp), u, .inl ⟨hkd y (List.mem_append_left _ hyp), hrev y u hu⟩, hrp.mono (fun b o hb _ e => ?_) fun b o _ _ e => hk₁ b o e⟩
          rintro (q | ⟨_, q⟩)
          · exact hb q
          · cases q
        · obtain ⟨z, hz, e⟩ := List.mem_map.mp h
          cases e
          exact nf y (List.mem_append_right _ hz)
      · obtain ⟨z, hz, e⟩ := List.mem_map.mp hy
        cases e
        obtain ⟨q1, c, q2, q3⟩ := hfree z.1 z.2 hz
        obtain ⟨u, hu, hrep⟩ := q3 _ hTs
        exact ⟨u, .inr ⟨.inr q1, c, q2, hu.keeps hk₁⟩, hrep _ _⟩
    · obtain ⟨v, hv⟩ := (hclos y c hc).2 _ hTs
      exact ⟨v, hv.keeps hk₁⟩
  refine wpAny_mono (hbody A X s hC [] _ I) (fun f s' ⟨fl, ρ', O', g₁, ⟨hP, hg⟩, hfl, I', k⟩ => ?_) fun _ _ h => h.elim
  subst hg
  have hXr : ∀ {u : Value} {p : PV}, Rep (avoid (frameW prog w T V d fd (pn ++ rest ++ frees.map (·.1)) a fd.closure A X s) O') s'.heap u p → Rep X s'.heap u p := fun q => q.mono (fun b o hb _ _ hx => hb (.inl hx)) fun _ _ _ _ e => e
  rcases hP with rfl | ⟨rfl, rfl⟩
  · cases hfl with
    | ret q => exact ⟨hXr q, frameW_end I'⟩
  · cases hfl
    exact ⟨.none, frameW_end I'⟩
end Mine.Internal
end

section
namespace Mine.Internal
open PySem PySem.Calls PyProof.Rows

noncomputable abbrev Cx.wd (C : Cx) : Wd := ⟨C.M, C.G, C.W⟩

section
variable {C : Cx} {ρ ρ' ρ₁ : Env'} {g g' g₁ g₂ g₃ : C.G} {P P' : Fl → Env' → C.G → Prop}

noncomputable def GMeth (C : Cx) (g : C.G) (a : Addr) (name : Str) (f : Value) (first : List Value) : Prop :=
  ∀ (A : Around) (pl : Sem Bool) (s : Shared) (Q : Value × List Value → Shared → Prop), C.T s.heap → C.W g s.heap → (∀ t, Q (f, first) { s with toks := t }) → wpAny C.mod A (getMethod (.ref a) name pl) Q NoE s
noncomputable def GAttr (C : Cx) (g : C.G) (a : Addr) (name : Str) (p : PV) : Prop :=
  ∀ (X : Addr → Prop) (s : Shared) (Q : Value → Shared → Prop), C.T s.heap → C.W g s.heap → (∀ u t, Rep X s.heap u p → Q u { s with toks := t }) → wpAny C.mod C.A (getAttr (.ref a) name true) Q NoE s
noncomputable def GSet (C : Cx) (g : C.G) (a : Addr) (name : Str) (p : PV) (g' : C.G) : Prop :=
  ∀ (X : Addr → Prop) (s : Shared) (u : Value), C.T s.heap → C.W g s.heap → Rep X s.heap u p → wpAny C.mod C.A (setAttr (.ref a) name u) (fun _ s' => Step C g' s s') NoE s

theorem step_tok (hC : C.Ok) {s : Shared} (w : C.W g s.heap) (t : Nat) : Step C g s { s with toks := t } := ⟨⟨rfl, rfl, rfl⟩, fun _ _ _ e => e, w⟩

theorem Ev.attr (hC : C.Ok) {e : Expr} {a : Addr} {name : Str} {pos : Pos} {p : PV} (h : Ev C ρ g e (.obj a) g₁) (ha : GAttr C g₁ a name p)
    (he : eval (.Attribute e name pos) C.env = (do
      let o ← eval e C.env
      standAt pos.atName
      let r ← holding [o] (getAttr o name true)
      letTemporaryGo e o r
      pure r)) : Ev C ρ g (.Attribute e name pos) p g₁ := fun O s I => by
  refine Attribute_any_ (wpAny_mono (h O s I) (fun o s₁ ⟨r, st⟩ => ?_) fun _ _ x => x) he
  obtain rfl := Rep.of_obj r
  case _ =>
    have I1 := I.step hC st
    exact ha (avoid C O) s₁ _ (I1.top hC) I1.world fun u t r => ⟨r, st.trans (step_tok hC I1.world t)⟩

theorem Ev.meth (hC : C.Ok) {o : Expr} {a b : Addr} {name : Str} {apos pos : Pos} {es : List Expr} {ps qs : List PV} {r : PV} {pl : Sem Bool} {first : List Value} {dd : Nat} (ho : Ev C ρ g o (.obj a) g₁) (hm : GMeth C g₁ a name (.ref b) first)
    (hfirst : ∀ X h, Reps X h first qs) (hf : ∃ o fd, o.data = .func fd ∧ ∀ h, C.T h → h.get? b = some o)
    (h : EvL C ρ g₁ es ps g₂) (hc : FnW C.prog C.w C.T C.wd dd (.ref b) g₂ (qs ++ ps) r g₃) (hd : dd ≤ C.d)
    (he : eval (.Call (.Attribute o name apos) es [] pos) C.env = (do
      let ov ← eval o C.env
      standAt apos.atName
      let (f, first) ← holding [ov] (getMethod ov name pl)
      callWith pos f first (backTo pos (starEach es C.env)) (backToKw pos (keywordEach [] C.env))))
    (hn : (backTo pos (starEach es C.env)).any (·.1) = false) : Ev C ρ g (.Call (.Attribute o name apos) es [] pos) r g₃ := fun O s I => by
  refine PySem.W.methodCall_KW (pl := pl) (wpAny_mono (ho O s I) (fun ov s₁ ⟨r1, st⟩ => ?_) fun _ _ x => x) he
  obtain rfl := Rep.of_obj r1
  case _ =>
    have I1 := I.step hC st
    refine hm C.A pl s₁ _ (I1.top hC) I1.world fun t => ?_
    have st1 := st.trans (step_tok hC I1.world t)
    have I1' := I.step hC st1
    obtain ⟨ob, fd, e1, e2⟩ := hf
    refine callWith_function (o := ob) (fd := fd) (evalArgs_any hn (wpAny_mono (h O _ pos I1') (fun us s₂ ⟨r2, st2⟩ => ?_) fun _ _ x => x))
    have I2 := I1'.step hC st2
    refine ⟨⟨e2 _ (I2.top hC), e1⟩, ?_⟩
    refine wpAny_mono (hc.wp C.A (avoid C O) s₂ (first ++ us) (Ok.room hC hd) (I2.top hC) (fun x e => (I2.new hC e).2.2.2) (fun a m => .inl (hC.mx a m)) I2.world ((hfirst _ _).append r2)) (fun z s₃ ⟨r3, k1, k2, k3⟩ => ?_) fun _ _ x => x
    exact ⟨r3, (st1.trans st2).trans ⟨k1, k2, k3⟩⟩
end
end Mine.Internal
end

section
namespace Mine.Internal
open PySem PySem.Calls PyProof.Rows

section
variable {C : Cx} {ρ ρ' ρ₁ : Env'} {g g' g₁ g₂ g₃ g₄ : C.G} {P P' : Fl → Env' → C.G → Prop}

theorem Step.world_write (hC : C.Ok) {s : Shared} {h' : Heap} {a : Addr} {t : Nat} (hM : C.M a) (hs : Heap.SameBut a s.heap h') (hw : C.W g' h') : Step C g' s { s with heap := h', toks := t } :=
  ⟨⟨rfl, rfl, rfl⟩, fun b o hb e => by (with_reducible_and_instances (refine rwL (e ..) ?_)); exact hs.2 b fun q => hb (q ▸ hM), hw⟩

theorem Post.step (hC : C.Ok) {O : List (Str × Addr)} {s s' : Shared} (I : Inv C ρ O g s) (st : Step C g' s s') (hP : P .next ρ g') : Post C O s P .next s' :=
  ⟨.next, ρ, O, g', hP, .next, I.step hC st, st.skeep hC⟩

theorem St1.expr (hC : C.Ok) {e : Expr} {pos : Pos} {p : PV} (h : Ev C ρ g e p g₁) (hP : P .next ρ g₁) (hi : interactive C.env = false) (hs : swapsWith e none pos.line C.env = pure false) : St1 C ρ g (.Expr e pos) P := fun O s I =>
  wpAny_Expr_any (wpAny_mono (h O s I) (fun u s₁ ⟨_, st⟩ => Post.step hC I st hP) fun _ _ x => x) hi hs

theorem Ev.subW (hC : C.Ok) {o b : Expr} {a : Addr} {pos : Pos} {i : Int} {r : PV} (h1 : Ev C ρ g o (.obj a) g₁) (h2 : Ev C ρ g₁ b (.int i) g₂) (h0 : 0 ≤ i) (hf : i < 2 ^ 63)
    (hW : ∀ h X, C.T h → C.W g₂ h → ∃ vs u, h.IsList a vs ∧ vs[i.toNat]? = some u ∧ Rep X h u r)
    (hs : ∀ o i, subscripted b false o i = operate [o, i] (getItem o i)) : Ev C ρ g (.Subscript o b pos) r g₂ := fun O s I => by
  refine Subscript_ (wpAny_mono (h1 O s I) (fun u s₁ ⟨r1, st1⟩ => ?_) fun _ _ x => x)
  have I1 := I.step hC st1
  obtain rfl := Rep.of_obj r1
  case _ =>
    refine wpAny_mono (h2 O s₁ I1) (fun v s₂ ⟨r2, st2⟩ => ?_) fun _ _ x => x
    have I2 := I1.step hC st2
    obtain ⟨tk, rfl⟩ := r2.int_is
    obtain ⟨vs, z, hl, hz, rz⟩ := hW s₂.heap (avoid C O) (I2.top hC) I2.world
    exact tail_any hl.typeIs slot_list_getitem.lookup (wpAny_getItem_list hl h0 hf hz ⟨rz, st1.trans st2⟩) (hs _ _)

theorem St1.setW (hC : C.Ok) {o b e : Expr} {a : Addr} {pos pos' : Pos} {i : Int} {p : PV} (h : Ev C ρ g e p g₁) (h1 : Ev C ρ g₁ o (.obj a) g₂) (h2 : Ev C ρ g₂ b (.int i) g₃) (h0 : 0 ≤ i) (hf : i < 2 ^ 63) (hM : C.M a)
    (hW : ∀ h X u, C.W g₃ h → Rep X h u p → ∃ vs, h.IsList a vs ∧ i < vs.size ∧ ∀ h', h'.IsList a (vs.setIfInBounds i.toNat u) → Heap.SameBut a h h' → C.W g₄ h') (hP : P .next ρ g₄)
    (hs : swapsWith e (some (.Subscript o b pos')) pos.line C.env = pure false) : St1 C ρ g (.Assign [.Subscript o b pos'] e pos) P := fun O s I => by
  refine wpAny_Assign_Subscript (wpAny_mono (h O s I) (fun u s₀ ⟨r, st⟩ => ?_) fun _ _ x => x) hs
  have I0 := I.step hC st
  refine wpAny_mono (h1 O s₀ I0) (fun ov s₁ ⟨r1, st1⟩ => ?_) fun _ _ x => x
  have I1 := I0.step hC st1
  obtain rfl := Rep.of_obj r1
  case _ =>
    refine wpAny_mono (h2 O s₁ I1) (fun v s₂ ⟨r2, st2⟩ => ?_) fun _ _ x => x
    have I2 := I1.step hC st2
    obtain ⟨tk, rfl⟩ := r2.int_is
    obtain ⟨vs, hl, hlt, hw⟩ := hW s₂.heap (avoid C O) u I2.world ((r.step hC st1).step hC st2)
    refine wpAny_setItem_list hl h0 hf hlt fun h' hl' hs' => ?_
    exact Post.step hC I (((st.trans st1).trans st2).trans (Step.world_write hC hM hs' (hw h' hl' hs'))) hP

theorem St1.augW (hC : C.Ok) {o b e : Expr} {a : Addr} {pos tpos : Pos} {op : Operator} {i : Int} {p q r : PV} (h1 : Ev C ρ g o (.obj a) g₁) (h2 : Ev C ρ g₁ b (.int i) g₂) (h0 : 0 ≤ i) (hf : i < 2 ^ 63)
    (hR : ∀ h X, C.T h → C.W g₂ h → ∃ vs u, h.IsList a vs ∧ vs[i.toNat]? = some u ∧ Rep X h u p) (h : Ev C ρ g₂ e q g₃) (ho : Op2 C (inplaceOp op) p q r) (hM : C.M a)
    (hW : ∀ h X u, C.W g₃ h → Rep X h u r → ∃ vs, h.IsList a vs ∧ i < vs.size ∧ ∀ h', h'.IsList a (vs.setIfInBounds i.toNat u) → Heap.SameBut a h h' → C.W g₄ h') (hP : P .next ρ g₄)
    (hi : ∀ ov iv new, augStore b ov iv new = (do holding [new, ov, iv] (setItem ov iv new); release [new, ov, iv] []; pure .next)) : St1 C ρ g (.AugAssign (.Subscript o b tpos) op e pos) P := fun O s I => by
  refine wpAny_AugAssign_SubscriptAny (wpAny_mono (h1 O s I) (fun ov s₁ ⟨r1, st1⟩ => ?_) fun _ _ x => x) hi
  have I1 := I.step hC st1
  obtain rfl := Rep.of_obj r1
  case _ =>
    refine wpAny_mono (h2 O s₁ I1) (fun v s₂ ⟨r2, st2⟩ => ?_) fun _ _ x => x
    have I2 := I1.step hC st2
    obtain ⟨tk, rfl⟩ := r2.int_is
    obtain ⟨vs, z, hl, hz, rz⟩ := hR s₂.heap (avoid C O) (I2.top hC) I2.world
    refine wpAny_getItem_list hl h0 hf hz (wpAny_mono (h O s₂ I2) (fun u s₃ ⟨r3, st3⟩ => ?_) fun _ _ x => x)
    have I3 := I2.step hC st3
    refine wpAny_mono (ho (avoid C O) s₃ z u (fun x e => (I3.new hC e).2.2.2) (rz.step hC st3) r3) (fun y s₄ ⟨r4, k⟩ => ?_) fun _ _ x => x
    have st4 := Step.of_keeps hC I3.world k
    have I4 := I3.step hC st4
    obtain ⟨vs', hl', hlt, hw⟩ := hW s₄.heap (avoid C O) y I4.world r4
    refine wpAny_setItem_list hl' h0 hf hlt fun h' hl'' hs' => ?_
    exact Post.step hC I ((((st1.trans st2).trans st3).trans st4).trans (Step.world_write hC hM hs' (hw h' hl'' hs'))) hP

theorem St1.augAttrW (hC : C.Ok) {o e : Expr} {a : Addr} {pos tpos : Pos} {name : Str} {op : Operator} {p q r : PV} (h1 : Ev C ρ g o (.obj a) g₁) (ha : GAttr C g₁ a name p) (h : Ev C ρ g₁ e q g₂) (ho : Op2 C (inplaceOp op) p q r)
    (hg : GSet C g₂ a name r g₃) (hP : P .next ρ g₃) : St1 C ρ g (.AugAssign (.Attribute o name tpos) op e pos) P := fun O s I => by
  refine wpAny_AugAssign_AttributeAny (wpAny_mono (h1 O s I) (fun ov s₁ ⟨r1, st1⟩ => ?_) fun _ _ x => x)
  have I1 := I.step hC st1
  obtain rfl := Rep.of_obj r1
  case _ =>
    refine ha (avoid C O) s₁ _ (I1.top hC) I1.world fun u t r => ?_
    have st2 := step_tok hC I1.world t
    have I2 := I1.step hC st2
    refine wpAny_mono (h O _ I2) (fun v s₃ ⟨r3, st3⟩ => ?_) fun _ _ x => x
    have I3 := I2.step hC st3
    refine wpAny_mono (ho (avoid C O) s₃ u v (fun x e => (I3.new hC e).2.2.2) ((r.step hC st2).step hC st3) r3) (fun y s₄ ⟨r4, k⟩ => ?_) fun _ _ x => x
    have st4 := Step.of_keeps hC I3.world k
    have I4 := I3.step hC st4
    refine wpAny_mono (hg (avoid C O) s₄ y (I4.top hC) I4.world r4) (fun _ s₅ st5 => ?_) fun _ _ x => x
    exact Post.step hC I ((((st1.trans st2).trans st3).trans st4).trans st5) hP

theorem EvB.listW (hC : C.Ok) {e : Expr} {a : Addr} {b : Bool} (h : Ev C ρ g e (.obj a) g₁) (hW : ∀ h, C.W g₁ h → ∃ vs, h.IsList a vs ∧ (vs.size : Int) < 2 ^ 63 ∧ (!vs.isEmpty) = b)
    (he : isTrue e C.env (eval e C.env) = (do let v ← eval e C.env; standAt e.pos; holding [v] (truthy v))) : EvB C ρ g e b g₁ := fun O s I =>
  wpAny_isTrue_value (wpAny_mono (h O s I) (fun u s₁ ⟨r, st⟩ => by
    obtain rfl := Rep.of_obj r
    case _ =>
      have I1 := I.step hC st
      obtain ⟨vs, hl, hn, hb⟩ := hW _ I1.world
      exact wpAny_truthy_list hl hn ⟨hb, st.trans (step_tok hC I1.world _)⟩) fun _ _ x => x) he

theorem Ev.appendW (hC : C.Ok) {o e : Expr} {a : Addr} {apos pos : Pos} {p : PV} {pl : Sem Bool} (ho : Ev C ρ g o (.obj a) g₁) (h : Ev C ρ g₁ e p g₂) (hM : C.M a) (hL : ∀ h, C.W g₁ h → ∃ vs, h.PlainList a vs)
    (hW : ∀ h X u, C.W g₂ h → Rep X h u p → ∃ vs, h.PlainList a vs ∧ vs.size ≤ sizeLine ∧ ∀ h', h'.PlainList a (vs.push u) → Heap.SameBut a h h' → C.W g₃ h')
    (he : eval (.Call (.Attribute o "append" apos) [e] [] pos) C.env = (do
      let ov ← eval o C.env
      standAt apos.atName
      let (f, first) ← holding [ov] (getMethod ov "append" pl)
      callWith pos f first (backTo pos (starEach [e] C.env)) (backToKw pos (keywordEach [] C.env))))
    (htrees : backTo pos (starEach [e] C.env) = [(false, eval e C.env)]) : Ev C ρ g (.Call (.Attribute o "append" apos) [e] [] pos) .none g₃ := fun O s I => by
  refine PySem.W.methodCall_KW (pl := pl) (wpAny_mono (ho O s I) (fun ov s₁ ⟨r1, st1⟩ => ?_) fun _ _ x => x) he
  have I1 := I.step hC st1
  obtain rfl := Rep.of_obj r1
  case _ =>
    obtain ⟨vs, n, hl⟩ := hL _ I1.world
    refine getMethod_builtin (T := "list") ⟨_, hl, rfl⟩ PySem.F.plainAttrs_list PySem.F.slot_list_append PySem.F.type_list_append (fun b q => by cases q; exact ⟨_, hl, rfl⟩) ?_
    (with_reducible_and_instances (refine rwG (htrees ..) ?_))
    refine callWith_builtin rfl (evalArgs_any rfl (spliced_cons (wpAny_mono (h O s₁ I1) (fun u s₂ ⟨r, st⟩ => spliced_nil ?_) fun _ _ x => x)))
    have I2 := I1.step hC st
    obtain ⟨vs', hl', hn, hw⟩ := hW s₂.heap (avoid C O) u I2.world r
    exact wpAny_list_append_plain hl' (fun h' hl'' hs' => ⟨.none, (st1.trans st).trans (Step.world_write hC hM hs' (hw h' hl'' hs'))⟩) hn

theorem Ev.popW (hC : C.Ok) {o e : Expr} {a : Addr} {apos pos : Pos} {p : PV} {pl : Sem Bool} (ho : Ev C ρ g o (.obj a) g₁) (h : Ev C ρ g₁ e (.int 0) g₁) (hM : C.M a)
    (hW : ∀ h X, C.W g₁ h → ∃ v vs, h.PlainList a (v :: vs).toArray ∧ vs.length < sizeLine ∧ Rep X h v p ∧ (∀ h', Rep X h' v p) ∧ ∀ h', h'.PlainList a vs.toArray → Heap.SameBut a h h' → C.W g₂ h')
    (he : eval (.Call (.Attribute o "pop" apos) [e] [] pos) C.env = (do
      let ov ← eval o C.env
      standAt apos.atName
      let (f, first) ← holding [ov] (getMethod ov "pop" pl)
      callWith pos f first (backTo pos (starEach [e] C.env)) (backToKw pos (keywordEach [] C.env))))
    (htrees : backTo pos (starEach [e] C.env) = [(false, eval e C.env)]) : Ev C ρ g (.Call (.Attribute o "pop" apos) [e] [] pos) p g₂ := fun O s I => by
  refine PySem.W.methodCall_KW (pl := pl) (wpAny_mono (ho O s I) (fun ov s₁ ⟨r1, st1⟩ => ?_) fun _ _ x => x) he
  have I1 := I.step hC st1
  obtain rfl := Rep.of_obj r1
  case _ =>
    obtain ⟨v, vs, ⟨n, hl⟩, _⟩ := hW _ (avoid C O) I1.world
    refine getMethod_builtin (T := "list") ⟨_, hl, rfl⟩ PySem.F.plainAttrs_list PySem.F.slot_list_pop PySem.F.type_list_pop (fun b q => by cases q; exact ⟨_, hl, rfl⟩) ?_
    (with_reducible_and_instances (refine rwG (htrees ..) ?_))
    refine callWith_builtin rfl (evalArgs_any rfl (spliced_cons (wpAny_mono (h O s₁ I1) (fun u s₂ ⟨r, st⟩ => spliced_nil ?_) fun _ _ x => x)))
    obtain ⟨tk, rfl⟩ := r.int_is
    have I2 := I1.step hC st
    obtain ⟨v, vs, ⟨n, hl⟩, hn, rv, rv', hw⟩ := hW s₂.heap (avoid C O) I2.world
    refine call_meets PySem.F.slot_list_pop ⟨_, hl, rfl⟩ PySem.F.entry_list_pop (PySem.F.args_list_pop_2 _ _) (PySem.MeetsSeq.list_pop_at a _ n 0 _ 0 v (by rfl) (by simp [seqIndex?]) (by simp) (by ((with_reducible_and_instances (refine rwG (List.size_toArray ..) ?_; refine rwG (List.length_cons ..) ?_))); lia)) ⟨hl, ?_⟩
    have hs' : Heap.SameBut a s₂.heap (s₂.heap.update a (Obj.mapSeq fun xs => xs.eraseIdxIfInBounds 0)) := Heap.SameBut.update ..
    have q := PySem.IsL.update hl (fun xs => xs.eraseIdxIfInBounds 0)
    have e0 : ((v :: vs).toArray).eraseIdxIfInBounds 0 = vs.toArray := PySem.W.kl_erase [] vs v
    exact ⟨rv' _, (st1.trans st).trans (Step.world_write hC hM hs' (hw _ ⟨_, by rw [e0] at q; exact q⟩ hs'))⟩
end
end Mine.Internal
end

section
namespace Mine.Internal
open PySem PySem.Calls PyProof.Rows

noncomputable def Cx.turn (C : Cx) (s₁ : Shared) (K N : Addr → Prop) (G' : Type) (W' : G' → Heap → Prop) (T' : Heap → Prop) : Cx :=
  { C with s₀ := s₁, F := fun a => C.F a ∧ ¬ K a, X := fun a => C.X a ∨ N a, M := fun a => C.M a ∨ N a, G := G', W := W', T := T' }

structure NewW (C : Cx) (s s₁ : Shared) (K N : Addr → Prop) (G' : Type) (W' : G' → Heap → Prop) (T' : Heap → Prop) (g' : G') : Prop where
  rest : s₁.gens = s.gens ∧ s₁.drawn = s.drawn ∧ s₁.os = s.os
  keep : ∀ a o, ¬ C.M a → s.heap.get? a = some o → s₁.heap.get? a = some o
  kn : ∀ a, N a → K a
  fresh : ∀ a, K a → s.heap.get? a = none
  there : ∀ a, K a → ∃ o, s₁.heap.get? a = some o
  top : ∀ h, (∀ a o, ¬ (C.F a ∧ ¬ K a) → ¬ (C.M a ∨ N a) → s₁.heap.get? a = some o → h.get? a = some o) → T' h
  world : W' g' s₁.heap
  ok : Wd.Ok ⟨fun a => C.M a ∨ N a, G', W'⟩

section
variable {C : Cx} {ρ ρ' ρ₁ : Env'} {O O' : List (Str × Addr)} {g g₁ g₂ : C.G} {P P' : Fl → Env' → C.G → Prop} {s s₁ s' : Shared} {K N : Addr → Prop} {G' : Type} {W' : G' → Heap → Prop} {T' : Heap → Prop} {g' g'' : G'}

theorem NewW.was (I : Inv C ρ O g s) (n : NewW C s s₁ K N G' W' T' g') {a : Addr} (h : ∃ o, s.heap.get? a = some o) : ¬ K a := fun k => by
  obtain ⟨o, e⟩ := h; rw [n.fresh a k] at e; cases e
theorem NewW.pres (n : NewW C s s₁ K N G' W' T' g') {a : Addr} (h : ∃ o, s.heap.get? a = some o) : ∃ o, s₁.heap.get? a = some o := by
  by_cases m : C.M a
  · exact n.ok.wm g' _ a n.world (.inl m)
  · obtain ⟨o, e⟩ := h; exact ⟨o, n.keep a o m e⟩
theorem NewW.loc (I : Inv C ρ O g s) : ∃ o, s.heap.get? C.env.locals = some o := by
  obtain ⟨m, ⟨o, _, _, e, _⟩, _⟩ := I.loc; exact ⟨o, e⟩
theorem NewW.cell (I : Inv C ρ O g s) {x : Str} {c : Addr} (h : C.env.cells.lookup x = some c) : ∃ o, s.heap.get? c = some o := by
  obtain ⟨v, o, e, _⟩ := I.cells x c h; exact ⟨o, e⟩

theorem turn_ok (hC : C.Ok) (I : Inv C ρ O g s) (n : NewW C s s₁ K N G' W' T' g') : (C.turn s₁ K N G' W' T').Ok where
  kind := hC.kind
  handled := hC.handled
  depth := hC.depth
  units := hC.units
  top := n.top
  locF := ⟨hC.locF, n.was I (NewW.loc (C := C) I)⟩
  locM := fun h => h.elim hC.locM fun h => n.was I (NewW.loc (C := C) I) (n.kn _ h)
  cellM := fun x c hc h => h.elim (hC.cellM x c hc) fun h => n.was I (NewW.cell (C := C) I hc) (n.kn _ h)
  cellF := fun x c hk hz hc => ⟨hC.cellF x c hk hz hc, n.was I (NewW.cell (C := C) I hc)⟩
  inj := hC.inj
  fresh := fun a e => by
    have e0 : s.heap.get? a = none := by
      cases q : s.heap.get? a with
      | none => rfl
      | some o =>
        obtain ⟨o', e'⟩ := n.pres ⟨o, q⟩
        have e1 : s₁.heap.get? a = none := e
        cases e1.symm.trans e'
    refine ⟨(I.new hC e0).1, fun k => ?_⟩
    obtain ⟨o, e'⟩ := n.there a k
    have e1 : s₁.heap.get? a = none := e
    cases e1.symm.trans e'
  mx := fun a h => h.imp (hC.mx a) id
  xf := fun a h hf => h.elim (fun h => hC.xf a h hf.1) fun h => hf.2 (n.kn a h)
  xs := fun a h => by
    rcases h with h | h
    · by_cases m : C.M a
      · exact n.ok.wm g' _ a n.world (.inl m)
      · obtain ⟨o, e⟩ := hC.xs a h
        exact ⟨o, n.keep a o m (I.old a o (hC.xf a h) m e)⟩
    · exact n.there a (n.kn a h)
  wm := n.ok.wm
  stab := n.ok.stab
  nodup := hC.nodup
  kinds := hC.kinds
  notDebug := hC.notDebug

theorem turn_inv (hC : C.Ok) (I : Inv C ρ O g s) (n : NewW C s s₁ K N G' W' T' g') : Inv (C.turn s₁ K N G' W' T') ρ O g' s₁ := by
  obtain ⟨m, hn, hl⟩ := I.loc
  have av : ∀ a o, ¬ avoid C O a → Obj.isSeq o → s.heap.get? a = some o → ¬ avoid (C.turn s₁ K N G' W' T') O a := fun a o h _ e => by
    rintro ((q | q) | q)
    · exact h (.inl q)
    · exact n.was I ⟨o, e⟩ (n.kn a q)
    · exact h (.inr q)
  have kp : ∀ a o, ¬ avoid C O a → Obj.isSeq o → s.heap.get? a = some o → s₁.heap.get? a = some o := fun a o h _ e => n.keep a o (avoid_not_M hC h) e
  have sl : ∀ x u, Slot C m s.heap x u → Slot (C.turn s₁ K N G' W' T') m s₁.heap x u := fun x u q => by
    rcases q with q | ⟨q1, c, q2, q3⟩
    · exact .inl q
    · exact .inr ⟨q1, c, q2, IsCell_of q3 fun o e => n.keep c o (hC.cellM x c q2) e⟩
  refine ⟨⟨rfl, rfl, rfl⟩, fun a o _ _ e => e, n.world, I.names, ⟨m, Ns_of hn fun o e => n.keep _ o hC.locM e, fun x v hx => ?_⟩, fun x c hc => ?_, fun x a ha => ?_, I.uniq⟩
  · have q := hl x v hx
    cases v with
    | undef => exact q
    | val p => obtain ⟨q0, u, q1, q2⟩ := q; exact ⟨q0, u, sl x u q1, q2.mono av kp⟩
    | ro p => obtain ⟨u, q1, q2⟩ := q; exact ⟨u, sl x u q1, q2.mono av kp⟩
    | own xs =>
      obtain ⟨q0, a, vs, q1, q2, ⟨k, q3⟩, q4⟩ := q
      exact ⟨q0, a, vs, sl x _ q1, q2, ⟨k, n.keep a _ (I.own x a q2).2.1 q3⟩, q4.mono av kp⟩
  · obtain ⟨v, hv⟩ := I.cells x c hc
    exact ⟨v, IsCell_of hv fun o e => n.keep c o (hC.cellM x c hc) e⟩
  · obtain ⟨f, hm, vs, k, e⟩ := I.own x a ha
    exact ⟨⟨f, n.was I ⟨_, e⟩⟩, fun q => q.elim hm fun q => n.was I ⟨_, e⟩ (n.kn a q), vs, k, n.keep a _ hm e⟩

theorem turn_back (hC : C.Ok) (I : Inv C ρ O g s) (n : NewW C s s₁ K N G' W' T' g') {π : G' → C.G} (hπ : ∀ g h, W' g h → C.W (π g) h) (I' : Inv (C.turn s₁ K N G' W' T') ρ' O' g'' s') : Inv C ρ' O' (π g'') s' := by
  obtain ⟨m, hn, hl⟩ := I'.loc
  have av : ∀ a o, ¬ avoid (C.turn s₁ K N G' W' T') O' a → Obj.isSeq o → s'.heap.get? a = some o → ¬ avoid C O' a := fun a o h _ e => by
    rintro (q | q)
    · exact h (.inl (.inl q))
    · exact h (.inr q)
  have r1 := n.rest; have r2 := I.rest; have r3 : s'.gens = s₁.gens ∧ s'.drawn = s₁.drawn ∧ s'.os = s₁.os := I'.rest
  refine ⟨⟨(r3.1.trans r1.1).trans r2.1, (r3.2.1.trans r1.2.1).trans r2.2.1, (r3.2.2.trans r1.2.2).trans r2.2.2⟩, fun a o hf hm e => ?_, hπ _ _ I'.world, I'.names, ⟨m, hn, fun x v hx => ?_⟩, I'.cells, fun x a ha => ?_, I'.uniq⟩
  · have e1 := I.old a o hf hm e
    exact I'.old a o (fun q => hf q.1) (fun q => q.elim hm fun q => n.was I ⟨o, e1⟩ (n.kn a q)) (n.keep a o hm e1)
  · have q := hl x v hx
    cases v with
    | undef => exact q
    | val p => obtain ⟨q0, u, q1, q2⟩ := q; exact ⟨q0, u, q1, q2.mono av fun _ _ _ _ e => e⟩
    | ro p => obtain ⟨u, q1, q2⟩ := q; exact ⟨u, q1, q2.mono av fun _ _ _ _ e => e⟩
    | own xs => obtain ⟨q0, a, vs, q1, q2, q3, q4⟩ := q; exact ⟨q0, a, vs, q1, q2, q3, q4.mono av fun _ _ _ _ e => e⟩
  · obtain ⟨f, hm, r⟩ := I'.own x a ha
    exact ⟨f.1, fun q => hm (.inl q), r⟩

theorem turn_keep (hC : C.Ok) (I : Inv C ρ O g s) (n : NewW C s s₁ K N G' W' T' g') (k : SKeep (C.turn s₁ K N G' W' T') O O' s₁ s') : SKeep C O O' s s' := by
  refine ⟨fun a o h1 h2 h3 h4 e => k.keep a o h1 h2 h3 (fun q => q.elim h4 fun q => n.was I ⟨o, e⟩ (n.kn a q)) (n.keep a o h4 e), fun x a h => ?_, fun a o e => ?_⟩
  · rcases k.grow x a h with h | h
    · exact .inl h
    · refine .inr ?_
      cases q : s.heap.get? a with
      | none => rfl
      | some o => obtain ⟨o', e'⟩ := n.pres ⟨o, q⟩; cases h.symm.trans e'
  · obtain ⟨o', e'⟩ := n.pres ⟨o, e⟩
    exact k.pres a o' e'

theorem new_rest (hC : C.Ok) (I : Inv C ρ O g s) (n : NewW C s s₁ K N G' W' T' g') {π : G' → C.G} (hπ : ∀ g h, W' g h → C.W (π g) h) {x : Str} {a : Addr} {rest : List Stmt} (hp : Put ρ x (.val (.obj a)) ρ')
    (hr : (C.turn s₁ K N G' W' T').Ok → St (C.turn s₁ K N G' W' T') ρ' g' rest (fun fl ρ'' g'' => P fl ρ'' (π g''))) :
    wpAny C.mod C.A (storeName C.env x (.ref a)) (fun _ s₂ => wpAny C.mod C.A (execs rest C.env) (Post C O s P) NoE s₂) NoE s₁ := by
  have hC' := turn_ok hC I n
  refine store_val (C := C.turn s₁ K N G' W' T') hC' (turn_inv hC I n) (.obj a) hp fun s₂ I2 k _ => ?_
  refine wpAny_mono (hr hC' O s₂ I2) (fun f s₃ ⟨fl, ρ'', O'', g'', hP, hfl, I3, k3⟩ => ?_) fun _ _ x => x
  have hfl' : FlIs (avoid C O'') s₃.heap f fl := by
    cases hfl with
    | next => exact .next
    | brk => exact .brk
    | cont => exact .cont
    | ret r => exact .ret (r.mono (fun a o h _ e => by
        rintro (q | q)
        · exact h (.inl (.inl q))
        · exact h (.inr q)) fun _ _ _ _ e => e)
  exact ⟨fl, ρ'', O'', π g'', hP, hfl', turn_back hC I n hπ I3, turn_keep hC I n (k.trans k3)⟩

inductive NewTurn (C : Cx) (ρ : Env') (s : Shared) (x : Str) (rest : List Stmt) (P : Fl → Env' → C.G → Prop) (u : Value) (s₁ : Shared) : Prop
  | mk (a : Addr) (K N : Addr → Prop) (G' : Type) (W' : G' → Heap → Prop) (T' : Heap → Prop) (g' : G') (π : G' → C.G) (ρ' : Env') (e : u = .ref a) (n : NewW C s s₁ K N G' W' T' g')
      (hπ : ∀ g h, W' g h → C.W (π g) h) (hp : Put ρ x (.val (.obj a)) ρ') (hr : (C.turn s₁ K N G' W' T').Ok → St (C.turn s₁ K N G' W' T') ρ' g' rest (fun fl ρ'' g'' => P fl ρ'' (π g''))) : NewTurn C ρ s x rest P u s₁
theorem St.new (hC : C.Ok) {x : Str} {xp pos : Pos} {e : Expr} {rest : List Stmt}
    (h : ∀ O s, Inv C ρ O g s → wpAny C.mod C.A (eval e C.env) (NewTurn C ρ s x rest P) NoE s)
    (hs : swapsWith e (some (.Name x xp)) pos.line C.env = pure false) : St C ρ g (.Assign [.Name x xp] e pos :: rest) P := fun O s I =>
  wpAny_execs_cons (wpAny_Assign_Name (wpAny_mono (h O s I) (fun u s₁ ⟨a, K, N, G', W', T', g', π, ρ', e, n, hπ, hp, hr⟩ => by subst e; exact new_rest hC I n hπ hp hr) fun _ _ x => x) hs)
end
end Mine.Internal
end

section
namespace Mine.Internal
open PySem PySem.Calls PyProof.Rows

noncomputable def Cx.fix (C : Cx) (s₁ : Shared) (Z' : Str → Prop) (T' : Heap → Prop) : Cx :=
  { C with s₀ := s₁, Z := fun x => C.Z x ∨ Z' x, F := fun a => C.F a ∧ ¬ ∃ x, Z' x ∧ C.env.cells.lookup x = some a, T := T' }

inductive Fix (Z' : Str → Prop) : Env' → Env' → Prop where
  | nil : Fix Z' [] []
  | keep {x : Str} {v : LV} {r r' : Env'} (h : ¬ Z' x) : Fix Z' r r' → Fix Z' ((x, v) :: r) ((x, v) :: r')
  | fix {x : Str} {p : PV} {r r' : Env'} : Fix Z' r r' → Fix Z' ((x, .val p) :: r) ((x, .ro p) :: r')
theorem Fix.names {Z' : Str → Prop} {ρ ρ' : Env'} (h : Fix Z' ρ ρ') : ρ'.map (·.1) = ρ.map (·.1) := by
  induction h with
  | nil => rfl
  | keep _ _ ih => ((with_reducible_and_instances (refine rwG (List.map_cons ..) ?_; refine rwG (List.map_cons ..) ?_; refine rwG (ih ..) ?_)); (with_reducible rfl))
  | fix _ ih => ((with_reducible_and_instances (refine rwG (List.map_cons ..) ?_; refine rwG (List.map_cons ..) ?_; refine rwG (ih ..) ?_)); (with_reducible rfl))
theorem Fix.mem {Z' : Str → Prop} {ρ ρ' : Env'} (h : Fix Z' ρ ρ') : ∀ x v, (x, v) ∈ ρ' → (¬ Z' x ∧ (x, v) ∈ ρ) ∨ (∃ p, v = .ro p ∧ (x, LV.val p) ∈ ρ) := by
  induction h with
  | nil => intro x v h; cases h
  | keep hz _ ih =>
    intro x v h
    rcases List.mem_cons.mp h with e | h
    · cases e; exact .inl ⟨hz, List.mem_cons_self⟩
    · exact (ih x v h).imp (fun q => ⟨q.1, List.mem_cons_of_mem _ q.2⟩) fun ⟨p, a, b⟩ => ⟨p, a, List.mem_cons_of_mem _ b⟩
  | fix _ ih =>
    intro x v h
    rcases List.mem_cons.mp h with e | h
    · cases e; exact .inr ⟨_, rfl, List.mem_cons_self⟩
    · exact (ih x v h).imp (fun q => ⟨q.1, List.mem_cons_of_mem _ q.2⟩) fun ⟨p, a, b⟩ => ⟨p, a, List.mem_cons_of_mem _ b⟩

section
variable {C : Cx} {ρ ρ' ρ₁ ρ'' : Env'} {O O' : List (Str × Addr)} {g g₁ g₂ g'' : C.G} {P P' : Fl → Env' → C.G → Prop} {s s₁ s' : Shared} {Z' : Str → Prop} {T' : Heap → Prop}

theorem fix_ok (hC : C.Ok) (I : Inv C ρ O g s) (ht : ∀ h, (∀ a o, ¬ (C.F a ∧ ¬ ∃ x, Z' x ∧ C.env.cells.lookup x = some a) → ¬ C.M a → s.heap.get? a = some o → h.get? a = some o) → T' h)
    (hl : ¬ ∃ x, Z' x ∧ C.env.cells.lookup x = some C.env.locals) : (C.fix s Z' T').Ok where
  kind := hC.kind
  handled := hC.handled
  depth := hC.depth
  units := hC.units
  top := ht
  locF := ⟨hC.locF, hl⟩
  locM := hC.locM
  cellM := hC.cellM
  cellF := fun x c hk hz hc => ⟨hC.cellF x c hk (fun q => hz (.inl q)) hc, fun ⟨y, hy, e⟩ => hz (.inr (hC.inj y x c e hc ▸ hy))⟩
  inj := hC.inj
  fresh := fun a e => by
    refine ⟨(I.new hC e).1, fun ⟨x, _, hx⟩ => ?_⟩
    obtain ⟨v, o, e', _⟩ := I.cells x a hx
    have e1 : s.heap.get? a = none := e
    cases e1.symm.trans e'
  mx := hC.mx
  xf := fun a h hf => hC.xf a h hf.1
  xs := fun a h => by
    by_cases m : C.M a
    · exact hC.wm g _ a I.world m
    · obtain ⟨o, e⟩ := hC.xs a h
      exact ⟨o, I.old a o (hC.xf a h) m e⟩
  wm := hC.wm
  stab := hC.stab
  nodup := hC.nodup
  kinds := hC.kinds
  notDebug := hC.notDebug

theorem fix_inv (hC : C.Ok) (I : Inv C ρ O g s) (hx : Fix Z' ρ ρ') : Inv (C.fix s Z' T') ρ' O g s := by
  obtain ⟨m, hn, hl⟩ := I.loc
  refine ⟨⟨rfl, rfl, rfl⟩, fun a o _ _ e => e, I.world, hx.names.trans I.names, ⟨m, hn, fun x v hv => ?_⟩, I.cells, fun x a ha => ?_, I.uniq⟩
  · rcases hx.mem x v hv with ⟨hz, h⟩ | ⟨p, rfl, h⟩
    · have q := hl x v h
      have rw' : Rw C x → Rw (C.fix s Z' T') x := fun q => ⟨q.1, fun z => z.elim q.2 hz⟩
      cases v with
      | undef => exact rw' q
      | val p => exact ⟨rw' q.1, q.2⟩
      | ro p => exact q
      | own xs => exact ⟨rw' q.1, q.2⟩
    · exact (hl x _ h).2
  · obtain ⟨f, hm, vs, hp⟩ := I.own x a ha
    refine ⟨⟨f, fun ⟨y, _, hy⟩ => ?_⟩, hm, vs, hp⟩
    obtain ⟨v, hv⟩ := I.cells y a hy
    obtain ⟨o, q, e⟩ := plain_isSeq hp
    exact seq_ne_cell q e hv rfl

theorem fix_back (hC : C.Ok) (I : Inv C ρ O g s) (I' : Inv (C.fix s Z' T') ρ'' O' g'' s') : Inv C ρ'' O' g'' s' := by
  obtain ⟨m, hn, hl⟩ := I'.loc
  have r2 := I.rest; have r3 : s'.gens = s.gens ∧ s'.drawn = s.drawn ∧ s'.os = s.os := I'.rest
  refine ⟨⟨r3.1.trans r2.1, r3.2.1.trans r2.2.1, r3.2.2.trans r2.2.2⟩, fun a o hf hm e => I'.old a o (fun q => hf q.1) hm (I.old a o hf hm e), I'.world, I'.names, ⟨m, hn, fun x v hx => ?_⟩, I'.cells, fun x a ha => ?_, I'.uniq⟩
  · have q := hl x v hx
    have rw' : Rw (C.fix s Z' T') x → Rw C x := fun q => ⟨q.1, fun z => q.2 (.inl z)⟩
    cases v with
    | undef => exact rw' q
    | val p => exact ⟨rw' q.1, q.2⟩
    | ro p => exact q
    | own xs => exact ⟨rw' q.1, q.2⟩
  · obtain ⟨f, r⟩ := I'.own x a ha
    exact ⟨f.1, r⟩

theorem fix_keep (k : SKeep (C.fix s Z' T') O O' s s') : SKeep C O O' s s' := ⟨fun a o h1 h2 h3 h4 e => k.keep a o h1 h2 h3 h4 e, k.grow, k.pres⟩

theorem St.fix (hC : C.Ok) (Z' : Str → Prop) {rest : List Stmt} (hx : Fix Z' ρ ρ')
    (h : ∀ O s, Inv C ρ O g s → ∃ T', (∀ h, (∀ a o, ¬ (C.F a ∧ ¬ ∃ x, Z' x ∧ C.env.cells.lookup x = some a) → ¬ C.M a → s.heap.get? a = some o → h.get? a = some o) → T' h) ∧
      ((C.fix s Z' T').Ok → St (C.fix s Z' T') ρ' g rest P)) : St C ρ g rest P := fun O s I => by
  obtain ⟨T', ht, hr⟩ := h O s I
  have hloc : ¬ ∃ x, Z' x ∧ C.env.cells.lookup x = some C.env.locals := fun ⟨x, _, hx⟩ => by
    obtain ⟨v, hv⟩ := I.cells x _ hx
    obtain ⟨m, hn, _⟩ := I.loc
    exact cell_ne_dict hv hn rfl
  have hC' := fix_ok hC I ht hloc
  refine wpAny_mono (hr hC' O s (fix_inv hC I hx)) (fun f s₃ ⟨fl, ρ'', O'', g'', hP, hfl, I3, k3⟩ => ⟨fl, ρ'', O'', g'', hP, ?_, fix_back hC I I3, fix_keep k3⟩) fun _ _ x => x
  cases hfl with
  | next => exact .next
  | brk => exact .brk
  | cont => exact .cont
  | ret r => exact .ret r

inductive StTurn (C : Cx) (ρ : Env') (s : Shared) (rest : List Stmt) (P : Fl → Env' → C.G → Prop) (f : Flow) (s₁ : Shared) : Prop
  | mk (e : f = .next) (K N : Addr → Prop) (G' : Type) (W' : G' → Heap → Prop) (T' : Heap → Prop) (g' : G') (π : G' → C.G) (n : NewW C s s₁ K N G' W' T' g')
      (hπ : ∀ g h, W' g h → C.W (π g) h) (hr : (C.turn s₁ K N G' W' T').Ok → St (C.turn s₁ K N G' W' T') ρ g' rest (fun fl ρ'' g'' => P fl ρ'' (π g''))) : StTurn C ρ s rest P f s₁
theorem St.turn (hC : C.Ok) {st : Stmt} {rest : List Stmt}
    (h : ∀ O s, Inv C ρ O g s → wpAny C.mod C.A (exec st C.env) (StTurn C ρ s rest P) NoE s) : St C ρ g (st :: rest) P := fun O s I => by
  refine wpAny_execs_cons (wpAny_mono (h O s I) (fun f s₁ ⟨e, K, N, G', W', T', g', π, n, hπ, hr⟩ => ?_) fun _ _ x => x)
  subst e
  have hC' := turn_ok hC I n
  refine wpAny_mono (hr hC' O s₁ (turn_inv hC I n)) (fun f s₃ ⟨fl, ρ'', O'', g'', hP, hfl, I3, k3⟩ => ⟨fl, ρ'', O'', π g'', hP, ?_, turn_back hC I n hπ I3, turn_keep hC I n k3⟩) fun _ _ x => x
  cases hfl with
  | next => exact .next
  | brk => exact .brk
  | cont => exact .cont
  | ret r => exact .ret (r.mono (fun a o h _ e => by
      rintro (q | q)
      · exact h (.inl (.inl q))
      · exact h (.inr q)) fun _ _ _ _ e => e)

theorem turn_top (hC : C.Ok) (I : Inv C ρ O g s) {K N : Addr → Prop} (keep : ∀ a o, ¬ C.M a → s.heap.get? a = some o → s₁.heap.get? a = some o) (fresh : ∀ a, K a → s.heap.get? a = none) (kn : ∀ a, N a → K a) {h : Heap}
    (k : ∀ a o, ¬ (C.F a ∧ ¬ K a) → ¬ (C.M a ∨ N a) → s₁.heap.get? a = some o → h.get? a = some o) : C.T h :=
  hC.top h fun a o q1 q2 q3 => by
    have q4 := I.old a o q1 q2 q3
    exact k a o (fun z => q1 z.1) (fun z => z.elim q2 fun z => by have := fresh a (kn a z); cases this.symm.trans q4) (keep a o q2 q4)
end
end Mine.Internal
end

section
namespace Mine.Internal
open PySem PySem.Calls PyProof.Rows PySem.W

noncomputable abbrev itOn (bm : Addr) (t : Tok) : Obj := { cls := .type "callable_iterator", data := .fields #[.ref bm, .str ⟨#[]⟩ t, .bool false] }
noncomputable abbrev itOff : Obj := { cls := .type "callable_iterator", data := .fields #[.none, .none, .bool true] }
noncomputable def itObj (bm : Addr) (t : Tok) (b : Bool) : Obj := if b then itOff else itOn bm t

theorem slot_ci_next : PySem.Slot "callable_iterator" "__next__" "callable_iterator.__next__" :=
  .of (owner := "callable_iterator") (n := "__next__") (by (rewrite [typeLookup_type]; (with_reducible_and_instances (refine rwG (builtinLookup_eq_fast ..) ?_))); kernel_rfl) (by decide +kernel) (by decide +kernel) (by decide +kernel)
    (by first | exact .inl (by decide +kernel) | exact .inr (by decide +kernel)) (by rw [isSubtype_type]; kernel_rfl)
theorem slot_ci_iter : PySem.Slot "callable_iterator" "__iter__" "callable_iterator.__iter__" :=
  .of (owner := "callable_iterator") (n := "__iter__") (by (rewrite [typeLookup_type]; (with_reducible_and_instances (refine rwG (builtinLookup_eq_fast ..) ?_))); kernel_rfl) (by decide +kernel) (by decide +kernel) (by decide +kernel)
    (by first | exact .inl (by decide +kernel) | exact .inr (by decide +kernel)) (by rw [isSubtype_type]; kernel_rfl)
theorem entry_ci_next : entryFor table "callable_iterator.__next__" = some Builtin.«callable_iterator.__next__» := entryFor_of_tree (by kernel_rfl)
theorem entry_ci_iter : entryFor table "callable_iterator.__iter__" = some Builtin.«dict_keyiterator.__iter__» :=
  entryFor_alias (id' := "dict_keyiterator.__iter__") (by kernel_rfl) rfl (by decide +kernel) (by kernel_rfl)
theorem args_ci_next (a : Value) : argsOk "callable_iterator.__next__" ⟨[a], []⟩ := by unfold argsOk; kernel_rfl
theorem args_ci_iter (a : Value) : argsOk "callable_iterator.__iter__" ⟨[a], []⟩ := by unfold argsOk; kernel_rfl

section
variable {prog : Program} {w : World} {A : Around} {E : Value → Shared → Prop} {s : Shared}

theorem wpAny_callBorrowed {M : Model} {f : Value} {pos : List Value} {Q : Value → Shared → Prop}
    (hc : codeAny M A (.call f ⟨pos, []⟩) (fun r s' => match r with | .ok (.ret v) => Q v s' | .ok _ => False | .error e => E e s') s) :
    wpAny M A (callBorrowed f pos) Q E s := fun Γ p hΓ => by
  unfold callBorrowed
  rw [Sem.wp_call]
  refine wpCode_mono ?_ (hc _ p rfl (hΓ.enter _ none p (by intro x; cases x)))
  intro r s' h
  cases r with
  | ok f => cases f with
    | ret v => exact h
    | _ => exact h.elim
  | error e => exact h

theorem pyIter_ci {it bm : Addr} {t : Tok} {b : Bool} {Q : Value → Shared → Prop} (ho : s.heap.get? it = some (itObj bm t b)) (h : Q (.ref it) s) : wpAny (model prog w) A (pyIter (.ref it)) Q E s := by
  have hT : s.TypeIs (.ref it) "callable_iterator" := ⟨_, ho, by cases b <;> rfl⟩
  refine wpAny_pyIter_slot hT slot_ci_iter (wpAny_call_entry slot_ci_iter hT entry_ci_iter ?_ (args_ci_iter _))
  show wpAny _ _ (ret (.ref it)) _ _ s
  exact wpAny_pure ⟨_, rfl, "callable_iterator", _, hT, slot_ci_next.lookup, h⟩

theorem borrows_meth {M : Model} {bm f : Addr} {self : Value} {fo : Obj} {fd : FuncData} {Q : Bool → Shared → Prop} (hb : s.heap.get? bm = some (methodObj (.ref f) self)) (hf : s.heap.get? f = some fo) (hd : fo.data = .func fd) (h : Q true s) :
    wpAny M A (borrowsExactly (.ref bm)) Q E s := by
  unfold borrowsExactly
  refine wpAny_bind (wpAny_load hb ?_)
  show wpAny _ _ (if (Value.type "method" == Value.type "method") = true then _ else _) _ _ _
  rw [if_pos (by rfl)]
  refine wpAny_bind (wpAny_load hf ?_)
  (with_reducible_and_instances (refine rwG (hd ..) ?_))
  exact wpAny_pure h

theorem stop_raised {α : Type} {Q : α → Shared → Prop} (hh : A.handled = none) (h : ∀ x h', (∀ b o, s.heap.get? b = some o → h'.get? b = some o) → (∃ o, h'.get? x = some o ∧ o.cls = .type "StopIteration") → E (.ref x) { s with heap := h' }) :
    wpAny (model prog w) A (Builtin.SmallTypes.stopIteration : Sem α) Q E s := by
  show wpAny _ _ (newExc (.type "StopIteration") [] >>= _) _ _ _
  refine wpAny_bind ?_
  simp only [newExc, newTuple]
  refine wpAny_bind (wpAny_newObj_type ?_ (by size_fits))
  refine wpAny_bind (m := firstArgMember _ _) (wpAny_of_eq (a := Value.none) (by first | rfl | (simp only [firstArgMember]; rfl)) ?_)
  refine wpAny_newObj_type ?_ (by size_fits)
  simp only [raiseNew]
  refine wpAny_bind (wpAny_handled ?_)
  (with_reducible_and_instances (refine rwG (hh ..) ?_))
  refine wpAny_bind (wpAny_pure (wpAny_throw (h _ _ (fun b o e => Heap.get?_push_of_some _ (Heap.get?_push_of_some _ e)) ⟨_, Heap.get?_push_size _ rfl, rfl⟩)))

theorem next_off {it : Addr} {Q : Option Value → Shared → Prop} (hh : A.handled = none) (ho : s.heap.get? it = some itOff) (h : ∀ h', (∀ b o, s.heap.get? b = some o → h'.get? b = some o) → Q none { s with heap := h' }) :
    wpAny (model prog w) A (pyNext (.ref it)) Q E s := by
  have hT : s.TypeIs (.ref it) "callable_iterator" := ⟨_, ho, rfl⟩
  unfold pyNext
  refine wpAny_bind (wpAny_attempt (wpAny_callSpecial?_slot (name := Str.ofString "__next__") hT slot_ci_next
    (wpAny_call_entry slot_ci_next hT entry_ci_next ?_ (args_ci_next _))))
  show wpAny _ _ (field (.ref it) 2 >>= _) _ _ s
  refine wpAny_bind (wpAny_field ho rfl (x := .bool true) rfl ?_)
  show wpAny _ _ (if (Value.bool true == Value.bool true) = true then _ else _) _ _ s
  rw [if_pos (by rfl)]
  refine wpAny_bind (wpAny_rule (wpAny_bind ?_))
  refine stop_raised hh fun x h' k ⟨o, e, c⟩ => ?_
  exact wpAny_bind (wpAny_isInstance (T := "StopIteration") (b := true) ⟨_, e, c⟩ isSubtype_stop (wpAny_pure (h h' k)))

theorem next_on {it bm f : Addr} {t : Tok} {self : Value} {fo : Obj} {fd : FuncData} {Q : Option Value → Shared → Prop} (hh : A.handled = none) (ho : s.heap.get? it = some (itOn bm t))
    (hb : s.heap.get? bm = some (methodObj (.ref f) self)) (hf : s.heap.get? f = some fo) (hd : fo.data = .func fd)
    (hc : codeAny (model prog w) A.in1 (.call (.ref f) ⟨[self], []⟩) (fun r s' => match r with
      | .ok (.ret v) => ∃ x u, v = .str x u ∧ s'.heap.get? it = some (itOn bm t) ∧ s'.heap.get? bm = some (methodObj (.ref f) self) ∧ s'.heap.get? f = some fo ∧ (x ≠ ⟨#[]⟩ → Q (some (.str x u)) s') ∧
          (x = ⟨#[]⟩ → ∀ h', (∀ b o, b ≠ it → s'.heap.get? b = some o → h'.get? b = some o) → h'.get? it = some itOff → Q none { s' with heap := h' })
      | .ok _ => False
      | .error e => False) s) :
    wpAny (model prog w) A (pyNext (.ref it)) Q E s := by
  have hT : s.TypeIs (.ref it) "callable_iterator" := ⟨_, ho, rfl⟩
  unfold pyNext
  refine wpAny_bind (wpAny_attempt (wpAny_callSpecial?_slot (name := Str.ofString "__next__") hT slot_ci_next
    (wpAny_call_entry slot_ci_next hT entry_ci_next ?_ (args_ci_next _))))
  show wpAny _ _ (field (.ref it) 2 >>= _) _ _ s
  refine wpAny_bind (wpAny_field ho rfl (x := .bool false) rfl ?_)
  show wpAny _ _ (if (Value.bool false == Value.bool true) = true then _ else _) _ _ s
  rw [if_neg (by exact Bool.false_ne_true)]
  show wpAny _ _ (field (.ref it) 0 >>= _) _ _ s
  refine wpAny_bind (wpAny_field ho rfl (x := .ref bm) rfl ?_)
  refine wpAny_bind (wpAny_attempt ?_)
  unfold callOutOfASlot
  refine wpAny_bind (borrows_meth hb hf hd ?_)
  (with_reducible_and_instances (refine rwG ((if_pos rfl) ..) ?_))
  refine wpAny_callBorrowed (method_call hb (codeAny_mono hc fun r s' h => ?_))
  obtain ⟨_, rfl, x, u, rfl, ho', hb', hf', h1, h2⟩ := ret_of h fun _ e => e
  show wpAny _ _ (field (.ref it) 2 >>= _) _ _ s'
  refine wpAny_bind (wpAny_field ho' rfl (x := .bool false) rfl ?_)
  show wpAny _ _ (if (Value.bool false == Value.bool true) = true then _ else _) _ _ s'
  rw [if_neg (by exact Bool.false_ne_true)]
  show wpAny _ _ (field (.ref it) 1 >>= _) _ _ s'
  refine wpAny_bind (wpAny_field ho' rfl (x := .str ⟨#[]⟩ t) rfl ?_)
  refine wpAny_bind (wpAny_holding (wpAny_eqBool_str ?_))
  by_cases hx : x = ⟨#[]⟩
  · subst hx
    simp only [decide_true, Bool.not_true, Bool.false_eq_true, if_false]
    refine wpAny_bind (wpAny_rule (wpAny_bind ?_))
    show wpAny _ _ (field (.ref it) 0 >>= _) _ _ s'
    refine wpAny_bind (wpAny_field ho' rfl (x := .ref bm) rfl ?_)
    unfold slotLetsGo
    refine wpAny_bind ?_
    refine wpAny_bind (borrows_meth hb' hf' hd ?_)
    (with_reducible_and_instances (refine rwG ((if_pos rfl) ..) ?_))
    refine wpAny_pure ?_
    refine wpAny_bind (wpAny_setField_rec ho' (by simp) fun h1' e1 k1 => ?_)
    refine wpAny_bind (wpAny_setField_rec (s := { s' with heap := h1' }) e1 (by simp) fun h2' e2 k2 => ?_)
    refine wpAny_setField_rec (s := { s' with heap := h2' }) e2 (by simp) fun h3' e3 k3 => ?_
    refine stop_raised hh fun y h' k ⟨o, e, c⟩ => ?_
    refine wpAny_bind (wpAny_isInstance (T := "StopIteration") (b := true) ⟨_, e, c⟩ isSubtype_stop (wpAny_pure ?_))
    exact h2 rfl h' (fun b ob hb e => k b ob ((k3.2 b hb).trans ((k2.2 b hb).trans ((k1.2 b hb).trans e)))) (k it _ e3)
  · rw [decide_eq_false (fun q => hx q.symm)]
    simp only [Bool.not_false, if_true]
    exact wpAny_pure ⟨_, rfl, wpAny_pure (h1 hx)⟩
end
end Mine.Internal
end

section
namespace Mine.Internal
open PySem PySem.Calls PyProof.Rows PySem.W Builtin Builtin.ObjectAttr

theorem lk_fn_get : typeLookup (.type "function") "__get__" = pure (some (.builtin "function.__get__")) := by (rewrite [typeLookup_type]; (with_reducible_and_instances (refine rwG (builtinLookup_eq_fast ..) ?_))); kernel_rfl
theorem lk_fn_set : typeLookup (.type "function") "__set__" = pure none := by (rewrite [typeLookup_type]; (with_reducible_and_instances (refine rwG (builtinLookup_eq_fast ..) ?_))); kernel_rfl
theorem lk_fn_del : typeLookup (.type "function") "__delete__" = pure none := by (rewrite [typeLookup_type]; (with_reducible_and_instances (refine rwG (builtinLookup_eq_fast ..) ?_))); kernel_rfl

section
variable {prog : Program} {w : World} {A : Around} {E : Value → Shared → Prop} {h : Heap} {g : Array GenState} {d : Drawn} {t : Nat} {os : OsState}
variable {nm q : Str} {C N x f : Addr} {bs : List Value} {sn : List Str} {sub : List Value} {ab : Bool} {col : Option Bool} {dd : Option Addr} {k0 k1 k2 k3 k5 : Option Value} {newId : String}
  {mN mA : Str → Option Value} {name : Str} {fo : Obj}

theorem fn_get_at {tp : Value} {Q : Value → Shared → Prop} (hfo : h.get? f = some fo) (hfc : fo.cls = .type "function")
    (hq : Q (.ref h.objs.size) ⟨h.push (methodObj (.ref f) (.ref x)), g, d, t, os⟩) : wpAny (model prog w) A (call (.builtin "function.__get__") [.ref f, .ref x, tp]) Q E ⟨h, g, d, t, os⟩ := by
  refine wpAny_call (codeAny_call_builtin KF.slot_fn.plain KF.entry_fn (KF.slot_fn.check _ _ _ _ _ _ _ _ ⟨_, hfo, hfc⟩ (KF.args_fn _ _ _) ?_))
  repeat k_node
  exact hq

theorem load_bound_entry {tk : Tok} {Q : PySem.Fin → Shared → Prop} {y : Option Value}
    (hC : h.get? C = some (excClassObj nm q C N bs [.type "object"] true sn sub ab col dd k0 k1 k2 k3 k5 newId)) (hn : h.Ns N mN) (hnh : mN "__getattr__" = none) (hna : mN name = some (.ref f)) (hfo : h.get? f = some fo) (hfc : fo.cls = .type "function")
    (hB : typeLookup (.type "object") name = pure y) (I : h.Inst x C mA) (hv : mA name = none)
    (hcp : (["__module__", "__name__", "__qualname__", "__doc__", "__annotations__"] : List Str).contains name = false) (hq : Q (.done (.ret (.ref h.objs.size))) ⟨h.push (methodObj (.ref f) (.ref x)), g, d, t, os⟩) :
    wpAny (model prog w) A (Builtin.«proto.getattr_hooked» ⟨[.ref x, .str name tk], []⟩) Q E ⟨h, g, d, t, os⟩ := by
  obtain ⟨o, hx, hc, hnc, hd⟩ := I
  unfold Builtin.«proto.getattr_hooked»
  repeat (first | (with_reducible refine wpAny_loadPart_at hx ?_; rewrite [hc]) | (with_reducible refine wpAny_typeLookup_exc hC hn F.mro_object hB ?_; rewrite [hna]) | (with_reducible refine wpAny_typeOf (T := "function") ⟨_, hfo, hfc⟩ ?_) | (rewrite [lk_fn_get]) | (rewrite [lk_fn_set]) | (rewrite [lk_fn_del]) | wp_step)
  ((with_reducible_and_instances (refine rwG (hfc ..) ?_; refine rwG (lk_fn_get ..) ?_)))
  repeat (first | (with_reducible refine wpAny_loadPart_at hx ?_; rewrite [hc]) | (with_reducible refine wpAny_loadPart_at hfo ?_; rewrite [hfc]) | (rewrite [lk_fn_set]) | (rewrite [lk_fn_del]) | wp_step)
  split
  · rename_i c hcd
    exact absurd hcd (hnc c)
  unfold instanceDict
  repeat (first | (with_reducible refine wpAny_loadPart_at hx ?_; rewrite [hc]) | with_reducible refine wpAny_loadPart_at hC ?_ | wp_step)
  rcases hd with ⟨hdn, _⟩ | ⟨dx, hdx, hne, hns⟩
  · (with_reducible_and_instances (refine rwG (hdn ..) ?_))
    repeat (first | (rewrite [hcp]) | (with_reducible refine wpAny_typeLookup_exc hC hn F.mro_object F.lk_object_getattr ?_; rewrite [hnh]) | (with_reducible refine fn_get_at hfo hfc ?_) | wp_step)
    exact hq
  · (with_reducible_and_instances (refine rwG (hdx ..) ?_))
    repeat (first | (with_reducible refine wpAny_nsGet hns.ns ?_; rewrite [hv]) | (rewrite [hcp]) | (with_reducible refine wpAny_typeLookup_exc hC hn F.mro_object F.lk_object_getattr ?_; rewrite [hnh]) | (with_reducible refine fn_get_at hfo hfc ?_) | wp_step)
    exact hq

theorem handed_ref {a : Addr} : handedOut (.ref a) = pure (.ref a) := rfl

theorem load_bound {expr : Bool} {Q : Value → Shared → Prop} {y : Option Value}
    (hC : h.get? C = some (excClassObj nm q C N bs [.type "object"] true sn sub ab col dd k0 k1 k2 k3 k5 newId)) (hn : h.Ns N mN) (hng : mN "__getattribute__" = none) (hnh : mN "__getattr__" = none) (hna : mN name = some (.ref f)) (hfo : h.get? f = some fo) (hfc : fo.cls = .type "function")
    (hB : typeLookup (.type "object") name = pure y) (I : h.Inst x C mA) (hv : mA name = none)
    (hcp : (["__module__", "__name__", "__qualname__", "__doc__", "__annotations__"] : List Str).contains name = false) (hq : Q (.ref h.objs.size) ⟨h.push (methodObj (.ref f) (.ref x)), g, d, t + 1, os⟩) :
    wpAny (model prog w) A (getAttr (.ref x) name expr) Q E ⟨h, g, d, t, os⟩ := by
  obtain ⟨o, hx, hc, _⟩ := id I
  unfold getAttr getAttrBy
  repeat (first | (with_reducible refine wpAny_loadPart_at hx ?_; rewrite [hc]) | (with_reducible refine wpAny_typeLookup_exc hC hn F.mro_object F.lk_object_ga ?_; rewrite [hng]) | wp_step)
  show wpAny _ _ ((runValue (.builtin "proto.getattr_hooked" ⟨[.ref x, .str name t], []⟩)).onRaise (noteIf true (.ref x) (.str name t))) _ _ _
  refine wpAny_onRaise (wpAny_runValue (codeAny_builtin F.plainObj_entry_getattr_hooked (load_bound_entry hC hn hnh hna hfo hfc hB I hv hcp ?_)))
  show wpAny _ _ (handedOut (.ref h.objs.size)) _ _ _
  (with_reducible_and_instances (refine rwG (handed_ref ..) ?_))
  exact wpAny_pure hq

theorem lk_meth_call : typeLookup (.type "method") "__call__" = pure (some (.builtin "method.__call__")) := by (rewrite [typeLookup_type]; (with_reducible_and_instances (refine rwG (builtinLookup_eq_fast ..) ?_))); kernel_rfl
theorem kind_iter : builtinKind "iter" = none := by decide +kernel
theorem plain_iter : plainId "iter" = true := by decide +kernel
theorem entry_iter : entryFor table "iter" = some Builtin.«iter» := entryFor_of_tree (by kernel_rfl)
theorem args_iter_2 (a b : Value) : argsOk "iter" ⟨[a, b], []⟩ := by unfold argsOk; kernel_rfl

theorem call_iter2 {bm : Addr} {u : Tok} {fv self : Value} {Q : Value → Shared → Prop} (hb : h.get? bm = some (methodObj fv self)) (hq : Q (.ref h.objs.size) ⟨h.push (itOn bm u), g, d, t, os⟩) :
    wpAny (model prog w) A (call (.builtin "iter") [.ref bm, .str ⟨#[]⟩ u]) Q E ⟨h, g, d, t, os⟩ := by
  refine Calls.call_function_entry kind_iter plain_iter entry_iter (args_iter_2 _ _) ?_
  unfold Builtin.«iter»
  refine wpAny_bind (wpAny_of_eq (a := [.ref bm, .str ⟨#[]⟩ u]) (by first | rfl | kernel_rfl) ?_)
  dsimp only
  refine wpAny_bind (wpAny_specialOf (T := "method") (name := Str.ofString "__call__") ⟨_, hb, rfl⟩ lk_meth_call ?_)
  repeat wp_step
  exact ⟨_, rfl, hq⟩

theorem lk_fn_ga : typeLookup (.type "function") "__getattribute__" = pure (some (.builtin "object.__getattribute__")) := by (rewrite [typeLookup_type]; (with_reducible_and_instances (refine rwG (builtinLookup_eq_fast ..) ?_))); kernel_rfl
theorem lk_fn_getattr : typeLookup (.type "function") "__getattr__" = pure none := by (rewrite [typeLookup_type]; (with_reducible_and_instances (refine rwG (builtinLookup_eq_fast ..) ?_))); kernel_rfl
theorem lk_fn_read : typeLookup (.type "function") "read" = pure none := by (rewrite [typeLookup_type]; (with_reducible_and_instances (refine rwG (builtinLookup_eq_fast ..) ?_))); kernel_rfl

theorem bind_ga (self : Value) : bindSpecial (.builtin "object.__getattribute__") self = pure (.builtin "object.__getattribute__", [self]) := by
  unfold bindSpecial
  (with_reducible_and_instances (refine rwG ((show typeOf (.builtin "object.__getattribute__") = pure (.type "wrapper_descriptor") from by kernel_rfl) ..) ?_))
  rfl
theorem slot_fn_ga : PySem.Slot "function" "__getattribute__" "object.__getattribute__" :=
  .of (owner := "object") (n := "__getattribute__") (by (rewrite [typeLookup_type]; (with_reducible_and_instances (refine rwG (builtinLookup_eq_fast ..) ?_))); kernel_rfl) (by decide +kernel) (by decide +kernel) (by decide +kernel)
    (by first | exact .inl (by decide +kernel) | exact .inr (by decide +kernel)) (by rw [isSubtype_type]; kernel_rfl)
theorem entry_ga : entryFor table "object.__getattribute__" = some Builtin.«object.__getattribute__» := entryFor_of_tree (by kernel_rfl)
theorem args_ga (a b : Value) : argsOk "object.__getattribute__" ⟨[a, b], []⟩ := by unfold argsOk; kernel_rfl

noncomputable def FnDict (h : Heap) (fn dx : Addr) (m : Str → Option Value) : Prop := ∃ o, h.get? fn = some o ∧ o.cls = .type "function" ∧ (∀ c, o.data ≠ .cls c) ∧ o.dict = some dx ∧ fn ≠ dx ∧ h.Ns1 dx m

theorem fn_read_meth {fn dx : Addr} {m : Str → Option Value} {v : Value} {pl : Sem Bool} {Q : Value × List Value → Shared → Prop} (I : FnDict h fn dx m) (hv : m "read" = some v) (hh : handedOut v = pure v) (hq : ∀ t', Q (v, []) ⟨h, g, d, t', os⟩) :
    wpAny (model prog w) A (getMethod (.ref fn) "read" pl) Q E ⟨h, g, d, t, os⟩ := by
  obtain ⟨o, hx, hc, hnc, hdx, hne, hns⟩ := I
  have hT : Shared.TypeIs ⟨h, g, d, t, os⟩ (.ref fn) "function" := ⟨_, hx, hc⟩
  unfold getMethod
  refine wpAny_bind (wpAny_specialOf (T := "function") (name := Str.ofString "__getattribute__") hT lk_fn_ga ?_)
  repeat (first | (rewrite [lk_fn_getattr]) | (rewrite [lk_fn_read]) | (with_reducible refine wpAny_specialOf (T := "function") (name := Str.ofString "read") hT lk_fn_read ?_) | wp_step)
  ((with_reducible_and_instances (refine rwG (hc ..) ?_; refine rwG (lk_fn_ga ..) ?_)))
  refine wpAny_pure ?_
  dsimp only
  (with_reducible_and_instances (refine rwG ((if_neg (by simp [onTheHeap])) ..) ?_))
  unfold getAttrByItsOwn hookBefore
  (with_reducible_and_instances (refine rwG ((if_neg (by simp [onTheHeap])) ..) ?_))
  refine wpAny_bind (wpAny_pure (wpAny_bind (wpAny_attempt (wpAny_holding ?_))))
  unfold callGetattribute
  (with_reducible_and_instances (refine rwG ((if_neg (by simp [onTheHeap])) ..) ?_))
  unfold boundAndCalled
  rw [bind_ga]
  refine wpAny_bind (wpAny_pure ?_)
  refine wpAny_call_entry slot_fn_ga ⟨_, hx, hc⟩ entry_ga ?_ (args_ga _ _)
  unfold Builtin.«object.__getattribute__»
  repeat (first | (with_reducible refine wpAny_loadPart_at hx ?_; rewrite [hc]) | (rewrite [lk_fn_read]) | wp_step)
  split
  · rename_i c hcd
    exact absurd hcd (hnc c)
  unfold instanceDict
  repeat (first | (with_reducible refine wpAny_loadPart_at hx ?_; rewrite [hc]) | wp_step)
  (with_reducible_and_instances (refine rwG (hdx ..) ?_))
  repeat (first | (with_reducible refine wpAny_nsGet hns.ns ?_; rewrite [hv]) | wp_step)
  refine ⟨v, rfl, ?_⟩
  show wpAny _ _ (handedOut v) _ _ _
  (with_reducible_and_instances (refine rwG (hh ..) ?_))
  exact wpAny_pure (wpAny_pure (hq _))

theorem slot_fn_sa : PySem.Slot "function" "__setattr__" "object.__setattr__" :=
  .of (owner := "object") (n := "__setattr__") (by (rewrite [typeLookup_type]; (with_reducible_and_instances (refine rwG (builtinLookup_eq_fast ..) ?_))); kernel_rfl) (by decide +kernel) (by decide +kernel) (by decide +kernel)
    (by first | exact .inl (by decide +kernel) | exact .inr (by decide +kernel)) (by rw [isSubtype_type]; kernel_rfl)
theorem mro_fn : mroOf (.type "function") = pure [.type "function", .type "object"] := by kernel_rfl
theorem refuse_fn (self : Value) : refuseLoop self "__setattr__" [.type "function", .type "object"] = pure () := by kernel_rfl
theorem fin_fn : finalisedInACycleAlone "function" = false := by decide +kernel

theorem fn_read_set {fn : Addr} {o : Obj} {v : Value} {Q : Unit → Shared → Prop} (hx : h.get? fn = some o) (hc : o.cls = .type "function") (hnc : ∀ c, o.data ≠ .cls c) (hdn : o.dict = none)
    (hq : ∀ h' t', FnDict h' fn h.objs.size (fun y => if y = Str.ofString "read" then some v else none) → (∀ b o, b ≠ fn → h.get? b = some o → h'.get? b = some o) → (∀ o₀, h.get? fn = some o₀ → ∃ o₁, h'.get? fn = some o₁ ∧ o₁.data = o₀.data) → Q () ⟨h', g, d, t', os⟩) :
    wpAny (model prog w) A (setAttr (.ref fn) "read" v) Q E ⟨h, g, d, t, os⟩ := by
  have hT : ∀ t, Shared.TypeIs ⟨h, g, d, t, os⟩ (.ref fn) "function" := fun t => ⟨_, hx, hc⟩
  unfold setAttr
  refine wpAny_bind (wpAny_mkText ?_)
  refine wpAny_bind (wpAny_callSpecial?_slot (name := Str.ofString "__setattr__") (hT _) slot_fn_sa (wpAny_call_entry slot_fn_sa (hT _) PySem.F.store_object.entry ?_ (PySem.F.store_object.args _ _ _)))
  unfold Builtin.«object.__setattr__»
  repeat (first | (rewrite [refuse_eq]) | (rewrite [mro_fn]) | (rewrite [refuse_fn]) | (with_reducible refine wpAny_loadPart_at hx ?_; rewrite [hc]) | (rewrite [lk_fn_read]) | wp_step)
  ((with_reducible_and_instances (refine rwG (hdn ..) ?_; refine rwG ((if_neg (by decide +kernel)) ..) ?_)))
  split
  · rename_i hcd
    cases hcd
  split
  · rename_i c hcd
    exact absurd hcd (hnc c)
  · have hx₁ : (h.push { cls := .type "dict", data := .dict #[] }).get? fn = some o := Heap.get?_push_of_some _ hx
    have hxs : fn ≠ h.objs.size := Nat.ne_of_lt (Heap.lt_size hx)
    refine wpAny_bind (wpAny_alloc' ?_)
    refine wpAny_bind (wpAny_update' hx₁ ?_)
    unfold dictMade
    dsimp only
    (with_reducible_and_instances (refine rwG (fin_fn ..) ?_))
    refine wpAny_pure ?_
    have hgd : ((h.push { cls := .type "dict", data := .dict #[] }).update fn fun o => { cls := o.cls, dict := some h.objs.size, data := o.data, slots := o.slots }).get? h.objs.size
        = some { cls := .type "dict", data := .dict #[] } :=
      (Heap.get?_update_ne _ _ _ _ hxs.symm).trans (Heap.get?_push_at rfl rfl)
    have hnd : ((h.push { cls := .type "dict", data := .dict #[] }).update fn fun o => { cls := o.cls, dict := some h.objs.size, data := o.data, slots := o.slots }).Ns h.objs.size (fun _ => none) :=
      ⟨_, #[], _, hgd, rfl, fun e he => absurd he (by simp), fun _ => rfl⟩
    show wpAny _ _ (storeInDict h.objs.size (.str (Str.ofString "read") _) (Str.ofString "read") v) _ _ _
    unfold storeInDict newKeyGuard
    refine wpAny_bind (wpAny_pure (wpAny_bind (wpAny_nsSet1 (Heap.Ns1.of_empty hnd) fun h' hn' hs => ?_)))
    obtain ⟨oD, esD, epD, hoD, hdD, hcD⟩ := hn'.count (Within.cons (Str.ofString "read") v Within.nil)
    refine wpAny_bind (wpAny_lookBehind hoD (by (with_reducible_and_instances (refine rwG (hdD ..) ?_)); exact pastItsLine_dict (Nat.le_trans hcD (by ((with_reducible_and_instances (refine rwG (List.length_cons ..) ?_; refine rwG (List.length_nil ..) ?_; refine rwG (sizeLine_eq ..) ?_))); lia))) ?_)
    have hx' : h'.get? fn = some { cls := o.cls, dict := some h.objs.size, data := o.data, slots := o.slots } := by
      refine (hs.2 fn hxs).trans (Heap.get?_update_self _ hx₁ ?_)
      have hfr := (Heap.get?_some_iff.mp hx).2
      obtain ⟨oc, od, odt, osl⟩ := o
      cases odt <;> first | rfl | exact hfr
    refine wpAny_pure ⟨_, rfl, wpAny_pure (hq h' _ ⟨_, hx', hc, hnc, rfl, hxs, hn'⟩ (fun b ob hbx hb => ?_) fun o₀ h₀ => ⟨_, hx', ?_⟩)⟩
    · exact (hs.2 b (Nat.ne_of_lt (Heap.lt_size hb))).trans ((Heap.get?_update_ne _ _ _ _ hbx).trans (Heap.get?_push_of_some _ hb))
    · obtain rfl : o = o₀ := Option.some.inj (hx.symm.trans h₀)
      rfl
end
end Mine.Internal
end

section
namespace Mine.Internal
open PySem PySem.Calls PyProof.Rows

section
variable {C : Cx} {ρ ρ' ρ₁ : Env'} {g g' g₁ g₂ : C.G} {P P' : Fl → Env' → C.G → Prop}

noncomputable def NextW (C : Cx) (g : C.G) (it : Addr) (res : Option PV) (g' : C.G) : Prop :=
  ∀ (X : Addr → Prop) (s : Shared) (Q : Option Value → Shared → Prop), (∀ a, s.heap.get? a = none → ¬ X a) → (∀ a, C.M a → X a) → C.T s.heap → C.W g s.heap →
    (∀ r s', (match res with | none => r = none | some p => ∃ u, r = some u ∧ Rep X s'.heap u p) → Step C g' s s' → Q r s') → wpAny C.mod C.A (pyNext (.ref it)) Q NoE s

noncomputable def TurnW (C : Cx) (J : Env' → C.G → Prop) (μ : C.G → Nat) (n : Nat) (P : Fl → Env' → C.G → Prop) : Fl → Env' → C.G → Prop := fun fl ρ' g' => match fl with
  | .next => ∃ ρ'', Weak ρ' ρ'' ∧ J ρ'' g' ∧ μ g' < n
  | .cont => ∃ ρ'', Weak ρ' ρ'' ∧ J ρ'' g' ∧ μ g' < n
  | .brk => P .next ρ' g'
  | .ret v => P (.ret v) ρ' g'

inductive ForWInv (C : Cx) (J : Env' → C.G → Prop) (μ : C.G → Nat) (O : List (Str × Addr)) (s : Shared) (n : Nat) (s' : Shared) : Prop
  | mk (ρ₁ : Env') (g₂ : C.G) (O₁ : List (Str × Addr)) (hn : n = μ g₂) (hJ : J ρ₁ g₂) (I : Inv C ρ₁ O₁ g₂ s') (k : SKeep C O O₁ s s') : ForWInv C J μ O s n s'
theorem St1.forW (hC : C.Ok) {x y : Str} {xp yp pos : Pos} {a : Addr} {body : List Stmt} (hy : (y, LV.val (.obj a)) ∈ ρ) (hI : ∀ (s : Shared) (Q : Value → Shared → Prop), C.W g s.heap → Q (.ref a) s → wpAny C.mod C.A (pyIter (.ref a)) Q NoE s)
    (J : Env' → C.G → Prop) (μ : C.G → Nat) (h0 : J ρ g)
    (step : ∀ ρ₁ g₁, J ρ₁ g₁ → (∃ g₂, NextW C g₁ a none g₂ ∧ P .next ρ₁ g₂) ∨ (∃ p g₂ ρ₂, NextW C g₁ a (some p) g₂ ∧ Put ρ₁ x (.val p) ρ₂ ∧ St C ρ₂ g₂ body (TurnW C J μ (μ g₁) P)))
    (hs : ∀ z, foldedSetIterable (.Name y yp) C.env z = pure z) : St1 C ρ g (.For (.Name x xp) (.Name y yp) body [] pos) P := fun O s I0 => by
  refine wpAny_For (wpAny_mono (Ev.name hC hy O s I0) (fun z s₁ h1 => ?_) fun _ _ x => x) hs
  obtain ⟨r1, st⟩ := h1
  obtain rfl := Rep.of_obj r1
  case _ =>
    have I2 := I0.step hC st
    refine hI s₁ _ I2.world ?_
    refine codeAny_forLoop_any (ForWInv C J μ O s) ?_ (μ g) ⟨ρ, g, O, rfl, h0, I2, st.skeep hC⟩
    rintro n s' ⟨ρ₁, g₁, O₁, rfl, hJ, I', k⟩
    have av : ∀ b, s'.heap.get? b = none → ¬ avoid C O₁ b := fun b e => (I'.new hC e).2.2.2
    rcases step ρ₁ g₁ hJ with ⟨g₂, hn, hP⟩ | ⟨p, g₂, ρ₂, hn, hp, hb⟩
    · refine wpAny_never (hn (avoid C O₁) s' _ av (fun b m => .inl (hC.mx b m)) (I'.top hC) I'.world fun r s₂ hr st2 => ?_)
      have hr' : r = none := hr
      subst hr'
      exact wpAny_execs_nil ⟨.next, ρ₁, O₁, g₂, hP, .next, I'.step hC st2, k.trans (st2.skeep hC)⟩
    · refine wpAny_never (hn (avoid C O₁) s' _ av (fun b m => .inl (hC.mx b m)) (I'.top hC) I'.world fun r s₂ hr st2 => ?_)
      obtain ⟨u, hu, ru⟩ := hr
      subst hu
      have I2' := I'.step hC st2
      refine wpAny_pure ?_
      refine wpAny_never (wpAny_assign_Name (store_val hC I2' ru hp fun s₃ I3 kb _ => ?_))
      refine wpAny_never (wpAny_mono (hb O₁ s₃ I3) (fun f s₄ pf => ?_) fun _ _ x => x)
      obtain ⟨fl, ρ₃, O₃, g₃, hP, hfl, I4, kc⟩ := pf
      have ke : SKeep C O O₃ s s₄ := ((k.trans (st2.skeep hC)).trans kb).trans kc
      cases hfl with
      | next => obtain ⟨ρ₄, hw, hJ', hlt⟩ := hP; exact ⟨_, hlt, ρ₄, g₃, O₃, rfl, hJ', I4.weak hw, ke⟩
      | cont => obtain ⟨ρ₄, hw, hJ', hlt⟩ := hP; exact ⟨_, hlt, ρ₄, g₃, O₃, rfl, hJ', I4.weak hw, ke⟩
      | brk => exact ⟨.next, ρ₃, O₃, g₃, hP, .next, I4, ke⟩
      | ret r => exact ⟨.ret _, ρ₃, O₃, g₃, hP, .ret r, I4, ke⟩
end

noncomputable def Wd.more (V : Wd) (it : Addr) (o : Bool → Obj) : Wd := ⟨fun a => V.M a ∨ a = it, V.G × Bool, fun g h => V.W g.1 h ∧ h.get? it = some (o g.2)⟩

theorem Wd.more_ok {V : Wd} (hV : V.Ok) {it : Addr} {o : Bool → Obj} : (V.more it o).Ok where
  wm := fun g h a hw hm => by
    rcases hm with hm | rfl
    · exact hV.wm _ _ _ hw.1 hm
    · exact ⟨_, hw.2⟩
  stab := fun g h h' hw hk => ⟨hV.stab _ _ _ hw.1 fun a o hm e => hk a o (hm.imp .inl id) e, hk it _ (.inl (.inr rfl)) hw.2⟩

theorem FnW.more {prog : Program} {w : World} {T T' : Heap → Prop} {V : Wd} {d : Nat} {f : Value} {g g' : V.G} {ps : List PV} {r : PV} {it : Addr} {o : Bool → Obj} {b : Bool} (h : FnW prog w T V d f g ps r g') (hT : ∀ h, T' h → T h) (hit : ¬ V.M it) :
    FnW prog w T' (V.more it o) d f (g, b) ps r (g', b) := fun A X s us hR hTs hX hMX hw hr =>
  codeAny_mono (h A X s us hR (hT _ hTs) hX (fun a m => hMX a (.inl m)) hw.1 hr) fun r' s' q => by
    obtain ⟨z, rfl, q1, q2, q3, q4⟩ := ret_of q fun _ e => e
    exact ⟨q1, q2, fun a o hm e => q3 a o (fun m => hm (.inl m)) e, q4, q3 it _ hit hw.2⟩
end Mine.Internal
end

section
namespace Mine.Internal
open PySem PySem.Calls PyProof.Rows PySem.W

structure LA where
  aL : Addr
  aLd : Addr
  aP : Addr
  aS : Addr
  aFn : Addr
  aFd : Addr
  aRd : Addr
  aC : Addr
  aN : Addr
  fR : Addr
  fG : Addr
  fP : Addr

set_option genInjectivity true in
structure LG where
  pos : Nat
  reg : Nat
  line : Nat
  push : List (List Nat)

noncomputable abbrev ws : List Nat := [10, 9, 13, 32]

inductive ClsOk (la : LA) (h : Heap) : Prop
  | mk (nm q bs sn sub ab col dd k0 k1 k2 k3 k5 newId : _) (mN : Str → Option Value) (oR oG oP : Obj) (a1 : h.get? la.aC = some (excClassObj nm q la.aC la.aN bs [.type "object"] true sn sub ab col dd k0 k1 k2 k3 k5 newId)) (a2 : h.Ns la.aN mN)
    (z1 : mN "__getattribute__" = none) (z2 : mN "__getattr__" = none) (z3 : mN "__setattr__" = none) (z4 : mN "lineno" = none) (z5 : mN "instream" = none) (z6 : mN "whitespace" = none) (z7 : mN "pushback" = none)
    (y1 : mN "_read_char" = some (.ref la.fR)) (y2 : mN "get_token" = some (.ref la.fG)) (y3 : mN "push_token" = some (.ref la.fP))
    (y4 : h.get? la.fR = some oR) (y5 : oR.cls = .type "function") (y6 : h.get? la.fG = some oG) (y7 : oG.cls = .type "function") (y8 : h.get? la.fP = some oP) (y9 : oP.cls = .type "function") (ne : la.aL ≠ la.aC) : ClsOk la h
inductive ClsAt (aC aN : Addr) (name : Str) (h : Heap) : Prop
  | mk (nm q bs sn sub ab col dd k0 k1 k2 k3 k5 newId : _) (mN : Str → Option Value) (a1 : h.get? aC = some (excClassObj nm q aC aN bs [.type "object"] true sn sub ab col dd k0 k1 k2 k3 k5 newId)) (a2 : h.Ns aN mN)
    (z1 : mN "__getattribute__" = none) (z3 : mN "__setattr__" = none) (z4 : mN name = none) : ClsAt aC aN name h

noncomputable abbrev attrs : List Str := ["lineno", "instream", "whitespace", "pushback"]
inductive InstW (aC aL aLd : Addr) (m : Str → Option Value) (h : Heap) : Prop
  | mk (o : Obj) (e : h.get? aL = some o) (c : o.cls = .ref aC) (nc : ∀ c, o.data ≠ .cls c) (d : o.dict = some aLd) (ne : aLd ≠ aL) (ns : h.Ns1 aLd m) (ways : Within m attrs) : InstW aC aL aLd m h
inductive LexI (la : LA) (line : Nat) (h : Heap) : Prop
  | mk (mA : Str → Option Value) (t t2 : Tok) (I : InstW la.aC la.aL la.aLd mA h)
    (x0 : mA "lineno" = some (.int line t)) (x1 : mA "instream" = some (.ref la.aFn)) (x2 : mA "whitespace" = some (.str ⟨ws.toArray⟩ t2)) (x3 : mA "pushback" = some (.ref la.aP))
    (x4 : mA "_read_char" = none) (x5 : mA "get_token" = none) (x6 : mA "push_token" = none) : LexI la line h
structure LexW (la : LA) (l : LG) (h : Heap) : Prop where
  inst : LexI la l.line h
  push : ∃ vs : List Value, h.PlainList la.aP vs.toArray ∧ ∀ X h', Reps X h' vs (l.push.map .str)
  state : ∃ t u, h.IsList la.aS #[.int l.pos t, .int l.reg u]
  stream : FnDict h la.aFn la.aFd (fun y => if y = Str.ofString "read" then some (.ref la.aRd) else none)

section
variable {h h' : Heap} {a b : Addr}
theorem ns1_keep {m : Str → Option Value} (n : h.Ns1 a m) (k : ∀ o, h.get? a = some o → h'.get? a = some o) : h'.Ns1 a m := by
  obtain ⟨o, es, ep, e, r⟩ := n; exact ⟨o, es, ep, k _ e, r⟩
theorem ns1_there {m : Str → Option Value} (n : h.Ns1 a m) : ∃ o es ep, h.get? a = some o ∧ o.data = .dict es ep := by
  obtain ⟨o, es, ep, e, r, _⟩ := n; exact ⟨o, es, ep, e, r⟩
section
variable {aC : Addr} {m : Str → Option Value}
theorem InstW.inst (w : InstW aC a b m h) : h.Inst a aC m := by
  obtain ⟨o, e, c, nc, d, ne, ns, _⟩ := w; exact ⟨o, e, c, nc, .inr ⟨_, d, ne, ns⟩⟩
theorem InstW.of (I : h.Inst a aC m) (ways : Within m attrs) (hd : ∀ o, h.get? a = some o → o.dict = some b) : InstW aC a b m h := by
  obtain ⟨o, e, c, nc, d⟩ := I
  have dL := hd _ e
  rcases d with d | ⟨dx, q1, q2, q3⟩
  · cases dL.symm.trans d.1
  · cases dL.symm.trans q1
    exact ⟨o, e, c, nc, dL, q2, q3, ways⟩
theorem InstW.keep (w : InstW aC a b m h) (k1 : ∀ o, h.get? a = some o → h'.get? a = some o) (k2 : ∀ o, h.get? b = some o → h'.get? b = some o) : InstW aC a b m h' := by
  obtain ⟨o, e, c, nc, d, ne, ns, w⟩ := w
  exact ⟨o, k1 _ e, c, nc, d, ne, ns1_keep ns k2, w⟩
theorem InstW.there (w : InstW aC a b m h) : (∃ o, h.get? a = some o) ∧ ∃ o, h.get? b = some o := by
  obtain ⟨o, e, _, _, _, _, ns, _⟩ := w
  obtain ⟨o', _, _, e', _⟩ := ns1_there ns
  exact ⟨⟨o, e⟩, o', e'⟩
end
theorem LexI.keep {la : LA} {n : Nat} (w : LexI la n h) (k1 : ∀ o, h.get? la.aL = some o → h'.get? la.aL = some o) (k2 : ∀ o, h.get? la.aLd = some o → h'.get? la.aLd = some o) : LexI la n h' := by
  obtain ⟨mA, t, t2, I, x0, x1, x2, x3, x4, x5, x6⟩ := w
  exact ⟨mA, t, t2, I.keep k1 k2, x0, x1, x2, x3, x4, x5, x6⟩
theorem FnDict.keep {m : Str → Option Value} (w : FnDict h a b m) (k1 : ∀ o, h.get? a = some o → h'.get? a = some o) (k2 : ∀ o, h.get? b = some o → h'.get? b = some o) : FnDict h' a b m := by
  obtain ⟨o, e, x, y, z, n, ns⟩ := w
  exact ⟨o, k1 _ e, x, y, z, n, ns1_keep ns k2⟩
theorem isList_keep {vs : Array Value} (w : h.IsList a vs) (k : ∀ o, h.get? a = some o → h'.get? a = some o) : h'.IsList a vs := by
  obtain ⟨o, e, r⟩ := w; exact ⟨o, k _ e, r⟩
theorem plain_keep {vs : Array Value} (w : h.PlainList a vs) (k : ∀ o, h.get? a = some o → h'.get? a = some o) : h'.PlainList a vs := by
  obtain ⟨n, e⟩ := w; exact ⟨n, k _ e⟩
end

theorem lko_lineno : typeLookup (.type "object") "lineno" = pure none := by (rewrite [typeLookup_type]; (with_reducible_and_instances (refine rwG (builtinLookup_eq_fast ..) ?_))); kernel_rfl
theorem lko_instream : typeLookup (.type "object") "instream" = pure none := by (rewrite [typeLookup_type]; (with_reducible_and_instances (refine rwG (builtinLookup_eq_fast ..) ?_))); kernel_rfl
theorem lko_whitespace : typeLookup (.type "object") "whitespace" = pure none := by (rewrite [typeLookup_type]; (with_reducible_and_instances (refine rwG (builtinLookup_eq_fast ..) ?_))); kernel_rfl
theorem lko_pushback : typeLookup (.type "object") "pushback" = pure none := by (rewrite [typeLookup_type]; (with_reducible_and_instances (refine rwG (builtinLookup_eq_fast ..) ?_))); kernel_rfl
theorem lko_read_char : typeLookup (.type "object") "_read_char" = pure none := by (rewrite [typeLookup_type]; (with_reducible_and_instances (refine rwG (builtinLookup_eq_fast ..) ?_))); kernel_rfl
theorem lko_get_token : typeLookup (.type "object") "get_token" = pure none := by (rewrite [typeLookup_type]; (with_reducible_and_instances (refine rwG (builtinLookup_eq_fast ..) ?_))); kernel_rfl
theorem lko_push_token : typeLookup (.type "object") "push_token" = pure none := by (rewrite [typeLookup_type]; (with_reducible_and_instances (refine rwG (builtinLookup_eq_fast ..) ?_))); kernel_rfl

noncomputable abbrev LexV (V : Wd) (la : LA) : Wd :=
  ⟨fun a => ((((V.M a ∨ a = la.aS) ∨ False) ∨ a = la.aFn) ∨ a = la.aFd) ∨ (a = la.aL ∨ a = la.aLd ∨ a = la.aP), V.G × LG, fun g h => V.W g.1 h ∧ LexW la g.2 h⟩

theorem LexW.stab {la : LA} {l : LG} {h h' : Heap} (w : LexW la l h) (k : ∀ a o, (a = la.aS ∨ a = la.aFn ∨ a = la.aFd ∨ a = la.aL ∨ a = la.aLd ∨ a = la.aP) → h.get? a = some o → h'.get? a = some o) : LexW la l h' where
  inst := w.inst.keep (fun o => k _ o (.inr (.inr (.inr (.inl rfl))))) fun o => k _ o (.inr (.inr (.inr (.inr (.inl rfl)))))
  push := w.push.imp fun vs p => ⟨plain_keep p.1 fun o => k _ o (.inr (.inr (.inr (.inr (.inr rfl))))), p.2⟩
  state := w.state.imp fun t => Exists.imp fun u p => isList_keep p fun o => k _ o (.inl rfl)
  stream := w.stream.keep (fun o => k _ o (.inr (.inl rfl))) fun o => k _ o (.inr (.inr (.inl rfl)))

theorem LexV.ok {V : Wd} {la : LA} (hV : V.Ok) : (LexV V la).Ok where
  wm := fun g h a hw hm => by
    obtain ⟨h0, ⟨⟨_, _, _, I, _⟩, hp, hs, hf⟩⟩ := hw
    rcases hm with ((((hm | rfl) | hm) | rfl) | rfl) | (rfl | rfl | rfl)
    · exact hV.wm _ _ _ h0 hm
    · obtain ⟨_, _, o, e, _⟩ := hs; exact ⟨o, e⟩
    · exact hm.elim
    · exact ⟨_, hf.choose_spec.1⟩
    · obtain ⟨o, _, _, e, _⟩ := ns1_there hf.choose_spec.2.2.2.2.2; exact ⟨o, e⟩
    · exact I.there.1
    · exact I.there.2
    · obtain ⟨_, ⟨_, e⟩, _⟩ := hp; exact ⟨_, e⟩
  stab := fun g h h' hw hk => ⟨hV.stab _ _ _ hw.1 fun a o hm e => hk a o (hm.imp (fun m => .inl (.inl (.inl (.inl (.inl m))))) id) e, hw.2.stab fun a o q e => hk a o (.inl (by
    rcases q with rfl | rfl | rfl | rfl | rfl | rfl
    · exact .inl (.inl (.inl (.inl (.inr rfl))))
    · exact .inl (.inl (.inr rfl))
    · exact .inl (.inr rfl)
    · exact .inr (.inl rfl)
    · exact .inr (.inr (.inl rfl))
    · exact .inr (.inr (.inr rfl)))) e⟩
end Mine.Internal
end

section
namespace Mine.Internal
open PySem PySem.Calls PyProof.Rows PySem.W

structure HasLex (C : Cx) (la : LA) where
  get : C.G → LG
  put : C.G → LG → C.G
  hw : ∀ g h, C.W g h → LexW la (get g) h
  cls : ∀ h, C.T h → ClsOk la h
  upd : ∀ g l h h', C.W g h → (∀ a o, a ≠ la.aS → a ≠ la.aL → a ≠ la.aLd → a ≠ la.aP → h.get? a = some o → h'.get? a = some o) → LexW la l h' → C.W (put g l) h'
  mS : C.M la.aS
  mL : C.M la.aL
  mLd : C.M la.aLd
  mP : C.M la.aP
  ap : [la.aL, la.aLd, la.aP, la.aS, la.aFn, la.aFd].Nodup
  gp : ∀ g l, get (put g l) = l
  pp : ∀ g l l', put (put g l) l' = put g l'
  pg : ∀ g, put g (get g) = g

structure LA.Apart (la : LA) : Prop where
  pl : la.aP ≠ la.aL
  pd : la.aP ≠ la.aLd
  sl : la.aS ≠ la.aL
  sd : la.aS ≠ la.aLd
  sp : la.aS ≠ la.aP
  fl : la.aFn ≠ la.aL
  fd : la.aFn ≠ la.aLd
  fp : la.aFn ≠ la.aP
  fs : la.aFn ≠ la.aS
  dl : la.aFd ≠ la.aL
  dd : la.aFd ≠ la.aLd
  dp : la.aFd ≠ la.aP
  ds : la.aFd ≠ la.aS
  ld : la.aL ≠ la.aLd
theorem LA.Apart.of {la : LA} (h : [la.aL, la.aLd, la.aP, la.aS, la.aFn, la.aFd].Nodup) : la.Apart := by
  simp only [List.nodup_cons, List.mem_cons, List.not_mem_nil, or_false, not_or, List.nodup_nil, and_true] at h
  obtain ⟨⟨a1, a2, a3, a4, a5⟩, ⟨b1, b2, b3, b4⟩, ⟨c1, c2, c3⟩, ⟨d1, d2⟩, e1⟩ := h
  exact ⟨Ne.symm a2, Ne.symm b1, Ne.symm a3, Ne.symm b2, Ne.symm c1, Ne.symm a4, Ne.symm b3, Ne.symm c2, Ne.symm d1, Ne.symm a5, Ne.symm b4, Ne.symm c3, Ne.symm d2, a1⟩

section
variable {C : Cx} {la : LA} {g : C.G}

theorem HasLex.attr (H : HasLex C la) {name : Str} {p : PV} (hB : typeLookup (.type "object") name = pure none)
    (h : ∀ (mA : Str → Option Value) (t t2 : Tok), mA "lineno" = some (.int (H.get g).line t) → mA "instream" = some (.ref la.aFn) → mA "whitespace" = some (.str ⟨ws.toArray⟩ t2) → mA "pushback" = some (.ref la.aP) → ∃ v, mA name = some v ∧ handedOut v = pure v ∧ ∀ X h', Rep X h' v p)
    (hN : ∀ h, ClsOk la h → ClsAt la.aC la.aN name h) : GAttr C g la.aL name p := fun X s Q hT hW hQ => by
  obtain ⟨hh, gg, d, t, os⟩ := s
  obtain ⟨mA, t1, t2, I, x0, x1, x2, x3, _⟩ := (H.hw _ _ hW).inst
  obtain ⟨v, e1, hd, hr⟩ := h mA t1 t2 x0 x1 x2 x3
  obtain ⟨nm, q, bs, sn, sub, ab, col, _, k0, k1, k2, k3, k5, newId, mN, hC, hn, hng, _, hna⟩ := hN _ (H.cls _ hT)
  exact load_attr hC hn hng hna hB I.inst e1 hd (hQ v (t + 1) (hr _ _))

theorem HasLex.lineno (H : HasLex C la) : GAttr C g la.aL "lineno" (.int (H.get g).line) := H.attr lko_lineno (fun _ _ _ e _ _ _ => ⟨_, e, rfl, fun _ _ => .int _ _⟩)
  fun h x => by cases x; exact ⟨_, _, _, _, _, _, _, _, _, _, _, _, _, _, _, by assumption, by assumption, by assumption, by assumption, by assumption⟩
theorem HasLex.instream (H : HasLex C la) : GAttr C g la.aL "instream" (.obj la.aFn) := H.attr lko_instream (fun _ _ _ _ e _ _ => ⟨_, e, rfl, fun _ _ => .obj _⟩)
  fun h x => by cases x; exact ⟨_, _, _, _, _, _, _, _, _, _, _, _, _, _, _, by assumption, by assumption, by assumption, by assumption, by assumption⟩
theorem HasLex.white (H : HasLex C la) : GAttr C g la.aL "whitespace" (.str ws) := H.attr lko_whitespace (fun _ _ _ _ _ e _ => ⟨_, e, rfl, fun _ _ => .str _ _⟩)
  fun h x => by cases x; exact ⟨_, _, _, _, _, _, _, _, _, _, _, _, _, _, _, by assumption, by assumption, by assumption, by assumption, by assumption⟩
theorem HasLex.pushback (H : HasLex C la) : GAttr C g la.aL "pushback" (.obj la.aP) := H.attr lko_pushback (fun _ _ _ _ _ _ e => ⟨_, e, rfl, fun _ _ => .obj _⟩)
  fun h x => by cases x; exact ⟨_, _, _, _, _, _, _, _, _, _, _, _, _, _, _, by assumption, by assumption, by assumption, by assumption, by assumption⟩

theorem HasLex.mRead (H : HasLex C la) : GMeth C g la.aFn "read" (.ref la.aRd) [] := fun A pl s Q hT hW hQ => by
  obtain ⟨hh, gg, d, t, os⟩ := s
  exact fn_read_meth (H.hw _ _ hW).stream (by rfl) rfl fun t' => hQ t'
theorem HasLex.mReadChar (H : HasLex C la) : GMeth C g la.aL "_read_char" (.ref la.fR) [.ref la.aL] := fun A pl s Q hT hW hQ => by
  obtain ⟨hh, gg, d, t, os⟩ := s
  obtain ⟨nm, q, bs, sn, sub, ab, col, dd, k0, k1, k2, k3, k5, newId, mN, oR, oG, oP, hC, hn, z1, z2, z3, z4, z5, z6, z7, y1, y2, y3, y4, y5, y6, y7, y8, y9, _⟩ := H.cls _ hT
  obtain ⟨mA, _, _, I, _, _, _, _, x4, x5, x6⟩ := (H.hw _ _ hW).inst
  exact method_of hC hn z1 z2 y1 y4 y5 lko_read_char I.inst x4 (hQ t)
theorem HasLex.mGet (H : HasLex C la) : GMeth C g la.aL "get_token" (.ref la.fG) [.ref la.aL] := fun A pl s Q hT hW hQ => by
  obtain ⟨hh, gg, d, t, os⟩ := s
  obtain ⟨nm, q, bs, sn, sub, ab, col, dd, k0, k1, k2, k3, k5, newId, mN, oR, oG, oP, hC, hn, z1, z2, z3, z4, z5, z6, z7, y1, y2, y3, y4, y5, y6, y7, y8, y9, _⟩ := H.cls _ hT
  obtain ⟨mA, _, _, I, _, _, _, _, x4, x5, x6⟩ := (H.hw _ _ hW).inst
  exact method_of hC hn z1 z2 y2 y6 y7 lko_get_token I.inst x5 (hQ t)
theorem HasLex.mPush (H : HasLex C la) : GMeth C g la.aL "push_token" (.ref la.fP) [.ref la.aL] := fun A pl s Q hT hW hQ => by
  obtain ⟨hh, gg, d, t, os⟩ := s
  obtain ⟨nm, q, bs, sn, sub, ab, col, dd, k0, k1, k2, k3, k5, newId, mN, oR, oG, oP, hC, hn, z1, z2, z3, z4, z5, z6, z7, y1, y2, y3, y4, y5, y6, y7, y8, y9, _⟩ := H.cls _ hT
  obtain ⟨mA, _, _, I, _, _, _, _, x4, x5, x6⟩ := (H.hw _ _ hW).inst
  exact method_of hC hn z1 z2 y3 y8 y9 lko_push_token I.inst x6 (hQ t)

noncomputable abbrev updM (m : Str → Option Value) (x : Str) (v : Value) : Str → Option Value := fun y => if y = x then some v else m y
theorem inst_set {prog : Program} {w : World} {A : Around} {aC aN aL aLd : Addr} {m : Str → Option Value} {s : Shared} {name : Str} {v : Value} (hn : name ∈ attrs) (hI : InstW aC aL aLd m s.heap) (hcls : ClsAt aC aN name s.heap) (hB : typeLookup (.type "object") name = pure none) (hne : aL ≠ aC) {Q : Unit → Shared → Prop}
    (hQ : ∀ h' tk, InstW aC aL aLd (updM m name v) h' → (∀ b o, b ≠ aL → b ≠ aLd → s.heap.get? b = some o → h'.get? b = some o) → Q () { s with heap := h', toks := tk }) : wpAny (model prog w) A (setAttr (.ref aL) name v) Q NoE s := by
  obtain ⟨hh, gg, d, t, os⟩ := s
  obtain ⟨nm, q, bs, sn, sub, ab, col, dd, k0, k1, k2, k3, k5, newId, mN, hC, hNs, _, z3, z4⟩ := hcls
  obtain ⟨oL, eL, c, nc, dL, ne, ns, hw⟩ := id hI
  refine store_attr (ns := attrs) PySem.F.store_object hC hNs z3 z4 hB hne hI.inst (fun h' tk' I' hk ho => ?_) hw (by decide +kernel)
  obtain ⟨o1, e1, _, _, _, c4⟩ := ho oL eL
  refine hQ h' tk' (.of I' (fun y hy => ?_) fun o e => ?_) fun b o q1 q2 e => hk b o q1 (fun o₀ dx q3 q4 => ?_) e
  · by_cases e : y = name
    · exact e ▸ hn
    · exact hw y fun z => hy ((if_neg e).trans z)
  · cases e1.symm.trans e; exact c4 _ dL
  · have q3' : hh.get? aL = some o₀ := q3
    cases eL.symm.trans q3'; cases dL.symm.trans q4; exact q2

theorem HasLex.setLine (H : HasLex C la) {n : Nat} : GSet C g la.aL "lineno" (.int n) (H.put g { H.get g with line := n }) := fun X s u hT hW hr => by
  obtain ⟨tu, rfl⟩ := hr.int_is
  have w := H.hw _ _ hW
  obtain ⟨mA, t1, t2, I, x0, x1, x2, x3, x4, x5, x6⟩ := w.inst
  have hcl := H.cls _ hT
  have ap := LA.Apart.of H.ap
  refine inst_set (aN := la.aN) List.mem_cons_self I (by cases hcl; exact ⟨_, _, _, _, _, _, _, _, _, _, _, _, _, _, _, by assumption, by assumption, by assumption, by assumption, by assumption⟩) lko_lineno (by cases hcl; assumption) fun h' tk I' kp => ?_
  exact ⟨⟨rfl, rfl, rfl⟩, fun a o hm e => kp a o (fun z => hm (z ▸ H.mL)) (fun z => hm (z ▸ H.mLd)) e, H.upd _ _ _ _ hW (fun a o q1 q2 q3 q4 e => kp a o q2 q3 e)
    ⟨⟨_, tu, t2, I', if_pos rfl, (if_neg (by decide)).trans x1, (if_neg (by decide)).trans x2, (if_neg (by decide)).trans x3, (if_neg (by decide)).trans x4, (if_neg (by decide)).trans x5, (if_neg (by decide)).trans x6⟩,
      w.push.imp fun vs p => ⟨plain_keep p.1 fun o => kp _ o ap.pl ap.pd, p.2⟩, w.state.imp fun t => Exists.imp fun u p => isList_keep p fun o => kp _ o ap.sl ap.sd, w.stream.keep (fun o => kp _ o ap.fl ap.fd) fun o => kp _ o ap.dl ap.dd⟩⟩

theorem HasLex.state0 (H : HasLex C la) : ∀ h X, C.T h → C.W g h → ∃ vs u, h.IsList la.aS vs ∧ vs[(0 : Int).toNat]? = some u ∧ Rep X h u (.int (H.get g).pos) := fun h X _ hW =>
  let ⟨t, u, e⟩ := (H.hw _ _ hW).state; ⟨_, _, e, rfl, .int _ _⟩
theorem HasLex.state1 (H : HasLex C la) : ∀ h X, C.T h → C.W g h → ∃ vs u, h.IsList la.aS vs ∧ vs[(1 : Int).toNat]? = some u ∧ Rep X h u (.int (H.get g).reg) := fun h X _ hW =>
  let ⟨t, u, e⟩ := (H.hw _ _ hW).state; ⟨_, _, e, rfl, .int _ _⟩

theorem HasLex.put_state (H : HasLex C la) {h h' : Heap} {p r : Nat} {t u : Tok} (hW : C.W g h) (hs : h'.IsList la.aS #[.int p t, .int r u]) (k : Heap.SameBut la.aS h h') : C.W (H.put g { H.get g with pos := p, reg := r }) h' := by
  have ap := LA.Apart.of H.ap
  have w := H.hw _ _ hW
  have kp : ∀ {a : Addr}, a ≠ la.aS → ∀ o, h.get? a = some o → h'.get? a = some o := fun q o e => (k.2 _ q).trans e
  exact H.upd _ _ _ _ hW (fun a o q _ _ _ e => kp q o e) ⟨w.inst.keep (kp (Ne.symm ap.sl)) (kp (Ne.symm ap.sd)), w.push.imp fun vs p => ⟨plain_keep p.1 (kp (Ne.symm ap.sp)), p.2⟩, ⟨t, u, hs⟩, w.stream.keep (kp ap.fs) (kp ap.ds)⟩

theorem HasLex.set0 (H : HasLex C la) {n : Nat} : ∀ h X u, C.W g h → Rep X h u (.int n) → ∃ vs, h.IsList la.aS vs ∧ (0 : Int) < vs.size ∧ ∀ h', h'.IsList la.aS (vs.setIfInBounds (0 : Int).toNat u) → Heap.SameBut la.aS h h' → C.W (H.put g { H.get g with pos := n }) h' := fun h X u hW hr => by
  obtain ⟨t, v, e⟩ := (H.hw _ _ hW).state
  obtain ⟨tk, rfl⟩ := hr.int_is
  exact ⟨_, e, by simp, fun h' hl hs => H.put_state hW hl hs⟩
theorem HasLex.set1 (H : HasLex C la) {n : Nat} : ∀ h X u, C.W g h → Rep X h u (.int n) → ∃ vs, h.IsList la.aS vs ∧ (1 : Int) < vs.size ∧ ∀ h', h'.IsList la.aS (vs.setIfInBounds (1 : Int).toNat u) → Heap.SameBut la.aS h h' → C.W (H.put g { H.get g with reg := n }) h' := fun h X u hW hr => by
  obtain ⟨t, v, e⟩ := (H.hw _ _ hW).state
  obtain ⟨tk, rfl⟩ := hr.int_is
  exact ⟨_, e, by simp, fun h' hl hs => H.put_state hW hl hs⟩

theorem HasLex.put_push (H : HasLex C la) {h h' : Heap} {ps : List (List Nat)} {vs : List Value} (hW : C.W g h) (hs : h'.PlainList la.aP vs.toArray) (hr : ∀ X h', Reps X h' vs (ps.map .str)) (k : Heap.SameBut la.aP h h') : C.W (H.put g { H.get g with push := ps }) h' := by
  have ap := LA.Apart.of H.ap
  have w := H.hw _ _ hW
  have kp : ∀ {a : Addr}, a ≠ la.aP → ∀ o, h.get? a = some o → h'.get? a = some o := fun q o e => (k.2 _ q).trans e
  exact H.upd _ _ _ _ hW (fun a o _ _ _ q e => kp q o e) ⟨w.inst.keep (kp (Ne.symm ap.pl)) (kp (Ne.symm ap.pd)), ⟨vs, hs, hr⟩, w.state.imp fun t => Exists.imp fun u p => isList_keep p (kp ap.sp), w.stream.keep (kp ap.fp) (kp ap.dp)⟩

theorem HasLex.pushList (H : HasLex C la) : ∀ h, C.W g h → ∃ vs, h.PlainList la.aP vs := fun h hW => let ⟨vs, e, _⟩ := (H.hw _ _ hW).push; ⟨_, e⟩
theorem HasLex.pushTrue (H : HasLex C la) (hn : (H.get g).push.length < 1000) : ∀ h, C.W g h → ∃ vs, h.IsList la.aP vs ∧ (vs.size : Int) < 2 ^ 63 ∧ (!vs.isEmpty) = !(H.get g).push.isEmpty := fun h hW => by
  obtain ⟨vs, e, r⟩ := (H.hw _ _ hW).push
  have hl := (r (fun _ => False) h).length
  rw [List.length_map] at hl
  refine ⟨_, e.isList, by (with_reducible_and_instances (refine rwG (List.size_toArray ..) ?_)); lia, ?_⟩
  cases vs with
  | nil => cases hp : (H.get g).push with
    | nil => rfl
    | cons => rw [hp] at hl; simp at hl
  | cons => cases hp : (H.get g).push with
    | nil => rw [hp] at hl; simp at hl
    | cons => rfl
theorem HasLex.append (H : HasLex C la) {x : List Nat} (hn : (H.get g).push.length < 1000) : ∀ h X u, C.W g h → Rep X h u (.str x) → ∃ vs, h.PlainList la.aP vs ∧ vs.size ≤ sizeLine ∧ ∀ h', h'.PlainList la.aP (vs.push u) → Heap.SameBut la.aP h h' → C.W (H.put g { H.get g with push := (H.get g).push ++ [x] }) h' := fun h X u hW hr => by
  obtain ⟨vs, e, r⟩ := (H.hw _ _ hW).push
  have hl := (r (fun _ => False) h).length
  rw [List.length_map] at hl
  refine ⟨_, e, by ((with_reducible_and_instances (refine rwG (List.size_toArray ..) ?_; refine rwG (sizeLine_eq ..) ?_))); lia, fun h' hp hs => ?_⟩
  · obtain ⟨t, rfl⟩ := hr.inv
    refine H.put_push hW (vs := vs ++ [.str ⟨x.toArray⟩ t]) (by simpa using hp) (fun X h'' => ?_) hs
    (with_reducible_and_instances (refine rwG (List.map_append ..) ?_))
    exact (r X h'').append (.cons (.str _ _) .nil)
theorem HasLex.pop (H : HasLex C la) {x : List Nat} {xs : List (List Nat)} (hp : (H.get g).push = x :: xs) (hn : xs.length < 1000) : ∀ h X, C.W g h → ∃ v vs, h.PlainList la.aP (v :: vs).toArray ∧ vs.length < sizeLine ∧ Rep X h v (.str x) ∧ (∀ h', Rep X h' v (.str x)) ∧
    ∀ h', h'.PlainList la.aP vs.toArray → Heap.SameBut la.aP h h' → C.W (H.put g { H.get g with push := xs }) h' := fun h X hW => by
  obtain ⟨vs, e, r⟩ := (H.hw _ _ hW).push
  rw [hp] at r
  have hl := (r (fun _ => False) h).length
  cases vs with
  | nil => simp at hl
  | cons v vs =>
    simp only [List.length_cons, List.length_map] at hl
    have r1 : ∀ X h', Rep X h' v (.str x) := fun X h' => by obtain ⟨_, _, e, a, _⟩ := (r X h').inv; cases e; exact a
    have r2 : ∀ X h', Reps X h' vs (xs.map .str) := fun X h' => by obtain ⟨_, _, e, _, b⟩ := (r X h').inv; cases e; exact b
    exact ⟨v, vs, e, by (with_reducible_and_instances (refine rwG (sizeLine_eq ..) ?_)); lia, r1 _ _, r1 _, fun h' hp' hs => H.put_push hW hp' r2 hs⟩
end
end Mine.Internal
end

section
namespace Mine.Internal
open PySem PySem.Calls PyProof.Rows PySem.W

noncomputable abbrev Cx.withW (C : Cx) (V : Wd) : Cx := { C with M := V.M, G := V.G, W := V.W }
theorem list_ne_code : Value.type "list" ≠ Value.type "code" := by decide
theorem rec_ne {h : Heap} {a b : Addr} {o o' : Obj} (hr : Obj.isRec o) (e : h.get? a = some o) (e' : h.get? b = some o') (c : o'.cls ≠ .type "code" ∨ ∀ vs, o'.data ≠ .fields vs) : a ≠ b := fun z => by
  subst z; cases e.symm.trans e'; exact c.elim (fun q => q hr.1) (fun q => hr.2.elim fun vs d => q vs d)
noncomputable def hasLexW {C : Cx} {V : Wd} {la : LA} (hV : V.Ok)
    (hdis : ∀ a, V.M a → a ≠ la.aS ∧ a ≠ la.aL ∧ a ≠ la.aLd ∧ a ≠ la.aP) (hT : ∀ h, C.T h → ClsOk la h) (ap : [la.aL, la.aLd, la.aP, la.aS, la.aFn, la.aFd].Nodup) : HasLex (C.withW (LexV V la)) la where
  get := Prod.snd
  put := fun g l => (g.1, l)
  hw := fun g h hw => hw.2
  cls := hT
  upd := fun g l h h' hw k nl => by
    refine ⟨hV.stab _ _ _ hw.1 fun a o hm e => ?_, nl⟩
    have ne : a ≠ la.aS ∧ a ≠ la.aL ∧ a ≠ la.aLd ∧ a ≠ la.aP := by
      rcases hm with hm | hr
      · exact hdis a hm
      · obtain ⟨⟨_, _, _, ⟨_, e1, c1, _, _, _, ns, _⟩, _⟩, ⟨_, ⟨_, hp⟩, _⟩, ⟨_, _, _, ho, hc, _⟩, _⟩ := hw.2
        obtain ⟨_, _, _, x1, x2⟩ := ns1_there ns
        exact ⟨rec_ne hr e ho (.inl (by (with_reducible_and_instances (refine rwG (hc ..) ?_)); exact list_ne_code)), rec_ne hr e e1 (.inl (by (with_reducible_and_instances (refine rwG (c1 ..) ?_)); exact fun z => nomatch z)), rec_ne hr e x1 (.inr fun vs z => nomatch x2.symm.trans z), rec_ne hr e hp (.inl list_ne_code)⟩
    exact k a o ne.1 ne.2.1 ne.2.2.1 ne.2.2.2 e
  mS := .inl (.inl (.inl (.inl (.inr rfl))))
  mL := .inr (.inl rfl)
  mLd := .inr (.inr (.inl rfl))
  mP := .inr (.inr (.inr rfl))
  ap := ap
  gp := fun _ _ => rfl
  pp := fun _ _ _ => rfl
  pg := fun _ => rfl

noncomputable def hasLexF {prog : Program} {w : World} {T : Heap → Prop} {V : Wd} {la : LA} {d : Nat} {fd : FuncData} {names : List Str} {a : Addr} {cells : List (Str × Addr)} {A : Around} {X : Addr → Prop} {s : Shared} (hV : V.Ok)
    (hdis : ∀ a, V.M a → a ≠ la.aS ∧ a ≠ la.aL ∧ a ≠ la.aLd ∧ a ≠ la.aP) (hT : ∀ h, T h → ClsOk la h) (ap : [la.aL, la.aLd, la.aP, la.aS, la.aFn, la.aFd].Nodup) : HasLex (frameW prog w T (LexV V la) d fd names a cells A X s) la :=
  hasLexW (C := frameW prog w T (LexV V la) d fd names a cells A X s) hV hdis hT ap

noncomputable def HasLex.more {C : Cx} {la : LA} (H : HasLex C la) {s₁ : Shared} {K : Addr → Prop} {it : Addr} {o : Bool → Obj} {T' : Heap → Prop} (hT : ∀ h, T' h → C.T h) (hit : it ≠ la.aS ∧ it ≠ la.aL ∧ it ≠ la.aLd ∧ it ≠ la.aP) :
    HasLex (C.turn s₁ K (fun a => a = it) (C.G × Bool) (fun g h => C.W g.1 h ∧ h.get? it = some (o g.2)) T') la where
  get := fun g => H.get g.1
  put := fun g l => (H.put g.1 l, g.2)
  hw := fun g h hw => H.hw _ _ hw.1
  cls := fun h t => H.cls h (hT h t)
  upd := fun g l h h' hw k nl => ⟨H.upd _ _ _ _ hw.1 k nl, k it _ hit.1 hit.2.1 hit.2.2.1 hit.2.2.2 hw.2⟩
  mS := .inl H.mS
  mL := .inl H.mL
  mLd := .inl H.mLd
  mP := .inl H.mP
  ap := H.ap
  gp := fun _ _ => H.gp _ _
  pp := fun _ _ _ => by rw [H.pp]
  pg := fun g => by rw [H.pg]; rfl

section
variable {C : Cx} {la : LA} {s₁ : Shared} {K : Addr → Prop} {it bm f : Addr} {t : Tok} {T' : Heap → Prop} {self : Addr} {g g₁ : C.G} {fo : Obj} {fd : FuncData} {dd : Nat} {x : List Nat}

theorem nextW_off (hC : C.Ok) (hst : Wd.Ok ⟨fun a => C.M a ∨ a = it, C.G × Bool, fun g h => C.W g.1 h ∧ h.get? it = some (itObj bm t g.2)⟩) : NextW (C.turn s₁ K (fun a => a = it) (C.G × Bool) (fun g h => C.W g.1 h ∧ h.get? it = some (itObj bm t g.2)) T') (g, true) it none (g, true) := fun X s Q hX hM hT hW hQ =>
  next_off hC.handled hW.2 fun h' k => hQ none _ rfl ⟨⟨rfl, rfl, rfl⟩, fun a o _ e => k a o e, hst.stab (g, true) _ _ hW fun a o _ e => k a o e⟩

theorem nextW_on (hC : C.Ok) (hst : Wd.Ok ⟨fun a => C.M a ∨ a = it, C.G × Bool, fun g h => C.W g.1 h ∧ h.get? it = some (itObj bm t g.2)⟩) (hit : ¬ C.M it)
    (hT : ∀ h, T' h → C.T h ∧ h.get? bm = some (PySem.W.methodObj (.ref f) (.ref self)) ∧ h.get? f = some fo) (hnM : ¬ C.M bm ∧ ¬ C.M f ∧ bm ≠ it ∧ f ≠ it) (hd : fo.data = .func fd)
    (hf : FnW C.prog C.w C.T C.wd dd (.ref f) g [.obj self] (.str x) g₁) (hdd : dd < C.d) :
    NextW (C.turn s₁ K (fun a => a = it) (C.G × Bool) (fun g h => C.W g.1 h ∧ h.get? it = some (itObj bm t g.2)) T') (g, false) it (if x = [] then none else some (.str x)) (g₁, x.isEmpty) := fun X s Q hX hM hTs hW hQ => by
  obtain ⟨hT0, hT1, hT2⟩ := hT _ hTs
  have hR : Room dd C.A.in1 := by
    have h1 := hC.handled; have h2 := hC.depth; have h3 := hC.units
    exact ⟨h1, by show C.A.depth + dd < _; lia, by show C.A.units + 1 + 20 * dd + 200 < _; lia⟩
  refine next_on hC.handled hW.2 hT1 hT2 hd (codeAny_mono (hf C.A.in1 X s [.ref self] hR hT0 hX (fun a m => hM a (.inl m)) hW.1 (.cons (.obj _) .nil)) fun r s' q => ?_)
  obtain ⟨z, rfl, q1, q2, q3, q4⟩ := ret_of q fun _ e => e
  obtain ⟨u, rfl⟩ := q1.inv
  refine ⟨_, u, rfl, q3 _ _ hit hW.2, q3 _ _ hnM.1 hT1, q3 _ _ hnM.2.1 hT2, fun hx => ?_, fun hx h' k e' => ?_⟩
  · have hx' : x ≠ [] := fun e => hx (by subst e; rfl)
    rw [if_neg hx'] at hQ
    refine hQ _ s' ⟨_, rfl, .str _ _⟩ ⟨q2, fun a o hm e => q3 a o (fun m => hm (.inl m)) e, ?_⟩
    (with_reducible_and_instances (refine rwG ((List.isEmpty_eq_false_iff.mpr hx') ..) ?_))
    exact ⟨q4, q3 _ _ hit hW.2⟩
  · have hx' : x = [] := by
      have := congrArg (fun s : Str => s.cps.toList) hx
      simpa using this
    subst hx'
    refine hQ none _ rfl ⟨q2, fun a o hm e => k a o (fun z => hm (.inr z)) (q3 a o (fun m => hm (.inl m)) e), ?_, e'⟩
    refine hC.stab _ _ _ q4 fun a o hm e => k a o ?_ e
    rintro rfl
    rcases hm with hm | hr
    · exact hit hm
    · have e2 := q3 _ _ hit hW.2
      cases e2.symm.trans e
      exact absurd hr.1 (by simp [itObj])
end
end Mine.Internal
end

section
namespace Mine.Internal
open PySem PySem.Calls PyProof.Rows PySem.W

noncomputable abbrev theProg : Program := PySem.Challenge.pw_pk0026_01
noncomputable abbrev iCls : Nat := 1
noncomputable abbrev iCrc : Nat := 3
noncomputable def bodyOf (p : Program) (i : Nat) : List Stmt := match p.main.body[i]? with
  | some (.FunctionDef _ _ b _ _ _ _ _ _ _) => b
  | _ => []
noncomputable def methOf (p : Program) (i j : Nat) : List Stmt := match p.main.body[i]? with
  | some (.ClassDef _ _ _ ms _ _ _ _ _ _ _) => (match ms[j]? with
    | some (.FunctionDef _ _ b _ _ _ _ _ _ _) => b
    | _ => [])
  | _ => []
noncomputable abbrev en (x : String) (v : LV) : Str × LV := (Str.ofString x, v)

section
variable {C : Cx} {la : LA} {g g₁ : C.G}

theorem readChar_body (hC : C.Ok) (H : HasLex C la) {dd : Nat} {x : List Nat} (hf : ∃ o fd, o.data = .func fd ∧ ∀ h, C.T h → h.get? la.aRd = some o)
    (hr : FnW C.prog C.w C.T C.wd dd (.ref la.aRd) g [.int 1] (.str x) g₁) (hd : dd ≤ C.d) :
    St C [en "self" (.val (.obj la.aL)), en "ch" .undef] g (methOf theProg iCls 1) (fun fl _ g' => fl = .ret (.str x) ∧ g' = if x = [10] then H.put g₁ { H.get g₁ with line := (H.get g₁).line + 1 } else g₁) := by
  refine St.cons (St1.assign (hs := by rfl) hC (Ev.meth (he := by rfl) (hn := by rfl) (first := []) (qs := []) hC (Ev.attr (he := by with_unfolding_all rfl) hC (by (repeat' with_reducible first|exact Ev.int|exact Ev.str rfl|exact Ev.bool|exact Ev.none|apply Ev.name (by assumption)|exact List.mem_cons_self|apply List.mem_cons_of_mem|apply Ev.bin (by assumption)|exact op_add|exact op_sub|exact op_mul|exact op_and|exact op_xor|exact op_shr (by decide)|exact op_eqs|exact op_eq|exact op_ge|exact op_ishr (by decide))) H.instream) H.mRead (fun _ _ => .nil) hf (EvL.cons (hs := by intro _; rfl) hC Ev.int EvL.nil) hr hd) (by (repeat first|((with_reducible refine Put.here ?_);first|rfl|assumption)|apply Put.there)) ?_)
  refine St.cons (St1.ifs hC (EvB.cmp (hm := by with_unfolding_all rfl) hC (by (repeat' with_reducible first|exact Ev.int|exact Ev.str rfl|exact Ev.bool|exact Ev.none|apply Ev.name (by assumption)|exact List.mem_cons_self|apply List.mem_cons_of_mem|apply Ev.bin (by assumption)|exact op_add|exact op_sub|exact op_mul|exact op_and|exact op_xor|exact op_shr (by decide)|exact op_eqs|exact op_eq|exact op_ge|exact op_ishr (by decide))) (by (repeat' with_reducible first|exact Ev.int|exact Ev.str rfl|exact Ev.bool|exact Ev.none|apply Ev.name (by assumption)|exact List.mem_cons_self|apply List.mem_cons_of_mem|apply Ev.bin (by assumption)|exact op_add|exact op_sub|exact op_mul|exact op_and|exact op_xor|exact op_shr (by decide)|exact op_eqs|exact op_eq|exact op_ge|exact op_ishr (by decide))) (by (with_reducible first|exact op_add|exact op_sub|exact op_mul|exact op_and|exact op_xor|exact op_shr (by decide)|exact op_eqs|exact op_eq|exact op_ge|exact op_ishr (by decide)))) (fun h => ?_) fun h => ?_)
  · refine St.one (St1.augAttrW hC (by (repeat' with_reducible first|exact Ev.int|exact Ev.str rfl|exact Ev.bool|exact Ev.none|apply Ev.name (by assumption)|exact List.mem_cons_self|apply List.mem_cons_of_mem|apply Ev.bin (by assumption)|exact op_add|exact op_sub|exact op_mul|exact op_and|exact op_xor|exact op_shr (by decide)|exact op_eqs|exact op_eq|exact op_ge|exact op_ishr (by decide))) H.lineno Ev.int op_iadd (H.setLine (n := (H.get g₁).line + 1)) ?_)
    refine St.one (St1.ret hC (by (repeat' with_reducible first|exact Ev.int|exact Ev.str rfl|exact Ev.bool|exact Ev.none|apply Ev.name (by assumption)|exact List.mem_cons_self|apply List.mem_cons_of_mem|apply Ev.bin (by assumption)|exact op_add|exact op_sub|exact op_mul|exact op_and|exact op_xor|exact op_shr (by decide)|exact op_eqs|exact op_eq|exact op_ge|exact op_ishr (by decide))) ⟨rfl, ?_⟩)
    have h' : (x == [10]) = true := h
    ((with_reducible_and_instances (refine rwG ((if_pos (by simpa using h')) ..) ?_)); (with_reducible rfl))
  · refine St.nil ?_
    refine St.one (St1.ret hC (by (repeat' with_reducible first|exact Ev.int|exact Ev.str rfl|exact Ev.bool|exact Ev.none|apply Ev.name (by assumption)|exact List.mem_cons_self|apply List.mem_cons_of_mem|apply Ev.bin (by assumption)|exact op_add|exact op_sub|exact op_mul|exact op_and|exact op_xor|exact op_shr (by decide)|exact op_eqs|exact op_eq|exact op_ge|exact op_ishr (by decide))) ⟨rfl, ?_⟩)
    have h' : (x == [10]) = false := h
    ((with_reducible_and_instances (refine rwG ((if_neg (by simpa using h')) ..) ?_)); (with_reducible rfl))

theorem push_body (hC : C.Ok) (H : HasLex C la) {x : List Nat} (hn : (H.get g).push.length < 1000) (hi : interactive C.env = false) :
    St C [en "self" (.val (.obj la.aL)), en "token" (.val (.str x))] g (methOf theProg iCls 3) (fun fl _ g' => fl = .next ∧ g' = H.put g { H.get g with push := (H.get g).push ++ [x] }) := by
  refine St.one (St1.expr (hs := by rfl) hC (Ev.appendW (he := by rfl) (htrees := by rfl) hC (Ev.attr (he := by with_unfolding_all rfl) hC (by (repeat' with_reducible first|exact Ev.int|exact Ev.str rfl|exact Ev.bool|exact Ev.none|apply Ev.name (by assumption)|exact List.mem_cons_self|apply List.mem_cons_of_mem|apply Ev.bin (by assumption)|exact op_add|exact op_sub|exact op_mul|exact op_and|exact op_xor|exact op_shr (by decide)|exact op_eqs|exact op_eq|exact op_ge|exact op_ishr (by decide))) H.pushback) (by (repeat' with_reducible first|exact Ev.int|exact Ev.str rfl|exact Ev.bool|exact Ev.none|apply Ev.name (by assumption)|exact List.mem_cons_self|apply List.mem_cons_of_mem|apply Ev.bin (by assumption)|exact op_add|exact op_sub|exact op_mul|exact op_and|exact op_xor|exact op_shr (by decide)|exact op_eqs|exact op_eq|exact op_ge|exact op_ishr (by decide))) H.mP H.pushList (H.append hn)) ⟨rfl, rfl⟩ hi)
end
end Mine.Internal
end

section
namespace Mine.Internal
open PySem PySem.Calls PyProof.Rows PySem.W

noncomputable def sgn (text : List Nat) (l : LG) : List Nat := (text[l.pos]?).toList
noncomputable def nxt (text : List Nat) (crc : Nat → Nat → Nat) (l : LG) : LG := match text[l.pos]? with
  | some c => { l with pos := l.pos + 1, reg := crc l.reg c, line := if c = 10 then l.line + 1 else l.line }
  | none => l
noncomputable def adv (text : List Nat) (crc : Nat → Nat → Nat) : Nat → LG → LG
  | 0, l => l
  | n + 1, l => adv text crc n (nxt text crc l)

noncomputable def bareTok : List Nat → List Nat × Nat
  | [] => ([], 0)
  | c :: r => if c ∈ ws then ([], 1) else if c = 92 then (match r with
      | [] => ([], 1)
      | c' :: r' => (c' :: (bareTok r').1, (bareTok r').2 + 2))
    else (c :: (bareTok r).1, (bareTok r).2 + 1)
noncomputable def quoteTok : List Nat → List Nat × Nat
  | [] => ([], 0)
  | c :: r => if c = 34 then ([], 1) else if c = 92 then (match r with
      | [] => ([], 1)
      | c' :: r' => (c' :: (quoteTok r').1, (quoteTok r').2 + 2))
    else (c :: (quoteTok r).1, (quoteTok r).2 + 1)
noncomputable def lexTok : List Nat → List Nat × Nat
  | [] => ([], 0)
  | c :: r => if c ∈ ws then ((lexTok r).1, (lexTok r).2 + 1) else if c = 34 then ((quoteTok r).1, (quoteTok r).2 + 1) else if c = 92 then (match r with
      | [] => ([], 1)
      | c' :: r' => (c' :: (bareTok r').1, (bareTok r').2 + 2))
    else (c :: (bareTok r).1, (bareTok r).2 + 1)

section
variable {C : Cx} {la : LA} {ρ : Env'} {g g₁ : C.G}

theorem iter_new (hC : C.Ok) (H : HasLex C la) (hg : GlobIs C "iter" (.builtin "iter")) (hs : (Str.ofString "self", LV.val (.obj la.aL)) ∈ ρ) {p1 p2 p3 p4 p5 : Pos} {k : Nat} {O : List (Str × Addr)} {s : Shared} (I : Inv C ρ O g s)
    (he : eval (.Attribute (.Name "self" p2) "_read_char" p3) C.env = (do
      let o ← eval (.Name "self" p2) C.env
      standAt p3.atName
      let r ← holding [o] (getAttr o "_read_char" true)
      letTemporaryGo (.Name "self" p2) o r
      pure r)) :
    wpAny C.mod C.A (eval (.Call (.Name "iter" p1) [.Attribute (.Name "self" p2) "_read_char" p3, .Constant (.str "") k p4] [] p5) C.env) (fun u s₁ => ∃ it bm t, u = .ref it ∧ s.heap.get? it = none ∧ s.heap.get? bm = none ∧ bm ≠ it ∧
      s₁.heap.get? it = some (itOn bm t) ∧ s₁.heap.get? bm = some (methodObj (.ref la.fR) (.ref la.aL)) ∧ (s₁.gens = s.gens ∧ s₁.drawn = s.drawn ∧ s₁.os = s.os) ∧ C.W g s₁.heap ∧ ∀ a o, ¬ C.M a → s.heap.get? a = some o → s₁.heap.get? a = some o) NoE s := by
  refine wpAny_Call_NameR (eval_glob hC hg I (callWith_builtin rfl (evalArgs_any rfl ?_)))
  refine spliced_cons (Attribute_any_ (wpAny_mono (Ev.name hC hs O s I) (fun o s₁ ⟨r, st⟩ => ?_) fun _ _ x => x) he)
  obtain rfl := Rep.of_obj r
  case _ =>
    have I1 := I.step hC st
    obtain ⟨nm, q, bs, sn, sub, ab, col, dd, k0, k1, k2, k3, k5, newId, mN, oR, oG, oP, hCl, hn, z1, z2, z3, z4, z5, z6, z7, y1, y2, y3, y4, y5, y6, y7, y8, y9, _⟩ := H.cls _ (I1.top hC)
    obtain ⟨mA, _, _, Ia, _, _, _, _, x1, _⟩ := (H.hw _ _ I1.world).inst
    have f0 : ∀ a, s₁.heap.get? a = none → s.heap.get? a = none := fun a e => st.fresh hC e
    have hk := st.keep
    have hr := st.rest
    have hw1 := I1.world
    obtain ⟨h1, g1, d1, t1, os1⟩ := s₁
    refine load_bound hCl hn z1 z2 y1 y4 y5 lko_read_char Ia.inst x1 (by decide) ?_
    refine spliced_cons (wpAny_Constant_str (k := k) (pos := p4) (spliced_nil ?_))
    refine call_iter2 (fv := .ref la.fR) (self := .ref la.aL) (Heap.get?_push_size _ rfl) ?_
    have k2 : ∀ a o, h1.get? a = some o → ((h1.push (methodObj (.ref la.fR) (.ref la.aL))).push (itOn h1.objs.size (t1 + 1))).get? a = some o := fun a o e => Heap.get?_push_of_some _ (Heap.get?_push_of_some _ e)
    refine ⟨_, h1.objs.size, t1 + 1, rfl, ?_, f0 _ (get_size_none _), ?_, Heap.get?_push_size _ rfl, Heap.get?_push_of_some _ (Heap.get?_push_size _ rfl), hr, hC.stab _ _ _ hw1 fun a o _ e => k2 a o e, fun a o hm e => k2 a o (hk a o hm e)⟩
    · refine f0 _ ?_
      show h1.get? (h1.push _).objs.size = none
      exact none_of_le (by rw [Heap.size_push]; lia)
    · rw [Heap.size_push]; exact Nat.ne_of_lt (Nat.lt_succ_self _)

theorem adv_succ {text : List Nat} {crc : Nat → Nat → Nat} {n : Nat} {l : LG} : adv text crc (n + 1) l = adv text crc n (nxt text crc l) := rfl

theorem drop_cons {text : List Nat} {l : LG} {c : Nat} {r : List Nat} {crc : Nat → Nat → Nat} (h : text.drop l.pos = c :: r) : text[l.pos]? = some c ∧ text.drop (nxt text crc l).pos = r ∧ (nxt text crc l).push = l.push := by
  have h1 : text[l.pos]? = some c := by
    have := congrArg (fun z => z[0]?) h
    simpa using this
  have h2 : nxt text crc l = { l with pos := l.pos + 1, reg := crc l.reg c, line := if c = 10 then l.line + 1 else l.line } := by
    unfold nxt; ((with_reducible_and_instances (refine rwG (h1 ..) ?_)); (with_reducible rfl))
  refine ⟨h1, ?_, by ((with_reducible_and_instances (refine rwG (h2 ..) ?_)); (with_reducible rfl))⟩
  (with_reducible_and_instances (refine rwG (h2 ..) ?_))
  show text.drop (l.pos + 1) = r
  ((with_reducible_and_instances (refine rwL (List.drop_drop ..) ?_; refine rwG (h ..) ?_))); rfl
theorem drop_nil {text : List Nat} {l : LG} {crc : Nat → Nat → Nat} (h : text.drop l.pos = []) : text[l.pos]? = none ∧ nxt text crc l = l := by
  have h1 : text[l.pos]? = none := by
    have := congrArg (fun z => z[0]?) h
    simpa using this
  exact ⟨h1, by unfold nxt; ((with_reducible_and_instances (refine rwG (h1 ..) ?_)); (with_reducible rfl))⟩
end
end Mine.Internal
end

section
namespace Mine.Internal
open PySem PySem.Calls PyProof.Rows PySem.W

noncomputable def inner1 : Stmt := match methOf theProg iCls 2 with
  | [_, _, _, .For _ _ [_, .If _ [f1] [_, _, f2] _] _ _, _] => f1
  | _ => .Pass ⟨0, 0, 0, 0⟩
noncomputable def inner2 : Stmt := match methOf theProg iCls 2 with
  | [_, _, _, .For _ _ [_, .If _ [f1] [_, _, f2] _] _ _, _] => f2
  | _ => .Pass ⟨0, 0, 0, 0⟩
noncomputable def incr1 : List Stmt := match inner1 with
  | .For _ _ [_, a] _ _ => [a]
  | _ => []
noncomputable def incr2 : List Stmt := match inner2 with
  | .For _ _ [_, a] _ _ => [a]
  | _ => []
noncomputable def outer : Stmt := match methOf theProg iCls 2 with
  | [_, _, _, f, _] => f
  | _ => .Pass ⟨0, 0, 0, 0⟩

structure TokCx (C : Cx) (la : LA) (text : List Nat) (crc : Nat → Nat → Nat) (it : Addr) (st : LG → Bool → C.G) where
  ok : C.Ok
  dd : Nat
  hd : dd ≤ C.d
  white : ∀ l b, GAttr C (st l b) la.aL "whitespace" (.str ws)
  meth : ∀ l b, GMeth C (st l b) la.aL "_read_char" (.ref la.fR) [.ref la.aL]
  fn : ∃ o fd, o.data = .func fd ∧ ∀ h, C.T h → h.get? la.fR = some o
  read : ∀ l b, FnW C.prog C.w C.T C.wd dd (.ref la.fR) (st l b) [.obj la.aL] (.str (sgn text l)) (st (nxt text crc l) b)
  off : ∀ l, NextW C (st l true) it none (st l true)
  on : ∀ l, NextW C (st l false) it (if sgn text l = [] then none else some (.str (sgn text l))) (st (nxt text crc l) (sgn text l).isEmpty)
  iter : ∀ l b (s : Shared) (Q : Value → Shared → Prop), C.W (st l b) s.heap → Q (.ref it) s → wpAny C.mod C.A (pyIter (.ref it)) Q NoE s
  pos : C.G → Nat
  hpos : ∀ l b, pos (st l b) = l.pos

section
variable {C : Cx} {la : LA} {text : List Nat} {crc : Nat → Nat → Nat} {it : Addr} {st : LG → Bool → C.G} {P : Fl → Env' → C.G → Prop}

noncomputable abbrev tokEnv (la : LA) (tk : List Nat) (it : Addr) (v : LV) : Env' := [en "self" (.val (.obj la.aL)), en "token" (.val (.str tk)), en "fiter" (.val (.obj it)), en "ch" v]

theorem quoteTok_end {r : List Nat} : quoteTok (34 :: r) = ([], 1) := by cases r <;> simp [quoteTok]
theorem quoteTok_other {c : Nat} {r : List Nat} (h1 : c ≠ 34) (h2 : c ≠ 92) : quoteTok (c :: r) = (c :: (quoteTok r).1, (quoteTok r).2 + 1) := by cases r <;> simp [quoteTok, h1, h2]
theorem bareTok_end {c : Nat} {r : List Nat} (h : c ∈ ws) : bareTok (c :: r) = ([], 1) := by cases r <;> simp [bareTok, h]
theorem bareTok_other {c : Nat} {r : List Nat} (h1 : c ∉ ws) (h2 : c ≠ 92) : bareTok (c :: r) = (c :: (bareTok r).1, (bareTok r).2 + 1) := by cases r <;> simp [bareTok, h1, h2]
theorem nxt_some {l : LG} {c : Nat} (h : text[l.pos]? = some c) : (nxt text crc l).pos = l.pos + 1 ∧ sgn text l = [c] ∧ l.pos < text.length := by
  refine ⟨by unfold nxt; ((with_reducible_and_instances (refine rwG (h ..) ?_)); (with_reducible rfl)), by unfold sgn; (with_reducible_and_instances (refine rwG (h ..) ?_)); rfl, ?_⟩
  exact (List.getElem?_eq_some_iff.mp h).1

theorem quote_loop (T : TokCx C la text crc it st) {tk t : List Nat} {l lN : LG} (ht : tk ++ (quoteTok (text.drop l.pos)).1 = t) (hl : adv text crc (quoteTok (text.drop l.pos)).2 l = lN) (hlen : t.length ≤ 16000000)
    (hret : ∀ ρ', P (.ret (.str t)) ρ' (st lN false)) (hnext : P .next (tokEnv la t it .undef) (st lN true)) : St1 C (tokEnv la tk it .undef) (st l false) inner1 P := by
  have hC := T.ok
  refine St1.forW (hs := by intro _; rfl) hC (a := it) (by (repeat first|with_reducible exact List.mem_cons_self|apply List.mem_cons_of_mem)) (T.iter _ _) (fun ρ g => ∃ tk l, ρ = tokEnv la tk it .undef ∧ g = st l false ∧ tk ++ (quoteTok (text.drop l.pos)).1 = t ∧ adv text crc (quoteTok (text.drop l.pos)).2 l = lN) (fun g => text.length - T.pos g) ⟨tk, l, rfl, rfl, ht, hl⟩ ?_
  rintro ρ₁ g₁ ⟨tk, l, rfl, rfl, ht, hl⟩
  cases hr : text.drop l.pos with
  | nil =>
    obtain ⟨e1, e2⟩ := drop_nil (crc := crc) hr
    have hsg : sgn text l = [] := by unfold sgn; (with_reducible_and_instances (refine rwG (e1 ..) ?_)); rfl
    have hn := T.on l
    rw [hsg, e2] at hn
    rw [hr] at ht hl
    refine .inl ⟨_, hn, ?_⟩
    simp [quoteTok] at ht
    have hl' : l = lN := hl
    subst ht hl'
    exact hnext
  | cons c r =>
    obtain ⟨e1, e2, e3⟩ := drop_cons (crc := crc) hr
    obtain ⟨e4, hsg, e5⟩ := nxt_some (crc := crc) e1
    have hn : NextW C (st l false) it (some (.str [c])) (st (nxt text crc l) false) := by have hn := T.on l; rw [hsg] at hn; exact hn
    rw [hr] at ht hl
    refine .inr ⟨_, _, _, hn, by (repeat first|((with_reducible refine Put.here ?_);first|rfl|assumption)|apply Put.there), ?_⟩
    have hb : ∀ (x : List Nat) (l' : LG), (tk ++ x) ++ (quoteTok (text.drop l'.pos)).1 = t → adv text crc (quoteTok (text.drop l'.pos)).2 l' = lN → l.pos < l'.pos → x.length ≤ 1 →
        St C (tokEnv la tk it (.val (.str x))) (st l' false) incr1 (TurnW C (fun ρ g => ∃ tk l, ρ = tokEnv la tk it .undef ∧ g = st l false ∧ tk ++ (quoteTok (text.drop l.pos)).1 = t ∧ adv text crc (quoteTok (text.drop l.pos)).2 l = lN) (fun g => text.length - T.pos g) (text.length - T.pos (st l false)) P) := fun x l' h1 h2 h3 h4 => by
      refine St.one (St1.aug hC (by (repeat first|with_reducible exact List.mem_cons_self|apply List.mem_cons_of_mem)) (by (repeat' with_reducible first|exact Ev.int|exact Ev.str rfl|exact Ev.bool|exact Ev.none|apply Ev.name (by assumption)|exact List.mem_cons_self|apply List.mem_cons_of_mem|apply Ev.bin (by assumption)|exact op_add|exact op_sub|exact op_mul|exact op_and|exact op_xor|exact op_shr (by decide)|exact op_eqs|exact op_eq|exact op_ge|exact op_ishr (by decide))) (op_icat ?_) (by (repeat first|((with_reducible refine Put.here ?_);first|rfl|assumption)|apply Put.there)) ⟨_, ?_, ⟨tk ++ x, l', rfl, rfl, h1, h2⟩, ?_⟩)
      · have := congrArg List.length h1
        simp only [List.length_append] at this
        lia
      · (repeat first|exact Weak.nil|((with_reducible apply Weak.keep))|((with_reducible refine Weak.drop ?_ ?_);first|rfl|assumption)|((with_reducible refine Weak.val ?_ ?_);rotate_left)|((with_reducible refine Weak.own ?_ ?_);rotate_left))
      · show text.length - T.pos (st l' false) < text.length - T.pos (st l false)
        rw [T.hpos, T.hpos]
        lia
    refine St.cons (St1.ifs hC (EvB.cmp (hm := by with_unfolding_all rfl) hC (by (repeat' with_reducible first|exact Ev.int|exact Ev.str rfl|exact Ev.bool|exact Ev.none|apply Ev.name (by assumption)|exact List.mem_cons_self|apply List.mem_cons_of_mem|apply Ev.bin (by assumption)|exact op_add|exact op_sub|exact op_mul|exact op_and|exact op_xor|exact op_shr (by decide)|exact op_eqs|exact op_eq|exact op_ge|exact op_ishr (by decide))) (by (repeat' with_reducible first|exact Ev.int|exact Ev.str rfl|exact Ev.bool|exact Ev.none|apply Ev.name (by assumption)|exact List.mem_cons_self|apply List.mem_cons_of_mem|apply Ev.bin (by assumption)|exact op_add|exact op_sub|exact op_mul|exact op_and|exact op_xor|exact op_shr (by decide)|exact op_eqs|exact op_eq|exact op_ge|exact op_ishr (by decide))) (by (with_reducible first|exact op_add|exact op_sub|exact op_mul|exact op_and|exact op_xor|exact op_shr (by decide)|exact op_eqs|exact op_eq|exact op_ge|exact op_ishr (by decide)))) (fun h => ?_) fun h => ?_)
    · have h' : ([c] == [34]) = true := h
      have hc : c = 34 := by simpa using h'
      subst hc
      rw [quoteTok_end] at ht hl
      simp only [List.append_nil] at ht
      have hl' : nxt text crc l = lN := hl
      subst ht hl'
      exact St.one (St1.ret hC (by (repeat' with_reducible first|exact Ev.int|exact Ev.str rfl|exact Ev.bool|exact Ev.none|apply Ev.name (by assumption)|exact List.mem_cons_self|apply List.mem_cons_of_mem|apply Ev.bin (by assumption)|exact op_add|exact op_sub|exact op_mul|exact op_and|exact op_xor|exact op_shr (by decide)|exact op_eqs|exact op_eq|exact op_ge|exact op_ishr (by decide))) (hret _))
    · have h' : ([c] == [34]) = false := h
      have hc : c ≠ 34 := by simpa using h'
      refine St.one (St1.ifs hC (EvB.cmp (hm := by with_unfolding_all rfl) hC (by (repeat' with_reducible first|exact Ev.int|exact Ev.str rfl|exact Ev.bool|exact Ev.none|apply Ev.name (by assumption)|exact List.mem_cons_self|apply List.mem_cons_of_mem|apply Ev.bin (by assumption)|exact op_add|exact op_sub|exact op_mul|exact op_and|exact op_xor|exact op_shr (by decide)|exact op_eqs|exact op_eq|exact op_ge|exact op_ishr (by decide))) (by (repeat' with_reducible first|exact Ev.int|exact Ev.str rfl|exact Ev.bool|exact Ev.none|apply Ev.name (by assumption)|exact List.mem_cons_self|apply List.mem_cons_of_mem|apply Ev.bin (by assumption)|exact op_add|exact op_sub|exact op_mul|exact op_and|exact op_xor|exact op_shr (by decide)|exact op_eqs|exact op_eq|exact op_ge|exact op_ishr (by decide))) (by (with_reducible first|exact op_add|exact op_sub|exact op_mul|exact op_and|exact op_xor|exact op_shr (by decide)|exact op_eqs|exact op_eq|exact op_ge|exact op_ishr (by decide)))) (fun h2 => ?_) fun h2 => ?_)
      · have h2' : ([c] == [92]) = true := h2
        have hc2 : c = 92 := by simpa using h2'
        subst hc2
        refine St.one (St1.assign (hs := by rfl) hC (Ev.meth (he := by rfl) (hn := by rfl) (first := [.ref la.aL]) (qs := [.obj la.aL]) hC (by (repeat' with_reducible first|exact Ev.int|exact Ev.str rfl|exact Ev.bool|exact Ev.none|apply Ev.name (by assumption)|exact List.mem_cons_self|apply List.mem_cons_of_mem|apply Ev.bin (by assumption)|exact op_add|exact op_sub|exact op_mul|exact op_and|exact op_xor|exact op_shr (by decide)|exact op_eqs|exact op_eq|exact op_ge|exact op_ishr (by decide))) (T.meth _ _) (fun _ _ => .cons (.obj _) .nil) T.fn EvL.nil (T.read _ _) T.hd) (by (repeat first|((with_reducible refine Put.here ?_);first|rfl|assumption)|apply Put.there)) ?_)
        cases r with
        | nil =>
          obtain ⟨f1, f2⟩ := drop_nil (crc := crc) e2
          have hsg2 : sgn text (nxt text crc l) = [] := by unfold sgn; (with_reducible_and_instances (refine rwG (f1 ..) ?_)); rfl
          ((with_reducible_and_instances (refine rwG (hsg2 ..) ?_; refine rwG (f2 ..) ?_)))
          have hl' : nxt text crc l = lN := hl
          refine hb [] _ ?_ ?_ (by lia) (by simp)
          · (with_reducible_and_instances (refine rwG (e2 ..) ?_)); simpa [quoteTok] using ht
          · (with_reducible_and_instances (refine rwG (e2 ..) ?_)); exact hl'
        | cons c' r' =>
          obtain ⟨f1, f2, f3⟩ := drop_cons (crc := crc) e2
          obtain ⟨f4, hsg2, f5⟩ := nxt_some (crc := crc) f1
          (with_reducible_and_instances (refine rwG (hsg2 ..) ?_))
          refine hb [c'] _ ?_ ?_ (by lia) (by simp)
          · (with_reducible_and_instances (refine rwG (f2 ..) ?_)); simpa [quoteTok] using ht
          · (with_reducible_and_instances (refine rwG (f2 ..) ?_)); simpa [quoteTok, adv] using hl
      · have h2' : ([c] == [92]) = false := h2
        have hc2 : c ≠ 92 := by simpa using h2'
        refine St.nil ?_
        refine hb [c] _ ?_ ?_ (by lia) (by simp)
        · (with_reducible_and_instances (refine rwG (e2 ..) ?_)); rw [quoteTok_other hc hc2] at ht; simpa using ht
        · (with_reducible_and_instances (refine rwG (e2 ..) ?_)); rw [quoteTok_other hc hc2] at hl; exact hl

theorem bare_loop (T : TokCx C la text crc it st) {tk t : List Nat} {l lN : LG} (ht : tk ++ (bareTok (text.drop l.pos)).1 = t) (hl : adv text crc (bareTok (text.drop l.pos)).2 l = lN) (hlen : t.length ≤ 16000000)
    (hret : ∀ ρ', P (.ret (.str t)) ρ' (st lN false)) (hnext : P .next (tokEnv la t it .undef) (st lN true)) : St1 C (tokEnv la tk it .undef) (st l false) inner2 P := by
  have hC := T.ok
  refine St1.forW (hs := by intro _; rfl) hC (a := it) (by (repeat first|with_reducible exact List.mem_cons_self|apply List.mem_cons_of_mem)) (T.iter _ _) (fun ρ g => ∃ tk l, ρ = tokEnv la tk it .undef ∧ g = st l false ∧ tk ++ (bareTok (text.drop l.pos)).1 = t ∧ adv text crc (bareTok (text.drop l.pos)).2 l = lN) (fun g => text.length - T.pos g) ⟨tk, l, rfl, rfl, ht, hl⟩ ?_
  rintro ρ₁ g₁ ⟨tk, l, rfl, rfl, ht, hl⟩
  cases hr : text.drop l.pos with
  | nil =>
    obtain ⟨e1, e2⟩ := drop_nil (crc := crc) hr
    have hsg : sgn text l = [] := by unfold sgn; (with_reducible_and_instances (refine rwG (e1 ..) ?_)); rfl
    have hn := T.on l
    rw [hsg, e2] at hn
    rw [hr] at ht hl
    refine .inl ⟨_, hn, ?_⟩
    simp [bareTok] at ht
    have hl' : l = lN := hl
    subst ht hl'
    exact hnext
  | cons c r =>
    obtain ⟨e1, e2, e3⟩ := drop_cons (crc := crc) hr
    obtain ⟨e4, hsg, e5⟩ := nxt_some (crc := crc) e1
    have hn : NextW C (st l false) it (some (.str [c])) (st (nxt text crc l) false) := by have hn := T.on l; rw [hsg] at hn; exact hn
    rw [hr] at ht hl
    refine .inr ⟨_, _, _, hn, by (repeat first|((with_reducible refine Put.here ?_);first|rfl|assumption)|apply Put.there), ?_⟩
    have hb : ∀ (x : List Nat) (l' : LG), (tk ++ x) ++ (bareTok (text.drop l'.pos)).1 = t → adv text crc (bareTok (text.drop l'.pos)).2 l' = lN → l.pos < l'.pos → x.length ≤ 1 →
        St C (tokEnv la tk it (.val (.str x))) (st l' false) incr2 (TurnW C (fun ρ g => ∃ tk l, ρ = tokEnv la tk it .undef ∧ g = st l false ∧ tk ++ (bareTok (text.drop l.pos)).1 = t ∧ adv text crc (bareTok (text.drop l.pos)).2 l = lN) (fun g => text.length - T.pos g) (text.length - T.pos (st l false)) P) := fun x l' h1 h2 h3 h4 => by
      refine St.one (St1.aug hC (by (repeat first|with_reducible exact List.mem_cons_self|apply List.mem_cons_of_mem)) (by (repeat' with_reducible first|exact Ev.int|exact Ev.str rfl|exact Ev.bool|exact Ev.none|apply Ev.name (by assumption)|exact List.mem_cons_self|apply List.mem_cons_of_mem|apply Ev.bin (by assumption)|exact op_add|exact op_sub|exact op_mul|exact op_and|exact op_xor|exact op_shr (by decide)|exact op_eqs|exact op_eq|exact op_ge|exact op_ishr (by decide))) (op_icat ?_) (by (repeat first|((with_reducible refine Put.here ?_);first|rfl|assumption)|apply Put.there)) ⟨_, ?_, ⟨tk ++ x, l', rfl, rfl, h1, h2⟩, ?_⟩)
      · have := congrArg List.length h1
        simp only [List.length_append] at this
        lia
      · (repeat first|exact Weak.nil|((with_reducible apply Weak.keep))|((with_reducible refine Weak.drop ?_ ?_);first|rfl|assumption)|((with_reducible refine Weak.val ?_ ?_);rotate_left)|((with_reducible refine Weak.own ?_ ?_);rotate_left))
      · show text.length - T.pos (st l' false) < text.length - T.pos (st l false)
        rw [T.hpos, T.hpos]
        lia
    refine St.cons (St1.ifs hC (EvB.cmp (hm := by with_unfolding_all rfl) hC (by (repeat' with_reducible first|exact Ev.int|exact Ev.str rfl|exact Ev.bool|exact Ev.none|apply Ev.name (by assumption)|exact List.mem_cons_self|apply List.mem_cons_of_mem|apply Ev.bin (by assumption)|exact op_add|exact op_sub|exact op_mul|exact op_and|exact op_xor|exact op_shr (by decide)|exact op_eqs|exact op_eq|exact op_ge|exact op_ishr (by decide))) (Ev.attr (he := by with_unfolding_all rfl) hC (by (repeat' with_reducible first|exact Ev.int|exact Ev.str rfl|exact Ev.bool|exact Ev.none|apply Ev.name (by assumption)|exact List.mem_cons_self|apply List.mem_cons_of_mem|apply Ev.bin (by assumption)|exact op_add|exact op_sub|exact op_mul|exact op_and|exact op_xor|exact op_shr (by decide)|exact op_eqs|exact op_eq|exact op_ge|exact op_ishr (by decide))) (T.white _ _)) op_in) (fun h => ?_) fun h => ?_)
    · have hc : c ∈ ws := of_decide_eq_true h
      rw [bareTok_end hc] at ht hl
      simp only [List.append_nil] at ht
      have hl' : nxt text crc l = lN := hl
      subst ht hl'
      exact St.one (St1.ret hC (by (repeat' with_reducible first|exact Ev.int|exact Ev.str rfl|exact Ev.bool|exact Ev.none|apply Ev.name (by assumption)|exact List.mem_cons_self|apply List.mem_cons_of_mem|apply Ev.bin (by assumption)|exact op_add|exact op_sub|exact op_mul|exact op_and|exact op_xor|exact op_shr (by decide)|exact op_eqs|exact op_eq|exact op_ge|exact op_ishr (by decide))) (hret _))
    · have hc : c ∉ ws := of_decide_eq_false h
      refine St.one (St1.ifs hC (EvB.cmp (hm := by with_unfolding_all rfl) hC (by (repeat' with_reducible first|exact Ev.int|exact Ev.str rfl|exact Ev.bool|exact Ev.none|apply Ev.name (by assumption)|exact List.mem_cons_self|apply List.mem_cons_of_mem|apply Ev.bin (by assumption)|exact op_add|exact op_sub|exact op_mul|exact op_and|exact op_xor|exact op_shr (by decide)|exact op_eqs|exact op_eq|exact op_ge|exact op_ishr (by decide))) (by (repeat' with_reducible first|exact Ev.int|exact Ev.str rfl|exact Ev.bool|exact Ev.none|apply Ev.name (by assumption)|exact List.mem_cons_self|apply List.mem_cons_of_mem|apply Ev.bin (by assumption)|exact op_add|exact op_sub|exact op_mul|exact op_and|exact op_xor|exact op_shr (by decide)|exact op_eqs|exact op_eq|exact op_ge|exact op_ishr (by decide))) (by (with_reducible first|exact op_add|exact op_sub|exact op_mul|exact op_and|exact op_xor|exact op_shr (by decide)|exact op_eqs|exact op_eq|exact op_ge|exact op_ishr (by decide)))) (fun h2 => ?_) fun h2 => ?_)
      · have h2' : ([c] == [92]) = true := h2
        have hc2 : c = 92 := by simpa using h2'
        subst hc2
        refine St.one (St1.assign (hs := by rfl) hC (Ev.meth (he := by rfl) (hn := by rfl) (first := [.ref la.aL]) (qs := [.obj la.aL]) hC (by (repeat' with_reducible first|exact Ev.int|exact Ev.str rfl|exact Ev.bool|exact Ev.none|apply Ev.name (by assumption)|exact List.mem_cons_self|apply List.mem_cons_of_mem|apply Ev.bin (by assumption)|exact op_add|exact op_sub|exact op_mul|exact op_and|exact op_xor|exact op_shr (by decide)|exact op_eqs|exact op_eq|exact op_ge|exact op_ishr (by decide))) (T.meth _ _) (fun _ _ => .cons (.obj _) .nil) T.fn EvL.nil (T.read _ _) T.hd) (by (repeat first|((with_reducible refine Put.here ?_);first|rfl|assumption)|apply Put.there)) ?_)
        cases r with
        | nil =>
          obtain ⟨f1, f2⟩ := drop_nil (crc := crc) e2
          have hsg2 : sgn text (nxt text crc l) = [] := by unfold sgn; (with_reducible_and_instances (refine rwG (f1 ..) ?_)); rfl
          ((with_reducible_and_instances (refine rwG (hsg2 ..) ?_; refine rwG (f2 ..) ?_)))
          have hl' : nxt text crc l = lN := hl
          refine hb [] _ ?_ ?_ (by lia) (by simp)
          · (with_reducible_and_instances (refine rwG (e2 ..) ?_)); simpa [bareTok, ws] using ht
          · (with_reducible_and_instances (refine rwG (e2 ..) ?_)); exact hl'
        | cons c' r' =>
          obtain ⟨f1, f2, f3⟩ := drop_cons (crc := crc) e2
          obtain ⟨f4, hsg2, f5⟩ := nxt_some (crc := crc) f1
          (with_reducible_and_instances (refine rwG (hsg2 ..) ?_))
          refine hb [c'] _ ?_ ?_ (by lia) (by simp)
          · (with_reducible_and_instances (refine rwG (f2 ..) ?_)); simpa [bareTok, ws] using ht
          · (with_reducible_and_instances (refine rwG (f2 ..) ?_)); simpa [bareTok, ws, adv] using hl
      · have h2' : ([c] == [92]) = false := h2
        have hc2 : c ≠ 92 := by simpa using h2'
        refine St.nil ?_
        refine hb [c] _ ?_ ?_ (by lia) (by simp)
        · (with_reducible_and_instances (refine rwG (e2 ..) ?_)); rw [bareTok_other hc hc2] at ht; simpa using ht
        · (with_reducible_and_instances (refine rwG (e2 ..) ?_)); rw [bareTok_other hc hc2] at hl; exact hl
end
end Mine.Internal
end

section
namespace Mine.Internal
open PySem PySem.Calls PyProof.Rows PySem.W

noncomputable def incrO : List Stmt := match outer with
  | .For _ _ [_, .If _ _ [_, a, b] _] _ _ => [a, b]
  | _ => []

section
variable {C : Cx} {la : LA} {text : List Nat} {crc : Nat → Nat → Nat} {it : Addr} {st : LG → Bool → C.G} {P : Fl → Env' → C.G → Prop}

theorem Weak.refl : ∀ {ρ : Env'}, Weak ρ ρ
  | [] => .nil
  | _ :: _ => .keep Weak.refl
theorem nxt_le {l : LG} : l.pos ≤ (nxt text crc l).pos := by
  unfold nxt; split
  · exact Nat.le_succ _
  · exact Nat.le_refl _
theorem adv_le : ∀ {n : Nat} {l : LG}, l.pos ≤ (adv text crc n l).pos
  | 0, l => Nat.le_refl _
  | n + 1, l => Nat.le_trans (nxt_le (text := text) (crc := crc)) (adv_le (n := n))

theorem lexTok_ws {c : Nat} {r : List Nat} (h : c ∈ ws) : lexTok (c :: r) = ((lexTok r).1, (lexTok r).2 + 1) := by cases r <;> simp [lexTok, h]
theorem lexTok_quote {r : List Nat} : lexTok (34 :: r) = ((quoteTok r).1, (quoteTok r).2 + 1) := by cases r <;> simp [lexTok, ws]
theorem lexTok_esc {c : Nat} {r : List Nat} : lexTok (92 :: c :: r) = (c :: (bareTok r).1, (bareTok r).2 + 2) := by simp [lexTok, ws]
theorem lexTok_lone : lexTok [92] = ([], 1) := by simp [lexTok, ws]
theorem lexTok_other {c : Nat} {r : List Nat} (h : c ∉ ws) (h1 : c ≠ 34) (h2 : c ≠ 92) : lexTok (c :: r) = (c :: (bareTok r).1, (bareTok r).2 + 1) := by cases r <;> simp [lexTok, h, h1, h2]

theorem outer_loop (T : TokCx C la text crc it st) {t : List Nat} {l lN : LG} (ht : (lexTok (text.drop l.pos)).1 = t) (hl : adv text crc (lexTok (text.drop l.pos)).2 l = lN) (hlen : t.length ≤ 16000000)
    (hret : ∀ ρ' b, P (.ret (.str t)) ρ' (st lN b)) (hnext : ∀ b, P .next (tokEnv la t it .undef) (st lN b)) : St1 C (tokEnv la [] it .undef) (st l false) outer P := by
  have hC := T.ok
  refine St1.forW (hs := by intro _; rfl) hC (a := it) (by (repeat first|with_reducible exact List.mem_cons_self|apply List.mem_cons_of_mem)) (T.iter _ _) (fun ρ g => (∃ l, ρ = tokEnv la [] it .undef ∧ g = st l false ∧ (lexTok (text.drop l.pos)).1 = t ∧ adv text crc (lexTok (text.drop l.pos)).2 l = lN) ∨ (ρ = tokEnv la t it .undef ∧ g = st lN true)) (fun g => text.length - T.pos g) (.inl ⟨l, rfl, rfl, ht, hl⟩) ?_
  rintro ρ₁ g₁ (⟨l, rfl, rfl, ht, hl⟩ | ⟨rfl, rfl⟩)
  rotate_left
  · exact .inl ⟨_, T.off lN, hnext true⟩
  cases hr : text.drop l.pos with
  | nil =>
    obtain ⟨e1, e2⟩ := drop_nil (crc := crc) hr
    have hsg : sgn text l = [] := by unfold sgn; (with_reducible_and_instances (refine rwG (e1 ..) ?_)); rfl
    have hn := T.on l
    rw [hsg, e2] at hn
    rw [hr] at ht hl
    refine .inl ⟨_, hn, ?_⟩
    have ht' : [] = t := ht
    have hl' : l = lN := hl
    subst ht' hl'
    exact hnext true
  | cons c r =>
    obtain ⟨e1, e2, e3⟩ := drop_cons (crc := crc) hr
    obtain ⟨e4, hsg, e5⟩ := nxt_some (crc := crc) e1
    have hn : NextW C (st l false) it (some (.str [c])) (st (nxt text crc l) false) := by have hn := T.on l; rw [hsg] at hn; exact hn
    rw [hr] at ht hl
    refine .inr ⟨_, _, _, hn, by (repeat first|((with_reducible refine Put.here ?_);first|rfl|assumption)|apply Put.there), ?_⟩
    have less : ∀ {l' : LG} {b : Bool}, l.pos < l'.pos → text.length - T.pos (st l' b) < text.length - T.pos (st l false) := fun h => by rw [T.hpos, T.hpos]; lia
    have hb : ∀ (x : List Nat) (l' : LG), x ++ (bareTok (text.drop l'.pos)).1 = t → adv text crc (bareTok (text.drop l'.pos)).2 l' = lN → l.pos < l'.pos → x.length ≤ 1 →
        St C (tokEnv la [] it (.val (.str x))) (st l' false) incrO (TurnW C (fun ρ g => (∃ l, ρ = tokEnv la [] it .undef ∧ g = st l false ∧ (lexTok (text.drop l.pos)).1 = t ∧ adv text crc (lexTok (text.drop l.pos)).2 l = lN) ∨ (ρ = tokEnv la t it .undef ∧ g = st lN true)) (fun g => text.length - T.pos g) (text.length - T.pos (st l false)) P) := fun x l' h1 h2 h3 h4 => by
      refine St.cons (St1.aug hC (by (repeat first|with_reducible exact List.mem_cons_self|apply List.mem_cons_of_mem)) (by (repeat' with_reducible first|exact Ev.int|exact Ev.str rfl|exact Ev.bool|exact Ev.none|apply Ev.name (by assumption)|exact List.mem_cons_self|apply List.mem_cons_of_mem|apply Ev.bin (by assumption)|exact op_add|exact op_sub|exact op_mul|exact op_and|exact op_xor|exact op_shr (by decide)|exact op_eqs|exact op_eq|exact op_ge|exact op_ishr (by decide))) (op_icat ?_) (by (repeat first|((with_reducible refine Put.here ?_);first|rfl|assumption)|apply Put.there)) ?_)
      · simp; lia
      refine St.weak (ρ' := tokEnv la ([] ++ x) it .undef) (by (repeat first|exact Weak.nil|((with_reducible apply Weak.keep))|((with_reducible refine Weak.drop ?_ ?_);first|rfl|assumption)|((with_reducible refine Weak.val ?_ ?_);rotate_left)|((with_reducible refine Weak.own ?_ ?_);rotate_left))) (St.one (bare_loop T h1 h2 hlen (fun ρ' => hret ρ' false) ⟨_, Weak.refl, .inr ⟨rfl, rfl⟩, less ?_⟩))
      (with_reducible_and_instances (refine rwL (h2 ..) ?_))
      exact Nat.lt_of_lt_of_le h3 (adv_le (text := text) (crc := crc))
    refine St.cons (St1.ifs hC (EvB.cmp (hm := by with_unfolding_all rfl) hC (by (repeat' with_reducible first|exact Ev.int|exact Ev.str rfl|exact Ev.bool|exact Ev.none|apply Ev.name (by assumption)|exact List.mem_cons_self|apply List.mem_cons_of_mem|apply Ev.bin (by assumption)|exact op_add|exact op_sub|exact op_mul|exact op_and|exact op_xor|exact op_shr (by decide)|exact op_eqs|exact op_eq|exact op_ge|exact op_ishr (by decide))) (Ev.attr (he := by with_unfolding_all rfl) hC (by (repeat' with_reducible first|exact Ev.int|exact Ev.str rfl|exact Ev.bool|exact Ev.none|apply Ev.name (by assumption)|exact List.mem_cons_self|apply List.mem_cons_of_mem|apply Ev.bin (by assumption)|exact op_add|exact op_sub|exact op_mul|exact op_and|exact op_xor|exact op_shr (by decide)|exact op_eqs|exact op_eq|exact op_ge|exact op_ishr (by decide))) (T.white _ _)) op_in) (fun h => ?_) fun h => ?_)
    · have hc : c ∈ ws := of_decide_eq_true h
      rw [lexTok_ws hc] at ht hl
      refine St.one (St1.cont ⟨_, ?_, .inl ⟨nxt text crc l, rfl, rfl, ?_, ?_⟩, less (by lia)⟩)
      · (repeat first|exact Weak.nil|((with_reducible apply Weak.keep))|((with_reducible refine Weak.drop ?_ ?_);first|rfl|assumption)|((with_reducible refine Weak.val ?_ ?_);rotate_left)|((with_reducible refine Weak.own ?_ ?_);rotate_left))
      · (with_reducible_and_instances (refine rwG (e2 ..) ?_)); exact ht
      · (with_reducible_and_instances (refine rwG (e2 ..) ?_)); exact hl
    · have hc : c ∉ ws := of_decide_eq_false h
      refine St.nil (St.one (St1.ifs hC (EvB.cmp (hm := by with_unfolding_all rfl) hC (by (repeat' with_reducible first|exact Ev.int|exact Ev.str rfl|exact Ev.bool|exact Ev.none|apply Ev.name (by assumption)|exact List.mem_cons_self|apply List.mem_cons_of_mem|apply Ev.bin (by assumption)|exact op_add|exact op_sub|exact op_mul|exact op_and|exact op_xor|exact op_shr (by decide)|exact op_eqs|exact op_eq|exact op_ge|exact op_ishr (by decide))) (by (repeat' with_reducible first|exact Ev.int|exact Ev.str rfl|exact Ev.bool|exact Ev.none|apply Ev.name (by assumption)|exact List.mem_cons_self|apply List.mem_cons_of_mem|apply Ev.bin (by assumption)|exact op_add|exact op_sub|exact op_mul|exact op_and|exact op_xor|exact op_shr (by decide)|exact op_eqs|exact op_eq|exact op_ge|exact op_ishr (by decide))) (by (with_reducible first|exact op_add|exact op_sub|exact op_mul|exact op_and|exact op_xor|exact op_shr (by decide)|exact op_eqs|exact op_eq|exact op_ge|exact op_ishr (by decide)))) (fun h => ?_) fun h => ?_))
      · have h' : ([c] == [34]) = true := h
        have hc : c = 34 := by simpa using h'
        subst hc
        rw [lexTok_quote] at ht hl
        refine St.weak (ρ' := tokEnv la [] it .undef) (by (repeat first|exact Weak.nil|((with_reducible apply Weak.keep))|((with_reducible refine Weak.drop ?_ ?_);first|rfl|assumption)|((with_reducible refine Weak.val ?_ ?_);rotate_left)|((with_reducible refine Weak.own ?_ ?_);rotate_left))) (St.one (quote_loop T (tk := []) (t := t) (lN := lN) ?_ ?_ hlen (fun ρ' => hret ρ' false) ⟨_, Weak.refl, .inr ⟨rfl, rfl⟩, less ?_⟩))
        · (with_reducible_and_instances (refine rwG (e2 ..) ?_)); exact ht
        · (with_reducible_and_instances (refine rwG (e2 ..) ?_)); exact hl
        · (with_reducible_and_instances (refine rwL (hl ..) ?_))
          exact Nat.lt_of_lt_of_le (by lia) (adv_le (text := text) (crc := crc) (n := (quoteTok r).2) (l := nxt text crc l))
      · have h' : ([c] == [34]) = false := h
        have hc1 : c ≠ 34 := by simpa using h'
        refine St.cons (St1.ifs hC (EvB.cmp (hm := by with_unfolding_all rfl) hC (by (repeat' with_reducible first|exact Ev.int|exact Ev.str rfl|exact Ev.bool|exact Ev.none|apply Ev.name (by assumption)|exact List.mem_cons_self|apply List.mem_cons_of_mem|apply Ev.bin (by assumption)|exact op_add|exact op_sub|exact op_mul|exact op_and|exact op_xor|exact op_shr (by decide)|exact op_eqs|exact op_eq|exact op_ge|exact op_ishr (by decide))) (by (repeat' with_reducible first|exact Ev.int|exact Ev.str rfl|exact Ev.bool|exact Ev.none|apply Ev.name (by assumption)|exact List.mem_cons_self|apply List.mem_cons_of_mem|apply Ev.bin (by assumption)|exact op_add|exact op_sub|exact op_mul|exact op_and|exact op_xor|exact op_shr (by decide)|exact op_eqs|exact op_eq|exact op_ge|exact op_ishr (by decide))) (by (with_reducible first|exact op_add|exact op_sub|exact op_mul|exact op_and|exact op_xor|exact op_shr (by decide)|exact op_eqs|exact op_eq|exact op_ge|exact op_ishr (by decide)))) (fun h2 => ?_) fun h2 => ?_)
        · have h2' : ([c] == [92]) = true := h2
          have hc2 : c = 92 := by simpa using h2'
          subst hc2
          refine St.one (St1.assign (hs := by rfl) hC (Ev.meth (he := by rfl) (hn := by rfl) (first := [.ref la.aL]) (qs := [.obj la.aL]) hC (by (repeat' with_reducible first|exact Ev.int|exact Ev.str rfl|exact Ev.bool|exact Ev.none|apply Ev.name (by assumption)|exact List.mem_cons_self|apply List.mem_cons_of_mem|apply Ev.bin (by assumption)|exact op_add|exact op_sub|exact op_mul|exact op_and|exact op_xor|exact op_shr (by decide)|exact op_eqs|exact op_eq|exact op_ge|exact op_ishr (by decide))) (T.meth _ _) (fun _ _ => .cons (.obj _) .nil) T.fn EvL.nil (T.read _ _) T.hd) (by (repeat first|((with_reducible refine Put.here ?_);first|rfl|assumption)|apply Put.there)) ?_)
          cases r with
          | nil =>
            obtain ⟨f1, f2⟩ := drop_nil (crc := crc) e2
            have hsg2 : sgn text (nxt text crc l) = [] := by unfold sgn; (with_reducible_and_instances (refine rwG (f1 ..) ?_)); rfl
            ((with_reducible_and_instances (refine rwG (hsg2 ..) ?_; refine rwG (f2 ..) ?_)))
            rw [lexTok_lone] at ht hl
            refine hb [] _ ?_ ?_ (by lia) (by simp)
            · (with_reducible_and_instances (refine rwG (e2 ..) ?_)); exact ht
            · (with_reducible_and_instances (refine rwG (e2 ..) ?_)); exact hl
          | cons c' r' =>
            obtain ⟨f1, f2, f3⟩ := drop_cons (crc := crc) e2
            obtain ⟨f4, hsg2, f5⟩ := nxt_some (crc := crc) f1
            (with_reducible_and_instances (refine rwG (hsg2 ..) ?_))
            rw [lexTok_esc] at ht hl
            refine hb [c'] _ ?_ ?_ (by lia) (by simp)
            · (with_reducible_and_instances (refine rwG (f2 ..) ?_)); exact ht
            · (with_reducible_and_instances (refine rwG (f2 ..) ?_)); exact hl
        · have h2' : ([c] == [92]) = false := h2
          have hc2 : c ≠ 92 := by simpa using h2'
          rw [lexTok_other hc hc1 hc2] at ht hl
          refine St.nil ?_
          refine hb [c] _ ?_ ?_ (by lia) (by simp)
          · (with_reducible_and_instances (refine rwG (e2 ..) ?_)); exact ht
          · (with_reducible_and_instances (refine rwG (e2 ..) ?_)); exact hl
end
end Mine.Internal
end

section
namespace Mine.Internal
open PySem PySem.Calls PyProof.Rows PySem.W

section
variable {C : Cx} {la : LA} {text : List Nat} {crc : Nat → Nat → Nat} {g : C.G} {dd : Nat}

theorem getTok_pushed (hC : C.Ok) (H : HasLex C la) {x : List Nat} {xs : List (List Nat)} (hp : (H.get g).push = x :: xs) (hn : xs.length < 900) :
    St C [en "self" (.val (.obj la.aL)), en "token" .undef, en "fiter" .undef, en "ch" .undef] g (methOf theProg iCls 2) (fun fl _ g' => fl = .ret (.str x) ∧ g' = H.put g { H.get g with push := xs }) := by
  have hb : (!(H.get g).push.isEmpty) = true := by (with_reducible_and_instances (refine rwG (hp ..) ?_)); rfl
  refine St.cons (St1.ifs hC (EvB.listW (he := by rfl) hC (Ev.attr (he := by with_unfolding_all rfl) hC (by (repeat' with_reducible first|exact Ev.int|exact Ev.str rfl|exact Ev.bool|exact Ev.none|apply Ev.name (by assumption)|exact List.mem_cons_self|apply List.mem_cons_of_mem|apply Ev.bin (by assumption)|exact op_add|exact op_sub|exact op_mul|exact op_and|exact op_xor|exact op_shr (by decide)|exact op_eqs|exact op_eq|exact op_ge|exact op_ishr (by decide))) H.pushback) (H.pushTrue (by (with_reducible_and_instances (refine rwG (hp ..) ?_)); simp; lia))) (fun h => ?_) fun h => ?_)
  · exact St.one (St1.ret hC (Ev.popW (he := by rfl) (htrees := by rfl) hC (Ev.attr (he := by with_unfolding_all rfl) hC (by (repeat' with_reducible first|exact Ev.int|exact Ev.str rfl|exact Ev.bool|exact Ev.none|apply Ev.name (by assumption)|exact List.mem_cons_self|apply List.mem_cons_of_mem|apply Ev.bin (by assumption)|exact op_add|exact op_sub|exact op_mul|exact op_and|exact op_xor|exact op_shr (by decide)|exact op_eqs|exact op_eq|exact op_ge|exact op_ishr (by decide))) H.pushback) Ev.int H.mP (H.pop hp (by lia))) ⟨rfl, rfl⟩)
  · cases hb.symm.trans h

theorem getTok_fresh (hC : C.Ok) (H : HasLex C la) (hg : GlobIs C "iter" (.builtin "iter")) (hp : (H.get g).push = []) {fo : Obj} {fd : FuncData} (hfd : fo.data = .func fd) (hfo : ∀ h, C.T h → h.get? la.fR = some fo) (hfM : ¬ C.M la.fR)
    (hrc : ∀ l, FnW C.prog C.w C.T C.wd dd (.ref la.fR) (H.put g l) [.obj la.aL] (.str (sgn text l)) (H.put g (nxt text crc l))) (hdd : dd < C.d) (hlen : (lexTok (text.drop (H.get g).pos)).1.length ≤ 16000000) :
    St C [en "self" (.val (.obj la.aL)), en "token" .undef, en "fiter" .undef, en "ch" .undef] g (methOf theProg iCls 2)
      (fun fl _ g' => fl = .ret (.str (lexTok (text.drop (H.get g).pos)).1) ∧ g' = H.put g (adv text crc (lexTok (text.drop (H.get g).pos)).2 (H.get g))) := by
  have hb : (!(H.get g).push.isEmpty) = false := by (with_reducible_and_instances (refine rwG (hp ..) ?_)); rfl
  refine St.cons (St1.ifs hC (EvB.listW (he := by rfl) hC (Ev.attr (he := by with_unfolding_all rfl) hC (by (repeat' with_reducible first|exact Ev.int|exact Ev.str rfl|exact Ev.bool|exact Ev.none|apply Ev.name (by assumption)|exact List.mem_cons_self|apply List.mem_cons_of_mem|apply Ev.bin (by assumption)|exact op_add|exact op_sub|exact op_mul|exact op_and|exact op_xor|exact op_shr (by decide)|exact op_eqs|exact op_eq|exact op_ge|exact op_ishr (by decide))) H.pushback) (H.pushTrue (by (with_reducible_and_instances (refine rwG (hp ..) ?_)); simp))) (fun h => ?_) fun h => ?_)
  · cases hb.symm.trans h
  refine St.nil (St.cons (St1.assign (hs := by rfl) hC (by (repeat' with_reducible first|exact Ev.int|exact Ev.str rfl|exact Ev.bool|exact Ev.none|apply Ev.name (by assumption)|exact List.mem_cons_self|apply List.mem_cons_of_mem|apply Ev.bin (by assumption)|exact op_add|exact op_sub|exact op_mul|exact op_and|exact op_xor|exact op_shr (by decide)|exact op_eqs|exact op_eq|exact op_ge|exact op_ishr (by decide))) (by (repeat first|((with_reducible refine Put.here ?_);first|rfl|assumption)|apply Put.there)) ?_))
  refine St.new (hs := by rfl) hC fun O s I => wpAny_mono (iter_new (he := by with_unfolding_all rfl) hC H hg (by (repeat first|with_reducible exact List.mem_cons_self|apply List.mem_cons_of_mem)) I) (fun u s₁ ⟨it, bm, t, e, h1, h2, h3, h4, h5, h6, h7, h8⟩ => ?_) fun _ _ x => x
  have hitM : ¬ C.M it := (I.new hC h1).2.2.1
  have hbmM : ¬ C.M bm := (I.new hC h2).2.2.1
  have hst : Wd.Ok ⟨fun a => C.M a ∨ a = it, C.G × Bool, fun g h => C.W g.1 h ∧ h.get? it = some (itObj bm t g.2)⟩ := Wd.more_ok (V := C.wd) ⟨hC.wm, hC.stab⟩
  have hnew : NewW C s s₁ (fun a => a = it ∨ a = bm) (fun a => a = it) (C.G × Bool) (fun g h => C.W g.1 h ∧ h.get? it = some (itObj bm t g.2)) (fun h => C.T h ∧ h.get? bm = some (methodObj (.ref la.fR) (.ref la.aL)) ∧ h.get? la.fR = some fo) (g, false) := by
    refine ⟨h6, h8, fun a q => .inl q, ?_, ?_, fun h k => ?_, ⟨h7, h4⟩, hst⟩
    · rintro a (rfl | rfl)
      · exact h1
      · exact h2
    · rintro a (rfl | rfl)
      · exact ⟨_, h4⟩
      · exact ⟨_, h5⟩
    · have hT : C.T h := hC.top h fun a o q1 q2 q3 => by
        have q4 := I.old a o q1 q2 q3
        exact k a o (fun z => q1 z.1) (fun z => z.elim q2 fun z => by subst z; cases h1.symm.trans q4) (h8 a o q2 q4)
      refine ⟨hT, k bm _ (fun z => z.2 (.inr rfl)) (fun z => z.elim hbmM fun z => h3 z) h5, hfo h hT⟩
  refine ⟨it, _, _, _, _, _, _, Prod.fst, _, e, hnew, fun g h w => w.1, by (repeat first|((with_reducible refine Put.here ?_);first|rfl|assumption)|apply Put.there), fun hC2 => ?_⟩
  have nit : ∀ a, C.M a → it ≠ a := fun a m z => hitM (z ▸ m)
  have H2 := H.more (s₁ := s₁) (K := fun a => a = it ∨ a = bm) (o := itObj bm t) (T' := fun h => C.T h ∧ h.get? bm = some (methodObj (.ref la.fR) (.ref la.aL)) ∧ h.get? la.fR = some fo) (fun h z => z.1) ⟨nit _ H.mS, nit _ H.mL, nit _ H.mLd, nit _ H.mP⟩
  have hfit : la.fR ≠ it := fun z => by
    have q := hfo _ (I.top hC)
    rw [z, h1] at q; cases q
  have T : TokCx (C.turn s₁ (fun a => a = it ∨ a = bm) (fun a => a = it) (C.G × Bool) (fun g h => C.W g.1 h ∧ h.get? it = some (itObj bm t g.2)) (fun h => C.T h ∧ h.get? bm = some (methodObj (.ref la.fR) (.ref la.aL)) ∧ h.get? la.fR = some fo)) la text crc it (fun l b => (H.put g l, b)) := {
    ok := hC2
    dd := dd
    hd := Nat.le_of_lt hdd
    white := fun l b => H2.white
    meth := fun l b => H2.mReadChar
    fn := ⟨fo, fd, hfd, fun h z => z.2.2⟩
    read := fun l b => (hrc l).more (fun h z => z.1) hitM
    off := fun l => nextW_off hC hst
    on := fun l => nextW_on hC hst hitM (fun h z => z) ⟨hbmM, hfM, h3, hfit⟩ hfd (hrc l) hdd
    iter := fun l b s Q hw hq => pyIter_ci hw.2 hq
    pos := fun g' => (H.get g'.1).pos
    hpos := fun l b => by show (H.get (H.put g l)).pos = _; rw [H.gp] }
  have hg0 : ((g, false) : C.G × Bool) = (H.put g (H.get g), false) := by rw [H.pg]
  (with_reducible_and_instances (refine rwG (hg0 ..) ?_))
  refine St.cons (outer_loop T rfl rfl hlen (fun ρ' b => ⟨rfl, rfl⟩) fun b => ?_)
  refine St.one (St1.ret hC2 (Ev.name hC2 ?_) ⟨rfl, rfl⟩)
  exact List.mem_cons_of_mem _ List.mem_cons_self
end
end Mine.Internal
end

section
namespace Mine.Internal
open PySem PySem.Calls PyProof.Rows

noncomputable def stmtAt (p : Program) (i : Nat) : Stmt := (p.main.body[i]?).getD (.Pass ⟨0, 0, 0, 0⟩)
noncomputable def methAt (p : Program) (i j : Nat) : Stmt := match p.main.body[i]? with
  | some (.ClassDef _ _ _ ms _ _ _ _ _ _ _) => (ms[j]?).getD (.Pass ⟨0, 0, 0, 0⟩)
  | _ => .Pass ⟨0, 0, 0, 0⟩
noncomputable def stmtBody : Stmt → List Stmt
  | .FunctionDef _ _ b _ _ _ _ _ _ _ => b
  | _ => []
noncomputable def stmtScope : Stmt → Scope
  | .FunctionDef _ _ _ _ _ _ s _ _ _ => s
  | _ => { kind := .function, names := [], isGenerator := false, isCoroutine := false }

structure DefAt (T : Heap → Prop) (st : Stmt) (pn : List Str) (a : Addr) (o : Obj) (fd : FuncData) : Prop where
  data : o.data = .func fd
  at' : ∀ h, T h → h.get? a = some o ∧ h.CodeRec fd.code fd.qualname ∧ h.NoLimit
  body : fd.body = .stmts (stmtBody st)
  scope : fd.scope = stmtScope st
  clo : fd.closure = []
  glob : fd.globals = mainGlobals
  bi : fd.builtins = builtinsNs
  bind : ∀ vals : List Value, vals.length = pn.length → bindArgs fd ⟨vals, []⟩ = pure (pn.zip vals)

structure FrameD (C : Cx) (prog : Program) (w : World) (T : Heap → Prop) (d : Nat) (sc : Scope) : Prop where
  ok : C.Ok
  prog : C.prog = prog
  w : C.w = w
  T : C.T = T
  d : C.d = d
  scope : C.env.scope = sc
  globals : C.env.globals = mainGlobals
  builtins : C.env.builtins = builtinsNs
  z : ∀ x, ¬ C.Z x

theorem FrameD.glob {C : Cx} {prog : Program} {w : World} {T : Heap → Prop} {d : Nat} {sc : Scope} (F : FrameD C prog w T d sc) {x : Str} {v : Value} (h : TG T x v) (hk : sc.names.lookup x = some .globalImplicit) : GlobIs C x v :=
  GlobIs.of h F.T F.globals F.builtins (by show C.env.scope.names.lookup x = _; (with_reducible_and_instances (refine rwG (F.scope ..) ?_)); exact hk)

theorem Fn.weaken {prog : Program} {w : World} {T T' : Heap → Prop} {d : Nat} {f : Value} {ps : List PV} {r : PV} (h : Fn prog w T d f ps r) (hT : ∀ h, T' h → T h) : Fn prog w T' d f ps r :=
  fun A X s us hR hTs hX hr => h A X s us hR (hT _ hTs) hX hr
theorem Fn.def {prog : Program} {w : World} {T : Heap → Prop} {d : Nat} {st : Stmt} {a : Addr} {o : Obj} {fd : FuncData} {pn : List Str} (rest : List Str) {ps : List PV} {r : PV}
    (hT : ∀ h h' : Heap, T h → (∀ b o, h.get? b = some o → h'.get? b = some o) → T h') (D : DefAt T st pn a o fd) (hlen : ps.length = pn.length)
    (hnd : (pn ++ rest).Nodup) (hkinds : ((pn ++ rest).all fun x => (stmtScope st).names.lookup x == some .local || (stmtScope st).names.lookup x == some .cell) = true)
    (hdbg : ((pn ++ rest).all fun x => !(x == ("__debug__" : Str)) && !(x == ("__classdict__" : Str))) = true)
    (hco : (stmtScope st).isCoroutine = false) (hgen : (stmtScope st).isGenerator = false) (hk : (stmtScope st).kind = .function)
    (hbody : ∀ (C : Cx) (g : C.G), FrameD C prog w T d (stmtScope st) → St C (startEnv pn rest ps) g (stmtBody st) (fun fl _ _ => fl = .ret r ∨ (fl = .next ∧ r = .none))) :
    Fn prog w T (d + 1) (.ref a) ps r :=
  Fn.intro hT D.at' D.data D.body D.clo D.bind hlen hnd (by (with_reducible_and_instances (refine rwG (D.scope ..) ?_)); exact hkinds) hdbg (by (with_reducible_and_instances (refine rwG (D.scope ..) ?_)); exact hco) (by (with_reducible_and_instances (refine rwG (D.scope ..) ?_)); exact hgen) (by (with_reducible_and_instances (refine rwG (D.scope ..) ?_)); exact hk)
    fun C g F => hbody C g ⟨F.ok, F.prog, F.w, F.T, F.d, F.scope.trans D.scope, F.globals.trans D.glob, F.builtins.trans D.bi, F.z⟩

theorem FnW.def {prog : Program} {w : World} {T : Heap → Prop} {V : Wd} {d : Nat} {st : Stmt} {a : Addr} {o : Obj} {fd : FuncData} {pn : List Str} (rest : List Str) {ps : List PV} {r : PV} {g g' : V.G} (hV : V.Ok)
    (hT : ∀ h h' : Heap, T h → (∀ b o, ¬ V.M b → h.get? b = some o → h'.get? b = some o) → T h') (D : DefAt T st pn a o fd) (hlen : ps.length = pn.length)
    (hnd : (pn ++ rest).Nodup) (hkinds : ((pn ++ rest).all fun x => (stmtScope st).names.lookup x == some .local || (stmtScope st).names.lookup x == some .cell) = true)
    (hdbg : ((pn ++ rest).all fun x => !(x == ("__debug__" : Str)) && !(x == ("__classdict__" : Str))) = true)
    (hco : (stmtScope st).isCoroutine = false) (hgen : (stmtScope st).isGenerator = false) (hk : (stmtScope st).kind = .function)
    (hbody : ∀ cells A X s, FrameD (frameW prog w T V d fd (pn ++ rest) a cells A X s) prog w T d (stmtScope st) →
      St (frameW prog w T V d fd (pn ++ rest) a cells A X s) (startEnv pn rest ps) g (stmtBody st) (fun fl _ g₁ => (fl = .ret r ∨ (fl = .next ∧ r = .none)) ∧ g₁ = g')) :
    FnW prog w T V (d + 1) (.ref a) g ps r g' :=
  FnW.intro hV hT D.at' D.data D.body D.clo D.bind hlen hnd (by (with_reducible_and_instances (refine rwG (D.scope ..) ?_)); exact hkinds) hdbg (by (with_reducible_and_instances (refine rwG (D.scope ..) ?_)); exact hco) (by (with_reducible_and_instances (refine rwG (D.scope ..) ?_)); exact hgen) (by (with_reducible_and_instances (refine rwG (D.scope ..) ?_)); exact hk)
    fun cells A X s hC => hbody cells A X s ⟨hC, rfl, rfl, rfl, rfl, D.scope, D.glob, D.bi, fun _ => id⟩
end Mine.Internal
end

section
namespace Mine.Internal
open PySem PySem.Calls PyProof.Rows PySem.W

structure LexEnv (prog : Program) (w : World) (T : Heap → Prop) (V : Wd) (la : LA) (text : List Nat) (crc : Nat → Nat → Nat) (dd : Nat) : Prop where
  vok : V.Ok
  tm : ∀ h h' : Heap, T h → (∀ b o, ¬ (LexV V la).M b → h.get? b = some o → h'.get? b = some o) → T h'
  dR : ∃ o fd, DefAt T (methAt theProg iCls 1) ["self"] la.fR o fd
  dG : ∃ o fd, DefAt T (methAt theProg iCls 2) ["self"] la.fG o fd
  dP : ∃ o fd, DefAt T (methAt theProg iCls 3) ["self", "token"] la.fP o fd
  cls : ∀ h, T h → ClsOk la h
  dis : ∀ a, V.M a → a ≠ la.aS ∧ a ≠ la.aL ∧ a ≠ la.aLd ∧ a ≠ la.aP
  ap : [la.aL, la.aLd, la.aP, la.aS, la.aFn, la.aFd].Nodup
  fnM : ¬ (LexV V la).M la.fR
  rd : ∃ o fd, o.data = .func fd ∧ ∀ h, T h → h.get? la.aRd = some o
  read : ∀ g l, FnW prog w T (LexV V la) dd (.ref la.aRd) (g, l) [.int 1] (.str (sgn text l)) (g, { nxt text crc l with line := l.line })
  iter : TG T "iter" (.builtin "iter")

section
variable {prog : Program} {w : World} {T : Heap → Prop} {V : Wd} {la : LA} {text : List Nat} {crc : Nat → Nat → Nat} {dd : Nat}

theorem LexEnv.readChar (E : LexEnv prog w T V la text crc dd) (g : V.G) (l : LG) : FnW prog w T (LexV V la) (dd + 1) (.ref la.fR) (g, l) [.obj la.aL] (.str (sgn text l)) (g, nxt text crc l) := by
  obtain ⟨o, fd, D⟩ := E.dR
  refine FnW.def ["ch"] (LexV.ok E.vok) E.tm D rfl (by decide) (by decide +kernel) (by decide +kernel) rfl rfl rfl fun cells A X s F => ?_
  refine StP.mono (readChar_body F.ok (hasLexF E.vok E.dis E.cls E.ap) E.rd (E.read g l) (Nat.le_refl _)) fun fl ρ g' h => ⟨.inl h.1, h.2.trans ?_⟩
  show (if sgn text l = [10] then ((g, { nxt text crc l with line := l.line + 1 }) : V.G × LG) else (g, { nxt text crc l with line := l.line })) = (g, nxt text crc l)
  unfold sgn nxt
  cases e : text[l.pos]? with
  | none => simp
  | some c =>
    by_cases hc : c = 10
    · subst hc; simp
    · simp [hc]

theorem LexEnv.pushToken (E : LexEnv prog w T V la text crc dd) (g : V.G) (l : LG) (x : List Nat) (hn : l.push.length < 900) : FnW prog w T (LexV V la) 1 (.ref la.fP) (g, l) [.obj la.aL, .str x] .none (g, { l with push := l.push ++ [x] }) := by
  obtain ⟨o, fd, D⟩ := E.dP
  refine FnW.def [] (LexV.ok E.vok) E.tm D rfl (by decide) (by decide +kernel) (by decide +kernel) rfl rfl rfl fun cells A X s F => ?_
  exact StP.mono (push_body F.ok (hasLexF E.vok E.dis E.cls E.ap) (x := x) (by show l.push.length < 1000; lia) (by unfold interactive; (with_reducible_and_instances (refine rwG (F.scope ..) ?_)); rfl)) fun fl ρ g' h => ⟨.inr ⟨h.1, rfl⟩, h.2⟩

theorem LexEnv.pushed (E : LexEnv prog w T V la text crc dd) (g : V.G) (l : LG) {x : List Nat} {xs : List (List Nat)} (hp : l.push = x :: xs) (hn : xs.length < 900) : FnW prog w T (LexV V la) 1 (.ref la.fG) (g, l) [.obj la.aL] (.str x) (g, { l with push := xs }) := by
  obtain ⟨o, fd, D⟩ := E.dG
  refine FnW.def ["token", "fiter", "ch"] (LexV.ok E.vok) E.tm D rfl (by decide) (by decide +kernel) (by decide +kernel) rfl rfl rfl fun cells A X s F => ?_
  exact StP.mono (getTok_pushed F.ok (hasLexF E.vok E.dis E.cls E.ap) (by exact hp) hn) fun fl ρ g' h => ⟨.inl h.1, h.2⟩

theorem LexEnv.getToken (E : LexEnv prog w T V la text crc dd) (g : V.G) (l : LG) (hp : l.push = []) (hlen : (lexTok (text.drop l.pos)).1.length ≤ 16000000) :
    FnW prog w T (LexV V la) (dd + 3) (.ref la.fG) (g, l) [.obj la.aL] (.str (lexTok (text.drop l.pos)).1) (g, adv text crc (lexTok (text.drop l.pos)).2 l) := by
  obtain ⟨o, fd, D⟩ := E.dG
  obtain ⟨oR, fdR, DR⟩ := E.dR
  refine FnW.def ["token", "fiter", "ch"] (LexV.ok E.vok) E.tm D rfl (by decide) (by decide +kernel) (by decide +kernel) rfl rfl rfl fun cells A X s F => ?_
  exact StP.mono (getTok_fresh (text := text) (crc := crc) (dd := dd + 1) F.ok (hasLexF E.vok E.dis E.cls E.ap) (F.glob E.iter (by rfl)) (by exact hp) DR.data (fun h t => (DR.at' h t).1) E.fnM (fun l' => E.readChar g l') (by show dd + 1 < dd + 2; lia) hlen) fun fl ρ g' h => ⟨.inl h.1, h.2⟩
end
end Mine.Internal
end

section
namespace Mine.Internal
open PySem PySem.Calls PyProof.Rows PySem.W

noncomputable def CodeR (h : Heap) (c : Addr) (q : Str) : Prop := ∃ o vs t, h.get? c = some o ∧ o.cls = .type "code" ∧ o.data = .fields vs ∧ vs[1]? = some (.str q t)
theorem CodeR.rec {h : Heap} {c : Addr} {q : Str} (x : CodeR h c q) : h.CodeRec (.ref c) q := let ⟨o, vs, t, a, _, b, d⟩ := x; ⟨c, o, vs, t, rfl, a, b, d⟩
theorem CodeR.stab {h h' : Heap} {c : Addr} {q : Str} (x : CodeR h c q) (k : ∀ a o, Obj.isRec o → h.get? a = some o → h'.get? a = some o) : CodeR h' c q :=
  let ⟨o, vs, t, a, b, d, e⟩ := x; ⟨o, vs, t, k _ _ ⟨b, _, d⟩ a, b, d, e⟩

noncomputable def TabW (P : Addr) (known : List (Pos × Str)) (h : Heap) : Prop := ∃ ps, h.get? P = some (tabObj ps) ∧ TriplesOk ps.toList ∧ ∀ x ∈ known, ∀ v, codeAmong x.1 ps.toList = some v → ∃ c, v = .ref c ∧ CodeR h c x.2
noncomputable def tabV (P : Addr) (known : List (Pos × Str)) : Wd := ⟨fun a => a = P, Unit, fun _ h => TabW P known h⟩
theorem TabW.stab {P : Addr} {known : List (Pos × Str)} {h h' : Heap} (w : TabW P known h) (k : ∀ a o, (a = P ∨ Obj.isRec o) → h.get? a = some o → h'.get? a = some o) : TabW P known h' :=
  let ⟨ps, a, b, c⟩ := w
  ⟨ps, k _ _ (.inl rfl) a, b, fun x hx v hv => let ⟨cc, e, r⟩ := c x hx v hv; ⟨cc, e, r.stab fun a o q e => k a o (.inr q) e⟩⟩
theorem tabV.ok (P : Addr) (known : List (Pos × Str)) : (tabV P known).Ok where
  wm := fun g h a hw hm => by obtain ⟨ps, e, _⟩ := hw; exact ⟨_, by rw [show a = P from hm]; exact e⟩
  stab := fun g h h' hw hk => hw.stab hk

theorem codeAmong_snoc' {pos pos' : Pos} {c : Value} (l : List Value) (h : TriplesOk l) : ∀ v, codeAmong pos (l ++ [rawInt pos'.line, rawInt pos'.col, c]) = some v →
    codeAmong pos l = some v ∨ (pos'.line = pos.line ∧ pos'.col = pos.col ∧ v = c) := by
  fun_induction TriplesOk l with
  | case1 =>
    intro v e
    have e' : (if ((pos'.line : Int) == pos.line && (pos'.col : Int) == pos.col) = true then some c else none) = some v := e
    by_cases q : ((pos'.line : Int) == pos.line && (pos'.col : Int) == pos.col) = true
    · rw [if_pos q] at e'
      rw [Bool.and_eq_true, beq_iff_eq, beq_iff_eq] at q
      exact .inr ⟨Int.ofNat.inj q.1, Int.ofNat.inj q.2, (Option.some.inj e').symm⟩
    · rw [if_neg q] at e'; cases e'
  | case2 a t b u x rest ih =>
    intro v e
    show (if (a == (pos.line : Int) && b == (pos.col : Int)) = true then some x else codeAmong pos rest) = _ ∨ _
    have e' : (if (a == (pos.line : Int) && b == (pos.col : Int)) = true then some x else codeAmong pos (rest ++ _)) = some v := e
    by_cases q : (a == (pos.line : Int) && b == (pos.col : Int)) = true
    · rw [if_pos q] at e' ⊢; exact .inl e'
    · rw [if_neg q] at e' ⊢; exact ih h v e'
  | case3 l h1 h2 => exact h.elim
theorem among_same {p pos : Pos} (h1 : p.line = pos.line) (h2 : p.col = pos.col) (l : List Value) (h : TriplesOk l) : codeAmong p l = codeAmong pos l := by
  fun_induction TriplesOk l with
  | case1 => rfl
  | case2 a t b u x rest ih =>
    show (if (a == p.line && b == p.col) = true then _ else _) = if (a == pos.line && b == pos.col) = true then _ else _
    ((first|with_reducible_and_instances refine rwG ((h1) ..) ?_|rewrite [h1]); (first|with_reducible_and_instances refine rwG ((h2) ..) ?_|rewrite [h2]); (first|with_reducible_and_instances refine rwG ((ih h) ..) ?_|rewrite [ih h]); try with_reducible rfl)
  | case3 => exact h.elim

section
variable {M : Model} {A : Around} {E : Value → Shared → Prop} {s : Shared} {name qual : Str} {params : Arguments} {body : FuncBody} {scope : Scope} {env : Env} {c P : Addr} {known : List (Pos × Str)} {pos : Pos} {firstLine : Nat} {mg : Str → Option Value}
  {clos : List (Str × Addr)} {Q : Value → Shared → Prop}

noncomputable abbrev fnD (name qual : Str) (params : Arguments) (body : FuncBody) (scope : Scope) (clos : List (Str × Addr)) (pm : Value) (c' : Addr) (ctv : Value) : FuncData :=
  { name, qualname := qual, params, body, scope, globals := mainGlobals, closure := clos, defaults := .none, kwdefaults := .none, doc := .none, pyModule := pm, annotations := none, code := .ref c', closureTuple := ctv, builtins := builtinsNs }

theorem newFn (hcl : closureFor scope env = pure clos) (hge0 : env.globals = mainGlobals) (hg : s.heap.Ns mainGlobals mg) (hcode : env.code = .ref c) (C : CodeHd s.heap c P) (W : TabW P known s.heap) (hgP : mainGlobals ≠ P) (hb : s.heap.BuiltinsAt mg P)
    (hk : ∀ x ∈ known, x.1.line = pos.line → x.1.col = pos.col → x.2 = qual) (hin : ∃ p, (p, qual) ∈ known ∧ p.line = pos.line ∧ p.col = pos.col) (hdoc : (match body with | .stmts b => docOf b | .expr _ => none) = none)
    (h : ∀ f c' ctv pm h' tk, (∀ b o, b ≠ P → s.heap.get? b = some o → h'.get? b = some o) → s.heap.get? f = none → h'.get? f = some { cls := .type "function", data := .func (fnD name qual params body scope clos pm c' ctv) } → CodeR h' c' qual → TabW P known h' →
      Q (.ref f) { s with heap := h', toks := tk }) :
    wpAny M A (makeFunction name qual params body scope env [] [] [] pos firstLine) Q E s := by
  obtain ⟨ps, hP, ht, hkn⟩ := W
  obtain ⟨bm, ob, hbm, hne0, _, hneP, hbo, hcls, hdict, hdata⟩ := hb
  have fin : ∀ (ctv : Value) (h₁ h₂ : Heap) (tk : Tok) (c' : Addr), (∀ b o, b ≠ P → s.heap.get? b = some o → h₂.get? b = some o) → CodeR h₂ c' qual → TabW P known h₂ → (∀ b, h₂.get? b = none → s.heap.get? b = none) →
      wpAny M A (do
        let bi ← builtinsFor env.globals env.builtins
        let pm ← nsGet env.globals "__name__"
        let doc ← match body with | .stmts b => (match docOf b with | some s => mkText s | none => pure .none) | .expr _ => pure .none
        newObj (.type "function") (.func { name, qualname := qual, params, body, scope, globals := env.globals, closure := clos, closureTuple := ctv, code := .ref c', builtins := bi, defaults := .none, kwdefaults := .none, annotations := none, pyModule := pm.getD .none, doc })) Q E
        { s with heap := h₂, toks := tk } := by
    intro ctv h₁ h₂ tk c' hx hrec hW hfr
    (with_reducible_and_instances (refine rwG (hge0 ..) ?_))
    have hg' : h₂.Ns mainGlobals mg := let ⟨o, es, ep, e, r⟩ := hg; ⟨o, es, ep, hx _ _ hgP e, r⟩
    refine wpAny_bind (wpAny_builtinsFor hg' hbm hne0 (hx _ _ hneP hbo) hcls hdict hdata ?_)
    refine wpAny_bind (wpAny_nsGet hg' ?_)
    have fin2 : ∀ pm : Value, Q (.ref h₂.objs.size) ⟨h₂.push { cls := .type "function", data := .func (fnD name qual params body scope clos pm c' ctv) }, s.gens, s.drawn, tk, s.os⟩ := fun pm =>
      h _ c' ctv pm _ tk (fun b o hb e => Heap.get?_push_of_some _ (hx b o hb e)) (hfr _ (get_size_none _)) (Heap.get?_push_size _ rfl) (hrec.stab fun a o _ e => Heap.get?_push_of_some _ e) (hW.stab fun a o _ e => Heap.get?_push_of_some _ e)
    cases body with
    | stmts b =>
      have hdoc' : docOf b = none := hdoc
      simp only [hdoc']
      exact wpAny_bind (wpAny_pure (wpAny_newObj_type (fin2 _) (by size_fits)))
    | expr b => exact wpAny_bind (wpAny_pure (wpAny_newObj_type (fin2 _) (by size_fits)))
  have code : ∀ (ctv : Value) (h₁ : Heap), (∀ b o, s.heap.get? b = some o → h₁.get? b = some o) → wpAny M A (do
        let code ← functionCode env pos firstLine name qual params scope body
        let bi ← builtinsFor env.globals env.builtins
        let pm ← nsGet env.globals "__name__"
        let doc ← match body with | .stmts b => (match docOf b with | some s => mkText s | none => pure .none) | .expr _ => pure .none
        newObj (.type "function") (.func { name, qualname := qual, params, body, scope, globals := env.globals, closure := clos, closureTuple := ctv, code, builtins := bi, defaults := .none, kwdefaults := .none, annotations := none, pyModule := pm.getD .none, doc })) Q E
        { s with heap := h₁ } := by
    intro ctv h₁ k1
    have hfr1 : ∀ h₂ : Heap, (∀ b o, b ≠ P → h₁.get? b = some o → h₂.get? b = some o) → h₂.get? P ≠ none → ∀ b, h₂.get? b = none → s.heap.get? b = none := fun h₂ q qP b e => by
      cases e0 : s.heap.get? b with
      | none => rfl
      | some o =>
        by_cases hb : b = P
        · subst hb; exact absurd e qP
        · rw [q b o hb (k1 b o e0)] at e; cases e
    cases hf : codeAmong pos ps.toList with
    | none =>
      refine wpAny_bind (wpAny_functionCodeX hcode ((C.keeps k1).code (k1 _ _ hP) ht) ((C.keeps k1).tab (k1 _ _ hP)) hf fun c' h' tk hx hge hlt _ hrec htb ⟨P', _, _, hcl'⟩ => ?_)
      have hR : CodeR h' c' qual := by
        obtain ⟨c₂, o, vs, t, e, a, b, d⟩ := hrec
        cases e
        obtain ⟨⟨o', vs', a', b', d', _⟩, _⟩ := hcl'
        cases a.symm.trans a'
        exact ⟨o, vs, t, a, b', b, d⟩
      have hx1 : ∀ b o, b ≠ P → s.heap.get? b = some o → h'.get? b = some o := fun b o hb e => hx b o hb (k1 b o e)
      refine fin ctv h₁ h' tk c' hx1 hR ⟨_, htb.2, ?_, ?_⟩ (hfr1 h' (fun b o hb e => hx b o hb e) (by rw [htb.2]; simp))
      · (with_reducible_and_instances (refine rwG (Array.toList_append ..) ?_)); exact TriplesOk_snoc _ _ _ _ ht
      · intro x hx' v hv
        rw [Array.toList_append] at hv
        rcases codeAmong_snoc' _ ht v hv with q | ⟨q1, q2, rfl⟩
        · obtain ⟨cc, e, r⟩ := hkn x hx' v q
          refine ⟨cc, e, r.stab fun a o ho e => hx1 a o ?_ e⟩
          rintro rfl
          cases hP.symm.trans e
          exact absurd ho.1 (by simp [tabObj])
        · exact ⟨c', rfl, by (with_reducible_and_instances (refine rwG ((hk x hx' q1.symm q2.symm) ..) ?_)); exact hR⟩
    | some v =>
      obtain ⟨p, hp, hl, hcol⟩ := hin
      obtain ⟨c', rfl, hR⟩ := hkn _ hp v (by (first|with_reducible_and_instances refine rwG ((among_same hl hcol _ ht) ..) ?_|rewrite [among_same hl hcol _ ht]); exact hf)
      refine wpAny_bind (wpAny_functionCode_hit hcode ((C.keeps k1).code (k1 _ _ hP) ht) hf ?_)
      refine fin ctv h₁ h₁ s.toks c' (fun b o _ e => k1 b o e) (hR.stab fun a o _ e => k1 a o e) (TabW.stab ⟨ps, hP, ht, hkn⟩ fun a o _ e => k1 a o e) fun b e => ?_
      cases e0 : s.heap.get? b with
      | none => rfl
      | some o => rw [k1 b o e0] at e; cases e
  rw [makeFunction_eq]
  simp only [List.zip_nil_right, List.filterMap_nil, List.isEmpty_nil, if_true, pure_bind]
  unfold makeTail
  (with_reducible_and_instances (refine rwG (hcl ..) ?_))
  refine wpAny_bind (wpAny_pure ?_)
  cases clos with
  | nil =>
    simp only [List.isEmpty_nil, if_true]
    refine wpAny_bind (wpAny_pure ?_)
    exact code .none s.heap fun _ _ e => e
  | cons q r =>
    simp only [List.isEmpty_cons, Bool.false_eq_true, if_false]
    refine wpAny_bind (wpAny_newTextTuple ?_)
    exact code _ _ fun b o e => Heap.get?_push_of_some _ e
end
end Mine.Internal
end

section
namespace Mine.Internal
open PySem PySem.Calls PyProof.Rows PySem.W

section
variable {C : Cx} {ρ ρ' : Env'} {O : List (Str × Addr)} {g : C.G} {P : Fl → Env' → C.G → Prop} {s s₁ : Shared}

noncomputable abbrev Canon (F M : Addr → Prop) (h₀ : Heap) : Heap → Prop := fun h => ∀ a o, ¬ F a → ¬ M a → h₀.get? a = some o → h.get? a = some o
noncomputable abbrev Cx.turnC (C : Cx) (s₁ : Shared) (K N : Addr → Prop) (G' : Type) (W' : G' → Heap → Prop) : Cx :=
  C.turn s₁ K N G' W' (Canon (fun a => C.F a ∧ ¬ K a) (fun a => C.M a ∨ N a) s₁.heap)
noncomputable abbrev NewC (C : Cx) (s s₁ : Shared) (K N : Addr → Prop) (G' : Type) (W' : G' → Heap → Prop) (g' : G') : Prop :=
  NewW C s s₁ K N G' W' (Canon (fun a => C.F a ∧ ¬ K a) (fun a => C.M a ∨ N a) s₁.heap) g'
noncomputable abbrev stW (C : Cx) (aS : Addr) : C.G × Nat × Nat → Heap → Prop := fun g h => C.W g.1 h ∧ ∃ t u, h.IsList aS #[.int g.2.1 t, .int g.2.2 u]
noncomputable abbrev fnW' (C : Cx) (f : Addr) : C.G × Bool → Heap → Prop := fun g h => C.W g.1 h ∧ ∃ o, h.get? f = some o ∧ o.cls = .type "function" ∧ (∀ c, o.data ≠ .cls c) ∧ (g.2 = false → o.dict = none)
noncomputable abbrev cdW (C : Cx) (c' : Addr) (q : Str) : C.G → Heap → Prop := fun g h => C.W g h ∧ CodeR h c' q
noncomputable abbrev dcW (V : Wd) (aFn aFd aRd : Addr) : V.G → Heap → Prop := fun g h => V.W g h ∧ FnDict h aFn aFd (fun y => if y = Str.ofString "read" then some (.ref aRd) else none)
noncomputable abbrev cx1 (C : Cx) (s₁ : Shared) (aS : Addr) : Cx := C.turnC s₁ (fun a => a = aS) (fun a => a = aS) (C.G × Nat × Nat) (stW C aS)
noncomputable abbrev cx2 (C : Cx) (s₁ : Shared) (f c' : Addr) (q : Str) : Cx := C.turnC s₁ (fun a => a = f) (fun _ => False) C.G (cdW C c' q)
noncomputable abbrev cx3 (C : Cx) (s₁ : Shared) (f : Addr) : Cx := C.turnC s₁ (fun a => a = f) (fun a => a = f) (C.G × Bool) (fnW' C f)
noncomputable abbrev cx4 (C : Cx) (s₁ : Shared) (V : Wd) (aFn aFd aRd : Addr) : Cx := C.turnC s₁ (fun a => a = aFd) (fun a => a = aFd) V.G (dcW V aFn aFd aRd)
theorem NewC.top {K N : Addr → Prop} {G' : Type} {W' : G' → Heap → Prop} {g' : G'} (hC : C.Ok) (I : Inv C ρ O g s) (n : NewC C s s₁ K N G' W' g') : ∀ h, (C.turnC s₁ K N G' W').T h → C.T h :=
  fun h k => turn_top hC I n.keep n.fresh n.kn k

theorem St.state (hC : C.Ok) {x : Str} {xp lp pos : Pos} {es : List Expr} {rest : List Stmt} {i j : Nat} (h : EvL C ρ g es [.int i, .int j] g)
    (hr : ∀ (O : List (Str × Addr)) (s s₁ : Shared) (aS : Addr), Inv C ρ O g s → s.heap.get? aS = none → NewC C s s₁ (fun a => a = aS) (fun a => a = aS) (C.G × Nat × Nat) (stW C aS) (g, i, j) →
      ∃ ρ', Put ρ x (.val (.obj aS)) ρ' ∧ ((cx1 C s₁ aS).Ok →
        St (cx1 C s₁ aS) ρ' (g, i, j) rest (fun fl ρ'' g'' => P fl ρ'' g''.1))) :
    St C ρ g (.Assign [.Name x xp] (.List es lp) pos :: rest) P := by
  refine St.new (hs := by rfl) hC fun O s I => ?_
  refine wpAny_List (wpAny_mono (h O s lp I) (fun us s₁ ⟨r, st⟩ => ?_) fun _ _ x => x)
  have I1 := I.step hC st
  obtain ⟨t, u, rfl⟩ := r.ints2
  refine ⟨by show 2 ≤ 2 ^ 24; lia, ?_⟩
  have hfr := st.fresh hC (get_size_none s₁.heap)
  have n : NewC C s { s₁ with heap := s₁.heap.push { cls := .type "list", data := .seq [Value.int i t, .int j u].toArray } } (fun a => a = s₁.heap.objs.size) (fun a => a = s₁.heap.objs.size) (C.G × Nat × Nat) (fun g h => C.W g.1 h ∧ ∃ t u, h.IsList s₁.heap.objs.size #[.int g.2.1 t, .int g.2.2 u]) (g, i, j) := {
    rest := st.rest
    keep := fun a o hm e => Heap.get?_push_of_some _ (st.keep a o hm e)
    kn := fun _ h => h
    fresh := fun a e => by (with_reducible_and_instances (refine rwG ((show a = s₁.heap.objs.size from e) ..) ?_)); exact hfr
    there := fun a e => by have e' : a = s₁.heap.objs.size := e; subst e'; exact ⟨_, Heap.get?_push_size _ rfl⟩
    top := fun h k => k
    world := ⟨hC.stab _ _ _ I1.world fun a o _ e => Heap.get?_push_of_some _ e, t, u, ⟨_, Heap.get?_push_size _ rfl, rfl, 0, rfl⟩⟩
    ok := {
      wm := fun g h a hw hm => by
        rcases hm with hm | hm
        · exact hC.wm _ _ _ hw.1 hm
        · obtain ⟨t, u, o, e, _⟩ := hw.2
          have hm' : a = s₁.heap.objs.size := hm
          exact ⟨o, by (with_reducible_and_instances (refine rwG (hm' ..) ?_)); exact e⟩
      stab := fun g h h' hw k => ⟨hC.stab _ _ _ hw.1 fun a o hm e => k a o (hm.imp .inl id) e, by
        obtain ⟨t, u, o, e, q⟩ := hw.2
        exact ⟨t, u, o, k _ _ (.inl (.inr rfl)) e, q⟩⟩ } }
  obtain ⟨ρ', hp, hs⟩ := hr O s _ _ I hfr n
  exact ⟨_, _, _, _, _, _, _, Prod.fst, ρ', rfl, n, fun g h w => w.1, hp, hs⟩

structure Maker (C : Cx) (c PT : Addr) (known : List (Pos × Str)) : Prop where
  glob : C.env.globals = mainGlobals
  code : C.env.code = .ref c
  top : ∀ h, C.T h → ∃ mg, h.Ns mainGlobals mg ∧ CodeHd h c PT ∧ mainGlobals ≠ PT ∧ h.BuiltinsAt mg PT
  m : C.M PT
  w : ∀ g h, C.W g h → TabW PT known h
  u : ∀ g h h', C.W g h → TabW PT known h' → (∀ b o, b ≠ PT → h.get? b = some o → h'.get? b = some o) → C.W g h'

variable {c PT : Addr} {known : List (Pos × Str)}

theorem Maker.new {name qual : Str} {params : Arguments} {body : FuncBody} {scope : Scope} {pos : Pos} {firstLine : Nat} {clos : List (Str × Addr)} {Q : Value → Shared → Prop} (hC : C.Ok) (K : Maker C c PT known) (I : Inv C ρ O g s) (hcl : closureFor scope C.env = pure clos)
    (hk : ∀ x ∈ known, x.1.line = pos.line → x.1.col = pos.col → x.2 = qual) (hin : ∃ p, (p, qual) ∈ known ∧ p.line = pos.line ∧ p.col = pos.col) (hdoc : (match body with | .stmts b => docOf b | .expr _ => none) = none)
    (h : ∀ f c' ctv pm s₁, Step C g s s₁ → s.heap.get? f = none → s₁.heap.get? f = some { cls := .type "function", data := .func (fnD name qual params body scope clos pm c' ctv) } → CodeR s₁.heap c' qual → Q (.ref f) s₁) :
    wpAny C.mod C.A (makeFunction name qual params body scope C.env [] [] [] pos firstLine) Q NoE s := by
  obtain ⟨mg, h1, h2, h3, h4⟩ := K.top _ (I.top hC)
  refine newFn hcl K.glob h1 K.code h2 (K.w _ _ I.world) h3 h4 hk hin hdoc fun f c' ctv pm h' tk hx hf hfo hR hW => h f c' ctv pm _ ⟨⟨rfl, rfl, rfl⟩, fun a o hm e => hx a o (fun z => hm (z ▸ K.m)) e, K.u _ _ _ I.world hW hx⟩ hf hfo hR

theorem St.nested (hC : C.Ok) (K : Maker C c PT known) {name : Str} {params : Arguments} {body : List Stmt} {scope : Scope} {pos : Pos} {rest : List Stmt} {clos : List (Str × Addr)} {qual : Str} (hcl : closureFor scope C.env = pure clos)
    (hk : ∀ x ∈ known, x.1.line = pos.line → x.1.col = pos.col → x.2 = qual) (hin : ∃ p, (p, qual) ∈ known ∧ p.line = pos.line ∧ p.col = pos.col) (hdoc : docOf body = none) (hq : qualnameIn C.env name name = qual)
    (hd0 : params.defaults = []) (hk0 : params.kw_defaults = []) (ha : annTrees params none C.env = [])
    (hr : ∀ (O : List (Str × Addr)) (s s₁ : Shared) (f c' : Addr) (ctv pm : Value), Inv C ρ O g s → s.heap.get? f = none → s₁.heap.get? f = some { cls := .type "function", data := .func (fnD name qual params (.stmts body) scope clos pm c' ctv) } →
      NewC C s s₁ (fun a => a = f) (fun _ => False) C.G (cdW C c' qual) g →
      ∃ ρ', Put ρ name (.val (.obj f)) ρ' ∧ ((cx2 C s₁ f c' qual).Ok →
        St (cx2 C s₁ f c' qual) ρ' g rest P)) :
    St C ρ g (.FunctionDef name params body [] none [] scope none name pos :: rest) P := fun O s I => by
  refine wpAny_execs_cons (nestDef_K hd0 hk0 ha ?_)
  (with_reducible_and_instances (refine rwG (hq ..) ?_))
  refine K.new hC I hcl hk hin hdoc fun f c' ctv pm s₁ st hf hfo hR => ?_
  have n : NewC C s s₁ (fun a => a = f) (fun _ => False) C.G (cdW C c' qual) g := {
    rest := st.rest
    keep := st.keep
    kn := fun _ h => h.elim
    fresh := fun a e => by (with_reducible_and_instances (refine rwG ((show a = f from e) ..) ?_)); exact hf
    there := fun a e => by have e' : a = f := e; subst e'; exact ⟨_, hfo⟩
    top := fun h k => k
    world := ⟨st.world, hR⟩
    ok := {
      wm := fun g h a hw hm => by
        rcases hm with hm | hm
        · exact hC.wm _ _ _ hw.1 hm
        · exact hm.elim
      stab := fun g h h' hw k => ⟨hC.stab _ _ _ hw.1 fun a o hm e => k a o (hm.imp .inl id) e, hw.2.stab fun a o q e => k a o (.inr q) e⟩ } }
  obtain ⟨ρ', hp, hs⟩ := hr O s s₁ f c' ctv pm I hf hfo n
  exact new_rest hC I n (π := id) (fun g h w => w.1) hp hs

theorem St.lambda (hC : C.Ok) (K : Maker C c PT known) {x : Str} {xp pos apos : Pos} {params : Arguments} {body : Expr} {scope : Scope} {rest : List Stmt} {clos : List (Str × Addr)} {qual : Str} (hcl : closureFor scope C.env = pure clos)
    (hk : ∀ x ∈ known, x.1.line = pos.line → x.1.col = pos.col → x.2 = qual) (hin : ∃ p, (p, qual) ∈ known ∧ p.line = pos.line ∧ p.col = pos.col) (hq : C.env.qual ++ "<lambda>" = qual) (hd : defaultsOf params C.env = ([], []))
    (hr : ∀ (O : List (Str × Addr)) (s s₁ : Shared) (f : Addr), Inv C ρ O g s → s.heap.get? f = none →
      NewC C s s₁ (fun a => a = f) (fun a => a = f) (C.G × Bool) (fnW' C f) (g, false) →
      ∃ ρ', Put ρ x (.val (.obj f)) ρ' ∧ ((cx3 C s₁ f).Ok →
        St (cx3 C s₁ f) ρ' (g, false) rest (fun fl ρ'' g'' => P fl ρ'' g''.1)))
    (hs : swapsWith (.Lambda params body scope pos) (some (.Name x xp)) apos.line C.env = pure false) :
    St C ρ g (.Assign [.Name x xp] (.Lambda params body scope pos) apos :: rest) P := by
  refine St.new hC (fun O s I => ?_) (hs := hs)
  (rewrite [arm_eval_Lambda]; (with_reducible_and_instances (refine rwG (hd ..) ?_)))
  refine wpAny_bind (wpAny_pure (wpAny_bind (wpAny_holding (wpAny_pure ?_))))
  (with_reducible_and_instances (refine rwG (hq ..) ?_))
  refine K.new hC I hcl hk hin rfl fun f c' ctv pm s₁ st hf hfo hR => ?_
  have n : NewC C s s₁ (fun a => a = f) (fun a => a = f) (C.G × Bool) (fnW' C f) (g, false) := {
    rest := st.rest
    keep := st.keep
    kn := fun _ h => h
    fresh := fun a e => by (with_reducible_and_instances (refine rwG ((show a = f from e) ..) ?_)); exact hf
    there := fun a e => by have e' : a = f := e; subst e'; exact ⟨_, hfo⟩
    top := fun h k => k
    world := ⟨st.world, _, hfo, rfl, fun c e => (nomatch e), fun _ => rfl⟩
    ok := {
      wm := fun g h a hw hm => by
        rcases hm with hm | hm
        · exact hC.wm _ _ _ hw.1 hm
        · obtain ⟨o, e, _⟩ := hw.2
          exact ⟨o, by (with_reducible_and_instances (refine rwG ((show a = f from hm) ..) ?_)); exact e⟩
      stab := fun g h h' hw k => ⟨hC.stab _ _ _ hw.1 fun a o hm e => k a o (hm.imp .inl id) e, by
        obtain ⟨o, e, q⟩ := hw.2
        exact ⟨o, k _ _ (.inl (.inr rfl)) e, q⟩⟩ } }
  obtain ⟨ρ', hp, hs⟩ := hr O s s₁ f I hf n
  exact ⟨_, _, _, _, _, _, _, Prod.fst, ρ', rfl, n, fun g h w => w.1, hp, hs⟩

theorem St.setRead (hC : C.Ok) {y z : Str} {yp zp ap pos : Pos} {aFn aRd : Addr} {rest : List Stmt} (hy : (y, LV.val (.obj aFn)) ∈ ρ) (hz : (z, LV.val (.obj aRd)) ∈ ρ) (hM : C.M aFn)
    (hW : ∀ h, C.W g h → ∃ o, h.get? aFn = some o ∧ o.cls = .type "function" ∧ (∀ c, o.data ≠ .cls c) ∧ o.dict = none) {V : Wd} {g' : V.G} {π : V.G → C.G}
    (hVM : ∀ a, V.M a → C.M a ∧ a ≠ aFn) (hV : ∀ h, C.W g h → V.W g' h) (hVS : ∀ g h h', V.W g h → (∀ a o, (V.M a ∨ Obj.isRec o) → h.get? a = some o → h'.get? a = some o) → V.W g h')
    (hwm : ∀ g h a, V.W g h → C.M a → a ≠ aFn → ∃ o, h.get? a = some o)
    (hπ : ∀ (g : V.G) (h : Heap) (aFd : Addr), V.W g h → FnDict h aFn aFd (fun y => if y = Str.ofString "read" then some (.ref aRd) else none) → C.W (π g) h)
    (hr : ∀ (O : List (Str × Addr)) (s s₁ : Shared) (aFd : Addr), Inv C ρ O g s → s.heap.get? aFd = none →
      NewC C s s₁ (fun a => a = aFd) (fun a => a = aFd) V.G (dcW V aFn aFd aRd) g' →
      ((cx4 C s₁ V aFn aFd aRd).Ok →
        St (cx4 C s₁ V aFn aFd aRd) ρ g' rest (fun fl ρ'' g'' => P fl ρ'' (π g'')))) :
    St C ρ g (.Assign [.Attribute (.Name y yp) "read" ap] (.Name z zp) pos :: rest) P := by
  refine St.turn hC fun O s I => ?_
  refine plainObj_wpAny_Assign_Attribute (wpAny_mono (Ev.name hC hz O s I) (fun v s₁ ⟨r1, st1⟩ => ?_) fun _ _ x => x)
  obtain rfl := Rep.of_obj r1
  case _ =>
    have I1 := I.step hC st1
    refine wpAny_mono (Ev.name hC hy O s₁ I1) (fun v s₂ ⟨r2, st2⟩ => ?_) fun _ _ x => x
    obtain rfl := Rep.of_obj r2
    case _ =>
      have st := st1.trans st2
      have I2 := I1.step hC st2
      obtain ⟨o, e1, e2, e3, e4⟩ := hW _ I2.world
      have hw2 := I2.world
      have hfr : ∀ a, s₂.heap.get? a = none → s.heap.get? a = none := fun a e => st.fresh hC e
      have hkeep := st.keep
      have hrest := st.rest
      obtain ⟨h2, g2, d2, t2, os2⟩ := s₂
      refine fn_read_set e1 e2 e3 e4 fun h' t' hD hk ho => ?_
      have hnone := hfr _ (get_size_none h2)
      have hdn : ∃ o, h'.get? h2.objs.size = some o := by
        obtain ⟨_, _, _, _, _, _, o, _, _, e, _⟩ := hD
        exact ⟨o, e⟩
      have hfn : ∃ o, h'.get? aFn = some o := let ⟨o, e, _⟩ := hD; ⟨o, e⟩
      have hVW : V.W g' h' := by
        refine hVS g' h2 h' (hV _ hw2) fun a o hm e => ?_
        rcases hm with hm | hm
        · exact hk a o (hVM a hm).2 e
        · refine hk a o ?_ e
          rintro rfl
          have q : h2.get? a = some o := e
          have q1 : h2.get? a = _ := e1
          cases q.symm.trans q1
          rw [hm.1] at e2
          exact absurd e2 (by simp)
      have n : NewC C s ⟨h', g2, d2, t', os2⟩ (fun a => a = h2.objs.size) (fun a => a = h2.objs.size) V.G (dcW V aFn h2.objs.size aRd) g' := {
        rest := hrest
        keep := fun a o hm e => hk a o (fun z => hm (z ▸ hM)) (hkeep a o hm e)
        kn := fun _ h => h
        fresh := fun a e => by (with_reducible_and_instances (refine rwG ((show a = h2.objs.size from e) ..) ?_)); exact hnone
        there := fun a e => by have e' : a = h2.objs.size := e; subst e'; exact hdn
        top := fun h k => k
        world := ⟨hVW, hD⟩
        ok := {
          wm := fun g h a hw hm => by
            rcases hm with hm | hm
            · by_cases z : a = aFn
              · subst z; obtain ⟨o, e, _⟩ := hw.2; exact ⟨o, e⟩
              · exact hwm _ _ _ hw.1 hm z
            · have hm' : a = h2.objs.size := hm
              subst hm'
              obtain ⟨_, _, _, _, _, _, o, _, _, e, _⟩ := hw.2
              exact ⟨o, e⟩
          stab := fun g h h' hw k => ⟨hVS _ _ _ hw.1 fun a o hm e => k a o (hm.imp (fun m => .inl (hVM a m).1) id) e, by
            obtain ⟨o2, z1, z2, z3, z4, z5, o3, es, ep, y1, y2⟩ := hw.2
            exact ⟨o2, k _ _ (.inl (.inl hM)) z1, z2, z3, z4, z5, o3, es, ep, k _ _ (.inl (.inr rfl)) y1, y2⟩⟩ } }
      exact ⟨rfl, _, _, _, _, _, _, π, n, fun g h w => hπ g h _ w.1 w.2, hr O s _ _ I hnone n⟩
end
end Mine.Internal
end

section
namespace Mine.Internal
open PySem PySem.Calls PyProof.Rows PySem.W

theorem FnW.raw {prog : Program} {w : World} {T : Heap → Prop} {V : Wd} {d : Nat} {a : Addr} {o : Obj} {fd : FuncData} {body : List Stmt} {pn rest : List Str} {ps : List PV} {g : V.G} {A : Around} {X : Addr → Prop} {s : Shared} {us : List Value} {R : Result → Shared → Prop} (hV : V.Ok)
    (hT : ∀ h h' : Heap, T h → (∀ b o, ¬ V.M b → h.get? b = some o → h'.get? b = some o) → T h')
    (hR : Room (d + 1) A) (hTs : T s.heap) (hX : ∀ a, s.heap.get? a = none → ¬ X a) (hMX : ∀ a, V.M a → X a) (hw : V.W g s.heap) (hr : Reps X s.heap us ps)
    (hf : s.heap.get? a = some o ∧ s.heap.CodeRec fd.code fd.qualname ∧ s.heap.NoLimit) (hd : o.data = .func fd) (hb : fd.body = .stmts body) (hclo : fd.closure = [])
    (hbind : ∀ vals : List Value, vals.length = pn.length → bindArgs fd ⟨vals, []⟩ = pure (pn.zip vals)) (hlen : ps.length = pn.length)
    (hnd : (pn ++ rest).Nodup) (hkinds : ((pn ++ rest).all fun x => fd.scope.names.lookup x == some .local || fd.scope.names.lookup x == some .cell) = true)
    (hdbg : ((pn ++ rest).all fun x => !(x == ("__debug__" : Str)) && !(x == ("__classdict__" : Str))) = true)
    (hco : fd.scope.isCoroutine = false) (hgen : fd.scope.isGenerator = false) (hk : fd.scope.kind = .function)
    (hbody : ∀ cells s₁, (frameW prog w T V d fd (pn ++ rest) a cells A X s).Ok → Inv (frameW prog w T V d fd (pn ++ rest) a cells A X s) (startEnv pn rest ps) [] g s₁ →
      wpAny (model prog w) (frameW prog w T V d fd (pn ++ rest) a cells A X s).A (execs body (frameW prog w T V d fd (pn ++ rest) a cells A X s).env) (fun f s' => R (.ok (.ret (match f with | .ret v => v | _ => .none))) s') NoE s₁) :
    codeAny (model prog w) A (.call (.ref a) ⟨us, []⟩) R s := by
  have hlu : us.length = pn.length := by ((with_reducible_and_instances (refine rwG (hr.length ..) ?_; refine rwG (hlen ..) ?_)); (with_reducible rfl))
  have ndp : ((pn.zip us).map (·.1)).Nodup := by (with_reducible_and_instances (refine rwG ((zip_fst hlu) ..) ?_)); exact (List.nodup_append.mp hnd).1
  have hkd : ∀ x ∈ pn ++ rest, fd.scope.names.lookup x = some .local ∨ fd.scope.names.lookup x = some .cell := fun x hx => by
    have := List.all_eq_true.mp hkinds x hx
    simpa using this
  refine codeAny_call_cells (body := body) (by have := hR.depth; lia) hf.1 hd hf.2.2 hf.2.1 hb (hbind us hlu) hclo ?_ ?_ hco hgen hk
  · intro x hx
    have hx' : x.1 ∈ pn := by have := List.mem_map_of_mem (f := (·.1)) hx; rw [zip_fst hlu] at this; exact this
    rcases hkd x.1 (List.mem_append_left _ hx') with h | h
    · exact .inl h
    · exact .inr ⟨h, PySem.W.cellsFrom_some _ _ _ (.inl h)⟩
  · intro s₁ x
    have hcells : ∀ y c, (callEnvC fd s.heap.objs.size a).cells.lookup y = some c → s.heap.get? c = none := fun y c hc => none_of_le (Nat.le_of_lt (x.above y c (mem_of_lookup hc)))
    have hC : (frameW prog w T V d fd (pn ++ rest) a (cellsFrom (s.heap.objs.size + 1) fd.scope.names []) A X s).Ok := frameW_ok hV hT hR hTs hX hMX hw hk (fun y c _ hc => hcells y c hc)
      (fun y c hc m => by obtain ⟨o, e⟩ := hV.wm g _ _ hw m; rw [hcells y c hc] at e; cases e)
      (fun y z c h1 h2 => name_of_addr x.apart (mem_of_lookup h1) (mem_of_lookup h2)) hnd
      (fun y hy => (hkd y hy).imp id fun h => ⟨.inl h, PySem.W.cellsFrom_some _ _ _ (.inl h)⟩)
      (fun y hy => by have := List.all_eq_true.mp hdbg y hy; simpa using this)
    obtain ⟨h₁, tk, e1, hk₁⟩ := x.done
    subst e1
    have nf : ∀ y ∈ pn ++ rest, Rw (frameW prog w T V d fd (pn ++ rest) a (cellsFrom (s.heap.objs.size + 1) fd.scope.names []) A X s) y := fun y hy => by
      refine ⟨fun e => ?_, id⟩
      rcases hkd y hy with h | h
      · have : some NameKind.local = some NameKind.free := h.symm.trans e
        cases this
      · have : some NameKind.cell = some NameKind.free := h.symm.trans e
        cases this
    have I : Inv (frameW prog w T V d fd (pn ++ rest) a (cellsFrom (s.heap.objs.size + 1) fd.scope.names []) A X s) (startEnv pn rest ps) [] g { s with heap := h₁, toks := tk } := by
      refine ⟨⟨rfl, rfl, rfl⟩, fun b o _ _ e => hk₁ b o e, hV.stab _ _ _ hw fun b o _ e => hk₁ b o e, ?_, ⟨_, x.toInCall.ns, fun y v hy => ?_⟩, fun y c hc => ⟨_, x.cell y c hc⟩, fun _ _ h => (nomatch h), fun _ _ _ h => (nomatch h)⟩
      · show (startEnv pn rest ps).map (·.1) = pn ++ rest
        (rewrite [startEnv]; (with_reducible_and_instances (refine rwG (List.map_append ..) ?_; refine rwG ((zip_fst (by simpa using hlen)) ..) ?_; refine rwG (List.map_map ..) ?_)))
        congr 1
        exact List.map_id _
      · rcases List.mem_append.mp hy with h | h
        · obtain ⟨p, u, rfl, hu, hrp⟩ := zip_vals hr h
          have hyp : y ∈ pn := by have := List.mem_map_of_mem (f := (·.1)) hu; rw [zip_fst hlu] at this; exact this
          refine ⟨nf y (List.mem_append_left _ hyp), u, ?_, hrp.mono (fun b o hb _ e => ?_) fun b o _ _ e => hk₁ b o e⟩
          · rcases hkd y (List.mem_append_left _ hyp) with h | h
            · exact .inl ⟨h, bindL_mem _ _ _ _ ndp hu h⟩
            · have hs : ((callEnvC fd s.heap.objs.size a).cells.lookup y).isSome = true := PySem.W.cellsFrom_some _ _ _ (.inl h)
              obtain ⟨c, hc⟩ := Option.isSome_iff_exists.mp hs
              have hne : (callEnvC fd s.heap.objs.size a).kindOf y ≠ some .local := fun e => by
                have : some NameKind.cell = some NameKind.local := h.symm.trans e
                cases this
              refine .inr ⟨.inl h, c, hc, ?_⟩
              have := x.cell y c hc
              rw [bindC_mem _ _ _ _ ndp hu hne] at this
              exact this
          · rintro (q | ⟨_, q⟩)
            · exact hb q
            · cases q
        · obtain ⟨z, hz, e⟩ := List.mem_map.mp h
          cases e
          exact nf y (List.mem_append_right _ hz)
    exact wpAny_mono (hbody _ _ hC I) (fun f s' q => q) fun _ _ h => h.elim

structure CA where
  aC : Addr
  aN : Addr
  fI : Addr
  fR : Addr
  fG : Addr
  fP : Addr

inductive ClsB (ca : CA) (h : Heap) : Prop
  | mk (nm q bs sn sub ab col dd k0 k1 k2 k3 k5 newId : _) (mN : Str → Option Value) (oR oG oP : Obj) (a1 : h.get? ca.aC = some (excClassObj nm q ca.aC ca.aN bs [.type "object"] true sn sub ab col dd k0 k1 k2 k3 k5 newId)) (a2 : h.Ns ca.aN mN)
    (z1 : mN "__getattribute__" = none) (z2 : mN "__getattr__" = none) (z3 : mN "__setattr__" = none) (z4 : mN "lineno" = none) (z5 : mN "instream" = none) (z6 : mN "whitespace" = none) (z7 : mN "pushback" = none)
    (y1 : mN "_read_char" = some (.ref ca.fR)) (y2 : mN "get_token" = some (.ref ca.fG)) (y3 : mN "push_token" = some (.ref ca.fP))
    (y4 : h.get? ca.fR = some oR) (y5 : oR.cls = .type "function") (y6 : h.get? ca.fG = some oG) (y7 : oG.cls = .type "function") (y8 : h.get? ca.fP = some oP) (y9 : oP.cls = .type "function") : ClsB ca h

theorem InstW.noRec {aC aL aLd : Addr} {m : Str → Option Value} {h : Heap} (w : InstW aC aL aLd m h) {b : Addr} {o : Obj} (ho : Obj.isRec o) (e : h.get? b = some o) : b ≠ aL ∧ b ≠ aLd := by
  obtain ⟨o1, e1, c1, _, _, _, ns, _⟩ := w
  obtain ⟨_, _, _, x1, x2⟩ := ns1_there ns
  exact ⟨rec_ne ho e e1 (.inl (by ((first|with_reducible_and_instances refine rwG ((c1) ..) ?_|rewrite [c1]); try with_reducible rfl); exact fun z => nomatch z)), rec_ne ho e x1 (.inr fun vs z => nomatch x2.symm.trans z)⟩
theorem ClsB.at {ca : CA} {h : Heap} {name : Str} (w : ClsB ca h) (hn : name ∈ attrs) : ClsAt ca.aC ca.aN name h ∧ typeLookup (.type "object") name = pure none := by
  cases w
  simp only [attrs, List.mem_cons, List.not_mem_nil, or_false] at hn
  rcases hn with rfl | rfl | rfl | rfl
  · exact ⟨⟨_, _, _, _, _, _, _, _, _, _, _, _, _, _, _, by assumption, by assumption, by assumption, by assumption, by assumption⟩, lko_lineno⟩
  · exact ⟨⟨_, _, _, _, _, _, _, _, _, _, _, _, _, _, _, by assumption, by assumption, by assumption, by assumption, by assumption⟩, lko_instream⟩
  · exact ⟨⟨_, _, _, _, _, _, _, _, _, _, _, _, _, _, _, by assumption, by assumption, by assumption, by assumption, by assumption⟩, lko_whitespace⟩
  · exact ⟨⟨_, _, _, _, _, _, _, _, _, _, _, _, _, _, _, by assumption, by assumption, by assumption, by assumption, by assumption⟩, lko_pushback⟩

noncomputable def InitV (V : Wd) (aC aL aLd : Addr) : Wd := ⟨fun a => V.M a ∨ (a = aL ∨ a = aLd), V.G × (Str → Option Value), fun g h => V.W g.1 h ∧ InstW aC aL aLd g.2 h⟩
theorem InitV.ok {V : Wd} {aC aL aLd : Addr} (hV : V.Ok) : (InitV V aC aL aLd).Ok where
  wm := fun g h a hw hm => by
    rcases hm with hm | rfl | rfl
    · exact hV.wm _ _ _ hw.1 hm
    · exact hw.2.there.1
    · exact hw.2.there.2
  stab := fun g h h' hw k => ⟨hV.stab _ _ _ hw.1 fun a o hm e => k a o (hm.imp .inl id) e, hw.2.keep (fun o => k _ o (.inl (.inr (.inl rfl)))) fun o => k _ o (.inl (.inr (.inr rfl)))⟩

section
variable {prog : Program} {w : World} {T : Heap → Prop} {V : Wd} {d : Nat} {fd : FuncData} {names : List Str} {a : Addr} {cells : List (Str × Addr)} {A : Around} {X : Addr → Prop} {s₀ : Shared} {ca : CA} {aL aLd : Addr}

theorem init_stmt (hV : V.Ok) (hC : (frameW prog w T (InitV V ca.aC aL aLd) d fd names a cells A X s₀).Ok) {ρ : Env'} {O : List (Str × Addr)} {g : V.G} {m : Str → Option Value} {s : Shared} (I : Inv (frameW prog w T (InitV V ca.aC aL aLd) d fd names a cells A X s₀) ρ O (g, m) s)
    {name self : Str} {e : Expr} {p : PV} {sp ap pos : Pos} (hself : (self, LV.val (.obj aL)) ∈ ρ) (he : Ev (frameW prog w T (InitV V ca.aC aL aLd) d fd names a cells A X s₀) ρ (g, m) e p (g, m)) (hn : name ∈ attrs) (hcls : ∀ h, T h → ClsB ca h) (hne : aL ≠ ca.aC)
    (hM : ∀ a, V.M a → a ≠ aL ∧ a ≠ aLd) {Q : Flow → Shared → Prop}
    (hQ : ∀ u Y s', Rep Y s'.heap u p → Inv (frameW prog w T (InitV V ca.aC aL aLd) d fd names a cells A X s₀) ρ O (g, updM m name u) s' → Q .next s')
    (hs : swapsWith e (some (.Attribute (.Name self sp) name ap)) pos.line (frameW prog w T (InitV V ca.aC aL aLd) d fd names a cells A X s₀).env = pure false) :
    wpAny (model prog w) (frameW prog w T (InitV V ca.aC aL aLd) d fd names a cells A X s₀).A (exec (.Assign [.Attribute (.Name self sp) name ap] e pos) (frameW prog w T (InitV V ca.aC aL aLd) d fd names a cells A X s₀).env) Q NoE s := by
  refine plainObj_wpAny_Assign_Attribute (wpAny_mono (he O s I) (fun u s₁ ⟨r, st⟩ => ?_) fun _ _ x => x) hs
  have I1 := I.step hC st
  refine wpAny_mono (Ev.name hC hself O s₁ I1) (fun v s₂ ⟨r2, st2⟩ => ?_) fun _ _ x => x
  obtain rfl := Rep.of_obj r2
  case _ =>
    have I2 := I1.step hC st2
    obtain ⟨hv, hI⟩ := I2.world
    have hca := (hcls _ (I2.top hC)).at hn
    refine inst_set hn hI hca.1 hca.2 hne fun h' tk hI' hk => ?_
    have hnr : ∀ b o, Obj.isRec o → s₂.heap.get? b = some o → b ≠ aL ∧ b ≠ aLd := fun b o ho e => hI.noRec ho e
    have st3 : Step (frameW prog w T (InitV V ca.aC aL aLd) d fd names a cells A X s₀) (g, updM m name u) s₂ { s₂ with heap := h', toks := tk } :=
      ⟨⟨rfl, rfl, rfl⟩, fun b o hm e => hk b o (fun z => hm (.inr (.inl z))) (fun z => hm (.inr (.inr z))) e, hV.stab _ _ _ hv fun b o hm e => by
        have q : b ≠ aL ∧ b ≠ aLd := hm.elim (fun m => hM b m) fun r => hnr b o r e
        exact hk b o q.1 q.2 e, hI'⟩
    exact hQ u _ _ ((r.step hC st2).step hC st3) (I2.step hC st3)

theorem init_list (hV : V.Ok) (hC : (frameW prog w T (InitV V ca.aC aL aLd) d fd names a cells A X s₀).Ok) {ρ : Env'} {O : List (Str × Addr)} {g : V.G} {m : Str → Option Value} {s : Shared} (I : Inv (frameW prog w T (InitV V ca.aC aL aLd) d fd names a cells A X s₀) ρ O (g, m) s)
    {name self : Str} {sp lp ap pos : Pos} (hself : (self, LV.val (.obj aL)) ∈ ρ) (hn : name ∈ attrs) (hcls : ∀ h, T h → ClsB ca h) (hne : aL ≠ ca.aC)
    (hM : ∀ a, V.M a → a ≠ aL ∧ a ≠ aLd) {Q : Flow → Shared → Prop}
    (hQ : ∀ aP s', s.heap.get? aP = none → s₀.heap.get? aP = none → s'.heap.PlainList aP #[] → Inv (frameW prog w T (InitV V ca.aC aL aLd) d fd names a cells A X s₀) ρ O (g, updM m name (.ref aP)) s' → Q .next s') :
    wpAny (model prog w) (frameW prog w T (InitV V ca.aC aL aLd) d fd names a cells A X s₀).A (exec (.Assign [.Attribute (.Name self sp) name ap] (.List [] lp) pos) (frameW prog w T (InitV V ca.aC aL aLd) d fd names a cells A X s₀).env) Q NoE s := by
  refine plainObj_wpAny_Assign_Attribute (wpAny_List (spliced_nil ⟨by show 0 ≤ 2 ^ 24; lia, ?_⟩))
  have hn4 := I.new hC (get_size_none s.heap)
  have st5 := Step.of_keeps hC I.world (keeps_push (s := s) (o := { cls := .type "list", data := .seq ([] : List Value).toArray }))
  have I5 := I.step hC st5
  refine wpAny_mono (Ev.name hC hself _ _ I5) (fun v s6 ⟨r6, st6⟩ => ?_) fun _ _ x => x
  obtain rfl := Rep.of_obj r6
  case _ =>
    have I6 := I5.step hC st6
    obtain ⟨hv, hI6⟩ := I6.world
    have hP6 : s6.heap.PlainList s.heap.objs.size #[] := ⟨0, st6.keep _ _ hn4.2.2.1 (Heap.get?_push_size _ rfl)⟩
    have hPL : s.heap.objs.size ≠ aL ∧ s.heap.objs.size ≠ aLd := by
      have q := I.world.2.there
      refine ⟨fun z => ?_, fun z => ?_⟩
      · obtain ⟨o, e⟩ := q.1; rw [← z, get_size_none] at e; cases e
      · obtain ⟨o, e⟩ := q.2; rw [← z, get_size_none] at e; cases e
    have hca := (hcls _ (I6.top hC)).at hn
    refine inst_set hn hI6 hca.1 hca.2 hne fun h' tk hI' hk => ?_
    have st3 : Step (frameW prog w T (InitV V ca.aC aL aLd) d fd names a cells A X s₀) (g, updM m name (.ref s.heap.objs.size)) s6 { s6 with heap := h', toks := tk } :=
      ⟨⟨rfl, rfl, rfl⟩, fun b o hm e => hk b o (fun z => hm (.inr (.inl z))) (fun z => hm (.inr (.inr z))) e, hV.stab _ _ _ hv fun b o hm e => by
        have q : b ≠ aL ∧ b ≠ aLd := hm.elim (fun m => hM b m) fun r => hI6.noRec r e
        exact hk b o q.1 q.2 e, hI'⟩
    exact hQ _ _ (get_size_none _) hn4.1 (by obtain ⟨n, e⟩ := hP6; exact ⟨n, hk _ _ hPL.1 hPL.2 e⟩) (I6.step hC st3)
end

structure Made (ca : CA) (aL aLd aP aFn : Addr) (mA : Str → Option Value) (h : Heap) : Prop where
  inst : InstW ca.aC aL aLd mA h
  lineno : ∃ t, mA "lineno" = some (.int 1 t)
  instream : mA "instream" = some (.ref aFn)
  white : ∃ t, mA "whitespace" = some (.str ⟨ws.toArray⟩ t)
  pushback : mA "pushback" = some (.ref aP)
  list : h.PlainList aP #[]
  r : mA "_read_char" = none
  g : mA "get_token" = none
  p : mA "push_token" = none

theorem init_call {prog : Program} {w : World} {T : Heap → Prop} {V : Wd} {g : V.G} {A : Around} {ca : CA} {aL aLd aFn : Addr} {s : Shared} {o : Obj} {fd : FuncData} {R : Result → Shared → Prop} (hV : V.Ok)
    (hT : ∀ h h' : Heap, T h → (∀ b o, ¬ (V.M b ∨ (b = aL ∨ b = aLd)) → h.get? b = some o → h'.get? b = some o) → T h') (hR : Room 1 A) (hTs : T s.heap) (hw : V.W g s.heap) (hI : InstW ca.aC aL aLd (fun _ => none) s.heap)
    (D : DefAt T (methAt theProg iCls 0) ["self", "fp"] ca.fI o fd) (hcls : ∀ h, T h → ClsB ca h) (hne : aL ≠ ca.aC) (hM : ∀ a, V.M a → a ≠ aL ∧ a ≠ aLd)
    (hq : ∀ s' aP mA, s.heap.get? aP = none → (s'.gens = s.gens ∧ s'.drawn = s.drawn ∧ s'.os = s.os) → (∀ a o, ¬ V.M a → a ≠ aL → a ≠ aLd → s.heap.get? a = some o → s'.heap.get? a = some o) → V.W g s'.heap → Made ca aL aLd aP aFn mA s'.heap → R (.ok (.ret .none)) s') :
    codeAny (model prog w) A (.call (.ref ca.fI) ⟨[.ref aL, .ref aFn], []⟩) R s := by
  have hV' : (InitV V ca.aC aL aLd).Ok := InitV.ok hV
  refine FnW.raw (T := T) (V := InitV V ca.aC aL aLd) (d := 0) (g := (g, fun _ => none)) (X := (InitV V ca.aC aL aLd).M) (ps := [.obj aL, .obj aFn]) (rest := []) hV' hT hR hTs (fun a e m => ?_) (fun _ m => m) ⟨hw, hI⟩ (.cons (.obj _) (.cons (.obj _) .nil)) (D.at' _ hTs) D.data D.body D.clo D.bind rfl (by decide) (by (with_reducible_and_instances (refine rwG (D.scope ..) ?_)); decide +kernel) (by decide +kernel) (by (with_reducible_and_instances (refine rwG (D.scope ..) ?_)); rfl) (by (with_reducible_and_instances (refine rwG (D.scope ..) ?_)); rfl) (by (with_reducible_and_instances (refine rwG (D.scope ..) ?_)); rfl) fun cells s₁ hC I => ?_
  · obtain ⟨o, e'⟩ := hV'.wm (g, fun _ => none) _ _ ⟨hw, hI⟩ m; cases e.symm.trans e'
  have hself : (Str.ofString "self", LV.val (.obj aL)) ∈ startEnv ["self", "fp"] [] [.obj aL, .obj aFn] := List.mem_cons_self
  have hfp : (Str.ofString "fp", LV.val (.obj aFn)) ∈ startEnv ["self", "fp"] [] [.obj aL, .obj aFn] := List.mem_cons_of_mem _ List.mem_cons_self
  refine wpAny_execs_cons (init_stmt (hs := by rfl) hV hC I hself Ev.int (by simp [attrs]) hcls hne hM fun u1 X1 s2 r1 I2 => ?_)
  refine wpAny_execs_cons (init_stmt (hs := by rfl) hV hC I2 hself (Ev.name hC hfp) (by simp [attrs]) hcls hne hM fun u2 X2 s3 r2 I3 => ?_)
  refine wpAny_execs_cons (init_stmt (hs := by rfl) hV hC I3 hself (Ev.str (l := ws) rfl) (by simp [attrs]) hcls hne hM fun u3 X3 s4 r3 I4 => ?_)
  refine wpAny_execs_cons (init_list hV hC I4 hself (by simp [attrs]) hcls hne hM fun aP s5 _ hn5 hP5 I5 => ?_)
  refine wpAny_execs_nil ?_
  refine hq _ aP _ hn5 I5.rest (fun b o hm h1 h2 e => I5.old b o (fun z => by have z' : s.heap.get? b = none := z; cases z'.symm.trans e) (fun z => z.elim hm fun z => z.elim h1 h2) e)
      I5.world.1 ⟨I5.world.2, ?_, ?_, ?_, ?_, hP5, ?_, ?_, ?_⟩
  · exact let ⟨t, e⟩ := r1.int_is; ⟨t, congrArg some e⟩
  · exact congrArg some r2.of_obj
  · exact let ⟨t, e⟩ := (show ∃ t, u3 = Value.str ⟨ws.toArray⟩ t from r3.inv); ⟨t, congrArg some e⟩
  · rfl
  · rfl
  · rfl
  · rfl

theorem new_lexer {C : Cx} (hC : C.Ok) {ρ : Env'} {O : List (Str × Addr)} {g : C.G} {s : Shared} (I : Inv C ρ O g s) {ca : CA} {K : Frag} {aFn : Addr} {o : Obj} {fd : FuncData} (hK : ∀ h, C.T h → K.In h) (hmk : makesIn K ca.aC = true)
    (hfi : findIn K (.ref ca.aC) "__init__" = some (some (.ref ca.fI))) (hty : typeIn K (.ref ca.fI) = some (.type "function")) (hkeep : keepIn K (.ref ca.aC) = true) (hcls : ∀ h, C.T h → ClsB ca h)
    (D : DefAt C.T (methAt theProg iCls 0) ["self", "fp"] ca.fI o fd) (hTc : C.T = Canon C.F C.M C.s₀.heap) {np xp pos : Pos} {c x : Str} (hg : GlobIs C c (.ref ca.aC)) (hst : (x, LV.val (.obj aFn)) ∈ ρ) (hd : 2 ≤ C.d) {Q : Value → Shared → Prop}
    (hQ : ∀ aL aLd aP s₁ mA, s.heap.get? aL = none → s.heap.get? aLd = none → s.heap.get? aP = none → aL ≠ aLd → aP ≠ aL → aP ≠ aLd → (s₁.gens = s.gens ∧ s₁.drawn = s.drawn ∧ s₁.os = s.os) → (∀ a o, ¬ C.M a → s.heap.get? a = some o → s₁.heap.get? a = some o) →
      C.W g s₁.heap → Made ca aL aLd aP aFn mA s₁.heap → Q (.ref aL) s₁)
    (hn : (backTo pos (starEach [.Name x xp] C.env)).any (·.1) = false)
    (he : starEach (.Name x xp :: []) C.env = (false, eval (.Name x xp) C.env) :: starEach [] C.env) (hplain : (backTo pos (starEach [] C.env)).any (·.1) = false) :
    wpAny C.mod C.A (eval (.Call (.Name c np) [.Name x xp] [] pos) C.env) Q NoE s := by
  refine wpAny_Call_NameR (eval_glob hC hg I (callWith_K (h₀ := s.heap) (hK _ (I.top hC)) hkeep (wpAny_mono (EvL.cons hC (Ev.name hC hst) EvL.nil (hs := fun _ => rfl) O s pos I) (fun us s₁ ⟨r, st⟩ => ?_) fun _ _ x => x) he hplain))
  have I1 := I.step hC st
  have X := hK _ (I1.top hC)
  refine ⟨X, wpAny_call ?_⟩
  obtain rfl : us = [.ref aFn] := Reps.oneE r fun u h1 => by ((with_reducible_and_instances (refine rwG (h1.of_obj ..) ?_)); (with_reducible rfl))
  have hfresh : ∀ a, s₁.heap.get? a = none → s.heap.get? a = none := fun a e => st.fresh hC e
  have hkeep1 := st.keep
  have hrest1 := st.rest
  have hT1 := I1.top hC
  have hw1 := I1.world
  have hold1 := I1.old
  have hcl1 := hcls _ hT1
  obtain ⟨h1, g1, d1, t1, os1⟩ := s₁
  refine make_core (makes_of X hmk) (looks_findIn X hfi) (fun self => bind_fn X self hty) (.inl rfl) ?_
  have kp : ∀ b o, h1.get? b = some o → ((h1.push emptyDict).push (instObj ca.aC h1.objs.size)).get? b = some o := fun b o e => Heap.get?_push_of_some _ (Heap.get?_push_of_some _ e)
  have hL0 : h1.get? (h1.objs.size + 1) = none := none_of_le (Nat.le_succ _)
  have hD0 : h1.get? h1.objs.size = none := get_size_none _
  have eL : ((h1.push emptyDict).push (instObj ca.aC h1.objs.size)).get? (h1.objs.size + 1) = some (instObj ca.aC h1.objs.size) := by heap_get
  have eD : ((h1.push emptyDict).push (instObj ca.aC h1.objs.size)).get? h1.objs.size = some emptyDict := Heap.get?_push_of_some _ (Heap.get?_push_size _ rfl)
  have hI : InstW ca.aC (h1.objs.size + 1) h1.objs.size (fun _ => none) ((h1.push emptyDict).push (instObj ca.aC h1.objs.size)) := by
    exact ⟨_, eL, rfl, fun c e => (nomatch e), rfl, Nat.ne_of_lt (Nat.lt_succ_self _), Heap.Ns1.of_empty ⟨_, #[], _, eD, rfl, fun e he => absurd he (by simp), fun _ => rfl⟩, fun y hy => absurd rfl hy⟩
  have hne : h1.objs.size + 1 ≠ ca.aC := by
    obtain ⟨nm, q, bs, sn, sub, ab, col, dd, k0, k1, k2, k3, k5, newId, mN, oR, oG, oP, hCo, _⟩ := hcl1
    rintro z; rw [← z, hL0] at hCo; cases hCo
  have hMn : ∀ a, C.M a → a ≠ h1.objs.size + 1 ∧ a ≠ h1.objs.size := fun a m => by
    obtain ⟨o, e⟩ := hC.wm _ _ _ hw1 m
    refine ⟨?_, ?_⟩
    · exact ne_get e hL0
    · exact ne_get e hD0
  have hRm : Room 1 (C.A.under (.builtin "type.__call__" ⟨.ref ca.aC :: [.ref aFn], []⟩)) := by
    have h1 := hC.handled; have h2 := hC.depth; have h3 := hC.units
    exact ⟨h1, by show C.A.depth + 1 + 1 < _; lia, by show C.A.units + 1 + 20 * 1 + 200 < _; lia⟩
  refine init_call (T := C.T) (V := C.wd) (g := g) (aFn := aFn) ⟨hC.wm, hC.stab⟩ (fun h h' hT k => ?_) hRm ?_ (hC.stab _ _ _ hw1 fun a o _ e => kp a o e) hI D hcls hne hMn fun s' aP mA e1 e2 e3 e4 e5 => ?_
  · rw [hTc] at hT ⊢
    intro a o q1 q2 q3
    refine k a o (fun z => ?_) (hT a o q1 q2 q3)
    have e := hold1 a o q1 q2 q3
    rcases z with z | z | z
    · exact q2 z
    · exact ne_get e hL0 z
    · exact ne_get e hD0 z
  · (with_reducible_and_instances (refine rwG (hTc ..) ?_))
    exact fun a o q1 q2 q3 => kp a o (hold1 a o q1 q2 q3)
  · have hPL : aP ≠ h1.objs.size + 1 := (ne_get eL e1).symm
    have hPD : aP ≠ h1.objs.size := (ne_get eD e1).symm
    have hP0 : h1.get? aP = none := by
      cases q : h1.get? aP with
      | none => rfl
      | some o => rw [show _ = some _ from kp _ _ q] at e1; cases e1
    refine ⟨rfl, hQ _ _ aP s' mA (hfresh _ hL0) (hfresh _ hD0) (hfresh _ hP0) (Nat.succ_ne_self _) hPL hPD ⟨e2.1.trans hrest1.1, e2.2.1.trans hrest1.2.1, e2.2.2.trans hrest1.2.2⟩ (fun a o hm e => ?_) e4 e5⟩
    have e' := hkeep1 a o hm e
    refine e3 a o hm ?_ ?_ (kp a o e')
    · exact ne_get e' hL0
    · exact ne_get e' hD0
end Mine.Internal
end

section
namespace Mine.Internal
open PySem PySem.Calls PyProof.Rows PySem.W

theorem bitAnd_nat (a b : Nat) : Builtin.bitAnd (a : Int) (b : Int) = ((a &&& b : Nat) : Int) := by
  (with_reducible_and_instances (refine rwG ((bitAnd_pp (Int.natCast_nonneg a) (Int.natCast_nonneg b)) ..) ?_)); simp
theorem xor_half {x y a b : Nat} (h : x / 2 + 2 * (y / 2) = a / 2 + b / 2) (m : x % 2 + 2 * (y % 2) = a % 2 + b % 2) : x + 2 * y = a + b := by lia
theorem xor_low {i j : Nat} (hi : i < 2) (hj : j < 2) : (i ^^^ j) + 2 * (i &&& j) = i + j := by
  have key : ∀ i < 2, ∀ j < 2, (i ^^^ j) + 2 * (i &&& j) = i + j := by decide
  exact key i hi j hj
theorem nat_xor_add (a b : Nat) : (a ^^^ b) + 2 * (a &&& b) = a + b := by
  induction a using Nat.strongRecOn generalizing b with
  | ind a ih =>
    by_cases h : a = 0
    · subst h; simp
    · have h1 : (a ^^^ b) / 2 = a / 2 ^^^ b / 2 := Nat.xor_div_two
      have h2 : (a &&& b) / 2 = a / 2 &&& b / 2 := Nat.and_div_two
      have h3 : (a ^^^ b) % 2 = a % 2 ^^^ b % 2 := Nat.xor_mod_two_pow (n := 1)
      have h4 : (a &&& b) % 2 = a % 2 &&& b % 2 := Nat.and_mod_two_pow (n := 1)
      refine xor_half ?_ ?_
      · ((with_reducible_and_instances (refine rwG (h1 ..) ?_; refine rwG (h2 ..) ?_))); exact ih (a / 2) (Nat.div_lt_self (Nat.pos_of_ne_zero h) (by decide)) (b / 2)
      · ((with_reducible_and_instances (refine rwG (h3 ..) ?_; refine rwG (h4 ..) ?_))); exact xor_low (Nat.mod_lt _ (by decide)) (Nat.mod_lt _ (by decide))
theorem bitXor_nat (a b : Nat) : Builtin.bitXor (a : Int) (b : Int) = ((a ^^^ b : Nat) : Int) := by
  unfold Builtin.bitXor
  rw [bitOr_and, bitAnd_nat]
  have := nat_xor_add a b
  lia
theorem and_one (a : Nat) : a &&& 1 = a % 2 := Nat.and_one_is_mod a
theorem shr_nat (a n : Nat) : ((a : Int)).fdiv (2 ^ n) = ((a / 2 ^ n : Nat) : Int) := by
  (with_reducible_and_instances (refine rwG ((show ((2 : Int) ^ n) = ((2 ^ n : Nat) : Int) by norm_cast) ..) ?_))
  (with_reducible_and_instances (refine rwG ((Int.fdiv_eq_ediv_of_nonneg _ (Int.natCast_nonneg _)) ..) ?_))
  norm_cast

noncomputable def bitStep (r : Nat) : Nat := if r % 2 = 1 then r / 2 ^^^ 3988292384 else r / 2
noncomputable def bitSteps : Nat → Nat → Nat
  | 0, r => r
  | n + 1, r => bitStep (bitSteps n r)
noncomputable abbrev genCrc (r : Nat) : Nat := bitSteps 8 r

theorem TG.mono {T T' : Heap → Prop} {x : Str} {v : Value} (h : TG T x v) (hT : ∀ h, T' h → T h) : TG T' x v := ⟨h.1, fun hh t => h.2 hh (hT hh t)⟩
theorem DefAt.mono {T T' : Heap → Prop} {st : Stmt} {pn : List Str} {a : Addr} {o : Obj} {fd : FuncData} (D : DefAt T st pn a o fd) (hT : ∀ h, T' h → T h) : DefAt T' st pn a o fd :=
  ⟨D.data, fun h t => D.at' h (hT h t), D.body, D.scope, D.clo, D.glob, D.bi, D.bind⟩

section
variable {C : Cx} {g : C.G} {prog : Program} {w : World} {T : Heap → Prop} {d : Nat}

theorem GlobIs.of' {T : Heap → Prop} {x : Str} {v : Value} (h : TG T x v) (hT : ∀ h, C.T h → T h) (h1 : C.env.globals = mainGlobals) (h2 : C.env.builtins = builtinsNs) (hk : C.env.kindOf x = some .globalImplicit) : GlobIs C x v :=
  ⟨hk, h.1, fun hh ht => by ((with_reducible_and_instances (refine rwG (h1 ..) ?_; refine rwG (h2 ..) ?_))); exact h.2 hh (hT hh ht)⟩

structure TopAt (C : Cx) (prog : Program) (w : World) (T : Heap → Prop) (d : Nat) (sc : Scope) : Prop where
  ok : C.Ok
  prog : C.prog = prog
  w : C.w = w
  sub : ∀ h, C.T h → T h
  d : d ≤ C.d
  scope : C.env.scope = sc
  globals : C.env.globals = mainGlobals
  builtins : C.env.builtins = builtinsNs
theorem FrameD.top {sc : Scope} (F : FrameD C prog w T d sc) : TopAt C prog w T d sc := ⟨F.ok, F.prog, F.w, fun h t => F.T ▸ t, Nat.le_of_eq F.d.symm, F.scope, F.globals, F.builtins⟩
theorem TopAt.glob {sc : Scope} (F : TopAt C prog w T d sc) {x : Str} {v : Value} (h : TG T x v) (hk : sc.names.lookup x = some .globalImplicit) : GlobIs C x v :=
  GlobIs.of' h F.sub F.globals F.builtins (by show C.env.scope.names.lookup x = _; (with_reducible_and_instances (refine rwG (F.scope ..) ?_)); exact hk)

structure PureAt (prog : Program) (w : World) (T : Heap → Prop) (d : Nat) (x : Str) (f : Addr) : Prop where
  glob : TG T x (.ref f)
  obj : ∃ o fd, o.data = .func fd ∧ ∀ h, T h → h.get? f = some o
theorem TopAt.call {sc : Scope} {ρ : Env'} {g₁ : C.G} {d' : Nat} (F : TopAt C prog w T d sc) {x : Str} {f : Addr} {np pos : Pos} {es : List Expr} {ps : List PV} {r : PV} (D : PureAt prog w T d' x f) (hk : sc.names.lookup x = some .globalImplicit) (h : EvL C ρ g es ps g₁)
    (ho : Fn prog w T d' (.ref f) ps r) (hd : d' ≤ d) (hn : (backTo pos (starEach es C.env)).any (·.1) = false) : Ev C ρ g (.Call (.Name x np) es [] pos) r g₁ := by
  obtain ⟨o, fd, e1, e2⟩ := D.obj
  refine Ev.callF F.ok (F.glob D.glob hk) ⟨o, fd, e1, fun h t => e2 h (F.sub h t)⟩ h ?_ (Nat.le_trans hd F.d) (hn := hn)
  ((with_reducible_and_instances (refine rwG (F.prog ..) ?_; refine rwG (F.w ..) ?_)))
  exact ho.weaken F.sub

theorem crc_body {sc : Scope} (F : TopAt C prog w T d sc) (hrange : TG T "range" (.type "range")) (hk : sc.names.lookup (Str.ofString "range") = some .globalImplicit) (r : Nat) :
    St C [en "crc" (.val (.int r)), en "j" .undef] g (stmtBody (stmtAt theProg iCrc)) (fun fl _ _ => fl = .ret (.int (genCrc r))) := by
  have hC := F.ok
  refine St.cons (St1.for (ht := by first | exact .inl ⟨_, _, rfl⟩ | exact .inr ⟨_, _, _, rfl⟩) (hs := by intro _; rfl) hC (EvIt.range1 (hn := by rfl) hC (F.glob hrange hk) (EvL.cons (hs := by intro _; rfl) hC Ev.int EvL.nil) (by decide) (by decide)) (fun i ρ g => ρ = [en "crc" (.val (.int (bitSteps i r))), en "j" .undef]) rfl ?_ ?_)
  · rintro i p ρ₁ g₂ hp rfl
    refine ⟨_, Binds.name (by (repeat first|((with_reducible refine Put.here ?_);first|rfl|assumption)|apply Put.there)), ?_⟩
    refine St.one (St1.ifs hC (EvB.val (he := by rfl) hC (by (repeat' with_reducible first|exact Ev.int|exact Ev.str rfl|exact Ev.bool|exact Ev.none|apply Ev.name (by assumption)|exact List.mem_cons_self|apply List.mem_cons_of_mem|apply Ev.bin (by assumption)|exact op_add|exact op_sub|exact op_mul|exact op_and|exact op_xor|exact op_shr (by decide)|exact op_eqs|exact op_eq|exact op_ge|exact op_ishr (by decide))) rfl) (fun h => ?_) fun h => ?_)
    · have h' : bitSteps i r % 2 = 1 := by
        have h' : (Builtin.bitAnd ((bitSteps i r : Nat) : Int) ((1 : Nat) : Int) != 0) = true := h
        rw [bitAnd_nat, and_one] at h'
        have : ¬ ((bitSteps i r % 2 : Nat) : Int) = 0 := by simpa using h'
        lia
      refine St.one (St1.assign (hs := by rfl) hC (by (repeat' with_reducible first|exact Ev.int|exact Ev.str rfl|exact Ev.bool|exact Ev.none|apply Ev.name (by assumption)|exact List.mem_cons_self|apply List.mem_cons_of_mem|apply Ev.bin (by assumption)|exact op_add|exact op_sub|exact op_mul|exact op_and|exact op_xor|exact op_shr (by decide)|exact op_eqs|exact op_eq|exact op_ge|exact op_ishr (by decide))) (by (repeat first|((with_reducible refine Put.here ?_);first|rfl|assumption)|apply Put.there)) ⟨_, ?_, rfl⟩)
      refine Weak.val ?_ (Weak.drop rfl Weak.nil)
      congr 1
      show Builtin.bitXor (((bitSteps i r : Nat) : Int).fdiv (2 ^ 1)) ((3988292384 : Nat) : Int) = _
      rw [shr_nat, bitXor_nat]
      simp [bitSteps, bitStep, h']
    · have h' : ¬ bitSteps i r % 2 = 1 := by
        have h' : (Builtin.bitAnd ((bitSteps i r : Nat) : Int) ((1 : Nat) : Int) != 0) = false := h
        rw [bitAnd_nat, and_one] at h'
        have : ((bitSteps i r % 2 : Nat) : Int) = 0 := by simpa using h'
        lia
      refine St.one (St1.aug hC (by (repeat first|with_reducible exact List.mem_cons_self|apply List.mem_cons_of_mem)) (by (repeat' with_reducible first|exact Ev.int|exact Ev.str rfl|exact Ev.bool|exact Ev.none|apply Ev.name (by assumption)|exact List.mem_cons_self|apply List.mem_cons_of_mem|apply Ev.bin (by assumption)|exact op_add|exact op_sub|exact op_mul|exact op_and|exact op_xor|exact op_shr (by decide)|exact op_eqs|exact op_eq|exact op_ge|exact op_ishr (by decide))) (op_ishr (by decide)) (by (repeat first|((with_reducible refine Put.here ?_);first|rfl|assumption)|apply Put.there)) ⟨_, ?_, rfl⟩)
      refine Weak.val ?_ (Weak.drop rfl Weak.nil)
      congr 1
      show (((bitSteps i r : Nat) : Int).fdiv (2 ^ 1)) = _
      rw [shr_nat]
      simp [bitSteps, bitStep, h']
  · rintro ρ₁ g₂ rfl
    exact St.one (St1.ret hC (by (repeat' with_reducible first|exact Ev.int|exact Ev.str rfl|exact Ev.bool|exact Ev.none|apply Ev.name (by assumption)|exact List.mem_cons_self|apply List.mem_cons_of_mem|apply Ev.bin (by assumption)|exact op_add|exact op_sub|exact op_mul|exact op_and|exact op_xor|exact op_shr (by decide)|exact op_eqs|exact op_eq|exact op_ge|exact op_ishr (by decide))) (by (with_reducible_and_instances (refine rwG (rangeItems_length ..) ?_)); rfl))

theorem crc_fn {f : Addr} {o : Obj} {fd : FuncData} (hT : ∀ h h' : Heap, T h → (∀ b o, h.get? b = some o → h'.get? b = some o) → T h') (D : DefAt T (stmtAt theProg iCrc) ["crc"] f o fd) (hrange : TG T "range" (.type "range")) (r : Nat) :
    Fn prog w T 1 (.ref f) [.int r] (.int (genCrc r)) :=
  Fn.def ["j"] hT D rfl (by decide) (by decide +kernel) (by decide +kernel) rfl rfl rfl fun C g F => StP.mono (crc_body F.top hrange (by rfl) r) fun fl ρ g h => .inl h
end
end Mine.Internal
end

section
namespace Mine.Internal
open PySem PySem.Calls PyProof.Rows PySem.W

noncomputable abbrev iCalls : Nat := 9
noncomputable def readStmt : Stmt := ((stmtBody (stmtAt theProg iCalls))[1]?).getD (.Pass ⟨0, 0, 0, 0⟩)
noncomputable def stmtArgs : Stmt → Arguments
  | .FunctionDef _ a _ _ _ _ _ _ _ _ => a
  | _ => { posonlyargs := [], args := [], vararg := none, kwonlyargs := [], kw_defaults := [], kwarg := none, defaults := [] }
noncomputable def crcOf (r c : Nat) : Nat := genCrc (r ^^^ c)

section
variable {C : Cx} {g : C.G} {prog : Program} {w : World} {T : Heap → Prop} {d : Nat} {la : LA} {text : List Nat}

theorem op_xorN {a b : Nat} : Op2 C (binaryOp .BitXor) (.int a) (.int b) (.int ((a ^^^ b : Nat) : Int)) := by rw [← bitXor_nat]; exact op_xor

theorem HasLex.state0' (H : HasLex C la) (l : LG) : ∀ h X, C.T h → C.W (H.put g l) h → ∃ vs u, h.IsList la.aS vs ∧ vs[(0 : Int).toNat]? = some u ∧ Rep X h u (.int l.pos) := by
  have := H.state0 (g := H.put g l); rw [H.gp] at this; exact this
theorem HasLex.state1' (H : HasLex C la) (l : LG) : ∀ h X, C.T h → C.W (H.put g l) h → ∃ vs u, h.IsList la.aS vs ∧ vs[(1 : Int).toNat]? = some u ∧ Rep X h u (.int l.reg) := by
  have := H.state1 (g := H.put g l); rw [H.gp] at this; exact this
theorem HasLex.set0' (H : HasLex C la) (l : LG) {n : Nat} : ∀ h X u, C.W (H.put g l) h → Rep X h u (.int n) → ∃ vs, h.IsList la.aS vs ∧ (0 : Int) < vs.size ∧ ∀ h', h'.IsList la.aS (vs.setIfInBounds (0 : Int).toNat u) → Heap.SameBut la.aS h h' → C.W (H.put g { l with pos := n }) h' := by
  have := H.set0 (g := H.put g l) (n := n); rw [H.gp, H.pp] at this; exact this
theorem HasLex.set1' (H : HasLex C la) (l : LG) {n : Nat} : ∀ h X u, C.W (H.put g l) h → Rep X h u (.int n) → ∃ vs, h.IsList la.aS vs ∧ (1 : Int) < vs.size ∧ ∀ h', h'.IsList la.aS (vs.setIfInBounds (1 : Int).toNat u) → Heap.SameBut la.aS h h' → C.W (H.put g { l with reg := n }) h' := by
  have := H.set1 (g := H.put g l) (n := n); rw [H.gp, H.pp] at this; exact this

theorem slice_one (x : List Nat) (p : Nat) : pySlice x (some (p : Int)) (some ((p : Int) + 1)) = (x[p]?).toList := by
  ((with_reducible_and_instances (refine rwG ((show ((p : Int) + 1) = ((p + 1 : Nat) : Int) from rfl) ..) ?_; refine rwG ((pySlice_nat (clip_nat p _ _) (clip_nat (p + 1) _ _)) ..) ?_)))
  by_cases h : p < x.length
  · ((with_reducible_and_instances (refine rwG ((Nat.min_eq_left h) ..) ?_; refine rwG ((Nat.min_eq_left (Nat.le_of_lt h)) ..) ?_; refine rwG ((Nat.succ_sub (Nat.le_refl p)) ..) ?_)); rewrite [Nat.sub_self]; (with_reducible_and_instances (refine rwG ((List.getElem?_eq_getElem h) ..) ?_; refine rwG ((List.drop_eq_getElem_cons h) ..) ?_))); rfl
  · ((with_reducible_and_instances (refine rwG ((Nat.min_eq_right (Nat.le_succ_of_le (Nat.le_of_not_lt h))) ..) ?_; refine rwG ((Nat.min_eq_right (Nat.le_of_not_lt h)) ..) ?_)); rewrite [Nat.sub_self]; (with_reducible_and_instances (refine rwG ((List.getElem?_eq_none (Nat.le_of_not_lt h)) ..) ?_))); rfl

theorem sgn_le (l : LG) : (sgn text l).length ≤ 1 := by unfold sgn; cases text[l.pos]? <;> simp

theorem read_body {sc : Scope} (F : TopAt C prog w T d sc) (H : HasLex C la) (hlen : TG T "len" (.builtin "len")) {fRun : Addr} (D : PureAt prog w T 2 "_law_run" fRun) (hrun : ∀ (r : Nat) (x : List Nat), x.length ≤ 4096 → Fn prog w T 2 (.ref fRun) [.int r, .str x] (.int ((x.foldl crcOf r : Nat) : Int)))
    (hk1 : sc.names.lookup (Str.ofString "len") = some .globalImplicit) (hk3 : sc.names.lookup (Str.ofString "_law_run") = some .globalImplicit) (hd : 2 ≤ d) (hl : text.length ≤ 16000000) (l : LG) :
    St C [en "count" (.val (.int 1)), en "part" .undef, en "state" (.ro (.obj la.aS)), en "text" (.ro (.str text))] (H.put g l) (stmtBody readStmt)
      (fun fl _ g' => fl = .ret (.str (sgn text l)) ∧ g' = H.put g { nxt text crcOf l with line := l.line }) := by
  have hC := F.ok
  have hst : ∀ {ρ : Env'} {g : C.G}, (Str.ofString "state", LV.ro (.obj la.aS)) ∈ ρ → ∀ {pos}, Ev C ρ g (.Name (Str.ofString "state") pos) (.obj la.aS) g := fun h => Ev.nameRo hC h
  refine St.cons (St1.assign (hs := by rfl) hC (Ev.sliceStr (l := some (l.pos : Int)) (u := some ((l.pos : Int) + 1)) hC (Ev.nameRo hC (by (repeat first|with_reducible exact List.mem_cons_self|apply List.mem_cons_of_mem))) (EvO.some (Ev.subW (hs := by intro _ _; rfl) hC (hst (by (repeat first|with_reducible exact List.mem_cons_self|apply List.mem_cons_of_mem))) Ev.int (by decide) (by decide) (H.state0' l))) (EvO.some (Ev.bin hC (Ev.subW (hs := by intro _ _; rfl) hC (hst (by (repeat first|with_reducible exact List.mem_cons_self|apply List.mem_cons_of_mem))) Ev.int (by decide) (by decide) (H.state0' l)) (by (repeat' with_reducible first|exact Ev.int|exact Ev.str rfl|exact Ev.bool|exact Ev.none|apply Ev.name (by assumption)|exact List.mem_cons_self|apply List.mem_cons_of_mem|apply Ev.bin (by assumption)|exact op_add|exact op_sub|exact op_mul|exact op_and|exact op_xor|exact op_shr (by decide)|exact op_eqs|exact op_eq|exact op_ge|exact op_ishr (by decide))) op_add)) (by lia)) (by (repeat first|((with_reducible refine Put.here ?_);first|rfl|assumption)|apply Put.there)) ?_)
  have esl : pySlice text (some (l.pos : Int)) (some ((l.pos : Int) + 1)) = sgn text l := slice_one text l.pos
  (with_reducible_and_instances (refine rwG (esl ..) ?_))
  have hpart : ∀ {ρ : Env'} {g : C.G}, (Str.ofString "part", LV.val (.str (sgn text l))) ∈ ρ → ∀ {pos}, Ev C ρ g (.Name (Str.ofString "part") pos) (.str (sgn text l)) g := fun h => Ev.name hC h
  have hs1 := sgn_le (text := text) l
  refine St.cons (St1.augW (hi := by intros; rfl) (g₃ := H.put g l) hC (hst (by (repeat first|with_reducible exact List.mem_cons_self|apply List.mem_cons_of_mem))) Ev.int (by decide) (by decide) (H.state0' l) (Ev.callB (hn := by rfl) hC (F.glob hlen hk1) (EvL.cons (hs := by intro _; rfl) hC (hpart (by (repeat first|with_reducible exact List.mem_cons_self|apply List.mem_cons_of_mem))) EvL.nil) (call_lenS (by lia))) op_iadd H.mS (H.set0' l (n := l.pos + (sgn text l).length)) ?_)
  refine St.cons (St1.setW (hs := by rfl) hC (F.call (hn := by rfl) D hk3 (EvL.cons (hs := by intro _; rfl) hC (Ev.subW (hs := by intro _ _; rfl) hC (hst (by (repeat first|with_reducible exact List.mem_cons_self|apply List.mem_cons_of_mem))) Ev.int (by decide) (by decide) (H.state1' _)) (EvL.cons (hs := by intro _; rfl) hC (hpart (by (repeat first|with_reducible exact List.mem_cons_self|apply List.mem_cons_of_mem))) EvL.nil)) (hrun _ _ (by lia)) hd) (hst (by (repeat first|with_reducible exact List.mem_cons_self|apply List.mem_cons_of_mem))) Ev.int (by decide) (by decide) H.mS (H.set1' _) ?_)
  refine St.one (St1.ret hC (by (repeat' with_reducible first|exact Ev.int|exact Ev.str rfl|exact Ev.bool|exact Ev.none|apply Ev.name (by assumption)|exact List.mem_cons_self|apply List.mem_cons_of_mem|apply Ev.bin (by assumption)|exact op_add|exact op_sub|exact op_mul|exact op_and|exact op_xor|exact op_shr (by decide)|exact op_eqs|exact op_eq|exact op_ge|exact op_ishr (by decide))) ⟨rfl, ?_⟩)
  congr 1
  unfold sgn nxt
  cases text[l.pos]? <;> rfl
end

theorem read_fn {prog : Program} {w : World} {T : Heap → Prop} {d : Nat} {V : Wd} {la : LA} {text : List Nat} {o : Obj} {qual : Str} {cT cS cR : Addr} {pm ctv : Value} (hV : V.Ok)
    (hT : ∀ h h' : Heap, T h → (∀ b o, ¬ (LexV V la).M b → h.get? b = some o → h'.get? b = some o) → T h') (ho : ∀ h, T h → h.get? la.aRd = some o ∧ h.NoLimit) (hd : o.data = .func (fnD "read" qual (stmtArgs readStmt) (.stmts (stmtBody readStmt)) (stmtScope readStmt) [("text", cT), ("state", cS)] pm cR ctv))
    (hR : ∀ g h, V.W g h → CodeR h cR qual) (hcT : ∀ h, T h → ∃ t, h.IsCell cT (some (.str ⟨text.toArray⟩ t))) (hcS : ∀ h, T h → h.IsCell cS (some (.ref la.aS))) (hne : cT ≠ cS) (hcM : ¬ (LexV V la).M cT ∧ ¬ (LexV V la).M cS)
    (hdis : ∀ a, V.M a → a ≠ la.aS ∧ a ≠ la.aL ∧ a ≠ la.aLd ∧ a ≠ la.aP) (hcls : ∀ h, T h → ClsOk la h) (ap : [la.aL, la.aLd, la.aP, la.aS, la.aFn, la.aFd].Nodup)
    (hlen : TG T "len" (.builtin "len")) {fRun : Addr} (D : PureAt prog w T 2 "_law_run" fRun) (hrun : ∀ (r : Nat) (x : List Nat), x.length ≤ 4096 → Fn prog w T 2 (.ref fRun) [.int r, .str x] (.int ((x.foldl crcOf r : Nat) : Int))) (hl : text.length ≤ 16000000) (g : V.G) (l : LG) :
    FnW prog w T (LexV V la) 3 (.ref la.aRd) (g, l) [.int 1] (.str (sgn text l)) (g, { nxt text crcOf l with line := l.line }) := by
  refine FnW.introC (pn := ["count"]) (rest := ["part"]) (frees := [("state", .obj la.aS), ("text", .str text)]) (LexV.ok hV) hT (fun g h t hw => ⟨(ho h t).1, (hR _ _ hw.1).rec, (ho h t).2⟩) hd rfl ?_ rfl ?_ ?_ ?_ ?_ ?_ ?_ ?_ rfl rfl rfl ?_ fun A X s hC => ?_
  · intro vals h
    obtain ⟨v, rfl⟩ := List.length_eq_one_iff.mp h
    rfl
  · show (["count", "part", "state", "text"] : List Str).Nodup
    decide
  · show ((["count", "part"] : List Str).all fun x => (stmtScope readStmt).names.lookup x == some .local) = true
    decide +kernel
  · show ∀ x ∈ (stmtScope readStmt).names, x.2 ≠ .cell
    decide +kernel
  · intro y p hy
    simp only [List.mem_cons, List.not_mem_nil, or_false, Prod.mk.injEq] at hy
    rcases hy with ⟨rfl, rfl⟩ | ⟨rfl, rfl⟩
    · exact ⟨by rfl, cS, by rfl, fun h t => ⟨_, hcS h t, fun _ _ => .obj _⟩⟩
    · refine ⟨by rfl, cT, by rfl, fun h t => ?_⟩
      obtain ⟨u, q⟩ := hcT h t
      exact ⟨_, q, fun _ _ => .str _ _⟩
  · intro y c hy
    have : (y, c) ∈ [((Str.ofString "text" : Str), cT), (Str.ofString "state", cS)] := lookup_mem hy
    simp only [List.mem_cons, List.not_mem_nil, or_false, Prod.mk.injEq] at this
    rcases this with ⟨rfl, rfl⟩ | ⟨rfl, rfl⟩
    · exact ⟨hcM.1, fun h t => let ⟨u, q⟩ := hcT h t; ⟨_, q⟩⟩
    · exact ⟨hcM.2, fun h t => ⟨_, hcS h t⟩⟩
  · intro x y c hx hy
    have h1 : (x, c) ∈ [((Str.ofString "text" : Str), cT), (Str.ofString "state", cS)] := lookup_mem hx
    have h2 : (y, c) ∈ [((Str.ofString "text" : Str), cT), (Str.ofString "state", cS)] := lookup_mem hy
    simp only [List.mem_cons, List.not_mem_nil, or_false, Prod.mk.injEq] at h1 h2
    rcases h1 with ⟨rfl, rfl⟩ | ⟨rfl, rfl⟩ <;> rcases h2 with ⟨rfl, h2⟩ | ⟨rfl, h2⟩
    · rfl
    · exact absurd h2 hne
    · exact absurd h2.symm hne
    · rfl
  · show ((["count", "part", "state", "text"] : List Str).all fun x => !(x == ("__debug__" : Str)) && !(x == ("__classdict__" : Str))) = true
    decide +kernel
  · intro y e
    have key : ∀ x ∈ (stmtScope readStmt).names, x.2 ≠ .cell := by decide +kernel
    exact key _ (lookup_mem e) rfl
  · have F : TopAt (frameW prog w T (LexV V la) 2 _ (["count", "part", "state", "text"] : List Str) la.aRd _ A X s) prog w T 2 (stmtScope readStmt) := ⟨hC, rfl, rfl, fun h t => t, Nat.le_refl _, rfl, rfl, rfl⟩
    have h0 := read_body (g := ((g, l) : V.G × LG)) F (hasLexF hV hdis hcls ap) hlen D hrun (by rfl) (by rfl) (Nat.le_refl _) hl l
    exact StP.mono h0 fun fl ρ g' h => ⟨.inl h.1, h.2⟩
end Mine.Internal
end

section
namespace Mine.Internal
open PySem PySem.Calls PyProof.Rows PySem.W

structure LexTop (prog : Program) (w : World) (T : Heap → Prop) (ca : CA) (K : Frag) (fCrc : Addr) : Prop where
  hK : ∀ h, T h → K.In h
  made : makesIn K ca.aC = true
  fi : findIn K (.ref ca.aC) "__init__" = some (some (.ref ca.fI))
  ty : typeIn K (.ref ca.fI) = some (.type "function")
  keep : keepIn K (.ref ca.aC) = true
  cls : ∀ h, T h → ClsB ca h
  dI : ∃ o fd, DefAt T (methAt theProg iCls 0) ["self", "fp"] ca.fI o fd
  dR : ∃ o fd, DefAt T (methAt theProg iCls 1) ["self"] ca.fR o fd
  dG : ∃ o fd, DefAt T (methAt theProg iCls 2) ["self"] ca.fG o fd
  dP : ∃ o fd, DefAt T (methAt theProg iCls 3) ["self", "token"] ca.fP o fd
  cg : TG T "_netrclex" (.ref ca.aC)
  iter : TG T "iter" (.builtin "iter")
  len : TG T "len" (.builtin "len")
  range : TG T "range" (.type "range")
  run : PureAt prog w T 2 "_law_run" fCrc
  runFn : ∀ (r : Nat) (x : List Nat), x.length ≤ 4096 → Fn prog w T 2 (.ref fCrc) [.int r, .str x] (.int ((x.foldl crcOf r : Nat) : Int))
  lim : ∀ h, T h → h.NoLimit

noncomputable def readPos : Pos := ⟨81, 4, 85, 19⟩
noncomputable def lamPos : Pos := ⟨86, 13, 86, 25⟩
noncomputable def known (q1 q2 : Str) : List (Pos × Str) := [(readPos, q1), (lamPos, q2)]
noncomputable def callsRest : List Stmt := (stmtBody (stmtAt theProg iCalls)).drop 5

noncomputable def Cx.wdCode (C : Cx) (c : Addr) (q : Str) : Wd := ⟨C.M, C.G, fun g h => C.W g h ∧ CodeR h c q⟩
theorem Cx.wdCode_ok {C : Cx} (hC : C.Ok) {c : Addr} {q : Str} : (C.wdCode c q).Ok where
  wm := fun g h a hw hm => hC.wm _ _ _ hw.1 hm
  stab := fun g h h' hw k => ⟨hC.stab _ _ _ hw.1 k, hw.2.stab fun a o q e => k a o (.inr q) e⟩

noncomputable abbrev callsEnv0 (text : List Nat) (W : PV) : Env' := [en "text" (.val (.str text)), en "words" (.val W), en "read" .undef, en "stream" .undef, en "lexer" .undef, en "calls" .undef, en "turn" .undef, en "told" .undef, en "word" .undef, en "state" .undef]
noncomputable abbrev callsEnv (text : List Nat) (W : PV) (la : LA) (calls turn told word : LV) : Env' :=
  [en "text" (.ro (.str text)), en "words" (.val W), en "read" (.val (.obj la.aRd)), en "stream" (.val (.obj la.aFn)), en "lexer" (.val (.obj la.aL)), en "calls" calls, en "turn" turn, en "told" told, en "word" word, en "state" (.ro (.obj la.aS))]

theorem closeL_read {cells : List (Str × Addr)} {cT cS : Addr} (hT : cells.lookup (Str.ofString "text") = some cT) (hS : cells.lookup (Str.ofString "state") = some cS) : closeL cells (stmtScope readStmt).names [] = [(Str.ofString "text", cT), (Str.ofString "state", cS)] := by
  have hn : (stmtScope readStmt).names = [(Str.ofString "count", .local), (Str.ofString "part", .local), (Str.ofString "state", .free), (Str.ofString "text", .free), (Str.ofString "len", .globalImplicit), (Str.ofString "_law_run", .globalImplicit)] := rfl
  (with_reducible_and_instances (refine rwG (hn ..) ?_))
  simp [closeL, hT, hS]

theorem clsB_ok {ca : CA} {la : LA} {h : Heap} (x : ClsB ca h) (h1 : la.aC = ca.aC) (h2 : la.aN = ca.aN) (h3 : la.fR = ca.fR) (h4 : la.fG = ca.fG) (h5 : la.fP = ca.fP) (hne : la.aL ≠ la.aC) : ClsOk la h := by
  obtain ⟨nm, q, bs, sn, sub, ab, col, dd, k0, k1, k2, k3, k5, newId, mN, oR, oG, oP, a1, a2, z1, z2, z3, z4, z5, z6, z7, y1, y2, y3, y4, y5, y6, y7, y8, y9⟩ := x
  exact ⟨nm, q, bs, sn, sub, ab, col, dd, k0, k1, k2, k3, k5, newId, mN, oR, oG, oP, by ((with_reducible_and_instances (refine rwG (h1 ..) ?_; refine rwG (h2 ..) ?_))); exact a1, by (with_reducible_and_instances (refine rwG (h2 ..) ?_)); exact a2, z1, z2, z3, z4, z5, z6, z7, by (with_reducible_and_instances (refine rwG (h3 ..) ?_)); exact y1, by (with_reducible_and_instances (refine rwG (h4 ..) ?_)); exact y2, by (with_reducible_and_instances (refine rwG (h5 ..) ?_)); exact y3, by (with_reducible_and_instances (refine rwG (h3 ..) ?_)); exact y4, y5, by (with_reducible_and_instances (refine rwG (h4 ..) ?_)); exact y6, y7, by (with_reducible_and_instances (refine rwG (h5 ..) ?_)); exact y8, y9, hne⟩

theorem tab_ne_list {h : Heap} {P a : Addr} {kn : List (Pos × Str)} {vs : Array Value} (w : TabW P kn h) (l : h.IsList a vs) : a ≠ P := by
  rintro rfl
  obtain ⟨ps, e, _⟩ := w
  obtain ⟨o, e', c, _⟩ := l
  cases e.symm.trans e'; cases c
theorem tab_ne_code {h : Heap} {P c : Addr} {kn : List (Pos × Str)} {q : Str} (w : TabW P kn h) (l : CodeR h c q) : c ≠ P := by
  rintro rfl
  obtain ⟨ps, e, _⟩ := w
  obtain ⟨o, vs, t, e', c, _⟩ := l
  cases e.symm.trans e'; cases c
theorem CodeR.at {h h' : Heap} {c : Addr} {q : Str} (x : CodeR h c q) (k : ∀ o, h.get? c = some o → h'.get? c = some o) : CodeR h' c q := let ⟨o, vs, t, a, r⟩ := x; ⟨o, vs, t, k _ a, r⟩

theorem Maker.state {C : Cx} {c PT aS : Addr} {kn : List (Pos × Str)} (K : Maker C c PT kn) {s₁ : Shared} (sub : ∀ h, (cx1 C s₁ aS).T h → C.T h) :
    Maker (cx1 C s₁ aS) c PT kn where
  glob := K.glob
  code := K.code
  top := fun h t => K.top h (sub h t)
  m := .inl K.m
  w := fun g h hw => K.w _ _ hw.1
  u := fun g h h' hw ht k => ⟨K.u _ _ _ hw.1 ht k, by
    obtain ⟨t, u, l⟩ := hw.2
    have ne := tab_ne_list (K.w _ _ hw.1) l
    obtain ⟨o, e, r⟩ := l
    exact ⟨t, u, o, k _ _ ne e, r⟩⟩
theorem Maker.read {C : Cx} {c PT f c' : Addr} {q : Str} {kn : List (Pos × Str)} (K : Maker C c PT kn) {s₁ : Shared} (sub : ∀ h, (cx2 C s₁ f c' q).T h → C.T h) :
    Maker (cx2 C s₁ f c' q) c PT kn where
  glob := K.glob
  code := K.code
  top := fun h t => K.top h (sub h t)
  m := .inl K.m
  w := fun g h hw => K.w _ _ hw.1
  u := fun g h h' hw ht k => ⟨K.u _ _ _ hw.1 ht k, hw.2.at fun o e => k _ _ (tab_ne_code (K.w _ _ hw.1) hw.2) e⟩

noncomputable abbrev V3 (C : Cx) (aS cR : Addr) (q1 : Str) : Wd := ⟨fun a => C.M a ∨ a = aS, C.G × Nat × Nat, fun g h => (C.W g.1 h ∧ CodeR h cR q1) ∧ ∃ t u, h.IsList aS #[.int g.2.1 t, .int g.2.2 u]⟩
noncomputable abbrev cx5 (C : Cx) (s₁ : Shared) (V : Wd) (la : LA) : Cx := C.turnC s₁ (fun a => a = la.aL ∨ a = la.aLd ∨ a = la.aP) (fun a => a = la.aL ∨ a = la.aLd ∨ a = la.aP) (V.G × LG) (LexV V la).W
noncomputable abbrev Zst : Str → Prop := fun x => x = Str.ofString "text" ∨ x = Str.ofString "state"
noncomputable abbrev cx6 (C : Cx) (s : Shared) : Cx := C.fix s Zst (Canon (fun a => C.F a ∧ ¬ ∃ x, Zst x ∧ C.env.cells.lookup x = some a) C.M s.heap)
theorem cx6_top {C : Cx} {ρ : Env'} {O : List (Str × Addr)} {g : C.G} {s : Shared} (hC : C.Ok) (I : Inv C ρ O g s) : ∀ h, (cx6 C s).T h → C.T h :=
  fun h k => hC.top h fun a o q1 q2 q3 => k a o (fun z => q1 z.1) q2 (I.old a o q1 q2 q3)

theorem prelude_end {C5 : Cx} {V : Wd} {prog : Program} {w : World} {T : Heap → Prop} {d : Nat} {ca : CA} {K : Frag} {fCrc cT cS cR : Addr} {q1 : Str} {pm ctv : Value} {text : List Nat} {W : PV} {la : LA} {l0 : V.G × LG} {P : Fl → Env' → (V.G × LG) → Prop} {rest : List Stmt} (hV : V.Ok) (hC5 : (C5.withW (LexV V la)).Ok) (LT : LexTop prog w T ca K fCrc)
    (F5 : TopAt (C5.withW (LexV V la)) prog w T d (stmtScope (stmtAt theProg iCalls))) (e1 : la.aC = ca.aC) (e2 : la.aN = ca.aN) (e3 : la.fR = ca.fR) (e4 : la.fG = ca.fG) (e5 : la.fP = ca.fP) (neC : la.aL ≠ la.aC)
    (ap : [la.aL, la.aLd, la.aP, la.aS, la.aFn, la.aFd].Nodup) (dis : ∀ a, V.M a → a ≠ la.aS ∧ a ≠ la.aL ∧ a ≠ la.aLd ∧ a ≠ la.aP) (fnM : ¬ (LexV V la).M la.fR)
    (hkT : C5.env.kindOf (Str.ofString "text") = some .cell) (hkS : C5.env.kindOf (Str.ofString "state") = some .cell) (hcT : C5.env.cells.lookup (Str.ofString "text") = some cT) (hcS : C5.env.cells.lookup (Str.ofString "state") = some cS)
    (hR : ∀ g h, V.W g h → CodeR h cR q1) (hrd : ∀ h, (C5.withW (LexV V la)).T h → h.get? la.aRd = some { cls := .type "function", data := .func (fnD "read" q1 (stmtArgs readStmt) (.stmts (stmtBody readStmt)) (stmtScope readStmt) [("text", cT), ("state", cS)] pm cR ctv) }) (hl : text.length ≤ 16000000)
    (hrest : ∀ C' : Cx, TopAt (C'.withW (LexV V la)) prog w T d (stmtScope (stmtAt theProg iCalls)) → LexEnv prog w C'.T V la text crcOf 3 → St (C'.withW (LexV V la)) (callsEnv text W la .undef .undef .undef .undef) l0 rest P) :
    St (C5.withW (LexV V la)) [en "text" (.val (.str text)), en "words" (.val W), en "read" (.val (.obj la.aRd)), en "stream" (.val (.obj la.aFn)), en "lexer" (.val (.obj la.aL)), en "calls" .undef, en "turn" .undef, en "told" .undef, en "word" .undef, en "state" (.val (.obj la.aS))] l0 rest P := by
  refine St.fix hC5 (fun x => x = Str.ofString "text" ∨ x = Str.ofString "state") (ρ' := callsEnv text W la .undef .undef .undef .undef) ?_ fun O₅ s₅' I₅ => ⟨_, fun h k => k, fun hC6 => ?_⟩
  · repeat (first | exact Fix.nil | refine Fix.keep (by decide) ?_ | refine Fix.fix ?_)
  have sub6 := cx6_top hC5 I₅
  have sub : ∀ h, (cx6 (C5.withW (LexV V la)) s₅').T h → T h := fun h t => F5.sub h (sub6 h t)
  have F6 : TopAt ((cx6 (C5.withW (LexV V la)) s₅').withW (LexV V la)) prog w T d (stmtScope (stmtAt theProg iCalls)) := ⟨hC6, F5.prog, F5.w, sub, F5.d, F5.scope, F5.globals, F5.builtins⟩
  obtain ⟨m5, hn5, hl5⟩ := I₅.loc
  have cellT : ∃ t, s₅'.heap.IsCell cT (some (.str ⟨text.toArray⟩ t)) := by
    obtain ⟨_, u, sl, r⟩ := hl5 (Str.ofString "text") (.val (.str text)) (by (repeat first|with_reducible exact List.mem_cons_self|apply List.mem_cons_of_mem))
    obtain ⟨tk, rfl⟩ := r.inv
    rcases sl with ⟨q, _⟩ | ⟨_, c', q2, q3⟩
    · have q' : C5.env.kindOf (Str.ofString "text") = some .local := q
      cases hkT.symm.trans q'
    · have q2' : C5.env.cells.lookup (Str.ofString "text") = some c' := q2
      cases hcT.symm.trans q2'; exact ⟨_, q3⟩
  have cellS : s₅'.heap.IsCell cS (some (.ref la.aS)) := by
    obtain ⟨_, u, sl, r⟩ := hl5 (Str.ofString "state") (.val (.obj la.aS)) (by (repeat first|with_reducible exact List.mem_cons_self|apply List.mem_cons_of_mem))
    obtain rfl := r.of_obj
    rcases sl with ⟨q, _⟩ | ⟨_, c', q2, q3⟩
    · have q' : C5.env.kindOf (Str.ofString "state") = some .local := q
      cases hkS.symm.trans q'
    · have q2' : C5.env.cells.lookup (Str.ofString "state") = some c' := q2
      cases hcS.symm.trans q2'; exact q3
  have cM : ∀ x c, C5.env.cells.lookup x = some c → ¬ (LexV V la).M c := fun x c hx => hC5.cellM x c hx
  have cls6 : ∀ h, (cx6 (C5.withW (LexV V la)) s₅').T h → ClsOk la h := fun h t => clsB_ok (LT.cls h (sub h t)) e1 e2 e3 e4 e5 neC
  have tm6 : ∀ h h' : Heap, (cx6 (C5.withW (LexV V la)) s₅').T h → (∀ b o, ¬ (LexV V la).M b → h.get? b = some o → h'.get? b = some o) → (cx6 (C5.withW (LexV V la)) s₅').T h' := fun h h' t k a o z1 z2 z3 => k a o z2 (t a o z1 z2 z3)
  have cellT6 : ∀ h, (cx6 (C5.withW (LexV V la)) s₅').T h → ∃ t, h.IsCell cT (some (.str ⟨text.toArray⟩ t)) := fun h t =>
    let ⟨tt, o, e, r⟩ := cellT; ⟨tt, o, t cT o (fun z => z.2 ⟨_, .inl rfl, hcT⟩) (cM _ _ hcT) e, r⟩
  have cellS6 : ∀ h, (cx6 (C5.withW (LexV V la)) s₅').T h → h.IsCell cS (some (.ref la.aS)) := fun h t =>
    let ⟨o, e, r⟩ := cellS; ⟨o, t cS o (fun z => z.2 ⟨_, .inr rfl, hcS⟩) (cM _ _ hcS) e, r⟩
  have hneC : cT ≠ cS := fun z => absurd (hC5.inj _ _ _ hcT (z ▸ hcS)) (by decide)
  refine hrest _ F6 {
    vok := hV
    tm := tm6
    dR := let ⟨o, fd, D⟩ := LT.dR; ⟨o, fd, e3 ▸ D.mono sub⟩
    dG := let ⟨o, fd, D⟩ := LT.dG; ⟨o, fd, e4 ▸ D.mono sub⟩
    dP := let ⟨o, fd, D⟩ := LT.dP; ⟨o, fd, e5 ▸ D.mono sub⟩
    cls := cls6
    dis := dis
    ap := ap
    fnM := fnM
    rd := ⟨_, _, rfl, fun h t => hrd h (sub6 h t)⟩
    read := fun g l => ?_
    iter := LT.iter.mono sub }
  exact read_fn (d := 0) hV tm6 (fun h t => ⟨hrd h (sub6 h t), LT.lim h (sub h t)⟩) rfl hR cellT6 cellS6 hneC ⟨cM _ _ hcT, cM _ _ hcS⟩ dis cls6 ap (LT.len.mono sub) ⟨LT.run.glob.mono sub, let ⟨o, fd, e1, e2⟩ := LT.run.obj; ⟨o, fd, e1, fun h t => e2 h (sub h t)⟩⟩ (fun r x hx => (LT.runFn r x hx).weaken sub) hl g l

set_option maxHeartbeats 4000000 in
theorem prelude {C : Cx} {g : C.G} {prog : Program} {w : World} {T : Heap → Prop} {d : Nat} {sc : Scope} {ca : CA} {K : Frag} {fCrc c PT : Addr} {q1 q2 : Str} {text : List Nat} {W : PV} {P : Fl → Env' → C.G → Prop} {st : Stmt} {rest : List Stmt} (hst : st = stmtAt theProg iCalls) (hrr : rest = callsRest) (F : TopAt C prog w T d sc) (LT : LexTop prog w T ca K fCrc)
    (MK : Maker C c PT (known q1 q2)) (hMP : ∀ a, C.M a → a = PT) (hsc : sc = stmtScope st) (hq1 : qualnameIn C.env "read" "read" = q1) (hq2 : C.env.qual ++ "<lambda>" = q2) (hd : 2 ≤ d) (hl : text.length ≤ 16000000)
    (hrest : ∀ (C' : Cx) (cR : Addr) (la : LA), TopAt (C'.withW (LexV (C.wdCode cR q1) la)) prog w T d sc → LexEnv prog w C'.T (C.wdCode cR q1) la text crcOf 3 →
      St (C'.withW (LexV (C.wdCode cR q1) la)) (callsEnv text W la .undef .undef .undef .undef) (g, ⟨0, 4294967295, 1, []⟩) rest (fun fl ρ g' => P fl ρ g'.1)) :
    St C (callsEnv0 text W) g (stmtBody st) P := by
  have hC := F.ok
  subst hsc
  subst hst
  subst hrr
  refine St.state hC (i := 0) (j := 4294967295) (EvL.cons (hs := by intro _; rfl) hC Ev.int (EvL.cons (hs := by intro _; rfl) hC (Ev.bin hC (Ev.bin hC Ev.int Ev.int (op_pow (by decide) (by decide))) Ev.int op_sub) EvL.nil)) fun O₀ s₀ s₁ aS I₀ fS n₁ => ⟨_, by (repeat first|((with_reducible refine Put.here ?_);first|rfl|assumption)|apply Put.there), fun hC1 => ?_⟩
  have kk : ∀ x v, (x, v) ∈ callsEnv0 text W → C.env.kindOf x = some .cell → ∃ c, C.env.cells.lookup x = some c := fun x v hx hk => by
    rcases hC.kinds x (mem_names I₀.names hx) with q | q
    · cases hk.symm.trans q
    · exact Option.isSome_iff_exists.mp q.2
  have hkT : C.env.kindOf (Str.ofString "text") = some .cell := by show C.env.scope.names.lookup _ = _; (with_reducible_and_instances (refine rwG (F.scope ..) ?_)); rfl
  have hkS : C.env.kindOf (Str.ofString "state") = some .cell := by show C.env.scope.names.lookup _ = _; (with_reducible_and_instances (refine rwG (F.scope ..) ?_)); rfl
  obtain ⟨cT, hcT⟩ := kk (Str.ofString "text") _ (by (repeat first|with_reducible exact List.mem_cons_self|apply List.mem_cons_of_mem)) hkT
  obtain ⟨cS, hcS⟩ := kk (Str.ofString "state") _ (by (repeat first|with_reducible exact List.mem_cons_self|apply List.mem_cons_of_mem)) hkS
  have sub1 := NewC.top hC I₀ n₁
  have M1 := MK.state sub1
  have hcl : closureFor (stmtScope readStmt) C.env = pure [(Str.ofString "text", cT), (Str.ofString "state", cS)] := by
    (rewrite [closureFor_is]; (with_reducible_and_instances (refine rwG ((closeL_read hcT hcS) ..) ?_)); (with_reducible rfl))
    intro n hn
    have hn' : n = Str.ofString "state" ∨ n = Str.ofString "text" := by
      have key : ∀ x ∈ (stmtScope readStmt).names, x.2 = .free → x.1 = Str.ofString "state" ∨ x.1 = Str.ofString "text" := by decide +kernel
      exact key _ hn rfl
    rcases hn' with rfl | rfl
    · (with_reducible_and_instances (refine rwG (hcS ..) ?_)); rfl
    · (with_reducible_and_instances (refine rwG (hcT ..) ?_)); rfl
  refine St.nested hC1 M1 (clos := [(Str.ofString "text", cT), (Str.ofString "state", cS)]) (qual := q1) hcl (fun x hx h1 h2 => ?_) ⟨readPos, List.mem_cons_self, rfl, rfl⟩ rfl hq1 rfl rfl rfl fun O₁ s₁' s₂ aRd cR ctv pm I₁ fRd oRd n₂ => ⟨_, by (repeat first|((with_reducible refine Put.here ?_);first|rfl|assumption)|apply Put.there), fun hC2 => ?_⟩
  · simp only [known, List.mem_cons, List.not_mem_nil, or_false] at hx
    rcases hx with rfl | rfl
    · rfl
    · exact absurd h1 (show ¬ lamPos.line = readPos.line by decide)
  have sub2 := NewC.top hC1 I₁ n₂
  have M2 := M1.read (q := q1) sub2
  refine St.lambda (hs := by rfl) hC2 M2 (clos := []) (qual := q2) rfl (fun x hx h1 h2 => ?_) ⟨lamPos, List.mem_cons_of_mem _ List.mem_cons_self, rfl, rfl⟩ hq2 rfl fun O₂ s₂' s₃ aFn I₂ fFn n₃ => ⟨_, by (repeat first|((with_reducible refine Put.here ?_);first|rfl|assumption)|apply Put.there), fun hC3 => ?_⟩
  · simp only [known, List.mem_cons, List.not_mem_nil, or_false] at hx
    rcases hx with rfl | rfl
    · exact absurd h1 (show ¬ readPos.line = lamPos.line by decide)
    · rfl
  have sub3 := NewC.top hC2 I₂ n₃
  have mS2 : (C.M aS ∨ aS = aS) ∨ False := .inl (.inr rfl)
  refine St.setRead hC3 (aFn := aFn) (aRd := aRd) (by (repeat first|with_reducible exact List.mem_cons_self|apply List.mem_cons_of_mem)) (by (repeat first|with_reducible exact List.mem_cons_self|apply List.mem_cons_of_mem)) (.inr rfl) (fun h hw => let ⟨o, e1, e2, e3, e4⟩ := hw.2; ⟨o, e1, e2, e3, e4 rfl⟩)
    (V := ⟨fun a => C.M a ∨ a = aS, C.G × Nat × Nat, fun g h => (C.W g.1 h ∧ CodeR h cR q1) ∧ ∃ t u, h.IsList aS #[.int g.2.1 t, .int g.2.2 u]⟩) (g' := (g, 0, 4294967295)) (π := fun g => (g, true))
    (fun a m => ⟨.inl (.inl m), ?_⟩) (fun h hw => ⟨⟨hw.1.1.1, hw.1.2⟩, hw.1.1.2⟩) (fun g h h' hw k => ⟨⟨hC.stab _ _ _ hw.1.1 fun a o hm e => k a o (hm.imp .inl id) e, hw.1.2.stab fun a o q e => k a o (.inr q) e⟩, ?_⟩) (fun g h a hw m ne => ?_) (fun g h aFd hw hd => ⟨⟨⟨hw.1.1, hw.2⟩, hw.1.2⟩, ?_⟩) fun O₃ s₃' s₄ aFd I₃ fFd n₄ hC4 => ?_
  · exact (hC2.wm _ _ a I₂.world (.inl m)).elim fun _ e => ne_get e fFn
  · obtain ⟨t, u, o, e, r⟩ := hw.2
    exact ⟨t, u, o, k _ _ (.inl (.inr rfl)) e, r⟩
  · rcases m with ((m | m) | m) | m
    · exact hC.wm _ _ _ hw.1.1 m
    · obtain ⟨t, u, o, e, r⟩ := hw.2
      have m' : a = aS := m
      subst m'
      exact ⟨o, e⟩
    · exact m.elim
    · exact absurd m ne
  · obtain ⟨o, e1, e2, e3, _⟩ := hd
    exact ⟨o, e1, e2, e3, fun z => by cases z⟩
  have sub4 := NewC.top hC3 I₃ n₄
  have sub04 : ∀ h, _ → T h := fun h t => F.sub h (sub1 h (sub2 h (sub3 h (sub4 h t))))
  obtain ⟨oI, fdI, DI⟩ := LT.dI
  refine St.new (hs := by rfl) hC4 fun O₄ s₄' I₄ => new_lexer (hn := by rfl) (he := by rfl) (hplain := by rfl) hC4 I₄ (fun h t => LT.hK h (sub04 h t)) LT.made LT.fi LT.ty LT.keep (fun h t => LT.cls h (sub04 h t)) (DI.mono sub04) rfl (GlobIs.of' LT.cg sub04 F.globals F.builtins (by show C.env.scope.names.lookup _ = _; (with_reducible_and_instances (refine rwG (F.scope ..) ?_)); rfl)) (by (repeat first|with_reducible exact List.mem_cons_self|apply List.mem_cons_of_mem)) (Nat.le_trans hd F.d)
    fun aL aLd aP s₅ mA fL fLd fP hLD hPL hPD r5 k5 w5 made => ?_
  have hM4 : ∀ a, ((((C.M a ∨ a = aS) ∨ False) ∨ a = aFn) ∨ a = aFd) → a ≠ aL ∧ a ≠ aLd ∧ a ≠ aP := fun a m => by
    obtain ⟨o, e⟩ := hC4.wm _ _ a I₄.world m
    refine ⟨?_, ?_, ?_⟩
    · exact ne_get e fL
    · exact ne_get e fLd
    · exact ne_get e fP
  let la : LA := ⟨aL, aLd, aP, aS, aFn, aFd, aRd, ca.aC, ca.aN, ca.fR, ca.fG, ca.fP⟩
  have lex : LexW la ⟨0, 4294967295, 1, []⟩ s₅.heap := ⟨let ⟨t, e⟩ := made.lineno; let ⟨t2, e2⟩ := made.white; ⟨mA, t, t2, made.inst, e, made.instream, e2, made.pushback, made.r, made.g, made.p⟩, ⟨[], made.list, fun _ _ => .nil⟩, w5.1.2, w5.2⟩
  have n₅ : NewC _ s₄' s₅ (fun a => a = aL ∨ a = aLd ∨ a = aP) (fun a => a = aL ∨ a = aLd ∨ a = aP) (C.G × LG) (LexV (C.wdCode cR q1) la).W (g, ⟨0, 4294967295, 1, []⟩) := {
    rest := r5
    keep := k5
    kn := fun _ h => h
    fresh := fun a q => by rcases q with rfl | rfl | rfl <;> assumption
    there := fun a q => by
      rcases q with rfl | rfl | rfl
      · exact made.inst.there.1
      · exact made.inst.there.2
      · obtain ⟨n, e⟩ := made.list; exact ⟨_, e⟩
    top := fun h k => k
    world := ⟨w5.1.1, lex⟩
    ok := LexV.ok (V := C.wdCode cR q1) (la := la) (C.wdCode_ok hC) }
  refine ⟨aL, _, _, _, _, _, _, fun g => (g.1, g.2.pos, g.2.reg), _, rfl, n₅, fun g h hw => ⟨⟨⟨hw.1.1, hw.1.2⟩, hw.2.state⟩, hw.2.stream⟩, by (repeat first|((with_reducible refine Put.here ?_);first|rfl|assumption)|apply Put.there), fun hC5 => ?_⟩
  have sub5 := NewC.top hC4 I₄ n₅
  have exR : ∀ h, T h → ∃ o, h.get? ca.fR = some o := fun h t => by
    obtain ⟨nm, q, bs, sn, sub, ab, col, dd, k0, k1, k2, k3, k5, newId, mN, oR, oG, oP, a1, a2, z1, z2, z3, z4, z5, z6, z7, y1, y2, y3, y4, _⟩ := LT.cls h t
    exact ⟨_, y4⟩
  have T0 : T s₀.heap := F.sub _ (I₀.top hC)
  have T2 : T s₂'.heap := F.sub _ (sub1 _ (sub2 _ (I₂.top hC2)))
  have T3 : T s₃'.heap := F.sub _ (sub1 _ (sub2 _ (sub3 _ (I₃.top hC3))))
  have T4 : T s₄'.heap := sub04 _ (I₄.top hC4)
  have ne : ∀ {h : Heap} {a b : Addr}, (∃ o, h.get? a = some o) → h.get? b = none → a ≠ b := fun ⟨o, e⟩ n z => by rw [z, n] at e; cases e
  have fnM : ¬ (LexV (C.wdCode cR q1) la).M ca.fR := by
    rintro (((((m | m) | m) | m) | m) | m | m | m)
    · have e := hMP _ m
      obtain ⟨ps, e1, _⟩ := MK.w _ _ I₀.world
      obtain ⟨o, fd, D⟩ := LT.dR
      have e2 := (D.at' _ T0).1
      rw [e, e1] at e2
      cases e2
      have := D.data
      cases this
    · exact ne (exR _ T0) fS m
    · exact m
    · exact ne (exR _ T2) fFn m
    · exact ne (exR _ T3) fFd m
    · exact ne (exR _ T4) fL m
    · exact ne (exR _ T4) fLd m
    · exact ne (exR _ T4) fP m
  have neC : aL ≠ ca.aC := by
    obtain ⟨nm, q, bs, sn, sub, ab, col, dd, k0, k1, k2, k3, k5, newId, mN, oR, oG, oP, a1, _⟩ := LT.cls _ T4
    exact fun z => ne ⟨_, a1⟩ fL z.symm
  have ap : [la.aL, la.aLd, la.aP, la.aS, la.aFn, la.aFd].Nodup := by
    have a1 := hM4 aS (.inl (.inl (.inl (.inr rfl))))
    have a2 := hM4 aFn (.inl (.inr rfl))
    have a3 := hM4 aFd (.inr rfl)
    have b1 : aS ≠ aFn := ne (hC2.wm _ _ aS I₂.world (.inl (.inr rfl))) fFn
    have b2 : aS ≠ aFd := ne (hC3.wm _ _ aS I₃.world (.inl (.inl (.inr rfl)))) fFd
    have b3 : aFn ≠ aFd := ne (hC3.wm _ _ aFn I₃.world (.inr rfl)) fFd
    show [aL, aLd, aP, aS, aFn, aFd].Nodup
    simp only [List.nodup_cons, List.mem_cons, List.not_mem_nil, or_false, not_or, List.nodup_nil, and_true]
    exact ⟨⟨hLD, Ne.symm hPL, Ne.symm a1.1, Ne.symm a2.1, Ne.symm a3.1⟩, ⟨Ne.symm hPD, Ne.symm a1.2.1, Ne.symm a2.2.1, Ne.symm a3.2.1⟩, ⟨Ne.symm a1.2.2, Ne.symm a2.2.2, Ne.symm a3.2.2⟩, ⟨b1, b2⟩, b3, not_false⟩
  have dis : ∀ a, (C.wdCode cR q1).M a → a ≠ la.aS ∧ a ≠ la.aL ∧ a ≠ la.aLd ∧ a ≠ la.aP := fun a m => by
    have m' : C.M a := m
    have q := hM4 a (.inl (.inl (.inl (.inl m'))))
    exact ⟨ne (hC.wm _ _ a I₀.world m') fS, q.1, q.2.1, q.2.2⟩
  have rdM : ¬ ((C.M aRd ∨ aRd = aS) ∨ False) := by
    rintro (m | m)
    · obtain ⟨o, e⟩ := hC1.wm _ _ aRd I₁.world m
      cases fRd.symm.trans e
    · exact m
  have hrd : ∀ h, (cx2 (cx1 C s₁ aS) s₂ aRd cR q1).T h → h.get? aRd = some { cls := .type "function", data := .func (fnD "read" q1 (stmtArgs readStmt) (.stmts (stmtBody readStmt)) (stmtScope readStmt) [("text", cT), ("state", cS)] pm cR ctv) } := fun h t => t aRd _ (fun z => z.2 rfl) rdM oRd
  exact prelude_end (C5 := cx5 (cx4 (cx3 (cx2 (cx1 C s₁ aS) s₂ aRd cR q1) s₃ aFn) s₄ (V3 C aS cR q1) aFn aFd aRd) s₅ (C.wdCode cR q1) la) (V := C.wdCode cR q1) (la := la) (C.wdCode_ok hC) hC5 LT ⟨hC5, F.prog, F.w, fun h t => sub04 h (sub5 h t), F.d, F.scope, F.globals, F.builtins⟩ rfl rfl rfl rfl rfl neC ap dis fnM hkT hkS hcT hcS (fun g h hw => hw.2) (fun h t => hrd h (sub3 h (sub4 h (sub5 h t)))) hl fun C' F' E' => hrest C' cR la F' E'
end Mine.Internal
end

section
namespace Mine.Internal
open PySem PySem.Calls PyProof.Rows PySem.W

theorem scope_of {env : Env} {sc : Scope} {α : Type} {f : Env → α} {r : α} (h : env.scope = sc) (hr : ∀ e : Env, f { e with scope := sc } = r) : f env = r := by subst h; exact hr env

theorem bareTok_len : ∀ (n : Nat) (r : List Nat), r.length ≤ n → (bareTok r).1.length ≤ r.length
  | _, [], _ => by simp [bareTok]
  | 0, _ :: _, h => by simp at h
  | n + 1, c :: r, h => by
    have h' : r.length ≤ n := by simpa using h
    by_cases h1 : c ∈ ws
    · (with_reducible_and_instances (refine rwG ((bareTok_end h1) ..) ?_)); simp
    · by_cases h2 : c = 92
      · subst h2
        cases r with
        | nil => simp [bareTok, ws]
        | cons c' r' =>
          have := bareTok_len n r' (by simp at h'; lia)
          simp [bareTok, ws]; lia
      · (with_reducible_and_instances (refine rwG ((bareTok_other h1 h2) ..) ?_))
        have := bareTok_len n r h'
        simp; lia
theorem quoteTok_len : ∀ (n : Nat) (r : List Nat), r.length ≤ n → (quoteTok r).1.length ≤ r.length
  | _, [], _ => by simp [quoteTok]
  | 0, _ :: _, h => by simp at h
  | n + 1, c :: r, h => by
    have h' : r.length ≤ n := by simpa using h
    by_cases h1 : c = 34
    · subst h1; (with_reducible_and_instances (refine rwG (quoteTok_end ..) ?_)); simp
    · by_cases h2 : c = 92
      · subst h2
        cases r with
        | nil => simp [quoteTok]
        | cons c' r' =>
          have := quoteTok_len n r' (by simp at h'; lia)
          simp [quoteTok]; lia
      · (with_reducible_and_instances (refine rwG ((quoteTok_other h1 h2) ..) ?_))
        have := quoteTok_len n r h'
        simp; lia
theorem lexTok_len : ∀ (r : List Nat), (lexTok r).1.length ≤ r.length
  | [] => by simp [lexTok]
  | c :: r => by
    by_cases h : c ∈ ws
    · (with_reducible_and_instances (refine rwG ((lexTok_ws h) ..) ?_)); have := lexTok_len r; simp; lia
    · by_cases h1 : c = 34
      · subst h1; (with_reducible_and_instances (refine rwG (lexTok_quote ..) ?_)); have := quoteTok_len _ r (Nat.le_refl _); simp; lia
      · by_cases h2 : c = 92
        · subst h2
          cases r with
          | nil => (with_reducible_and_instances (refine rwG (lexTok_lone ..) ?_)); simp
          | cons c' r' => (with_reducible_and_instances (refine rwG (lexTok_esc ..) ?_)); have := bareTok_len _ r' (Nat.le_refl _); simp; lia
        · (with_reducible_and_instances (refine rwG ((lexTok_other h h1 h2) ..) ?_)); have := bareTok_len _ r (Nat.le_refl _); simp; lia

theorem nxt_push {text : List Nat} {crc : Nat → Nat → Nat} {l : LG} : (nxt text crc l).push = l.push := by unfold nxt; split <;> rfl
theorem adv_push {text : List Nat} {crc : Nat → Nat → Nat} : ∀ {n : Nat} {l : LG}, (adv text crc n l).push = l.push
  | 0, l => rfl
  | n + 1, l => by (rewrite [adv]; (with_reducible_and_instances (refine rwG (adv_push ..) ?_; refine rwG (nxt_push ..) ?_)); (with_reducible rfl))

noncomputable def tokAt (text : List Nat) (l : LG) : List Nat := (lexTok (text.drop l.pos)).1
noncomputable def lexAt (text : List Nat) (l : LG) : LG := adv text crcOf (lexTok (text.drop l.pos)).2 l
noncomputable abbrev ent (t : List Nat) (l : LG) : PV := .tup [.str t, .int l.pos, .int l.line]
noncomputable def stepTok (text : List Nat) (l : LG) : List Nat × LG := match l.push with
  | [] => (tokAt text l, lexAt text l)
  | x :: xs => (x, { l with push := xs })
noncomputable def pushes (words : List (List Nat)) (t : Nat) : List (List Nat) := if t = 0 then words.take 1 else if t = words.length + 1 then words else []
noncomputable def readsL (text : List Nat) (words : List (List Nat)) : Nat → LG
  | 0 => ⟨0, 4294967295, 1, []⟩
  | t + 1 => { (stepTok text (readsL text words t)).2 with push := (stepTok text (readsL text words t)).2.push ++ pushes words t }
noncomputable def callsR (text : List Nat) (words : List (List Nat)) : Nat → List PV
  | 0 => []
  | t + 1 => callsR text words t ++ [ent (stepTok text (readsL text words t)).1 (stepTok text (readsL text words t)).2]
theorem callsR_len {text : List Nat} {words : List (List Nat)} : ∀ t, (callsR text words t).length = t
  | 0 => rfl
  | t + 1 => by (rewrite [callsR]; (with_reducible_and_instances (refine rwG (List.length_append ..) ?_; refine rwG ((callsR_len t) ..) ?_))); rfl
theorem stepTok_push {text : List Nat} {l : LG} : (stepTok text l).2.push.length ≤ l.push.length := by
  unfold stepTok
  split
  · rename_i h; (rewrite [lexAt]; (with_reducible_and_instances (refine rwG (adv_push ..) ?_; refine rwG (h ..) ?_))); exact Nat.le_refl _
  · rename_i x xs h; (with_reducible_and_instances (refine rwG (h ..) ?_)); simp
noncomputable def capN (m : Nat) : Nat → Nat
  | 0 => 0
  | t + 1 => capN m t + (if t = 0 then 1 else if t = m + 1 then m else 0)
theorem capN_le (m : Nat) : ∀ t, (t ≤ m + 1 → capN m t ≤ 1) ∧ capN m t ≤ m + 1
  | 0 => ⟨fun _ => Nat.zero_le _, Nat.zero_le _⟩
  | t + 1 => by
    have h := capN_le m t
    rw [capN]
    by_cases a : t = 0
    · ((with_reducible_and_instances (refine rwG ((if_pos a) ..) ?_; refine rwG (a ..) ?_))); exact ⟨fun _ => Nat.le_refl _, Nat.succ_le_succ (Nat.zero_le m)⟩
    · (with_reducible_and_instances (refine rwG ((if_neg a) ..) ?_))
      by_cases b : t = m + 1
      · (with_reducible_and_instances (refine rwG ((if_pos b) ..) ?_))
        exact ⟨fun q => absurd q (by lia), Nat.add_comm m 1 ▸ Nat.add_le_add_right (h.1 (Nat.le_of_eq b)) m⟩
      · (with_reducible_and_instances (refine rwG ((if_neg b) ..) ?_))
        exact ⟨fun q => h.1 (Nat.le_of_succ_le q), h.2⟩
theorem readsL_push {text : List Nat} {words : List (List Nat)} : ∀ t, (readsL text words t).push.length ≤ capN words.length t
  | 0 => Nat.le_refl _
  | t + 1 => by
    show ((stepTok text (readsL text words t)).2.push ++ pushes words t).length ≤ _
    ((with_reducible_and_instances (refine rwG (List.length_append ..) ?_)); rewrite [capN])
    refine Nat.add_le_add (Nat.le_trans stepTok_push (readsL_push t)) ?_
    unfold pushes
    split
    · exact List.length_take_le 1 words
    · split
      · exact Nat.le_refl _
      · exact Nat.le_refl _
theorem readsL_push' {text : List Nat} {words : List (List Nat)} (t : Nat) : (readsL text words t).push.length ≤ words.length + 1 := Nat.le_trans (readsL_push t) (capN_le _ t).2
noncomputable def readsOut (text : List Nat) (words : List (List Nat)) : PV := .tup [.list (callsR text words (2 * words.length + 3)), .int ((readsL text words (2 * words.length + 3)).reg : Int)]
end Mine.Internal
end

section
namespace Mine.Internal
open PySem PySem.Calls PyProof.Rows PySem.W

section
variable {C : Cx}
theorem intBits_le {a : Nat} {n : Nat} (h : a < 2 ^ n) : Builtin.Int.intBits (a : Int) ≤ n := by
  unfold Builtin.Int.intBits
  split
  · exact Nat.zero_le _
  · rename_i h0
    have h0' : a ≠ 0 := by intro z; subst z; simp at h0
    rw [Int.natAbs_natCast]
    exact (Nat.log2_lt h0').mpr h
theorem op_addN {a b : Nat} : Op2 C (binaryOp .Add) (.int a) (.int b) (.int ((a + b : Nat) : Int)) := by rw [Int.natCast_add]; exact op_add
theorem op_mulN {a b : Nat} (h : a < 2 ^ 64) : Op2 C (binaryOp .Mult) (.int a) (.int b) (.int ((a * b : Nat) : Int)) := by rw [Int.natCast_mul]; exact op_mul (.of_left (intBits_le h))
theorem op_mulN' {a b : Nat} (h : b < 2 ^ 64) : Op2 C (binaryOp .Mult) (.int a) (.int b) (.int ((a * b : Nat) : Int)) := by rw [Int.natCast_mul]; exact op_mul (.of_right (intBits_le h))
theorem op_modN {a b : Nat} (h : 0 < b) : Op2 C (binaryOp .Mod) (.int a) (.int b) (.int ((a % b : Nat) : Int)) := by
  (rewrite [Int.natCast_emod]; (with_reducible_and_instances (refine rwL ((Int.fmod_eq_emod_of_nonneg _ (Int.natCast_nonneg b)) ..) ?_))); exact op_mod (by lia)
theorem op_fdivN {a b : Nat} (h : 0 < b) (h2 : b < 1073741824) : Op2 C (binaryOp .FloorDiv) (.int a) (.int b) (.int ((a / b : Nat) : Int)) := by
  (rewrite [Int.natCast_ediv]; (with_reducible_and_instances (refine rwL ((Int.fdiv_eq_ediv_of_nonneg _ (Int.natCast_nonneg b)) ..) ?_))); exact op_fdiv (by lia) (PyProof.noPylong_small (by lia))
theorem op_powN {a n k : Nat} (h : a < 2 ^ k) (h2 : k * n ≤ 134217728) : Op2 C (binaryOp .Pow) (.int a) (.int n) (.int ((a ^ n : Nat) : Int)) := by
  have e : ((a ^ n : Nat) : Int) = (a : Int) ^ ((n : Int).toNat) := by rw [Int.toNat_natCast]; exact Int.natCast_pow a n
  (with_reducible_and_instances (refine rwG (e ..) ?_))
  refine op_pow (Int.natCast_nonneg _) ?_
  have h1 := intBits_le h
  have h3 : Builtin.Int.intBits (a : Int) * n ≤ 134217728 := Nat.le_trans (Nat.mul_le_mul_right n h1) h2
  have h4 : ((Builtin.Int.intBits (a : Int) * n : Nat) : Int) ≤ ((134217728 : Nat) : Int) := Int.ofNat_le.mpr h3
  rw [Int.natCast_mul] at h4
  have h5 : (2 : Int) ^ 27 = 134217728 := by decide
  lia
theorem rangeN_get {n i : Nat} {p : PV} (h : (rangeItems 0 1 n)[i]? = some p) : i < n ∧ p = .int (i : Int) := by
  obtain ⟨h1, rfl⟩ := rangeItems_get h
  refine ⟨h1, ?_⟩
  congr 1
  lia
end
theorem op_ixorN {C : Cx} {a b : Nat} : Op2 C (inplaceOp .BitXor) (.int a) (.int b) (.int ((a ^^^ b : Nat) : Int)) := by rw [← bitXor_nat]; exact op_ixor

theorem op_eqN {C : Cx} {a b : Nat} : Op2 C (compareOp .Eq) (.int a) (.int b) (.bool (decide (a = b))) := by
  have e : decide (a = b) = ((a : Int) == (b : Int)) := by rw [Bool.eq_iff_iff]; simp; lia
  (with_reducible_and_instances (refine rwG (e ..) ?_)); exact op_eq

section
variable {C' : Cx} {V : Wd} {la : LA} {prog : Program} {w : World} {T : Heap → Prop} {d : Nat} {sc : Scope} {text : List Nat} {ρ : Env'} {g : V.G} {l : LG}

theorem get_fresh (F : TopAt (C'.withW (LexV V la)) prog w T d sc) (E : LexEnv prog w C'.T V la text crcOf 3) (hd : 6 ≤ d) (hl : text.length ≤ 16000000) (hp : l.push = []) (hm : (Str.ofString "lexer", LV.val (.obj la.aL)) ∈ ρ) {p1 p2 p3 : Pos} {pl : Sem Bool} (he : eval (.Call (.Attribute (.Name "lexer" p1) "get_token" p2) [] [] p3) (C'.withW (LexV V la)).env = (do
      let ov ← eval (.Name "lexer" p1) (C'.withW (LexV V la)).env
      standAt p2.atName
      let (f, first) ← holding [ov] (getMethod ov "get_token" pl)
      callWith p3 f first (backTo p3 (starEach [] (C'.withW (LexV V la)).env)) (backToKw p3 (keywordEach [] (C'.withW (LexV V la)).env)))) :
    Ev (C'.withW (LexV V la)) ρ (g, l) (.Call (.Attribute (.Name "lexer" p1) "get_token" p2) [] [] p3) (.str (tokAt text l)) (g, lexAt text l) := by
  obtain ⟨o, fd, D⟩ := E.dG
  have h := E.getToken g l hp (by have := lexTok_len (text.drop l.pos); rw [List.length_drop] at this; lia)
  rw [← F.prog, ← F.w] at h
  exact Ev.meth (hn := by rfl) (C := C'.withW (LexV V la)) (first := [.ref la.aL]) (qs := [.obj la.aL]) F.ok (Ev.name F.ok hm) (hasLexW (C := C') E.vok E.dis E.cls E.ap).mGet (fun _ _ => .cons (.obj _) .nil) ⟨o, fd, D.data, fun h t => (D.at' h t).1⟩ EvL.nil h (Nat.le_trans hd F.d) (he := he)

theorem get_pushed (F : TopAt (C'.withW (LexV V la)) prog w T d sc) (E : LexEnv prog w C'.T V la text crcOf 3) (hd : 6 ≤ d) {x : List Nat} {xs : List (List Nat)} (hp : l.push = x :: xs) (hn : xs.length < 900) (hm : (Str.ofString "lexer", LV.val (.obj la.aL)) ∈ ρ) {p1 p2 p3 : Pos} {pl : Sem Bool} (he : eval (.Call (.Attribute (.Name "lexer" p1) "get_token" p2) [] [] p3) (C'.withW (LexV V la)).env = (do
      let ov ← eval (.Name "lexer" p1) (C'.withW (LexV V la)).env
      standAt p2.atName
      let (f, first) ← holding [ov] (getMethod ov "get_token" pl)
      callWith p3 f first (backTo p3 (starEach [] (C'.withW (LexV V la)).env)) (backToKw p3 (keywordEach [] (C'.withW (LexV V la)).env)))) :
    Ev (C'.withW (LexV V la)) ρ (g, l) (.Call (.Attribute (.Name "lexer" p1) "get_token" p2) [] [] p3) (.str x) (g, { l with push := xs }) := by
  obtain ⟨o, fd, D⟩ := E.dG
  have h := E.pushed g l hp hn
  rw [← F.prog, ← F.w] at h
  exact Ev.meth (hn := by rfl) (C := C'.withW (LexV V la)) (first := [.ref la.aL]) (qs := [.obj la.aL]) F.ok (Ev.name F.ok hm) (hasLexW (C := C') E.vok E.dis E.cls E.ap).mGet (fun _ _ => .cons (.obj _) .nil) ⟨o, fd, D.data, fun h t => (D.at' h t).1⟩ EvL.nil h (Nat.le_trans (by lia) F.d) (he := he)

theorem do_push (F : TopAt (C'.withW (LexV V la)) prog w T d sc) (E : LexEnv prog w C'.T V la text crcOf 3) (hd : 6 ≤ d) {x : List Nat} (hn : l.push.length < 900) (hm : (Str.ofString "lexer", LV.val (.obj la.aL)) ∈ ρ) {y : Str} (hx : (y, LV.val (.str x)) ∈ ρ) {p1 p2 p3 p4 : Pos} {pl : Sem Bool} (he : eval (.Call (.Attribute (.Name "lexer" p1) "push_token" p2) [.Name y p4] [] p3) (C'.withW (LexV V la)).env = (do
      let ov ← eval (.Name "lexer" p1) (C'.withW (LexV V la)).env
      standAt p2.atName
      let (f, first) ← holding [ov] (getMethod ov "push_token" pl)
      callWith p3 f first (backTo p3 (starEach [.Name y p4] (C'.withW (LexV V la)).env)) (backToKw p3 (keywordEach [] (C'.withW (LexV V la)).env)))) :
    Ev (C'.withW (LexV V la)) ρ (g, l) (.Call (.Attribute (.Name "lexer" p1) "push_token" p2) [.Name y p4] [] p3) .none (g, { l with push := l.push ++ [x] }) := by
  obtain ⟨o, fd, D⟩ := E.dP
  have h := E.pushToken g l x hn
  rw [← F.prog, ← F.w] at h
  exact Ev.meth (hn := by rfl) (C := C'.withW (LexV V la)) (first := [.ref la.aL]) (qs := [.obj la.aL]) F.ok (Ev.name F.ok hm) (hasLexW (C := C') E.vok E.dis E.cls E.ap).mPush (fun _ _ => .cons (.obj _) .nil) ⟨o, fd, D.data, fun h t => (D.at' h t).1⟩ (EvL.cons (hs := by intro _; rfl) F.ok (Ev.name F.ok hx) EvL.nil) h (Nat.le_trans (by lia) F.d) (he := he)

theorem ev_entry (F : TopAt (C'.withW (LexV V la)) prog w T d sc) (E : LexEnv prog w C'.T V la text crcOf 3) {t : List Nat} (ht : (Str.ofString "told", LV.val (.str t)) ∈ ρ) (hs : (Str.ofString "state", LV.ro (.obj la.aS)) ∈ ρ) (hm : (Str.ofString "lexer", LV.val (.obj la.aL)) ∈ ρ) {p1 p2 p3 p4 p5 p6 p7 : Pos} {k1 k2 : Nat} :
    Ev (C'.withW (LexV V la)) ρ (g, l) (.Tuple [.Name "told" p1, .Subscript (.Name "state" p2) (.Constant (.int 0) k1 p3) p4, .Attribute (.Name "lexer" p5) "lineno" p6] k2 p7) (ent t l) (g, l) := by
  have hC := F.ok
  refine Ev.tup hC (EvL.cons (hs := by intro _; rfl) hC (Ev.name hC ht) (EvL.cons (hs := by intro _; rfl) hC (Ev.subW (hs := by intro _ _; rfl) hC (Ev.nameRo hC hs) Ev.int (by decide) (by decide) ((hasLexW (C := C') E.vok E.dis E.cls E.ap).state0)) (EvL.cons (hs := by intro _; rfl) hC (Ev.attr (he := by with_unfolding_all rfl) hC (Ev.name hC hm) (hasLexW (C := C') E.vok E.dis E.cls E.ap).lineno) EvL.nil))) (by simp)

theorem ev_reg (F : TopAt (C'.withW (LexV V la)) prog w T d sc) (E : LexEnv prog w C'.T V la text crcOf 3) (hs : (Str.ofString "state", LV.ro (.obj la.aS)) ∈ ρ) {p2 p3 p4 : Pos} {k1 : Nat} :
    Ev (C'.withW (LexV V la)) ρ (g, l) (.Subscript (.Name "state" p2) (.Constant (.int 1) k1 p3) p4) (.int l.reg) (g, l) :=
  Ev.subW (hs := by intro _ _; rfl) F.ok (Ev.nameRo F.ok hs) Ev.int (by decide) (by decide) ((hasLexW (C := C') E.vok E.dis E.cls E.ap).state1)

theorem get_step (F : TopAt (C'.withW (LexV V la)) prog w T d sc) (E : LexEnv prog w C'.T V la text crcOf 3) (hd : 6 ≤ d) (hl : text.length ≤ 16000000) (hn : l.push.length < 900) (hm : (Str.ofString "lexer", LV.val (.obj la.aL)) ∈ ρ) {p1 p2 p3 : Pos} {pl : Sem Bool} (he : eval (.Call (.Attribute (.Name "lexer" p1) "get_token" p2) [] [] p3) (C'.withW (LexV V la)).env = (do
      let ov ← eval (.Name "lexer" p1) (C'.withW (LexV V la)).env
      standAt p2.atName
      let (f, first) ← holding [ov] (getMethod ov "get_token" pl)
      callWith p3 f first (backTo p3 (starEach [] (C'.withW (LexV V la)).env)) (backToKw p3 (keywordEach [] (C'.withW (LexV V la)).env)))) :
    Ev (C'.withW (LexV V la)) ρ (g, l) (.Call (.Attribute (.Name "lexer" p1) "get_token" p2) [] [] p3) (.str (stepTok text l).1) (g, (stepTok text l).2) := by
  cases hp : l.push with
  | nil =>
    have e : stepTok text l = (tokAt text l, lexAt text l) := by unfold stepTok; ((with_reducible_and_instances (refine rwG (hp ..) ?_)); (with_reducible rfl))
    (with_reducible_and_instances (refine rwG (e ..) ?_))
    exact get_fresh F E hd hl hp hm (he := he)
  | cons x xs =>
    have e : stepTok text l = (x, { l with push := xs }) := by unfold stepTok; ((with_reducible_and_instances (refine rwG (hp ..) ?_)); (with_reducible rfl))
    (with_reducible_and_instances (refine rwG (e ..) ?_))
    exact get_pushed F E hd hp (by rw [hp] at hn; simp at hn; lia) hm (he := he)

set_option maxHeartbeats 4000000 in
theorem reads_rest {rest : List Stmt} (hrr : rest = callsRest) (hsc : sc = stmtScope (stmtAt theProg iCalls)) (F : TopAt (C'.withW (LexV V la)) prog w T d sc) (E : LexEnv prog w C'.T V la text crcOf 3) (hlen : TG T "len" (.builtin "len")) (hrange : TG T "range" (.type "range")) (hd : 6 ≤ d) (hl : text.length ≤ 16000000) (words : List (List Nat)) (hw : words.length ≤ 100) :
    St (C'.withW (LexV V la)) (callsEnv text (.list (words.map .str)) la .undef .undef .undef .undef) (g, ⟨0, 4294967295, 1, []⟩) rest (fun fl _ _ => fl = .ret (readsOut text words)) := by
  subst hsc
  subst hrr
  have hC := F.ok
  have hint : interactive (C'.withW (LexV V la)).env = false := by unfold interactive; (with_reducible_and_instances (refine rwG (F.scope ..) ?_)); rfl
  have gl := F.glob hlen (by rfl)
  have gr := F.glob hrange (by rfl)
  have hwl : (words.map PV.str).length = words.length := List.length_map _
  have hN : ∀ {ρ : Env'} {g : (LexV V la).G} {p1 p2 p3 : Pos}, (Str.ofString "words", LV.val (.list (words.map .str))) ∈ ρ → Ev (C'.withW (LexV V la)) ρ g (.Call (.Name "len" p1) [.Name "words" p2] [] p3) (.int (words.length : Int)) g := fun h => by
    (with_reducible_and_instances (refine rwL (hwl ..) ?_))
    exact Ev.callB (hn := by rfl) hC gl (EvL.cons (hs := by intro _; rfl) hC (Ev.name hC h) EvL.nil) (call_lenL (by rw [List.length_map]; lia))
  refine St.cons (St1.assignOwn hC EvL.nil (by decide) (by (repeat first|((with_reducible refine Put.here ?_);first|rfl|assumption)|apply Put.there)) ?_)
  refine St.cons (St1.for (ht := by first | exact .inl ⟨_, _, rfl⟩ | exact .inr ⟨_, _, _, rfl⟩) (hs := by intro _; rfl) hC (EvIt.range1 (hn := by rfl) (b := ((2 * words.length + 3 : Nat) : Int)) hC gr (EvL.cons (hs := by intro _; rfl) hC (Ev.bin hC (Ev.bin hC Ev.int (hN (by (repeat first|with_reducible exact List.mem_cons_self|apply List.mem_cons_of_mem))) (op_mulN (a := 2) (by decide))) Ev.int (op_addN (b := 3))) EvL.nil) (by lia) (by lia)) (fun t ρ g' => ρ = callsEnv text (.list (words.map .str)) la (.own (callsR text words t)) .undef .undef .undef ∧ g' = (g, readsL text words t)) ⟨rfl, rfl⟩ ?_ ?_)
  · rintro t p ρ₁ g₂ hp ⟨rfl, rfl⟩
    obtain ⟨ht, rfl⟩ := rangeN_get hp
    have ht' : t < 2 * words.length + 3 := by lia
    refine ⟨_, Binds.name (by (repeat first|((with_reducible refine Put.here ?_);first|rfl|assumption)|apply Put.there)), ?_⟩
    have hpush := readsL_push' (text := text) (words := words) t
    refine St.cons (St1.assign (hs := by rfl) hC (get_step (he := by rfl) F E hd hl (by lia) (by (repeat first|with_reducible exact List.mem_cons_self|apply List.mem_cons_of_mem))) (by (repeat first|((with_reducible refine Put.here ?_);first|rfl|assumption)|apply Put.there)) ?_)
    refine St.cons (St1.append (hline := by rfl) (hfew := by rfl) (htrees := by rfl) hC (by (repeat first|with_reducible exact List.mem_cons_self|apply List.mem_cons_of_mem)) (ev_entry F E (by (repeat first|with_reducible exact List.mem_cons_self|apply List.mem_cons_of_mem)) (by (repeat first|with_reducible exact List.mem_cons_self|apply List.mem_cons_of_mem)) (by (repeat first|with_reducible exact List.mem_cons_self|apply List.mem_cons_of_mem))) (by rw [callsR_len]; lia) (by (repeat first|((with_reducible refine Put.here ?_);first|rfl|assumption)|apply Put.there)) ?_ hint)
    have hp2 := stepTok_push (text := text) (l := readsL text words t)
    have hpl : (pushes words t).length ≤ words.length := by unfold pushes; split <;> (try split) <;> simp <;> lia
    have e1 : pySlice (words.map PV.str) none (some 1) = (words.take 1).map PV.str := by
      unfold pySlice clipTo
      simp only
      (with_reducible_and_instances (refine rwG ((if_neg (by decide)) ..) ?_))
      cases words with
      | nil => rfl
      | cons x xs =>
        have : (max 0 (min (1 : Int) (((x :: xs).map PV.str).length : Int)) - 0).toNat = 1 := by simp; lia
        (with_reducible_and_instances (refine rwG (this ..) ?_)); rfl
    refine St.one (St1.for (ht := by first | exact .inl ⟨_, _, rfl⟩ | exact .inr ⟨_, _, _, rfl⟩) (hs := by intro _; rfl) (g₁ := (g, (stepTok text (readsL text words t)).2)) hC (EvIt.list (items := (pushes words t).map PV.str) hC (Ev.ifExp (g₁ := (g, (stepTok text (readsL text words t)).2)) hC (EvB.cmp (hm := by with_unfolding_all rfl) hC (Ev.name hC (p := .int (t : Int)) (by (repeat first|with_reducible exact List.mem_cons_self|apply List.mem_cons_of_mem))) Ev.int (op_eqN (b := 0))) (fun h => ?_) fun h => Ev.ifExp (g₁ := (g, (stepTok text (readsL text words t)).2)) hC (EvB.cmp (hm := by with_unfolding_all rfl) hC (Ev.name hC (p := .int (t : Int)) (by (repeat first|with_reducible exact List.mem_cons_self|apply List.mem_cons_of_mem))) (Ev.bin hC (hN (by (repeat first|with_reducible exact List.mem_cons_self|apply List.mem_cons_of_mem))) Ev.int (op_addN (b := 1))) op_eqN) (fun h2 => ?_) fun h2 => ?_))
      (fun i ρ g' => ρ = callsEnv text (.list (words.map .str)) la (.own (callsR text words (t + 1))) (.val (.int (t : Int))) (.val (.str (stepTok text (readsL text words t)).1)) .undef ∧ g' = (g, { (stepTok text (readsL text words t)).2 with push := (stepTok text (readsL text words t)).2.push ++ (pushes words t).take i })) ⟨rfl, ?_⟩ ?_ ?_)
    · have h' : t = 0 := of_decide_eq_true h
      have e : pushes words t = words.take 1 := by unfold pushes; ((with_reducible_and_instances (refine rwG ((if_pos h') ..) ?_)); (with_reducible rfl))
      ((with_reducible_and_instances (refine rwG (e ..) ?_; refine rwL (e1 ..) ?_)))
      exact Ev.sliceList (l := none) (u := some 1) hC (Ev.name hC (by (repeat first|with_reducible exact List.mem_cons_self|apply List.mem_cons_of_mem))) EvO.none (EvO.some Ev.int) (by lia)
    · have h' : ¬ t = 0 := of_decide_eq_false h
      have h2' : t = words.length + 1 := of_decide_eq_true h2
      have e : pushes words t = words := by unfold pushes; ((with_reducible_and_instances (refine rwG ((if_neg h') ..) ?_; refine rwG ((if_pos h2') ..) ?_)); (with_reducible rfl))
      (with_reducible_and_instances (refine rwG (e ..) ?_))
      exact Ev.name hC (by (repeat first|with_reducible exact List.mem_cons_self|apply List.mem_cons_of_mem))
    · have h' : ¬ t = 0 := of_decide_eq_false h
      have h2' : ¬ t = words.length + 1 := of_decide_eq_false h2
      have e : pushes words t = [] := by unfold pushes; ((with_reducible_and_instances (refine rwG ((if_neg h') ..) ?_; refine rwG ((if_neg h2') ..) ?_)); (with_reducible rfl))
      (with_reducible_and_instances (refine rwG (e ..) ?_))
      exact Ev.list hC EvL.nil (by decide)
    · ((with_reducible_and_instances (refine rwG (List.take_zero ..) ?_)); rewrite [List.append_nil]; (with_reducible rfl))
    · rintro i p ρ₁ g₃ hp ⟨rfl, rfl⟩
      obtain ⟨x, hx, rfl⟩ : ∃ x, (pushes words t)[i]? = some x ∧ p = .str x := by
        rw [List.getElem?_map] at hp
        cases e : (pushes words t)[i]? with
        | none => rw [e] at hp; cases hp
        | some c => rw [e] at hp; cases hp; exact ⟨c, rfl, rfl⟩
      refine ⟨_, Binds.name (by (repeat first|((with_reducible refine Put.here ?_);first|rfl|assumption)|apply Put.there)), ?_⟩
      refine St.one (St1.expr (hs := by rfl) hC (do_push (he := by rfl) F E hd (by show ((stepTok text (readsL text words t)).2.push ++ (pushes words t).take i).length < 900; ((with_reducible_and_instances (refine rwG (List.length_append ..) ?_; refine rwG (List.length_take ..) ?_))); lia) (by (repeat first|with_reducible exact List.mem_cons_self|apply List.mem_cons_of_mem)) (by (repeat first|with_reducible exact List.mem_cons_self|apply List.mem_cons_of_mem))) ⟨_, by (repeat first|exact Weak.nil|((with_reducible apply Weak.keep))|((with_reducible refine Weak.drop ?_ ?_);first|rfl|assumption)|((with_reducible refine Weak.val ?_ ?_);rotate_left)|((with_reducible refine Weak.own ?_ ?_);rotate_left)), rfl, ?_⟩ hint)
      ((with_reducible_and_instances (refine rwG (List.take_add_one ..) ?_; refine rwG (hx ..) ?_)); rewrite [← List.append_assoc]); rfl
    · rintro ρ₁ g₃ ⟨rfl, rfl⟩
      refine ⟨_, by (repeat first|exact Weak.nil|((with_reducible apply Weak.keep))|((with_reducible refine Weak.drop ?_ ?_);first|rfl|assumption)|((with_reducible refine Weak.val ?_ ?_);rotate_left)|((with_reducible refine Weak.own ?_ ?_);rotate_left)), rfl, ?_⟩
      (rewrite [List.length_map]; (with_reducible_and_instances (refine rwG (List.take_length ..) ?_)))
      rfl
  rintro ρ₁ g₂ ⟨rfl, rfl⟩
  ((with_reducible_and_instances (refine rwG ((show (rangeItems 0 1 (((2 * words.length + 3 : Nat) : Int)).toNat).length = 2 * words.length + 3 by rw [rangeItems_length]; lia) ..) ?_)))
  refine St.freeze hC (by (repeat first|with_reducible exact List.mem_cons_self|apply List.mem_cons_of_mem)) (x := Str.ofString "calls") (by (repeat first|((with_reducible refine Put.here ?_);first|rfl|assumption)|apply Put.there)) ?_
  exact St.one (St1.ret hC (Ev.tup hC (EvL.cons (hs := by intro _; rfl) hC (by (repeat' with_reducible first|exact Ev.int|exact Ev.str rfl|exact Ev.bool|exact Ev.none|apply Ev.name (by assumption)|exact List.mem_cons_self|apply List.mem_cons_of_mem|apply Ev.bin (by assumption)|exact op_add|exact op_sub|exact op_mul|exact op_and|exact op_xor|exact op_shr (by decide)|exact op_eqs|exact op_eq|exact op_ge|exact op_ishr (by decide))) (EvL.cons (hs := by intro _; rfl) hC (ev_reg F E (by (repeat first|with_reducible exact List.mem_cons_self|apply List.mem_cons_of_mem))) EvL.nil)) (by simp)) rfl)
end
end Mine.Internal
end

section
namespace Mine.Internal
open PySem PySem.Calls PyProof.Rows PySem.W

theorem reads_st {C : Cx} {g : C.G} {prog : Program} {w : World} {T : Heap → Prop} {d : Nat} {sc : Scope} {ca : CA} {K : Frag} {fCrc c PT : Addr} {q1 q2 : Str} {text : List Nat} {words : List (List Nat)} {st : Stmt} (hst : st = stmtAt theProg iCalls) (F : TopAt C prog w T d sc) (LT : LexTop prog w T ca K fCrc)
    (MK : Maker C c PT (known q1 q2)) (hMP : ∀ a, C.M a → a = PT) (hsc : sc = stmtScope st) (hq1 : qualnameIn C.env "read" "read" = q1) (hq2 : C.env.qual ++ "<lambda>" = q2) (hd : 6 ≤ d) (hl : text.length ≤ 16000000) (hw : words.length ≤ 100) :
    St C (callsEnv0 text (.list (words.map .str))) g (stmtBody st) (fun fl _ _ => fl = .ret (readsOut text words)) := by
  obtain ⟨rest, hrr⟩ : ∃ r, r = callsRest := ⟨_, rfl⟩
  exact prelude hst hrr F LT MK hMP hsc hq1 hq2 (by lia) hl fun C' cR la F' E' => reads_rest hrr (hst ▸ hsc) F' E' LT.len LT.range hd hl words hw

theorem FnW.def' {prog : Program} {w : World} {T : Heap → Prop} {V : Wd} {d : Nat} {st : Stmt} {a : Addr} {o : Obj} {fd : FuncData} {pn : List Str} (rest : List Str) {ps : List PV} {r : PV} {g g' : V.G} (hV : V.Ok)
    (hT : ∀ h h' : Heap, T h → (∀ b o, ¬ V.M b → h.get? b = some o → h'.get? b = some o) → T h') (D : DefAt T st pn a o fd) (hlen : ps.length = pn.length)
    (hnd : (pn ++ rest).Nodup) (hkinds : ((pn ++ rest).all fun x => (stmtScope st).names.lookup x == some .local || (stmtScope st).names.lookup x == some .cell) = true)
    (hdbg : ((pn ++ rest).all fun x => !(x == ("__debug__" : Str)) && !(x == ("__classdict__" : Str))) = true)
    (hco : (stmtScope st).isCoroutine = false) (hgen : (stmtScope st).isGenerator = false) (hk : (stmtScope st).kind = .function)
    (hbody : ∀ C0 : Cx, FrameD (C0.withW V) prog w T d (stmtScope st) → C0.env.code = fd.code → C0.env.qual = fd.qualname ++ ".<locals>." →
      St (C0.withW V) (startEnv pn rest ps) g (stmtBody st) (fun fl _ g₁ => (fl = .ret r ∨ (fl = .next ∧ r = .none)) ∧ g₁ = g')) :
    FnW prog w T V (d + 1) (.ref a) g ps r g' :=
  FnW.def rest hV hT D hlen hnd hkinds hdbg hco hgen hk fun cells A X s F => hbody (frameW prog w T V d fd (pn ++ rest) a cells A X s) F rfl rfl

theorem reads_fn {prog : Program} {w : World} {T : Heap → Prop} {ca : CA} {K : Frag} {fCrc fCalls c PT : Addr} {o : Obj} {fd : FuncData} {q1 q2 : Str} (LT : LexTop prog w T ca K fCrc)
    (hT : ∀ h h' : Heap, T h → (∀ b o, b ≠ PT → h.get? b = some o → h'.get? b = some o) → T h') {st : Stmt} (hst : st = stmtAt theProg iCalls) (D : DefAt T st ["text", "words"] fCalls o fd) (hcode : fd.code = .ref c)
    (htop : ∀ h, T h → ∃ mg, h.Ns mainGlobals mg ∧ CodeHd h c PT ∧ mainGlobals ≠ PT ∧ h.BuiltinsAt mg PT) {text : List Nat} {words : List (List Nat)} (hl : text.length ≤ 16000000) (hw : words.length ≤ 100)
    (hq1 : fd.qualname ++ ".<locals>." ++ "read" = q1) (hq2 : fd.qualname ++ ".<locals>." ++ "<lambda>" = q2) :
    FnW prog w T (tabV PT (known q1 q2)) 7 (.ref fCalls) () [.str text, .list (words.map .str)] (readsOut text words) () := by
  refine FnW.def' ["read", "stream", "lexer", "calls", "turn", "told", "word", "state"] (tabV.ok _ _) (fun h h' t k => hT h h' t fun b o hb e => k b o hb e) D rfl (by decide +kernel) (by subst hst; decide +kernel) (by decide +kernel) (by subst hst; rfl) (by subst hst; rfl) (by subst hst; rfl) fun C0 F hc hq => ?_
  have hk : C0.env.kindOf (Str.ofString "read") = some .local := by
    have := F.scope
    show C0.env.scope.names.lookup _ = _
    (with_reducible_and_instances (refine rwG ((show C0.env.scope = _ from this) ..) ?_)); subst hst; rfl
  have e1 : qualnameIn C0.env "read" "read" = q1 := by
    unfold qualnameIn; ((with_reducible_and_instances (refine rwG (hk ..) ?_; refine rwG (hq ..) ?_))); exact hq1
  have h0 := reads_st (C := C0.withW (tabV PT (known q1 q2))) (g := ()) (text := text) (words := words) hst F.top LT (c := c) (PT := PT) ⟨F.globals, hc.trans hcode, fun h t => htop h (F.T ▸ t), rfl, fun g h hw => hw, fun g h h' hw ht k => ht⟩ (fun a m => m) rfl e1 (by (with_reducible_and_instances (refine rwG ((show (C0.withW (tabV PT (known q1 q2))).env.qual = _ from hq) ..) ?_)); exact hq2) (by decide) hl hw
  exact StP.mono h0 fun fl ρ g' h => ⟨.inl h, rfl⟩

end Mine.Internal
end

section
namespace Mine.Internal
open PySem PySem.Calls PyProof.Rows PySem.W

theorem getD_some {α : Type} {l : List α} {d : α} {i : Nat} (h : i < l.length) : l[i]? = some (l.getD i d) := by
  ((with_reducible_and_instances (refine rwG ((List.getD_eq_getElem?_getD) ..) ?_; refine rwG ((List.getElem?_eq_getElem h) ..) ?_))); rfl
theorem strItem {x : List Nat} {i : Nat} {p : PV} (hp : (x.map fun c => PV.str [c])[i]? = some p) : ∃ c, x[i]? = some c ∧ p = .str [c] := by
  rw [List.getElem?_map] at hp
  cases e : x[i]? with
  | none => rw [e] at hp; cases hp
  | some c => rw [e] at hp; cases hp; exact ⟨c, rfl, rfl⟩

noncomputable def tbl : List Nat := [97, 98, 35, 9, 32, 10, 34, 92]
noncomputable def needsQ (quoted : Bool) (k c : Nat) : Bool := if quoted then decide (c ∈ [34, 92]) else decide (c ∈ [32, 9, 13, 10, 92]) || (decide (c = 34) && decide (k = 0))
noncomputable def piecePlain (n : Nat) (two : Bool) : List Nat := [tbl.getD (n % 8) 0] ++ (if two && decide (n / 8 % 2 = 1) then [n / 16 % 256] else [])
noncomputable def pieceW (n : Nat) (quoted : Bool) (pl : List Nat) : Nat → List Nat
  | 0 => []
  | k + 1 => pieceW n quoted pl k ++ ((if needsQ quoted k (pl.getD k 0) || decide (n / 4096 / (k + 1) % 2 = 1) then [92] else []) ++ [pl.getD k 0])
noncomputable def lawPiece (n : Nat) (quoted two : Bool) : List Nat × List Nat := (piecePlain n two, pieceW n quoted (piecePlain n two) (piecePlain n two).length)
noncomputable def piecePV (p : List Nat × List Nat) : PV := .tup [.str p.1, .str p.2]
noncomputable def mores : List (List Nat) := [[], [32], [9, 9], [13, 10], [10, 32, 13]]
noncomputable def ws4 : List Nat := [32, 9, 13, 10]
noncomputable def gapMore (n : Nat) : List Nat := mores.getD (n / 65536 % 5) []
noncomputable def lawGap (n : Nat) (quoted : Bool) : List Nat := if quoted then [34] ++ gapMore n ++ [34] else [ws4.getD (n / 16384 % 4) 0] ++ gapMore n
theorem piecePlain_len {n : Nat} {two : Bool} : (piecePlain n two).length ≤ 2 := by unfold piecePlain; split <;> simp
theorem pieceW_len {n : Nat} {q : Bool} {pl : List Nat} : ∀ i, (pieceW n q pl i).length ≤ 2 * i
  | 0 => by simp [pieceW]
  | i + 1 => by
    have := pieceW_len (n := n) (q := q) (pl := pl) i
    (rewrite [pieceW]; (with_reducible_and_instances (refine rwG (List.length_append ..) ?_; refine rwG (List.length_append ..) ?_)))
    split <;> simp <;> lia
theorem gapMore_len {n : Nat} : (gapMore n).length ≤ 3 := by
  unfold gapMore
  have h : n / 65536 % 5 < 5 := Nat.mod_lt _ (by decide)
  generalize n / 65536 % 5 = j at h
  have h' : j = 0 ∨ j = 1 ∨ j = 2 ∨ j = 3 ∨ j = 4 := by lia
  rcases h' with rfl | rfl | rfl | rfl | rfl <;> decide
theorem lawGap_len {n : Nat} {q : Bool} : (lawGap n q).length ≤ 5 := by
  have := gapMore_len (n := n)
  unfold lawGap
  split <;> simp <;> lia

section
variable {C : Cx} {g : C.G} {prog : Program} {w : World} {T : Heap → Prop} {d : Nat} {st : Stmt}

theorem run_body (hst : st = stmtAt theProg 8) (F : TopAt C prog w T d (stmtScope st)) (hord : TG T "ord" (.builtin "ord")) {fCrc : Addr} (crc : PureAt prog w T 1 "_gen_crc" fCrc) (crcFn : ∀ r : Nat, Fn prog w T 1 (.ref fCrc) [.int r] (.int (genCrc r))) (hd : 1 ≤ d) (r : Nat) (text : List Nat) :
    St C [en "register" (.val (.int r)), en "text" (.val (.str text)), en "sign" .undef] g (stmtBody st) (fun fl _ _ => fl = .ret (.int ((text.foldl crcOf r : Nat) : Int))) := by
  have hC := F.ok
  have go := F.glob hord (by subst hst; rfl)
  have hc : (stmtScope st).names.lookup (Str.ofString "_gen_crc") = some .globalImplicit := by subst hst; rfl
  subst hst
  refine St.cons (St1.for (ht := by first | exact .inl ⟨_, _, rfl⟩ | exact .inr ⟨_, _, _, rfl⟩) (hs := by intro _; rfl) hC (EvIt.str (x := text) hC (by (repeat' with_reducible first|exact Ev.int|exact Ev.str rfl|exact Ev.bool|exact Ev.none|apply Ev.name (by assumption)|exact List.mem_cons_self|apply List.mem_cons_of_mem|apply Ev.bin (by assumption)|exact op_add|exact op_sub|exact op_mul|exact op_and|exact op_xor|exact op_shr (by decide)|exact op_eqs|exact op_eq|exact op_ge|exact op_ishr (by decide)))) (fun i ρ _ => ρ = [en "register" (.val (.int (((text.take i).foldl crcOf r : Nat) : Int))), en "text" (.val (.str text)), en "sign" .undef]) rfl ?_ ?_)
  · rintro i p ρ₁ g₂ hp rfl
    obtain ⟨c, hcc, rfl⟩ := strItem hp
    refine ⟨_, Binds.name (by (repeat first|((with_reducible refine Put.here ?_);first|rfl|assumption)|apply Put.there)), ?_⟩
    refine St.one (St1.assign (hs := by rfl) hC (F.call (hn := by rfl) crc hc (EvL.cons (hs := by intro _; rfl) hC (Ev.bin hC (by (repeat' with_reducible first|exact Ev.int|exact Ev.str rfl|exact Ev.bool|exact Ev.none|apply Ev.name (by assumption)|exact List.mem_cons_self|apply List.mem_cons_of_mem|apply Ev.bin (by assumption)|exact op_add|exact op_sub|exact op_mul|exact op_and|exact op_xor|exact op_shr (by decide)|exact op_eqs|exact op_eq|exact op_ge|exact op_ishr (by decide))) (Ev.callB (hn := by rfl) hC go (EvL.cons (hs := by intro _; rfl) hC (by (repeat' with_reducible first|exact Ev.int|exact Ev.str rfl|exact Ev.bool|exact Ev.none|apply Ev.name (by assumption)|exact List.mem_cons_self|apply List.mem_cons_of_mem|apply Ev.bin (by assumption)|exact op_add|exact op_sub|exact op_mul|exact op_and|exact op_xor|exact op_shr (by decide)|exact op_eqs|exact op_eq|exact op_ge|exact op_ishr (by decide))) EvL.nil) call_ord) op_xorN) EvL.nil) (crcFn _) hd) (by (repeat first|((with_reducible refine Put.here ?_);first|rfl|assumption)|apply Put.there)) ⟨_, ?_, rfl⟩)
    (repeat first|exact Weak.nil|((with_reducible apply Weak.keep))|((with_reducible refine Weak.drop ?_ ?_);first|rfl|assumption)|((with_reducible refine Weak.val ?_ ?_);rotate_left)|((with_reducible refine Weak.own ?_ ?_);rotate_left))
    ((with_reducible_and_instances (refine rwG (List.take_add_one ..) ?_; refine rwG (hcc ..) ?_; refine rwG (List.foldl_append ..) ?_)))
    rfl
  · rintro ρ₁ g₂ rfl
    refine St.one (St1.ret hC (by (repeat' with_reducible first|exact Ev.int|exact Ev.str rfl|exact Ev.bool|exact Ev.none|apply Ev.name (by assumption)|exact List.mem_cons_self|apply List.mem_cons_of_mem|apply Ev.bin (by assumption)|exact op_add|exact op_sub|exact op_mul|exact op_and|exact op_xor|exact op_shr (by decide)|exact op_eqs|exact op_eq|exact op_ge|exact op_ishr (by decide))) ?_)
    (rewrite [List.length_map]; (with_reducible_and_instances (refine rwG (List.take_length ..) ?_)); (with_reducible rfl))

theorem run_fn {f : Addr} {o : Obj} {fd : FuncData} (hT : ∀ h h' : Heap, T h → (∀ b o, h.get? b = some o → h'.get? b = some o) → T h') (hst : st = stmtAt theProg 8) (D : DefAt T st ["register", "text"] f o fd) (hord : TG T "ord" (.builtin "ord")) {fCrc : Addr} (crc : PureAt prog w T 1 "_gen_crc" fCrc) (crcFn : ∀ r : Nat, Fn prog w T 1 (.ref fCrc) [.int r] (.int (genCrc r))) (r : Nat) (text : List Nat) :
    Fn prog w T 2 (.ref f) [.int r, .str text] (.int ((text.foldl crcOf r : Nat) : Int)) :=
  Fn.def ["sign"] hT D rfl (by decide) (by subst hst; decide +kernel) (by decide +kernel) (by subst hst; rfl) (by subst hst; rfl) (by subst hst; rfl) fun C g F => StP.mono (run_body hst F.top hord crc crcFn (Nat.le_refl _) r text) fun fl ρ g h => .inl h

theorem gap_body (hst : st = stmtAt theProg 6) (F : TopAt C prog w T d (stmtScope st)) (n : Nat) (q : Bool) :
    St C [en "number" (.val (.int n)), en "quoted" (.val (.bool q)), en "more" .undef] g (stmtBody st) (fun fl _ _ => fl = .ret (.str (lawGap n q))) := by
  have hC := F.ok
  clear F
  subst hst
  have hl := gapMore_len (n := n)
  refine St.cons (St1.assign (hs := by rfl) hC (v := .str (gapMore n)) (Ev.sub (hs := by intro _ _; rfl) hC (Ev.list (ps := mores.map .str) hC (EvL.cons (hs := by intro _; rfl) hC (Ev.str rfl) (EvL.cons (hs := by intro _; rfl) hC (Ev.str rfl) (EvL.cons (hs := by intro _; rfl) hC (Ev.str rfl) (EvL.cons (hs := by intro _; rfl) hC (Ev.str rfl) (EvL.cons (hs := by intro _; rfl) hC (Ev.str rfl) EvL.nil))))) (by decide))
    (Ev.bin hC (Ev.bin hC (by (repeat' with_reducible first|exact Ev.int|exact Ev.str rfl|exact Ev.bool|exact Ev.none|apply Ev.name (by assumption)|exact List.mem_cons_self|apply List.mem_cons_of_mem|apply Ev.bin (by assumption)|exact op_add|exact op_sub|exact op_mul|exact op_and|exact op_xor|exact op_shr (by decide)|exact op_eqs|exact op_eq|exact op_ge|exact op_ishr (by decide))) Ev.int (op_fdivN (b := 65536) (by decide) (by decide))) Ev.int (op_modN (b := 5) (by decide))) (item_list (i := ((n / 65536 % 5 : Nat) : Int)) (by lia) (by lia) ?_)) (by (repeat first|((with_reducible refine Put.here ?_);first|rfl|assumption)|apply Put.there)) ?_)
  · (rewrite [Int.toNat_natCast]; (with_reducible_and_instances (refine rwG ((List.getElem?_map) ..) ?_; refine rwG ((getD_some (d := []) (show n / 65536 % 5 < mores.length from Nat.mod_lt _ (by decide))) ..) ?_))); rfl
  refine St.one (St1.ret (g₁ := g) hC (v := .str (lawGap n q)) (Ev.ifExp hC (EvB.val (he := by rfl) hC (p := .bool q) (by (repeat' with_reducible first|exact Ev.int|exact Ev.str rfl|exact Ev.bool|exact Ev.none|apply Ev.name (by assumption)|exact List.mem_cons_self|apply List.mem_cons_of_mem|apply Ev.bin (by assumption)|exact op_add|exact op_sub|exact op_mul|exact op_and|exact op_xor|exact op_shr (by decide)|exact op_eqs|exact op_eq|exact op_ge|exact op_ishr (by decide))) rfl) (fun h => ?_) fun h => ?_) rfl)
  · have h' : q = true := h
    unfold lawGap; (with_reducible_and_instances (refine rwG ((if_pos h') ..) ?_))
    exact Ev.bin hC (Ev.bin hC (Ev.str (l := [34]) rfl) (by (repeat' with_reducible first|exact Ev.int|exact Ev.str rfl|exact Ev.bool|exact Ev.none|apply Ev.name (by assumption)|exact List.mem_cons_self|apply List.mem_cons_of_mem|apply Ev.bin (by assumption)|exact op_add|exact op_sub|exact op_mul|exact op_and|exact op_xor|exact op_shr (by decide)|exact op_eqs|exact op_eq|exact op_ge|exact op_ishr (by decide))) (op_cat (by simp; lia))) (Ev.str (l := [34]) rfl) (op_cat (by simp; lia))
  · have h' : q = false := h
    unfold lawGap; ((with_reducible_and_instances (refine rwG ((if_neg (by rw [h']; decide)) ..) ?_)))
    exact Ev.bin hC (Ev.sub (hs := by intro _ _; rfl) hC (Ev.str (l := ws4) rfl) (Ev.bin hC (Ev.bin hC (by (repeat' with_reducible first|exact Ev.int|exact Ev.str rfl|exact Ev.bool|exact Ev.none|apply Ev.name (by assumption)|exact List.mem_cons_self|apply List.mem_cons_of_mem|apply Ev.bin (by assumption)|exact op_add|exact op_sub|exact op_mul|exact op_and|exact op_xor|exact op_shr (by decide)|exact op_eqs|exact op_eq|exact op_ge|exact op_ishr (by decide))) Ev.int (op_fdivN (b := 16384) (by decide) (by decide))) Ev.int (op_modN (b := 4) (by decide))) (item_str (i := ((n / 16384 % 4 : Nat) : Int)) (by lia) (by lia) (getD_some (Nat.mod_lt _ (by decide))))) (by (repeat' with_reducible first|exact Ev.int|exact Ev.str rfl|exact Ev.bool|exact Ev.none|apply Ev.name (by assumption)|exact List.mem_cons_self|apply List.mem_cons_of_mem|apply Ev.bin (by assumption)|exact op_add|exact op_sub|exact op_mul|exact op_and|exact op_xor|exact op_shr (by decide)|exact op_eqs|exact op_eq|exact op_ge|exact op_ishr (by decide))) (op_cat (by simp; lia))

theorem gap_fn {f : Addr} {o : Obj} {fd : FuncData} (hT : ∀ h h' : Heap, T h → (∀ b o, h.get? b = some o → h'.get? b = some o) → T h') (hst : st = stmtAt theProg 6) (D : DefAt T st ["number", "quoted"] f o fd) (n : Nat) (q : Bool) :
    Fn prog w T 1 (.ref f) [.int n, .bool q] (.str (lawGap n q)) :=
  Fn.def ["more"] hT D rfl (by decide) (by subst hst; decide +kernel) (by decide +kernel) (by subst hst; rfl) (by subst hst; rfl) (by subst hst; rfl) fun C g F => StP.mono (gap_body hst F.top n q) fun fl ρ g h => .inl h

set_option maxHeartbeats 1000000 in
theorem piece_body (hst : st = stmtAt theProg 5) (F : TopAt C prog w T d (stmtScope st)) (hrange : TG T "range" (.type "range")) (hlen : TG T "len" (.builtin "len")) (hchr : TG T "chr" (.builtin "chr")) (n : Nat) (q t : Bool) :
    St C [en "number" (.val (.int n)), en "quoted" (.val (.bool q)), en "two" (.val (.bool t)), en "plain" .undef, en "written" .undef, en "k" .undef, en "needs" .undef] g (stmtBody st) (fun fl _ _ => fl = .ret (piecePV (lawPiece n q t))) := by
  have hC := F.ok
  have gr := F.glob hrange (by subst hst; rfl)
  have gl := F.glob hlen (by subst hst; rfl)
  have gc := F.glob hchr (by subst hst; rfl)
  clear F
  subst hst
  have hcond : ∀ {ρ : Env'} {g : C.G} {p1 p2 p3 p4 p5 p6 p7 p8 p9 : Pos} {k1 k2 k3 : Nat}, (Str.ofString "two", LV.val (.bool t)) ∈ ρ → (Str.ofString "number", LV.val (.int (n : Int))) ∈ ρ →
      EvB C ρ g (.BoolOp .And [.Name "two" p1, .Compare (.BinOp (.BinOp (.Name "number" p2) .FloorDiv (.Constant (.int 8) k1 p3) p4) .Mod (.Constant (.int 2) k2 p5) p6) [.Eq] [.Constant (.int 1) k3 p7] p8] p9) (t && decide (n / 8 % 2 = 1)) g := fun h1 h2 => by
    have e : (t && decide (n / 8 % 2 = 1)) = (truthOf (.bool t) && (decide (n / 8 % 2 = 1) && true)) := by rw [Bool.and_true]; rfl
    (with_reducible_and_instances (refine rwG (e ..) ?_))
    exact EvB.boolOp (EvAll.consAnd hC (EvB.val (he := by rfl) hC (Ev.name hC h1) rfl) fun _ => EvAll.consAnd hC (EvB.cmp (hm := by with_unfolding_all rfl) hC (Ev.bin hC (Ev.bin hC (Ev.name hC h2) Ev.int (op_fdivN (b := 8) (by decide) (by decide))) Ev.int (op_modN (b := 2) (by decide))) Ev.int (op_eqN (b := 1))) fun _ => EvAll.nilAnd)
  refine St.cons (St1.assign (hs := by rfl) (g₁ := g) hC (v := .str (piecePlain n t)) (Ev.bin hC (Ev.sub (hs := by intro _ _; rfl) hC (Ev.str (l := tbl) rfl) (Ev.bin hC (by (repeat' with_reducible first|exact Ev.int|exact Ev.str rfl|exact Ev.bool|exact Ev.none|apply Ev.name (by assumption)|exact List.mem_cons_self|apply List.mem_cons_of_mem|apply Ev.bin (by assumption)|exact op_add|exact op_sub|exact op_mul|exact op_and|exact op_xor|exact op_shr (by decide)|exact op_eqs|exact op_eq|exact op_ge|exact op_ishr (by decide))) Ev.int (op_modN (b := 8) (by decide))) (item_str (i := ((n % 8 : Nat) : Int)) (by lia) (by lia) (getD_some (Nat.mod_lt _ (by decide)))))
    (Ev.ifExp (p := .str (if t && decide (n / 8 % 2 = 1) then [n / 16 % 256] else [])) hC (hcond (by (repeat first|with_reducible exact List.mem_cons_self|apply List.mem_cons_of_mem)) (by (repeat first|with_reducible exact List.mem_cons_self|apply List.mem_cons_of_mem))) (fun h => ?_) fun h => ?_) (op_cat (by split <;> simp))) (by (repeat first|((with_reducible refine Put.here ?_);first|rfl|assumption)|apply Put.there)) ?_)
  · (with_reducible_and_instances (refine rwG ((if_pos h) ..) ?_))
    exact Ev.callB (hn := by rfl) hC gc (EvL.cons (hs := by intro _; rfl) hC (Ev.bin hC (Ev.bin hC (by (repeat' with_reducible first|exact Ev.int|exact Ev.str rfl|exact Ev.bool|exact Ev.none|apply Ev.name (by assumption)|exact List.mem_cons_self|apply List.mem_cons_of_mem|apply Ev.bin (by assumption)|exact op_add|exact op_sub|exact op_mul|exact op_and|exact op_xor|exact op_shr (by decide)|exact op_eqs|exact op_eq|exact op_ge|exact op_ishr (by decide))) Ev.int (op_fdivN (b := 16) (by decide) (by decide))) Ev.int (op_modN (b := 256) (by decide))) EvL.nil) (call_chr (i := ((n / 16 % 256 : Nat) : Int)) (by lia) (by lia))
  · ((with_reducible_and_instances (refine rwG ((if_neg (by rw [h]; decide)) ..) ?_))); exact Ev.str rfl
  have hpl := piecePlain_len (n := n) (two := t)
  have hpair : piecePV (lawPiece n q t) = .tup [.str (piecePlain n t), .str (pieceW n q (piecePlain n t) (piecePlain n t).length)] := rfl
  (with_reducible_and_instances (refine rwG (hpair ..) ?_))
  generalize piecePlain n t = pl at *
  refine St.cons (St1.assign (hs := by rfl) hC (by (repeat' with_reducible first|exact Ev.int|exact Ev.str rfl|exact Ev.bool|exact Ev.none|apply Ev.name (by assumption)|exact List.mem_cons_self|apply List.mem_cons_of_mem|apply Ev.bin (by assumption)|exact op_add|exact op_sub|exact op_mul|exact op_and|exact op_xor|exact op_shr (by decide)|exact op_eqs|exact op_eq|exact op_ge|exact op_ishr (by decide))) (by (repeat first|((with_reducible refine Put.here ?_);first|rfl|assumption)|apply Put.there)) ?_)
  refine St.cons (St1.for (ht := by first | exact .inl ⟨_, _, rfl⟩ | exact .inr ⟨_, _, _, rfl⟩) (hs := by intro _; rfl) hC (EvIt.range1 (hn := by rfl) hC gr (EvL.cons (hs := by intro _; rfl) hC (Ev.callB (hn := by rfl) hC gl (EvL.cons (hs := by intro _; rfl) hC (by (repeat' with_reducible first|exact Ev.int|exact Ev.str rfl|exact Ev.bool|exact Ev.none|apply Ev.name (by assumption)|exact List.mem_cons_self|apply List.mem_cons_of_mem|apply Ev.bin (by assumption)|exact op_add|exact op_sub|exact op_mul|exact op_and|exact op_xor|exact op_shr (by decide)|exact op_eqs|exact op_eq|exact op_ge|exact op_ishr (by decide))) EvL.nil) (call_lenS (x := pl) (by lia))) EvL.nil) (by lia) (by lia)) (fun i ρ _ => ρ = [en "number" (.val (.int n)), en "quoted" (.val (.bool q)), en "two" (.val (.bool t)), en "plain" (.val (.str pl)), en "written" (.val (.str (pieceW n q pl i))), en "k" .undef, en "needs" .undef]) rfl ?_ ?_)
  · rintro i p ρ₁ g₂ hp rfl
    obtain ⟨hi, rfl⟩ := rangeN_get hp
    have hi' : i < pl.length := by lia
    have hit : ∀ {ρ : Env'} {g : C.G} {p1 p2 p3 : Pos}, (Str.ofString "plain", LV.val (.str pl)) ∈ ρ → (Str.ofString "k", LV.val (.int (i : Int))) ∈ ρ → Ev C ρ g (.Subscript (.Name "plain" p1) (.Name "k" p2) p3) (.str [pl.getD i 0]) g := fun h1 h2 =>
      Ev.sub (hs := by intro _ _; rfl) hC (Ev.name hC h1) (Ev.name hC h2) (item_str (i := (i : Int)) (by lia) (by lia) (getD_some hi'))
    refine ⟨_, Binds.name (by (repeat first|((with_reducible refine Put.here ?_);first|rfl|assumption)|apply Put.there)), ?_⟩
    refine St.cons (St1.assign (hs := by rfl) (g₁ := g₂) hC (v := .bool (needsQ q i (pl.getD i 0))) (Ev.ifExp hC (EvB.val (he := by rfl) hC (p := .bool q) (by (repeat' with_reducible first|exact Ev.int|exact Ev.str rfl|exact Ev.bool|exact Ev.none|apply Ev.name (by assumption)|exact List.mem_cons_self|apply List.mem_cons_of_mem|apply Ev.bin (by assumption)|exact op_add|exact op_sub|exact op_mul|exact op_and|exact op_xor|exact op_shr (by decide)|exact op_eqs|exact op_eq|exact op_ge|exact op_ishr (by decide))) rfl) (fun h => ?_) fun h => ?_) (by (repeat first|((with_reducible refine Put.here ?_);first|rfl|assumption)|apply Put.there)) ?_)
    · have h' : q = true := h
      unfold needsQ; (with_reducible_and_instances (refine rwG ((if_pos h') ..) ?_))
      exact Ev.cmp (hm := by with_unfolding_all rfl) hC (hit (by (repeat first|with_reducible exact List.mem_cons_self|apply List.mem_cons_of_mem)) (by (repeat first|with_reducible exact List.mem_cons_self|apply List.mem_cons_of_mem))) (Ev.str (l := [34, 92]) rfl) op_in
    · have h' : q = false := h
      unfold needsQ; ((with_reducible_and_instances (refine rwG ((if_neg (by rw [h']; decide)) ..) ?_)))
      refine Ev.or2 hC (p := decide (pl.getD i 0 ∈ [32, 9, 13, 10, 92])) (q := decide (pl.getD i 0 = 34) && decide (i = 0)) (Ev.cmp (hm := by with_unfolding_all rfl) hC (hit (by (repeat first|with_reducible exact List.mem_cons_self|apply List.mem_cons_of_mem)) (by (repeat first|with_reducible exact List.mem_cons_self|apply List.mem_cons_of_mem))) (Ev.str (l := [32, 9, 13, 10, 92]) rfl) op_in) fun _ => Ev.and2 hC (p := decide (pl.getD i 0 = 34)) (q := decide (i = 0)) ?_ fun _ => ?_
      · have e : decide (pl.getD i 0 = 34) = ([pl.getD i 0] == [34]) := by rw [Bool.eq_iff_iff]; simp
        (with_reducible_and_instances (refine rwG (e ..) ?_))
        exact Ev.cmp (hm := by with_unfolding_all rfl) hC (hit (by (repeat first|with_reducible exact List.mem_cons_self|apply List.mem_cons_of_mem)) (by (repeat first|with_reducible exact List.mem_cons_self|apply List.mem_cons_of_mem))) (Ev.str rfl) op_eqs
      · exact Ev.cmp (hm := by with_unfolding_all rfl) hC (Ev.name hC (p := .int (i : Int)) (by (repeat first|with_reducible exact List.mem_cons_self|apply List.mem_cons_of_mem))) Ev.int (op_eqN (b := 0))
    have hcond2 : ∀ {ρ : Env'} {g : C.G} {nb : Bool} {p1 p2 p3 p4 p5 p6 p7 p8 p9 p10 p11 p12 p13 : Pos} {k1 k2 k3 k4 : Nat}, (Str.ofString "needs", LV.val (.bool nb)) ∈ ρ → (Str.ofString "number", LV.val (.int (n : Int))) ∈ ρ → (Str.ofString "k", LV.val (.int (i : Int))) ∈ ρ →
        EvB C ρ g (.BoolOp .Or [.Name "needs" p1, .Compare (.BinOp (.BinOp (.BinOp (.Name "number" p2) .FloorDiv (.Constant (.int 4096) k1 p3) p4) .FloorDiv (.BinOp (.Name "k" p5) .Add (.Constant (.int 1) k2 p6) p7) p8) .Mod (.Constant (.int 2) k3 p9) p10) [.Eq] [.Constant (.int 1) k4 p11] p12] p13) (nb || decide (n / 4096 / (i + 1) % 2 = 1)) g := fun {ρ g nb} _ _ _ _ _ _ _ _ _ _ _ _ _ _ _ _ _ h1 h2 h3 => by
      have e : (nb || decide (n / 4096 / (i + 1) % 2 = 1)) = (truthOf (.bool nb) || (decide (n / 4096 / (i + 1) % 2 = 1) || false)) := by rw [Bool.or_false]; rfl
      (with_reducible_and_instances (refine rwG (e ..) ?_))
      exact EvB.boolOp (EvAll.consOr hC (EvB.val (he := by rfl) hC (Ev.name hC h1) rfl) fun _ => EvAll.consOr hC (EvB.cmp (hm := by with_unfolding_all rfl) hC (Ev.bin hC (Ev.bin hC (Ev.bin hC (Ev.name hC h2) Ev.int (op_fdivN (b := 4096) (by decide) (by decide))) (Ev.bin hC (Ev.name hC h3) Ev.int (op_addN (b := 1))) (op_fdivN (b := i + 1) (by lia) (by lia))) Ev.int (op_modN (b := 2) (by decide))) Ev.int (op_eqN (b := 1))) fun _ => EvAll.nilOr)
    have hl2 := pieceW_len (n := n) (q := q) (pl := pl) i
    refine St.one (St1.aug (g₁ := g₂) hC (q := .str ((if needsQ q i (pl.getD i 0) || decide (n / 4096 / (i + 1) % 2 = 1) then [92] else []) ++ [pl.getD i 0])) (by (repeat first|with_reducible exact List.mem_cons_self|apply List.mem_cons_of_mem)) (Ev.bin hC (Ev.ifExp hC (hcond2 (by (repeat first|with_reducible exact List.mem_cons_self|apply List.mem_cons_of_mem)) (by (repeat first|with_reducible exact List.mem_cons_self|apply List.mem_cons_of_mem)) (by (repeat first|with_reducible exact List.mem_cons_self|apply List.mem_cons_of_mem))) (fun h => ?_) fun h => ?_) (hit (by (repeat first|with_reducible exact List.mem_cons_self|apply List.mem_cons_of_mem)) (by (repeat first|with_reducible exact List.mem_cons_self|apply List.mem_cons_of_mem))) (op_cat ?_)) (op_icat ?_) (by (repeat first|((with_reducible refine Put.here ?_);first|rfl|assumption)|apply Put.there)) ⟨_, ?_, rfl⟩)
    · (with_reducible_and_instances (refine rwG ((if_pos h) ..) ?_)); exact Ev.str rfl
    · ((with_reducible_and_instances (refine rwG ((if_neg (by rw [h]; decide)) ..) ?_))); exact Ev.str rfl
    · split <;> simp
    · split <;> simp <;> lia
    · (repeat first|exact Weak.nil|((with_reducible apply Weak.keep))|((with_reducible refine Weak.drop ?_ ?_);first|rfl|assumption)|((with_reducible refine Weak.val ?_ ?_);rotate_left)|((with_reducible refine Weak.own ?_ ?_);rotate_left))
      rfl
  · rintro ρ₁ g₂ rfl
    have hn : (rangeItems 0 1 ((pl.length : Int)).toNat).length = pl.length := by (with_reducible_and_instances (refine rwG (rangeItems_length ..) ?_)); lia
    (with_reducible_and_instances (refine rwG (hn ..) ?_))
    exact St.one (St1.ret hC (Ev.tup hC (EvL.cons (hs := by intro _; rfl) hC (by (repeat' with_reducible first|exact Ev.int|exact Ev.str rfl|exact Ev.bool|exact Ev.none|apply Ev.name (by assumption)|exact List.mem_cons_self|apply List.mem_cons_of_mem|apply Ev.bin (by assumption)|exact op_add|exact op_sub|exact op_mul|exact op_and|exact op_xor|exact op_shr (by decide)|exact op_eqs|exact op_eq|exact op_ge|exact op_ishr (by decide))) (EvL.cons (hs := by intro _; rfl) hC (by (repeat' with_reducible first|exact Ev.int|exact Ev.str rfl|exact Ev.bool|exact Ev.none|apply Ev.name (by assumption)|exact List.mem_cons_self|apply List.mem_cons_of_mem|apply Ev.bin (by assumption)|exact op_add|exact op_sub|exact op_mul|exact op_and|exact op_xor|exact op_shr (by decide)|exact op_eqs|exact op_eq|exact op_ge|exact op_ishr (by decide))) EvL.nil)) (by simp)) rfl)

theorem piece_fn {f : Addr} {o : Obj} {fd : FuncData} (hT : ∀ h h' : Heap, T h → (∀ b o, h.get? b = some o → h'.get? b = some o) → T h') (hst : st = stmtAt theProg 5) (D : DefAt T st ["number", "quoted", "two"] f o fd) (hrange : TG T "range" (.type "range")) (hlen : TG T "len" (.builtin "len")) (hchr : TG T "chr" (.builtin "chr")) (n : Nat) (q t : Bool) :
    Fn prog w T 1 (.ref f) [.int n, .bool q, .bool t] (piecePV (lawPiece n q t)) :=
  Fn.def ["plain", "written", "k", "needs"] hT D rfl (by decide) (by subst hst; decide +kernel) (by decide +kernel) (by subst hst; rfl) (by subst hst; rfl) (by subst hst; rfl) fun C g F => StP.mono (piece_body hst F.top hrange hlen hchr n q t) fun fl ρ g h => .inl h
end
end Mine.Internal
end

section
namespace Mine.Internal
open PySem PySem.Calls PyProof.Rows PySem.W

noncomputable abbrev pvInts (l : List Nat) : List PV := l.map fun (n : Nat) => PV.int (n : Int)

theorem slice_init {α : Type} (x : List α) : pySlice x none (some (-1)) = x.dropLast := by
  ((with_reducible_and_instances (refine rwG ((pySlice_nat (a := 0) rfl (clip_neg _ _)) ..) ?_; refine rwG (List.drop_zero ..) ?_; refine rwG (List.dropLast_eq_take ..) ?_)); rewrite [Nat.sub_zero]; (with_reducible rfl))
theorem slice_to {α : Type} (x : List α) (k : Nat) : pySlice x none (some (k : Int)) = x.take k := by
  ((with_reducible_and_instances (refine rwG ((pySlice_nat (a := 0) rfl (clip_nat k _ _)) ..) ?_; refine rwG (List.drop_zero ..) ?_)); rewrite [Nat.sub_zero]; (with_reducible_and_instances (refine rwL (List.take_take ..) ?_; refine rwG (List.take_length ..) ?_)); (with_reducible rfl))
theorem slice_from {α : Type} (x : List α) (k : Nat) : pySlice x (some (k : Int)) none = x.drop k := by
  (with_reducible_and_instances (refine rwG ((pySlice_nat (b := x.length) (clip_nat k _ _) rfl) ..) ?_))
  by_cases h : k ≤ x.length
  · ((with_reducible_and_instances (refine rwG ((Nat.min_eq_left h) ..) ?_; refine rwL (List.length_drop ..) ?_; refine rwG (List.take_length ..) ?_)); (with_reducible rfl))
  · ((with_reducible_and_instances (refine rwG ((Nat.min_eq_right (Nat.le_of_not_le h)) ..) ?_; refine rwG ((List.drop_eq_nil_of_le (Nat.le_refl _)) ..) ?_; refine rwG ((List.drop_eq_nil_of_le (Nat.le_of_not_le h)) ..) ?_; refine rwG (List.take_nil ..) ?_)); (with_reducible rfl))

noncomputable abbrev File := List Nat × List (List Nat) × List Nat
noncomputable def filePV (f : File) : PV := .tup [.str f.1, .list (f.2.1.map .str), .list (pvInts f.2.2)]
noncomputable def fileA (p : List Nat × List Nat) (f : File) : File := (f.1 ++ p.2, f.2.1.dropLast ++ [f.2.1.getLastD [] ++ p.1], f.2.2)
noncomputable def fileB (p : List Nat × List Nat) (gap : List Nat) (f : File) : File := (f.1 ++ gap ++ p.2, f.2.1 ++ [p.1], f.2.2 ++ [f.1.length + 1])
noncomputable def growF (p : List Nat × List Nat) (gap : List Nat) (f : File) : List File := [fileA p f, fileB p gap f]
noncomputable def filesN (P : List (List Nat × List Nat)) (G : List (List Nat)) (first : List Nat) : Nat → List File
  | 0 => [(first, [(P.getD 0 ([], [])).1], [])]
  | k + 1 => (filesN P G first k).flatMap (growF (P.getD (k + 1) ([], [])) (G.getD (k + 1) []))
structure SmallP (P : List (List Nat × List Nat)) (G : List (List Nat)) (first : List Nat) : Prop where
  n0 : 0 < P.length
  n4 : P.length ≤ 4
  gp : G.length = P.length
  fs : first.length ≤ 20
  pl : ∀ i, (P.getD i ([], [])).1.length ≤ 10
  wr : ∀ i, (P.getD i ([], [])).2.length ≤ 10
  gap : ∀ i, (G.getD i []).length ≤ 10
  gap1 : ∀ i, i < P.length → 0 < (G.getD i []).length
structure SmallF (k : Nat) (f : File) : Prop where
  text : f.1.length ≤ 20 + 20 * k
  ne : f.2.1 ≠ []
  wl : f.2.1.length ≤ k + 1
  sl : f.2.2.length + 1 = f.2.1.length
  word : ∀ w ∈ f.2.1, w.length ≤ 10 * (k + 1)
  stop : ∀ s ∈ f.2.2, s ≤ f.1.length
theorem last_mem {α : Type} {l : List α} {d : α} (h : l ≠ []) : l.getLastD d ∈ l := by
  cases l with
  | nil => exact absurd rfl h
  | cons a r => (with_reducible_and_instances (refine rwG (List.getLastD_cons ..) ?_)); exact List.getLastD_mem_cons
theorem small_A {P : List (List Nat × List Nat)} {G : List (List Nat)} {first : List Nat} (h : SmallP P G first) {k : Nat} {f : File} (q : SmallF k f) (j : Nat) : SmallF (k + 1) (fileA (P.getD j ([], [])) f) where
  text := by have h1 := h.wr j; have h2 := q.text; show (f.1 ++ _).length ≤ _; (with_reducible_and_instances (refine rwG (List.length_append ..) ?_)); lia
  ne := by show _ ++ [_] ≠ []; simp
  wl := by have := q.wl; show (_ ++ [_]).length ≤ _; ((with_reducible_and_instances (refine rwG (List.length_append ..) ?_; refine rwG (List.length_dropLast ..) ?_))); simp; lia
  sl := by
    have h1 := q.sl
    have : 0 < f.2.1.length := List.length_pos_iff.mpr q.ne
    show f.2.2.length + 1 = (_ ++ [_]).length; ((with_reducible_and_instances (refine rwG (List.length_append ..) ?_; refine rwG (List.length_dropLast ..) ?_))); simp; lia
  word := fun w hw => by
    have hw' : w ∈ f.2.1.dropLast ++ [f.2.1.getLastD [] ++ (P.getD j ([], [])).1] := hw
    rcases List.mem_append.mp hw' with m | m
    · have := q.word w (List.dropLast_subset _ m); lia
    · rw [List.mem_singleton] at m
      have h1 := q.word _ (last_mem (d := []) q.ne)
      have h2 := h.pl j
      ((with_reducible_and_instances (refine rwG (m ..) ?_; refine rwG (List.length_append ..) ?_))); lia
  stop := fun s hs => by have := q.stop s hs; show s ≤ (f.1 ++ _).length; (with_reducible_and_instances (refine rwG (List.length_append ..) ?_)); lia
theorem small_B {P : List (List Nat × List Nat)} {G : List (List Nat)} {first : List Nat} (h : SmallP P G first) {k : Nat} {f : File} (q : SmallF k f) (j : Nat) (hj : j < P.length) : SmallF (k + 1) (fileB (P.getD j ([], [])) (G.getD j []) f) where
  text := by have h1 := h.wr j; have h2 := q.text; have h3 := h.gap j; show (f.1 ++ _ ++ _).length ≤ _; ((with_reducible_and_instances (refine rwG (List.length_append ..) ?_; refine rwG (List.length_append ..) ?_))); lia
  ne := by show _ ++ [_] ≠ []; simp
  wl := by have := q.wl; show (_ ++ [_]).length ≤ _; (with_reducible_and_instances (refine rwG (List.length_append ..) ?_)); simp; lia
  sl := by
    have h1 := q.sl
    show (_ ++ [_]).length + 1 = (_ ++ [_]).length; ((with_reducible_and_instances (refine rwG (List.length_append ..) ?_; refine rwG (List.length_append ..) ?_))); simp; lia
  word := fun w hw => by
    have hw' : w ∈ f.2.1 ++ [(P.getD j ([], [])).1] := hw
    rcases List.mem_append.mp hw' with m | m
    · have := q.word w m; lia
    · rw [List.mem_singleton] at m
      have h2 := h.pl j
      (with_reducible_and_instances (refine rwG (m ..) ?_)); lia
  stop := fun s hs => by
    have hs' : s ∈ f.2.2 ++ [f.1.length + 1] := hs
    have h3 : (G.getD j []).length + (P.getD j ([], [])).2.length = (G.getD j []).length + (P.getD j ([], [])).2.length := rfl
    show s ≤ (f.1 ++ G.getD j [] ++ (P.getD j ([], [])).2).length
    ((with_reducible_and_instances (refine rwG (List.length_append ..) ?_; refine rwG (List.length_append ..) ?_)))
    rcases List.mem_append.mp hs' with m | m
    · have := q.stop s m; lia
    · rw [List.mem_singleton] at m
      have h4 := h.gap1 j hj
      lia
theorem files_small {P : List (List Nat × List Nat)} {G : List (List Nat)} {first : List Nat} (h : SmallP P G first) : ∀ k, k < P.length → ∀ f ∈ filesN P G first k, SmallF k f
  | 0, _, f, hf => by
    have e : f = (first, [(P.getD 0 ([], [])).1], []) := List.mem_singleton.mp hf
    (with_reducible_and_instances (refine rwG (e ..) ?_))
    exact ⟨h.fs, by simp, by simp, rfl, fun w hw => by (with_reducible_and_instances (refine rwG ((List.mem_singleton.mp hw) ..) ?_)); exact h.pl 0, fun s hs => nomatch hs⟩
  | k + 1, hk, f, hf => by
    obtain ⟨f', hf', hm⟩ := List.mem_flatMap.mp hf
    have q := files_small h k (by lia) f' hf'
    rcases List.mem_cons.mp hm with e | hm
    · (with_reducible_and_instances (refine rwG (e ..) ?_)); exact small_A h q _
    · (with_reducible_and_instances (refine rwG ((List.mem_singleton.mp hm) ..) ?_)); exact small_B h q _ hk
theorem filesN_len {P : List (List Nat × List Nat)} {G : List (List Nat)} {first : List Nat} : ∀ k, (filesN P G first k).length = 2 ^ k
  | 0 => rfl
  | k + 1 => by
    (rewrite [filesN]; (with_reducible_and_instances (refine rwG (List.length_flatMap ..) ?_)))
    have : (fun x => (growF (P.getD (k + 1) ([], [])) (G.getD (k + 1) []) x).length) = fun _ => 2 := rfl
    ((with_reducible_and_instances (refine rwG (this ..) ?_; refine rwG (List.map_const' ..) ?_; refine rwG (List.sum_replicate_nat ..) ?_; refine rwG ((filesN_len k) ..) ?_)); rewrite [Nat.pow_succ]; (with_reducible rfl))

section
variable {C : Cx} {g : C.G} {prog : Program} {w : World} {T : Heap → Prop} {d : Nat} {st : Stmt}

noncomputable abbrev filesEnv (P : List (List Nat × List Nat)) (G : List (List Nat)) (first : List Nat) (files k plain written grown : LV) : Env' :=
  [en "first" (.val (.str first)), en "pieces" (.val (.list (P.map piecePV))), en "gaps" (.val (.list (G.map .str))), en "files" files, en "k" k, en "plain" plain, en "written" written, en "grown" grown, en "text" .undef, en "words" .undef, en "stops" .undef]

set_option maxHeartbeats 1000000 in
theorem files_body (hst : st = stmtAt theProg 7) (F : TopAt C prog w T d (stmtScope st)) (hrange : TG T "range" (.type "range")) (hlen : TG T "len" (.builtin "len")) {P : List (List Nat × List Nat)} {G : List (List Nat)} {first : List Nat} (h : SmallP P G first) :
    St C (filesEnv P G first .undef .undef .undef .undef .undef) g (stmtBody st) (fun fl _ _ => fl = .ret (.list ((filesN P G first (P.length - 1)).map filePV))) := by
  have hC := F.ok
  have gr := F.glob hrange (by subst hst; rfl)
  have gl := F.glob hlen (by subst hst; rfl)
  have hint : interactive C.env = false := by unfold interactive; (with_reducible_and_instances (refine rwG (F.scope ..) ?_)); subst hst; rfl
  have h0 := h.n0
  have h4 := h.n4
  have hgp := h.gp
  clear F
  subst hst
  have hPl : (P.map piecePV).length = P.length := List.length_map _
  have hN : ∀ {ρ : Env'} {g : C.G} {p1 p2 p3 : Pos}, (Str.ofString "pieces", LV.val (.list (P.map piecePV))) ∈ ρ → Ev C ρ g (.Call (.Name "len" p1) [.Name "pieces" p2] [] p3) (.int (P.length : Int)) g := fun h => by
    (with_reducible_and_instances (refine rwL (hPl ..) ?_))
    exact Ev.callB (hn := by rfl) hC gl (EvL.cons (hs := by intro _; rfl) hC (Ev.name hC h) EvL.nil) (call_lenL (by rw [List.length_map]; lia))
  have hP : ∀ {i : Nat}, i < P.length → (P.map piecePV)[(i : Int).toNat]? = some (piecePV (P.getD i ([], []))) := fun hi => by
    (rewrite [Int.toNat_natCast]; (with_reducible_and_instances (refine rwG ((List.getElem?_map) ..) ?_; refine rwG ((getD_some (d := ([], [])) hi) ..) ?_))); rfl
  have hG : ∀ {i : Nat}, i < P.length → (G.map PV.str)[(i : Int).toNat]? = some (.str (G.getD i [])) := fun hi => by
    (rewrite [Int.toNat_natCast]; (with_reducible_and_instances (refine rwG ((List.getElem?_map) ..) ?_; refine rwG ((getD_some (d := []) (by lia)) ..) ?_))); rfl
  refine St.cons (St1.assign (hs := by rfl) (g₁ := g) hC (v := .list ((filesN P G first 0).map filePV)) (Ev.list (ps := (filesN P G first 0).map filePV) hC (EvL.cons (hs := by intro _; rfl) hC (Ev.tup hC (EvL.cons (hs := by intro _; rfl) hC (by (repeat' with_reducible first|exact Ev.int|exact Ev.str rfl|exact Ev.bool|exact Ev.none|apply Ev.name (by assumption)|exact List.mem_cons_self|apply List.mem_cons_of_mem|apply Ev.bin (by assumption)|exact op_add|exact op_sub|exact op_mul|exact op_and|exact op_xor|exact op_shr (by decide)|exact op_eqs|exact op_eq|exact op_ge|exact op_ishr (by decide))) (EvL.cons (hs := by intro _; rfl) hC (Ev.list (ps := [PV.str (P.getD 0 ([], [])).1]) hC (EvL.cons (hs := by intro _; rfl) hC (Ev.sub (hs := by intro _ _; rfl) hC (Ev.sub (hs := by intro _ _; rfl) hC (by (repeat' with_reducible first|exact Ev.int|exact Ev.str rfl|exact Ev.bool|exact Ev.none|apply Ev.name (by assumption)|exact List.mem_cons_self|apply List.mem_cons_of_mem|apply Ev.bin (by assumption)|exact op_add|exact op_sub|exact op_mul|exact op_and|exact op_xor|exact op_shr (by decide)|exact op_eqs|exact op_eq|exact op_ge|exact op_ishr (by decide))) Ev.int (item_list (by decide) (by decide) (hP (i := 0) h0))) Ev.int (item_tup (by decide) (by decide) rfl)) EvL.nil) (by simp)) (EvL.cons (hs := by intro _; rfl) hC (Ev.list (ps := []) hC EvL.nil (by simp)) EvL.nil))) (by simp)) EvL.nil) (by simp [filesN])) (by (repeat first|((with_reducible refine Put.here ?_);first|rfl|assumption)|apply Put.there)) ?_)
  refine St.cons (St1.for (ht := by first | exact .inl ⟨_, _, rfl⟩ | exact .inr ⟨_, _, _, rfl⟩) (hs := by intro _; rfl) hC (EvIt.range2 (hn := by rfl) (a := 1) (b := (P.length : Int)) hC gr (EvL.cons (hs := by intro _; rfl) hC Ev.int (EvL.cons (hs := by intro _; rfl) hC (hN (by (repeat first|with_reducible exact List.mem_cons_self|apply List.mem_cons_of_mem))) EvL.nil)) (by lia) (by lia) (by lia) (by lia)) (fun i ρ _ => ρ = filesEnv P G first (.val (.list ((filesN P G first i).map filePV))) .undef .undef .undef .undef) rfl ?_ ?_)
  · rintro i p ρ₁ g₂ hp rfl
    obtain ⟨hi, rfl⟩ := rangeItems_get hp
    have hi' : i + 1 < P.length := by lia
    have e1 : (1 : Int) + (i : Int) * 1 = ((i + 1 : Nat) : Int) := by lia
    (with_reducible_and_instances (refine rwG (e1 ..) ?_))
    refine ⟨_, Binds.name (by (repeat first|((with_reducible refine Put.here ?_);first|rfl|assumption)|apply Put.there)), ?_⟩
    generalize hp : P.getD (i + 1) ([], []) = p at *
    have hp1 : p.1.length ≤ 10 := hp ▸ h.pl (i + 1)
    have hp2 : p.2.length ≤ 10 := hp ▸ h.wr (i + 1)
    refine St.cons (St1.assignTup (hs := by rfl) (hw := by rfl) (vs := [.str p.1, .str p.2]) hC (Ev.sub (hs := by intro _ _; rfl) hC (by (repeat' with_reducible first|exact Ev.int|exact Ev.str rfl|exact Ev.bool|exact Ev.none|apply Ev.name (by assumption)|exact List.mem_cons_self|apply List.mem_cons_of_mem|apply Ev.bin (by assumption)|exact op_add|exact op_sub|exact op_mul|exact op_and|exact op_xor|exact op_shr (by decide)|exact op_eqs|exact op_eq|exact op_ge|exact op_ishr (by decide))) (by (repeat' with_reducible first|exact Ev.int|exact Ev.str rfl|exact Ev.bool|exact Ev.none|apply Ev.name (by assumption)|exact List.mem_cons_self|apply List.mem_cons_of_mem|apply Ev.bin (by assumption)|exact op_add|exact op_sub|exact op_mul|exact op_and|exact op_xor|exact op_shr (by decide)|exact op_eqs|exact op_eq|exact op_ge|exact op_ishr (by decide))) (item_list (r := .tup [.str p.1, .str p.2]) (by lia) (by lia) (by ((with_reducible_and_instances (refine rwG ((hP hi') ..) ?_; refine rwG (hp ..) ?_))); rfl))) (.cons (by (repeat first|((with_reducible refine Put.here ?_);first|rfl|assumption)|apply Put.there)) (.cons (by (repeat first|((with_reducible refine Put.here ?_);first|rfl|assumption)|apply Put.there)) .nil)) ?_)
    refine St.cons (St1.assignOwn hC EvL.nil (by decide) (by (repeat first|((with_reducible refine Put.here ?_);first|rfl|assumption)|apply Put.there)) ?_)
    have hsm := files_small h i (by lia)
    have hln : (filesN P G first i).length ≤ 8 := by
      rw [filesN_len]
      have hh : i = 0 ∨ i = 1 ∨ i = 2 := by lia
      rcases hh with rfl | rfl | rfl <;> decide
    have hgap := h.gap (i + 1)
    have hgi := hG hi'
    have hnext : filesN P G first (i + 1) = (filesN P G first i).flatMap (growF p (G.getD (i + 1) [])) := by (rewrite [filesN]; (with_reducible_and_instances (refine rwG (hp ..) ?_)); (with_reducible rfl))
    generalize filesN P G first i = fs at *
    generalize G.getD (i + 1) [] = gap at *
    have hgl : ∀ j, (((fs.take j).flatMap (growF p gap)).map filePV).length ≤ 16 := fun j => by
      (rewrite [List.length_map]; (with_reducible_and_instances (refine rwG (List.length_flatMap ..) ?_)))
      have : (fun x => (growF p gap x).length) = fun _ => 2 := rfl
      ((with_reducible_and_instances (refine rwG (this ..) ?_; refine rwG (List.map_const' ..) ?_; refine rwG (List.sum_replicate_nat ..) ?_; refine rwG (List.length_take ..) ?_))); lia
    refine St.cons (St1.for (ht := by first | exact .inl ⟨_, _, rfl⟩ | exact .inr ⟨_, _, _, rfl⟩) (hs := by intro _; rfl) (g₁ := g₂) hC (EvIt.list (items := fs.map filePV) hC (by (repeat' with_reducible first|exact Ev.int|exact Ev.str rfl|exact Ev.bool|exact Ev.none|apply Ev.name (by assumption)|exact List.mem_cons_self|apply List.mem_cons_of_mem|apply Ev.bin (by assumption)|exact op_add|exact op_sub|exact op_mul|exact op_and|exact op_xor|exact op_shr (by decide)|exact op_eqs|exact op_eq|exact op_ge|exact op_ishr (by decide)))) (fun j ρ _ => ρ = filesEnv P G first (.val (.list (fs.map filePV))) (.val (.int ((i + 1 : Nat) : Int))) (.val (.str p.1)) (.val (.str p.2)) (.own (((fs.take j).flatMap (growF p gap)).map filePV))) rfl ?_ ?_)
    · rintro j q ρ₁ g₃ hq rfl
      obtain ⟨f, hf, rfl⟩ : ∃ f, fs[j]? = some f ∧ q = filePV f := by
        rw [List.getElem?_map] at hq
        cases e : fs[j]? with
        | none => rw [e] at hq; cases hq
        | some c => rw [e] at hq; cases hq; exact ⟨c, rfl, rfl⟩
      have sf := hsm f (List.mem_of_getElem? hf)
      have s1 := sf.text
      have s2 := sf.wl
      have s3 := sf.sl
      have hlast := sf.word _ (last_mem (d := []) sf.ne)
      have hgj := hgl j
      have hlst : (f.2.1.map PV.str).getLast? = some (.str (f.2.1.getLastD [])) := by
        ((with_reducible_and_instances (refine rwG ((List.getLast?_map) ..) ?_; refine rwG ((List.getLastD_eq_getLast?) ..) ?_; refine rwG ((List.getLast?_eq_some_getLast sf.ne) ..) ?_))); rfl
      refine ⟨_, Binds.tup (vs := [.str f.1, .list (f.2.1.map .str), .list (pvInts f.2.2)]) (.cons (by (repeat first|((with_reducible refine Put.here ?_);first|rfl|assumption)|apply Put.there)) (.cons (by (repeat first|((with_reducible refine Put.here ?_);first|rfl|assumption)|apply Put.there)) (.cons (by (repeat first|((with_reducible refine Put.here ?_);first|rfl|assumption)|apply Put.there)) .nil))), ?_⟩
      refine St.cons (St1.append (hline := by rfl) (hfew := by rfl) (htrees := by rfl) (p := filePV (fileA p f)) (g₁ := g₃) hC (by (repeat first|with_reducible exact List.mem_cons_self|apply List.mem_cons_of_mem)) (Ev.tup hC (EvL.cons (hs := by intro _; rfl) hC (Ev.bin hC (by (repeat' with_reducible first|exact Ev.int|exact Ev.str rfl|exact Ev.bool|exact Ev.none|apply Ev.name (by assumption)|exact List.mem_cons_self|apply List.mem_cons_of_mem|apply Ev.bin (by assumption)|exact op_add|exact op_sub|exact op_mul|exact op_and|exact op_xor|exact op_shr (by decide)|exact op_eqs|exact op_eq|exact op_ge|exact op_ishr (by decide))) (by (repeat' with_reducible first|exact Ev.int|exact Ev.str rfl|exact Ev.bool|exact Ev.none|apply Ev.name (by assumption)|exact List.mem_cons_self|apply List.mem_cons_of_mem|apply Ev.bin (by assumption)|exact op_add|exact op_sub|exact op_mul|exact op_and|exact op_xor|exact op_shr (by decide)|exact op_eqs|exact op_eq|exact op_ge|exact op_ishr (by decide))) (op_cat (by lia))) (EvL.cons (hs := by intro _; rfl) (p := .list ((f.2.1.dropLast ++ [f.2.1.getLastD [] ++ p.1]).map .str)) hC ?_ (EvL.cons (hs := by intro _; rfl) (p := .list (pvInts f.2.2)) hC (by (repeat' with_reducible first|exact Ev.int|exact Ev.str rfl|exact Ev.bool|exact Ev.none|apply Ev.name (by assumption)|exact List.mem_cons_self|apply List.mem_cons_of_mem|apply Ev.bin (by assumption)|exact op_add|exact op_sub|exact op_mul|exact op_and|exact op_xor|exact op_shr (by decide)|exact op_eqs|exact op_eq|exact op_ge|exact op_ishr (by decide))) EvL.nil))) (by simp)) (by lia) (by (repeat first|((with_reducible refine Put.here ?_);first|rfl|assumption)|apply Put.there)) ?_ hint)
      · ((with_reducible_and_instances (refine rwG (List.map_append ..) ?_; refine rwG (List.map_dropLast ..) ?_)); rewrite [← slice_init])
        refine Ev.bin hC (Ev.sliceList hC (by (repeat' with_reducible first|exact Ev.int|exact Ev.str rfl|exact Ev.bool|exact Ev.none|apply Ev.name (by assumption)|exact List.mem_cons_self|apply List.mem_cons_of_mem|apply Ev.bin (by assumption)|exact op_add|exact op_sub|exact op_mul|exact op_and|exact op_xor|exact op_shr (by decide)|exact op_eqs|exact op_eq|exact op_ge|exact op_ishr (by decide))) EvO.none (EvO.some (Ev.neg hC Ev.int)) (by rw [List.length_map]; lia)) (Ev.list hC (EvL.cons (hs := by intro _; rfl) hC (Ev.bin hC (Ev.sub (hs := by intro _ _; rfl) hC (by (repeat' with_reducible first|exact Ev.int|exact Ev.str rfl|exact Ev.bool|exact Ev.none|apply Ev.name (by assumption)|exact List.mem_cons_self|apply List.mem_cons_of_mem|apply Ev.bin (by assumption)|exact op_add|exact op_sub|exact op_mul|exact op_and|exact op_xor|exact op_shr (by decide)|exact op_eqs|exact op_eq|exact op_ge|exact op_ishr (by decide))) (Ev.neg hC Ev.int) (item_list_last (by rw [List.length_map]; lia) hlst)) (by (repeat' with_reducible first|exact Ev.int|exact Ev.str rfl|exact Ev.bool|exact Ev.none|apply Ev.name (by assumption)|exact List.mem_cons_self|apply List.mem_cons_of_mem|apply Ev.bin (by assumption)|exact op_add|exact op_sub|exact op_mul|exact op_and|exact op_xor|exact op_shr (by decide)|exact op_eqs|exact op_eq|exact op_ge|exact op_ishr (by decide))) (op_cat (by lia))) EvL.nil) (by simp)) (op_catList ?_)
        rw [slice_init]; simp; lia
      refine St.one (St1.append (hline := by rfl) (hfew := by rfl) (htrees := by rfl) (p := filePV (fileB p gap f)) (g₁ := g₃) hC (by (repeat first|with_reducible exact List.mem_cons_self|apply List.mem_cons_of_mem)) (Ev.tup hC (EvL.cons (hs := by intro _; rfl) hC (Ev.bin hC (Ev.bin hC (by (repeat' with_reducible first|exact Ev.int|exact Ev.str rfl|exact Ev.bool|exact Ev.none|apply Ev.name (by assumption)|exact List.mem_cons_self|apply List.mem_cons_of_mem|apply Ev.bin (by assumption)|exact op_add|exact op_sub|exact op_mul|exact op_and|exact op_xor|exact op_shr (by decide)|exact op_eqs|exact op_eq|exact op_ge|exact op_ishr (by decide))) (Ev.sub (hs := by intro _ _; rfl) hC (by (repeat' with_reducible first|exact Ev.int|exact Ev.str rfl|exact Ev.bool|exact Ev.none|apply Ev.name (by assumption)|exact List.mem_cons_self|apply List.mem_cons_of_mem|apply Ev.bin (by assumption)|exact op_add|exact op_sub|exact op_mul|exact op_and|exact op_xor|exact op_shr (by decide)|exact op_eqs|exact op_eq|exact op_ge|exact op_ishr (by decide))) (by (repeat' with_reducible first|exact Ev.int|exact Ev.str rfl|exact Ev.bool|exact Ev.none|apply Ev.name (by assumption)|exact List.mem_cons_self|apply List.mem_cons_of_mem|apply Ev.bin (by assumption)|exact op_add|exact op_sub|exact op_mul|exact op_and|exact op_xor|exact op_shr (by decide)|exact op_eqs|exact op_eq|exact op_ge|exact op_ishr (by decide))) (item_list (by lia) (by lia) hgi)) (op_cat (by lia))) (by (repeat' with_reducible first|exact Ev.int|exact Ev.str rfl|exact Ev.bool|exact Ev.none|apply Ev.name (by assumption)|exact List.mem_cons_self|apply List.mem_cons_of_mem|apply Ev.bin (by assumption)|exact op_add|exact op_sub|exact op_mul|exact op_and|exact op_xor|exact op_shr (by decide)|exact op_eqs|exact op_eq|exact op_ge|exact op_ishr (by decide))) (op_cat (by (with_reducible_and_instances (refine rwG (List.length_append ..) ?_)); lia))) (EvL.cons (hs := by intro _; rfl) (g₁ := g₃) (p := .list ((f.2.1 ++ [p.1]).map .str)) hC ?_ (EvL.cons (hs := by intro _; rfl) (p := .list (pvInts (f.2.2 ++ [f.1.length + 1]))) hC ?_ EvL.nil))) (by simp)) (by (with_reducible_and_instances (refine rwG (List.length_append ..) ?_)); show _ + 1 ≤ _; lia) (by (repeat first|((with_reducible refine Put.here ?_);first|rfl|assumption)|apply Put.there)) ⟨_, ?_, rfl⟩ hint)
      · (with_reducible_and_instances (refine rwG (List.map_append ..) ?_))
        exact Ev.bin hC (by (repeat' with_reducible first|exact Ev.int|exact Ev.str rfl|exact Ev.bool|exact Ev.none|apply Ev.name (by assumption)|exact List.mem_cons_self|apply List.mem_cons_of_mem|apply Ev.bin (by assumption)|exact op_add|exact op_sub|exact op_mul|exact op_and|exact op_xor|exact op_shr (by decide)|exact op_eqs|exact op_eq|exact op_ge|exact op_ishr (by decide))) (Ev.list hC (EvL.cons (hs := by intro _; rfl) hC (by (repeat' with_reducible first|exact Ev.int|exact Ev.str rfl|exact Ev.bool|exact Ev.none|apply Ev.name (by assumption)|exact List.mem_cons_self|apply List.mem_cons_of_mem|apply Ev.bin (by assumption)|exact op_add|exact op_sub|exact op_mul|exact op_and|exact op_xor|exact op_shr (by decide)|exact op_eqs|exact op_eq|exact op_ge|exact op_ishr (by decide))) EvL.nil) (by simp)) (op_catList (by simp; lia))
      · (with_reducible_and_instances (refine rwG ((show pvInts (f.2.2 ++ [f.1.length + 1]) = pvInts f.2.2 ++ [PV.int ((f.1.length + 1 : Nat) : Int)] from List.map_append) ..) ?_))
        exact Ev.bin hC (by (repeat' with_reducible first|exact Ev.int|exact Ev.str rfl|exact Ev.bool|exact Ev.none|apply Ev.name (by assumption)|exact List.mem_cons_self|apply List.mem_cons_of_mem|apply Ev.bin (by assumption)|exact op_add|exact op_sub|exact op_mul|exact op_and|exact op_xor|exact op_shr (by decide)|exact op_eqs|exact op_eq|exact op_ge|exact op_ishr (by decide))) (Ev.list hC (EvL.cons (hs := by intro _; rfl) hC (Ev.bin hC (Ev.callB (hn := by rfl) hC gl (EvL.cons (hs := by intro _; rfl) hC (by (repeat' with_reducible first|exact Ev.int|exact Ev.str rfl|exact Ev.bool|exact Ev.none|apply Ev.name (by assumption)|exact List.mem_cons_self|apply List.mem_cons_of_mem|apply Ev.bin (by assumption)|exact op_add|exact op_sub|exact op_mul|exact op_and|exact op_xor|exact op_shr (by decide)|exact op_eqs|exact op_eq|exact op_ge|exact op_ishr (by decide))) EvL.nil) (call_lenS (by lia))) Ev.int (op_addN (b := 1))) EvL.nil) (by simp)) (op_catList (by simp; lia))
      · (repeat first|exact Weak.nil|((with_reducible apply Weak.keep))|((with_reducible refine Weak.drop ?_ ?_);first|rfl|assumption)|((with_reducible refine Weak.val ?_ ?_);rotate_left)|((with_reducible refine Weak.own ?_ ?_);rotate_left))
        ((with_reducible_and_instances (refine rwG (List.take_add_one ..) ?_; refine rwG (hf ..) ?_; refine rwG (List.flatMap_append ..) ?_; refine rwG (List.map_append ..) ?_)))
        simp [growF]
    · rintro ρ₁ g₃ rfl
      (rewrite [List.length_map]; (with_reducible_and_instances (refine rwG (List.take_length ..) ?_)))
      refine St.freeze hC (by (repeat first|with_reducible exact List.mem_cons_self|apply List.mem_cons_of_mem)) (x := Str.ofString "grown") (by (repeat first|((with_reducible refine Put.here ?_);first|rfl|assumption)|apply Put.there)) ?_
      refine St.one (St1.assign (hs := by rfl) hC (by (repeat' with_reducible first|exact Ev.int|exact Ev.str rfl|exact Ev.bool|exact Ev.none|apply Ev.name (by assumption)|exact List.mem_cons_self|apply List.mem_cons_of_mem|apply Ev.bin (by assumption)|exact op_add|exact op_sub|exact op_mul|exact op_and|exact op_xor|exact op_shr (by decide)|exact op_eqs|exact op_eq|exact op_ge|exact op_ishr (by decide))) (by (repeat first|((with_reducible refine Put.here ?_);first|rfl|assumption)|apply Put.there)) ⟨_, ?_, rfl⟩)
      (repeat first|exact Weak.nil|((with_reducible apply Weak.keep))|((with_reducible refine Weak.drop ?_ ?_);first|rfl|assumption)|((with_reducible refine Weak.val ?_ ?_);rotate_left)|((with_reducible refine Weak.own ?_ ?_);rotate_left))
      ((with_reducible_and_instances (refine rwG (hnext ..) ?_)); (with_reducible rfl))
  · rintro ρ₁ g₂ rfl
    have hn : (rangeItems 1 1 (((P.length : Int)) - 1).toNat).length = P.length - 1 := by (with_reducible_and_instances (refine rwG (rangeItems_length ..) ?_)); lia
    (with_reducible_and_instances (refine rwG (hn ..) ?_))
    exact St.one (St1.ret hC (by (repeat' with_reducible first|exact Ev.int|exact Ev.str rfl|exact Ev.bool|exact Ev.none|apply Ev.name (by assumption)|exact List.mem_cons_self|apply List.mem_cons_of_mem|apply Ev.bin (by assumption)|exact op_add|exact op_sub|exact op_mul|exact op_and|exact op_xor|exact op_shr (by decide)|exact op_eqs|exact op_eq|exact op_ge|exact op_ishr (by decide))) rfl)

theorem files_fn {f : Addr} {o : Obj} {fd : FuncData} (hT : ∀ h h' : Heap, T h → (∀ b o, h.get? b = some o → h'.get? b = some o) → T h') (hst : st = stmtAt theProg 7) (D : DefAt T st ["first", "pieces", "gaps"] f o fd) (hrange : TG T "range" (.type "range")) (hlen : TG T "len" (.builtin "len")) {P : List (List Nat × List Nat)} {G : List (List Nat)} {first : List Nat} (h : SmallP P G first) :
    Fn prog w T 1 (.ref f) [.str first, .list (P.map piecePV), .list (G.map .str)] (.list ((filesN P G first (P.length - 1)).map filePV)) :=
  Fn.def ["files", "k", "plain", "written", "grown", "text", "words", "stops"] hT D rfl (by decide) (by subst hst; decide +kernel) (by decide +kernel) (by subst hst; rfl) (by subst hst; rfl) (by subst hst; rfl) fun C g F => StP.mono (files_body hst F.top hrange hlen h) fun fl ρ g h => .inl h
end
end Mine.Internal
end

section
namespace Mine.Internal
open PySem PySem.Calls PyProof.Rows PySem.W

theorem comp_env {scope : Scope} {ρ : Env'} {tg : List Str} {fr : List (Str × PV)} : (∀ x ∈ tg, scope.names.lookup x = some .local) → (∀ y ∈ fr, scope.names.lookup y.1 = some .free ∧ (y.1, LV.val y.2) ∈ ρ) →
    CompEnv scope ρ (tg.map (·, LV.undef) ++ fr.map fun y => (y.1, LV.ro y.2)) := by
  induction tg with
  | cons x tg ih => exact fun h1 h2 => .tgt (h1 x List.mem_cons_self) (ih (fun z hz => h1 z (List.mem_cons_of_mem _ hz)) h2)
  | nil =>
    intro h1 h2
    induction fr with
    | nil => exact .nil
    | cons y fr ih => exact .free (h2 y List.mem_cons_self).1 (h2 y List.mem_cons_self).2 (ih fun z hz => h2 z (List.mem_cons_of_mem _ hz))

theorem CompOk.of {C : Cx} {scope : Scope} {t : Expr} {ρ : Env'} (tg : List Str) (frn : List Str) (fr : List (Str × PV)) (hfn : fr.map (·.1) = frn) (nz : ∀ x, ¬ C.Z x) (hk : scope.kind = .function) (ht : targetNames t = tg)
    (h1 : (scope.names.all fun y => y.2 != .cell && (y.2 != .local || scope.names.lookup y.1 == some .local) && (y.2 != .free || frn.contains y.1)) = true)
    (h2 : ((tg.all fun x => scope.names.lookup x == some .local) && (frn.all fun x => scope.names.lookup x == some .free)) = true)
    (h3 : ((tg ++ frn).all fun x => !(x == ("__debug__" : Str)) && !(x == ("__classdict__" : Str))) = true) (h4 : (tg ++ frn).Nodup)
    (hfr : ∀ y ∈ fr, C.env.kindOf y.1 = some .cell ∧ (y.1, LV.val y.2) ∈ ρ) : CompOk C scope t ρ (tg.map (·, LV.undef) ++ fr.map fun y => (y.1, LV.ro y.2)) := by
  have hnm : (tg.map (·, LV.undef) ++ fr.map fun y => (y.1, LV.ro y.2)).map (·.1) = tg ++ frn := by
    ((with_reducible_and_instances (refine rwG (List.map_append ..) ?_; refine rwG (List.map_map ..) ?_; refine rwG (List.map_map ..) ?_; refine rwL (hfn ..) ?_)))
    congr 1
    exact List.map_id _
  rw [Bool.and_eq_true] at h2
  have hfree : ∀ y ∈ fr, scope.names.lookup y.1 = some .free := fun y hy => by
    have := List.all_eq_true.mp h2.2 y.1 (by (with_reducible_and_instances (refine rwL (hfn ..) ?_)); exact List.mem_map_of_mem hy)
    simpa using this
  have htg : ∀ x ∈ tg, scope.names.lookup x = some .local := fun x hx => by simpa using List.all_eq_true.mp h2.1 x hx
  exact {
    kind := hk
    nocell := fun y hy => by
      have := List.all_eq_true.mp h1 y hy
      simp only [Bool.and_eq_true] at this
      simpa using this.1.1
    locals := fun y hy hl => by
      have := List.all_eq_true.mp h1 y hy
      simp only [Bool.and_eq_true] at this
      have q := this.1.2
      rw [hl] at q
      simpa using q
    frees := fun n hn => by
      have := List.all_eq_true.mp h1 _ hn
      simp only [Bool.and_eq_true] at this
      have q := this.2
      have q' : n ∈ frn := by simpa using q
      rw [← hfn] at q'
      obtain ⟨y, hy, rfl⟩ := List.mem_map.mp q'
      exact ⟨(hfr y hy).1, _, (hfr y hy).2⟩
    env := comp_env htg fun y hy => ⟨hfree y hy, (hfr y hy).2⟩
    nodup := by (with_reducible_and_instances (refine rwG (hnm ..) ?_)); exact h4
    notDebug := fun x hx => by
      rw [hnm] at hx
      have := List.all_eq_true.mp h3 x hx
      simpa using this
    targets := fun x hx => htg x (by (with_reducible_and_instances (refine rwL (ht ..) ?_)); exact hx)
    nz := nz }


theorem rangeN_eq (n : Nat) : rangeItems 0 1 n = (List.range n).map fun (i : Nat) => PV.int (i : Int) := by
  unfold rangeItems
  apply List.map_congr_left
  intro i _
  congr 1
  lia
theorem range_mem {n : Nat} {p : PV} (h : p ∈ rangeItems 0 1 n) : ∃ i : Nat, i < n ∧ p = .int (i : Int) := by
  rw [rangeN_eq] at h
  obtain ⟨i, hi, rfl⟩ := List.mem_map.mp h
  exact ⟨i, List.mem_range.mp hi, rfl⟩



section
variable {C : Cx} {ρ ρ' : Env'} {g g₁ g₂ : C.G} {prog : Program} {w : World} {T : Heap → Prop} {d : Nat}

theorem Ev.callFW (hC : C.Ok) {x : Str} {np pos : Pos} {a : Addr} {es : List Expr} {ps : List PV} {r : PV} {dd : Nat} (hg : GlobIs C x (.ref a)) (hf : ∃ o fd, o.data = .func fd ∧ ∀ h, C.T h → h.get? a = some o) (h : EvL C ρ g es ps g₁)
    (ho : FnW C.prog C.w C.T C.wd dd (.ref a) g₁ ps r g₂) (hd : dd ≤ C.d) (hn : (backTo pos (starEach es C.env)).any (·.1) = false) : Ev C ρ g (.Call (.Name x np) es [] pos) r g₂ := fun O s I => by
  obtain ⟨o, fd, e1, e2⟩ := hf
  refine wpAny_Call_NameR (eval_glob hC hg I (callWith_function (o := o) (fd := fd) (evalArgs_any hn (wpAny_mono (h O s pos I) (fun us s₁ ⟨r1, st⟩ => ?_) fun _ _ x => x))))
  have I1 := I.step hC st
  refine ⟨⟨e2 _ (I1.top hC), e1⟩, ?_⟩
  refine wpAny_mono (ho.wp C.A (avoid C O) s₁ us (Ok.room hC hd) (I1.top hC) (fun x e => (I1.new hC e).2.2.2) (fun a m => .inl (hC.mx a m)) I1.world r1) (fun z s₃ ⟨r3, k1, k2, k3⟩ => ?_) fun _ _ x => x
  exact ⟨r3, st.trans ⟨k1, k2, k3⟩⟩

theorem TopAt.comp {sc scope : Scope} {L : Addr} {names : List Str} (F : TopAt C prog w T d sc) (hCc : (C.comp scope L names).Ok) : TopAt (C.comp scope L names) prog w T d (relabel scope C.env) :=
  ⟨hCc, F.prog, F.w, F.sub, F.d, rfl, F.globals, F.builtins⟩
theorem relabel_glob {scope : Scope} {env : Env} {x : Str} (h : scope.names.lookup x = some .globalImplicit) : (relabel scope env).names.lookup x = some .globalImplicit := lookup_relabel (f := fun _ _ => True) h (by decide)

theorem plains_of : ∀ {ps : List PV}, (∀ p ∈ ps, p.plain = true) → PV.plains ps = true
  | [], _ => rfl
  | p :: ps, h => by (rewrite [PV.plains]; (with_reducible_and_instances (refine rwG ((h p List.mem_cons_self) ..) ?_; refine rwG ((plains_of fun q hq => h q (List.mem_cons_of_mem _ hq)) ..) ?_))); rfl
theorem depths_of : ∀ {ps : List PV} {n : Nat}, (∀ p ∈ ps, p.data.depth ≤ n) → PyData.depthAll (PV.datas ps) ≤ n
  | [], _, _ => by simp [PV.datas, PyData.depthAll]
  | p :: ps, n, h => by
    rw [PV.datas]
    simp only [PyData.depthAll]
    have h1 := h p List.mem_cons_self
    have h2 := depths_of (ps := ps) fun q hq => h q (List.mem_cons_of_mem _ hq)
    lia
theorem ent_plain {t : List Nat} {a b : Int} (h : ∀ c ∈ t, c < 0x110000) : (PV.tup [.str t, .int a, .int b]).plain = true ∧ (PV.tup [.str t, .int a, .int b]).data.depth ≤ 2 := by
  refine ⟨?_, ?_⟩
  · rw [PV.plain, PV.plains, PV.plains, PV.plains, PV.plains, PV.plain, PV.plain, PV.plain]
    simp only [Bool.and_true]
    exact List.all_eq_true.mpr fun c hc => by simpa using h c hc
  · simp [PV.data, PV.datas, PyData.depth, PyData.depthAll]
theorem list_plain {ps : List PV} {n : Nat} (h : ∀ p ∈ ps, p.plain = true ∧ p.data.depth ≤ n) : (PV.list ps).plain = true ∧ (PV.list ps).data.depth ≤ n + 1 := by
  refine ⟨by rw [PV.plain]; exact plains_of fun p hp => (h p hp).1, ?_⟩
  have := depths_of (ps := ps) (n := n) fun p hp => (h p hp).2
  rw [PV.data]
  simp only [PyData.depth]
  lia
end

noncomputable def lineAt (text : List Nat) (j : Nat) : Nat := 1 + ((text.take j).filter (· == 10)).length
noncomputable def dueRow (words : List (List Nat)) : List (List Nat) := words.take 1 ++ words ++ [[]] ++ words ++ [[]]
noncomputable def duePlaces (text : List Nat) (words : List (List Nat)) (stops : List Nat) : List Nat := stops.take 1 ++ stops ++ List.replicate (words.length + 2) text.length
noncomputable def dueAt (text : List Nat) (words : List (List Nat)) (stops : List Nat) (i : Nat) : PV := .tup [.str ((dueRow words).getD i []), .int ((duePlaces text words stops).getD i 0), .int (lineAt text ((duePlaces text words stops).getD i 0))]
noncomputable def lawDue (text : List Nat) (words : List (List Nat)) (stops : List Nat) : List PV := (List.range (dueRow words).length).map (dueAt text words stops)
noncomputable def dueF (text : List Nat) (words : List (List Nat)) (stops : List Nat) : PV → Option PV
  | .int i => some (dueAt text words stops i.toNat)
  | _ => none
theorem dueF_eq (text : List Nat) (words : List (List Nat)) (stops : List Nat) (n : Nat) : (rangeItems 0 1 n).filterMap (dueF text words stops) = (List.range n).map (dueAt text words stops) := by
  (rewrite [rangeN_eq]; (with_reducible_and_instances (refine rwG (List.filterMap_map ..) ?_)))
  have : (dueF text words stops ∘ fun (i : Nat) => PV.int (i : Int)) = fun i => some (dueAt text words stops i) := rfl
  (with_reducible_and_instances (refine rwG (this ..) ?_))
  exact congrFun (List.filterMap_eq_map (f := dueAt text words stops)) _
theorem lineAt_succ {text : List Nat} {i c : Nat} (h : text[i]? = some c) : lineAt text (i + 1) = lineAt text i + (if c = 10 then 1 else 0) := by
  unfold lineAt
  ((with_reducible_and_instances (refine rwG (List.take_add_one ..) ?_; refine rwG (h ..) ?_)); rewrite [List.filter_append]; (with_reducible_and_instances (refine rwG (List.length_append ..) ?_)))
  by_cases hc : c = 10
  · subst hc; simp; lia
  · simp [hc]

section
variable {C : Cx} {g : C.G} {prog : Program} {w : World} {T : Heap → Prop} {d : Nat} {st : Stmt}

set_option maxHeartbeats 1000000 in
theorem due_body (hst : st = stmtAt theProg 10) (F : TopAt C prog w T d (stmtScope st)) (hz : ∀ x, ¬ C.Z x) (hrange : TG T "range" (.type "range")) (hlen : TG T "len" (.builtin "len")) {text : List Nat} {words : List (List Nat)} {stops : List Nat} (ht : text.length ≤ 4000) (hw : words.length ≤ 100) (hs : stops.length = words.length) (h0 : 0 < words.length) (hb : ∀ s ∈ stops, s ≤ text.length) :
    St C [en "text" (.val (.str text)), en "words" (.val (.list (words.map .str))), en "stops" (.val (.list (pvInts stops))), en "lines" .undef, en "sign" .undef, en "row" .undef, en "places" .undef] g (stmtBody st) (fun fl _ _ => fl = .ret (.list (lawDue text words stops))) := by
  have hC := F.ok
  have gr := F.glob hrange (by subst hst; rfl)
  have gl := F.glob hlen (by subst hst; rfl)
  have hint : interactive C.env = false := by unfold interactive; (with_reducible_and_instances (refine rwG (F.scope ..) ?_)); subst hst; rfl
  have hkind : ∀ x, (stmtScope st).names.lookup x = some .cell → C.env.kindOf x = some .cell := fun x h => by show C.env.scope.names.lookup x = _; (with_reducible_and_instances (refine rwG (F.scope ..) ?_)); exact h
  have kl : C.env.kindOf (Str.ofString "lines") = some .cell := hkind _ (by subst hst; rfl)
  have kr : C.env.kindOf (Str.ofString "row") = some .cell := hkind _ (by subst hst; rfl)
  have kp : C.env.kindOf (Str.ofString "places") = some .cell := hkind _ (by subst hst; rfl)
  clear F
  subst hst
  refine St.cons (St1.assignOwn hC (EvL.cons (hs := by intro _; rfl) hC Ev.int EvL.nil) (by simp) (by (repeat first|((with_reducible refine Put.here ?_);first|rfl|assumption)|apply Put.there)) ?_)
  refine St.cons (St1.for (ht := by first | exact .inl ⟨_, _, rfl⟩ | exact .inr ⟨_, _, _, rfl⟩) (hs := by intro _; rfl) hC (EvIt.str (x := text) hC (by (repeat' with_reducible first|exact Ev.int|exact Ev.str rfl|exact Ev.bool|exact Ev.none|apply Ev.name (by assumption)|exact List.mem_cons_self|apply List.mem_cons_of_mem|apply Ev.bin (by assumption)|exact op_add|exact op_sub|exact op_mul|exact op_and|exact op_xor|exact op_shr (by decide)|exact op_eqs|exact op_eq|exact op_ge|exact op_ishr (by decide)))) (fun i ρ _ => ρ = [en "text" (.val (.str text)), en "words" (.val (.list (words.map .str))), en "stops" (.val (.list (pvInts stops))), en "lines" (.own ((List.range (i + 1)).map fun j => PV.int (lineAt text j : Int))), en "sign" .undef, en "row" .undef, en "places" .undef]) rfl ?_ ?_)
  · rintro i p ρ₁ g₂ hp rfl
    obtain ⟨c, hc, rfl⟩ := strItem hp
    have hi : i < text.length := (List.getElem?_eq_some_iff.mp hc).1
    refine ⟨_, Binds.name (by (repeat first|((with_reducible refine Put.here ?_);first|rfl|assumption)|apply Put.there)), ?_⟩
    refine St.one (St1.append (hline := by rfl) (hfew := by rfl) (htrees := by rfl) (g₁ := g₂) hC (by (repeat first|with_reducible exact List.mem_cons_self|apply List.mem_cons_of_mem)) (Ev.bin hC (Ev.lastOwn (hs := by intro _ _; rfl) (r := .int (lineAt text i : Int)) hC (by (repeat first|with_reducible exact List.mem_cons_self|apply List.mem_cons_of_mem)) (Ev.neg hC Ev.int) (by simp; lia) (by ((with_reducible_and_instances (refine rwG (List.range_succ ..) ?_; refine rwG (List.map_append ..) ?_))); simp)) (Ev.ifExp (p := .int ((if c = 10 then 1 else 0 : Nat) : Int)) hC (EvB.cmp (hm := by with_unfolding_all rfl) hC (by (repeat' with_reducible first|exact Ev.int|exact Ev.str rfl|exact Ev.bool|exact Ev.none|apply Ev.name (by assumption)|exact List.mem_cons_self|apply List.mem_cons_of_mem|apply Ev.bin (by assumption)|exact op_add|exact op_sub|exact op_mul|exact op_and|exact op_xor|exact op_shr (by decide)|exact op_eqs|exact op_eq|exact op_ge|exact op_ishr (by decide))) (Ev.str (l := [10]) rfl) op_eqs) (fun h => ?_) fun h => ?_) op_addN) (by simp; lia) (by (repeat first|((with_reducible refine Put.here ?_);first|rfl|assumption)|apply Put.there)) ⟨_, ?_, rfl⟩ hint)
    · have h' : c = 10 := by simpa using h
      (with_reducible_and_instances (refine rwG ((if_pos h') ..) ?_)); exact Ev.int
    · have h' : ¬ c = 10 := by simpa using h
      (with_reducible_and_instances (refine rwG ((if_neg h') ..) ?_)); exact Ev.int
    · (repeat first|exact Weak.nil|((with_reducible apply Weak.keep))|((with_reducible refine Weak.drop ?_ ?_);first|rfl|assumption)|((with_reducible refine Weak.val ?_ ?_);rotate_left)|((with_reducible refine Weak.own ?_ ?_);rotate_left))
      ((with_reducible_and_instances (refine rwG ((List.range_succ (n := i + 1)) ..) ?_; refine rwG (List.map_append ..) ?_; refine rwL ((lineAt_succ hc) ..) ?_))); rfl
  rintro ρ₁ g₂ rfl
  rw [List.length_map]
  refine St.freeze hC (by (repeat first|with_reducible exact List.mem_cons_self|apply List.mem_cons_of_mem)) (x := Str.ofString "lines") (by (repeat first|((with_reducible refine Put.here ?_);first|rfl|assumption)|apply Put.there)) ?_
  have ew : (words.map PV.str).length = words.length := List.length_map _
  have es : (pvInts stops).length = words.length := by (rewrite [List.length_map]; (with_reducible_and_instances (refine rwG (hs ..) ?_)); (with_reducible rfl))
  have e1 : ∀ {α : Type} (x : List α), pySlice x none (some 1) = x.take 1 := fun x => slice_to x 1
  have erow : (((words.map PV.str).take 1 ++ words.map PV.str ++ [PV.str []] ++ words.map PV.str ++ [PV.str []])) = (dueRow words).map PV.str := by
    unfold dueRow; simp [List.map_take]
  have eplc : ((pvInts stops).take 1 ++ pvInts stops ++ List.replicate (words.length + 2) (PV.int (text.length : Int))) = pvInts (duePlaces text words stops) := by
    unfold duePlaces; simp [List.map_take]
  have lrow : (dueRow words).length ≤ 250 := by unfold dueRow; simp; lia
  have lplc : (duePlaces text words stops).length = (dueRow words).length := by unfold duePlaces dueRow; simp [hs] <;> lia
  have bplc : ∀ i, (duePlaces text words stops).getD i 0 ≤ text.length := fun i => by
    by_cases h : i < (duePlaces text words stops).length
    · ((with_reducible_and_instances (refine rwG ((List.getD_eq_getElem?_getD) ..) ?_; refine rwG ((List.getElem?_eq_getElem h) ..) ?_)))
      have hm := List.getElem_mem h
      generalize (duePlaces text words stops)[i] = x at hm
      unfold duePlaces at hm
      rcases List.mem_append.mp hm with hm | hm
      · rcases List.mem_append.mp hm with hm | hm
        · exact hb _ (List.take_subset _ _ hm)
        · exact hb _ hm
      · exact Nat.le_of_eq (List.mem_replicate.mp hm).2
    · ((with_reducible_and_instances (refine rwG ((List.getD_eq_getElem?_getD) ..) ?_; refine rwG ((List.getElem?_eq_none (by lia)) ..) ?_))); simp
  refine St.cons (St1.assign (hs := by rfl) (g₁ := g₂) hC (v := .list ((dueRow words).map PV.str)) ?_ (by (repeat first|((with_reducible refine Put.here ?_);first|rfl|assumption)|apply Put.there)) ?_)
  · ((with_reducible_and_instances (refine rwL (erow ..) ?_)); rewrite [← e1])
    refine Ev.bin hC (Ev.bin hC (Ev.bin hC (Ev.bin hC (Ev.sliceList (l := none) (u := some 1) hC (by (repeat' with_reducible first|exact Ev.int|exact Ev.str rfl|exact Ev.bool|exact Ev.none|apply Ev.name (by assumption)|exact List.mem_cons_self|apply List.mem_cons_of_mem|apply Ev.bin (by assumption)|exact op_add|exact op_sub|exact op_mul|exact op_and|exact op_xor|exact op_shr (by decide)|exact op_eqs|exact op_eq|exact op_ge|exact op_ishr (by decide))) EvO.none (EvO.some Ev.int) (by lia)) (by (repeat' with_reducible first|exact Ev.int|exact Ev.str rfl|exact Ev.bool|exact Ev.none|apply Ev.name (by assumption)|exact List.mem_cons_self|apply List.mem_cons_of_mem|apply Ev.bin (by assumption)|exact op_add|exact op_sub|exact op_mul|exact op_and|exact op_xor|exact op_shr (by decide)|exact op_eqs|exact op_eq|exact op_ge|exact op_ishr (by decide))) (op_catList ?_)) (Ev.list hC (EvL.cons (hs := by intro _; rfl) hC (Ev.str rfl) EvL.nil) (by simp)) (op_catList ?_)) (by (repeat' with_reducible first|exact Ev.int|exact Ev.str rfl|exact Ev.bool|exact Ev.none|apply Ev.name (by assumption)|exact List.mem_cons_self|apply List.mem_cons_of_mem|apply Ev.bin (by assumption)|exact op_add|exact op_sub|exact op_mul|exact op_and|exact op_xor|exact op_shr (by decide)|exact op_eqs|exact op_eq|exact op_ge|exact op_ishr (by decide))) (op_catList ?_)) (Ev.list hC (EvL.cons (hs := by intro _; rfl) hC (Ev.str rfl) EvL.nil) (by simp)) (op_catList ?_)
    all_goals (rw [e1]; simp; lia)
  refine St.cons (St1.assign (hs := by rfl) (g₁ := g₂) hC (v := .list (pvInts (duePlaces text words stops))) ?_ (by (repeat first|((with_reducible refine Put.here ?_);first|rfl|assumption)|apply Put.there)) ?_)
  · have er : List.replicate (words.length + 2) (PV.int (text.length : Int)) = (List.replicate (((words.length + 2 : Nat) : Int)).toNat [PV.int (text.length : Int)]).flatten := by
      rw [Int.toNat_natCast]
      generalize words.length + 2 = n
      induction n with
      | zero => rfl
      | succ n ih => ((with_reducible_and_instances (refine rwG (List.replicate_succ ..) ?_; refine rwG (List.replicate_succ ..) ?_; refine rwG (List.flatten_cons ..) ?_; refine rwL (ih ..) ?_))); rfl
    ((with_reducible_and_instances (refine rwL (eplc ..) ?_)); rewrite [← e1]; (with_reducible_and_instances (refine rwG (er ..) ?_)))
    have hNw : ∀ {ρ : Env'} {g : C.G} {p1 p2 p3 : Pos}, (Str.ofString "words", LV.val (.list (words.map .str))) ∈ ρ → Ev C ρ g (.Call (.Name "len" p1) [.Name "words" p2] [] p3) (.int (words.length : Int)) g := fun h => by
      (with_reducible_and_instances (refine rwL (ew ..) ?_))
      exact Ev.callB (hn := by rfl) hC gl (EvL.cons (hs := by intro _; rfl) hC (Ev.name hC h) EvL.nil) (call_lenL (by lia))
    refine Ev.bin hC (Ev.bin hC (Ev.sliceList (l := none) (u := some 1) hC (by (repeat' with_reducible first|exact Ev.int|exact Ev.str rfl|exact Ev.bool|exact Ev.none|apply Ev.name (by assumption)|exact List.mem_cons_self|apply List.mem_cons_of_mem|apply Ev.bin (by assumption)|exact op_add|exact op_sub|exact op_mul|exact op_and|exact op_xor|exact op_shr (by decide)|exact op_eqs|exact op_eq|exact op_ge|exact op_ishr (by decide))) EvO.none (EvO.some Ev.int) (by lia)) (by (repeat' with_reducible first|exact Ev.int|exact Ev.str rfl|exact Ev.bool|exact Ev.none|apply Ev.name (by assumption)|exact List.mem_cons_self|apply List.mem_cons_of_mem|apply Ev.bin (by assumption)|exact op_add|exact op_sub|exact op_mul|exact op_and|exact op_xor|exact op_shr (by decide)|exact op_eqs|exact op_eq|exact op_ge|exact op_ishr (by decide))) (op_catList ?_)) (Ev.bin hC (Ev.list hC (EvL.cons (hs := by intro _; rfl) hC (Ev.callB (hn := by rfl) hC gl (EvL.cons (hs := by intro _; rfl) hC (by (repeat' with_reducible first|exact Ev.int|exact Ev.str rfl|exact Ev.bool|exact Ev.none|apply Ev.name (by assumption)|exact List.mem_cons_self|apply List.mem_cons_of_mem|apply Ev.bin (by assumption)|exact op_add|exact op_sub|exact op_mul|exact op_and|exact op_xor|exact op_shr (by decide)|exact op_eqs|exact op_eq|exact op_ge|exact op_ishr (by decide))) EvL.nil) (call_lenS (by lia))) EvL.nil) (by simp)) (Ev.bin hC (hNw (by (repeat first|with_reducible exact List.mem_cons_self|apply List.mem_cons_of_mem))) Ev.int (op_addN (b := 2))) (op_mulList (by lia) ?_ (by lia))) (op_catList ?_)
    · (rewrite [e1]; (with_reducible_and_instances (refine rwG (List.length_take ..) ?_))); lia
    · rw [Int.toNat_natCast]; simp; lia
    · ((with_reducible_and_instances (refine rwL (er ..) ?_)); rewrite [e1]; (with_reducible_and_instances (refine rwG (List.length_append ..) ?_; refine rwG (List.length_take ..) ?_; refine rwG (List.length_replicate ..) ?_))); lia
  have hlr : ∀ {ρ : Env'} {g : C.G} {p1 p2 p3 : Pos}, (Str.ofString "row", LV.val (.list ((dueRow words).map .str))) ∈ ρ → Ev C ρ g (.Call (.Name "len" p1) [.Name "row" p2] [] p3) (.int ((dueRow words).length : Int)) g := fun h => by
    have : ((dueRow words).map PV.str).length = (dueRow words).length := List.length_map _
    (with_reducible_and_instances (refine rwL (this ..) ?_))
    exact Ev.callB (hn := by rfl) hC gl (EvL.cons (hs := by intro _; rfl) hC (Ev.name hC h) EvL.nil) (call_lenL (by lia))
  have hN : (((dueRow words).length : Int)).toNat = (dueRow words).length := Int.toNat_natCast _
  refine St.one (St1.ret (g₁ := g₂) hC (v := .list ((rangeItems 0 1 (((dueRow words).length : Int)).toNat).filterMap (dueF text words stops))) (Ev.comp (ht := by first | exact .inl ⟨_, _, rfl⟩ | exact .inr ⟨_, _, _, rfl⟩) (hs := by intro _; rfl) (ρc := [en "i" .undef, en "lines" (.ro (.list ((List.range (text.length + 1)).map fun j => PV.int (lineAt text j : Int)))), en "places" (.ro (.list (pvInts (duePlaces text words stops)))), en "row" (.ro (.list ((dueRow words).map PV.str)))]) hC
    (CompOk.of ["i"] ["lines", "places", "row"] [("lines", .list ((List.range (text.length + 1)).map fun j => PV.int (lineAt text j : Int))), ("places", .list (pvInts (duePlaces text words stops))), ("row", .list ((dueRow words).map PV.str))] rfl hz rfl rfl (by decide +kernel) (by decide +kernel) (by decide +kernel) (by decide +kernel) (fun y hy => ?_)) (EvIt.range1 (hn := by rfl) hC gr (EvL.cons (hs := by intro _; rfl) hC (hlr (by (repeat first|with_reducible exact List.mem_cons_self|apply List.mem_cons_of_mem))) EvL.nil) (by lia) (by lia)) (by (with_reducible_and_instances (refine rwG (rangeItems_length ..) ?_)); lia) (fun p hp Lc hCc => ?_)) ?_)
  · rcases List.mem_cons.mp hy with rfl | hy
    · exact ⟨kl, by (repeat first|with_reducible exact List.mem_cons_self|apply List.mem_cons_of_mem)⟩
    · rcases List.mem_cons.mp hy with rfl | hy
      · exact ⟨kp, by (repeat first|with_reducible exact List.mem_cons_self|apply List.mem_cons_of_mem)⟩
      · rcases List.mem_cons.mp hy with rfl | hy
        · exact ⟨kr, by (repeat first|with_reducible exact List.mem_cons_self|apply List.mem_cons_of_mem)⟩
        · cases hy
  · obtain ⟨i, hi, rfl⟩ := range_mem hp
    rw [hN] at hi
    have hpi : ∀ {ρ : Env'} {g : (C.comp _ Lc _).G} {p1 p2 p3 : Pos}, (Str.ofString "places", LV.ro (.list (pvInts (duePlaces text words stops)))) ∈ ρ → (Str.ofString "i", LV.val (.int (i : Int))) ∈ ρ → Ev (C.comp _ Lc _) ρ g (.Subscript (.Name "places" p1) (.Name "i" p2) p3) (.int ((duePlaces text words stops).getD i 0 : Nat)) g := fun h1 h2 =>
      Ev.sub (hs := by intro _ _; rfl) hCc (Ev.nameRo hCc h1) (Ev.name hCc h2) (item_list (by lia) (by lia) (by (rewrite [Int.toNat_natCast]; (with_reducible_and_instances (refine rwG ((List.getElem?_map) ..) ?_; refine rwG ((getD_some (d := 0) (by lia)) ..) ?_))); rfl))
    refine ⟨_, Binds.name (by (repeat first|((with_reducible refine Put.here ?_);first|rfl|assumption)|apply Put.there)), by (repeat first|exact Weak.nil|((with_reducible apply Weak.keep))|((with_reducible refine Weak.drop ?_ ?_);first|rfl|assumption)|((with_reducible refine Weak.val ?_ ?_);rotate_left)|((with_reducible refine Weak.own ?_ ?_);rotate_left)), true, .inl ⟨rfl, rfl⟩, fun _ => ⟨_, rfl, ?_⟩, fun h => by cases h⟩
    have hbi := bplc i
    refine Ev.tup hCc (EvL.cons (hs := by intro _; rfl) hCc (Ev.sub (hs := by intro _ _; rfl) hCc (Ev.nameRo hCc (p := .list ((dueRow words).map PV.str)) (by (repeat first|with_reducible exact List.mem_cons_self|apply List.mem_cons_of_mem))) (Ev.name hCc (p := .int (i : Int)) (by (repeat first|with_reducible exact List.mem_cons_self|apply List.mem_cons_of_mem))) (item_list (by lia) (by lia) (by (rewrite [Int.toNat_natCast]; (with_reducible_and_instances (refine rwG ((List.getElem?_map) ..) ?_; refine rwG ((getD_some (d := []) hi) ..) ?_))); rfl))) (EvL.cons (hs := by intro _; rfl) hCc (hpi (by (repeat first|with_reducible exact List.mem_cons_self|apply List.mem_cons_of_mem)) (by (repeat first|with_reducible exact List.mem_cons_self|apply List.mem_cons_of_mem))) (EvL.cons (hs := by intro _; rfl) hCc (Ev.sub (hs := by intro _ _; rfl) hCc (Ev.nameRo hCc (p := .list ((List.range (text.length + 1)).map fun j => PV.int (lineAt text j : Int))) (by (repeat first|with_reducible exact List.mem_cons_self|apply List.mem_cons_of_mem))) (hpi (by (repeat first|with_reducible exact List.mem_cons_self|apply List.mem_cons_of_mem)) (by (repeat first|with_reducible exact List.mem_cons_self|apply List.mem_cons_of_mem))) (item_list (by lia) (by lia) ?_)) EvL.nil))) (by simp)
    (rewrite [Int.toNat_natCast]; (with_reducible_and_instances (refine rwG ((List.getElem?_map) ..) ?_; refine rwG ((List.getElem?_range (by lia)) ..) ?_))); rfl
  · (rewrite [dueF_eq]; (with_reducible_and_instances (refine rwG (hN ..) ?_))); rfl

theorem due_fn {f : Addr} {o : Obj} {fd : FuncData} (hT : ∀ h h' : Heap, T h → (∀ b o, h.get? b = some o → h'.get? b = some o) → T h') (hst : st = stmtAt theProg 10) (D : DefAt T st ["text", "words", "stops"] f o fd) (hrange : TG T "range" (.type "range")) (hlen : TG T "len" (.builtin "len")) {text : List Nat} {words : List (List Nat)} {stops : List Nat} (ht : text.length ≤ 4000) (hw : words.length ≤ 100) (hs : stops.length = words.length) (h0 : 0 < words.length) (hb : ∀ s ∈ stops, s ≤ text.length) :
    Fn prog w T 1 (.ref f) [.str text, .list (words.map .str), .list (pvInts stops)] (.list (lawDue text words stops)) :=
  Fn.def ["lines", "sign", "row", "places"] hT D rfl (by decide) (by subst hst; decide +kernel) (by decide +kernel) (by subst hst; rfl) (by subst hst; rfl) (by subst hst; rfl) fun C g F => StP.mono (due_body hst F.top F.z hrange hlen ht hw hs h0 hb) fun fl ρ g h => .inl h
end
end Mine.Internal
end

section
namespace Mine.Internal
open PySem PySem.Calls PyProof.Rows PySem.W

section
variable {C : Cx}
theorem op_shrN {a n : Nat} : Op2 C (binaryOp .RShift) (.int a) (.int n) (.int ((a / 2 ^ n : Nat) : Int)) := by
  have h := op_shr (C := C) (a := (a : Int)) (n := (n : Int)) (Int.natCast_nonneg n)
  rw [Int.toNat_natCast, shr_nat] at h; exact h
theorem op_bitN {a : Nat} : Op2 C (binaryOp .BitAnd) (.int a) (.int 1) (.int ((a % 2 : Nat) : Int)) := by
  have h := op_and (C := C) (a := (a : Int)) (b := ((1 : Nat) : Int))
  rw [bitAnd_nat, and_one] at h; exact h
theorem op_shlN {a n k : Nat} (hC : C.Ok) (h : a < 2 ^ k) (h2 : k + n ≤ 134217728) : Op2 C (binaryOp .LShift) (.int a) (.int n) (.int ((a * 2 ^ n : Nat) : Int)) := by
  have h1 := intBits_le h
  have h5 : (2 : Int) ^ 27 = 134217728 := by decide
  have hq := op_shl (C := C) (a := (a : Int)) (n := (n : Int)) hC (Int.natCast_nonneg n) (by (with_reducible_and_instances (refine rwG (h5 ..) ?_)); lia)
  rw [Int.toNat_natCast] at hq
  rw [Int.natCast_mul, Int.natCast_pow]
  exact hq
theorem op_subN {a b : Nat} (h : b ≤ a) : Op2 C (binaryOp .Sub) (.int a) (.int b) (.int ((a - b : Nat) : Int)) := by
  have e : ((a - b : Nat) : Int) = (a : Int) - (b : Int) := by lia
  (with_reducible_and_instances (refine rwG (e ..) ?_)); exact op_sub
end

noncomputable def revL (n x : Nat) : List Nat := (List.range n).map fun k => x / 2 ^ k % 2 * 2 ^ (n - 1 - k)
noncomputable def revB (n x : Nat) : Nat := (revL n x).sum
noncomputable def revF (n x : Nat) : PV → Option PV
  | .int i => some (.int ((x / 2 ^ i.toNat % 2 * 2 ^ (n - 1 - i.toNat) : Nat) : Int))
  | _ => none
theorem revF_eq (n x : Nat) : (rangeItems 0 1 n).filterMap (revF n x) = ((revL n x).map fun (m : Nat) => (m : Int)).map PV.int := by
  (rewrite [rangeN_eq]; (with_reducible_and_instances (refine rwG (List.filterMap_map ..) ?_)))
  have : (revF n x ∘ fun (i : Nat) => PV.int (i : Int)) = fun i => some (PV.int ((x / 2 ^ i % 2 * 2 ^ (n - 1 - i) : Nat) : Int)) := rfl
  (with_reducible_and_instances (refine rwG (this ..) ?_))
  refine (congrFun (List.filterMap_eq_map (f := fun (i : Nat) => PV.int ((x / 2 ^ i % 2 * 2 ^ (n - 1 - i) : Nat) : Int))) _).trans ?_
  (rewrite [revL]; (with_reducible_and_instances (refine rwG (List.map_map ..) ?_; refine rwG (List.map_map ..) ?_))); rfl
theorem revL_le {n x : Nat} : ∀ m ∈ revL n x, m ≤ 2 ^ (n - 1) := fun m hm => by
  obtain ⟨k, _, rfl⟩ := List.mem_map.mp hm
  have h1 : x / 2 ^ k % 2 ≤ 1 := by lia
  have h2 : 2 ^ (n - 1 - k) ≤ 2 ^ (n - 1) := Nat.pow_le_pow_right (by decide) (by lia)
  exact Nat.le_trans (Nat.mul_le_mul h1 h2) (by lia)
theorem sum_le {B : Nat} : ∀ {l : List Nat}, (∀ m ∈ l, m ≤ B) → l.sum ≤ l.length * B
  | [], _ => by simp
  | m :: l, h => by
    have h1 := h m List.mem_cons_self
    have h2 := sum_le (l := l) fun q hq => h q (List.mem_cons_of_mem _ hq)
    ((with_reducible_and_instances (refine rwG (List.sum_cons ..) ?_; refine rwG (List.length_cons ..) ?_)); rewrite [Nat.succ_mul]); lia
theorem sum_cast (l : List Nat) : (l.map fun (m : Nat) => (m : Int)).sum = (l.sum : Int) := by
  induction l with
  | nil => rfl
  | cons a l ih => ((with_reducible_and_instances (refine rwG (List.map_cons ..) ?_; refine rwG (List.sum_cons ..) ?_; refine rwG (List.sum_cons ..) ?_; refine rwG (ih ..) ?_)); rewrite [Int.natCast_add]; (with_reducible rfl))
theorem long_rev {n x : Nat} (hn : n ≤ 32) : ∀ j, j < ((revL n x).map fun (m : Nat) => (m : Int)).length → InLong (((revL n x).map fun (m : Nat) => (m : Int)).getD j 0) ∧ InLong ((((revL n x).map fun (m : Nat) => (m : Int)).take (j + 1)).sum) := fun j hj => by
  have hp : 2 ^ (n - 1) ≤ 2 ^ 31 := Nat.pow_le_pow_right (by decide) (by lia)
  have hl : (revL n x).length = n := by unfold revL; simp
  rw [List.length_map] at hj
  constructor
  · ((with_reducible_and_instances (refine rwG ((List.getD_eq_getElem?_getD) ..) ?_; refine rwG ((List.getElem?_map) ..) ?_; refine rwG ((List.getElem?_eq_getElem hj) ..) ?_)))
    have := revL_le _ (List.getElem_mem hj)
    show InLong ((revL n x)[j] : Int)
    unfold InLong; lia
  · ((with_reducible_and_instances (refine rwL (List.map_take ..) ?_)); rewrite [sum_cast])
    have h1 := sum_le (l := (revL n x).take (j + 1)) (B := 2 ^ (n - 1)) fun m hm => revL_le m (List.take_subset _ _ hm)
    have h2 : ((revL n x).take (j + 1)).length ≤ 32 := by (with_reducible_and_instances (refine rwG (List.length_take ..) ?_)); lia
    have h3 := Nat.mul_le_mul h2 hp
    unfold InLong; lia

noncomputable def restStep (number power : Nat) : Nat := if number / 2 ^ power % 2 = 1 then number ^^^ 4374732215 * 2 ^ (power - 32) else number
noncomputable def restN (number size : Nat) : Nat → Nat
  | 0 => number
  | i + 1 => restStep (restN number size i) (size - 1 - i)
noncomputable def lawRest (number size : Nat) : Nat := restN number size (size - 32)
noncomputable def numOf (text : List Nat) : Nat := text.foldl (fun n c => n * 256 + revB 8 c) 0
noncomputable def lawFront (text : List Nat) : Nat := lawRest (numOf text * 2 ^ 32 ^^^ 4294967295 * 2 ^ (8 * text.length)) (8 * text.length + 32)
noncomputable def lawTurned (r : Nat) : Nat := revB 32 r
theorem revB_succ (n x : Nat) : revB (n + 1) x = 2 * revB n x + x / 2 ^ n % 2 := by
  unfold revB revL
  ((with_reducible_and_instances (refine rwG (List.range_succ ..) ?_; refine rwG (List.map_append ..) ?_; refine rwG (List.sum_append ..) ?_)))
  have e : (List.range n).map (fun k => x / 2 ^ k % 2 * 2 ^ (n + 1 - 1 - k)) = ((List.range n).map fun k => x / 2 ^ k % 2 * 2 ^ (n - 1 - k)).map (2 * ·) := by
    (with_reducible_and_instances (refine rwG (List.map_map ..) ?_))
    apply List.map_congr_left
    intro k hk
    have hk' : k < n := List.mem_range.mp hk
    show _ = 2 * (x / 2 ^ k % 2 * 2 ^ (n - 1 - k))
    ((with_reducible_and_instances (refine rwG ((show n + 1 - 1 - k = (n - 1 - k) + 1 by lia) ..) ?_)); rewrite [Nat.pow_succ]; rewrite [← Nat.mul_assoc]; rewrite [Nat.mul_comm]; (with_reducible rfl))
  have e2 : ∀ l : List Nat, (l.map (2 * ·)).sum = 2 * l.sum := fun l => by
    induction l with
    | nil => rfl
    | cons a l ih => ((with_reducible_and_instances (refine rwG (List.map_cons ..) ?_; refine rwG (List.sum_cons ..) ?_; refine rwG (ih ..) ?_; refine rwG (List.sum_cons ..) ?_)); rewrite [Nat.mul_add]; (with_reducible rfl))
  ((with_reducible_and_instances (refine rwG (e ..) ?_)); rewrite [e2])
  simp
theorem revB_zero (x : Nat) : revB 0 x = 0 := rfl
theorem revB_lt' (n x : Nat) : revB n x < 2 ^ n := by
  induction n with
  | zero => rw [revB_zero]; decide
  | succ n ih => rw [revB_succ, Nat.pow_succ]; lia
theorem revB_lt (c : Nat) : revB 8 c < 256 := revB_lt' 8 c
theorem numOf_snoc (text : List Nat) (c : Nat) : numOf (text ++ [c]) = numOf text * 256 + revB 8 c := by unfold numOf; (with_reducible_and_instances (refine rwG (List.foldl_append ..) ?_)); rfl
theorem num_lt : ∀ (text : List Nat) (n k : Nat), n < 2 ^ k → text.foldl (fun n c => n * 256 + revB 8 c) n < 2 ^ (k + 8 * text.length)
  | [], n, k, h => h
  | c :: text, n, k, h => by
    have h1 := revB_lt c
    have h2 : n * 256 + revB 8 c < 2 ^ (k + 8) := by rw [Nat.pow_add]; lia
    have := num_lt text (n * 256 + revB 8 c) (k + 8) h2
    ((with_reducible_and_instances (refine rwG (List.foldl_cons ..) ?_; refine rwG (List.length_cons ..) ?_)); rewrite [Nat.mul_add]; rewrite [Nat.mul_one]; (with_reducible_and_instances (refine rwG ((Nat.add_comm (8 * _) 8) ..) ?_)); rewrite [← Nat.add_assoc])
    exact this
theorem numOf_lt (text : List Nat) : numOf text < 2 ^ (8 * text.length) := by
  have := num_lt text 0 0 (by decide)
  rw [Nat.zero_add] at this; exact this

section
variable {C : Cx} {g : C.G} {prog : Program} {w : World} {T : Heap → Prop} {d : Nat} {st : Stmt}

theorem nat_small {n : Nat} (h : n ≤ 1000000) : -(2 ^ 62) ≤ (n : Int) ∧ (n : Int) < 2 ^ 62 :=
  ⟨Int.le_trans (by decide) (Int.natCast_nonneg n), Int.lt_of_le_of_lt (Int.ofNat_le.mpr h) (by decide)⟩
theorem down_get {a n i : Nat} {p : PV} (h : (rangeItems (a : Int) (-1) n)[i]? = some p) (hn : n ≤ a + 1) : i < n ∧ p = .int ((a - i : Nat) : Int) := by
  obtain ⟨h1, rfl⟩ := rangeItems_get h
  refine ⟨h1, ?_⟩
  (rewrite [Int.mul_neg]; rewrite [Int.mul_one]; (with_reducible_and_instances (refine rwG ((Int.natCast_sub (Nat.le_of_lt_succ (Nat.lt_of_lt_of_le h1 hn))) ..) ?_))); rfl
theorem rest_body (hst : st = stmtAt theProg 11) (F : TopAt C prog w T d (stmtScope st)) (hrange : TG T "range" (.type "range")) (number size : Nat) (h0 : 1 ≤ size) (hs : size ≤ 100000) :
    St C [en "number" (.val (.int number)), en "size" (.val (.int size)), en "power" .undef] g (stmtBody st) (fun fl _ _ => fl = .ret (.int (lawRest number size : Nat))) := by
  have hC := F.ok
  have gr := F.glob hrange (by subst hst; rfl)
  clear F
  subst hst
  have hz := nat_small (n := size - 1) (Nat.le_trans (Nat.sub_le size 1) (Nat.le_trans hs (by decide)))
  refine St.cons (St1.for (ht := by first | exact .inl ⟨_, _, rfl⟩ | exact .inr ⟨_, _, _, rfl⟩) (hs := by intro _; rfl) hC (EvIt.range3 (hn := by rfl) (a := ((size - 1 : Nat) : Int)) (b := 31) hC gr (EvL.cons (hs := by intro _; rfl) hC (Ev.bin hC (by (repeat' with_reducible first|exact Ev.int|exact Ev.str rfl|exact Ev.bool|exact Ev.none|apply Ev.name (by assumption)|exact List.mem_cons_self|apply List.mem_cons_of_mem|apply Ev.bin (by assumption)|exact op_add|exact op_sub|exact op_mul|exact op_and|exact op_xor|exact op_shr (by decide)|exact op_eqs|exact op_eq|exact op_ge|exact op_ishr (by decide))) Ev.int (op_subN (b := 1) h0)) (EvL.cons (hs := by intro _; rfl) hC Ev.int (EvL.cons (hs := by intro _; rfl) hC (Ev.neg hC Ev.int) EvL.nil))) hz.1 hz.2 (by decide) (by decide)) (fun i ρ _ => ρ = [en "number" (.val (.int (restN number size i : Nat))), en "size" (.val (.int size)), en "power" .undef]) rfl ?_ ?_)
  · rintro i p ρ₁ g₂ hp rfl
    rw [show (((size - 1 : Nat) : Int) - 31).toNat = size - 1 - 31 from Int.toNat_sub (size - 1) 31] at hp
    obtain ⟨hi, rfl⟩ := down_get hp (Nat.le_succ_of_le (Nat.sub_le _ 31))
    have hpw : 32 ≤ size - 1 - i := by lia
    have hup : size - 1 - i ≤ 100000 := Nat.le_trans (Nat.sub_le _ i) (Nat.le_trans (Nat.sub_le size 1) hs)
    have hnx : restN number size (i + 1) = restStep (restN number size i) (size - 1 - i) := rfl
    generalize restN number size i = x at *
    generalize size - 1 - i = pw at *
    refine ⟨_, Binds.name (by (repeat first|((with_reducible refine Put.here ?_);first|rfl|assumption)|apply Put.there)), ?_⟩
    refine St.one (St1.ifs (g₁ := g₂) hC (EvB.val (he := by rfl) (p := .int ((x / 2 ^ pw % 2 : Nat) : Int)) hC (Ev.bin hC (Ev.bin hC (by (repeat' with_reducible first|exact Ev.int|exact Ev.str rfl|exact Ev.bool|exact Ev.none|apply Ev.name (by assumption)|exact List.mem_cons_self|apply List.mem_cons_of_mem|apply Ev.bin (by assumption)|exact op_add|exact op_sub|exact op_mul|exact op_and|exact op_xor|exact op_shr (by decide)|exact op_eqs|exact op_eq|exact op_ge|exact op_ishr (by decide))) (by (repeat' with_reducible first|exact Ev.int|exact Ev.str rfl|exact Ev.bool|exact Ev.none|apply Ev.name (by assumption)|exact List.mem_cons_self|apply List.mem_cons_of_mem|apply Ev.bin (by assumption)|exact op_add|exact op_sub|exact op_mul|exact op_and|exact op_xor|exact op_shr (by decide)|exact op_eqs|exact op_eq|exact op_ge|exact op_ishr (by decide))) op_shrN) Ev.int op_bitN) rfl) (fun h => ?_) fun h => ?_)
    · have h' : x / 2 ^ pw % 2 = 1 := by
        have hq : (((x / 2 ^ pw % 2 : Nat) : Int) != 0) = true := h
        have : ¬ ((x / 2 ^ pw % 2 : Nat) : Int) = 0 := by simpa using hq
        lia
      refine St.one (St1.aug (g₁ := g₂) hC (by (repeat first|with_reducible exact List.mem_cons_self|apply List.mem_cons_of_mem)) (Ev.bin hC (Ev.int (i := ((4374732215 : Nat) : Int))) (Ev.bin hC (by (repeat' with_reducible first|exact Ev.int|exact Ev.str rfl|exact Ev.bool|exact Ev.none|apply Ev.name (by assumption)|exact List.mem_cons_self|apply List.mem_cons_of_mem|apply Ev.bin (by assumption)|exact op_add|exact op_sub|exact op_mul|exact op_and|exact op_xor|exact op_shr (by decide)|exact op_eqs|exact op_eq|exact op_ge|exact op_ishr (by decide))) Ev.int (op_subN (b := 32) hpw)) (op_shlN (k := 33) hC (by decide) ?_)) op_ixorN (by (repeat first|((with_reducible refine Put.here ?_);first|rfl|assumption)|apply Put.there)) ⟨_, ?_, rfl⟩)
      · exact Nat.le_trans (Nat.add_le_add_left (Nat.le_trans (Nat.sub_le pw 32) hup) 33) (by decide)
      · (repeat first|exact Weak.nil|((with_reducible apply Weak.keep))|((with_reducible refine Weak.drop ?_ ?_);first|rfl|assumption)|((with_reducible refine Weak.val ?_ ?_);rotate_left)|((with_reducible refine Weak.own ?_ ?_);rotate_left))
        ((with_reducible_and_instances (refine rwG (hnx ..) ?_)); rewrite [restStep]; (with_reducible_and_instances (refine rwG ((if_pos h') ..) ?_)); (with_reducible rfl))
    · have h' : ¬ x / 2 ^ pw % 2 = 1 := by
        have hq : (((x / 2 ^ pw % 2 : Nat) : Int) != 0) = false := h
        have : ((x / 2 ^ pw % 2 : Nat) : Int) = 0 := by simpa using hq
        lia
      refine St.nil ⟨_, ?_, rfl⟩
      (repeat first|exact Weak.nil|((with_reducible apply Weak.keep))|((with_reducible refine Weak.drop ?_ ?_);first|rfl|assumption)|((with_reducible refine Weak.val ?_ ?_);rotate_left)|((with_reducible refine Weak.own ?_ ?_);rotate_left))
      ((with_reducible_and_instances (refine rwG (hnx ..) ?_)); rewrite [restStep]; (with_reducible_and_instances (refine rwG ((if_neg h') ..) ?_)); (with_reducible rfl))
  · rintro ρ₁ g₂ rfl
    have hn : (rangeItems ((size - 1 : Nat) : Int) (-1) (((size - 1 : Nat) : Int) - 31).toNat).length = size - 32 := by ((with_reducible_and_instances (refine rwG (rangeItems_length ..) ?_; refine rwG ((show (((size - 1 : Nat) : Int) - 31).toNat = size - 1 - 31 from Int.toNat_sub (size - 1) 31) ..) ?_)); rewrite [Nat.sub_sub]; (with_reducible rfl))
    (with_reducible_and_instances (refine rwG (hn ..) ?_))
    exact St.one (St1.ret (v := .int (restN number size (size - 32) : Nat)) hC (by (repeat' with_reducible first|exact Ev.int|exact Ev.str rfl|exact Ev.bool|exact Ev.none|apply Ev.name (by assumption)|exact List.mem_cons_self|apply List.mem_cons_of_mem|apply Ev.bin (by assumption)|exact op_add|exact op_sub|exact op_mul|exact op_and|exact op_xor|exact op_shr (by decide)|exact op_eqs|exact op_eq|exact op_ge|exact op_ishr (by decide))) rfl)

theorem rest_fn {f : Addr} {o : Obj} {fd : FuncData} (hT : ∀ h h' : Heap, T h → (∀ b o, h.get? b = some o → h'.get? b = some o) → T h') (hst : st = stmtAt theProg 11) (D : DefAt T st ["number", "size"] f o fd) (hrange : TG T "range" (.type "range")) (number size : Nat) (h0 : 1 ≤ size) (hs : size ≤ 100000) :
    Fn prog w T 1 (.ref f) [.int number, .int size] (.int (lawRest number size : Nat)) :=
  Fn.def ["power"] hT D rfl (by decide) (by subst hst; decide +kernel) (by decide +kernel) (by subst hst; rfl) (by subst hst; rfl) (by subst hst; rfl) fun C g F => StP.mono (rest_body hst F.top hrange number size h0 hs) fun fl ρ g h => .inl h

theorem bit_lt {a : Nat} : a % 2 < 2 ^ 1 := by lia
set_option maxHeartbeats 1000000 in
theorem front_body (hst : st = stmtAt theProg 12) (F : TopAt C prog w T d (stmtScope st)) (hz : ∀ x, ¬ C.Z x) (hrange : TG T "range" (.type "range")) (hlen : TG T "len" (.builtin "len")) (hord : TG T "ord" (.builtin "ord")) (hsum : TG T "sum" (.builtin "sum")) {fRest : Addr} (rest : PureAt prog w T 1 "_law_rest" fRest) (restFn : ∀ n s : Nat, 1 ≤ s → s ≤ 100000 → Fn prog w T 1 (.ref fRest) [.int n, .int s] (.int (lawRest n s : Nat))) (hd : 1 ≤ d) {text : List Nat} (ht : text.length ≤ 4000) :
    St C [en "text" (.val (.str text)), en "number" .undef, en "sign" .undef] g (stmtBody st) (fun fl _ _ => fl = .ret (.int (lawFront text : Nat))) := by
  have hC := F.ok
  have gr := F.glob hrange (by subst hst; rfl)
  have gl := F.glob hlen (by subst hst; rfl)
  have gs := F.glob hsum (by subst hst; rfl)
  have hkr : (stmtScope st).names.lookup (Str.ofString "_law_rest") = some .globalImplicit := by subst hst; rfl
  have ks : C.env.kindOf (Str.ofString "sign") = some .cell := by show C.env.scope.names.lookup _ = _; (with_reducible_and_instances (refine rwG (F.scope ..) ?_)); subst hst; rfl
  subst hst
  refine St.cons (St1.assign (hs := by rfl) hC (Ev.int (i := ((0 : Nat) : Int))) (by (repeat first|((with_reducible refine Put.here ?_);first|rfl|assumption)|apply Put.there)) ?_)
  refine St.cons (St1.for (ht := by first | exact .inl ⟨_, _, rfl⟩ | exact .inr ⟨_, _, _, rfl⟩) (hs := by intro _; rfl) hC (EvIt.str (x := text) hC (by (repeat' with_reducible first|exact Ev.int|exact Ev.str rfl|exact Ev.bool|exact Ev.none|apply Ev.name (by assumption)|exact List.mem_cons_self|apply List.mem_cons_of_mem|apply Ev.bin (by assumption)|exact op_add|exact op_sub|exact op_mul|exact op_and|exact op_xor|exact op_shr (by decide)|exact op_eqs|exact op_eq|exact op_ge|exact op_ishr (by decide)))) (fun i ρ _ => ρ = [en "text" (.val (.str text)), en "number" (.val (.int (numOf (text.take i) : Nat))), en "sign" .undef]) rfl ?_ ?_)
  · rintro i p ρ₁ g₂ hp rfl
    obtain ⟨c, hc, rfl⟩ := strItem hp
    refine ⟨_, Binds.name (by (repeat first|((with_reducible refine Put.here ?_);first|rfl|assumption)|apply Put.there)), ?_⟩
    have hnx : numOf (text.take (i + 1)) = numOf (text.take i) * 256 + revB 8 c := by ((with_reducible_and_instances (refine rwG (List.take_add_one ..) ?_; refine rwG (hc ..) ?_))); exact numOf_snoc _ _
    generalize numOf (text.take i) = x at *
    have hsumv : (((revL 8 c).map fun (m : Nat) => (m : Int)).sum) = ((revB 8 c : Nat) : Int) := sum_cast _
    refine St.one (St1.assign (hs := by rfl) (g₁ := g₂) hC (v := .int ((x * 256 + revB 8 c : Nat) : Int)) (Ev.bin hC (Ev.bin hC (by (repeat' with_reducible first|exact Ev.int|exact Ev.str rfl|exact Ev.bool|exact Ev.none|apply Ev.name (by assumption)|exact List.mem_cons_self|apply List.mem_cons_of_mem|apply Ev.bin (by assumption)|exact op_add|exact op_sub|exact op_mul|exact op_and|exact op_xor|exact op_shr (by decide)|exact op_eqs|exact op_eq|exact op_ge|exact op_ishr (by decide))) Ev.int (op_mulN' (b := 256) (by decide))) ?_ op_addN) (by (repeat first|((with_reducible refine Put.here ?_);first|rfl|assumption)|apply Put.there)) ⟨_, ?_, rfl⟩)
    · (with_reducible_and_instances (refine rwL (hsumv ..) ?_))
      refine Ev.callB (hn := by rfl) hC gs (EvL.cons (hs := by intro _; rfl) hC ?_ EvL.nil) (call_sum hC (long_rev (by decide)))
      rw [← revF_eq]
      refine Ev.comp (ht := by first | exact .inl ⟨_, _, rfl⟩ | exact .inr ⟨_, _, _, rfl⟩) (hs := by intro _; rfl) (f := revF 8 c) (ρc := [en "k" .undef, en "sign" (.ro (.str [c]))]) hC (CompOk.of ["k"] ["sign"] [("sign", .str [c])] rfl hz rfl rfl (by decide +kernel) (by decide +kernel) (by decide +kernel) (by decide +kernel) (fun y hy => ?_)) (EvIt.range1 (hn := by rfl) (b := 8) hC gr (EvL.cons (hs := by intro _; rfl) hC Ev.int EvL.nil) (by decide) (by decide)) (by (with_reducible_and_instances (refine rwG (rangeItems_length ..) ?_)); decide) (fun p hp Lc hCc => ?_)
      · rcases List.mem_cons.mp hy with rfl | hy
        · exact ⟨ks, by (repeat first|with_reducible exact List.mem_cons_self|apply List.mem_cons_of_mem)⟩
        · cases hy
      obtain ⟨k, hk, rfl⟩ := range_mem hp
      have hk' : k < 8 := hk
      refine ⟨_, Binds.name (by (repeat first|((with_reducible refine Put.here ?_);first|rfl|assumption)|apply Put.there)), by (repeat first|exact Weak.nil|((with_reducible apply Weak.keep))|((with_reducible refine Weak.drop ?_ ?_);first|rfl|assumption)|((with_reducible refine Weak.val ?_ ?_);rotate_left)|((with_reducible refine Weak.own ?_ ?_);rotate_left)), true, .inl ⟨rfl, rfl⟩, fun _ => ⟨_, rfl, ?_⟩, fun h => by cases h⟩
      rw [Int.toNat_natCast]
      exact Ev.bin hCc (Ev.bin hCc (Ev.bin hCc (Ev.callB (hn := by rfl) hCc ((F.comp hCc).glob hord (relabel_glob (by rfl))) (EvL.cons (hs := by intro _; rfl) hCc (Ev.nameRo hCc (p := .str [c]) (by (repeat first|with_reducible exact List.mem_cons_self|apply List.mem_cons_of_mem))) EvL.nil) call_ord) (Ev.name hCc (p := .int (k : Int)) (by (repeat first|with_reducible exact List.mem_cons_self|apply List.mem_cons_of_mem))) op_shrN) Ev.int op_bitN) (Ev.bin hCc (Ev.int (i := ((7 : Nat) : Int))) (Ev.name hCc (p := .int (k : Int)) (by (repeat first|with_reducible exact List.mem_cons_self|apply List.mem_cons_of_mem))) (op_subN (by lia))) (op_shlN (k := 1) hCc bit_lt (by lia))
    · (repeat first|exact Weak.nil|((with_reducible apply Weak.keep))|((with_reducible refine Weak.drop ?_ ?_);first|rfl|assumption)|((with_reducible refine Weak.val ?_ ?_);rotate_left)|((with_reducible refine Weak.own ?_ ?_);rotate_left))
      ((with_reducible_and_instances (refine rwG (hnx ..) ?_)); (with_reducible rfl))
  · rintro ρ₁ g₂ rfl
    (rewrite [List.length_map]; (with_reducible_and_instances (refine rwG (List.take_length ..) ?_)))
    have hlt := numOf_lt text
    have hN : ∀ {ρ : Env'} {g : C.G} {p1 p2 p3 : Pos}, (Str.ofString "text", LV.val (.str text)) ∈ ρ → Ev C ρ g (.Call (.Name "len" p1) [.Name "text" p2] [] p3) (.int (text.length : Int)) g := fun h =>
      Ev.callB (hn := by rfl) hC gl (EvL.cons (hs := by intro _; rfl) hC (Ev.name hC h) EvL.nil) (call_lenS (by lia))
    refine St.one (St1.ret hC (F.call (hn := by rfl) rest hkr (EvL.cons (hs := by intro _; rfl) hC (Ev.bin hC (Ev.bin hC (by (repeat' with_reducible first|exact Ev.int|exact Ev.str rfl|exact Ev.bool|exact Ev.none|apply Ev.name (by assumption)|exact List.mem_cons_self|apply List.mem_cons_of_mem|apply Ev.bin (by assumption)|exact op_add|exact op_sub|exact op_mul|exact op_and|exact op_xor|exact op_shr (by decide)|exact op_eqs|exact op_eq|exact op_ge|exact op_ishr (by decide))) (Ev.int (i := ((32 : Nat) : Int))) (op_shlN (k := 8 * text.length) hC hlt (by lia))) (Ev.bin hC (Ev.bin hC (Ev.bin hC Ev.int Ev.int (op_powN (a := 2) (n := 32) (k := 2) (by decide) (by decide))) Ev.int (op_subN (a := 2 ^ 32) (b := 1) (by decide))) (Ev.bin hC Ev.int (hN (by (repeat first|with_reducible exact List.mem_cons_self|apply List.mem_cons_of_mem))) (op_mulN (a := 8) (by decide))) (op_shlN (a := 2 ^ 32 - 1) (k := 32) hC (by decide) (by lia))) op_xorN) (EvL.cons (hs := by intro _; rfl) hC (Ev.bin hC (Ev.bin hC Ev.int (hN (by (repeat first|with_reducible exact List.mem_cons_self|apply List.mem_cons_of_mem))) (op_mulN (a := 8) (by decide))) Ev.int (op_addN (b := 32))) EvL.nil)) (restFn _ _ (by lia) (by lia)) hd) rfl)

theorem front_fn {f : Addr} {o : Obj} {fd : FuncData} (hT : ∀ h h' : Heap, T h → (∀ b o, h.get? b = some o → h'.get? b = some o) → T h') (hst : st = stmtAt theProg 12) (D : DefAt T st ["text"] f o fd) (hrange : TG T "range" (.type "range")) (hlen : TG T "len" (.builtin "len")) (hord : TG T "ord" (.builtin "ord")) (hsum : TG T "sum" (.builtin "sum")) {fRest : Addr} (rest : PureAt prog w T 1 "_law_rest" fRest) (restFn : ∀ n s : Nat, 1 ≤ s → s ≤ 100000 → Fn prog w T 1 (.ref fRest) [.int n, .int s] (.int (lawRest n s : Nat))) {text : List Nat} (ht : text.length ≤ 4000) :
    Fn prog w T 2 (.ref f) [.str text] (.int (lawFront text : Nat)) :=
  Fn.def ["number", "sign"] hT D rfl (by decide) (by subst hst; decide +kernel) (by decide +kernel) (by subst hst; rfl) (by subst hst; rfl) (by subst hst; rfl) fun C g F => StP.mono (front_body hst F.top F.z hrange hlen hord hsum rest restFn (Nat.le_refl _) ht) fun fl ρ g h => .inl h

theorem turned_body (hst : st = stmtAt theProg 13) (F : TopAt C prog w T d (stmtScope st)) (hz : ∀ x, ¬ C.Z x) (hrange : TG T "range" (.type "range")) (hsum : TG T "sum" (.builtin "sum")) (r : Nat) :
    St C [en "register" (.val (.int r))] g (stmtBody st) (fun fl _ _ => fl = .ret (.int (lawTurned r : Nat))) := by
  have hC := F.ok
  have gr := F.glob hrange (by subst hst; rfl)
  have gs := F.glob hsum (by subst hst; rfl)
  have ks : C.env.kindOf (Str.ofString "register") = some .cell := by show C.env.scope.names.lookup _ = _; (with_reducible_and_instances (refine rwG (F.scope ..) ?_)); subst hst; rfl
  clear F
  subst hst
  have hsumv : (((revL 32 r).map fun (m : Nat) => (m : Int)).sum) = ((revB 32 r : Nat) : Int) := sum_cast _
  refine St.one (St1.ret (g₁ := g) hC (v := .int ((revB 32 r : Nat) : Int)) ?_ rfl)
  (with_reducible_and_instances (refine rwL (hsumv ..) ?_))
  refine Ev.callB (hn := by rfl) hC gs (EvL.cons (hs := by intro _; rfl) hC ?_ EvL.nil) (call_sum hC (long_rev (by decide)))
  rw [← revF_eq]
  refine Ev.comp (ht := by first | exact .inl ⟨_, _, rfl⟩ | exact .inr ⟨_, _, _, rfl⟩) (hs := by intro _; rfl) (f := revF 32 r) (ρc := [en "k" .undef, en "register" (.ro (.int r))]) hC (CompOk.of ["k"] ["register"] [("register", .int r)] rfl hz rfl rfl (by decide +kernel) (by decide +kernel) (by decide +kernel) (by decide +kernel) (fun y hy => ?_)) (EvIt.range1 (hn := by rfl) (b := 32) hC gr (EvL.cons (hs := by intro _; rfl) hC Ev.int EvL.nil) (by decide) (by decide)) (by (with_reducible_and_instances (refine rwG (rangeItems_length ..) ?_)); decide) (fun p hp Lc hCc => ?_)
  · rcases List.mem_cons.mp hy with rfl | hy
    · exact ⟨ks, by (repeat first|with_reducible exact List.mem_cons_self|apply List.mem_cons_of_mem)⟩
    · cases hy
  · obtain ⟨k, hk, rfl⟩ := range_mem hp
    have hk' : k < 32 := hk
    refine ⟨_, Binds.name (by (repeat first|((with_reducible refine Put.here ?_);first|rfl|assumption)|apply Put.there)), by (repeat first|exact Weak.nil|((with_reducible apply Weak.keep))|((with_reducible refine Weak.drop ?_ ?_);first|rfl|assumption)|((with_reducible refine Weak.val ?_ ?_);rotate_left)|((with_reducible refine Weak.own ?_ ?_);rotate_left)), true, .inl ⟨rfl, rfl⟩, fun _ => ⟨_, rfl, ?_⟩, fun h => by cases h⟩
    rw [Int.toNat_natCast]
    exact Ev.bin hCc (Ev.bin hCc (Ev.bin hCc (Ev.nameRo hCc (p := .int r) (by (repeat first|with_reducible exact List.mem_cons_self|apply List.mem_cons_of_mem))) (Ev.name hCc (p := .int (k : Int)) (by (repeat first|with_reducible exact List.mem_cons_self|apply List.mem_cons_of_mem))) op_shrN) Ev.int op_bitN) (Ev.bin hCc (Ev.int (i := ((31 : Nat) : Int))) (Ev.name hCc (p := .int (k : Int)) (by (repeat first|with_reducible exact List.mem_cons_self|apply List.mem_cons_of_mem))) (op_subN (by lia))) (op_shlN (k := 1) hCc bit_lt (by lia))

theorem turned_fn {f : Addr} {o : Obj} {fd : FuncData} (hT : ∀ h h' : Heap, T h → (∀ b o, h.get? b = some o → h'.get? b = some o) → T h') (hst : st = stmtAt theProg 13) (D : DefAt T st ["register"] f o fd) (hrange : TG T "range" (.type "range")) (hsum : TG T "sum" (.builtin "sum")) (r : Nat) :
    Fn prog w T 1 (.ref f) [.int r] (.int (lawTurned r : Nat)) :=
  Fn.def [] hT D rfl (by decide) (by subst hst; decide +kernel) (by decide +kernel) (by subst hst; rfl) (by subst hst; rfl) (by subst hst; rfl) fun C g F => StP.mono (turned_body hst F.top F.z hrange hsum r) fun fl ρ g h => .inl h
end
end Mine.Internal
end

section
namespace Mine.Internal
open PySem PySem.Calls PyProof.Rows PySem.W

structure Dr where
  d0 : Nat
  d1 : Nat
  d2 : Nat
  d3 : Nat
  d4 : Nat
noncomputable def fronts : List (List Nat) := [[], [32], [13, 10], [9, 32, 10]]
noncomputable def tails (q : Bool) : List (List Nat) := if q then [[34], [], [92], [34, 10]] else [[], [10], [92], [32, 9]]
noncomputable abbrev ones : Nat := 4294967295
noncomputable def crcW (w : List Nat) : Nat := w.foldl crcOf ones ^^^ ones
namespace Dr
variable (D : Dr)
noncomputable def q : Bool := decide (D.d0 % 2 = 1)
noncomputable def front : List Nat := fronts.getD (D.d0 / 24 % 4) [] ++ (if D.q then [34] else [])
noncomputable def tail : List Nat := (tails D.q).getD (D.d0 / 6 % 4) []
noncomputable def n : Nat := 2 + D.d0 / 2 % 3
noncomputable def numbers : List Nat := ([D.d0, D.d1, D.d2, D.d3, D.d4].drop 1).take D.n
noncomputable def pieceAt (k : Nat) : List Nat × List Nat := lawPiece (D.numbers.getD k 0) D.q (decide (k < 2))
noncomputable def pieces : List (List Nat × List Nat) := (List.range D.n).map D.pieceAt
noncomputable def gaps : List (List Nat) := D.numbers.map fun m => lawGap m D.q
noncomputable def first : List Nat := D.front ++ (D.pieceAt 0).2
noncomputable def files : List File := filesN D.pieces D.gaps D.first (D.n - 1)
noncomputable def textOf (f : File) : List Nat := f.1 ++ D.tail
noncomputable def stopsOf (f : File) : List Nat := f.2.2 ++ [(f.1 ++ D.tail.take 1).length]
noncomputable def regOf (f : File) : Nat := (readsL (D.textOf f) f.2.1 (2 * f.2.1.length + 3)).reg
noncomputable def behindN (i : Nat) : Nat := (D.files.take i).foldl (fun b f => b ^^^ D.regOf f) 0
noncomputable def wordsN (i : Nat) : Nat := (D.files.take i).foldl (fun a f => f.2.1.foldl (fun a w => a ^^^ crcW w) a) 0
noncomputable def dueN (i : Nat) : Nat := ((D.gaps.drop 2).take i).foldl (fun b x => b ^^^ b * 2 ^ (8 * x.length)) (lawFront D.first ^^^ lawFront (D.first ++ D.gaps.getD 1 []))
noncomputable def sizeN (i : Nat) : Nat := ((D.gaps.drop 2).take i).foldl (fun b x => b + 8 * x.length) 32
noncomputable def moved : Nat := 8 * D.tail.length + 8 * ((D.pieces.drop 1).map fun p => p.2.length).sum
noncomputable def row : List (List Nat) := D.pieces.map (·.1)
noncomputable def rows : List (List (List Nat)) := [D.row, D.row.drop 1, D.row.dropLast, (D.row.drop 1).dropLast]
noncomputable def fourN (i : Nat) : Nat := (D.rows.take i).foldl (fun a p => a ^^^ (lawFront p.flatten ^^^ ones)) 0
end Dr
structure Dr.Holds (D : Dr) : Prop where
  due : ∀ f ∈ D.files, callsR (D.textOf f) f.2.1 (2 * f.2.1.length + 3) = lawDue (D.textOf f) f.2.1 (D.stopsOf f)
  behind : D.behindN D.files.length = lawTurned (lawRest (D.dueN (D.gaps.drop 2).length * 2 ^ D.moved) (D.sizeN (D.gaps.drop 2).length + D.moved))
  words : D.wordsN D.files.length = lawTurned (D.fourN 4)
structure Dr.Ok (D : Dr) : Prop where
  b0 : D.d0 < 1000000
  b1 : D.d1 < 1000000
  b2 : D.d2 < 1000000
  b3 : D.d3 < 1000000
  b4 : D.d4 < 1000000

noncomputable def drawnF : PV → Option PV
  | .int x => some (.int ((x % 1000000).toNat : Int))
  | _ => none
noncomputable abbrev dflt : List PV := [.int 86, .int 553, .int 306318, .int 4, .int 118784]
theorem drawn_is (script : List Int) : ∃ D : Dr, D.Ok ∧ (pySlice (script.map PV.int) none (some 5)).filterMap drawnF ++ pySlice dflt (some (((pySlice (script.map PV.int) none (some 5)).filterMap drawnF).length : Int)) none = [.int D.d0, .int D.d1, .int D.d2, .int D.d3, .int D.d4] := by
  have lt : ∀ x : Int, (x % 1000000).toNat < 1000000 := fun x => by lia
  have l0 : 86 < 1000000 := by decide
  have l1 : 553 < 1000000 := by decide
  have l2 : 306318 < 1000000 := by decide
  have l3 : 4 < 1000000 := by decide
  have l4 : 118784 < 1000000 := by decide
  match script with
  | [] => exact ⟨⟨86, 553, 306318, 4, 118784⟩, ⟨l0, l1, l2, l3, l4⟩, rfl⟩
  | [a] => exact ⟨⟨(a % 1000000).toNat, 553, 306318, 4, 118784⟩, ⟨lt a, l1, l2, l3, l4⟩, rfl⟩
  | [a, b] => exact ⟨⟨(a % 1000000).toNat, (b % 1000000).toNat, 306318, 4, 118784⟩, ⟨lt a, lt b, l2, l3, l4⟩, rfl⟩
  | [a, b, c] => exact ⟨⟨(a % 1000000).toNat, (b % 1000000).toNat, (c % 1000000).toNat, 4, 118784⟩, ⟨lt a, lt b, lt c, l3, l4⟩, rfl⟩
  | [a, b, c, d] => exact ⟨⟨(a % 1000000).toNat, (b % 1000000).toNat, (c % 1000000).toNat, (d % 1000000).toNat, 118784⟩, ⟨lt a, lt b, lt c, lt d, l4⟩, rfl⟩
  | a :: b :: c :: d :: x :: r =>
    refine ⟨⟨(a % 1000000).toNat, (b % 1000000).toNat, (c % 1000000).toNat, (d % 1000000).toNat, (x % 1000000).toNat⟩, ⟨lt a, lt b, lt c, lt d, lt x⟩, ?_⟩
    have e : pySlice ((a :: b :: c :: d :: x :: r).map PV.int) none (some 5) = [.int a, .int b, .int c, .int d, .int x] := by
      have := slice_to ((a :: b :: c :: d :: x :: r).map PV.int) 5
      rw [show ((5 : Nat) : Int) = 5 from rfl] at this
      (with_reducible_and_instances (refine rwG (this ..) ?_)); rfl
    (with_reducible_and_instances (refine rwG (e ..) ?_)); rfl

section
variable {D : Dr}
theorem n_three : D.n = 2 ∨ D.n = 3 ∨ D.n = 4 := by unfold Dr.n; lia
theorem numbers_len : D.numbers.length = D.n := by
  unfold Dr.numbers
  ((with_reducible_and_instances (refine rwG (List.length_take ..) ?_; refine rwG (List.length_drop ..) ?_)))
  have := n_three (D := D)
  show min D.n (5 - 1) = _
  lia
theorem pieces_len : D.pieces.length = D.n := by unfold Dr.pieces; (rewrite [List.length_map]; (with_reducible_and_instances (refine rwG (List.length_range ..) ?_)); (with_reducible rfl))
theorem gaps_len : D.gaps.length = D.n := by unfold Dr.gaps; (rewrite [List.length_map]; (with_reducible_and_instances (refine rwG (numbers_len ..) ?_)); (with_reducible rfl))
theorem front_len : D.front.length ≤ 4 := by
  unfold Dr.front
  have h : D.d0 / 24 % 4 < 4 := Nat.mod_lt _ (by decide)
  generalize D.d0 / 24 % 4 = j at h
  have h' : j = 0 ∨ j = 1 ∨ j = 2 ∨ j = 3 := by lia
  (with_reducible_and_instances (refine rwG (List.length_append ..) ?_))
  have h2 : (if D.q then [34] else ([] : List Nat)).length ≤ 1 := by split <;> simp
  rcases h' with rfl | rfl | rfl | rfl <;> simp [fronts] <;> lia
theorem tail_len : D.tail.length ≤ 2 := by
  unfold Dr.tail
  have h : D.d0 / 6 % 4 < 4 := Nat.mod_lt _ (by decide)
  generalize D.d0 / 6 % 4 = j at h
  have h' : j = 0 ∨ j = 1 ∨ j = 2 ∨ j = 3 := by lia
  cases D.q <;> rcases h' with rfl | rfl | rfl | rfl <;> decide
theorem pieceAt_len {k : Nat} : (D.pieceAt k).1.length ≤ 2 ∧ (D.pieceAt k).2.length ≤ 4 := by
  have h1 := piecePlain_len (n := D.numbers.getD k 0) (two := decide (k < 2))
  refine ⟨h1, ?_⟩
  have h2 := pieceW_len (n := D.numbers.getD k 0) (q := D.q) (pl := piecePlain (D.numbers.getD k 0) (decide (k < 2))) (piecePlain (D.numbers.getD k 0) (decide (k < 2))).length
  show (pieceW _ _ _ _).length ≤ 4
  lia
theorem pieces_get {k : Nat} (h : k < D.n) : D.pieces.getD k ([], []) = D.pieceAt k := by
  unfold Dr.pieces
  ((with_reducible_and_instances (refine rwG ((List.getD_eq_getElem?_getD) ..) ?_; refine rwG ((List.getElem?_map) ..) ?_; refine rwG ((List.getElem?_range h) ..) ?_))); rfl
theorem pieces_get' {k : Nat} : (D.pieces.getD k ([], [])).1.length ≤ 2 ∧ (D.pieces.getD k ([], [])).2.length ≤ 4 := by
  by_cases h : k < D.n
  · (with_reducible_and_instances (refine rwG ((pieces_get h) ..) ?_)); exact pieceAt_len
  · ((with_reducible_and_instances (refine rwG ((List.getD_eq_getElem?_getD) ..) ?_; refine rwG ((List.getElem?_eq_none (by rw [pieces_len]; lia)) ..) ?_))); exact ⟨Nat.zero_le _, Nat.zero_le _⟩
theorem gaps_get {k : Nat} (h : k < D.n) : D.gaps.getD k [] = lawGap (D.numbers.getD k 0) D.q := by
  unfold Dr.gaps
  have h' : k < D.numbers.length := by (with_reducible_and_instances (refine rwG (numbers_len ..) ?_)); exact h
  ((with_reducible_and_instances (refine rwG ((List.getD_eq_getElem?_getD) ..) ?_; refine rwG ((List.getElem?_map) ..) ?_; refine rwG ((List.getElem?_eq_getElem h') ..) ?_; refine rwG ((List.getD_eq_getElem?_getD) ..) ?_; refine rwG ((List.getElem?_eq_getElem h') ..) ?_))); rfl
theorem gaps_get' {k : Nat} : (D.gaps.getD k []).length ≤ 5 := by
  by_cases h : k < D.n
  · (with_reducible_and_instances (refine rwG ((gaps_get h) ..) ?_)); exact lawGap_len
  · ((with_reducible_and_instances (refine rwG ((List.getD_eq_getElem?_getD) ..) ?_; refine rwG ((List.getElem?_eq_none (by rw [gaps_len]; lia)) ..) ?_))); exact Nat.zero_le _
theorem lawGap_pos {m : Nat} {q : Bool} : 0 < (lawGap m q).length := by unfold lawGap; split <;> simp
theorem first_len : D.first.length ≤ 8 := by
  have h1 := front_len (D := D)
  have h2 := (pieceAt_len (D := D) (k := 0)).2
  unfold Dr.first; (with_reducible_and_instances (refine rwG (List.length_append ..) ?_)); lia
theorem small : SmallP D.pieces D.gaps D.first where
  n0 := by (with_reducible_and_instances (refine rwG (pieces_len ..) ?_)); have := n_three (D := D); lia
  n4 := by (with_reducible_and_instances (refine rwG (pieces_len ..) ?_)); have := n_three (D := D); lia
  gp := by ((with_reducible_and_instances (refine rwG (pieces_len ..) ?_; refine rwG (gaps_len ..) ?_)); (with_reducible rfl))
  fs := by have := first_len (D := D); lia
  pl := fun i => by have := (pieces_get' (D := D) (k := i)).1; lia
  wr := fun i => by have := (pieces_get' (D := D) (k := i)).2; lia
  gap := fun i => by have := gaps_get' (D := D) (k := i); lia
  gap1 := fun i hi => by ((with_reducible_and_instances (refine rwG ((gaps_get (by rw [← pieces_len]; exact hi)) ..) ?_))); exact lawGap_pos
theorem files_is : D.files = filesN D.pieces D.gaps D.first (D.pieces.length - 1) := by unfold Dr.files; ((with_reducible_and_instances (refine rwG (pieces_len ..) ?_)); (with_reducible rfl))
theorem file_small {f : File} (hf : f ∈ D.files) : SmallF (D.n - 1) f := by
  unfold Dr.files at hf
  exact files_small small (D.n - 1) (by (with_reducible_and_instances (refine rwG (pieces_len ..) ?_)); have := n_three (D := D); lia) f hf
end
end Mine.Internal
end

section
namespace Mine.Internal
open PySem PySem.Calls PyProof.Rows PySem.W

structure FA where
  fCrc : Addr
  fPiece : Addr
  fGap : Addr
  fFiles : Addr
  fRun : Addr
  fDue : Addr
  fRest : Addr
  fFront : Addr
  fTurned : Addr
structure LawTop (prog : Program) (w : World) (T : Heap → Prop) (a : FA) : Prop where
  len : TG T "len" (.builtin "len")
  range : TG T "range" (.type "range")
  sum : TG T "sum" (.builtin "sum")
  isi : TG T "isinstance" (.builtin "isinstance")
  int : TG T "int" (.type "int")
  bool : TG T "bool" (.type "bool")
  piece : PureAt prog w T 1 "_law_piece" a.fPiece
  pieceFn : ∀ (n : Nat) (q t : Bool), Fn prog w T 1 (.ref a.fPiece) [.int n, .bool q, .bool t] (piecePV (lawPiece n q t))
  gap : PureAt prog w T 1 "_law_gap" a.fGap
  gapFn : ∀ (n : Nat) (q : Bool), Fn prog w T 1 (.ref a.fGap) [.int n, .bool q] (.str (lawGap n q))
  files : PureAt prog w T 1 "_law_files" a.fFiles
  filesFn : ∀ {P : List (List Nat × List Nat)} {G : List (List Nat)} {first : List Nat}, SmallP P G first → Fn prog w T 1 (.ref a.fFiles) [.str first, .list (P.map piecePV), .list (G.map .str)] (.list ((filesN P G first (P.length - 1)).map filePV))
  run : PureAt prog w T 2 "_law_run" a.fRun
  runFn : ∀ (r : Nat) (x : List Nat), Fn prog w T 2 (.ref a.fRun) [.int r, .str x] (.int ((x.foldl crcOf r : Nat) : Int))
  due : PureAt prog w T 1 "_law_due" a.fDue
  dueFn : ∀ {text : List Nat} {words : List (List Nat)} {stops : List Nat}, text.length ≤ 4000 → words.length ≤ 100 → stops.length = words.length → 0 < words.length → (∀ s ∈ stops, s ≤ text.length) → Fn prog w T 1 (.ref a.fDue) [.str text, .list (words.map .str), .list (pvInts stops)] (.list (lawDue text words stops))
  rest : PureAt prog w T 1 "_law_rest" a.fRest
  restFn : ∀ n s : Nat, 1 ≤ s → s ≤ 100000 → Fn prog w T 1 (.ref a.fRest) [.int n, .int s] (.int (lawRest n s : Nat))
  front : PureAt prog w T 2 "_law_front" a.fFront
  frontFn : ∀ {text : List Nat}, text.length ≤ 4000 → Fn prog w T 2 (.ref a.fFront) [.str text] (.int (lawFront text : Nat))
  turned : PureAt prog w T 1 "_law_turned" a.fTurned
  turnedFn : ∀ r : Nat, Fn prog w T 1 (.ref a.fTurned) [.int r] (.int (lawTurned r : Nat))

noncomputable abbrev lawEnv1 (script drawn quoted front tail numbers pieces gaps first : LV) : Env' :=
  [en "script" script, en "drawn" drawn, en "quoted" quoted, en "front" front, en "tail" tail, en "numbers" numbers, en "pieces" pieces, en "gaps" gaps, en "first" first, en "behind_all" .undef, en "all_words" .undef, en "body" .undef, en "words" .undef, en "stops" .undef, en "calls" .undef, en "register" .undef, en "word" .undef, en "place" .undef, en "line" .undef, en "odd" .undef, en "due" .undef, en "size" .undef, en "gap" .undef, en "moved" .undef, en "row" .undef, en "four" .undef, en "part" .undef]

namespace Dr
variable (D : Dr)
noncomputable def drawnP : List PV := [.int D.d0, .int D.d1, .int D.d2, .int D.d3, .int D.d4]
noncomputable def pieceF : PV → Option PV
  | .int i => some (piecePV (D.pieceAt i.toNat))
  | _ => none
noncomputable def gapF : PV → Option PV
  | .int i => some (.str (lawGap i.toNat D.q))
  | _ => none
end Dr
theorem pieceF_eq {D : Dr} : (rangeItems 0 1 D.n).filterMap D.pieceF = D.pieces.map piecePV := by
  (rewrite [rangeN_eq]; (with_reducible_and_instances (refine rwG (List.filterMap_map ..) ?_)))
  have : (D.pieceF ∘ fun (i : Nat) => PV.int (i : Int)) = fun i => some (piecePV (D.pieceAt i)) := rfl
  (with_reducible_and_instances (refine rwG (this ..) ?_))
  refine (congrFun (List.filterMap_eq_map (f := fun i => piecePV (D.pieceAt i))) _).trans ?_
  unfold Dr.pieces
  (with_reducible_and_instances (refine rwG (List.map_map ..) ?_)); rfl
theorem gapF_eq {D : Dr} : (pvInts D.numbers).filterMap D.gapF = D.gaps.map PV.str := by
  (rewrite [pvInts]; (with_reducible_and_instances (refine rwG (List.filterMap_map ..) ?_)))
  have : (D.gapF ∘ fun (i : Nat) => PV.int (i : Int)) = fun i => some (PV.str (lawGap i D.q)) := rfl
  (with_reducible_and_instances (refine rwG (this ..) ?_))
  refine (congrFun (List.filterMap_eq_map (f := fun i => PV.str (lawGap i D.q))) _).trans ?_
  unfold Dr.gaps
  (with_reducible_and_instances (refine rwG (List.map_map ..) ?_)); rfl
theorem numbers_slice {D : Dr} : pySlice D.drawnP (some 1) (some ((3 + D.d0 / 2 % 3 : Nat) : Int)) = pvInts D.numbers := by
  unfold Dr.numbers Dr.n
  have h : D.d0 / 2 % 3 < 3 := Nat.mod_lt _ (by decide)
  generalize D.d0 / 2 % 3 = j at h
  have h' : j = 0 ∨ j = 1 ∨ j = 2 := by lia
  rcases h' with rfl | rfl | rfl <;> rfl
theorem op_ltN {C : Cx} {a b : Nat} : Op2 C (compareOp .Lt) (.int a) (.int b) (.bool (decide (a < b))) := by
  have e : decide (a < b) = decide ((a : Int) < (b : Int)) := by simp only [decide_eq_decide]; lia
  (with_reducible_and_instances (refine rwG (e ..) ?_)); exact op_lt

section
variable {C : Cx} {g : C.G} {prog : Program} {w : World} {T : Heap → Prop} {d : Nat} {st : Stmt} {rest : List Stmt} {P : Fl → Env' → C.G → Prop} {a : FA}

set_option maxHeartbeats 4000000 in
theorem law_body1 (hst : st = stmtAt theProg 14) (hrr : rest = (stmtBody st).drop 9) (F : TopAt C prog w T d (stmtScope st)) (hz : ∀ x, ¬ C.Z x) (L : LawTop prog w T a) (hd : 2 ≤ d) (script : List Int) (hs : script.length ≤ 4096)
    (hrest : ∀ D : Dr, D.Ok → St C (lawEnv1 (.val (.list (script.map .int))) (.val (.list D.drawnP)) (.val (.bool D.q)) (.val (.str D.front)) (.val (.str D.tail)) (.val (.list (pvInts D.numbers))) (.val (.list (D.pieces.map piecePV))) (.val (.list (D.gaps.map .str))) (.val (.str D.first))) g rest P) :
    St C (lawEnv1 (.val (.list (script.map .int))) .undef .undef .undef .undef .undef .undef .undef .undef) g (stmtBody st) P := by
  have hC := F.ok
  have gr := F.glob L.range (by subst hst; rfl)
  have gl := F.glob L.len (by subst hst; rfl)
  have hkind : ∀ x, (stmtScope st).names.lookup x = some .cell → C.env.kindOf x = some .cell := fun x h => by show C.env.scope.names.lookup x = _; (with_reducible_and_instances (refine rwG (F.scope ..) ?_)); exact h
  have kq : C.env.kindOf (Str.ofString "quoted") = some .cell := hkind _ (by subst hst; rfl)
  have kn : C.env.kindOf (Str.ofString "numbers") = some .cell := hkind _ (by subst hst; rfl)
  have hloc : ∀ x, (stmtScope st).names.lookup x = some .local → C.env.kindOf x = some .local := fun x h => by show C.env.scope.names.lookup x = _; (with_reducible_and_instances (refine rwG (F.scope ..) ?_)); exact h
  have kdr := hloc (Str.ofString "drawn") (by subst hst; rfl)
  have kpi := hloc (Str.ofString "pieces") (by subst hst; rfl)
  have kga := hloc (Str.ofString "gaps") (by subst hst; rfl)
  have hsc := F.scope
  subst hst
  subst hrr
  refine St.cons (St1.assignComp (ht := by first | exact .inl ⟨_, _, rfl⟩ | exact .inr ⟨_, _, _, rfl⟩) (hs := by intro _; rfl) (f := drawnF) (ρc := [en "x" .undef]) hC (CompOk.of ["x"] [] [] rfl hz rfl rfl (by decide +kernel) (by decide +kernel) (by decide +kernel) (by decide +kernel) (fun y hy => nomatch hy)) (EvIt.list hC (Ev.sliceList (l := none) (u := some 5) hC (Ev.name hC (p := .list (script.map .int)) (by (repeat first|with_reducible exact List.mem_cons_self|apply List.mem_cons_of_mem))) EvO.none (EvO.some Ev.int) (by rw [List.length_map]; exact hs))) ?_ (fun p hp Lc hCc => ?_) (by (repeat first|((with_reducible refine Put.here ?_);first|rfl|assumption)|apply Put.there)) ?_ kdr (scope_of hsc fun e => rfl))
  · have := pySlice_length_le (script.map PV.int) none (some 5)
    rw [List.length_map] at this; lia
  · have hp' : p ∈ script.map PV.int := by
      unfold pySlice at hp
      exact List.drop_subset _ _ (List.take_subset _ _ hp)
    obtain ⟨x, _, rfl⟩ := List.mem_map.mp hp'
    refine ⟨_, Binds.name (by (repeat first|((with_reducible refine Put.here ?_);first|rfl|assumption)|apply Put.there)), by (repeat first|exact Weak.nil|((with_reducible apply Weak.keep))|((with_reducible refine Weak.drop ?_ ?_);first|rfl|assumption)|((with_reducible refine Weak.val ?_ ?_);rotate_left)|((with_reducible refine Weak.own ?_ ?_);rotate_left)), true, .inl ⟨rfl, rfl⟩, fun _ => ⟨_, rfl, ?_⟩, fun h => by cases h⟩
    have e : (((x % 1000000).toNat : Nat) : Int) = x.fmod ((10 ^ 6 : Nat) : Int) := by
      ((with_reducible_and_instances (refine rwG ((show ((10 ^ 6 : Nat) : Int) = 1000000 by decide) ..) ?_; refine rwG ((Int.fmod_eq_emod_of_nonneg _ (by decide)) ..) ?_)))
      lia
    (with_reducible_and_instances (refine rwG (e ..) ?_))
    exact Ev.bin hCc (Ev.name hCc (by (repeat first|with_reducible exact List.mem_cons_self|apply List.mem_cons_of_mem))) (Ev.bin hCc Ev.int Ev.int (op_powN (a := 10) (n := 6) (k := 4) (by decide) (by decide))) (op_mod (by decide))
  generalize hL0 : (pySlice (script.map PV.int) none (some 5)).filterMap drawnF = L0
  have hL0n : L0.length ≤ 5 := by
    (with_reducible_and_instances (refine rwL (hL0 ..) ?_))
    refine Nat.le_trans (List.length_filterMap_le _ _) ?_
    have := slice_to (script.map PV.int) 5
    rw [show ((5 : Nat) : Int) = 5 from rfl] at this
    ((with_reducible_and_instances (refine rwG (this ..) ?_; refine rwG (List.length_take ..) ?_)))
    lia
  refine St.cons (St1.assign (hs := by rfl) hC (Ev.bin hC (Ev.name hC (p := .list L0) (by (repeat first|with_reducible exact List.mem_cons_self|apply List.mem_cons_of_mem))) (Ev.sliceList (l := some (L0.length : Int)) (u := none) hC (Ev.list hC (EvL.cons (hs := by intro _; rfl) hC Ev.int (EvL.cons (hs := by intro _; rfl) hC Ev.int (EvL.cons (hs := by intro _; rfl) hC Ev.int (EvL.cons (hs := by intro _; rfl) hC Ev.int (EvL.cons (hs := by intro _; rfl) hC Ev.int EvL.nil))))) (by decide)) (EvO.some (Ev.callB (hn := by rfl) hC gl (EvL.cons (hs := by intro _; rfl) hC (Ev.name hC (p := .list L0) (by (repeat first|with_reducible exact List.mem_cons_self|apply List.mem_cons_of_mem))) EvL.nil) (call_lenL (by lia)))) EvO.none (by decide)) (op_catList ?_)) (by (repeat first|((with_reducible refine Put.here ?_);first|rfl|assumption)|apply Put.there)) ?_)
  · have := pySlice_length_le dflt (some (L0.length : Int)) none
    have e : dflt.length = 5 := rfl
    rw [e] at this
    show L0.length + (pySlice dflt (some (L0.length : Int)) none).length ≤ 4096
    lia
  obtain ⟨D, hD, eD⟩ := drawn_is script
  rw [hL0] at eD
  rw [show L0 ++ pySlice [PV.int 86, .int 553, .int 306318, .int 4, .int 118784] (some (L0.length : Int)) none = D.drawnP from eD]
  have hrest := hrest D hD
  clear hD eD hL0 hL0n
  have hD0 : ∀ {ρ : Env'} {p1 p2 p3 : Pos} {k : Nat}, (Str.ofString "drawn", LV.val (.list D.drawnP)) ∈ ρ → Ev C ρ g (.Subscript (.Name "drawn" p1) (.Constant (.int 0) k p2) p3) (.int (D.d0 : Int)) g := fun h =>
    Ev.sub (hs := by intro _ _; rfl) hC (Ev.name hC h) Ev.int (item_list (i := 0) (by decide) (by decide) rfl)
  refine St.cons (St1.assign (hs := by rfl) hC (v := .bool D.q) (Ev.cmp (hm := by with_unfolding_all rfl) hC (Ev.bin hC (hD0 (by (repeat first|with_reducible exact List.mem_cons_self|apply List.mem_cons_of_mem))) Ev.int (op_modN (b := 2) (by decide))) Ev.int (op_eqN (b := 1))) (by (repeat first|((with_reducible refine Put.here ?_);first|rfl|assumption)|apply Put.there)) ?_)
  have hq : ∀ {ρ : Env'} {pos : Pos}, (Str.ofString "quoted", LV.val (.bool D.q)) ∈ ρ → EvB C ρ g (.Name "quoted" pos) D.q g := fun h => EvB.val (he := by rfl) hC (p := .bool D.q) (Ev.name hC h) rfl
  refine St.cons (St1.assign (hs := by rfl) (g₁ := g) hC (v := .str D.front) (Ev.bin hC (Ev.sub (hs := by intro _ _; rfl) hC (Ev.list (ps := fronts.map .str) hC (EvL.cons (hs := by intro _; rfl) hC (Ev.str rfl) (EvL.cons (hs := by intro _; rfl) hC (Ev.str rfl) (EvL.cons (hs := by intro _; rfl) hC (Ev.str rfl) (EvL.cons (hs := by intro _; rfl) hC (Ev.str rfl) EvL.nil)))) (by decide)) (Ev.bin hC (Ev.bin hC (hD0 (by (repeat first|with_reducible exact List.mem_cons_self|apply List.mem_cons_of_mem))) Ev.int (op_fdivN (b := 24) (by decide) (by decide))) Ev.int (op_modN (b := 4) (by decide))) (item_list (r := .str (fronts.getD (D.d0 / 24 % 4) [])) (i := ((D.d0 / 24 % 4 : Nat) : Int)) (by lia) (by lia) ?_)) (Ev.ifExp (p := .str (if D.q then [34] else [])) hC (hq (by (repeat first|with_reducible exact List.mem_cons_self|apply List.mem_cons_of_mem))) (fun h => ?_) fun h => ?_) (op_cat ?_)) (by (repeat first|((with_reducible refine Put.here ?_);first|rfl|assumption)|apply Put.there)) ?_)
  · (rewrite [Int.toNat_natCast]; (with_reducible_and_instances (refine rwG ((List.getElem?_map) ..) ?_; refine rwG ((getD_some (d := []) (show D.d0 / 24 % 4 < fronts.length from Nat.mod_lt _ (by decide))) ..) ?_))); rfl
  · (with_reducible_and_instances (refine rwG ((if_pos h) ..) ?_)); exact Ev.str rfl
  · ((with_reducible_and_instances (refine rwG ((if_neg (by rw [h]; decide)) ..) ?_))); exact Ev.str rfl
  · have := front_len (D := D)
    unfold Dr.front at this
    rw [List.length_append] at this; lia
  refine St.cons (St1.assign (hs := by rfl) (g₁ := g) hC (v := .str D.tail) (Ev.sub (hs := by intro _ _; rfl) hC (Ev.ifExp (p := .list ((tails D.q).map .str)) hC (hq (by (repeat first|with_reducible exact List.mem_cons_self|apply List.mem_cons_of_mem))) (fun h => ?_) fun h => ?_) (Ev.bin hC (Ev.bin hC (hD0 (by (repeat first|with_reducible exact List.mem_cons_self|apply List.mem_cons_of_mem))) Ev.int (op_fdivN (b := 6) (by decide) (by decide))) Ev.int (op_modN (b := 4) (by decide))) (item_list (r := .str D.tail) (i := ((D.d0 / 6 % 4 : Nat) : Int)) (by lia) (by lia) ?_)) (by (repeat first|((with_reducible refine Put.here ?_);first|rfl|assumption)|apply Put.there)) ?_)
  · rw [show (tails D.q).map PV.str = [.str [34], .str [], .str [92], .str [34, 10]] by rw [h]; rfl]
    exact Ev.list hC (EvL.cons (hs := by intro _; rfl) hC (Ev.str rfl) (EvL.cons (hs := by intro _; rfl) hC (Ev.str rfl) (EvL.cons (hs := by intro _; rfl) hC (Ev.str rfl) (EvL.cons (hs := by intro _; rfl) hC (Ev.str rfl) EvL.nil)))) (by simp)
  · rw [show (tails D.q).map PV.str = [.str [], .str [10], .str [92], .str [32, 9]] by rw [h]; rfl]
    exact Ev.list hC (EvL.cons (hs := by intro _; rfl) hC (Ev.str rfl) (EvL.cons (hs := by intro _; rfl) hC (Ev.str rfl) (EvL.cons (hs := by intro _; rfl) hC (Ev.str rfl) (EvL.cons (hs := by intro _; rfl) hC (Ev.str rfl) EvL.nil)))) (by simp)
  · rw [Int.toNat_natCast, List.getElem?_map, getD_some (d := []) (show D.d0 / 6 % 4 < (tails D.q).length by have : (tails D.q).length = 4 := by unfold tails; split <;> rfl
                                                                                                             lia)]; rfl
  refine St.cons (St1.assign (hs := by rfl) (g₁ := g) hC (v := .list (pvInts D.numbers)) (numbers_slice ▸ Ev.sliceList (l := some 1) (u := some ((3 + D.d0 / 2 % 3 : Nat) : Int)) hC (Ev.name hC (p := .list D.drawnP) (by (repeat first|with_reducible exact List.mem_cons_self|apply List.mem_cons_of_mem))) (EvO.some Ev.int) (EvO.some (Ev.bin hC Ev.int (Ev.bin hC (Ev.bin hC (hD0 (by (repeat first|with_reducible exact List.mem_cons_self|apply List.mem_cons_of_mem))) Ev.int (op_fdivN (b := 2) (by decide) (by decide))) Ev.int (op_modN (b := 3) (by decide))) (op_addN (a := 3)))) (show 5 ≤ 4096 by decide)) (by (repeat first|((with_reducible refine Put.here ?_);first|rfl|assumption)|apply Put.there)) ?_)
  have hnl : (pvInts D.numbers).length = D.n := by (rewrite [List.length_map]; (with_reducible_and_instances (refine rwG (numbers_len ..) ?_)); (with_reducible rfl))
  have hn4 : D.n ≤ 4 := by have := n_three (D := D); lia
  have hNn : ∀ {ρ : Env'} {g : C.G} {p1 p2 p3 : Pos}, (Str.ofString "numbers", LV.val (.list (pvInts D.numbers))) ∈ ρ → Ev C ρ g (.Call (.Name "len" p1) [.Name "numbers" p2] [] p3) (.int (D.n : Int)) g := fun h => by
    (with_reducible_and_instances (refine rwL (hnl ..) ?_))
    exact Ev.callB (hn := by rfl) hC gl (EvL.cons (hs := by intro _; rfl) hC (Ev.name hC h) EvL.nil) (call_lenL (by lia))
  refine St.cons (St1.assignComp (ht := by first | exact .inl ⟨_, _, rfl⟩ | exact .inr ⟨_, _, _, rfl⟩) (hs := by intro _; rfl) (f := D.pieceF) (ρc := [en "k" .undef, en "numbers" (.ro (.list (pvInts D.numbers))), en "quoted" (.ro (.bool D.q))]) hC (CompOk.of ["k"] ["numbers", "quoted"] [("numbers", .list (pvInts D.numbers)), ("quoted", .bool D.q)] rfl hz rfl rfl (by decide +kernel) (by decide +kernel) (by decide +kernel) (by decide +kernel) (fun y hy => ?_)) (EvIt.range1 (hn := by rfl) hC gr (EvL.cons (hs := by intro _; rfl) hC (hNn (by (repeat first|with_reducible exact List.mem_cons_self|apply List.mem_cons_of_mem))) EvL.nil) (by lia) (by lia)) (by (with_reducible_and_instances (refine rwG (rangeItems_length ..) ?_)); lia) (fun p hp Lc hCc => ?_) (by (repeat first|((with_reducible refine Put.here ?_);first|rfl|assumption)|apply Put.there)) ?_ kpi (scope_of hsc fun e => rfl))
  · rcases List.mem_cons.mp hy with rfl | hy
    · exact ⟨kn, by (repeat first|with_reducible exact List.mem_cons_self|apply List.mem_cons_of_mem)⟩
    · rcases List.mem_cons.mp hy with rfl | hy
      · exact ⟨kq, by (repeat first|with_reducible exact List.mem_cons_self|apply List.mem_cons_of_mem)⟩
      · cases hy
  · obtain ⟨k, hk, rfl⟩ := range_mem hp
    rw [Int.toNat_natCast] at hk
    refine ⟨_, Binds.name (by (repeat first|((with_reducible refine Put.here ?_);first|rfl|assumption)|apply Put.there)), by (repeat first|exact Weak.nil|((with_reducible apply Weak.keep))|((with_reducible refine Weak.drop ?_ ?_);first|rfl|assumption)|((with_reducible refine Weak.val ?_ ?_);rotate_left)|((with_reducible refine Weak.own ?_ ?_);rotate_left)), true, .inl ⟨rfl, rfl⟩, fun _ => ⟨_, rfl, ?_⟩, fun h => by cases h⟩
    rw [Int.toNat_natCast]
    exact (F.comp hCc).call (hn := by rfl) L.piece (relabel_glob (by rfl)) (EvL.cons (hs := by intro _; rfl) hCc (Ev.sub (hs := by intro _ _; rfl) hCc (Ev.nameRo hCc (p := .list (pvInts D.numbers)) (by (repeat first|with_reducible exact List.mem_cons_self|apply List.mem_cons_of_mem))) (Ev.name hCc (p := .int (k : Int)) (by (repeat first|with_reducible exact List.mem_cons_self|apply List.mem_cons_of_mem))) (item_list (r := .int (D.numbers.getD k 0 : Nat)) (by lia) (by lia) (by (rewrite [Int.toNat_natCast]; (with_reducible_and_instances (refine rwG ((List.getElem?_map) ..) ?_; refine rwG ((getD_some (d := 0) (by rw [numbers_len]; exact hk)) ..) ?_))); rfl))) (EvL.cons (hs := by intro _; rfl) hCc (Ev.nameRo hCc (p := .bool D.q) (by (repeat first|with_reducible exact List.mem_cons_self|apply List.mem_cons_of_mem))) (EvL.cons (hs := by intro _; rfl) hCc (Ev.cmp (hm := by with_unfolding_all rfl) hCc (Ev.name hCc (p := .int (k : Int)) (by (repeat first|with_reducible exact List.mem_cons_self|apply List.mem_cons_of_mem))) Ev.int (op_ltN (b := 2))) EvL.nil))) (L.pieceFn _ _ _) (by lia)
  ((with_reducible_and_instances (refine rwG ((show rangeItems 0 1 ((D.n : Int)).toNat = rangeItems 0 1 D.n by rw [Int.toNat_natCast]) ..) ?_; refine rwG (pieceF_eq ..) ?_)))
  refine St.cons (St1.assignComp (ht := by first | exact .inl ⟨_, _, rfl⟩ | exact .inr ⟨_, _, _, rfl⟩) (hs := by intro _; rfl) (f := D.gapF) (ρc := [en "number" .undef, en "quoted" (.ro (.bool D.q))]) hC (CompOk.of ["number"] ["quoted"] [("quoted", .bool D.q)] rfl hz rfl rfl (by decide +kernel) (by decide +kernel) (by decide +kernel) (by decide +kernel) (fun y hy => ?_)) (EvIt.list hC (Ev.name hC (p := .list (pvInts D.numbers)) (by (repeat first|with_reducible exact List.mem_cons_self|apply List.mem_cons_of_mem)))) (by lia) (fun p hp Lc hCc => ?_) (by (repeat first|((with_reducible refine Put.here ?_);first|rfl|assumption)|apply Put.there)) ?_ kga (scope_of hsc fun e => rfl))
  · rcases List.mem_cons.mp hy with rfl | hy
    · exact ⟨kq, by (repeat first|with_reducible exact List.mem_cons_self|apply List.mem_cons_of_mem)⟩
    · cases hy
  · obtain ⟨m, _, rfl⟩ := List.mem_map.mp hp
    refine ⟨_, Binds.name (by (repeat first|((with_reducible refine Put.here ?_);first|rfl|assumption)|apply Put.there)), by (repeat first|exact Weak.nil|((with_reducible apply Weak.keep))|((with_reducible refine Weak.drop ?_ ?_);first|rfl|assumption)|((with_reducible refine Weak.val ?_ ?_);rotate_left)|((with_reducible refine Weak.own ?_ ?_);rotate_left)), true, .inl ⟨rfl, rfl⟩, fun _ => ⟨_, rfl, ?_⟩, fun h => by cases h⟩
    rw [Int.toNat_natCast]
    exact (F.comp hCc).call (hn := by rfl) L.gap (relabel_glob (by rfl)) (EvL.cons (hs := by intro _; rfl) hCc (Ev.name hCc (p := .int (m : Int)) (by (repeat first|with_reducible exact List.mem_cons_self|apply List.mem_cons_of_mem))) (EvL.cons (hs := by intro _; rfl) hCc (Ev.nameRo hCc (p := .bool D.q) (by (repeat first|with_reducible exact List.mem_cons_self|apply List.mem_cons_of_mem))) EvL.nil)) (L.gapFn _ _) (by lia)
  (with_reducible_and_instances (refine rwG (gapF_eq ..) ?_))
  have hp0 : (D.pieces.map piecePV)[(0 : Int).toNat]? = some (.tup [.str (D.pieceAt 0).1, .str (D.pieceAt 0).2]) := by
    have hn0 : 0 < D.n := by have := n_three (D := D); lia
    show (D.pieces.map piecePV)[0]? = _
    ((with_reducible_and_instances (refine rwG ((List.getElem?_map) ..) ?_; refine rwG ((getD_some (d := ([], [])) (by rw [pieces_len]; exact hn0)) ..) ?_; refine rwG ((pieces_get hn0) ..) ?_))); rfl
  refine St.cons (St1.assign (hs := by rfl) (g₁ := g) hC (v := .str D.first) (Ev.bin hC (Ev.name hC (p := .str D.front) (by (repeat first|with_reducible exact List.mem_cons_self|apply List.mem_cons_of_mem))) (Ev.sub (hs := by intro _ _; rfl) hC (Ev.sub (hs := by intro _ _; rfl) hC (Ev.name hC (p := .list (D.pieces.map piecePV)) (by (repeat first|with_reducible exact List.mem_cons_self|apply List.mem_cons_of_mem))) Ev.int (item_list (by decide) (by decide) hp0)) Ev.int (item_tup (r := .str (D.pieceAt 0).2) (by decide) (by decide) rfl)) (op_cat ?_)) (by (repeat first|((with_reducible refine Put.here ?_);first|rfl|assumption)|apply Put.there)) ?_)
  · have h1 := front_len (D := D)
    have h2 := (pieceAt_len (D := D) (k := 0)).2
    lia
  exact hrest
end
end Mine.Internal
end

section
namespace Mine.Internal
open PySem PySem.Calls PyProof.Rows PySem.W

noncomputable abbrev envL (v0 v1 v2 v3 v5 : LV) (D : Dr) (behind all body words stops calls register word place line odd : LV) : Env' :=
  [en "script" v0, en "drawn" v1, en "quoted" v2, en "front" v3, en "tail" (.val (.str D.tail)), en "numbers" v5, en "pieces" (.val (.list (D.pieces.map piecePV))), en "gaps" (.val (.list (D.gaps.map .str))), en "first" (.val (.str D.first)), en "behind_all" behind, en "all_words" all, en "body" body, en "words" words, en "stops" stops, en "calls" calls, en "register" register, en "word" word, en "place" place, en "line" line, en "odd" odd, en "due" .undef, en "size" .undef, en "gap" .undef, en "moved" .undef, en "row" .undef, en "four" .undef, en "part" .undef]

theorem filterMap_noneP : ∀ l : List PV, l.filterMap (fun _ => (none : Option PV)) = []
  | [] => rfl
  | _ :: l => by (with_reducible_and_instances (refine rwG (List.filterMap_cons ..) ?_)); exact filterMap_noneP l
theorem dueRow_get {words : List (List Nat)} {j : Nat} (h : j < words.length) : (dueRow words).getD (j + 1) [] = words.getD j [] := by
  cases words with
  | nil => exact absurd h (Nat.not_lt_zero _)
  | cons a r =>
    unfold dueRow
    show (a :: ((a :: r) ++ [[]] ++ (a :: r) ++ [[]])).getD (j + 1) [] = _
    ((with_reducible_and_instances (refine rwG (List.getD_cons_succ ..) ?_; refine rwG ((List.getD_eq_getElem?_getD) ..) ?_; refine rwG ((List.getD_eq_getElem?_getD) ..) ?_)); rewrite [List.append_assoc]; rewrite [List.append_assoc]; (with_reducible_and_instances (refine rwG ((List.getElem?_append_left h) ..) ?_)); (with_reducible rfl))
theorem dueRow_len {words : List (List Nat)} (h : 0 < words.length) : (dueRow words).length = 2 * words.length + 3 := by
  unfold dueRow; simp; lia
theorem due_slice {text : List Nat} {words : List (List Nat)} {stops : List Nat} (h : 0 < words.length) : pySlice (lawDue text words stops) (some 1) (some ((words.length + 1 : Nat) : Int)) = (List.range words.length).map fun j => dueAt text words stops (j + 1) := by
  have hl : (lawDue text words stops).length = 2 * words.length + 3 := by unfold lawDue; (rewrite [List.length_map]; (with_reducible_and_instances (refine rwG (List.length_range ..) ?_; refine rwG ((dueRow_len h) ..) ?_)); (with_reducible rfl))
  ((with_reducible_and_instances (refine rwG ((pySlice_nat (show clipTo (some 1) 0 _ = _ from clip_nat 1 _ _) (clip_nat (words.length + 1) _ _)) ..) ?_; refine rwG (hl ..) ?_; refine rwG ((Nat.min_eq_left (show 1 ≤ 2 * words.length + 3 by lia)) ..) ?_; refine rwG ((Nat.min_eq_left (show words.length + 1 ≤ 2 * words.length + 3 by lia)) ..) ?_)); rewrite [Nat.add_sub_cancel])
  apply List.ext_getElem?
  intro j
  (with_reducible_and_instances (refine rwG ((List.getElem?_take) ..) ?_))
  split
  · rename_i hj
    ((with_reducible_and_instances (refine rwG ((List.getElem?_drop) ..) ?_; refine rwG ((List.getElem?_map) ..) ?_; refine rwG ((List.getElem?_range hj) ..) ?_)))
    unfold lawDue
    ((with_reducible_and_instances (refine rwG ((List.getElem?_map) ..) ?_; refine rwG ((dueRow_len h) ..) ?_; refine rwG ((List.getElem?_range (by lia)) ..) ?_)); rewrite [Nat.add_comm]); rfl
  · rename_i hj
    ((with_reducible_and_instances (refine rwG ((List.getElem?_eq_none (by rw [List.length_map, List.length_range]; lia)) ..) ?_)); (with_reducible rfl))
theorem lawDue_ent {text : List Nat} {words : List (List Nat)} {stops : List Nat} {p : PV} (h : p ∈ lawDue text words stops) : ∃ (t : List Nat) (a b : Nat), p = .tup [.str t, .int a, .int b] := by
  obtain ⟨i, _, rfl⟩ := List.mem_map.mp h
  exact ⟨_, _, _, rfl⟩
theorem lawDue_plain {text : List Nat} {words : List (List Nat)} {stops : List Nat} (h : ∀ w ∈ words, ∀ c ∈ w, c < 0x110000) : ∀ p ∈ lawDue text words stops, p.plain = true ∧ p.data.depth ≤ 2 := fun p hp => by
  obtain ⟨i, _, rfl⟩ := List.mem_map.mp hp
  refine ent_plain ?_
  by_cases hi : i < (dueRow words).length
  · have e : (dueRow words).getD i [] = (dueRow words)[i] := by ((with_reducible_and_instances (refine rwG ((List.getD_eq_getElem?_getD) ..) ?_; refine rwG ((List.getElem?_eq_getElem hi) ..) ?_))); rfl
    have hm := List.getElem_mem hi
    rw [← e] at hm
    intro c hc
    generalize (dueRow words).getD i [] = x at hm hc
    unfold dueRow at hm
    simp only [List.mem_append, List.mem_singleton] at hm
    rcases hm with (((hm | hm) | hm) | hm) | hm
    · exact h x (List.take_subset _ _ hm) c hc
    · exact h x hm c hc
    · rw [hm] at hc; cases hc
    · exact h x hm c hc
    · rw [hm] at hc; cases hc
  · ((with_reducible_and_instances (refine rwG ((List.getD_eq_getElem?_getD) ..) ?_; refine rwG ((List.getElem?_eq_none (by lia)) ..) ?_)))
    intro c hc; cases hc
theorem behindN_succ {D : Dr} {i : Nat} {f : File} (h : D.files[i]? = some f) : D.behindN (i + 1) = D.behindN i ^^^ D.regOf f := by
  unfold Dr.behindN; ((with_reducible_and_instances (refine rwG (List.take_add_one ..) ?_; refine rwG (h ..) ?_; refine rwG (List.foldl_append ..) ?_))); rfl
theorem wordsN_succ {D : Dr} {i : Nat} {f : File} (h : D.files[i]? = some f) : D.wordsN (i + 1) = f.2.1.foldl (fun a w => a ^^^ crcW w) (D.wordsN i) := by
  unfold Dr.wordsN; ((with_reducible_and_instances (refine rwG (List.take_add_one ..) ?_; refine rwG (h ..) ?_; refine rwG (List.foldl_append ..) ?_))); rfl

structure FileB (D : Dr) (f : File) : Prop where
  bd : f.1.length ≤ 80
  wl : f.2.1.length ≤ 4
  w0 : 0 < f.2.1.length
  sl : f.2.2.length ≤ 4
  stl : (D.stopsOf f).length = f.2.1.length
  tx : (D.textOf f).length ≤ 100
  pos : (f.1 ++ D.tail.take 1).length ≤ 100
  stb : ∀ s ∈ D.stopsOf f, s ≤ (D.textOf f).length
  dul : (lawDue (D.textOf f) f.2.1 (D.stopsOf f)).length ≤ 20
theorem file_b {D : Dr} {f : File} (hf : f ∈ D.files) : FileB D f := by
  have sf := file_small hf
  have h4 : D.n - 1 ≤ 3 := by have := n_three (D := D); lia
  have bd : f.1.length ≤ 80 := Nat.le_trans sf.text (Nat.add_le_add_left (Nat.mul_le_mul_left 20 h4) 20)
  have wl : f.2.1.length ≤ 4 := Nat.le_trans sf.wl (Nat.succ_le_succ h4)
  have w0 : 0 < f.2.1.length := List.length_pos_iff.mpr sf.ne
  have ht := tail_len (D := D)
  have htk : (D.tail.take 1).length ≤ D.tail.length := by (with_reducible_and_instances (refine rwG (List.length_take ..) ?_)); exact Nat.min_le_right _ _
  have tx : (D.textOf f).length = f.1.length + D.tail.length := List.length_append
  have ps : (f.1 ++ D.tail.take 1).length ≤ (D.textOf f).length := by ((with_reducible_and_instances (refine rwG (tx ..) ?_; refine rwG (List.length_append ..) ?_))); exact Nat.add_le_add_left htk _
  have tx' : (D.textOf f).length ≤ 100 := by (with_reducible_and_instances (refine rwG (tx ..) ?_)); exact Nat.le_trans (Nat.add_le_add bd ht) (by decide)
  exact {
    bd := bd
    wl := wl
    w0 := w0
    sl := Nat.le_of_succ_le (Nat.le_trans (Nat.le_of_eq sf.sl) wl)
    stl := by unfold Dr.stopsOf; (with_reducible_and_instances (refine rwG (List.length_append ..) ?_)); exact sf.sl
    tx := tx'
    pos := Nat.le_trans ps tx'
    stb := fun s hs => by
      unfold Dr.stopsOf at hs
      rcases List.mem_append.mp hs with hs | hs
      · exact Nat.le_trans (sf.stop s hs) (by (with_reducible_and_instances (refine rwG (tx ..) ?_)); exact Nat.le_add_right _ _)
      · (with_reducible_and_instances (refine rwG ((List.mem_singleton.mp hs) ..) ?_)); exact ps
    dul := by
      unfold lawDue
      (rewrite [List.length_map]; (with_reducible_and_instances (refine rwG (List.length_range ..) ?_; refine rwG ((dueRow_len w0) ..) ?_)))
      exact Nat.le_trans (Nat.add_le_add_right (Nat.mul_le_mul_left 2 wl) 3) (by decide) }

section
variable {C : Cx} {g : C.G} {prog : Program} {w : World} {T : Heap → Prop} {d : Nat} {st : Stmt} {rest rest2 : List Stmt} {P : Fl → Env' → C.G → Prop} {a : FA} {fReads : Addr}

set_option maxHeartbeats 4000000 in
theorem law_body2 (hst : st = stmtAt theProg 14) (hrr : rest = (stmtBody st).drop 9) (hr2 : rest2 = (stmtBody st).drop 11) (F : TopAt C prog w T d (stmtScope st)) (hz : ∀ x, ¬ C.Z x) (L : LawTop prog w T a) (hd : 7 ≤ d) (D : Dr) (H : D.Holds) (hsm : ∀ f ∈ D.files, ∀ x ∈ f.2.1, ∀ c ∈ x, c < 0x110000)
    (reads : PureAt prog w T 7 "_law_reads" fReads) (hreads : ∀ (text : List Nat) (words : List (List Nat)), text.length ≤ 16000000 → words.length ≤ 100 → FnW C.prog C.w C.T C.wd 7 (.ref fReads) g [.str text, .list (words.map .str)] (readsOut text words) g) {v0 v1 v2 v3 v5 : LV}
    (hrest : St C (envL v0 v1 v2 v3 v5 D (.val (.int (D.behindN D.files.length : Nat))) (.val (.int (D.wordsN D.files.length : Nat))) .undef .undef .undef .undef .undef .undef .undef .undef .undef) g rest2 P) :
    St C (lawEnv1 v0 v1 v2 v3 (.val (.str D.tail)) v5 (.val (.list (D.pieces.map piecePV))) (.val (.list (D.gaps.map .str))) (.val (.str D.first))) g rest P := by
  have hC := F.ok
  have gl := F.glob L.len (by subst hst; rfl)
  have gc := F.glob reads.glob (by subst hst; rfl)
  have kodd : C.env.kindOf (Str.ofString "odd") = some .local := by show C.env.scope.names.lookup _ = _; (with_reducible_and_instances (refine rwG (F.scope ..) ?_)); subst hst; rfl
  have hsc := F.scope
  have hobj : ∃ o fd, o.data = .func fd ∧ ∀ h, C.T h → h.get? fReads = some o := let ⟨o, fd, e1, e2⟩ := reads.obj; ⟨o, fd, e1, fun h t => e2 h (F.sub h t)⟩
  have hfiles := L.filesFn (small (D := D))
  rw [← files_is] at hfiles
  have htl := tail_len (D := D)
  subst hst
  subst hrr
  subst hr2
  refine St.cons (St1.assignTup (hs := by rfl) (vs := [.int 0, .int 0]) hC (Ev.tup hC (EvL.cons (hs := by intro _; rfl) hC Ev.int (EvL.cons (hs := by intro _; rfl) hC Ev.int EvL.nil)) (by simp)) (.cons (by (repeat first|((with_reducible refine Put.here ?_);first|rfl|assumption)|apply Put.there)) (.cons (by (repeat first|((with_reducible refine Put.here ?_);first|rfl|assumption)|apply Put.there)) .nil)) ?_ (hw := scope_of hsc fun e => rfl))
  refine St.cons (St1.for (ht := by first | exact .inl ⟨_, _, rfl⟩ | exact .inr ⟨_, _, _, rfl⟩) (hs := by intro _; rfl) (g₁ := g) hC (EvIt.list (items := D.files.map filePV) hC (F.call (hn := by rfl) L.files (by rfl) (EvL.cons (hs := by intro _; rfl) hC (Ev.name hC (p := .str D.first) (by (repeat first|with_reducible exact List.mem_cons_self|apply List.mem_cons_of_mem))) (EvL.cons (hs := by intro _; rfl) hC (Ev.name hC (p := .list (D.pieces.map piecePV)) (by (repeat first|with_reducible exact List.mem_cons_self|apply List.mem_cons_of_mem))) (EvL.cons (hs := by intro _; rfl) hC (Ev.name hC (p := .list (D.gaps.map .str)) (by (repeat first|with_reducible exact List.mem_cons_self|apply List.mem_cons_of_mem))) EvL.nil))) hfiles (by lia)))
    (fun i ρ g' => ρ = envL v0 v1 v2 v3 v5 D (.val (.int (D.behindN i : Nat))) (.val (.int (D.wordsN i : Nat))) .undef .undef .undef .undef .undef .undef .undef .undef .undef ∧ g' = g) ⟨rfl, rfl⟩ ?_ ?_)
  · rintro i q ρ₁ g₂ hq ⟨rfl, rfl⟩
    obtain ⟨f, hf, rfl⟩ : ∃ f, D.files[i]? = some f ∧ q = filePV f := by
      rw [List.getElem?_map] at hq
      cases e : D.files[i]? with
      | none => rw [e] at hq; cases hq
      | some c => rw [e] at hq; cases hq; exact ⟨c, rfl, rfl⟩
    have hm := List.mem_of_getElem? hf
    have B := file_b hm
    have hrd : FnW C.prog C.w C.T C.wd 7 (.ref fReads) g₂ [.str (D.textOf f), .list (f.2.1.map .str)] (.tup [.list (callsR (D.textOf f) f.2.1 (2 * f.2.1.length + 3)), .int (D.regOf f : Nat)]) g₂ := hreads (D.textOf f) f.2.1 (Nat.le_trans B.tx (by decide)) (Nat.le_trans B.wl (by decide))
    rw [H.due f hm] at hrd
    have hbn := behindN_succ hf
    have hwn := wordsN_succ hf
    have hdue := L.dueFn (Nat.le_trans B.tx (by decide)) (Nat.le_trans B.wl (by decide)) B.stl B.w0 B.stb
    have hpl := list_plain (lawDue_plain (text := D.textOf f) (stops := D.stopsOf f) (hsm f hm))
    have hln : (lawDue (D.textOf f) f.2.1 (D.stopsOf f)).length ≤ 4096 := Nat.le_trans B.dul (by decide)
    have hsl := due_slice (text := D.textOf f) (stops := D.stopsOf f) B.w0
    have hent : ∀ p ∈ lawDue (D.textOf f) f.2.1 (D.stopsOf f), ∃ (t : List Nat) (a b : Nat), p = .tup [.str t, .int a, .int b] := fun p hp => lawDue_ent hp
    have hdat : ∀ j, j < f.2.1.length → ∃ a b : Nat, dueAt (D.textOf f) f.2.1 (D.stopsOf f) (j + 1) = .tup [.str (f.2.1.getD j []), .int a, .int b] := fun j hj => by
      unfold dueAt; (with_reducible_and_instances (refine rwG ((dueRow_get hj) ..) ?_)); exact ⟨_, _, rfl⟩
    have hst1 : pvInts (D.stopsOf f) = pvInts f.2.2 ++ [PV.int ((f.1 ++ D.tail.take 1).length : Nat)] := List.map_append
    have htake : pySlice D.tail none (some 1) = D.tail.take 1 := slice_to D.tail 1
    have h17 := B.pos
    have hbd := B.bd
    have hwl := B.wl
    have hsl4 := B.sl
    clear B
    generalize D.stopsOf f = st' at *
    generalize D.regOf f = rg at *
    have htxe : D.textOf f = f.1 ++ D.tail := rfl
    generalize D.textOf f = tx at *
    generalize hdu : lawDue tx f.2.1 st' = du at *
    refine ⟨_, Binds.tup (vs := [.str f.1, .list (f.2.1.map .str), .list (pvInts f.2.2)]) (.cons (by (repeat first|((with_reducible refine Put.here ?_);first|rfl|assumption)|apply Put.there)) (.cons (by (repeat first|((with_reducible refine Put.here ?_);first|rfl|assumption)|apply Put.there)) (.cons (by (repeat first|((with_reducible refine Put.here ?_);first|rfl|assumption)|apply Put.there)) .nil))), ?_⟩
    have htext : ∀ {ρ : Env'} {p1 p2 p3 : Pos}, (Str.ofString "body", LV.val (.str f.1)) ∈ ρ → (Str.ofString "tail", LV.val (.str D.tail)) ∈ ρ → Ev C ρ g₂ (.BinOp (.Name "body" p1) .Add (.Name "tail" p2) p3) (.str tx) g₂ := fun h1 h2 => by
      (with_reducible_and_instances (refine rwG (htxe ..) ?_)); exact Ev.bin hC (Ev.name hC h1) (Ev.name hC h2) (op_cat (by lia))
    refine St.cons (St1.assignTup (hs := by rfl) (hw := by rfl) hC (vs := [.list du, .int (rg : Nat)]) (Ev.callFW (hn := by rfl) (ps := [.str tx, .list (f.2.1.map .str)]) hC gc hobj (EvL.cons (hs := by intro _; rfl) hC (htext (by (repeat first|with_reducible exact List.mem_cons_self|apply List.mem_cons_of_mem)) (by (repeat first|with_reducible exact List.mem_cons_self|apply List.mem_cons_of_mem))) (EvL.cons (hs := by intro _; rfl) hC (Ev.name hC (by (repeat first|with_reducible exact List.mem_cons_self|apply List.mem_cons_of_mem))) EvL.nil)) hrd (Nat.le_trans hd F.d)) (.cons (by (repeat first|((with_reducible refine Put.here ?_);first|rfl|assumption)|apply Put.there)) (.cons (by (repeat first|((with_reducible refine Put.here ?_);first|rfl|assumption)|apply Put.there)) .nil)) ?_)
    refine St.cons (St1.assignComp (ht := by first | exact .inl ⟨_, _, rfl⟩ | exact .inr ⟨_, _, _, rfl⟩) (hs := by intro _; rfl) (f := fun _ => none) (ρc := [en "word" .undef, en "place" .undef, en "line" .undef]) hC (CompOk.of ["word", "place", "line"] [] [] rfl hz rfl rfl (by decide +kernel) (by decide +kernel) (by decide +kernel) (by decide +kernel) (fun y hy => nomatch hy)) (EvIt.list hC (Ev.name hC (p := .list du) (by (repeat first|with_reducible exact List.mem_cons_self|apply List.mem_cons_of_mem)))) (by lia) (fun p hp Lc hCc => ?_) (by (repeat first|((with_reducible refine Put.here ?_);first|rfl|assumption)|apply Put.there)) ?_ kodd (scope_of hsc fun e => rfl))
    · obtain ⟨t, x, y, rfl⟩ := hent p hp
      have gi := (F.comp hCc).glob L.isi (relabel_glob (by rfl))
      refine ⟨_, Binds.tup (.cons (by (repeat first|((with_reducible refine Put.here ?_);first|rfl|assumption)|apply Put.there)) (.cons (by (repeat first|((with_reducible refine Put.here ?_);first|rfl|assumption)|apply Put.there)) (.cons (by (repeat first|((with_reducible refine Put.here ?_);first|rfl|assumption)|apply Put.there)) .nil))), by (repeat first|exact Weak.nil|((with_reducible apply Weak.keep))|((with_reducible refine Weak.drop ?_ ?_);first|rfl|assumption)|((with_reducible refine Weak.val ?_ ?_);rotate_left)|((with_reducible refine Weak.own ?_ ?_);rotate_left)), false, .inr ⟨_, rfl, ?_⟩, (fun h => by cases h), fun _ => rfl⟩
      have e : false = ((!true) || (false || false)) := rfl
      (with_reducible_and_instances (refine rwG (e ..) ?_))
      refine EvB.boolOp (EvAll.consOr hCc (EvB.not hCc (EvB.val (he := by rfl) hCc (p := .bool true) (Ev.callB (hn := by rfl) hCc gi (EvL.cons (hs := by intro _; rfl) hCc (Ev.name hCc (p := .int (y : Int)) (by (repeat first|with_reducible exact List.mem_cons_self|apply List.mem_cons_of_mem))) (EvL.cons (hs := by intro _; rfl) hCc (Ev.globT hCc ((F.comp hCc).glob L.int (relabel_glob (by rfl)))) EvL.nil)) call_isiInt) rfl)) fun _ => EvAll.consOr hCc (EvB.val (he := by rfl) hCc (p := .bool false) (Ev.callB (hn := by rfl) hCc gi (EvL.cons (hs := by intro _; rfl) hCc (Ev.name hCc (p := .int (y : Int)) (by (repeat first|with_reducible exact List.mem_cons_self|apply List.mem_cons_of_mem))) (EvL.cons (hs := by intro _; rfl) hCc (Ev.globT hCc ((F.comp hCc).glob L.bool (relabel_glob (by rfl)))) EvL.nil)) call_isiBool) rfl) fun _ => EvAll.nilOr)
    rw [filterMap_noneP]
    have e0 : false = (false || (false || false)) := rfl
    refine St.cons (St1.ifs (g₁ := g₂) (c := false) hC (by
      (with_reducible_and_instances (refine rwG (e0 ..) ?_))
      refine EvB.boolOp (EvAll.consOr hC (EvB.cmp (hm := by with_unfolding_all rfl) hC (Ev.name hC (p := .list []) (by (repeat first|with_reducible exact List.mem_cons_self|apply List.mem_cons_of_mem))) (Ev.list hC EvL.nil (by decide)) (op_neSame hC rfl (by decide))) fun _ => EvAll.consOr hC (EvB.cmp (hm := by with_unfolding_all rfl) hC (Ev.name hC (p := .list du) (by (repeat first|with_reducible exact List.mem_cons_self|apply List.mem_cons_of_mem))) (F.call (hn := by rfl) L.due (by rfl) (EvL.cons (hs := by intro _; rfl) hC (htext (by (repeat first|with_reducible exact List.mem_cons_self|apply List.mem_cons_of_mem)) (by (repeat first|with_reducible exact List.mem_cons_self|apply List.mem_cons_of_mem))) (EvL.cons (hs := by intro _; rfl) hC (Ev.name hC (p := .list (f.2.1.map .str)) (by (repeat first|with_reducible exact List.mem_cons_self|apply List.mem_cons_of_mem))) (EvL.cons (hs := by intro _; rfl) hC ?_ EvL.nil))) hdue (by lia)) (op_neSame hC hpl.1 (by have := hpl.2; lia))) fun _ => EvAll.nilOr)
      (with_reducible_and_instances (refine rwG (hst1 ..) ?_))
      refine Ev.bin hC (Ev.name hC (p := .list (pvInts f.2.2)) (by (repeat first|with_reducible exact List.mem_cons_self|apply List.mem_cons_of_mem))) (Ev.list (ps := [PV.int ((f.1 ++ D.tail.take 1).length : Nat)]) hC (EvL.cons (hs := by intro _; rfl) hC (Ev.callB (hn := by rfl) hC gl (EvL.cons (hs := by intro _; rfl) hC (Ev.bin hC (Ev.name hC (p := .str f.1) (by (repeat first|with_reducible exact List.mem_cons_self|apply List.mem_cons_of_mem))) (htake ▸ Ev.sliceStr (l := none) (u := some 1) hC (Ev.name hC (p := .str D.tail) (by (repeat first|with_reducible exact List.mem_cons_self|apply List.mem_cons_of_mem))) EvO.none (EvO.some Ev.int) (by lia)) (op_cat (by (with_reducible_and_instances (refine rwG (List.length_take ..) ?_)); lia))) EvL.nil) (call_lenS (by lia))) EvL.nil) (by simp)) (op_catList (by rw [List.length_map]; simp; lia))) (fun h => by cases h) fun _ => St.nil ?_)
    refine St.cons (St1.aug hC (by (repeat first|with_reducible exact List.mem_cons_self|apply List.mem_cons_of_mem)) (Ev.name hC (p := .int (rg : Nat)) (by (repeat first|with_reducible exact List.mem_cons_self|apply List.mem_cons_of_mem))) op_ixorN (by (repeat first|((with_reducible refine Put.here ?_);first|rfl|assumption)|apply Put.there)) ?_)
    (with_reducible_and_instances (refine rwL (hbn ..) ?_))
    generalize D.wordsN i = x0 at *
    refine St.one (St1.for (ht := by first | exact .inl ⟨_, _, rfl⟩ | exact .inr ⟨_, _, _, rfl⟩) (hs := by intro _; rfl) (g₁ := g₂) hC (EvIt.list (items := (List.range f.2.1.length).map fun j => dueAt tx f.2.1 st' (j + 1)) hC ?_) (fun j ρ g' => ρ = envL v0 v1 v2 v3 v5 D (.val (.int (D.behindN (i + 1) : Nat))) (.val (.int ((f.2.1.take j).foldl (fun a w => a ^^^ crcW w) x0 : Nat))) (.val (.str f.1)) (.val (.list (f.2.1.map .str))) (.val (.list (pvInts f.2.2))) (.val (.list du)) (.val (.int (rg : Nat))) .undef .undef .undef (.val (.list [])) ∧ g' = g₂) ⟨rfl, rfl⟩ ?_ ?_)
    · (with_reducible_and_instances (refine rwL (hsl ..) ?_))
      have ew : (f.2.1.map PV.str).length = f.2.1.length := List.length_map _
      have hlw : ∀ {ρ : Env'} {p1 p2 p3 : Pos}, (Str.ofString "words", LV.val (.list (f.2.1.map .str))) ∈ ρ → Ev C ρ g₂ (.Call (.Name "len" p1) [.Name "words" p2] [] p3) (.int (f.2.1.length : Int)) g₂ := fun h => by
        (with_reducible_and_instances (refine rwL (ew ..) ?_))
        exact Ev.callB (hn := by rfl) hC gl (EvL.cons (hs := by intro _; rfl) hC (Ev.name hC h) EvL.nil) (call_lenL (by lia))
      exact Ev.sliceList (l := some 1) (u := some ((f.2.1.length + 1 : Nat) : Int)) hC (Ev.name hC (p := .list du) (by (repeat first|with_reducible exact List.mem_cons_self|apply List.mem_cons_of_mem))) (EvO.some Ev.int) (EvO.some (Ev.bin hC (hlw (by (repeat first|with_reducible exact List.mem_cons_self|apply List.mem_cons_of_mem))) Ev.int (op_addN (b := 1)))) (by lia)
    · rintro j p ρ₁ g₃ hp ⟨rfl, rfl⟩
      have hj : j < f.2.1.length := by
        have := (List.getElem?_eq_some_iff.mp hp).1
        rw [List.length_map, List.length_range] at this; exact this
      rw [List.getElem?_map, List.getElem?_range hj] at hp
      obtain ⟨x, y, hxy⟩ := hdat j hj
      have hp' : p = .tup [.str (f.2.1.getD j []), .int x, .int y] := by (with_reducible_and_instances (refine rwL (hxy ..) ?_)); exact (Option.some.inj hp).symm
      subst hp'
      have hwj : f.2.1[j]? = some (f.2.1.getD j []) := getD_some hj
      generalize f.2.1.getD j [] = wj at *
      refine ⟨_, Binds.tup (.cons (by (repeat first|((with_reducible refine Put.here ?_);first|rfl|assumption)|apply Put.there)) (.cons (by (repeat first|((with_reducible refine Put.here ?_);first|rfl|assumption)|apply Put.there)) (.cons (by (repeat first|((with_reducible refine Put.here ?_);first|rfl|assumption)|apply Put.there)) .nil))), ?_⟩
      generalize hx1 : (f.2.1.take j).foldl (fun a w => a ^^^ crcW w) x0 = x1
      refine St.one (St1.aug (q := .int (crcW wj : Nat)) hC (by (repeat first|with_reducible exact List.mem_cons_self|apply List.mem_cons_of_mem)) (Ev.bin hC (F.call (hn := by rfl) L.run (by rfl) (EvL.cons (hs := by intro _; rfl) hC (Ev.bin hC (Ev.bin hC Ev.int Ev.int (op_powN (a := 2) (n := 32) (k := 2) (by decide) (by decide))) Ev.int (op_subN (a := 2 ^ 32) (b := 1) (by decide))) (EvL.cons (hs := by intro _; rfl) hC (Ev.name hC (p := .str wj) (by (repeat first|with_reducible exact List.mem_cons_self|apply List.mem_cons_of_mem))) EvL.nil)) (L.runFn _ _) (by lia)) (Ev.bin hC (Ev.bin hC Ev.int Ev.int (op_powN (a := 2) (n := 32) (k := 2) (by decide) (by decide))) Ev.int (op_subN (a := 2 ^ 32) (b := 1) (by decide))) op_xorN) op_ixorN (by (repeat first|((with_reducible refine Put.here ?_);first|rfl|assumption)|apply Put.there)) ⟨_, ?_, rfl, rfl⟩)
      (repeat first|exact Weak.nil|((with_reducible apply Weak.keep))|((with_reducible refine Weak.drop ?_ ?_);first|rfl|assumption)|((with_reducible refine Weak.val ?_ ?_);rotate_left)|((with_reducible refine Weak.own ?_ ?_);rotate_left))
      ((with_reducible_and_instances (refine rwG (List.take_add_one ..) ?_; refine rwG (hwj ..) ?_; refine rwG (List.foldl_append ..) ?_; refine rwG (hx1 ..) ?_)))
      rfl
    · rintro ρ₁ g₃ ⟨rfl, rfl⟩
      (rewrite [List.length_map]; (with_reducible_and_instances (refine rwG (List.length_range ..) ?_; refine rwG (List.take_length ..) ?_; refine rwL (hwn ..) ?_)))
      exact ⟨_, by (repeat first|exact Weak.nil|((with_reducible apply Weak.keep))|((with_reducible refine Weak.drop ?_ ?_);first|rfl|assumption)|((with_reducible refine Weak.val ?_ ?_);rotate_left)|((with_reducible refine Weak.own ?_ ?_);rotate_left)), rfl, rfl⟩
  · rintro ρ₁ g₂ ⟨rfl, rfl⟩
    rw [List.length_map]
    exact hrest
end
end Mine.Internal
end

section
namespace Mine.Internal
open PySem PySem.Calls PyProof.Rows PySem.W

noncomputable abbrev envM (v0 v1 v2 v3 v5 : LV) (D : Dr) (due size gap moved row four part : LV) : Env' :=
  [en "script" v0, en "drawn" v1, en "quoted" v2, en "front" v3, en "tail" (.val (.str D.tail)), en "numbers" v5, en "pieces" (.val (.list (D.pieces.map piecePV))), en "gaps" (.val (.list (D.gaps.map .str))), en "first" (.val (.str D.first)), en "behind_all" (.val (.int (D.behindN D.files.length : Nat))), en "all_words" (.val (.int (D.wordsN D.files.length : Nat))), en "body" .undef, en "words" .undef, en "stops" .undef, en "calls" .undef, en "register" .undef, en "word" .undef, en "place" .undef, en "line" .undef, en "odd" .undef, en "due" due, en "size" size, en "gap" gap, en "moved" moved, en "row" row, en "four" four, en "part" part]

theorem op_iaddN {C : Cx} {a b : Nat} : Op2 C (inplaceOp .Add) (.int a) (.int b) (.int ((a + b : Nat) : Int)) := by rw [Int.natCast_add]; exact op_iadd

theorem restStep_lt {x p k : Nat} (h : x < 2 ^ k) (hp : p < k) (h32 : 32 ≤ p) : restStep x p < 2 ^ k := by
  unfold restStep
  split
  · refine Nat.xor_lt_two_pow h ?_
    have h1 : 4374732215 * 2 ^ (p - 32) < 2 ^ 33 * 2 ^ (p - 32) := Nat.mul_lt_mul_of_pos_right (by decide) (Nat.pow_pos (by decide))
    rw [← Nat.pow_add] at h1
    exact Nat.lt_of_lt_of_le h1 (Nat.pow_le_pow_right (by decide) (by lia))
  · exact h
theorem restN_lt {x k : Nat} (h : x < 2 ^ k) : ∀ i, i + 32 ≤ k → restN x k i < 2 ^ k
  | 0, _ => h
  | i + 1, hi => restStep_lt (restN_lt h i (by lia)) (by lia) (by lia)
theorem lawRest_lt {x k : Nat} (h : x < 2 ^ k) (hk : 32 ≤ k) : lawRest x k < 2 ^ k := restN_lt h (k - 32) (by lia)
theorem front_lt {text : List Nat} : lawFront text < 2 ^ (8 * text.length + 32) := by
  refine lawRest_lt (Nat.xor_lt_two_pow ?_ ?_) (by lia)
  · have := numOf_lt text
    rw [Nat.pow_add]
    exact Nat.mul_lt_mul_of_pos_right this (by decide)
  · rw [Nat.pow_add, Nat.mul_comm]
    exact Nat.mul_lt_mul_of_pos_left (by decide) (Nat.pow_pos (by decide))
theorem lt_pow {a j k : Nat} (h : a < 2 ^ j) (hk : j ≤ k) : a < 2 ^ k := Nat.lt_of_lt_of_le h (Nat.pow_le_pow_right (by decide) hk)
section
variable {D : Dr}
theorem dueN_succ {i : Nat} {x : List Nat} (h : (D.gaps.drop 2)[i]? = some x) : D.dueN (i + 1) = D.dueN i ^^^ D.dueN i * 2 ^ (8 * x.length) := by
  unfold Dr.dueN; ((with_reducible_and_instances (refine rwG (List.take_add_one ..) ?_; refine rwG (h ..) ?_; refine rwG (List.foldl_append ..) ?_))); rfl
theorem sizeN_succ {i : Nat} {x : List Nat} (h : (D.gaps.drop 2)[i]? = some x) : D.sizeN (i + 1) = D.sizeN i + 8 * x.length := by
  unfold Dr.sizeN; ((with_reducible_and_instances (refine rwG (List.take_add_one ..) ?_; refine rwG (h ..) ?_; refine rwG (List.foldl_append ..) ?_))); rfl
theorem gap_len' {i : Nat} {x : List Nat} (h : (D.gaps.drop 2)[i]? = some x) : x.length ≤ 5 := by
  rw [List.getElem?_drop] at h
  obtain ⟨m, _, rfl⟩ := List.mem_map.mp (List.mem_of_getElem? h)
  exact lawGap_len
theorem dueN_lt : ∀ i, i ≤ (D.gaps.drop 2).length → D.dueN i < 2 ^ (400 + 40 * i)
  | 0, _ => by
    have h1 := first_len (D := D)
    have h2 := gaps_get' (D := D) (k := 1)
    refine Nat.xor_lt_two_pow (lt_pow front_lt (by lia)) (lt_pow front_lt ?_)
    (with_reducible_and_instances (refine rwG (List.length_append ..) ?_)); lia
  | i + 1, h => by
    have ih := dueN_lt i (by lia)
    have hx := List.getElem?_eq_getElem (show i < (D.gaps.drop 2).length by lia)
    have hl := gap_len' hx
    (with_reducible_and_instances (refine rwG ((dueN_succ hx) ..) ?_))
    refine Nat.xor_lt_two_pow (lt_pow ih (by lia)) ?_
    generalize (D.gaps.drop 2)[i] = x at *
    have h1 : D.dueN i * 2 ^ (8 * x.length) < 2 ^ (400 + 40 * i) * 2 ^ (8 * x.length) := Nat.mul_lt_mul_of_pos_right ih (Nat.pow_pos (by decide))
    rw [← Nat.pow_add] at h1
    exact lt_pow h1 (by lia)
theorem sizeN_le : ∀ i, i ≤ (D.gaps.drop 2).length → 32 ≤ D.sizeN i ∧ D.sizeN i ≤ 32 + 40 * i
  | 0, _ => ⟨Nat.le_refl _, Nat.le_refl _⟩
  | i + 1, h => by
    have ih := sizeN_le i (by lia)
    have hx := List.getElem?_eq_getElem (show i < (D.gaps.drop 2).length by lia)
    have hl := gap_len' hx
    (with_reducible_and_instances (refine rwG ((sizeN_succ hx) ..) ?_))
    lia
theorem drop2_len : (D.gaps.drop 2).length ≤ 2 := by have := n_three (D := D); ((with_reducible_and_instances (refine rwG (List.length_drop ..) ?_; refine rwG (gaps_len ..) ?_))); lia
theorem piece_mem {p : List Nat × List Nat} (h : p ∈ D.pieces) : p.1.length ≤ 2 ∧ p.2.length ≤ 4 := by
  obtain ⟨k, _, rfl⟩ := List.mem_map.mp h
  exact pieceAt_len
theorem moved_le : D.moved ≤ 16 + 8 * 16 := by
  have h1 := tail_len (D := D)
  have h2 := sum_le (l := (D.pieces.drop 1).map fun p => p.2.length) (B := 4) fun m hm => by
    obtain ⟨p, hp, rfl⟩ := List.mem_map.mp hm
    exact (piece_mem (List.drop_subset _ _ hp)).2
  have h3 := n_three (D := D)
  rw [List.length_map, List.length_drop, pieces_len] at h2
  unfold Dr.moved
  lia
theorem row_len : D.row.length = D.n := by unfold Dr.row; (rewrite [List.length_map]; (with_reducible_and_instances (refine rwG (pieces_len ..) ?_)); (with_reducible rfl))
theorem rows_small {r : List (List Nat)} (h : r ∈ D.rows) : r.flatten.length ≤ 8 ∧ (∀ x ∈ r, x ∈ D.row) := by
  have h3 := n_three (D := D)
  have hl := row_len (D := D)
  have key : r.length ≤ 4 ∧ ∀ x ∈ r, x ∈ D.row := by
    unfold Dr.rows at h
    simp only [List.mem_cons, List.not_mem_nil, or_false] at h
    rcases h with rfl | rfl | rfl | rfl
    · exact ⟨by lia, fun x hx => hx⟩
    · exact ⟨by (with_reducible_and_instances (refine rwG (List.length_drop ..) ?_)); lia, fun x hx => List.drop_subset _ _ hx⟩
    · exact ⟨by (with_reducible_and_instances (refine rwG (List.length_dropLast ..) ?_)); lia, fun x hx => List.dropLast_subset _ hx⟩
    · exact ⟨by ((with_reducible_and_instances (refine rwG (List.length_dropLast ..) ?_; refine rwG (List.length_drop ..) ?_))); lia, fun x hx => List.drop_subset _ _ (List.dropLast_subset _ hx)⟩
  refine ⟨?_, key.2⟩
  have h2 := sum_le (l := r.map List.length) (B := 2) fun m hm => by
    obtain ⟨x, hx, rfl⟩ := List.mem_map.mp hm
    obtain ⟨p, hp, rfl⟩ := List.mem_map.mp (key.2 x hx)
    exact (piece_mem hp).1
  rw [List.length_map] at h2
  (with_reducible_and_instances (refine rwG (List.length_flatten ..) ?_))
  lia
theorem fourN_succ {i : Nat} {r : List (List Nat)} (h : D.rows[i]? = some r) : D.fourN (i + 1) = D.fourN i ^^^ (lawFront r.flatten ^^^ ones) := by
  unfold Dr.fourN; ((with_reducible_and_instances (refine rwG (List.take_add_one ..) ?_; refine rwG (h ..) ?_; refine rwG (List.foldl_append ..) ?_))); rfl
end
noncomputable def lenF : PV → Option PV
  | .tup [.str _, .str b] => some (.int (b.length : Int))
  | _ => none
noncomputable def plainF : PV → Option PV
  | .tup [.str a, .str _] => some (.str a)
  | _ => none
theorem lenF_eq (l : List (List Nat × List Nat)) : (l.map piecePV).filterMap lenF = ((l.map fun p => p.2.length).map fun (m : Nat) => (m : Int)).map PV.int := by
  (with_reducible_and_instances (refine rwG (List.filterMap_map ..) ?_))
  have : (lenF ∘ piecePV) = fun p => some (PV.int (p.2.length : Int)) := rfl
  (with_reducible_and_instances (refine rwG (this ..) ?_))
  refine (congrFun (List.filterMap_eq_map (f := fun (p : List Nat × List Nat) => PV.int (p.2.length : Int))) _).trans ?_
  ((with_reducible_and_instances (refine rwG (List.map_map ..) ?_; refine rwG (List.map_map ..) ?_))); rfl
theorem plainF_eq (l : List (List Nat × List Nat)) : (l.map piecePV).filterMap plainF = (l.map (·.1)).map PV.str := by
  (with_reducible_and_instances (refine rwG (List.filterMap_map ..) ?_))
  have : (plainF ∘ piecePV) = fun p => some (PV.str p.1) := rfl
  (with_reducible_and_instances (refine rwG (this ..) ?_))
  refine (congrFun (List.filterMap_eq_map (f := fun (p : List Nat × List Nat) => PV.str p.1)) _).trans ?_
  (with_reducible_and_instances (refine rwG (List.map_map ..) ?_)); rfl
theorem long_nats {l : List Nat} {B : Nat} (h : ∀ m ∈ l, m ≤ B) (hB : l.length * B ≤ 1000000) (hB2 : B ≤ 1000000) : ∀ j, j < (l.map fun (m : Nat) => (m : Int)).length → InLong ((l.map fun (m : Nat) => (m : Int)).getD j 0) ∧ InLong (((l.map fun (m : Nat) => (m : Int)).take (j + 1)).sum) := fun j hj => by
  rw [List.length_map] at hj
  constructor
  · ((with_reducible_and_instances (refine rwG ((List.getD_eq_getElem?_getD) ..) ?_; refine rwG ((List.getElem?_map) ..) ?_; refine rwG ((List.getElem?_eq_getElem hj) ..) ?_)))
    have := h _ (List.getElem_mem hj)
    show InLong (l[j] : Int)
    unfold InLong; lia
  · ((with_reducible_and_instances (refine rwL (List.map_take ..) ?_)); rewrite [sum_cast])
    have h1 := sum_le (l := l.take (j + 1)) (B := B) fun m hm => h m (List.take_subset _ _ hm)
    have h2 : (l.take (j + 1)).length ≤ l.length := by (with_reducible_and_instances (refine rwG (List.length_take ..) ?_)); lia
    have h3 := Nat.mul_le_mul_right B h2
    unfold InLong; lia
theorem slice_mid {α : Type} (x : List α) (h : 0 < x.length) : pySlice x (some 1) (some (-1)) = (x.drop 1).dropLast := by
  ((with_reducible_and_instances (refine rwG ((pySlice_nat (show clipTo (some 1) 0 _ = _ from clip_nat 1 _ _) (clip_neg _ _)) ..) ?_; refine rwG ((Nat.min_eq_left (Nat.succ_le_of_lt h)) ..) ?_; refine rwG (List.dropLast_eq_take ..) ?_; refine rwG (List.length_drop ..) ?_)); (with_reducible rfl))

section
variable {C : Cx} {g : C.G} {prog : Program} {w : World} {T : Heap → Prop} {d : Nat} {st : Stmt} {rest2 : List Stmt} {a : FA}

set_option maxHeartbeats 4000000 in
theorem law_body3 (hst : st = stmtAt theProg 14) (hr2 : rest2 = (stmtBody st).drop 11) (F : TopAt C prog w T d (stmtScope st)) (hz : ∀ x, ¬ C.Z x) (L : LawTop prog w T a) (hd : 2 ≤ d) (D : Dr) (H : D.Holds) {v0 v1 v2 v3 v5 : LV} :
    St C (envM v0 v1 v2 v3 v5 D .undef .undef .undef .undef .undef .undef .undef) g rest2 (fun fl _ g' => fl = .ret (.bool true) ∧ g' = g) := by
  have hC := F.ok
  have gl := F.glob L.len (by subst hst; rfl)
  have gs := F.glob L.sum (by subst hst; rfl)
  have krow : C.env.kindOf (Str.ofString "row") = some .local := by show C.env.scope.names.lookup _ = _; (with_reducible_and_instances (refine rwG (F.scope ..) ?_)); subst hst; rfl
  have hsc := F.scope
  have h1l := first_len (D := D)
  have hg1 := gaps_get' (D := D) (k := 1)
  have h3 := n_three (D := D)
  have htl := tail_len (D := D)
  have hgl := gaps_len (D := D)
  have hd2 := drop2_len (D := D)
  have e1n : D.gaps.getD 1 [] = D.gaps.getD 1 [] := rfl
  subst hst
  subst hr2
  refine St.cons (St1.assign (hs := by rfl) (g₁ := g) hC (v := .int (D.dueN 0 : Nat)) (Ev.bin hC (F.call (hn := by rfl) L.front (by rfl) (EvL.cons (hs := by intro _; rfl) hC (Ev.name hC (p := .str D.first) (by (repeat first|with_reducible exact List.mem_cons_self|apply List.mem_cons_of_mem))) EvL.nil) (L.frontFn (by lia)) (by lia)) (F.call (hn := by rfl) L.front (by rfl) (EvL.cons (hs := by intro _; rfl) hC (Ev.bin hC (Ev.name hC (p := .str D.first) (by (repeat first|with_reducible exact List.mem_cons_self|apply List.mem_cons_of_mem))) (Ev.sub (hs := by intro _ _; rfl) hC (Ev.name hC (p := .list (D.gaps.map .str)) (by (repeat first|with_reducible exact List.mem_cons_self|apply List.mem_cons_of_mem))) Ev.int (item_list (r := .str (D.gaps.getD 1 [])) (by decide) (by decide) ?_)) (op_cat (by lia))) EvL.nil) (L.frontFn (by (with_reducible_and_instances (refine rwG (List.length_append ..) ?_)); lia)) (by lia)) op_xorN) (by (repeat first|((with_reducible refine Put.here ?_);first|rfl|assumption)|apply Put.there)) ?_)
  · show (D.gaps.map PV.str)[1]? = _
    ((with_reducible_and_instances (refine rwG ((List.getElem?_map) ..) ?_; refine rwG ((getD_some (d := []) (by lia)) ..) ?_))); rfl
  refine St.cons (St1.assign (hs := by rfl) (g₁ := g) hC (v := .int (D.sizeN 0 : Nat)) Ev.int (by (repeat first|((with_reducible refine Put.here ?_);first|rfl|assumption)|apply Put.there)) ?_)
  have hit : pySlice (D.gaps.map PV.str) (some 2) none = (D.gaps.drop 2).map PV.str := by
    ((with_reducible_and_instances (refine rwG ((show (2 : Int) = ((2 : Nat) : Int) from rfl) ..) ?_)); rewrite [slice_from]; (with_reducible_and_instances (refine rwG (List.map_drop ..) ?_)); (with_reducible rfl))
  refine St.cons (St1.for (ht := by first | exact .inl ⟨_, _, rfl⟩ | exact .inr ⟨_, _, _, rfl⟩) (hs := by intro _; rfl) (g₁ := g) hC (EvIt.list (items := (D.gaps.drop 2).map .str) hC (hit ▸ Ev.sliceList (l := some 2) (u := none) hC (Ev.name hC (p := .list (D.gaps.map .str)) (by (repeat first|with_reducible exact List.mem_cons_self|apply List.mem_cons_of_mem))) (EvO.some Ev.int) EvO.none (by rw [List.length_map]; lia)))
    (fun i ρ g' => ρ = envM v0 v1 v2 v3 v5 D (.val (.int (D.dueN i : Nat))) (.val (.int (D.sizeN i : Nat))) .undef .undef .undef .undef .undef ∧ g' = g) ⟨rfl, rfl⟩ ?_ ?_)
  · rintro i q ρ₁ g₂ hq ⟨rfl, rfl⟩
    obtain ⟨x, hx, rfl⟩ : ∃ x, (D.gaps.drop 2)[i]? = some x ∧ q = .str x := by
      rw [List.getElem?_map] at hq
      cases e : (D.gaps.drop 2)[i]? with
      | none => rw [e] at hq; cases hq
      | some c => rw [e] at hq; cases hq; exact ⟨c, rfl, rfl⟩
    have hi : i < (D.gaps.drop 2).length := (List.getElem?_eq_some_iff.mp hx).1
    have hlt := dueN_lt (D := D) i (by lia)
    have hds := dueN_succ hx
    have hss := sizeN_succ hx
    have hxl := gap_len' hx
    generalize D.dueN i = du at *
    generalize D.sizeN i = sz at *
    refine ⟨_, Binds.name (by (repeat first|((with_reducible refine Put.here ?_);first|rfl|assumption)|apply Put.there)), ?_⟩
    have h8 : ∀ {ρ : Env'} {p1 p2 p3 p4 p5 : Pos} {k : Nat}, (Str.ofString "gap", LV.val (.str x)) ∈ ρ → Ev C ρ g₂ (.BinOp (.Constant (.int 8) k p1) .Mult (.Call (.Name "len" p2) [.Name "gap" p3] [] p4) p5) (.int ((8 * x.length : Nat) : Int)) g₂ := fun h =>
      Ev.bin hC Ev.int (Ev.callB (hn := by rfl) hC gl (EvL.cons (hs := by intro _; rfl) hC (Ev.name hC h) EvL.nil) (call_lenS (by lia))) (op_mulN (a := 8) (by decide))
    refine St.cons (St1.aug hC (by (repeat first|with_reducible exact List.mem_cons_self|apply List.mem_cons_of_mem)) (Ev.bin hC (Ev.name hC (p := .int (du : Nat)) (by (repeat first|with_reducible exact List.mem_cons_self|apply List.mem_cons_of_mem))) (h8 (by (repeat first|with_reducible exact List.mem_cons_self|apply List.mem_cons_of_mem))) (op_shlN (k := 400 + 40 * i) hC hlt (by lia))) op_ixorN (by (repeat first|((with_reducible refine Put.here ?_);first|rfl|assumption)|apply Put.there)) ?_)
    refine St.one (St1.aug hC (by (repeat first|with_reducible exact List.mem_cons_self|apply List.mem_cons_of_mem)) (h8 (by (repeat first|with_reducible exact List.mem_cons_self|apply List.mem_cons_of_mem))) op_iaddN (by (repeat first|((with_reducible refine Put.here ?_);first|rfl|assumption)|apply Put.there)) ⟨_, ?_, rfl, rfl⟩)
    (repeat first|exact Weak.nil|((with_reducible apply Weak.keep))|((with_reducible refine Weak.drop ?_ ?_);first|rfl|assumption)|((with_reducible refine Weak.val ?_ ?_);rotate_left)|((with_reducible refine Weak.own ?_ ?_);rotate_left))
    · ((with_reducible_and_instances (refine rwG (hds ..) ?_)); (with_reducible rfl))
    · ((with_reducible_and_instances (refine rwG (hss ..) ?_)); (with_reducible rfl))
  rintro ρ₁ g₂ ⟨rfl, rfl⟩
  rw [List.length_map]
  have hlt := dueN_lt (D := D) (D.gaps.drop 2).length (Nat.le_refl _)
  have hsz := sizeN_le (D := D) (D.gaps.drop 2).length (Nat.le_refl _)
  have hmv := moved_le (D := D)
  have HB := H.behind
  generalize hgd : (D.gaps.drop 2).length = gd at *
  generalize D.dueN gd = du at *
  generalize D.sizeN gd = sz at *
  have hps : pySlice (D.pieces.map piecePV) (some 1) none = (D.pieces.drop 1).map piecePV := by
    ((with_reducible_and_instances (refine rwG ((show (1 : Int) = ((1 : Nat) : Int) from rfl) ..) ?_)); rewrite [slice_from]; (with_reducible_and_instances (refine rwG (List.map_drop ..) ?_)); (with_reducible rfl))
  have hpl := pieces_len (D := D)
  have hsum : (((D.pieces.drop 1).map fun p => p.2.length).map fun (m : Nat) => (m : Int)).sum = ((((D.pieces.drop 1).map fun p => p.2.length).sum : Nat) : Int) := sum_cast _
  refine St.cons (St1.assign (hs := by rfl) (g₁ := g₂) hC (v := .int (D.moved : Nat)) (Ev.bin hC (Ev.bin hC Ev.int (Ev.callB (hn := by rfl) hC gl (EvL.cons (hs := by intro _; rfl) hC (Ev.name hC (p := .str D.tail) (by (repeat first|with_reducible exact List.mem_cons_self|apply List.mem_cons_of_mem))) EvL.nil) (call_lenS (by lia))) (op_mulN (a := 8) (by decide))) (Ev.bin hC Ev.int ?_ (op_mulN (a := 8) (b := ((D.pieces.drop 1).map fun p => p.2.length).sum) (by decide))) op_addN) (by (repeat first|((with_reducible refine Put.here ?_);first|rfl|assumption)|apply Put.there)) ?_)
  · (with_reducible_and_instances (refine rwL (hsum ..) ?_))
    refine Ev.callB (hn := by rfl) hC gs (EvL.cons (hs := by intro _; rfl) hC ?_ EvL.nil) (call_sum hC (long_nats (B := 4) (fun m hm => ?_) (by (rewrite [List.length_map]; (with_reducible_and_instances (refine rwG (List.length_drop ..) ?_))); lia) (by decide)))
    · (rewrite [← lenF_eq]; (with_reducible_and_instances (refine rwL (hps ..) ?_)))
      refine Ev.comp (ht := by first | exact .inl ⟨_, _, rfl⟩ | exact .inr ⟨_, _, _, rfl⟩) (hs := by intro _; rfl) (f := lenF) (ρc := [en "plain" .undef, en "written" .undef]) hC (CompOk.of ["plain", "written"] [] [] rfl hz rfl rfl (by decide +kernel) (by decide +kernel) (by decide +kernel) (by decide +kernel) (fun y hy => nomatch hy)) (EvIt.list hC (Ev.sliceList (l := some 1) (u := none) hC (Ev.name hC (p := .list (D.pieces.map piecePV)) (by (repeat first|with_reducible exact List.mem_cons_self|apply List.mem_cons_of_mem))) (EvO.some Ev.int) EvO.none (by rw [List.length_map]; lia))) (by ((with_reducible_and_instances (refine rwG (hps ..) ?_)); rewrite [List.length_map]; (with_reducible_and_instances (refine rwG (List.length_drop ..) ?_))); lia) (fun p hp Lc hCc => ?_)
      rw [hps] at hp
      obtain ⟨x, hx, rfl⟩ := List.mem_map.mp hp
      have hxl := (piece_mem (List.drop_subset _ _ hx)).2
      exact ⟨_, Binds.tup (vs := [.str x.1, .str x.2]) (.cons (by (repeat first|((with_reducible refine Put.here ?_);first|rfl|assumption)|apply Put.there)) (.cons (by (repeat first|((with_reducible refine Put.here ?_);first|rfl|assumption)|apply Put.there)) .nil)), by (repeat first|exact Weak.nil|((with_reducible apply Weak.keep))|((with_reducible refine Weak.drop ?_ ?_);first|rfl|assumption)|((with_reducible refine Weak.val ?_ ?_);rotate_left)|((with_reducible refine Weak.own ?_ ?_);rotate_left)), true, .inl ⟨rfl, rfl⟩, fun _ => ⟨_, rfl, Ev.callB (hn := by rfl) hCc ((F.comp hCc).glob L.len (relabel_glob (by rfl))) (EvL.cons (hs := by intro _; rfl) hCc (Ev.name hCc (p := .str x.2) (by (repeat first|with_reducible exact List.mem_cons_self|apply List.mem_cons_of_mem))) EvL.nil) (call_lenS (by lia))⟩, fun h => by cases h⟩
    · obtain ⟨p, hp, rfl⟩ := List.mem_map.mp hm
      exact (piece_mem (List.drop_subset _ _ hp)).2
  have hB : ∀ {ρ : Env'} {p1 p2 p3 p4 p5 p6 p7 p8 p9 p10 : Pos}, (Str.ofString "due", LV.val (.int (du : Nat))) ∈ ρ → (Str.ofString "size", LV.val (.int (sz : Nat))) ∈ ρ → (Str.ofString "moved", LV.val (.int (D.moved : Nat))) ∈ ρ →
      Ev C ρ g₂ (.Call (.Name "_law_turned" p1) [.Call (.Name "_law_rest" p2) [.BinOp (.Name "due" p3) .LShift (.Name "moved" p4) p5, .BinOp (.Name "size" p6) .Add (.Name "moved" p7) p8] [] p9] [] p10) (.int (D.behindN D.files.length : Nat)) g₂ := fun h1 h2 h3 => by
    (with_reducible_and_instances (refine rwG (HB ..) ?_))
    exact F.call (hn := by rfl) L.turned (by rfl) (EvL.cons (hs := by intro _; rfl) hC (F.call (hn := by rfl) L.rest (by rfl) (EvL.cons (hs := by intro _; rfl) hC (Ev.bin hC (Ev.name hC h1) (Ev.name hC h3) (op_shlN (k := 400 + 40 * gd) hC hlt (by lia))) (EvL.cons (hs := by intro _; rfl) hC (Ev.bin hC (Ev.name hC h2) (Ev.name hC h3) op_addN) EvL.nil)) (L.restFn _ _ (by lia) (by lia)) (by lia)) EvL.nil) (L.turnedFn _) (by lia)
  refine St.cons (St1.ifs (g₁ := g₂) (c := false) hC (EvB.cmp (hm := by with_unfolding_all rfl) hC (Ev.name hC (p := .int (D.behindN D.files.length : Nat)) (by (repeat first|with_reducible exact List.mem_cons_self|apply List.mem_cons_of_mem))) (hB (by (repeat first|with_reducible exact List.mem_cons_self|apply List.mem_cons_of_mem)) (by (repeat first|with_reducible exact List.mem_cons_self|apply List.mem_cons_of_mem)) (by (repeat first|with_reducible exact List.mem_cons_self|apply List.mem_cons_of_mem))) (op_neSame hC rfl (by simp [PV.data, PyData.depth]))) (fun h => by cases h) fun _ => St.nil ?_)
  refine St.cons (St1.assignComp (ht := by first | exact .inl ⟨_, _, rfl⟩ | exact .inr ⟨_, _, _, rfl⟩) (hs := by intro _; rfl) (f := plainF) (ρc := [en "plain" .undef, en "written" .undef]) hC (CompOk.of ["plain", "written"] [] [] rfl hz rfl rfl (by decide +kernel) (by decide +kernel) (by decide +kernel) (by decide +kernel) (fun y hy => nomatch hy)) (EvIt.list hC (Ev.name hC (p := .list (D.pieces.map piecePV)) (by (repeat first|with_reducible exact List.mem_cons_self|apply List.mem_cons_of_mem)))) (by rw [List.length_map]; lia) (fun p hp Lc hCc => ?_) (by (repeat first|((with_reducible refine Put.here ?_);first|rfl|assumption)|apply Put.there)) ?_ krow (scope_of hsc fun e => rfl))
  · obtain ⟨x, hx, rfl⟩ := List.mem_map.mp hp
    exact ⟨_, Binds.tup (vs := [.str x.1, .str x.2]) (.cons (by (repeat first|((with_reducible refine Put.here ?_);first|rfl|assumption)|apply Put.there)) (.cons (by (repeat first|((with_reducible refine Put.here ?_);first|rfl|assumption)|apply Put.there)) .nil)), by (repeat first|exact Weak.nil|((with_reducible apply Weak.keep))|((with_reducible refine Weak.drop ?_ ?_);first|rfl|assumption)|((with_reducible refine Weak.val ?_ ?_);rotate_left)|((with_reducible refine Weak.own ?_ ?_);rotate_left)), true, .inl ⟨rfl, rfl⟩, fun _ => ⟨_, rfl, Ev.name hCc (p := .str x.1) (by (repeat first|with_reducible exact List.mem_cons_self|apply List.mem_cons_of_mem))⟩, fun h => by cases h⟩
  (rewrite [plainF_eq]; (with_reducible_and_instances (refine rwG ((show D.pieces.map (·.1) = D.row from rfl) ..) ?_)))
  have hrl := row_len (D := D)
  have hrl2 : (D.row.map PV.str).length ≤ 4 := by rw [List.length_map]; lia
  refine St.cons (St1.assign (hs := by rfl) (g₁ := g₂) hC (v := .int (D.fourN 0 : Nat)) Ev.int (by (repeat first|((with_reducible refine Put.here ?_);first|rfl|assumption)|apply Put.there)) ?_)
  have q1 : pySlice (D.row.map PV.str) (some 1) none = (D.row.drop 1).map PV.str := by
    ((with_reducible_and_instances (refine rwG ((show (1 : Int) = ((1 : Nat) : Int) from rfl) ..) ?_)); rewrite [slice_from]; (with_reducible_and_instances (refine rwG (List.map_drop ..) ?_)); (with_reducible rfl))
  have q2 : pySlice (D.row.map PV.str) none (some (-1)) = D.row.dropLast.map PV.str := by (rewrite [slice_init]; (with_reducible_and_instances (refine rwG (List.map_dropLast ..) ?_)); (with_reducible rfl))
  have q3 : pySlice (D.row.map PV.str) (some 1) (some (-1)) = (D.row.drop 1).dropLast.map PV.str := by
    ((with_reducible_and_instances (refine rwG ((slice_mid _ (by rw [List.length_map]; lia)) ..) ?_; refine rwG (List.map_dropLast ..) ?_; refine rwG (List.map_drop ..) ?_)); (with_reducible rfl))
  have hrw : ∀ {ρ : Env'} {pos : Pos}, (Str.ofString "row", LV.val (.list (D.row.map .str))) ∈ ρ → Ev C ρ g₂ (.Name "row" pos) (.list (D.row.map .str)) g₂ := fun h => Ev.name hC h
  refine St.cons (St1.for (ht := by first | exact .inl ⟨_, _, rfl⟩ | exact .inr ⟨_, _, _, rfl⟩) (hs := by intro _; rfl) (g₁ := g₂) hC (EvIt.list (items := D.rows.map fun r => PV.list (r.map .str)) hC (Ev.list (ps := D.rows.map fun r => PV.list (r.map .str)) hC (EvL.cons (hs := by intro _; rfl) hC (hrw (by (repeat first|with_reducible exact List.mem_cons_self|apply List.mem_cons_of_mem))) (EvL.cons (hs := by intro _; rfl) (p := .list ((D.row.drop 1).map .str)) hC (by (with_reducible_and_instances (refine rwL (q1 ..) ?_)); exact Ev.sliceList (l := some 1) (u := none) hC (hrw (by (repeat first|with_reducible exact List.mem_cons_self|apply List.mem_cons_of_mem))) (EvO.some Ev.int) EvO.none (by lia)) (EvL.cons (hs := by intro _; rfl) (p := .list (D.row.dropLast.map .str)) hC (by (with_reducible_and_instances (refine rwL (q2 ..) ?_)); exact Ev.sliceList (l := none) (u := some (-1)) hC (hrw (by (repeat first|with_reducible exact List.mem_cons_self|apply List.mem_cons_of_mem))) EvO.none (EvO.some (Ev.neg hC Ev.int)) (by lia)) (EvL.cons (hs := by intro _; rfl) (p := .list ((D.row.drop 1).dropLast.map .str)) hC (by (with_reducible_and_instances (refine rwL (q3 ..) ?_)); exact Ev.sliceList (l := some 1) (u := some (-1)) hC (hrw (by (repeat first|with_reducible exact List.mem_cons_self|apply List.mem_cons_of_mem))) (EvO.some Ev.int) (EvO.some (Ev.neg hC Ev.int)) (by lia)) EvL.nil)))) (show 4 ≤ 4096 by decide)))
    (fun i ρ g' => ρ = envM v0 v1 v2 v3 v5 D (.val (.int (du : Nat))) (.val (.int (sz : Nat))) .undef (.val (.int (D.moved : Nat))) (.val (.list (D.row.map .str))) (.val (.int (D.fourN i : Nat))) .undef ∧ g' = g₂) ⟨rfl, rfl⟩ ?_ ?_)
  · rintro i q ρ₁ g₃ hq ⟨rfl, rfl⟩
    obtain ⟨r, hr, rfl⟩ : ∃ r, D.rows[i]? = some r ∧ q = .list (r.map .str) := by
      rw [List.getElem?_map] at hq
      cases e : D.rows[i]? with
      | none => rw [e] at hq; cases hq
      | some c => rw [e] at hq; cases hq; exact ⟨c, rfl, rfl⟩
    have hrs := (rows_small (List.mem_of_getElem? hr)).1
    have hfs := fourN_succ hr
    generalize D.fourN i = x at *
    refine ⟨_, Binds.name (by (repeat first|((with_reducible refine Put.here ?_);first|rfl|assumption)|apply Put.there)), ?_⟩
    refine St.one (St1.aug (g₁ := g₃) (q := .int ((lawFront r.flatten ^^^ ones : Nat) : Int)) hC (by (repeat first|with_reducible exact List.mem_cons_self|apply List.mem_cons_of_mem)) (Ev.bin hC (F.call (hn := by rfl) L.front (by rfl) (EvL.cons (hs := by intro _; rfl) hC (Ev.join (hline := by rfl) (hfew := by rfl) (htrees := by rfl) hC (xs := r) rfl (Ev.name hC (by (repeat first|with_reducible exact List.mem_cons_self|apply List.mem_cons_of_mem))) (by (with_reducible_and_instances (refine rwL (List.length_flatten ..) ?_)); lia)) EvL.nil) (L.frontFn (by lia)) (by lia)) (Ev.bin hC (Ev.bin hC Ev.int Ev.int (op_powN (a := 2) (n := 32) (k := 2) (by decide) (by decide))) Ev.int (op_subN (a := 2 ^ 32) (b := 1) (by decide))) op_xorN) op_ixorN (by (repeat first|((with_reducible refine Put.here ?_);first|rfl|assumption)|apply Put.there)) ⟨_, ?_, rfl, rfl⟩)
    (repeat first|exact Weak.nil|((with_reducible apply Weak.keep))|((with_reducible refine Weak.drop ?_ ?_);first|rfl|assumption)|((with_reducible refine Weak.val ?_ ?_);rotate_left)|((with_reducible refine Weak.own ?_ ?_);rotate_left))
    ((with_reducible_and_instances (refine rwG (hfs ..) ?_)); (with_reducible rfl))
  rintro ρ₁ g₃ ⟨rfl, rfl⟩
  (rewrite [List.length_map]; (with_reducible_and_instances (refine rwG ((show D.rows.length = 4 from rfl) ..) ?_)))
  have HW := H.words
  have ht : true = decide (D.wordsN D.files.length = lawTurned (D.fourN 4)) := by ((with_reducible_and_instances (refine rwG ((decide_eq_true HW) ..) ?_)); (with_reducible rfl))
  refine St.one (St1.ret (g₁ := g₃) (v := .bool true) hC (ht ▸ Ev.cmp (hm := by with_unfolding_all rfl) hC (Ev.name hC (p := .int (D.wordsN D.files.length : Nat)) (by (repeat first|with_reducible exact List.mem_cons_self|apply List.mem_cons_of_mem))) (F.call (hn := by rfl) L.turned (by rfl) (EvL.cons (hs := by intro _; rfl) hC (Ev.name hC (p := .int (D.fourN 4 : Nat)) (by (repeat first|with_reducible exact List.mem_cons_self|apply List.mem_cons_of_mem))) EvL.nil) (L.turnedFn _) (by lia)) op_eqN) ⟨rfl, rfl⟩)
end
end Mine.Internal
end

section
namespace Mine.Internal
open PySem PySem.Calls PyProof.Rows PySem.W

noncomputable abbrev Oct (x : List Nat) : Prop := ∀ c ∈ x, c < 256
theorem Oct.app {x y : List Nat} (h : Oct x) (h2 : Oct y) : Oct (x ++ y) := fun c hc => (List.mem_append.mp hc).elim (h c) (h2 c)
theorem Oct.nil : Oct [] := fun _ h => nomatch h
theorem Oct.getD {l : List (List Nat)} (h : ∀ x ∈ l, Oct x) (i : Nat) : Oct (l.getD i []) := by
  (with_reducible_and_instances (refine rwG ((List.getD_eq_getElem?_getD) ..) ?_))
  cases e : l[i]? with
  | none => exact Oct.nil
  | some x => exact h x (List.mem_of_getElem? e)
theorem tbl_oct (i : Nat) : tbl.getD i 0 < 256 := by
  match i with
  | 0 => decide
  | 1 => decide
  | 2 => decide
  | 3 => decide
  | 4 => decide
  | 5 => decide
  | 6 => decide
  | 7 => decide
  | n + 8 => exact (by decide : (0 : Nat) < 256)
theorem piecePlain_oct {n : Nat} {t : Bool} : Oct (piecePlain n t) := by
  unfold piecePlain
  refine Oct.app (fun c hc => by (with_reducible_and_instances (refine rwG ((List.mem_singleton.mp hc) ..) ?_)); exact tbl_oct _) ?_
  split
  · intro c hc; (with_reducible_and_instances (refine rwG ((List.mem_singleton.mp hc) ..) ?_)); lia
  · exact Oct.nil
theorem pieceW_oct {n : Nat} {q : Bool} {pl : List Nat} (h : Oct pl) : ∀ i, Oct (pieceW n q pl i)
  | 0 => Oct.nil
  | i + 1 => by
    refine (pieceW_oct h i).app (Oct.app ?_ fun c hc => ?_)
    · split
      · intro c hc; (with_reducible_and_instances (refine rwG ((List.mem_singleton.mp hc) ..) ?_)); decide
      · exact Oct.nil
    · ((with_reducible_and_instances (refine rwG ((List.mem_singleton.mp hc) ..) ?_; refine rwG ((List.getD_eq_getElem?_getD) ..) ?_)))
      cases e : pl[i]? with
      | none => exact (by decide : (0 : Nat) < 256)
      | some x => exact h x (List.mem_of_getElem? e)
theorem gapMore_oct {n : Nat} : Oct (gapMore n) := Oct.getD (by decide) _
theorem lawGap_oct {n : Nat} {q : Bool} : Oct (lawGap n q) := by
  unfold lawGap
  split
  · exact Oct.app (Oct.app (by decide) gapMore_oct) (by decide)
  · refine Oct.app (fun c hc => ?_) gapMore_oct
    (with_reducible_and_instances (refine rwG ((List.mem_singleton.mp hc) ..) ?_))
    have h : n / 16384 % 4 < 4 := Nat.mod_lt _ (by decide)
    generalize n / 16384 % 4 = j at h
    have h' : j = 0 ∨ j = 1 ∨ j = 2 ∨ j = 3 := by lia
    rcases h' with rfl | rfl | rfl | rfl <;> decide
section
variable {D : Dr}
theorem pieceAt_oct {k : Nat} : Oct (D.pieceAt k).1 ∧ Oct (D.pieceAt k).2 := ⟨piecePlain_oct, pieceW_oct piecePlain_oct _⟩
theorem pieces_oct {k : Nat} : Oct (D.pieces.getD k ([], [])).1 ∧ Oct (D.pieces.getD k ([], [])).2 := by
  by_cases h : k < D.n
  · (with_reducible_and_instances (refine rwG ((pieces_get h) ..) ?_)); exact pieceAt_oct
  · ((with_reducible_and_instances (refine rwG ((List.getD_eq_getElem?_getD) ..) ?_; refine rwG ((List.getElem?_eq_none (by rw [pieces_len]; lia)) ..) ?_))); exact ⟨Oct.nil, Oct.nil⟩
theorem gaps_oct {k : Nat} : Oct (D.gaps.getD k []) := Oct.getD (fun x hx => by
  obtain ⟨m, _, rfl⟩ := List.mem_map.mp hx
  exact lawGap_oct) _
theorem front_oct : Oct D.front := by
  unfold Dr.front
  refine Oct.app (Oct.getD (by decide) _) ?_
  split <;> decide
theorem tail_oct : Oct D.tail := by
  unfold Dr.tail
  refine Oct.getD ?_ _
  cases D.q <;> decide
theorem first_oct : Oct D.first := front_oct.app pieceAt_oct.2
theorem filesN_oct : ∀ k, ∀ f ∈ filesN D.pieces D.gaps D.first k, Oct f.1 ∧ ∀ x ∈ f.2.1, Oct x
  | 0, f, hf => by
    have e : f = (D.first, [(D.pieces.getD 0 ([], [])).1], []) := List.mem_singleton.mp hf
    (with_reducible_and_instances (refine rwG (e ..) ?_))
    exact ⟨first_oct, fun x hx => by (with_reducible_and_instances (refine rwG ((List.mem_singleton.mp hx) ..) ?_)); exact pieces_oct.1⟩
  | k + 1, f, hf => by
    obtain ⟨f', hf', hm⟩ := List.mem_flatMap.mp hf
    obtain ⟨q1, q2⟩ := filesN_oct k f' hf'
    rcases List.mem_cons.mp hm with e | hm
    · (with_reducible_and_instances (refine rwG (e ..) ?_))
      refine ⟨q1.app pieces_oct.2, fun x hx => ?_⟩
      rcases List.mem_append.mp hx with m | m
      · exact q2 x (List.dropLast_subset _ m)
      · (with_reducible_and_instances (refine rwG ((List.mem_singleton.mp m) ..) ?_))
        refine Oct.app ?_ pieces_oct.1
        by_cases h : f'.2.1 = []
        · (with_reducible_and_instances (refine rwG (h ..) ?_)); exact Oct.nil
        · exact q2 _ (last_mem h)
    · (with_reducible_and_instances (refine rwG ((List.mem_singleton.mp hm) ..) ?_))
      refine ⟨(q1.app gaps_oct).app pieces_oct.2, fun x hx => ?_⟩
      rcases List.mem_append.mp hx with m | m
      · exact q2 x m
      · (with_reducible_and_instances (refine rwG ((List.mem_singleton.mp m) ..) ?_)); exact pieces_oct.1
theorem files_oct {f : File} (hf : f ∈ D.files) : Oct f.1 ∧ ∀ x ∈ f.2.1, Oct x := filesN_oct _ f hf
end

noncomputable abbrev lawNames : List Str := ["drawn", "quoted", "front", "tail", "numbers", "pieces", "gaps", "first", "behind_all", "all_words", "body", "words", "stops", "calls", "register", "word", "place", "line", "odd", "due", "size", "gap", "moved", "row", "four", "part"]

theorem law_st {C : Cx} {g : C.G} {prog : Program} {w : World} {T : Heap → Prop} {d : Nat} {st : Stmt} {a : FA} {fReads : Addr} (hst : st = stmtAt theProg 14) (F : TopAt C prog w T d (stmtScope st)) (hz : ∀ x, ¬ C.Z x) (L : LawTop prog w T a) (hd : 7 ≤ d)
    (reads : PureAt prog w T 7 "_law_reads" fReads) (hreads : ∀ (text : List Nat) (words : List (List Nat)), text.length ≤ 16000000 → words.length ≤ 100 → FnW C.prog C.w C.T C.wd 7 (.ref fReads) g [.str text, .list (words.map .str)] (readsOut text words) g) (hD : ∀ D : Dr, D.Ok → D.Holds) (script : List Int) (hs : script.length ≤ 4096) :
    St C (lawEnv1 (.val (.list (script.map .int))) .undef .undef .undef .undef .undef .undef .undef .undef) g (stmtBody st) (fun fl _ g' => fl = .ret (.bool true) ∧ g' = g) := by
  obtain ⟨rest, hrr⟩ : ∃ r, r = (stmtBody st).drop 9 := ⟨_, rfl⟩
  obtain ⟨rest2, hr2⟩ : ∃ r, r = (stmtBody st).drop 11 := ⟨_, rfl⟩
  refine law_body1 hst hrr F hz L (by lia) script hs fun D hok => ?_
  refine law_body2 hst hrr hr2 F hz L hd D (hD D hok) (fun f hf x hx c hc => ?_) reads hreads ?_
  · have := (files_oct hf).2 x hx c hc; lia
  exact law_body3 hst hr2 F hz L (by lia) D (hD D hok)

theorem law_fn {prog : Program} {w : World} {T : Heap → Prop} {PT : Addr} {q1 q2 : Str} {st : Stmt} {f : Addr} {o : Obj} {fd : FuncData} {a : FA} {fReads : Addr} (hst : st = stmtAt theProg 14) (hT : ∀ h h' : Heap, T h → (∀ b o, b ≠ PT → h.get? b = some o → h'.get? b = some o) → T h') (Df : DefAt T st ["script"] f o fd) (L : LawTop prog w T a)
    (reads : PureAt prog w T 7 "_law_reads" fReads) (hreads : ∀ (text : List Nat) (words : List (List Nat)), text.length ≤ 16000000 → words.length ≤ 100 → FnW prog w T (tabV PT (known q1 q2)) 7 (.ref fReads) () [.str text, .list (words.map .str)] (readsOut text words) ()) (hD : ∀ D : Dr, D.Ok → D.Holds) (script : List Int) (hs : script.length ≤ 4096) :
    FnW prog w T (tabV PT (known q1 q2)) 8 (.ref f) () [.list (script.map .int)] (.bool true) () := by
  refine FnW.def' lawNames (tabV.ok _ _) (fun h h' t k => hT h h' t fun b o hb e => k b o hb e) Df rfl (by decide +kernel) (by subst hst; decide +kernel) (by decide +kernel) (by subst hst; rfl) (by subst hst; rfl) (by subst hst; rfl) fun C0 F hc hq => ?_
  have hreads' : ∀ (text : List Nat) (words : List (List Nat)), text.length ≤ 16000000 → words.length ≤ 100 → FnW (C0.withW (tabV PT (known q1 q2))).prog (C0.withW (tabV PT (known q1 q2))).w (C0.withW (tabV PT (known q1 q2))).T (C0.withW (tabV PT (known q1 q2))).wd 7 (.ref fReads) () [.str text, .list (words.map .str)] (readsOut text words) () := fun text words h1 h2 => by
    have := hreads text words h1 h2
    rw [← F.prog, ← F.w, ← F.T] at this
    exact this
  exact StP.mono (law_st hst F.top F.z L (by decide) reads hreads' hD script hs) fun fl ρ g' h => ⟨.inl h.1, h.2⟩
end Mine.Internal
end

section
namespace Mine.Internal
open PySem PySem.Calls PyProof.Rows PySem.W

noncomputable def stmtName : Stmt → Str
  | .FunctionDef n _ _ _ _ _ _ _ _ _ => n
  | _ => ""

section
variable {vw : Program} {loose : List Str} {mean : ExcName → Option Value} {mg mb : Str → Option Value} {K K' : Frag} {w : World} {prog : Program} {s₁ : Shared} {c PT : Addr} {h h' : Heap}

theorem tab_ne {a : Addr} {o : Obj} (hP : h.get? PT = some (tabObj #[])) (e : h.get? a = some o) (hn : ∀ xs, o.data ≠ .fields xs) : a ≠ PT := by
  rintro rfl; cases hP.symm.trans e; exact hn _ rfl
theorem ns_ext {a : Addr} {m : Str → Option Value} (hP : h.get? PT = some (tabObj #[])) (x : h.Ns a m) (k : Heap.ExtBut PT h h') : h'.Ns a m := by
  obtain ⟨o, es, ep, e, hd, r⟩ := x
  exact ⟨o, es, ep, k _ _ (tab_ne hP e (by (with_reducible_and_instances (refine rwG (hd ..) ?_)); exact fun _ z => by cases z)) e, hd, r⟩
theorem rec_ext {cd : Value} {q : Str} (hP : h.get? PT = some (tabObj #[])) (x : h.CodeRec cd q) (k : Heap.ExtBut PT h h') : h'.CodeRec cd q := by
  obtain ⟨c, o, vs, t, e0, e, hd, r⟩ := x
  refine ⟨c, o, vs, t, e0, k _ _ ?_ e, hd, r⟩
  rintro rfl; cases hP.symm.trans e; cases hd; simp at r
theorem lim_ext (hP : h.get? PT = some (tabObj #[])) (x : h.NoLimit) (k : Heap.ExtBut PT h h') : h'.NoLimit := let ⟨mc, a, b⟩ := x; ⟨mc, ns_ext hP a k, b⟩

theorem defAt_of {d : DefRec} {st : Stmt} {pn : List Str} (T : Top vw loose mean mg mb s₁.heap) (hd : d ∈ recsOf vw) (hP : s₁.heap.get? PT = some (tabObj #[])) (h1 : d.params = stmtArgs st) (h2 : d.body = stmtBody st) (h3 : d.scope = stmtScope st)
    (hb : ∀ (n : Str) (bd : List Stmt) (sc : Scope) (pm code doc : Value) (vals : List Value), vals.length = pn.length → bindArgs (docDef n (stmtArgs st) bd sc pm code doc) ⟨vals, []⟩ = pure (pn.zip vals)) :
    ∃ a o fd, mg d.name = some (.ref a) ∧ DefAt (Heap.ExtBut PT s₁.heap) st pn a o fd ∧ fd.qualname = d.name := by
  obtain ⟨a, o, pm, code, doc, e1, e2, e3, e4⟩ := T.fn d hd
  refine ⟨a, o, _, e1, ⟨e3, fun h k => ⟨k _ _ (tab_ne hP e2 (by (with_reducible_and_instances (refine rwG (e3 ..) ?_)); exact fun _ z => by cases z)) e2, rec_ext hP e4 k, lim_ext hP T.nolimit k⟩, ?_, ?_, rfl, rfl, rfl, ?_⟩, rfl⟩
  · show FuncBody.stmts d.body = _; ((with_reducible_and_instances (refine rwG (h2 ..) ?_)); (with_reducible rfl))
  · exact h3
  · (with_reducible_and_instances (refine rwG (h1 ..) ?_)); exact hb _ _ _ _ _ _
theorem tg_mg {x : Str} {v : Value} (T : Top vw loose mean mg mb s₁.heap) (hP : s₁.heap.get? PT = some (tabObj #[])) (hx : (x == ("__debug__" : Str)) = false) (e : mg x = some v) : TG (Heap.ExtBut PT s₁.heap) x v :=
  ⟨hx, fun h k => ⟨mg, mb, ns_ext hP T.g k, ns_ext hP T.b k, .inl e⟩⟩
theorem tg_mb {x : Str} {v : Value} (T : Top vw loose mean mg mb s₁.heap) (hP : s₁.heap.get? PT = some (tabObj #[])) (hx : (x == ("__debug__" : Str)) = false) (e : mg x = none) (hn : x ≠ "__name__") (hv : bootBuiltins x = some v) : TG (Heap.ExtBut PT s₁.heap) x v :=
  ⟨hx, fun h k => ⟨mg, mb, ns_ext hP T.g k, ns_ext hP T.b k, .inr ⟨e, by (with_reducible_and_instances (refine rwG ((T.builtins x hn) ..) ?_)); exact hv⟩⟩⟩

theorem bb_len : bootBuiltins "len" = some (.builtin "len") := by decide +kernel
theorem bb_ord : bootBuiltins "ord" = some (.builtin "ord") := by decide +kernel
theorem bb_chr : bootBuiltins "chr" = some (.builtin "chr") := by decide +kernel
theorem bb_iter : bootBuiltins "iter" = some (.builtin "iter") := by decide +kernel
theorem bb_isi : bootBuiltins "isinstance" = some (.builtin "isinstance") := by decide +kernel
theorem bb_range : bootBuiltins "range" = some (.type "range") := by decide +kernel
theorem bb_sum : bootBuiltins "sum" = some (.builtin "sum") := by decide +kernel
theorem bb_int : bootBuiltins "int" = some (.type "int") := by decide +kernel
theorem bb_bool : bootBuiltins "bool" = some (.type "bool") := by decide +kernel
end

noncomputable def MethIn (K : Frag) (st : Stmt) (pn : List Str) (f : Addr) : Prop :=
  ∃ o fd, K.lookup f = some o ∧ o.data = .func fd ∧ codeIn K fd.code fd.qualname = true ∧ fd.body = .stmts (stmtBody st) ∧ fd.scope = stmtScope st ∧ fd.closure = [] ∧ fd.globals = mainGlobals ∧ fd.builtins = builtinsNs ∧
    ∀ vals : List Value, vals.length = pn.length → bindArgs fd ⟨vals, []⟩ = pure (pn.zip vals)
theorem MethIn.def {K : Frag} {T : Heap → Prop} {st : Stmt} {pn : List Str} {f : Addr} (x : MethIn K st pn f) (hK : ∀ h, T h → K.In h) (hl : ∀ h, T h → h.NoLimit) : ∃ o fd, DefAt T st pn f o fd := by
  obtain ⟨o, fd, e1, e2, e3, e4, e5, e6, e7, e8, e9⟩ := x
  exact ⟨o, fd, e2, fun h t => ⟨hK h t _ _ e1, codeRec_of (hK h t) e3, hl h t⟩, e4, e5, e6, e7, e8, e9⟩

structure ClsIn (K : Frag) (ca : CA) : Prop where
  made : makesIn K ca.aC = true
  fi : findIn K (.ref ca.aC) "__init__" = some (some (.ref ca.fI))
  ty : typeIn K (.ref ca.fI) = some (.type "function")
  keep : keepIn K (.ref ca.aC) = true
  cls : ∀ h, K.In h → ClsB ca h
  mI : MethIn K (methAt theProg iCls 0) ["self", "fp"] ca.fI
  mR : MethIn K (methAt theProg iCls 1) ["self"] ca.fR
  mG : MethIn K (methAt theProg iCls 2) ["self"] ca.fG
  mP : MethIn K (methAt theProg iCls 3) ["self", "token"] ca.fP

noncomputable abbrev recIs (vw : Program) (i : Nat) : Prop := ∃ d ∈ recsOf vw, d.name = stmtName (stmtAt theProg i) ∧ d.params = stmtArgs (stmtAt theProg i) ∧ d.body = stmtBody (stmtAt theProg i) ∧ d.scope = stmtScope (stmtAt theProg i)

inductive DefHere (mg : Str → Option Value) (T : Heap → Prop) (st : Stmt) (pn : List Str) : Prop where
  | mk (a : Addr) (o : Obj) (fd : FuncData) : mg (stmtName st) = some (.ref a) → DefAt T st pn a o fd → fd.qualname = stmtName st → DefHere mg T st pn
noncomputable abbrev BindsAs (i : Nat) (pn : List Str) : Prop := ∀ (n : Str) (bd : List Stmt) (sc : Scope) (pm code doc : Value) (vals : List Value), vals.length = pn.length → bindArgs (docDef n (stmtArgs (stmtAt theProg i)) bd sc pm code doc) ⟨vals, []⟩ = pure (pn.zip vals)
theorem binds1 {i : Nat} {x : Str} (hb : ∀ (n : Str) (bd : List Stmt) (sc : Scope) (pm code doc : Value) (v : Value), bindArgs (docDef n (stmtArgs (stmtAt theProg i)) bd sc pm code doc) ⟨[v], []⟩ = pure [(x, v)]) : BindsAs i [x] := fun n bd sc pm code doc vals hv => by
  obtain ⟨v, rfl⟩ := List.length_eq_one_iff.mp hv
  exact hb n bd sc pm code doc v
theorem binds2 {i : Nat} {x y : Str} (hb : ∀ (n : Str) (bd : List Stmt) (sc : Scope) (pm code doc : Value) (v u : Value), bindArgs (docDef n (stmtArgs (stmtAt theProg i)) bd sc pm code doc) ⟨[v, u], []⟩ = pure [(x, v), (y, u)]) : BindsAs i [x, y] := fun n bd sc pm code doc vals hv => by
  obtain ⟨v, u, rfl⟩ := len_two hv
  exact hb n bd sc pm code doc v u
theorem binds3 {i : Nat} {x y z : Str} (hb : ∀ (n : Str) (bd : List Stmt) (sc : Scope) (pm code doc : Value) (v u t : Value), bindArgs (docDef n (stmtArgs (stmtAt theProg i)) bd sc pm code doc) ⟨[v, u, t], []⟩ = pure [(x, v), (y, u), (z, t)]) : BindsAs i [x, y, z] := fun n bd sc pm code doc vals hv => by
  obtain ⟨v, u, t, rfl⟩ := len_three hv
  exact hb n bd sc pm code doc v u t
theorem defHere {vw : Program} {loose : List Str} {mean : ExcName → Option Value} {mg mb : Str → Option Value} {s₁ : Shared} {PT : Addr} (T : Top vw loose mean mg mb s₁.heap) (hP : s₁.heap.get? PT = some (tabObj #[])) (i : Nat) (pn : List Str) (r : recIs vw i) (hb : BindsAs i pn) : DefHere mg (Heap.ExtBut PT s₁.heap) (stmtAt theProg i) pn := by
  obtain ⟨d, hd, e1, e2, e3, e4⟩ := r
  obtain ⟨a, o, fd, h1, h2, h3⟩ := defAt_of T hd hP e2 e3 e4 hb
  rw [e1] at h1 h3
  exact ⟨a, o, fd, h1, h2, h3⟩

theorem final01 {vw : Program} {loose : List Str} {mean : ExcName → Option Value} {mg mb : Str → Option Value} {K K' : Frag} {w : World} {prog : Program} {s₁ : Shared} {ca : CA} {c PT argA fLaw : Addr} {ns : List Int} {vs : List Value}
    (T : Top vw loose mean mg mb s₁.heap) (KX : K.In s₁.heap) (hK' : ∀ a o, K'.lookup a = some o → K.lookup a = some o ∧ a ≠ PT) (hC : CodeHd s₁.heap c PT) (hP : s₁.heap.get? PT = some (tabObj #[]))
    (r3 : recIs vw 3) (r5 : recIs vw 5) (r6 : recIs vw 6) (r7 : recIs vw 7) (r8 : recIs vw 8) (r9 : recIs vw 9) (r10 : recIs vw 10) (r11 : recIs vw 11) (r12 : recIs vw 12) (r13 : recIs vw 13) (r14 : recIs vw 14)
    (hcode : ∀ fa o fd, mg "_law_reads" = some (.ref fa) → s₁.heap.get? fa = some o → o.data = .func fd → fd.code = .ref c)
    (hbi : ∀ x ∈ (["len", "ord", "chr", "iter", "isinstance", "range", "sum", "int", "bool"] : List Str), mg x = none) (hcls : mg "_netrclex" = some (.ref ca.aC)) (CI : ClsIn K' ca) (hlaw : mg "law" = some (.ref fLaw))
    (hl : s₁.heap.PlainList argA vs.toArray) (hr : IntsAre vs ns) (hlen : ns.length ≤ 63) (hD : ∀ D : Dr, D.Ok → D.Holds) :
    wpAny (model prog w) callerA (call (.ref fLaw) [.ref argA]) (fun v s' => v = .bool true ∧ s'.gens = s₁.gens ∧ s'.os = s₁.os ∧ (∀ a o, a ≠ PT → s₁.heap.get? a = some o → s'.heap.get? a = some o) ∧ ∃ ps, s'.heap.get? PT = some (tabObj ps)) NoE s₁ := by
  have tm : ∀ h h' : Heap, Heap.ExtBut PT s₁.heap h → (∀ b o, b ≠ PT → h.get? b = some o → h'.get? b = some o) → Heap.ExtBut PT s₁.heap h' := fun h h' k q b o hb e => q b o hb (k b o hb e)
  have tmA : ∀ h h' : Heap, Heap.ExtBut PT s₁.heap h → (∀ b o, h.get? b = some o → h'.get? b = some o) → Heap.ExtBut PT s₁.heap h' := fun h h' k q b o hb e => q b o (k b o hb e)
  have T0 : Heap.ExtBut PT s₁.heap s₁.heap := fun b o _ e => e
  have hlim : ∀ h, Heap.ExtBut PT s₁.heap h → h.NoLimit := fun h k => lim_ext hP T.nolimit k
  have hKK : ∀ h, Heap.ExtBut PT s₁.heap h → K'.In h := fun h k a o e => k a o (hK' a o e).2 (KX a o (hK' a o e).1)
  have bi : ∀ x v, x ∈ (["len", "ord", "chr", "iter", "isinstance", "range", "sum", "int", "bool"] : List Str) → (x == ("__debug__" : Str)) = false → x ≠ "__name__" → bootBuiltins x = some v → TG (Heap.ExtBut PT s₁.heap) x v := fun x v hx h1 h2 h3 => tg_mb T hP h1 (hbi x hx) h2 h3
  have gLen := bi "len" _ (by decide) (by decide) (by decide) bb_len
  have gOrd := bi "ord" _ (by decide) (by decide) (by decide) bb_ord
  have gChr := bi "chr" _ (by decide) (by decide) (by decide) bb_chr
  have gIter := bi "iter" _ (by decide) (by decide) (by decide) bb_iter
  have gIsi := bi "isinstance" _ (by decide) (by decide) (by decide) bb_isi
  have gRange := bi "range" _ (by decide) (by decide) (by decide) bb_range
  have gSum := bi "sum" _ (by decide) (by decide) (by decide) bb_sum
  have gInt := bi "int" _ (by decide) (by decide) (by decide) bb_int
  have gBool := bi "bool" _ (by decide) (by decide) (by decide) bb_bool
  obtain ⟨fCrc, oCrc, dCrc, mCrc, DCrc, _⟩ := defHere T hP 3 ["crc"] r3 (binds1 fun _ _ _ _ _ _ _ => rfl)
  obtain ⟨fPiece, oPiece, dPiece, mPiece, DPiece, _⟩ := defHere T hP 5 ["number", "quoted", "two"] r5 (binds3 fun _ _ _ _ _ _ _ _ _ => rfl)
  obtain ⟨fGap, oGap, dGap, mGap, DGap, _⟩ := defHere T hP 6 ["number", "quoted"] r6 (binds2 fun _ _ _ _ _ _ _ _ => rfl)
  obtain ⟨fFiles, oFiles, dFiles, mFiles, DFiles, _⟩ := defHere T hP 7 ["first", "pieces", "gaps"] r7 (binds3 fun _ _ _ _ _ _ _ _ _ => rfl)
  obtain ⟨fRun, oRun, dRun, mRun, DRun, _⟩ := defHere T hP 8 ["register", "text"] r8 (binds2 fun _ _ _ _ _ _ _ _ => rfl)
  obtain ⟨fReads, oReads, dReads, mReads, DReads, _⟩ := defHere T hP 9 ["text", "words"] r9 (binds2 fun _ _ _ _ _ _ _ _ => rfl)
  obtain ⟨fDue, oDue, dDue, mDue, DDue, _⟩ := defHere T hP 10 ["text", "words", "stops"] r10 (binds3 fun _ _ _ _ _ _ _ _ _ => rfl)
  obtain ⟨fRest, oRest, dRest, mRest, DRest, _⟩ := defHere T hP 11 ["number", "size"] r11 (binds2 fun _ _ _ _ _ _ _ _ => rfl)
  obtain ⟨fFront, oFront, dFront, mFront, DFront, _⟩ := defHere T hP 12 ["text"] r12 (binds1 fun _ _ _ _ _ _ _ => rfl)
  obtain ⟨fTurned, oTurned, dTurned, mTurned, DTurned, _⟩ := defHere T hP 13 ["register"] r13 (binds1 fun _ _ _ _ _ _ _ => rfl)
  obtain ⟨fL, oL, dL, mL, DL, _⟩ := defHere T hP 14 ["script"] r14 (binds1 fun _ _ _ _ _ _ _ => rfl)
  have pure' : ∀ {d : Nat} {x : Str} {f : Addr} {o : Obj} {fd : FuncData} {st : Stmt} {pn : List Str}, (x == ("__debug__" : Str)) = false → mg x = some (.ref f) → DefAt (Heap.ExtBut PT s₁.heap) st pn f o fd → PureAt prog w (Heap.ExtBut PT s₁.heap) d x f := fun h1 h2 D => ⟨tg_mg T hP h1 h2, _, _, D.data, fun h k => (D.at' h k).1⟩
  have pCrc : PureAt prog w (Heap.ExtBut PT s₁.heap) 1 "_gen_crc" fCrc := pure' (by decide) mCrc DCrc
  have fnCrc : ∀ r : Nat, Fn prog w (Heap.ExtBut PT s₁.heap) 1 (.ref fCrc) [.int r] (.int (genCrc r)) := crc_fn tmA DCrc gRange
  have pRun : PureAt prog w (Heap.ExtBut PT s₁.heap) 2 "_law_run" fRun := pure' (by decide) mRun DRun
  have fnRun : ∀ (r : Nat) (x : List Nat), Fn prog w (Heap.ExtBut PT s₁.heap) 2 (.ref fRun) [.int r, .str x] (.int ((x.foldl crcOf r : Nat) : Int)) := fun r x => run_fn tmA rfl DRun gOrd pCrc fnCrc r x
  have pRest : PureAt prog w (Heap.ExtBut PT s₁.heap) 1 "_law_rest" fRest := pure' (by decide) mRest DRest
  have fnRest : ∀ n s : Nat, 1 ≤ s → s ≤ 100000 → Fn prog w (Heap.ExtBut PT s₁.heap) 1 (.ref fRest) [.int n, .int s] (.int (lawRest n s : Nat)) := fun n s h0 h1 => rest_fn tmA rfl DRest gRange n s h0 h1
  have L : LawTop prog w (Heap.ExtBut PT s₁.heap) ⟨fCrc, fPiece, fGap, fFiles, fRun, fDue, fRest, fFront, fTurned⟩ := {
    len := gLen
    range := gRange
    sum := gSum
    isi := gIsi
    int := gInt
    bool := gBool
    piece := pure' (by decide) mPiece DPiece
    pieceFn := fun n q t => piece_fn tmA rfl DPiece gRange gLen gChr n q t
    gap := pure' (by decide) mGap DGap
    gapFn := fun n q => gap_fn tmA rfl DGap n q
    files := pure' (by decide) mFiles DFiles
    filesFn := fun h => files_fn tmA rfl DFiles gRange gLen h
    run := pRun
    runFn := fnRun
    due := pure' (by decide) mDue DDue
    dueFn := fun h1 h2 h3 h4 h5 => due_fn tmA rfl DDue gRange gLen h1 h2 h3 h4 h5
    rest := pRest
    restFn := fnRest
    front := pure' (by decide) mFront DFront
    frontFn := fun h => front_fn tmA rfl DFront gRange gLen gOrd gSum pRest fnRest h
    turned := pure' (by decide) mTurned DTurned
    turnedFn := fun r => turned_fn tmA rfl DTurned gRange gSum r }
  have LT : LexTop prog w (Heap.ExtBut PT s₁.heap) ca K' fRun := {
    hK := hKK
    made := CI.made
    fi := CI.fi
    ty := CI.ty
    keep := CI.keep
    cls := fun h k => CI.cls h (hKK h k)
    dI := CI.mI.def hKK hlim
    dR := CI.mR.def hKK hlim
    dG := CI.mG.def hKK hlim
    dP := CI.mP.def hKK hlim
    cg := tg_mg T hP (by decide) hcls
    iter := gIter
    len := gLen
    range := gRange
    run := pRun
    runFn := fun r x _ => fnRun r x
    lim := hlim }
  have hcd : dReads.code = .ref c := hcode _ _ _ mReads (DReads.at' _ T0).1 DReads.data
  obtain ⟨bm, ob, b1, b2, b3, b4, b5, b6⟩ := T.bmain
  have hgP : mainGlobals ≠ PT := by
    obtain ⟨o, es, ep, e, hd, _⟩ := T.g
    exact tab_ne hP e (by (with_reducible_and_instances (refine rwG (hd ..) ?_)); exact fun _ z => by cases z)
  have htop : ∀ h, Heap.ExtBut PT s₁.heap h → ∃ mg, h.Ns mainGlobals mg ∧ CodeHd h c PT ∧ mainGlobals ≠ PT ∧ h.BuiltinsAt mg PT := fun h k => by
    refine ⟨mg, ns_ext hP T.g k, ?_, hgP, ⟨bm, ob, b1, b2, ?_, ?_, k _ _ (tab_ne hP b3 (by (with_reducible_and_instances (refine rwG (b6 ..) ?_)); exact fun _ z => by cases z)) b3, b4, b5, b6⟩⟩
    · obtain ⟨o, vs, file, tf, flags, tg, inF, text, tt, e1, r⟩ := hC
      refine ⟨o, vs, file, tf, flags, tg, inF, text, tt, k _ _ ?_ e1, r⟩
      exact r.2.2.2.2.2.2.2.2
    · obtain ⟨o, es, ep, e, hd, _⟩ := T.g
      rintro rfl
      cases b3.symm.trans e; cases b6.symm.trans hd
    · exact tab_ne hP b3 (by (with_reducible_and_instances (refine rwG (b6 ..) ?_)); exact fun _ z => by cases z)
  have hreads : ∀ (text : List Nat) (words : List (List Nat)), text.length ≤ 16000000 → words.length ≤ 100 → FnW prog w (Heap.ExtBut PT s₁.heap) (tabV PT (known (dReads.qualname ++ ".<locals>." ++ "read") (dReads.qualname ++ ".<locals>." ++ "<lambda>"))) 7 (.ref fReads) () [.str text, .list (words.map .str)] (readsOut text words) () := fun text words h1 h2 =>
    reads_fn LT tm rfl DReads hcd htop h1 h2 rfl rfl
  have hlawfn := law_fn rfl tm DL L (pure' (by decide) mReads DReads) hreads hD ns (by lia)
  have efL : fL = fLaw := by
    have e : mg (stmtName (stmtAt theProg 14)) = some (.ref fLaw) := hlaw
    cases e.symm.trans mL; rfl
  subst efL
  obtain ⟨n, e1⟩ := hl
  have hargP : argA ≠ PT := tab_ne hP e1 (fun _ z => by cases z)
  have hR : Room 8 callerA := ⟨rfl, by decide, by decide⟩
  have hreps : Reps (fun a => a = PT) s₁.heap [.ref argA] [.list (ns.map .int)] := by
    refine .cons (.list (vs := vs.toArray) hargP ⟨n, e1⟩ ?_) .nil
    show Reps _ _ vs _
    clear hargP e1 hlen hlawfn
    induction hr with
    | nil => exact .nil
    | cons _ _ _ ih => exact .cons (.int _ _) ih
  refine wpAny_mono (hlawfn.wp callerA (fun a => a = PT) s₁ [.ref argA] hR T0 (fun a e z => by rw [z, hP] at e; cases e) (fun a m => m) ⟨#[], hP, trivial, fun x _ v hv => by cases hv⟩ hreps) (fun v s' ⟨q1, q2, q3, q4⟩ => ?_) fun _ _ x => x
  cases q1
  obtain ⟨ps, e, _⟩ := q4
  exact ⟨rfl, q2.1, q2.2.2, fun a o ha e => q3 a o ha e, ps, e⟩
end Mine.Internal
end

section
namespace Mine.Internal
open PySem PySem.Calls PyProof.Rows PySem.W

noncomputable def objOf (K : Frag) (a : Addr) : Obj := (K.lookup a).getD default
noncomputable def funcOf (K : Frag) (f : Addr) : FuncData := match K.lookup f with
  | some ⟨_, _, .func fd, _⟩ => fd
  | _ => default
noncomputable def dictArr (K : Frag) (a : Addr) : Array DictEntry := match K.lookup a with
  | some ⟨_, _, .dict es _, _⟩ => es
  | _ => #[]
noncomputable def dictEp (K : Frag) (a : Addr) : Nat := match K.lookup a with
  | some ⟨_, _, .dict _ n, _⟩ => n
  | _ => 0
noncomputable def keysOk (es : Array DictEntry) : Bool := es.toList.all fun e => match e.key with
  | .str _ _ => true
  | _ => false
noncomputable def slotOf (K : Frag) (a : Addr) (i : Nat) : Option Value := ((objOf K a).slots.toList[i]?).join

theorem MethIn.of {K : Frag} {st : Stmt} {pn : List Str} {f : Addr} (e1 : K.lookup f = some (objOf K f)) (e2 : (objOf K f).data = .func (funcOf K f)) (e3 : codeIn K (funcOf K f).code (funcOf K f).qualname = true) (e4 : (funcOf K f).body = .stmts (stmtBody st)) (e5 : (funcOf K f).scope = stmtScope st)
    (e6 : (funcOf K f).closure = []) (e7 : (funcOf K f).globals = mainGlobals) (e8 : (funcOf K f).builtins = builtinsNs) (e9 : ∀ vals : List Value, vals.length = pn.length → bindArgs (funcOf K f) ⟨vals, []⟩ = pure (pn.zip vals)) : MethIn K st pn f :=
  ⟨_, _, e1, e2, e3, e4, e5, e6, e7, e8, e9⟩
theorem MethIn.of1 {K : Frag} {st : Stmt} {x : Str} {f : Addr} (e1 : K.lookup f = some (objOf K f)) (e2 : (objOf K f).data = .func (funcOf K f)) (e3 : codeIn K (funcOf K f).code (funcOf K f).qualname = true) (e4 : (funcOf K f).body = .stmts (stmtBody st)) (e5 : (funcOf K f).scope = stmtScope st)
    (e6 : (funcOf K f).closure = []) (e7 : (funcOf K f).globals = mainGlobals) (e8 : (funcOf K f).builtins = builtinsNs) (e9 : ∀ a : Value, bindArgs (funcOf K f) ⟨[a], []⟩ = pure [(x, a)]) : MethIn K st [x] f :=
  .of e1 e2 e3 e4 e5 e6 e7 e8 fun vals hv => by obtain ⟨a, rfl⟩ := List.length_eq_one_iff.mp hv; exact e9 a
theorem MethIn.of2 {K : Frag} {st : Stmt} {x y : Str} {f : Addr} (e1 : K.lookup f = some (objOf K f)) (e2 : (objOf K f).data = .func (funcOf K f)) (e3 : codeIn K (funcOf K f).code (funcOf K f).qualname = true) (e4 : (funcOf K f).body = .stmts (stmtBody st)) (e5 : (funcOf K f).scope = stmtScope st)
    (e6 : (funcOf K f).closure = []) (e7 : (funcOf K f).globals = mainGlobals) (e8 : (funcOf K f).builtins = builtinsNs) (e9 : ∀ a b : Value, bindArgs (funcOf K f) ⟨[a, b], []⟩ = pure [(x, a), (y, b)]) : MethIn K st [x, y] f :=
  .of e1 e2 e3 e4 e5 e6 e7 e8 fun vals hv => by obtain ⟨a, b, rfl⟩ := len_two hv; exact e9 a b
theorem keys_of {es : Array DictEntry} (h : keysOk es = true) : StrKeys es := fun e he => by
  have := List.all_eq_true.mp h e (Array.mem_toList_iff.mpr he)
  split at this
  · rename_i n t hk; exact ⟨n, t, hk⟩
  · cases this
theorem clsB_of {K : Frag} {ca : CA} {nm q : Str} {bs : List Value} {sn : List Str} {sub : List Value} {ab : Bool} {col : Option Bool} {dd : Option Addr} {newId : String}
    (e1 : K.lookup ca.aC = some (excClassObj nm q ca.aC ca.aN bs [.type "object"] true sn sub ab col dd (slotOf K ca.aC 0) (slotOf K ca.aC 1) (slotOf K ca.aC 2) (slotOf K ca.aC 3) (slotOf K ca.aC 5) newId)) (e2 : K.lookup ca.aN = some (objOf K ca.aN)) (e3 : (objOf K ca.aN).data = .dict (dictArr K ca.aN) (dictEp K ca.aN)) (e4 : keysOk (dictArr K ca.aN) = true)
    (f1 : nsFind (dictArr K ca.aN) "__getattribute__" = none) (f2 : nsFind (dictArr K ca.aN) "__getattr__" = none) (f3 : nsFind (dictArr K ca.aN) "__setattr__" = none) (f4 : nsFind (dictArr K ca.aN) "lineno" = none) (f5 : nsFind (dictArr K ca.aN) "instream" = none) (f6 : nsFind (dictArr K ca.aN) "whitespace" = none) (f7 : nsFind (dictArr K ca.aN) "pushback" = none)
    (f8 : nsFind (dictArr K ca.aN) "_read_char" = some (.ref ca.fR)) (f9 : nsFind (dictArr K ca.aN) "get_token" = some (.ref ca.fG)) (f10 : nsFind (dictArr K ca.aN) "push_token" = some (.ref ca.fP))
    (g1 : K.lookup ca.fR = some (objOf K ca.fR)) (g2 : (objOf K ca.fR).cls = .type "function") (g3 : K.lookup ca.fG = some (objOf K ca.fG)) (g4 : (objOf K ca.fG).cls = .type "function") (g5 : K.lookup ca.fP = some (objOf K ca.fP)) (g6 : (objOf K ca.fP).cls = .type "function") :
    ∀ h, K.In h → ClsB ca h := fun h X =>
  ⟨nm, q, bs, sn, sub, ab, col, dd, _, _, _, _, _, newId, nsFind (dictArr K ca.aN), _, _, _, X _ _ e1, ⟨_, _, _, X _ _ e2, e3, keys_of e4, fun _ => rfl⟩, f1, f2, f3, f4, f5, f6, f7, f8, f9, f10, X _ _ g1, g2, X _ _ g3, g4, X _ _ g5, g6⟩

theorem lookup_filter {K : Frag} {PT : Addr} : ∀ a o, (K.filter fun p => p.1 != PT).lookup a = some o → K.lookup a = some o ∧ a ≠ PT := by
  induction K with
  | nil => intro a o h; cases h
  | cons p K ih =>
    intro a o h
    rw [List.filter_cons] at h
    by_cases hp : p.1 = PT
    · rw [if_neg (by simp [hp])] at h
      obtain ⟨h1, h2⟩ := ih a o h
      refine ⟨?_, h2⟩
      (with_reducible_and_instances (refine rwG (List.lookup_cons ..) ?_))
      have : (a == p.1) = false := by (with_reducible_and_instances (refine rwG (hp ..) ?_)); simpa using h2
      (with_reducible_and_instances (refine rwG (this ..) ?_)); exact h1
    · rw [if_pos (by simpa using hp)] at h
      rw [List.lookup_cons] at h ⊢
      cases ha : a == p.1 with
      | true =>
        rw [ha] at h
        refine ⟨h, ?_⟩
        (with_reducible_and_instances (refine rwG ((eq_of_beq ha) ..) ?_)); exact hp
      | false =>
        rw [ha] at h
        exact ih a o h

theorem script_plain {R : WRecords} {w : World} {s₀ s₁ : Shared} {ns : List Int} {a : Addr} {as : List Addr} (L : Laid R w s₀ s₁ [ofPy (PyData.list (ns.map PyData.int))] [.ref a] as) : ∃ vs, s₁.heap.PlainList a vs := by
  obtain ⟨ord, _, e⟩ := L.laid
  simp only [ofPy, layAllW, layW] at e
  cases q : layAllW R (classAt s₀.heap) w.params ord (ofPys (List.map PyData.int ns)) s₀ with
  | none => rw [q] at e; cases e
  | some r =>
    rw [q] at e
    simp only [Option.some.injEq, Prod.mk.injEq, List.cons.injEq, Value.ref.injEq] at e
    obtain ⟨⟨ea, _⟩, es⟩ := e
    ((with_reducible_and_instances (refine rwL (es ..) ?_; refine rwL (ea ..) ?_)))
    exact ⟨_, 0, Heap.get?_push_size _ rfl⟩
theorem plain_of_list {h : Heap} {a : Addr} {xs ys : Array Value} (p : h.PlainList a xs) (l : h.IsList a ys) : h.PlainList a ys := by
  obtain ⟨n, e⟩ := p
  obtain ⟨o, e', c, m, d⟩ := l
  cases e.symm.trans e'
  cases d
  exact ⟨n, e⟩

noncomputable def recD (i : Nat) (pos : Pos) : DefRec := ⟨stmtName (stmtAt theProg i), stmtArgs (stmtAt theProg i), stmtBody (stmtAt theProg i), stmtScope (stmtAt theProg i), pos⟩
noncomputable def stmtPos : Stmt → Pos
  | .FunctionDef _ _ _ _ _ _ _ _ _ p => p
  | _ => ⟨0, 0, 0, 0⟩
theorem recIs.of {vw : Program} {i j : Nat} (e : (recsOf vw)[j]? = some (recD i (stmtPos (stmtAt theProg i)))) : recIs vw i := ⟨_, List.mem_of_getElem? e, rfl, rfl, rfl, rfl⟩
end Mine.Internal
end

section
namespace Mine.Internal

theorem adv_seg {text : List Nat} {crc : Nat → Nat → Nat} : ∀ (x y : List Nat) (l : LG), text.drop l.pos = x ++ y → adv text crc x.length l = { l with pos := l.pos + x.length, reg := x.foldl crc l.reg, line := l.line + (x.filter (· == 10)).length }
  | [], y, l, h => rfl
  | c :: x, y, l, h => by
    obtain ⟨h1, h2, h3⟩ := drop_cons (crc := crc) (r := x ++ y) h
    have e : nxt text crc l = { l with pos := l.pos + 1, reg := crc l.reg c, line := if c = 10 then l.line + 1 else l.line } := by unfold nxt; ((with_reducible_and_instances (refine rwG (h1 ..) ?_)); (with_reducible rfl))
    ((with_reducible_and_instances (refine rwG (List.length_cons ..) ?_; refine rwG (adv_succ ..) ?_; refine rwG ((adv_seg x y _ h2) ..) ?_; refine rwG (e ..) ?_)))
    (with_reducible_and_instances (refine rwG (List.filter_cons ..) ?_))
    by_cases hc : c = 10
    · subst hc
      simp; lia
    · simp [hc]; lia

noncomputable def upP (P : List (List Nat)) (i : Nat) : List Nat := (P.take i).flatten
noncomputable def stP (P : List (List Nat)) (i : Nat) : LG := ⟨(upP P i).length, (upP P i).foldl crcOf ones, 1 + ((upP P i).filter (· == 10)).length, []⟩
structure Cut (text : List Nat) (words : List (List Nat)) (P : List (List Nat)) : Prop where
  text : text = P.flatten
  len : P.length = words.length + 1
  ne : 0 < words.length
  tok : ∀ i, i < P.length → lexTok (P.drop i).flatten = ((words ++ [[]]).getD i [], (P.getD i []).length)
section
variable {text : List Nat} {words P : List (List Nat)} {stops : List Nat}
theorem upP_succ {i : Nat} (h : i < P.length) : upP P (i + 1) = upP P i ++ P.getD i [] := by
  unfold upP
  ((with_reducible_and_instances (refine rwG (List.take_add_one ..) ?_; refine rwG ((getD_some (d := []) h) ..) ?_; refine rwG (List.flatten_append ..) ?_)))
  simp
theorem drop_up {i : Nat} : P.flatten.drop (upP P i).length = (P.drop i).flatten := by
  have e : P.flatten = upP P i ++ (P.drop i).flatten := by
    unfold upP
    ((with_reducible_and_instances (refine rwL (List.flatten_append ..) ?_)); rewrite [List.take_append_drop]; (with_reducible rfl))
  conv => lhs; rw [e]
  ((with_reducible_and_instances (refine rwG (List.drop_left ..) ?_)); (with_reducible rfl))
theorem take_up {i : Nat} : P.flatten.take (upP P i).length = upP P i := by
  have e : P.flatten = upP P i ++ (P.drop i).flatten := by
    unfold upP
    ((with_reducible_and_instances (refine rwL (List.flatten_append ..) ?_)); rewrite [List.take_append_drop]; (with_reducible rfl))
  conv => lhs; rw [e]
  ((with_reducible_and_instances (refine rwG (List.take_left ..) ?_)); (with_reducible rfl))
theorem cut_step (h : Cut text words P) {i : Nat} (hi : i < P.length) : tokAt text (stP P i) = (words ++ [[]]).getD i [] ∧ lexAt text (stP P i) = stP P (i + 1) := by
  have hd : text.drop (stP P i).pos = (P.drop i).flatten := by (with_reducible_and_instances (refine rwG (h.text ..) ?_)); exact drop_up
  have ht := h.tok i hi
  have he : (P.drop i).flatten = P.getD i [] ++ (P.drop (i + 1)).flatten := by
    ((with_reducible_and_instances (refine rwG ((List.drop_eq_getElem_cons hi) ..) ?_; refine rwG (List.flatten_cons ..) ?_; refine rwG ((List.getD_eq_getElem?_getD) ..) ?_; refine rwG ((List.getElem?_eq_getElem hi) ..) ?_))); rfl
  refine ⟨by unfold tokAt; ((with_reducible_and_instances (refine rwG (hd ..) ?_; refine rwG (ht ..) ?_)); (with_reducible rfl)), ?_⟩
  unfold lexAt
  ((with_reducible_and_instances (refine rwG (hd ..) ?_; refine rwG (ht ..) ?_)))
  show adv text crcOf (P.getD i []).length (stP P i) = _
  (with_reducible_and_instances (refine rwG ((adv_seg (P.getD i []) _ _ (hd.trans he)) ..) ?_))
  unfold stP
  ((with_reducible_and_instances (refine rwG ((upP_succ hi) ..) ?_; refine rwG (List.length_append ..) ?_; refine rwG (List.foldl_append ..) ?_)); rewrite [List.filter_append]; (with_reducible_and_instances (refine rwG (List.length_append ..) ?_)))
  simp only [LG.mk.injEq, and_true, true_and]
  lia
theorem cut_end (h : Cut text words P) : tokAt text (stP P (words.length + 1)) = [] ∧ lexAt text (stP P (words.length + 1)) = stP P (words.length + 1) := by
  have hd : text.drop (stP P (words.length + 1)).pos = [] := by
    (with_reducible_and_instances (refine rwG (h.text ..) ?_))
    refine drop_up.trans ?_
    ((with_reducible_and_instances (refine rwL (h.len ..) ?_; refine rwG (List.drop_length ..) ?_))); rfl
  have e0 : lexTok [] = ([], 0) := rfl
  refine ⟨by unfold tokAt; ((with_reducible_and_instances (refine rwG (hd ..) ?_; refine rwG (e0 ..) ?_)); (with_reducible rfl)), ?_⟩
  unfold lexAt
  ((with_reducible_and_instances (refine rwG (hd ..) ?_; refine rwG (e0 ..) ?_)))
  generalize stP P (words.length + 1) = l
  rfl
theorem up_all (h : Cut text words P) : upP P (words.length + 1) = text := by unfold upP; ((with_reducible_and_instances (refine rwL (h.len ..) ?_; refine rwG (List.take_length ..) ?_; refine rwG (h.text ..) ?_)); (with_reducible rfl))
theorem tok_word (h : Cut text words P) {i : Nat} (hi : i < words.length) : (words ++ [[]]).getD i [] = words.getD i [] := by
  ((with_reducible_and_instances (refine rwG ((List.getD_eq_getElem?_getD) ..) ?_; refine rwG ((List.getElem?_append_left hi) ..) ?_; refine rwL ((List.getD_eq_getElem?_getD) ..) ?_)); (with_reducible rfl))
theorem tok_none : (words ++ [[]]).getD words.length [] = [] := by
  ((with_reducible_and_instances (refine rwG ((List.getD_eq_getElem?_getD) ..) ?_; refine rwG ((List.getElem?_append_right (Nat.le_refl _)) ..) ?_)); rewrite [Nat.sub_self]); rfl
theorem step_nil {l : LG} (h : l.push = []) : stepTok text l = (tokAt text l, lexAt text l) := by unfold stepTok; ((with_reducible_and_instances (refine rwG (h ..) ?_)); (with_reducible rfl))
theorem step_cons {l : LG} {x : List Nat} {xs : List (List Nat)} (h : l.push = x :: xs) : stepTok text l = (x, { l with push := xs }) := by unfold stepTok; ((with_reducible_and_instances (refine rwG (h ..) ?_)); (with_reducible rfl))
theorem take_one (h : 0 < words.length) : words.take 1 = [words.getD 0 []] := by
  cases words with
  | nil => exact absurd h (Nat.lt_irrefl _)
  | cons a r => rfl
theorem reads_one (h : Cut text words P) : readsL text words 1 = { stP P 1 with push := [words.getD 0 []] } := by
  have hs := (cut_step h (i := 0) (by (with_reducible_and_instances (refine rwG (h.len ..) ?_)); lia)).2
  have e0 : readsL text words 0 = stP P 0 := rfl
  have ep : (stP P 0).push = [] := rfl
  show ({ (stepTok text (readsL text words 0)).2 with push := (stepTok text (readsL text words 0)).2.push ++ pushes words 0 } : LG) = _
  ((with_reducible_and_instances (refine rwG (e0 ..) ?_; refine rwG ((step_nil ep) ..) ?_; refine rwG (hs ..) ?_)))
  have : pushes words 0 = [words.getD 0 []] := by unfold pushes; ((with_reducible_and_instances (refine rwG ((if_pos rfl) ..) ?_; refine rwG ((take_one h.ne) ..) ?_)); (with_reducible rfl))
  (with_reducible_and_instances (refine rwG (this ..) ?_)); rfl
theorem pushes_none {t : Nat} (h0 : t ≠ 0) (h1 : t ≠ words.length + 1) : pushes words t = [] := by unfold pushes; ((with_reducible_and_instances (refine rwG ((if_neg h0) ..) ?_; refine rwG ((if_neg h1) ..) ?_)); (with_reducible rfl))
theorem reads_mid (h : Cut text words P) : ∀ t, t < words.length → readsL text words (t + 2) = stP P (t + 1)
  | 0, _ => by
    have ep : (readsL text words 1).push = [words.getD 0 []] := by ((with_reducible_and_instances (refine rwG ((reads_one h) ..) ?_)); (with_reducible rfl))
    show ({ (stepTok text (readsL text words 1)).2 with push := (stepTok text (readsL text words 1)).2.push ++ pushes words 1 } : LG) = _
    ((with_reducible_and_instances (refine rwG ((step_cons ep) ..) ?_; refine rwG ((pushes_none (by decide) (by have := h.ne; lia)) ..) ?_; refine rwG ((reads_one h) ..) ?_)))
    rfl
  | t + 1, ht => by
    have ih := reads_mid h t (by lia)
    have hs := (cut_step h (i := t + 1) (by (with_reducible_and_instances (refine rwG (h.len ..) ?_)); lia)).2
    show ({ (stepTok text (readsL text words (t + 2))).2 with push := (stepTok text (readsL text words (t + 2))).2.push ++ pushes words (t + 2) } : LG) = _
    ((with_reducible_and_instances (refine rwG (ih ..) ?_; refine rwG ((step_nil rfl) ..) ?_; refine rwG (hs ..) ?_; refine rwG ((pushes_none (by lia) (by lia)) ..) ?_)))
    rfl
theorem reads_all (h : Cut text words P) : ∀ j, j ≤ words.length → readsL text words (words.length + 2 + j) = { stP P (words.length + 1) with push := words.drop j }
  | 0, _ => by
    have hm := h.ne
    have ih : readsL text words (words.length + 1) = stP P words.length := by
      have := reads_mid h (words.length - 1) (by lia)
      rw [show words.length - 1 + 2 = words.length + 1 by lia, show words.length - 1 + 1 = words.length by lia] at this
      exact this
    have hs := (cut_step h (i := words.length) (by (with_reducible_and_instances (refine rwG (h.len ..) ?_)); lia)).2
    show ({ (stepTok text (readsL text words (words.length + 1))).2 with push := (stepTok text (readsL text words (words.length + 1))).2.push ++ pushes words (words.length + 1) } : LG) = _
    ((with_reducible_and_instances (refine rwG (ih ..) ?_; refine rwG ((step_nil rfl) ..) ?_; refine rwG (hs ..) ?_)))
    have : pushes words (words.length + 1) = words := by unfold pushes; ((with_reducible_and_instances (refine rwG ((if_neg (by lia)) ..) ?_; refine rwG ((if_pos rfl) ..) ?_)); (with_reducible rfl))
    (with_reducible_and_instances (refine rwG (this ..) ?_)); rfl
  | j + 1, hj => by
    have ih := reads_all h j (by lia)
    have ep : (readsL text words (words.length + 2 + j)).push = words[j] :: words.drop (j + 1) := by (with_reducible_and_instances (refine rwG (ih ..) ?_)); exact List.drop_eq_getElem_cons (by lia)
    show ({ (stepTok text (readsL text words (words.length + 2 + j))).2 with push := (stepTok text (readsL text words (words.length + 2 + j))).2.push ++ pushes words (words.length + 2 + j) } : LG) = _
    ((with_reducible_and_instances (refine rwG ((step_cons ep) ..) ?_; refine rwG ((pushes_none (by lia) (by lia)) ..) ?_; refine rwG (ih ..) ?_)))
    show ({ stP P (words.length + 1) with push := words.drop (j + 1) ++ [] } : LG) = _
    rw [List.append_nil]
theorem reads_last (h : Cut text words P) : (readsL text words (2 * words.length + 3)).reg = text.foldl crcOf ones := by
  have ih := reads_all h words.length (Nat.le_refl _)
  have ep : (readsL text words (words.length + 2 + words.length)).push = [] := by ((with_reducible_and_instances (refine rwG (ih ..) ?_; refine rwG (List.drop_length ..) ?_)); (with_reducible rfl))
  (with_reducible_and_instances (refine rwG ((show 2 * words.length + 3 = words.length + 2 + words.length + 1 by lia) ..) ?_))
  show (stepTok text (readsL text words (words.length + 2 + words.length))).2.reg = _
  ((with_reducible_and_instances (refine rwG ((step_nil ep) ..) ?_; refine rwG (ih ..) ?_; refine rwG (List.drop_length ..) ?_)))
  have := (cut_end h).2
  show (lexAt text (stP P (words.length + 1))).reg = _
  (with_reducible_and_instances (refine rwG (this ..) ?_))
  show (upP P (words.length + 1)).foldl crcOf ones = _
  ((with_reducible_and_instances (refine rwG ((up_all h) ..) ?_)); (with_reducible rfl))
theorem callsR_eq : ∀ n, callsR text words n = (List.range n).map fun t => ent (stepTok text (readsL text words t)).1 (stepTok text (readsL text words t)).2
  | 0 => rfl
  | n + 1 => by (rewrite [callsR]; (with_reducible_and_instances (refine rwG ((callsR_eq n) ..) ?_; refine rwG (List.range_succ ..) ?_; refine rwG (List.map_append ..) ?_))); rfl
theorem row_words (h : 0 < words.length) : dueRow words = words.getD 0 [] :: (words ++ ([] :: (words ++ [[]]))) := by
  unfold dueRow
  (with_reducible_and_instances (refine rwG ((take_one h) ..) ?_)); simp
theorem row_end {j : Nat} (h : 0 < words.length) (hj : j ≤ words.length) : (dueRow words).getD (words.length + 2 + j) [] = (words ++ [[]]).getD j [] := by
  ((with_reducible_and_instances (refine rwG ((row_words h) ..) ?_; refine rwG ((show words.length + 2 + j = (words.length + (j + 1)) + 1 by lia) ..) ?_; refine rwG (List.getD_cons_succ ..) ?_; refine rwG ((List.getD_eq_getElem?_getD) ..) ?_; refine rwG ((List.getElem?_append_right (by lia)) ..) ?_; refine rwG ((show words.length + (j + 1) - words.length = j + 1 by lia) ..) ?_; refine rwG ((List.getElem?_cons_succ) ..) ?_; refine rwL ((List.getD_eq_getElem?_getD) ..) ?_)); (with_reducible rfl))
theorem row_none (h : 0 < words.length) : (dueRow words).getD (words.length + 1) [] = [] := by
  ((with_reducible_and_instances (refine rwG ((row_words h) ..) ?_; refine rwG (List.getD_cons_succ ..) ?_; refine rwG ((List.getD_eq_getElem?_getD) ..) ?_; refine rwG ((List.getElem?_append_right (Nat.le_refl _)) ..) ?_)); rewrite [Nat.sub_self]); rfl
theorem places_words (hs : stops.length = words.length) (h : 0 < words.length) : duePlaces text words stops = stops.getD 0 0 :: (stops ++ List.replicate (words.length + 2) text.length) := by
  unfold duePlaces
  cases stops with
  | nil => rw [← hs] at h; exact absurd h (Nat.lt_irrefl _)
  | cons a r => rfl
theorem places_end (hs : stops.length = words.length) (h : 0 < words.length) {j : Nat} (hj : j < words.length + 2) : (duePlaces text words stops).getD (words.length + 1 + j) 0 = text.length := by
  ((with_reducible_and_instances (refine rwG ((places_words hs h) ..) ?_; refine rwG ((show words.length + 1 + j = (stops.length + j) + 1 by lia) ..) ?_; refine rwG (List.getD_cons_succ ..) ?_; refine rwG ((List.getD_eq_getElem?_getD) ..) ?_; refine rwG ((List.getElem?_append_right (by lia)) ..) ?_)); rewrite [Nat.add_sub_cancel_left]; (with_reducible_and_instances (refine rwG ((List.getElem?_replicate) ..) ?_; refine rwG ((if_pos hj) ..) ?_))); rfl
theorem places_mid (hs : stops.length = words.length) (h : 0 < words.length) {j : Nat} (hj : j < words.length) : (duePlaces text words stops).getD (j + 1) 0 = stops.getD j 0 := by
  ((with_reducible_and_instances (refine rwG ((places_words hs h) ..) ?_; refine rwG (List.getD_cons_succ ..) ?_; refine rwG ((List.getD_eq_getElem?_getD) ..) ?_; refine rwG ((List.getElem?_append_left (by lia)) ..) ?_; refine rwL ((List.getD_eq_getElem?_getD) ..) ?_)); (with_reducible rfl))
theorem line_up (h : Cut text words P) {i : Nat} : lineAt text (upP P i).length = (stP P i).line := by
  unfold lineAt
  ((with_reducible_and_instances (refine rwG (h.text ..) ?_; refine rwG (take_up ..) ?_))); rfl
theorem due_is (h : Cut text words P) (hs : stops.length = words.length) (hst : ∀ i, i < words.length → stops.getD i 0 = (upP P (i + 1)).length) : callsR text words (2 * words.length + 3) = lawDue text words stops := by
  have hm := h.ne
  have hup := up_all h
  have hlast : ∀ t : List Nat, ent t (stP P (words.length + 1)) = .tup [.str t, .int text.length, .int (lineAt text text.length)] := fun t => by
    have e := line_up h (i := words.length + 1)
    rw [hup] at e
    (with_reducible_and_instances (refine rwG (e ..) ?_))
    show PV.tup [.str t, .int ((upP P (words.length + 1)).length : Nat), _] = _
    ((with_reducible_and_instances (refine rwG (hup ..) ?_)); (with_reducible rfl))
  have hent : ∀ (i : Nat) (t : List Nat), i < words.length → ent t (stP P (i + 1)) = .tup [.str t, .int (stops.getD i 0 : Nat), .int (lineAt text (stops.getD i 0))] := fun i t hi => by
    ((with_reducible_and_instances (refine rwG ((hst i hi) ..) ?_; refine rwG ((line_up h) ..) ?_))); rfl
  (rewrite [callsR_eq]; rewrite [lawDue]; (with_reducible_and_instances (refine rwG ((dueRow_len hm) ..) ?_)))
  apply List.map_congr_left
  intro t ht
  have ht' : t < 2 * words.length + 3 := List.mem_range.mp ht
  have c : t = 0 ∨ t = 1 ∨ (∃ j, j + 1 < words.length ∧ t = j + 2) ∨ t = words.length + 1 ∨ ∃ j, j ≤ words.length ∧ t = words.length + 2 + j := by
    by_cases h0 : t = 0
    · exact .inl h0
    · by_cases h1 : t = 1
      · exact .inr (.inl h1)
      · by_cases h2 : t ≤ words.length
        · exact .inr (.inr (.inl ⟨t - 2, by lia, by lia⟩))
        · by_cases h3 : t = words.length + 1
          · exact .inr (.inr (.inr (.inl h3)))
          · exact .inr (.inr (.inr (.inr ⟨t - (words.length + 2), by lia, by lia⟩)))
  unfold dueAt
  rcases c with rfl | rfl | ⟨j, hj, rfl⟩ | rfl | ⟨j, hj, rfl⟩
  · have hs0 := cut_step h (i := 0) (by (with_reducible_and_instances (refine rwG (h.len ..) ?_)); lia)
    ((with_reducible_and_instances (refine rwG ((show readsL text words 0 = stP P 0 from rfl) ..) ?_; refine rwG ((step_nil rfl) ..) ?_; refine rwG (hs0.1 ..) ?_; refine rwG (hs0.2 ..) ?_; refine rwG ((tok_word h hm) ..) ?_; refine rwG ((hent 0 _ hm) ..) ?_; refine rwG ((row_words hm) ..) ?_; refine rwG ((places_words hs hm) ..) ?_)))
    rfl
  · ((with_reducible_and_instances (refine rwG ((reads_one h) ..) ?_; refine rwG ((step_cons rfl) ..) ?_; refine rwG ((show (1 : Nat) = 0 + 1 from rfl) ..) ?_; refine rwG ((dueRow_get hm) ..) ?_; refine rwG ((places_mid hs hm hm) ..) ?_)))
    exact hent 0 _ hm
  · have hs0 := cut_step h (i := j + 1) (by (with_reducible_and_instances (refine rwG (h.len ..) ?_)); lia)
    ((with_reducible_and_instances (refine rwG ((reads_mid h j (by lia)) ..) ?_; refine rwG ((step_nil rfl) ..) ?_; refine rwG (hs0.1 ..) ?_; refine rwG (hs0.2 ..) ?_; refine rwG ((tok_word h hj) ..) ?_; refine rwG ((hent (j + 1) _ hj) ..) ?_; refine rwG ((show j + 2 = (j + 1) + 1 from rfl) ..) ?_; refine rwG ((dueRow_get hj) ..) ?_; refine rwG ((places_mid hs hm hj) ..) ?_)); (with_reducible rfl))
  · have ih : readsL text words (words.length + 1) = stP P words.length := by
      have := reads_mid h (words.length - 1) (by lia)
      rw [show words.length - 1 + 2 = words.length + 1 by lia, show words.length - 1 + 1 = words.length by lia] at this
      exact this
    have hs0 := cut_step h (i := words.length) (by (with_reducible_and_instances (refine rwG (h.len ..) ?_)); lia)
    have hp := places_end (text := text) hs hm (j := 0) (by lia)
    rw [Nat.add_zero] at hp
    ((with_reducible_and_instances (refine rwG (ih ..) ?_; refine rwG ((step_nil rfl) ..) ?_; refine rwG (hs0.1 ..) ?_; refine rwG (hs0.2 ..) ?_; refine rwG (tok_none ..) ?_)); rewrite [hlast]; (with_reducible_and_instances (refine rwG ((row_none hm) ..) ?_; refine rwG (hp ..) ?_)); (with_reducible rfl))
  · have ih := reads_all h j hj
    have hp := places_end (text := text) hs hm (j := j + 1) (by lia)
    rw [show words.length + 1 + (j + 1) = words.length + 2 + j by lia] at hp
    ((with_reducible_and_instances (refine rwG (ih ..) ?_; refine rwG ((row_end hm hj) ..) ?_; refine rwG (hp ..) ?_)))
    by_cases hjl : j < words.length
    · have ep : ({ stP P (words.length + 1) with push := words.drop j } : LG).push = words[j] :: words.drop (j + 1) := List.drop_eq_getElem_cons hjl
      ((with_reducible_and_instances (refine rwG ((step_cons ep) ..) ?_; refine rwG ((tok_word h hjl) ..) ?_)); rewrite [← hlast])
      have : words.getD j [] = words[j] := by ((with_reducible_and_instances (refine rwG ((List.getD_eq_getElem?_getD) ..) ?_; refine rwG ((List.getElem?_eq_getElem hjl) ..) ?_))); rfl
      ((with_reducible_and_instances (refine rwG (this ..) ?_)); (with_reducible rfl))
    · have hj' : j = words.length := by lia
      subst hj'
      have he := cut_end h
      ((with_reducible_and_instances (refine rwG (List.drop_length ..) ?_; refine rwG ((step_nil rfl) ..) ?_; refine rwG (tok_none ..) ?_)))
      show ent (tokAt text (stP P (words.length + 1))) (lexAt text (stP P (words.length + 1))) = _
      ((with_reducible_and_instances (refine rwG (he.1 ..) ?_; refine rwG (he.2 ..) ?_)); rewrite [hlast]; (with_reducible rfl))
end
end Mine.Internal
end

section
namespace Mine.Internal

noncomputable def encP (q : Bool) (ex : Nat → Bool) : Nat → List Nat → List Nat
  | _, [] => []
  | k, c :: r => ((if needsQ q k c || ex k then [92] else []) ++ [c]) ++ encP q ex (k + 1) r
noncomputable def exOf (n : Nat) (k : Nat) : Bool := decide (n / 4096 / (k + 1) % 2 = 1)
theorem enc_piece (n : Nat) (q : Bool) (pl : List Nat) : ∀ j i, i + j = pl.length → pieceW n q pl i ++ encP q (exOf n) i (pl.drop i) = pieceW n q pl pl.length
  | 0, i, h => by
    have : i = pl.length := by lia
    subst this
    (with_reducible_and_instances (refine rwG (List.drop_length ..) ?_))
    simp [encP]
  | j + 1, i, h => by
    have hi : i < pl.length := by lia
    have e : pl.drop i = pl[i] :: pl.drop (i + 1) := List.drop_eq_getElem_cons hi
    have eg : pl.getD i 0 = pl[i] := by ((with_reducible_and_instances (refine rwG ((List.getD_eq_getElem?_getD) ..) ?_; refine rwG ((List.getElem?_eq_getElem hi) ..) ?_))); rfl
    ((with_reducible_and_instances (refine rwG (e ..) ?_)); rewrite [encP]; (with_reducible_and_instances (refine rwL (eg ..) ?_)); rewrite [← List.append_assoc])
    exact enc_piece n q pl j (i + 1) (by lia)
theorem piece_enc (n : Nat) (q : Bool) (pl : List Nat) : pieceW n q pl pl.length = encP q (exOf n) 0 pl := by
  have := enc_piece n q pl pl.length 0 (by lia)
  (with_reducible_and_instances (refine rwL (this ..) ?_)); simp [pieceW]

theorem quoteTok_esc {c : Nat} {r : List Nat} : quoteTok (92 :: c :: r) = (c :: (quoteTok r).1, (quoteTok r).2 + 2) := by simp [quoteTok]
theorem bareTok_esc {c : Nat} {r : List Nat} : bareTok (92 :: c :: r) = (c :: (bareTok r).1, (bareTok r).2 + 2) := by simp [bareTok, ws]
theorem quote_enc (a : Nat → Bool) : ∀ (w : List Nat) (k : Nat) (r : List Nat), quoteTok (encP true a k w ++ r) = (w ++ (quoteTok r).1, (encP true a k w).length + (quoteTok r).2)
  | [], k, r => by simp [encP]
  | c :: w, k, r => by
    rw [encP]
    have ih := quote_enc a w (k + 1) r
    cases hb : needsQ true k c || a k with
    | true =>
      (with_reducible_and_instances (refine rwG ((if_pos rfl) ..) ?_))
      show quoteTok (92 :: c :: (encP true a (k + 1) w ++ r)) = _
      ((with_reducible_and_instances (refine rwG (quoteTok_esc ..) ?_; refine rwG (ih ..) ?_)))
      simp; lia
    | false =>
      (with_reducible_and_instances (refine rwG ((if_neg (by decide)) ..) ?_))
      have hn : needsQ true k c = false := by
        rw [Bool.or_eq_false_iff] at hb; exact hb.1
      have hc : c ∉ [34, 92] := by simpa [needsQ] using hn
      show quoteTok (c :: (encP true a (k + 1) w ++ r)) = _
      (rewrite [quoteTok_other (by intro e; exact hc (by simp [e])) (by intro e; exact hc (by simp [e]))]; (with_reducible_and_instances (refine rwG (ih ..) ?_)))
      simp; lia
theorem bare_sign {k c : Nat} (h : needsQ false k c = false) : c ∉ ws ∧ c ≠ 92 ∧ (k = 0 → c ≠ 34) := by
  have h' : (decide (c ∈ [32, 9, 13, 10, 92]) || (decide (c = 34) && decide (k = 0))) = false := h
  simp only [Bool.or_eq_false_iff, decide_eq_false_iff_not, List.mem_cons, List.not_mem_nil, or_false, not_or] at h'
  obtain ⟨⟨h1, h2, h3, h4, h5⟩, h6⟩ := h'
  refine ⟨by simp [ws]; lia, h5, fun hk hc => ?_⟩
  rw [hk, hc] at h6
  simp at h6
theorem bare_enc (a : Nat → Bool) : ∀ (w : List Nat) (k : Nat) (r : List Nat), bareTok (encP false a k w ++ r) = (w ++ (bareTok r).1, (encP false a k w).length + (bareTok r).2)
  | [], k, r => by simp [encP]
  | c :: w, k, r => by
    rw [encP]
    have ih := bare_enc a w (k + 1) r
    cases hb : needsQ false k c || a k with
    | true =>
      (with_reducible_and_instances (refine rwG ((if_pos rfl) ..) ?_))
      show bareTok (92 :: c :: (encP false a (k + 1) w ++ r)) = _
      ((with_reducible_and_instances (refine rwG (bareTok_esc ..) ?_; refine rwG (ih ..) ?_)))
      simp; lia
    | false =>
      (with_reducible_and_instances (refine rwG ((if_neg (by decide)) ..) ?_))
      have hn : needsQ false k c = false := by
        rw [Bool.or_eq_false_iff] at hb; exact hb.1
      obtain ⟨h1, h2, _⟩ := bare_sign hn
      show bareTok (c :: (encP false a (k + 1) w ++ r)) = _
      ((with_reducible_and_instances (refine rwG ((bareTok_other h1 h2) ..) ?_; refine rwG (ih ..) ?_)))
      simp; lia
theorem lex_bare (a : Nat → Bool) (c : Nat) (w r : List Nat) : lexTok (encP false a 0 (c :: w) ++ r) = (c :: w ++ (bareTok r).1, (encP false a 0 (c :: w)).length + (bareTok r).2) := by
  rw [encP]
  have ih := bare_enc a w 1 r
  cases hb : needsQ false 0 c || a 0 with
  | true =>
    (with_reducible_and_instances (refine rwG ((if_pos rfl) ..) ?_))
    show lexTok (92 :: c :: (encP false a 1 w ++ r)) = _
    ((with_reducible_and_instances (refine rwG (lexTok_esc ..) ?_; refine rwG (ih ..) ?_)))
    simp; lia
  | false =>
    (with_reducible_and_instances (refine rwG ((if_neg (by decide)) ..) ?_))
    have hn : needsQ false 0 c = false := by
      rw [Bool.or_eq_false_iff] at hb; exact hb.1
    obtain ⟨h1, h2, h3⟩ := bare_sign hn
    show lexTok (c :: (encP false a 1 w ++ r)) = _
    ((with_reducible_and_instances (refine rwG ((lexTok_other h1 (h3 rfl) h2) ..) ?_; refine rwG (ih ..) ?_)))
    simp; lia
theorem lex_white : ∀ (x r : List Nat), (∀ c ∈ x, c ∈ ws) → lexTok (x ++ r) = ((lexTok r).1, x.length + (lexTok r).2)
  | [], r, _ => by simp
  | c :: x, r, h => by
    show lexTok (c :: (x ++ r)) = _
    ((with_reducible_and_instances (refine rwG ((lexTok_ws (h c List.mem_cons_self)) ..) ?_; refine rwG ((lex_white x r fun d hd => h d (List.mem_cons_of_mem _ hd)) ..) ?_)))
    simp; lia

noncomputable def tokQ (q : Bool) (r : List Nat) : List Nat × Nat := if q then quoteTok r else bareTok r
noncomputable def openQ (q : Bool) : List Nat := if q then [34] else []
theorem piece_cont {n : Nat} {q t : Bool} (r : List Nat) : tokQ q ((lawPiece n q t).2 ++ r) = ((lawPiece n q t).1 ++ (tokQ q r).1, (lawPiece n q t).2.length + (tokQ q r).2) := by
  have e : (lawPiece n q t).2 = encP q (exOf n) 0 (lawPiece n q t).1 := piece_enc n q (piecePlain n t)
  (with_reducible_and_instances (refine rwG (e ..) ?_))
  cases q with
  | true => exact quote_enc _ _ _ _
  | false => exact bare_enc _ _ _ _
theorem piece_open {n : Nat} {q t : Bool} {x : List Nat} (hx : ∀ c ∈ x, c ∈ ws) (r : List Nat) : lexTok (x ++ openQ q ++ (lawPiece n q t).2 ++ r) = ((lawPiece n q t).1 ++ (tokQ q r).1, (x ++ openQ q ++ (lawPiece n q t).2).length + (tokQ q r).2) := by
  have e : (lawPiece n q t).2 = encP q (exOf n) 0 (lawPiece n q t).1 := piece_enc n q (piecePlain n t)
  (rewrite [List.append_assoc]; rewrite [List.append_assoc]; (with_reducible_and_instances (refine rwG ((lex_white x _ hx) ..) ?_)))
  cases q with
  | true =>
    show ((lexTok (34 :: ((lawPiece n true t).2 ++ r))).1, _ + (lexTok (34 :: ((lawPiece n true t).2 ++ r))).2) = _
    ((with_reducible_and_instances (refine rwG (lexTok_quote ..) ?_; refine rwG (e ..) ?_)); rewrite [quote_enc])
    simp [openQ, tokQ]; lia
  | false =>
    show ((lexTok ((lawPiece n false t).2 ++ r)).1, _ + (lexTok ((lawPiece n false t).2 ++ r)).2) = _
    have hc : (lawPiece n false t).1 = tbl.getD (n % 8) 0 :: (if t && decide (n / 8 % 2 = 1) then [n / 16 % 256] else []) := rfl
    ((with_reducible_and_instances (refine rwG (e ..) ?_; refine rwG (hc ..) ?_)); rewrite [lex_bare])
    simp [openQ, tokQ]; lia
theorem gap_split {n : Nat} {q : Bool} : ∃ e, lawGap n q = [e] ++ (gapMore n ++ openQ q) ∧ ∀ r, tokQ q (e :: r) = ([], 1) := by
  unfold lawGap
  cases q with
  | true => exact ⟨34, by simp [openQ], fun r => quoteTok_end⟩
  | false =>
    refine ⟨ws4.getD (n / 16384 % 4) 0, by simp [openQ], fun r => bareTok_end ?_⟩
    have h : n / 16384 % 4 < 4 := Nat.mod_lt _ (by decide)
    generalize n / 16384 % 4 = j at h
    have h' : j = 0 ∨ j = 1 ∨ j = 2 ∨ j = 3 := by lia
    rcases h' with rfl | rfl | rfl | rfl <;> decide
theorem gapMore_ws {n : Nat} : ∀ c ∈ gapMore n, c ∈ ws := by
  unfold gapMore
  have h : n / 65536 % 5 < 5 := Nat.mod_lt _ (by decide)
  generalize n / 65536 % 5 = j at h
  have h' : j = 0 ∨ j = 1 ∨ j = 2 ∨ j = 3 ∨ j = 4 := by lia
  rcases h' with rfl | rfl | rfl | rfl | rfl <;> decide

theorem getD_left {α : Type} {l r : List α} {d : α} {i : Nat} (h : i < l.length) : (l ++ r).getD i d = l.getD i d := by
  ((with_reducible_and_instances (refine rwG ((List.getD_eq_getElem?_getD) ..) ?_; refine rwG ((List.getElem?_append_left h) ..) ?_; refine rwL ((List.getD_eq_getElem?_getD) ..) ?_)); (with_reducible rfl))
theorem getD_right {α : Type} {l r : List α} {d : α} {i : Nat} (h : l.length ≤ i) : (l ++ r).getD i d = r.getD (i - l.length) d := by
  ((with_reducible_and_instances (refine rwG ((List.getD_eq_getElem?_getD) ..) ?_; refine rwG ((List.getElem?_append_right h) ..) ?_; refine rwL ((List.getD_eq_getElem?_getD) ..) ?_)); (with_reducible rfl))
theorem getD_dropLast {α : Type} {l : List α} {d : α} {i : Nat} (h : i < l.length - 1) : l.dropLast.getD i d = l.getD i d := by
  ((with_reducible_and_instances (refine rwG ((List.getD_eq_getElem?_getD) ..) ?_; refine rwG ((List.getElem?_dropLast) ..) ?_; refine rwG ((if_pos h) ..) ?_; refine rwL ((List.getD_eq_getElem?_getD) ..) ?_)); (with_reducible rfl))
theorem getLastD_getD {α : Type} {l : List α} {d : α} : l.getLastD d = l.getD (l.length - 1) d := by
  ((with_reducible_and_instances (refine rwG ((List.getLastD_eq_getLast?) ..) ?_; refine rwG ((List.getLast?_eq_getElem?) ..) ?_; refine rwG ((List.getD_eq_getElem?_getD) ..) ?_)); (with_reducible rfl))
structure Shape (q : Bool) (f : File) (S : List (List Nat)) (cur : List Nat) : Prop where
  body : f.1 = S.flatten ++ cur
  len : S.length + 1 = f.2.1.length
  tok : ∀ i, i < S.length → ∀ y, lexTok (S.getD i [] ++ y) = (f.2.1.getD i [], (S.getD i []).length)
  slen : f.2.2.length = S.length
  stop : ∀ i, i < S.length → f.2.2.getD i 0 = (S.take (i + 1)).flatten.length
  cur : ∀ r, lexTok (cur ++ r) = (f.2.1.getLastD [] ++ (tokQ q r).1, cur.length + (tokQ q r).2)
theorem shape_A {q : Bool} {f : File} {S : List (List Nat)} {cur : List Nat} (h : Shape q f S cur) {n : Nat} {t : Bool} : Shape q (fileA (lawPiece n q t) f) S (cur ++ (lawPiece n q t).2) where
  body := by show f.1 ++ _ = _; ((with_reducible_and_instances (refine rwG (h.body ..) ?_)); rewrite [List.append_assoc]; (with_reducible rfl))
  len := by show _ = (_ ++ [_]).length; ((with_reducible_and_instances (refine rwG (List.length_append ..) ?_; refine rwG (List.length_dropLast ..) ?_; refine rwL (h.len ..) ?_))); rfl
  tok := fun i hi y => by
    (with_reducible_and_instances (refine rwG ((h.tok i hi y) ..) ?_))
    have hl := h.len
    show _ = ((f.2.1.dropLast ++ [_]).getD i [], _)
    ((with_reducible_and_instances (refine rwG ((getD_left (by rw [List.length_dropLast]; lia)) ..) ?_; refine rwG ((getD_dropLast (by lia)) ..) ?_)); (with_reducible rfl))
  slen := h.slen
  stop := h.stop
  cur := fun r => by
    rw [List.append_assoc, h.cur, piece_cont]
    show _ = ((f.2.1.dropLast ++ [f.2.1.getLastD [] ++ (lawPiece n q t).1]).getLastD [] ++ _, _)
    ((with_reducible_and_instances (refine rwG (List.getLastD_concat ..) ?_; refine rwG (List.length_append ..) ?_)); rewrite [List.append_assoc]; rewrite [Nat.add_assoc]; (with_reducible rfl))
theorem shape_B {q : Bool} {f : File} {S : List (List Nat)} {cur : List Nat} (h : Shape q f S cur) {n m : Nat} {t : Bool} : ∃ S' cur', Shape q (fileB (lawPiece n q t) (lawGap m q) f) S' cur' := by
  obtain ⟨e, he, ht⟩ := gap_split (n := m) (q := q)
  have hl := h.len
  refine ⟨S ++ [cur ++ [e]], gapMore m ++ openQ q ++ (lawPiece n q t).2, ?_, ?_, ?_, ?_, ?_, ?_⟩
  · show f.1 ++ lawGap m q ++ _ = _
    ((with_reducible_and_instances (refine rwG (h.body ..) ?_; refine rwG (he ..) ?_; refine rwG (List.flatten_append ..) ?_)))
    simp
  · show _ = (_ ++ [_]).length
    ((with_reducible_and_instances (refine rwG (List.length_append ..) ?_; refine rwG (List.length_append ..) ?_)))
    show S.length + 1 + 1 = f.2.1.length + 1
    lia
  · intro i hi y
    rw [List.length_append] at hi
    have hi2 : i < S.length + 1 := hi
    show _ = ((f.2.1 ++ [_]).getD i [], _)
    by_cases h2 : i < S.length
    · ((with_reducible_and_instances (refine rwG ((getD_left h2) ..) ?_; refine rwG ((h.tok i h2 y) ..) ?_; refine rwG ((getD_left (by lia)) ..) ?_)); (with_reducible rfl))
    · have hi3 : i = S.length := by lia
      subst hi3
      ((with_reducible_and_instances (refine rwG ((getD_right (l := S) (Nat.le_refl _)) ..) ?_)); rewrite [Nat.sub_self]; (with_reducible_and_instances (refine rwG ((getD_left (by lia)) ..) ?_)))
      show lexTok (cur ++ [e] ++ y) = (_, (cur ++ [e]).length)
      rw [List.append_assoc, h.cur]
      show (_ ++ (tokQ q (e :: y)).1, _ + (tokQ q (e :: y)).2) = _
      (rewrite [ht]; rewrite [List.append_nil]; (with_reducible_and_instances (refine rwG (List.length_append ..) ?_; refine rwG (getLastD_getD ..) ?_; refine rwG ((show f.2.1.length - 1 = S.length by lia) ..) ?_)))
      rfl
  · show (f.2.2 ++ [_]).length = _
    ((with_reducible_and_instances (refine rwG (List.length_append ..) ?_; refine rwG (List.length_append ..) ?_; refine rwG (h.slen ..) ?_))); rfl
  · intro i hi
    rw [List.length_append] at hi
    have hi2 : i < S.length + 1 := hi
    have hsl := h.slen
    show (f.2.2 ++ [f.1.length + 1]).getD i 0 = _
    by_cases h2 : i < S.length
    · ((with_reducible_and_instances (refine rwG ((getD_left (by lia)) ..) ?_; refine rwG ((h.stop i h2) ..) ?_; refine rwG ((List.take_append_of_le_length (by lia)) ..) ?_)); (with_reducible rfl))
    · have hi3 : i = S.length := by lia
      ((with_reducible_and_instances (refine rwG (hi3 ..) ?_; refine rwG ((getD_right (by lia)) ..) ?_; refine rwG (hsl ..) ?_)); rewrite [Nat.sub_self])
      ((with_reducible_and_instances (refine rwG ((List.take_of_length_le (by rw [List.length_append]; exact Nat.le_refl _)) ..) ?_; refine rwG (List.flatten_append ..) ?_; refine rwG (h.body ..) ?_)))
      simp; lia
  · intro r
    show _ = ((f.2.1 ++ [(lawPiece n q t).1]).getLastD [] ++ _, _)
    (with_reducible_and_instances (refine rwG (List.getLastD_concat ..) ?_))
    exact piece_open gapMore_ws r
theorem front_ws {D : Dr} : ∃ x, D.front = x ++ openQ D.q ∧ ∀ c ∈ x, c ∈ ws := by
  refine ⟨fronts.getD (D.d0 / 24 % 4) [], rfl, ?_⟩
  have h : D.d0 / 24 % 4 < 4 := Nat.mod_lt _ (by decide)
  generalize D.d0 / 24 % 4 = j at h
  have h' : j = 0 ∨ j = 1 ∨ j = 2 ∨ j = 3 := by lia
  rcases h' with rfl | rfl | rfl | rfl <;> decide
theorem shape_N {D : Dr} : ∀ k, k < D.n → ∀ f ∈ filesN D.pieces D.gaps D.first k, ∃ S cur, Shape D.q f S cur
  | 0, hk, f, hf => by
    have e : f = (D.first, [(D.pieces.getD 0 ([], [])).1], []) := List.mem_singleton.mp hf
    obtain ⟨x, hx, hw⟩ := front_ws (D := D)
    ((with_reducible_and_instances (refine rwG (e ..) ?_; refine rwG ((pieces_get hk) ..) ?_)))
    refine ⟨[], D.first, ⟨rfl, rfl, (fun i hi => nomatch hi), rfl, (fun i hi => nomatch hi), fun r => ?_⟩⟩
    unfold Dr.first
    (with_reducible_and_instances (refine rwG (hx ..) ?_))
    exact piece_open hw r
  | k + 1, hk, f, hf => by
    obtain ⟨f', hf', hm⟩ := List.mem_flatMap.mp hf
    obtain ⟨S, cur, h⟩ := shape_N k (by lia) f' hf'
    rw [pieces_get hk, gaps_get hk] at hm
    rcases List.mem_cons.mp hm with e | hm
    · (with_reducible_and_instances (refine rwG (e ..) ?_)); exact ⟨_, _, shape_A h⟩
    · (with_reducible_and_instances (refine rwG ((List.mem_singleton.mp hm) ..) ?_)); exact shape_B h
theorem tail_tok {D : Dr} : tokQ D.q D.tail = ([], (D.tail.take 1).length) ∧ lexTok (D.tail.drop 1) = ([], (D.tail.drop 1).length) := by
  unfold Dr.tail
  have h : D.d0 / 6 % 4 < 4 := Nat.mod_lt _ (by decide)
  generalize D.d0 / 6 % 4 = j at h
  have h' : j = 0 ∨ j = 1 ∨ j = 2 ∨ j = 3 := by lia
  cases D.q <;> rcases h' with rfl | rfl | rfl | rfl <;> exact ⟨by decide, by decide⟩
theorem file_cut {D : Dr} {f : File} (hf : f ∈ D.files) : ∃ P, Cut (D.textOf f) f.2.1 P ∧ (D.stopsOf f).length = f.2.1.length ∧ ∀ i, i < f.2.1.length → (D.stopsOf f).getD i 0 = (upP P (i + 1)).length := by
  have hn := n_three (D := D)
  obtain ⟨S, cur, h⟩ := shape_N (D := D) (D.n - 1) (by lia) f hf
  obtain ⟨t1, t2⟩ := tail_tok (D := D)
  have hl := h.len
  have hsl := h.slen
  have etail : D.tail = D.tail.take 1 ++ D.tail.drop 1 := (List.take_append_drop 1 D.tail).symm
  have hlen : (S ++ [cur ++ D.tail.take 1, D.tail.drop 1]).length = S.length + 2 := by (with_reducible_and_instances (refine rwG (List.length_append ..) ?_)); rfl
  have hd : ∀ i, i < S.length → (S ++ [cur ++ D.tail.take 1, D.tail.drop 1]).drop i = S.getD i [] :: (S ++ [cur ++ D.tail.take 1, D.tail.drop 1]).drop (i + 1) := fun i hi => by
    ((with_reducible_and_instances (refine rwG ((List.drop_eq_getElem_cons (by rw [hlen]; lia)) ..) ?_; refine rwG ((List.getElem_append_left hi) ..) ?_; refine rwG ((List.getD_eq_getElem?_getD) ..) ?_; refine rwG ((List.getElem?_eq_getElem hi) ..) ?_))); rfl
  have hg : ∀ i, i < S.length → (S ++ [cur ++ D.tail.take 1, D.tail.drop 1]).getD i [] = S.getD i [] := fun i hi => by
    ((with_reducible_and_instances (refine rwG ((List.getD_eq_getElem?_getD) ..) ?_; refine rwG ((List.getElem?_append_left hi) ..) ?_; refine rwL ((List.getD_eq_getElem?_getD) ..) ?_)); (with_reducible rfl))
  refine ⟨S ++ [cur ++ D.tail.take 1, D.tail.drop 1], ⟨?_, ?_, by lia, ?_⟩, ?_, ?_⟩
  · unfold Dr.textOf
    ((with_reducible_and_instances (refine rwG (h.body ..) ?_; refine rwG (List.flatten_append ..) ?_)))
    conv => lhs; rw [etail]
    simp
  · (with_reducible_and_instances (refine rwG (hlen ..) ?_)); lia
  · intro i hi
    rw [hlen] at hi
    have c : i < S.length ∨ i = S.length ∨ i = S.length + 1 := by lia
    rcases c with c | rfl | rfl
    · ((with_reducible_and_instances (refine rwG ((hd i c) ..) ?_; refine rwG (List.flatten_cons ..) ?_)); rewrite [h.tok i c]; (with_reducible_and_instances (refine rwG ((hg i c) ..) ?_; refine rwG ((getD_left (by lia)) ..) ?_)); (with_reducible rfl))
    · ((with_reducible_and_instances (refine rwG (List.drop_left ..) ?_; refine rwG ((getD_right (l := S) (Nat.le_refl _)) ..) ?_)); rewrite [Nat.sub_self]; (with_reducible_and_instances (refine rwG ((getD_left (by lia)) ..) ?_)))
      show lexTok ((cur ++ D.tail.take 1) ++ (D.tail.drop 1 ++ [])) = (_, (cur ++ D.tail.take 1).length)
      (rewrite [List.append_nil]; rewrite [List.append_assoc]; (with_reducible_and_instances (refine rwL (etail ..) ?_)); rewrite [h.cur]; (with_reducible_and_instances (refine rwG (t1 ..) ?_)); rewrite [List.append_nil]; (with_reducible_and_instances (refine rwG (List.length_append ..) ?_; refine rwG (getLastD_getD ..) ?_; refine rwG ((show f.2.1.length - 1 = S.length by lia) ..) ?_)); (with_reducible rfl))
    · ((with_reducible_and_instances (refine rwG ((show S.length + 1 = S.length + 1 from rfl) ..) ?_; refine rwG (List.drop_append ..) ?_; refine rwG ((List.drop_eq_nil_of_le (by lia)) ..) ?_)); rewrite [Nat.add_sub_cancel_left]; (with_reducible_and_instances (refine rwG ((getD_right (l := S) (by lia)) ..) ?_)); rewrite [Nat.add_sub_cancel_left]; (with_reducible_and_instances (refine rwG (hl ..) ?_; refine rwG ((getD_right (Nat.le_refl _)) ..) ?_)); rewrite [Nat.sub_self])
      show lexTok (D.tail.drop 1 ++ []) = ([], (D.tail.drop 1).length)
      (rewrite [List.append_nil]; (with_reducible_and_instances (refine rwG (t2 ..) ?_)); (with_reducible rfl))
  · unfold Dr.stopsOf
    ((with_reducible_and_instances (refine rwG (List.length_append ..) ?_; refine rwG (hsl ..) ?_))); exact hl
  · intro i hi
    unfold Dr.stopsOf upP
    by_cases c : i < S.length
    · ((with_reducible_and_instances (refine rwG ((getD_left (by lia)) ..) ?_; refine rwG ((h.stop i c) ..) ?_; refine rwG ((List.take_append_of_le_length (by lia)) ..) ?_)); (with_reducible rfl))
    · have hi3 : i = S.length := by lia
      ((with_reducible_and_instances (refine rwG (hi3 ..) ?_; refine rwG ((getD_right (by lia)) ..) ?_; refine rwG (hsl ..) ?_)); rewrite [Nat.sub_self]; (with_reducible_and_instances (refine rwG (List.take_append ..) ?_; refine rwG ((List.take_of_length_le (show S.length ≤ S.length + 1 by lia)) ..) ?_)); rewrite [Nat.add_sub_cancel_left]; (with_reducible_and_instances (refine rwG (List.flatten_append ..) ?_; refine rwG (h.body ..) ?_)))
      simp
theorem holds_due {D : Dr} : ∀ f ∈ D.files, callsR (D.textOf f) f.2.1 (2 * f.2.1.length + 3) = lawDue (D.textOf f) f.2.1 (D.stopsOf f) := fun f hf => by
  obtain ⟨P, h, h1, h2⟩ := file_cut hf
  exact due_is h h1 h2
theorem reg_is {D : Dr} {f : File} (hf : f ∈ D.files) : D.regOf f = (D.textOf f).foldl crcOf ones := by
  obtain ⟨P, h, _, _⟩ := file_cut hf
  exact reads_last h
end Mine.Internal
end

section
namespace Mine.Internal

theorem xx (x y : Nat) : x ^^^ (x ^^^ y) = y := by rw [← Nat.xor_assoc, Nat.xor_self, Nat.zero_xor]
theorem xor_left (x y z : Nat) : x ^^^ (y ^^^ z) = y ^^^ (x ^^^ z) := by (rewrite [← Nat.xor_assoc]; (with_reducible_and_instances (refine rwG ((Nat.xor_comm x y) ..) ?_)); rewrite [Nat.xor_assoc]; (with_reducible rfl))
theorem add_xor {k u m : Nat} (h : u < 2 ^ k) : 2 ^ k * m + u = 2 ^ k * m ^^^ u := by
  apply Nat.eq_of_testBit_eq
  intro j
  (rewrite [Nat.testBit_two_pow_mul_add _ h]; rewrite [Nat.testBit_xor]; (with_reducible_and_instances (refine rwG (Nat.testBit_two_pow_mul ..) ?_)))
  by_cases hj : j < k
  · (with_reducible_and_instances (refine rwG ((if_pos hj) ..) ?_))
    have : ¬ k ≤ j := by lia
    simp [this]
  · (with_reducible_and_instances (refine rwG ((if_neg hj) ..) ?_))
    have h1 : k ≤ j := by lia
    (with_reducible_and_instances (refine rwG ((Nat.testBit_lt_two_pow (Nat.lt_of_lt_of_le h (Nat.pow_le_pow_right (by decide) h1))) ..) ?_))
    simp [h1]
theorem mul_xor (x y k : Nat) : (x ^^^ y) * 2 ^ k = x * 2 ^ k ^^^ y * 2 ^ k := by
  rw [← Nat.shiftLeft_eq, ← Nat.shiftLeft_eq, ← Nat.shiftLeft_eq]
  exact Nat.shiftLeft_xor_distrib
theorem two_xor {a b c d : Nat} (hc : c < 2) (hd : d < 2) : 2 * (a ^^^ b) + (c ^^^ d) = (2 * a + c) ^^^ (2 * b + d) := by
  have h1 : (c ^^^ d) < 2 ^ 1 := Nat.xor_lt_two_pow (by lia) (by lia)
  have e1 := add_xor (k := 1) (m := a ^^^ b) h1
  have e2 := add_xor (k := 1) (m := a) (u := c) (by lia)
  have e3 := add_xor (k := 1) (m := b) (u := d) (by lia)
  have e4 := mul_xor a b 1
  rw [show (2 : Nat) ^ 1 = 2 from rfl] at e1 e2 e3 e4
  ((with_reducible_and_instances (refine rwG (e1 ..) ?_; refine rwG (e2 ..) ?_; refine rwG (e3 ..) ?_; refine rwG ((Nat.mul_comm 2 (a ^^^ b)) ..) ?_; refine rwG (e4 ..) ?_; refine rwG ((Nat.mul_comm a 2) ..) ?_; refine rwG ((Nat.mul_comm b 2) ..) ?_)))
  simp only [Nat.xor_assoc, Nat.xor_comm, xor_left]
noncomputable abbrev gen : Nat := 4374732215
noncomputable def stepR (t : Nat) : Nat := if t.testBit 32 then t ^^^ gen else t
theorem stepR_xor (t u : Nat) : stepR (t ^^^ u) = stepR t ^^^ stepR u := by
  unfold stepR
  rw [Nat.testBit_xor]
  cases ht : t.testBit 32 <;> cases hu : u.testBit 32
  · rfl
  · show t ^^^ u ^^^ gen = t ^^^ (u ^^^ gen); rw [Nat.xor_assoc]
  · show t ^^^ u ^^^ gen = t ^^^ gen ^^^ u; rw [Nat.xor_assoc, Nat.xor_assoc, Nat.xor_comm u]
  · show t ^^^ u = t ^^^ gen ^^^ (u ^^^ gen)
    (rewrite [Nat.xor_assoc]; (with_reducible_and_instances (refine rwG ((xor_left gen u gen) ..) ?_)); rewrite [Nat.xor_self]; rewrite [Nat.xor_zero]; (with_reducible rfl))
theorem stepR_lt {t : Nat} (h : t < 2 ^ 33) : stepR t < 2 ^ 32 := by
  have hg : gen < 2 ^ 33 := by decide
  have key : ∀ {x : Nat}, x < 2 ^ 33 → x.testBit 32 = false → x < 2 ^ 32 := fun {x} hx hb => by
    apply Nat.lt_pow_two_of_testBit
    intro i hi
    by_cases h3 : i = 32
    · (with_reducible_and_instances (refine rwG (h3 ..) ?_)); exact hb
    · exact Nat.testBit_lt_two_pow (Nat.lt_of_lt_of_le hx (Nat.pow_le_pow_right (by decide) (by lia)))
  unfold stepR
  cases ht : t.testBit 32 with
  | false => (with_reducible_and_instances (refine rwG ((if_neg (by decide)) ..) ?_)); exact key h ht
  | true =>
    (with_reducible_and_instances (refine rwG ((if_pos rfl) ..) ?_))
    refine key (Nat.xor_lt_two_pow h hg) ?_
    (rewrite [Nat.testBit_xor]; (with_reducible_and_instances (refine rwG (ht ..) ?_)))
    decide
theorem stepR_small {t : Nat} (h : t < 2 ^ 32) : stepR t = t := by
  unfold stepR
  ((with_reducible_and_instances (refine rwG ((if_neg (by rw [Nat.testBit_lt_two_pow h]; decide)) ..) ?_)); (with_reducible rfl))
noncomputable def red (x : Nat) : Nat := if h : x = 0 then 0 else stepR (2 * red (x / 2) + x % 2)
termination_by x
decreasing_by lia
theorem red_zero : red 0 = 0 := by (rewrite [red]; (with_reducible_and_instances (refine rwG ((dif_pos rfl) ..) ?_)); (with_reducible rfl))
theorem red_eq (x : Nat) : red x = stepR (2 * red (x / 2) + x % 2) := by
  by_cases h : x = 0
  · ((with_reducible_and_instances (refine rwG (h ..) ?_; refine rwG ((show (0 : Nat) / 2 = 0 from rfl) ..) ?_; refine rwG (red_zero ..) ?_)))
    decide
  · (rewrite [red]; (with_reducible_and_instances (refine rwG ((dif_neg h) ..) ?_)); (with_reducible rfl))
theorem red_lt (x : Nat) : red x < 2 ^ 32 := by
  induction x using Nat.strongRecOn with
  | ind x ih =>
    by_cases h : x = 0
    · ((with_reducible_and_instances (refine rwG (h ..) ?_; refine rwG (red_zero ..) ?_))); decide
    · have := ih (x / 2) (by lia)
      rw [red_eq]
      exact stepR_lt (by lia)
theorem red_small {x : Nat} (h : x < 2 ^ 32) : red x = x := by
  induction x using Nat.strongRecOn with
  | ind x ih =>
    by_cases h0 : x = 0
    · ((with_reducible_and_instances (refine rwG (h0 ..) ?_; refine rwG (red_zero ..) ?_)); (with_reducible rfl))
    · (rewrite [red_eq]; (with_reducible_and_instances (refine rwG ((ih (x / 2) (by lia) (by lia)) ..) ?_; refine rwG ((show 2 * (x / 2) + x % 2 = x by lia) ..) ?_)))
      exact stepR_small h
theorem red_xor (x y : Nat) : red (x ^^^ y) = red x ^^^ red y := by
  induction x using Nat.strongRecOn generalizing y with
  | ind x ih =>
    by_cases h0 : x = 0
    · ((with_reducible_and_instances (refine rwG (h0 ..) ?_)); rewrite [Nat.zero_xor]; (with_reducible_and_instances (refine rwG (red_zero ..) ?_)); rewrite [Nat.zero_xor]; (with_reducible rfl))
    · have hm : (x ^^^ y) % 2 = (x % 2) ^^^ (y % 2) := by
        have := Nat.xor_mod_two_pow (a := x) (b := y) (n := 1)
        exact this
      (rewrite [red_eq]; (with_reducible_and_instances (refine rwG (Nat.xor_div_two ..) ?_; refine rwG (hm ..) ?_)); rewrite [ih (x / 2) (by lia)]; (with_reducible_and_instances (refine rwG ((two_xor (by lia) (by lia)) ..) ?_)); rewrite [stepR_xor]; rewrite [← red_eq]; rewrite [← red_eq]; (with_reducible rfl))
theorem red_two (x : Nat) : red (2 * x) = stepR (2 * red x) := by
  (rewrite [red_eq]; (with_reducible_and_instances (refine rwG ((show 2 * x / 2 = x by lia) ..) ?_; refine rwG ((show 2 * x % 2 = 0 by lia) ..) ?_)); rewrite [Nat.add_zero]; (with_reducible rfl))
theorem red_pow (x : Nat) : ∀ k, red (x * 2 ^ k) = red (red x * 2 ^ k)
  | 0 => by (rewrite [Nat.pow_zero]; rewrite [Nat.mul_one]; rewrite [Nat.mul_one]; (with_reducible_and_instances (refine rwG ((red_small (red_lt x)) ..) ?_)); (with_reducible rfl))
  | k + 1 => by
    have e : ∀ y : Nat, y * 2 ^ (k + 1) = 2 * (y * 2 ^ k) := fun y => by rw [Nat.pow_succ, ← Nat.mul_assoc, Nat.mul_comm]
    (rewrite [e]; rewrite [e]; rewrite [red_two]; rewrite [red_two]; (with_reducible_and_instances (refine rwG ((red_pow x k) ..) ?_)); (with_reducible rfl))
theorem red_gen (k : Nat) : red (gen * 2 ^ k) = 0 := by
  have h0 : red gen = 0 := by
    (rewrite [red_eq]; (with_reducible_and_instances (refine rwG ((red_small (show gen / 2 < 2 ^ 32 by decide)) ..) ?_)))
    decide
  (rewrite [red_pow]; (with_reducible_and_instances (refine rwG (h0 ..) ?_)); rewrite [Nat.zero_mul]; (with_reducible_and_instances (refine rwG (red_zero ..) ?_)); (with_reducible rfl))

theorem restStep_red {x p : Nat} : red (restStep x p) = red x := by
  unfold restStep
  split
  · rw [red_xor, red_gen, Nat.xor_zero]
  · rfl
theorem restStep_cut {x p : Nat} (h : x < 2 ^ (p + 1)) (hp : 32 ≤ p) : restStep x p < 2 ^ p := by
  have key : ∀ {y : Nat}, y < 2 ^ (p + 1) → y.testBit p = false → y < 2 ^ p := fun {y} hy hb => by
    apply Nat.lt_pow_two_of_testBit
    intro i hi
    by_cases h3 : i = p
    · (with_reducible_and_instances (refine rwG (h3 ..) ?_)); exact hb
    · exact Nat.testBit_lt_two_pow (Nat.lt_of_lt_of_le hy (Nat.pow_le_pow_right (by decide) (by lia)))
  have ht : x.testBit p = decide (x / 2 ^ p % 2 = 1) := Nat.testBit_eq_decide_div_mod_eq
  unfold restStep
  by_cases hb : x / 2 ^ p % 2 = 1
  · (with_reducible_and_instances (refine rwG ((if_pos hb) ..) ?_))
    have hg : gen * 2 ^ (p - 32) < 2 ^ (p + 1) := by
      have h1 : gen * 2 ^ (p - 32) < 2 ^ 33 * 2 ^ (p - 32) := Nat.mul_lt_mul_of_pos_right (by decide) (Nat.pow_pos (by decide))
      rw [← Nat.pow_add] at h1
      exact Nat.lt_of_lt_of_le h1 (Nat.pow_le_pow_right (by decide) (by lia))
    refine key (Nat.xor_lt_two_pow h hg) ?_
    (rewrite [Nat.testBit_xor]; (with_reducible_and_instances (refine rwG (ht ..) ?_; refine rwG ((decide_eq_true hb) ..) ?_)); rewrite [Nat.mul_comm]; (with_reducible_and_instances (refine rwG (Nat.testBit_two_pow_mul ..) ?_; refine rwG ((show p - (p - 32) = 32 by lia) ..) ?_; refine rwG ((decide_eq_true (show p - 32 ≤ p by lia)) ..) ?_)))
    decide
  · (with_reducible_and_instances (refine rwG ((if_neg hb) ..) ?_))
    refine key h ?_
    (with_reducible_and_instances (refine rwG (ht ..) ?_)); exact decide_eq_false hb
theorem restN_red {x s : Nat} (h : x < 2 ^ s) : ∀ i, i + 32 ≤ s → red (restN x s i) = red x ∧ restN x s i < 2 ^ (s - i)
  | 0, _ => ⟨rfl, h⟩
  | i + 1, hi => by
    obtain ⟨h1, h2⟩ := restN_red h i (by lia)
    refine ⟨restStep_red.trans h1, ?_⟩
    show restStep (restN x s i) (s - 1 - i) < _
    (with_reducible_and_instances (refine rwG ((show s - (i + 1) = s - 1 - i by lia) ..) ?_))
    exact restStep_cut (by (with_reducible_and_instances (refine rwG ((show s - 1 - i + 1 = s - i by lia) ..) ?_)); exact h2) (by lia)
theorem lawRest_red {x s : Nat} (h : x < 2 ^ s) (hs : 32 ≤ s) : lawRest x s = red x := by
  obtain ⟨h1, h2⟩ := restN_red h (s - 32) (by lia)
  rw [show s - (s - 32) = 32 by lia] at h2
  ((with_reducible_and_instances (refine rwL (h1 ..) ?_)); rewrite [lawRest]; (with_reducible_and_instances (refine rwG ((red_small h2) ..) ?_)); (with_reducible rfl))

theorem bit_xor (x y n : Nat) : (x ^^^ y) / 2 ^ n % 2 = (x / 2 ^ n % 2) ^^^ (y / 2 ^ n % 2) := by
  have h1 : (x ^^^ y) / 2 ^ n = x / 2 ^ n ^^^ y / 2 ^ n := Nat.xor_div_two_pow
  (with_reducible_and_instances (refine rwG (h1 ..) ?_))
  exact Nat.xor_mod_two_pow (n := 1)
theorem revB_xor (n x y : Nat) : revB n (x ^^^ y) = revB n x ^^^ revB n y := by
  induction n with
  | zero => rw [revB_zero, revB_zero, revB_zero]; rfl
  | succ n ih => (rewrite [revB_succ]; rewrite [revB_succ]; rewrite [revB_succ]; (with_reducible_and_instances (refine rwG (ih ..) ?_)); rewrite [bit_xor]; (with_reducible_and_instances (refine rwG ((two_xor (by lia) (by lia)) ..) ?_)); (with_reducible rfl))
theorem revB_half (n x : Nat) : revB (n + 1) x = x % 2 * 2 ^ n + revB n (x / 2) := by
  induction n with
  | zero => rw [revB_succ, revB_zero, revB_zero]; simp
  | succ n ih =>
    (rewrite [revB_succ]; (with_reducible_and_instances (refine rwG (ih ..) ?_; refine rwG ((revB_succ n (x / 2)) ..) ?_)); rewrite [Nat.pow_succ]; (with_reducible_and_instances (refine rwG ((show x / 2 / 2 ^ n = x / 2 ^ (n + 1) by rw [Nat.div_div_eq_div_mul, Nat.mul_comm, Nat.pow_succ]) ..) ?_)); rewrite [Nat.pow_succ])
    generalize x / (2 ^ n * 2) % 2 = a
    generalize revB n (x / 2) = b
    rw [Nat.mul_add, ← Nat.mul_assoc, Nat.mul_comm 2, Nat.mul_assoc, Nat.mul_comm 2, ← Nat.mul_assoc]
    lia
theorem revB_octet {c : Nat} (h : c < 256) : ∀ m, revB (8 + m) c = revB 8 c * 2 ^ m
  | 0 => by rw [Nat.pow_zero, Nat.mul_one]
  | m + 1 => by
    have : c / 2 ^ (8 + m) = 0 := Nat.div_eq_of_lt (Nat.lt_of_lt_of_le (show c < 2 ^ 8 from h) (Nat.pow_le_pow_right (by decide) (by lia)))
    ((with_reducible_and_instances (refine rwG ((show 8 + (m + 1) = (8 + m) + 1 by lia) ..) ?_)); rewrite [revB_succ]; (with_reducible_and_instances (refine rwG ((revB_octet h m) ..) ?_; refine rwG (this ..) ?_)); rewrite [Nat.pow_succ]; (with_reducible_and_instances (refine rwL ((Nat.mul_assoc (revB 8 c) (2 ^ m) 2) ..) ?_)))
    lia
theorem revB_revB : ∀ (n x : Nat), x < 2 ^ n → revB n (revB n x) = x
  | 0, x, h => by have : x = 0 := by lia
                  (with_reducible_and_instances (refine rwG (this ..) ?_)); rfl
  | n + 1, x, h => by
    have h2 : x / 2 < 2 ^ n := by rw [Nat.pow_succ] at h; lia
    have hl := revB_lt' n (x / 2)
    have ih := revB_revB n (x / 2) h2
    (rewrite [revB_succ]; (with_reducible_and_instances (refine rwG ((revB_half n x) ..) ?_)))
    have e1 : (x % 2 * 2 ^ n + revB n (x / 2)) / 2 ^ n = x % 2 := by
      (rewrite [Nat.mul_comm]; rewrite [Nat.mul_add_div (Nat.pow_pos (by decide))]; (with_reducible_and_instances (refine rwG ((Nat.div_eq_of_lt hl) ..) ?_)); rewrite [Nat.add_zero]; (with_reducible rfl))
    have e2 : revB n (x % 2 * 2 ^ n + revB n (x / 2)) = revB n (revB n (x / 2)) := by
      (rewrite [Nat.mul_comm]; (with_reducible_and_instances (refine rwG ((add_xor hl) ..) ?_)); rewrite [revB_xor])
      have : revB n (2 ^ n * (x % 2)) = 0 := by
        have key : ∀ j, j ≤ n → revB j (2 ^ n * (x % 2)) = 0 := fun j => by
          induction j with
          | zero => intro _; rfl
          | succ j ihj =>
            intro hj
            (rewrite [revB_succ]; (with_reducible_and_instances (refine rwG ((ihj (by lia)) ..) ?_)))
            have e : 2 ^ n * (x % 2) = 2 ^ j * (2 * (2 ^ (n - 1 - j) * (x % 2))) := by
              have : 2 ^ n = 2 ^ j * (2 * 2 ^ (n - 1 - j)) := by
                ((with_reducible_and_instances (refine rwL (Nat.pow_succ' ..) ?_)); rewrite [← Nat.pow_add])
                congr 1
                lia
              ((with_reducible_and_instances (refine rwG (this ..) ?_)); rewrite [Nat.mul_assoc]; rewrite [Nat.mul_assoc]; (with_reducible rfl))
            ((with_reducible_and_instances (refine rwG (e ..) ?_; refine rwG ((Nat.mul_div_cancel_left _ (Nat.pow_pos (by decide))) ..) ?_)); rewrite [Nat.mul_mod_right]; (with_reducible rfl))
        exact key n (Nat.le_refl _)
      ((with_reducible_and_instances (refine rwG (this ..) ?_)); rewrite [Nat.zero_xor]; (with_reducible rfl))
    ((with_reducible_and_instances (refine rwG (e1 ..) ?_; refine rwG (e2 ..) ?_; refine rwG (ih ..) ?_)))
    lia
theorem revB_rest {n x : Nat} (m : Nat) (h : x < 2 ^ n) : revB (n + m) x = revB n x * 2 ^ m := by
  induction m with
  | zero => rw [Nat.pow_zero, Nat.mul_one]; rfl
  | succ m ih =>
    have : x / 2 ^ (n + m) = 0 := Nat.div_eq_of_lt (Nat.lt_of_lt_of_le h (Nat.pow_le_pow_right (by decide) (by lia)))
    (rewrite [← Nat.add_assoc]; rewrite [revB_succ]; (with_reducible_and_instances (refine rwG (ih ..) ?_; refine rwG (this ..) ?_)); rewrite [Nat.pow_succ]; (with_reducible_and_instances (refine rwL ((Nat.mul_assoc (revB n x) (2 ^ m) 2) ..) ?_)))
    lia

theorem rev_step {r : Nat} (h : r < 2 ^ 32) : revB 32 (bitStep r) = stepR (2 * revB 32 r) := by
  have hh : r / 2 < 2 ^ 31 := by lia
  have hl := revB_lt' 31 (r / 2)
  have e1 : revB 32 r = r % 2 * 2 ^ 31 + revB 31 (r / 2) := revB_half 31 r
  have e2 : revB 32 (r / 2) = 2 * revB 31 (r / 2) := by
    have := revB_rest (n := 31) 1 hh
    (with_reducible_and_instances (refine rwG (this ..) ?_)); lia
  unfold bitStep
  by_cases hb : r % 2 = 1
  · ((with_reducible_and_instances (refine rwG ((if_pos hb) ..) ?_)); rewrite [revB_xor]; (with_reducible_and_instances (refine rwG (e2 ..) ?_; refine rwG (e1 ..) ?_; refine rwG (hb ..) ?_)))
    have eg : revB 32 3988292384 = 79764919 := by decide +kernel
    have e3 : 2 * (1 * 2 ^ 31 + revB 31 (r / 2)) = 2 ^ 32 * 1 + 2 * revB 31 (r / 2) := by lia
    ((with_reducible_and_instances (refine rwG (eg ..) ?_; refine rwG (e3 ..) ?_; refine rwG ((add_xor (by lia)) ..) ?_)); rewrite [stepR_xor]; (with_reducible_and_instances (refine rwG ((stepR_small (t := 2 * revB 31 (r / 2)) (by lia)) ..) ?_)))
    have e4 : stepR (2 ^ 32 * 1) = 79764919 := by decide
    ((with_reducible_and_instances (refine rwG (e4 ..) ?_)); rewrite [Nat.xor_comm]; (with_reducible rfl))
  · have hb0 : r % 2 = 0 := by lia
    ((with_reducible_and_instances (refine rwG ((if_neg hb) ..) ?_; refine rwG (e2 ..) ?_; refine rwG (e1 ..) ?_; refine rwG (hb0 ..) ?_)))
    (with_reducible_and_instances (refine rwG ((stepR_small (by lia)) ..) ?_))
    lia
theorem bitStep_lt {x : Nat} (h : x < 2 ^ 32) : bitStep x < 2 ^ 32 := by
  unfold bitStep
  split
  · exact Nat.xor_lt_two_pow (by lia) (by decide)
  · lia
theorem bitSteps_lt {x : Nat} (n : Nat) (h : x < 2 ^ 32) : bitSteps n x < 2 ^ 32 := by
  induction n with
  | zero => exact h
  | succ n ih => exact bitStep_lt ih
theorem rev_steps {r : Nat} (h : r < 2 ^ 32) : ∀ n, revB 32 (bitSteps n r) = red (revB 32 r * 2 ^ n)
  | 0 => by (rewrite [Nat.pow_zero]; rewrite [Nat.mul_one]; (with_reducible_and_instances (refine rwG ((red_small (revB_lt' 32 r)) ..) ?_))); rfl
  | n + 1 => by
    (rewrite [bitSteps]; (with_reducible_and_instances (refine rwG ((rev_step (bitSteps_lt n h)) ..) ?_; refine rwG ((rev_steps h n) ..) ?_)); rewrite [Nat.pow_succ]; rewrite [← Nat.mul_assoc]; (with_reducible_and_instances (refine rwG ((Nat.mul_comm _ 2) ..) ?_)); rewrite [red_two]; (with_reducible rfl))
theorem crcOf_lt {r c : Nat} (h : r < 2 ^ 32) (hc : c < 256) : crcOf r c < 2 ^ 32 := bitSteps_lt 8 (Nat.xor_lt_two_pow h (by lia))
theorem rev_crc {r c : Nat} (h : r < 2 ^ 32) (hc : c < 256) : revB 32 (crcOf r c) = red (revB 32 r * 2 ^ 8 ^^^ revB 8 c * 2 ^ 32) := by
  have h2 : r ^^^ c < 2 ^ 32 := Nat.xor_lt_two_pow h (by lia)
  have e := rev_steps h2 8
  have e8 : revB 32 c = revB 8 c * 2 ^ 24 := revB_octet hc 24
  rw [revB_xor, e8, mul_xor, Nat.mul_assoc, ← Nat.pow_add] at e
  exact e
noncomputable def fullF (text : List Nat) : Nat := numOf text * 2 ^ 32 ^^^ ones * 2 ^ (8 * text.length)
theorem numOf_app (x y : List Nat) : numOf (x ++ y) = numOf x * 2 ^ (8 * y.length) ^^^ numOf y := by
  have key : ∀ l : List Nat, numOf (x ++ l.reverse) = numOf x * 2 ^ (8 * l.reverse.length) ^^^ numOf l.reverse := fun l => by
    induction l with
    | nil => show numOf (x ++ []) = numOf x * 2 ^ 0 ^^^ 0; rw [List.append_nil, Nat.pow_zero, Nat.mul_one, Nat.xor_zero]
    | cons c l ih =>
      ((with_reducible_and_instances (refine rwG (List.reverse_cons ..) ?_)); rewrite [← List.append_assoc]; rewrite [numOf_snoc]; rewrite [numOf_snoc]; (with_reducible_and_instances (refine rwG (ih ..) ?_; refine rwG (List.length_append ..) ?_)))
      have h8 := revB_lt c
      have a1 := add_xor (k := 8) (m := numOf x * 2 ^ (8 * l.reverse.length) ^^^ numOf l.reverse) (u := revB 8 c) h8
      have a2 := add_xor (k := 8) (m := numOf l.reverse) (u := revB 8 c) h8
      rw [Nat.mul_comm] at a1 a2
      ((with_reducible_and_instances (refine rwG ((show (256 : Nat) = 2 ^ 8 from rfl) ..) ?_; refine rwG (a1 ..) ?_; refine rwG (a2 ..) ?_)); rewrite [mul_xor]; rewrite [Nat.xor_assoc]; rewrite [Nat.mul_assoc]; rewrite [← Nat.pow_add])
      rfl
  have := key y.reverse
  rw [List.reverse_reverse] at this
  exact this
theorem full_app (x y : List Nat) : fullF (x ++ y) = fullF x * 2 ^ (8 * y.length) ^^^ numOf y * 2 ^ 32 := by
  unfold fullF
  rewrite [numOf_app, List.length_append, mul_xor, mul_xor, Nat.mul_assoc, Nat.mul_assoc, Nat.mul_assoc, ← Nat.pow_add, ← Nat.pow_add, ← Nat.pow_add, Nat.add_comm 32, Nat.mul_add]
  simp only [Nat.xor_assoc, Nat.xor_comm, xor_left]
theorem front_red (text : List Nat) : lawFront text = red (fullF text) := by
  refine lawRest_red (Nat.xor_lt_two_pow ?_ ?_) (by lia)
  · have := numOf_lt text
    rw [Nat.pow_add]
    exact Nat.mul_lt_mul_of_pos_right this (by decide)
  · rw [Nat.pow_add, Nat.mul_comm]
    exact Nat.mul_lt_mul_of_pos_left (by decide) (Nat.pow_pos (by decide))
theorem rev_ones : revB 32 ones = ones := by decide +kernel
theorem rev_run (text : List Nat) (h : Oct text) : text.foldl crcOf ones < 2 ^ 32 ∧ revB 32 (text.foldl crcOf ones) = red (fullF text) := by
  have key : ∀ l : List Nat, Oct l.reverse → l.reverse.foldl crcOf ones < 2 ^ 32 ∧ revB 32 (l.reverse.foldl crcOf ones) = red (fullF l.reverse) := fun l => by
    induction l with
    | nil =>
      intro _
      refine ⟨by decide, ?_⟩
      show revB 32 ones = red (0 * 2 ^ 32 ^^^ ones * 2 ^ 0)
      ((with_reducible_and_instances (refine rwG (rev_ones ..) ?_)); rewrite [Nat.zero_mul]; rewrite [Nat.zero_xor]; rewrite [Nat.pow_zero]; rewrite [Nat.mul_one]; (with_reducible_and_instances (refine rwG ((red_small (by decide)) ..) ?_)); (with_reducible rfl))
    | cons c l ih =>
      intro ho
      rw [List.reverse_cons] at ho ⊢
      obtain ⟨h1, h2⟩ := ih fun d hd => ho d (List.mem_append_left _ hd)
      have hc : c < 256 := ho c (List.mem_append_right _ List.mem_cons_self)
      (with_reducible_and_instances (refine rwG (List.foldl_append ..) ?_))
      refine ⟨crcOf_lt h1 hc, ?_⟩
      show revB 32 (crcOf (l.reverse.foldl crcOf ones) c) = _
      have hn : numOf [c] = revB 8 c := by show 0 * 256 + revB 8 c = _; rw [Nat.zero_mul, Nat.zero_add]
      ((with_reducible_and_instances (refine rwG ((rev_crc h1 hc) ..) ?_; refine rwG (h2 ..) ?_)); rewrite [full_app]; rewrite [red_xor]; rewrite [red_xor]; rewrite [← red_pow]; (with_reducible_and_instances (refine rwG (hn ..) ?_)))
      rfl
  have := key text.reverse
  rw [List.reverse_reverse] at this
  exact this h
theorem run_turned {text : List Nat} (h : Oct text) : text.foldl crcOf ones = lawTurned (lawFront text) := by
  obtain ⟨h1, h2⟩ := rev_run text h
  (rewrite [front_red]; (with_reducible_and_instances (refine rwL (h2 ..) ?_)))
  exact (revB_revB 32 _ h1).symm
theorem turned_xor (x y : Nat) : lawTurned (x ^^^ y) = lawTurned x ^^^ lawTurned y := revB_xor 32 x y
theorem crcW_turned {w : List Nat} (h : Oct w) : crcW w = lawTurned (lawFront w ^^^ ones) := by
  unfold crcW
  ((with_reducible_and_instances (refine rwG ((run_turned h) ..) ?_)); rewrite [turned_xor])
  show _ = _ ^^^ revB 32 ones
  ((with_reducible_and_instances (refine rwG (rev_ones ..) ?_)); (with_reducible rfl))
end Mine.Internal
end

section
namespace Mine.Internal

noncomputable def xorL (l : List Nat) : Nat := l.foldr (· ^^^ ·) 0
section
variable {α β : Type}
theorem xorL_nil : xorL [] = 0 := rfl
theorem xorL_cons (a : Nat) (l : List Nat) : xorL (a :: l) = a ^^^ xorL l := rfl
theorem foldl_xor (h : α → Nat) : ∀ (l : List α) (z : Nat), l.foldl (fun b f => b ^^^ h f) z = z ^^^ xorL (l.map h)
  | [], z => (Nat.xor_zero z).symm
  | a :: l, z => by ((with_reducible_and_instances (refine rwG (List.foldl_cons ..) ?_)); rewrite [foldl_xor h l]; (with_reducible_and_instances (refine rwG (List.map_cons ..) ?_)); rewrite [xorL_cons]; rewrite [Nat.xor_assoc]; (with_reducible rfl))
theorem xorL_lin {F : Nat → Nat} (h0 : F 0 = 0) (hx : ∀ x y, F (x ^^^ y) = F x ^^^ F y) (h : α → Nat) : ∀ l : List α, xorL (l.map fun a => F (h a)) = F (xorL (l.map h))
  | [] => h0.symm
  | a :: l => by ((with_reducible_and_instances (refine rwG (List.map_cons ..) ?_; refine rwG (List.map_cons ..) ?_)); rewrite [xorL_cons]; rewrite [xorL_cons]; rewrite [hx]; (with_reducible_and_instances (refine rwG ((xorL_lin h0 hx h l) ..) ?_)); (with_reducible rfl))
theorem xorL_xor (a b : α → Nat) : ∀ l : List α, xorL (l.map fun x => a x ^^^ b x) = xorL (l.map a) ^^^ xorL (l.map b)
  | [] => (Nat.xor_zero 0).symm
  | x :: l => by
    ((with_reducible_and_instances (refine rwG (List.map_cons ..) ?_; refine rwG (List.map_cons ..) ?_; refine rwG (List.map_cons ..) ?_)); rewrite [xorL_cons]; rewrite [xorL_cons]; rewrite [xorL_cons]; (with_reducible_and_instances (refine rwG ((xorL_xor a b l) ..) ?_)))
    simp only [Nat.xor_assoc, Nat.xor_comm, xor_left]
theorem xorL_append (x y : List Nat) : xorL (x ++ y) = xorL x ^^^ xorL y := by
  induction x with
  | nil => exact (Nat.zero_xor _).symm
  | cons a x ih => ((with_reducible_and_instances (refine rwG (List.cons_append ..) ?_)); rewrite [xorL_cons]; rewrite [xorL_cons]; (with_reducible_and_instances (refine rwG (ih ..) ?_)); rewrite [Nat.xor_assoc]; (with_reducible rfl))
theorem xorL_flat (g : α → List β) (h : β → Nat) : ∀ l : List α, xorL ((l.flatMap g).map h) = xorL (l.map fun a => xorL ((g a).map h))
  | [] => rfl
  | a :: l => by ((with_reducible_and_instances (refine rwG (List.flatMap_cons ..) ?_; refine rwG (List.map_append ..) ?_)); rewrite [xorL_append]; (with_reducible_and_instances (refine rwG (List.map_cons ..) ?_)); rewrite [xorL_cons]; (with_reducible_and_instances (refine rwG ((xorL_flat g h l) ..) ?_)); (with_reducible rfl))
theorem xorL_const (c : Nat) : ∀ (m : Nat) (l : List α), l.length = 2 * m → xorL (l.map fun _ => c) = 0
  | 0, [], _ => rfl
  | 0, _ :: _, h => by simp at h
  | m + 1, [], h => by have h' : 0 = 2 * (m + 1) := h; lia
  | m + 1, [_], h => by have h' : 1 = 2 * (m + 1) := h; lia
  | m + 1, _ :: _ :: l, h => by
    ((with_reducible_and_instances (refine rwG (List.map_cons ..) ?_; refine rwG (List.map_cons ..) ?_)); rewrite [xorL_cons]; rewrite [xorL_cons]; rewrite [xx]; (with_reducible_and_instances (refine rwG ((xorL_const c m l (by simp at h; lia)) ..) ?_)); (with_reducible rfl))
end
theorem turned_zero : lawTurned 0 = 0 := by decide +kernel
theorem turned_red_zero : lawTurned (red 0) = 0 := by (with_reducible_and_instances (refine rwG (red_zero ..) ?_)); exact turned_zero

section
variable {D : Dr}
noncomputable def sumF (D : Dr) (k : Nat) : Nat := xorL ((filesN D.pieces D.gaps D.first k).map fun f => fullF f.1)
theorem even_files {k : Nat} : (filesN D.pieces D.gaps D.first (k + 1)).length = 2 * 2 ^ k := by rw [filesN_len, Nat.pow_succ, Nat.mul_comm]
theorem sum_behind {k : Nat} (x : List Nat) : xorL ((filesN D.pieces D.gaps D.first (k + 1)).map fun f => fullF (f.1 ++ x)) = sumF D (k + 1) * 2 ^ (8 * x.length) := by
  have e : (fun f : File => fullF (f.1 ++ x)) = fun f => fullF f.1 * 2 ^ (8 * x.length) ^^^ numOf x * 2 ^ 32 := funext fun f => full_app f.1 x
  ((with_reducible_and_instances (refine rwG (e ..) ?_)); rewrite [xorL_xor]; (with_reducible_and_instances (refine rwG ((xorL_const _ (2 ^ k) _ even_files) ..) ?_)); rewrite [Nat.xor_zero])
  exact xorL_lin (F := fun y => y * 2 ^ (8 * x.length)) (Nat.zero_mul _) (fun a b => mul_xor a b _) _ _
theorem grow_sum (p : List Nat × List Nat) (gap : List Nat) (f : File) : xorL ((growF p gap f).map fun f => fullF f.1) = (fullF f.1 ^^^ fullF (f.1 ++ gap)) * 2 ^ (8 * p.2.length) := by
  (rewrite [growF]; (with_reducible_and_instances (refine rwG (List.map_cons ..) ?_; refine rwG (List.map_cons ..) ?_; refine rwG (List.map_nil ..) ?_)); rewrite [xorL_cons]; rewrite [xorL_cons]; (with_reducible_and_instances (refine rwG (xorL_nil ..) ?_)); rewrite [Nat.xor_zero]; rewrite [fileA]; rewrite [fileB]; (with_reducible_and_instances (refine rwG ((full_app f.1 p.2) ..) ?_; refine rwG ((full_app (f.1 ++ gap) p.2) ..) ?_)); rewrite [mul_xor])
  generalize numOf p.2 * 2 ^ 32 = c
  generalize fullF f.1 * 2 ^ (8 * p.2.length) = x
  generalize fullF (f.1 ++ gap) * 2 ^ (8 * p.2.length) = y
  ((with_reducible_and_instances (refine rwG ((Nat.xor_comm y c) ..) ?_)); rewrite [Nat.xor_assoc]; rewrite [xx]; (with_reducible rfl))
theorem sumF_succ {k : Nat} : sumF D (k + 1) = (sumF D k ^^^ xorL ((filesN D.pieces D.gaps D.first k).map fun f => fullF (f.1 ++ D.gaps.getD (k + 1) []))) * 2 ^ (8 * (D.pieces.getD (k + 1) ([], [])).2.length) := by
  unfold sumF
  rw [filesN, xorL_flat, ← xorL_xor]
  (with_reducible_and_instances (refine rwG ((show (fun a : File => xorL ((growF (D.pieces.getD (k + 1) ([], [])) (D.gaps.getD (k + 1) []) a).map fun f => fullF f.1)) = fun f => (fullF f.1 ^^^ fullF (f.1 ++ D.gaps.getD (k + 1) [])) * 2 ^ (8 * (D.pieces.getD (k + 1) ([], [])).2.length) from funext fun f => grow_sum _ _ f) ..) ?_))
  exact xorL_lin (F := fun y => y * 2 ^ (8 * (D.pieces.getD (k + 1) ([], [])).2.length)) (Nat.zero_mul _) (fun a b => mul_xor a b _) _ _
theorem sumF_one : sumF D 1 = (fullF D.first ^^^ fullF (D.first ++ D.gaps.getD 1 [])) * 2 ^ (8 * (D.pieces.getD 1 ([], [])).2.length) := by
  have e : sumF D 0 = fullF D.first := by
    unfold sumF
    (rewrite [filesN]; (with_reducible_and_instances (refine rwG (List.map_cons ..) ?_; refine rwG (List.map_nil ..) ?_)); rewrite [xorL_cons]; (with_reducible_and_instances (refine rwG (xorL_nil ..) ?_)); rewrite [Nat.xor_zero]; (with_reducible rfl))
  ((with_reducible_and_instances (refine rwG (sumF_succ ..) ?_; refine rwG (e ..) ?_)); rewrite [filesN]; (with_reducible_and_instances (refine rwG (List.map_cons ..) ?_; refine rwG (List.map_nil ..) ?_)); rewrite [xorL_cons]; (with_reducible_and_instances (refine rwG (xorL_nil ..) ?_)); rewrite [Nat.xor_zero]; (with_reducible rfl))
theorem sumF_two {k : Nat} : sumF D (k + 2) = (sumF D (k + 1) ^^^ sumF D (k + 1) * 2 ^ (8 * (D.gaps.getD (k + 2) []).length)) * 2 ^ (8 * (D.pieces.getD (k + 2) ([], [])).2.length) := by
  ((with_reducible_and_instances (refine rwG (sumF_succ ..) ?_)); rewrite [sum_behind]; (with_reducible rfl))
noncomputable def wrN (D : Dr) (k : Nat) : Nat := 8 * (((D.pieces.drop 1).take k).map fun p => p.2.length).sum
theorem wrN_succ {k : Nat} (h : k + 1 < D.n) : wrN D (k + 1) = wrN D k + 8 * (D.pieces.getD (k + 1) ([], [])).2.length := by
  have e : (D.pieces.drop 1)[k]? = some (D.pieces.getD (k + 1) ([], [])) := by
    ((with_reducible_and_instances (refine rwG ((List.getElem?_drop) ..) ?_; refine rwG ((Nat.add_comm 1 k) ..) ?_)))
    exact getD_some (by (with_reducible_and_instances (refine rwG (pieces_len ..) ?_)); exact h)
  unfold wrN
  ((with_reducible_and_instances (refine rwG (List.take_add_one ..) ?_; refine rwG (e ..) ?_; refine rwG (List.map_append ..) ?_; refine rwG (List.sum_append ..) ?_)); rewrite [Nat.mul_add])
  simp
theorem gap_at {k : Nat} (h : k + 2 < D.n) : (D.gaps.drop 2)[k]? = some (D.gaps.getD (k + 2) []) := by
  ((with_reducible_and_instances (refine rwG ((List.getElem?_drop) ..) ?_; refine rwG ((Nat.add_comm 2 k) ..) ?_)))
  exact getD_some (by (with_reducible_and_instances (refine rwG (gaps_len ..) ?_)); exact h)
theorem red_mul (x : Nat) (j k : Nat) : red (x * 2 ^ j * 2 ^ k) = red (x * 2 ^ (j + k)) := by rw [Nat.mul_assoc, ← Nat.pow_add]
theorem sum_red : ∀ k, k + 1 < D.n → red (sumF D (k + 1)) = red (D.dueN k * 2 ^ wrN D (k + 1))
  | 0, h => by
    have e0 : D.dueN 0 = red (fullF D.first ^^^ fullF (D.first ++ D.gaps.getD 1 [])) := by
      show lawFront D.first ^^^ lawFront (D.first ++ D.gaps.getD 1 []) = _
      rw [front_red, front_red, red_xor]
    have ew : wrN D 1 = 8 * (D.pieces.getD 1 ([], [])).2.length := by
      (with_reducible_and_instances (refine rwG ((wrN_succ h) ..) ?_))
      show 8 * 0 + 8 * (D.pieces.getD 1 ([], [])).2.length = _
      lia
    ((with_reducible_and_instances (refine rwG (sumF_one ..) ?_; refine rwG (e0 ..) ?_; refine rwG (ew ..) ?_)); rewrite [← red_pow]; (with_reducible rfl))
  | k + 1, h => by
    have ih := sum_red k (by lia)
    have hd := dueN_succ (gap_at h)
    ((with_reducible_and_instances (refine rwG (sumF_two ..) ?_; refine rwG (hd ..) ?_; refine rwG ((wrN_succ h) ..) ?_)))
    generalize sumF D (k + 1) = s at *
    generalize D.dueN k = u at *
    generalize wrN D (k + 1) = w at *
    generalize 8 * (D.gaps.getD (k + 2) []).length = g
    generalize 8 * (D.pieces.getD (k + 2) ([], [])).2.length = v
    have e : red (s ^^^ s * 2 ^ g) = red ((u ^^^ u * 2 ^ g) * 2 ^ w) := by
      (rewrite [red_xor]; rewrite [mul_xor]; rewrite [red_xor]; rewrite [red_pow s]; (with_reducible_and_instances (refine rwG (ih ..) ?_)); rewrite [← red_pow])
      congr 1
      rw [red_mul, red_mul, Nat.add_comm]
    (rewrite [red_pow]; (with_reducible_and_instances (refine rwG (e ..) ?_)); rewrite [← red_pow]; rewrite [red_mul]; (with_reducible rfl))
theorem dueN_size : ∀ i, i ≤ (D.gaps.drop 2).length → D.dueN i < 2 ^ D.sizeN i
  | 0, _ => by
    show lawFront D.first ^^^ lawFront (D.first ++ D.gaps.getD 1 []) < 2 ^ 32
    rw [front_red, front_red]
    exact Nat.xor_lt_two_pow (red_lt _) (red_lt _)
  | i + 1, h => by
    have ih := dueN_size i (by lia)
    have hx := List.getElem?_eq_getElem (show i < (D.gaps.drop 2).length by lia)
    ((with_reducible_and_instances (refine rwG ((dueN_succ hx) ..) ?_; refine rwG ((sizeN_succ hx) ..) ?_)))
    refine Nat.xor_lt_two_pow (lt_pow ih (by lia)) ?_
    rw [Nat.pow_add]
    exact Nat.mul_lt_mul_of_pos_right ih (Nat.pow_pos (by decide))
theorem holds_behind : D.behindN D.files.length = lawTurned (lawRest (D.dueN (D.gaps.drop 2).length * 2 ^ D.moved) (D.sizeN (D.gaps.drop 2).length + D.moved)) := by
  have hn := n_three (D := D)
  obtain ⟨k, hk⟩ : ∃ k, D.n = k + 2 := ⟨D.n - 2, by lia⟩
  have hg : (D.gaps.drop 2).length = k := by ((with_reducible_and_instances (refine rwG (List.length_drop ..) ?_; refine rwG (gaps_len ..) ?_; refine rwG (hk ..) ?_))); lia
  have hfs : D.files = filesN D.pieces D.gaps D.first (k + 1) := by unfold Dr.files; (with_reducible_and_instances (refine rwG (hk ..) ?_)); rfl
  have e1 : D.behindN D.files.length = xorL (D.files.map fun f => lawTurned (red (fullF (f.1 ++ D.tail)))) := by
    unfold Dr.behindN
    ((with_reducible_and_instances (refine rwG (List.take_length ..) ?_)); rewrite [foldl_xor]; rewrite [Nat.zero_xor])
    refine congrArg xorL (List.map_congr_left fun f hf => ?_)
    have ht : D.textOf f = f.1 ++ D.tail := rfl
    ((with_reducible_and_instances (refine rwG ((reg_is hf) ..) ?_; refine rwG (ht ..) ?_; refine rwG ((run_turned ((files_oct hf).1.app tail_oct)) ..) ?_)); rewrite [front_red]; (with_reducible rfl))
  have e2 : xorL (D.files.map fun f => lawTurned (red (fullF (f.1 ++ D.tail)))) = lawTurned (red (xorL (D.files.map fun f => fullF (f.1 ++ D.tail)))) := by
    exact xorL_lin (F := fun x => lawTurned (red x)) turned_red_zero (fun x y => by rw [red_xor, turned_xor]) (fun f : File => fullF (f.1 ++ D.tail)) D.files
  have hsz := dueN_size (D := D) (D.gaps.drop 2).length (Nat.le_refl _)
  have hs32 := (sizeN_le (D := D) (D.gaps.drop 2).length (Nat.le_refl _)).1
  have e3 : lawRest (D.dueN (D.gaps.drop 2).length * 2 ^ D.moved) (D.sizeN (D.gaps.drop 2).length + D.moved) = red (D.dueN (D.gaps.drop 2).length * 2 ^ D.moved) := by
    refine lawRest_red ?_ (by lia)
    rw [Nat.pow_add]
    exact Nat.mul_lt_mul_of_pos_right hsz (Nat.pow_pos (by decide))
  have em : D.moved = wrN D (k + 1) + 8 * D.tail.length := by
    unfold Dr.moved wrN
    ((with_reducible_and_instances (refine rwG ((List.take_of_length_le (by rw [List.length_drop, pieces_len, hk]; lia)) ..) ?_)))
    lia
  ((with_reducible_and_instances (refine rwG (e1 ..) ?_; refine rwG (e2 ..) ?_; refine rwG (e3 ..) ?_; refine rwG (hfs ..) ?_)); rewrite [sum_behind]; rewrite [red_pow]; (with_reducible_and_instances (refine rwG ((sum_red k (by lia)) ..) ?_)); rewrite [← red_pow]; rewrite [red_mul]; (with_reducible_and_instances (refine rwG (hg ..) ?_; refine rwG (em ..) ?_)); (with_reducible rfl))

theorem foldl_words : ∀ (l : List File) (z : Nat), l.foldl (fun a f => f.2.1.foldl (fun a w => a ^^^ crcW w) a) z = z ^^^ xorL (l.map fun f => xorL (f.2.1.map crcW))
  | [], z => (Nat.xor_zero z).symm
  | f :: l, z => by
    ((with_reducible_and_instances (refine rwG (List.foldl_cons ..) ?_)); rewrite [foldl_words l]; rewrite [foldl_xor]; (with_reducible_and_instances (refine rwG (List.map_cons ..) ?_)); rewrite [xorL_cons]; rewrite [Nat.xor_assoc]; (with_reducible rfl))
theorem row_oct {x : List Nat} (h : x ∈ D.row) : Oct x := by
  obtain ⟨p, hp, rfl⟩ := List.mem_map.mp h
  obtain ⟨k, _, rfl⟩ := List.mem_map.mp hp
  exact pieceAt_oct.1
theorem flat_oct {r : List (List Nat)} (h : ∀ x ∈ r, Oct x) : Oct r.flatten := fun c hc => by
  obtain ⟨x, hx, hm⟩ := List.mem_flatten.mp hc
  exact h x hx c hm
theorem four_is : lawTurned (D.fourN 4) = xorL (D.rows.map fun r => crcW r.flatten) := by
  have e : D.fourN 4 = xorL (D.rows.map fun r => lawFront r.flatten ^^^ ones) := by
    unfold Dr.fourN
    ((with_reducible_and_instances (refine rwG ((show D.rows.take 4 = D.rows from rfl) ..) ?_)); rewrite [foldl_xor]; rewrite [Nat.zero_xor]; (with_reducible rfl))
  ((with_reducible_and_instances (refine rwG (e ..) ?_; refine rwL ((xorL_lin (F := lawTurned) turned_zero turned_xor (fun r : List (List Nat) => lawFront r.flatten ^^^ ones) D.rows) ..) ?_)))
  exact congrArg xorL (List.map_congr_left fun r hr => (crcW_turned (flat_oct fun x hx => row_oct ((rows_small hr).2 x hx))).symm)
theorem crcW_nil : crcW [] = 0 := by decide
theorem words_two (P : List (List Nat × List Nat)) (G : List (List Nat)) (first a b : List Nat) (h0 : (P.getD 0 ([], [])).1 = a) (h1 : (P.getD 1 ([], [])).1 = b) :
    xorL ((filesN P G first 1).map fun f => xorL (f.2.1.map crcW)) = crcW (a ++ b) ^^^ (crcW a ^^^ crcW b) := by
  simp only [filesN, growF, fileA, fileB, List.flatMap_cons, List.flatMap_nil, List.map_cons, List.map_nil, List.cons_append, List.nil_append, List.append_nil, xorL_cons, xorL_nil, h0, h1, List.dropLast, List.getLastD_cons, List.getLastD_nil]
  simp only [Nat.xor_zero]
theorem words_three (P : List (List Nat × List Nat)) (G : List (List Nat)) (first a b c : List Nat) (h0 : (P.getD 0 ([], [])).1 = a) (h1 : (P.getD 1 ([], [])).1 = b) (h2 : (P.getD 2 ([], [])).1 = c) :
    xorL ((filesN P G first 2).map fun f => xorL (f.2.1.map crcW)) = crcW (a ++ b ++ c) ^^^ (crcW (a ++ b) ^^^ (crcW (b ++ c) ^^^ crcW b)) := by
  simp only [filesN, growF, fileA, fileB, List.flatMap_cons, List.flatMap_nil, List.map_cons, List.map_nil, List.cons_append, List.nil_append, List.append_nil, xorL_cons, xorL_nil, h0, h1, h2, List.dropLast, List.getLastD_cons, List.getLastD_nil]
  generalize crcW (a ++ b ++ c) = x1
  generalize crcW (a ++ b) = x2
  generalize crcW (b ++ c) = x3
  generalize crcW a = x4
  generalize crcW b = x5
  generalize crcW c = x6
  simp only [Nat.xor_zero, Nat.xor_assoc, Nat.xor_comm, xor_left, xx, Nat.xor_self]
theorem words_four (P : List (List Nat × List Nat)) (G : List (List Nat)) (first a b c d : List Nat) (h0 : (P.getD 0 ([], [])).1 = a) (h1 : (P.getD 1 ([], [])).1 = b) (h2 : (P.getD 2 ([], [])).1 = c) (h3 : (P.getD 3 ([], [])).1 = d) :
    xorL ((filesN P G first 3).map fun f => xorL (f.2.1.map crcW)) = crcW (a ++ b ++ c ++ d) ^^^ (crcW (a ++ b ++ c) ^^^ (crcW (b ++ c ++ d) ^^^ crcW (b ++ c))) := by
  simp only [filesN, growF, fileA, fileB, List.flatMap_cons, List.flatMap_nil, List.map_cons, List.map_nil, List.cons_append, List.nil_append, List.append_nil, xorL_cons, xorL_nil, h0, h1, h2, h3, List.dropLast, List.getLastD_cons, List.getLastD_nil]
  generalize crcW (a ++ b ++ c ++ d) = x1
  generalize crcW (a ++ b ++ c) = x2
  generalize crcW (b ++ c ++ d) = x3
  generalize crcW (a ++ b) = x4
  generalize crcW (c ++ d) = x5
  generalize crcW (b ++ c) = x6
  generalize crcW a = x7
  generalize crcW b = x8
  generalize crcW c = x9
  generalize crcW d = x10
  simp only [Nat.xor_zero, Nat.xor_assoc, Nat.xor_comm, xor_left, xx, Nat.xor_self]
theorem holds_words : D.wordsN D.files.length = lawTurned (D.fourN 4) := by
  (with_reducible_and_instances (refine rwG (four_is ..) ?_))
  unfold Dr.wordsN
  ((with_reducible_and_instances (refine rwG (List.take_length ..) ?_)); rewrite [foldl_words]; rewrite [Nat.zero_xor])
  have hp : ∀ k, k < D.n → (D.pieces.getD k ([], [])).1 = (D.pieceAt k).1 := fun k hk => by ((with_reducible_and_instances (refine rwG ((pieces_get hk) ..) ?_)); (with_reducible rfl))
  have hr : D.row = (List.range D.n).map fun k => (D.pieceAt k).1 := by unfold Dr.row Dr.pieces; (with_reducible_and_instances (refine rwG (List.map_map ..) ?_)); rfl
  unfold Dr.files Dr.rows
  (with_reducible_and_instances (refine rwG (hr ..) ?_))
  simp only [List.map_cons, List.map_nil, xorL_cons, xorL_nil]
  rcases n_three (D := D) with h | h | h
  · ((with_reducible_and_instances (refine rwG (h ..) ?_; refine rwG ((show 2 - 1 = 1 from rfl) ..) ?_; refine rwG ((words_two _ _ _ _ _ (hp 0 (by lia)) (hp 1 (by lia))) ..) ?_; refine rwG ((show List.range 2 = [0, 1] from rfl) ..) ?_)))
    simp only [List.map_cons, List.map_nil, List.drop_succ_cons, List.drop_zero, List.dropLast, List.flatten_cons, List.flatten_nil, List.append_nil, crcW_nil, Nat.xor_zero]
    rw [Nat.xor_comm (crcW (D.pieceAt 0).1)]
  · ((with_reducible_and_instances (refine rwG (h ..) ?_; refine rwG ((show 3 - 1 = 2 from rfl) ..) ?_; refine rwG ((words_three _ _ _ _ _ _ (hp 0 (by lia)) (hp 1 (by lia)) (hp 2 (by lia))) ..) ?_; refine rwG ((show List.range 3 = [0, 1, 2] from rfl) ..) ?_)))
    simp only [List.map_cons, List.map_nil, List.drop_succ_cons, List.drop_zero, List.dropLast, List.flatten_cons, List.flatten_nil, List.append_nil, Nat.xor_zero, List.append_assoc]
    rw [xor_left (crcW ((D.pieceAt 0).1 ++ (D.pieceAt 1).1))]
  · ((with_reducible_and_instances (refine rwG (h ..) ?_; refine rwG ((show 4 - 1 = 3 from rfl) ..) ?_; refine rwG ((words_four _ _ _ _ _ _ _ (hp 0 (by lia)) (hp 1 (by lia)) (hp 2 (by lia)) (hp 3 (by lia))) ..) ?_; refine rwG ((show List.range 4 = [0, 1, 2, 3] from rfl) ..) ?_)))
    simp only [List.map_cons, List.map_nil, List.drop_succ_cons, List.drop_zero, List.dropLast, List.flatten_cons, List.flatten_nil, List.append_nil, Nat.xor_zero, List.append_assoc]
    rw [xor_left (crcW ((D.pieceAt 0).1 ++ ((D.pieceAt 1).1 ++ (D.pieceAt 2).1)))]
end
theorem holdsAll (D : Dr) (_ : D.Ok) : D.Holds := ⟨holds_due, holds_behind, holds_words⟩
end Mine.Internal
end

open PySem PySem.W PySem.W.X PySem.W.ZRun PyProof.Rows
set_option maxRecDepth 100000 in
set_option maxHeartbeats 8000000 in
theorem PySem.Challenge.cw_pk0026_01_holds : PySem.Challenge.rw_pk0026_01.Holds := by
  w_on; o_law; z_head; (case hw => w_witness2)
  k_fill
  intro w s₀ s₁ mg mb G y fa o pm cd doc dV kV ho hd hcd hD hmg hg args vals as L hpre hlay hrd hwl hlo
  z_open y L KX ZH ZN ZT
  refine Ground.open G ?_
  intro T B D TE TW
  wrow_args hpre hlay hrd hwl hlo
  obtain ⟨hat, hsz⟩ := script_at L
  have htk := script_toks L ZT
  rw [ZN] at hat hsz
  subst hat
  x_fa T KX hmg
  rename_i ns hs hlay0 hL1 hr1 hl2 as1 as2 vs as3 ra hI hr hcond hcond' hL w1 r0
  clear y hd hcd hD
  obtain ⟨xs, hpl⟩ := Mine.Internal.script_plain L
  have hpl' := Mine.Internal.plain_of_list hpl hL
  have hlen : ns.length ≤ 63 := by lia
  have hTab := tab_of (c := 97) (P := 93) (x := Str.ofString "_law_reads") (d := Mine.Internal.recD 9 (Mine.Internal.stmtPos (Mine.Internal.stmtAt Mine.Internal.theProg 9))) T KX (by kernel_rfl) (by kernel_rfl)
  have hfin := Mine.Internal.final01 (prog := PySem.Challenge.rw_pk0026_01.row.prog) (w := w) (ca := ⟨52, 51, 28, 35, 42, 49⟩) (c := 97) (PT := 93) (argA := 126) (fLaw := 125) T KX Mine.Internal.lookup_filter hTab.1 hTab.2
    (.of (j := 0) (by kernel_rfl)) (.of (j := 1) (by kernel_rfl)) (.of (j := 2) (by kernel_rfl)) (.of (j := 3) (by kernel_rfl)) (.of (j := 4) (by kernel_rfl)) (.of (j := 5) (by kernel_rfl)) (.of (j := 6) (by kernel_rfl)) (.of (j := 7) (by kernel_rfl)) (.of (j := 8) (by kernel_rfl)) (.of (j := 9) (by kernel_rfl)) (.of (j := 10) (by kernel_rfl))
    (fun fa o fd hm ho hd => law_code (P := 93) KX T.g (by kernel_rfl) hm ho hd) ?hbi (mg_of KX T.g (by kernel_rfl)) ?hcls hmg hpl' hI hlen Mine.Internal.holdsAll
  case hbi =>
    intro x hx
    simp only [List.mem_cons, List.not_mem_nil, or_false] at hx
    rcases hx with rfl | rfl | rfl | rfl | rfl | rfl | rfl | rfl | rfl <;> exact mg_none_of KX T.g (by kernel_rfl)
  case hcls =>
    refine {
      made := by kernel_rfl
      fi := by kernel_rfl
      ty := by kernel_rfl
      keep := by kernel_rfl
      cls := Mine.Internal.clsB_of (nm := Str.ofString "_netrclex") (q := Str.ofString "_netrclex") (bs := [.type "object"]) (sn := []) (sub := []) (ab := false) (col := none) (dd := none) (newId := "object.__new__")
        (by kernel_rfl) (by kernel_rfl) (by kernel_rfl) (by kernel_rfl) (by kernel_rfl) (by kernel_rfl) (by kernel_rfl) (by kernel_rfl) (by kernel_rfl) (by kernel_rfl) (by kernel_rfl) (by kernel_rfl) (by kernel_rfl) (by kernel_rfl) (by kernel_rfl) (by kernel_rfl) (by kernel_rfl) (by kernel_rfl) (by kernel_rfl) (by kernel_rfl)
      mI := .of2 (by kernel_rfl) (by kernel_rfl) (by kernel_rfl) (by kernel_rfl) (by kernel_rfl) (by kernel_rfl) (by kernel_rfl) (by kernel_rfl) (fun a b => by kernel_rfl)
      mR := .of1 (by kernel_rfl) (by kernel_rfl) (by kernel_rfl) (by kernel_rfl) (by kernel_rfl) (by kernel_rfl) (by kernel_rfl) (by kernel_rfl) (fun a => by kernel_rfl)
      mG := .of1 (by kernel_rfl) (by kernel_rfl) (by kernel_rfl) (by kernel_rfl) (by kernel_rfl) (by kernel_rfl) (by kernel_rfl) (by kernel_rfl) (fun a => by kernel_rfl)
      mP := .of2 (by kernel_rfl) (by kernel_rfl) (by kernel_rfl) (by kernel_rfl) (by kernel_rfl) (by kernel_rfl) (by kernel_rfl) (by kernel_rfl) (fun a b => by kernel_rfl) }
  refine wpAny_mono (Mine.Internal.wpAny_never hfin) (fun v s' q => ?_) fun _ _ q => q
  obtain ⟨rfl, q1, q2, q3, ps, q4⟩ := q
  refine ⟨.inl ⟨_, .bool true, [], rfl, fun _ => rfl, .bool true, by kernel_rfl, fun _ => ⟨List.nodup_nil, fun _ h => by cases h⟩⟩, ⟨fun b o e => ?_, fun b o e => ?_⟩, q2, .of_eq (q1.trans hg)⟩
  · by_cases hb : b = 93
    · subst hb
      rw [hTab.2] at e; cases e
      exact .inr (.inl ⟨((hTab.1.tab hTab.2).isCodeTable), rfl, #[], ps, rfl, by (first|with_reducible_and_instances refine rwG ((Array.empty_append) ..) ?_|rewrite [Array.empty_append]); exact q4⟩)
    · exact .inl (q3 b o hb e)
  · by_cases hb : b = 93
    · subst hb; exact ⟨_, q4⟩
    · exact ⟨o, q3 b o hb e⟩
