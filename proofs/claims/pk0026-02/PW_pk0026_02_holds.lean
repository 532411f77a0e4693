import PyProof.Rows.All
import Wide.All
import OpenK.AllK
import Wide.FinOn
import PySem.Challenge.RW_pk0026_02
set_option Elab.async false
set_option maxRecDepth 100000
set_option linter.unusedVariables false
set_option genSizeOf false
set_option genInjectivity false
set_option compiler.extract_closed false
local macro_rules | `(tactic| omega) => `(tactic| lia)

section
namespace Mine
open PySem PySem.Calls

noncomputable abbrev NoE : Value → Shared → Prop := fun _ _ => False

inductive PV where
  | none
  | bool (b : Bool)
  | int (i : Int)
  | str (x : List Nat)
  | list (xs : List PV)
  | tup (xs : List PV)
  | obj (a : Addr)
  | ty (n : String)

inductive LV where
  | undef
  | val (p : PV)
  | own (xs : List PV)
  | ro (p : PV)

noncomputable def LV.isRo : LV → Bool
  | .ro _ => true
  | _ => false

noncomputable def PlainTuple (h : Heap) (a : Addr) (items : Array Value) : Prop := ∃ n, h.get? a = some { cls := .type "tuple", data := .seq items n }

mutual
inductive Rep (X : Addr → Prop) (h : Heap) : Value → PV → Prop where
  | none : Rep X h .none .none
  | bool (b : Bool) : Rep X h (.bool b) (.bool b)
  | int (i : Int) (t : Tok) : Rep X h (.int i t) (.int i)
  | str (x : List Nat) (t : Tok) : Rep X h (.str ⟨x.toArray⟩ t) (.str x)
  | obj (a : Addr) : Rep X h (.ref a) (.obj a)
  | ty (n : String) : Rep X h (.type n) (.ty n)
  | list {a : Addr} {vs : Array Value} {xs : List PV} : ¬ X a → h.PlainList a vs → Reps X h vs.toList xs → Rep X h (.ref a) (.list xs)
  | tup {a : Addr} {vs : Array Value} {xs : List PV} : ¬ X a → PlainTuple h a vs → Reps X h vs.toList xs → Rep X h (.ref a) (.tup xs)
inductive Reps (X : Addr → Prop) (h : Heap) : List Value → List PV → Prop where
  | nil : Reps X h [] []
  | cons {v : Value} {p : PV} {vs : List Value} {ps : List PV} : Rep X h v p → Reps X h vs ps → Reps X h (v :: vs) (p :: ps)
end

/-- an object that holds a list or a tuple -/
noncomputable def Obj.isSeq (o : Obj) : Prop := ∃ xs n, o.data = .seq xs n
/-- a record such as a code object: it never turns -/
noncomputable def Obj.isRec (o : Obj) : Prop := o.cls = .type "code" ∧ ∃ vs, o.data = .fields vs

mutual
theorem Rep.mono {X X' : Addr → Prop} {h h' : Heap} (hX : ∀ a o, ¬ X a → Obj.isSeq o → h.get? a = some o → ¬ X' a) (hk : ∀ a o, ¬ X a → Obj.isSeq o → h.get? a = some o → h'.get? a = some o) :
    ∀ {v : Value} {p : PV}, Rep X h v p → Rep X' h' v p
  | _, _, .none => .none
  | _, _, .bool b => .bool b
  | _, _, .int i t => .int i t
  | _, _, .str x t => .str x t
  | _, _, .obj a => .obj a
  | _, _, .ty n => .ty n
  | _, _, .list hx ⟨n, hl⟩ hr => .list (hX _ _ hx ⟨_, _, rfl⟩ hl) ⟨n, hk _ _ hx ⟨_, _, rfl⟩ hl⟩ (Reps.mono hX hk hr)
  | _, _, .tup hx ⟨n, hl⟩ hr => .tup (hX _ _ hx ⟨_, _, rfl⟩ hl) ⟨n, hk _ _ hx ⟨_, _, rfl⟩ hl⟩ (Reps.mono hX hk hr)
theorem Reps.mono {X X' : Addr → Prop} {h h' : Heap} (hX : ∀ a o, ¬ X a → Obj.isSeq o → h.get? a = some o → ¬ X' a) (hk : ∀ a o, ¬ X a → Obj.isSeq o → h.get? a = some o → h'.get? a = some o) :
    ∀ {vs : List Value} {ps : List PV}, Reps X h vs ps → Reps X' h' vs ps
  | _, _, .nil => .nil
  | _, _, .cons h1 h2 => .cons (Rep.mono hX hk h1) (Reps.mono hX hk h2)
end

theorem Rep.of_obj {X : Addr → Prop} {h : Heap} {v : Value} {a : Addr} (r : Rep X h v (.obj a)) : v = .ref a := by cases r; rfl
theorem Reps.length {X : Addr → Prop} {h : Heap} : ∀ {vs : List Value} {ps : List PV}, Reps X h vs ps → vs.length = ps.length
  | _, _, .nil => rfl
  | _, _, .cons _ r => by rw [List.length_cons, List.length_cons, r.length]
theorem Reps.get {X : Addr → Prop} {h : Heap} : ∀ {vs : List Value} {ps : List PV}, Reps X h vs ps → ∀ {i : Nat} {p : PV}, ps[i]? = some p → ∃ v, vs[i]? = some v ∧ Rep X h v p
  | _, _, .nil, i, p, e => by simp at e
  | _, _, .cons (v := v) h1 r, i, p, e => by
    cases i with
    | zero => simp at e; subst e; exact ⟨v, by simp, h1⟩
    | succ i => simp at e; obtain ⟨v', a, b⟩ := r.get e; exact ⟨v', by simpa using a, b⟩
theorem Reps.append {X : Addr → Prop} {h : Heap} : ∀ {vs : List Value} {ps : List PV} {vs' : List Value} {ps' : List PV}, Reps X h vs ps → Reps X h vs' ps' → Reps X h (vs ++ vs') (ps ++ ps')
  | _, _, _, _, .nil, r => r
  | _, _, _, _, .cons h1 r, r' => .cons h1 (r.append r')
theorem Reps.take {X : Addr → Prop} {h : Heap} : ∀ {vs : List Value} {ps : List PV} (n : Nat), Reps X h vs ps → Reps X h (vs.take n) (ps.take n)
  | _, _, 0, _ => by simpa using Reps.nil
  | _, _, n + 1, .nil => by simpa using Reps.nil
  | _, _, n + 1, .cons h1 r => by simpa using Reps.cons h1 (r.take n)
theorem Reps.drop {X : Addr → Prop} {h : Heap} : ∀ {vs : List Value} {ps : List PV} (n : Nat), Reps X h vs ps → Reps X h (vs.drop n) (ps.drop n)
  | _, _, 0, r => by simpa using r
  | _, _, n + 1, .nil => by simpa using Reps.nil
  | _, _, n + 1, .cons h1 r => by simpa using r.drop n

theorem ne_get {h : Heap} {a b : Addr} {o : Obj} (e : h.get? a = some o) (n : h.get? b = none) : a ≠ b := fun z => by rw [z, n] at e; cases e

structure Cx where
  prog : Program
  w : World
  A : Around
  env : Env
  Z : Str → Prop
  s₀ : Shared
  F : Addr → Prop
  X : Addr → Prop
  M : Addr → Prop
  G : Type
  W : G → Heap → Prop
  names : List Str
  T : Heap → Prop
  d : Nat

noncomputable abbrev Cx.mod (C : Cx) : Model := model C.prog C.w

noncomputable def isCellAddr (C : Cx) (a : Addr) : Prop := ∃ x, C.env.cells.lookup x = some a

structure Cx.Ok (C : Cx) : Prop where
  kind : C.env.scope.kind = .function
  handled : C.A.handled = none
  depth : C.A.depth + C.d < recursionLimit
  units : C.A.units + 20 * C.d + 200 < cLine
  top : ∀ h, (∀ a o, ¬ C.F a → ¬ C.M a → C.s₀.heap.get? a = some o → h.get? a = some o) → C.T h
  locF : C.F C.env.locals
  locM : ¬ C.M C.env.locals
  cellM : ∀ x c, C.env.cells.lookup x = some c → ¬ C.M c
  cellF : ∀ x c, C.env.kindOf x = some .cell → ¬ C.Z x → C.env.cells.lookup x = some c → C.F c
  inj : ∀ x y c, C.env.cells.lookup x = some c → C.env.cells.lookup y = some c → x = y
  fresh : ∀ a, C.s₀.heap.get? a = none → C.F a
  mx : ∀ a, C.M a → C.X a
  xf : ∀ a, C.X a → ¬ C.F a
  xs : ∀ a, C.X a → ∃ o, C.s₀.heap.get? a = some o
  wm : ∀ g h a, C.W g h → C.M a → ∃ o, h.get? a = some o
  stab : ∀ g h h', C.W g h → (∀ a o, (C.M a ∨ Obj.isRec o) → h.get? a = some o → h'.get? a = some o) → C.W g h'
  nodup : C.names.Nodup
  kinds : ∀ x ∈ C.names, C.env.kindOf x = some .local ∨ ((C.env.kindOf x = some .cell ∨ C.env.kindOf x = some .free) ∧ (C.env.cells.lookup x).isSome = true)
  notDebug : ∀ x ∈ C.names, (x == ("__debug__" : Str)) = false ∧ (x == ("__classdict__" : Str)) = false

noncomputable def Slot (C : Cx) (m : Str → Option Value) (h : Heap) (x : Str) (u : Value) : Prop :=
  (C.env.kindOf x = some .local ∧ m x = some u) ∨
  ((C.env.kindOf x = some .cell ∨ C.env.kindOf x = some .free) ∧ ∃ c, C.env.cells.lookup x = some c ∧ h.IsCell c (some u))

noncomputable def avoid (C : Cx) (O : List (Str × Addr)) : Addr → Prop := fun a => C.X a ∨ ∃ x, (x, a) ∈ O

/-- a name that the frame may store: none of an outer frame, none that is held fast -/
noncomputable def Rw (C : Cx) (x : Str) : Prop := C.env.kindOf x ≠ some .free ∧ ¬ C.Z x

noncomputable def LIs (C : Cx) (O : List (Str × Addr)) (m : Str → Option Value) (h : Heap) (x : Str) : LV → Prop
  | .undef => Rw C x
  | .val p => Rw C x ∧ ∃ u, Slot C m h x u ∧ Rep (avoid C O) h u p
  | .own xs => Rw C x ∧ ∃ a vs, Slot C m h x (.ref a) ∧ (x, a) ∈ O ∧ h.PlainList a vs ∧ Reps (avoid C O) h vs.toList xs
  | .ro p => ∃ u, Slot C m h x u ∧ Rep (avoid C O) h u p

structure Inv (C : Cx) (ρ : List (Str × LV)) (O : List (Str × Addr)) (g : C.G) (s : Shared) : Prop where
  rest : s.gens = C.s₀.gens ∧ s.drawn = C.s₀.drawn ∧ s.os = C.s₀.os
  old : ∀ a o, ¬ C.F a → ¬ C.M a → C.s₀.heap.get? a = some o → s.heap.get? a = some o
  world : C.W g s.heap
  names : ρ.map (·.1) = C.names
  loc : ∃ m, s.heap.Ns C.env.locals m ∧ ∀ x v, (x, v) ∈ ρ → LIs C O m s.heap x v
  cells : ∀ x c, C.env.cells.lookup x = some c → ∃ v, s.heap.IsCell c v
  own : ∀ x a, (x, a) ∈ O → C.F a ∧ ¬ C.M a ∧ ∃ vs, s.heap.PlainList a vs
  uniq : ∀ x y a, (x, a) ∈ O → (y, a) ∈ O → x = y

structure Step (C : Cx) (g' : C.G) (s s' : Shared) : Prop where
  rest : s'.gens = s.gens ∧ s'.drawn = s.drawn ∧ s'.os = s.os
  keep : ∀ a o, ¬ C.M a → s.heap.get? a = some o → s'.heap.get? a = some o
  world : C.W g' s'.heap

theorem Step.refl {C : Cx} {g : C.G} {s : Shared} (w : C.W g s.heap) : Step C g s s := ⟨⟨rfl, rfl, rfl⟩, fun _ _ _ e => e, w⟩
theorem Step.trans {C : Cx} {g g' : C.G} {s s' s'' : Shared} (a : Step C g s s') (b : Step C g' s' s'') : Step C g' s s'' :=
  ⟨⟨b.rest.1.trans a.rest.1, b.rest.2.1.trans a.rest.2.1, b.rest.2.2.trans a.rest.2.2⟩, fun x o hm e => b.keep x o hm (a.keep x o hm e), b.world⟩

theorem Ns_of {h h' : Heap} {a : Addr} {m : Str → Option Value} (n : h.Ns a m) (e : ∀ o, h.get? a = some o → h'.get? a = some o) : h'.Ns a m := n.at' e
theorem IsCell_of {h h' : Heap} {a : Addr} {v : Option Value} (n : h.IsCell a v) (e : ∀ o, h.get? a = some o → h'.get? a = some o) : h'.IsCell a v :=
  let ⟨o, a, b⟩ := n; ⟨o, e o a, b⟩

section
variable {C : Cx} {ρ : List (Str × LV)} {O : List (Str × Addr)} {g g' : C.G} {s s' : Shared}

theorem avoid_not_M (hC : C.Ok) {a : Addr} (h : ¬ avoid C O a) : ¬ C.M a := fun m => h (.inl (hC.mx a m))

theorem Rep.step (hC : C.Ok) (st : Step C g' s s') {u : Value} {p : PV} (r : Rep (avoid C O) s.heap u p) : Rep (avoid C O) s'.heap u p :=
  r.mono (fun _ _ h _ _ => h) fun a o h _ e => st.keep a o (avoid_not_M hC h) e
theorem Reps.step (hC : C.Ok) (st : Step C g' s s') {u : List Value} {p : List PV} (r : Reps (avoid C O) s.heap u p) : Reps (avoid C O) s'.heap u p :=
  r.mono (fun _ _ h _ _ => h) fun a o h _ e => st.keep a o (avoid_not_M hC h) e

theorem Slot.of {m : Str → Option Value} {h h' : Heap} {x : Str} {u : Value} (k : ∀ c, C.env.cells.lookup x = some c → ∀ o, h.get? c = some o → h'.get? c = some o) (q : Slot C m h x u) : Slot C m h' x u := by
  rcases q with q | ⟨q1, c, q2, q3⟩
  · exact .inl q
  · exact .inr ⟨q1, c, q2, IsCell_of q3 (k c q2)⟩

theorem Inv.step (hC : C.Ok) (I : Inv C ρ O g s) (st : Step C g' s s') : Inv C ρ O g' s' := by
  obtain ⟨m, hn, hl⟩ := I.loc
  refine ⟨⟨st.rest.1.trans I.rest.1, st.rest.2.1.trans I.rest.2.1, st.rest.2.2.trans I.rest.2.2⟩, fun a o hf hm e => st.keep a o hm (I.old a o hf hm e), st.world, I.names,
    ⟨m, Ns_of hn fun o e => st.keep _ o hC.locM e, fun x v hx => ?_⟩, fun x c hc => ?_, fun x a ha => ?_, I.uniq⟩
  · have q := hl x v hx
    cases v with
    | undef => exact q
    | val p =>
      obtain ⟨q0, u, q1, q2⟩ := q
      exact ⟨q0, u, q1.of fun c hc o e => st.keep c o (hC.cellM x c hc) e, q2.step hC st⟩
    | ro p =>
      obtain ⟨u, q1, q2⟩ := q
      exact ⟨u, q1.of fun c hc o e => st.keep c o (hC.cellM x c hc) e, q2.step hC st⟩
    | own xs =>
      obtain ⟨q0, a, vs, q1, q2, ⟨n, q3⟩, q4⟩ := q
      exact ⟨q0, a, vs, q1.of fun c hc o e => st.keep c o (hC.cellM x c hc) e, q2, ⟨n, st.keep a _ (I.own x a q2).2.1 q3⟩, q4.step hC st⟩
  · obtain ⟨v, hv⟩ := I.cells x c hc
    exact ⟨v, IsCell_of hv fun o e => st.keep c o (hC.cellM x c hc) e⟩
  · obtain ⟨f, hm, vs, n, e⟩ := I.own x a ha
    exact ⟨f, hm, vs, n, st.keep a _ hm e⟩

/-- an address that bears nothing now is the frame's own -/
theorem Inv.new (hC : C.Ok) (I : Inv C ρ O g s) {a : Addr} (e : s.heap.get? a = none) : C.F a ∧ ¬ C.X a ∧ ¬ C.M a ∧ ¬ avoid C O a := by
  have hm : ¬ C.M a := fun m => by obtain ⟨o, ho⟩ := hC.wm g s.heap a I.world m; rw [ho] at e; cases e
  have hx : ¬ C.X a := fun x => by
    obtain ⟨o, ho⟩ := hC.xs a x
    rw [I.old a o (hC.xf a x) hm ho] at e; cases e
  refine ⟨?_, hx, hm, ?_⟩
  · by_cases f : C.F a
    · exact f
    · refine hC.fresh a ?_
      cases h0 : C.s₀.heap.get? a with
      | none => rfl
      | some o => rw [I.old a o f hm h0] at e; cases e
  · rintro (x | ⟨x, hx'⟩)
    · exact hx x
    · obtain ⟨_, _, vs, n, e'⟩ := I.own x a hx'
      rw [e'] at e; cases e
end
theorem get_size_none (h : Heap) : h.get? h.objs.size = none := by
  cases e : h.get? h.objs.size with
  | none => rfl
  | some o => exact absurd (Heap.lt_size e) (Nat.lt_irrefl _)

/-! judgements -/
noncomputable def Ev (C : Cx) (ρ : List (Str × LV)) (g : C.G) (e : Expr) (v : PV) (g' : C.G) : Prop :=
  ∀ O s, Inv C ρ O g s → wpAny C.mod C.A (eval e C.env) (fun u s' => Rep (avoid C O) s'.heap u v ∧ Step C g' s s') NoE s
noncomputable def EvB (C : Cx) (ρ : List (Str × LV)) (g : C.G) (e : Expr) (b : Bool) (g' : C.G) : Prop :=
  ∀ O s, Inv C ρ O g s → wpAny C.mod C.A (isTrue e C.env (eval e C.env)) (fun b' s' => b' = b ∧ Step C g' s s') NoE s
noncomputable def EvL (C : Cx) (ρ : List (Str × LV)) (g : C.G) (es : List Expr) (vs : List PV) (g' : C.G) : Prop :=
  ∀ O s pos, Inv C ρ O g s → wpAny C.mod C.A (spliced (backTo pos (starEach es C.env))) (fun us s' => Reps (avoid C O) s'.heap us vs ∧ Step C g' s s') NoE s

section
variable {C : Cx} {ρ : List (Str × LV)} {g g' g₁ g₂ : C.G}

theorem Ev.int {i : Int} {k : Nat} {pos : Pos} : Ev C ρ g (.Constant (.int i) k pos) (.int i) g := fun _ _ I => wpAny_Constant_int ⟨.int _ _, ⟨rfl, rfl, rfl⟩, fun _ _ _ e => e, I.world⟩
theorem Ev.bool {b : Bool} {k : Nat} {pos : Pos} : Ev C ρ g (.Constant (.bool b) k pos) (.bool b) g := fun _ _ I => wpAny_Constant_bool ⟨.bool _, .refl I.world⟩
theorem Ev.str {x : Str} {k : Nat} {pos : Pos} {l : List Nat} (h : x.cps.toList = l) : Ev C ρ g (.Constant (.str x) k pos) (.str l) g := fun _ _ I => by
  subst h
  exact wpAny_Constant_str ⟨.str x.cps.toList _, ⟨rfl, rfl, rfl⟩, fun _ _ _ e => e, I.world⟩

theorem Ev.slot (hC : C.Ok) {x : Str} {pos : Pos} {p : PV} (hx : x ∈ C.names) (h : ∀ O s m, Inv C ρ O g s → (∀ x v, (x, v) ∈ ρ → LIs C O m s.heap x v) → ∃ u, Slot C m s.heap x u ∧ Rep (avoid C O) s.heap u p) : Ev C ρ g (.Name x pos) p g := fun O s I => by
  obtain ⟨m, hn, hl⟩ := I.loc
  obtain ⟨u, q, r⟩ := h O s m I hl
  have hd := hC.notDebug x hx
  refine wpAny_Name ?_ hd.1
  rcases q with ⟨q1, q2⟩ | ⟨q1 | q1, c, q2, q3⟩
  · exact wpAny_loadName_local hC.kind q1 hn q2 ⟨r, .refl I.world⟩
  · exact wpAny_loadName_cell hC.kind q1 q2 q3 ⟨r, .refl I.world⟩
  · exact wpAny_loadName_free hC.kind q1 q2 q3 ⟨r, .refl I.world⟩ hd.2
theorem mem_names {C : Cx} {ρ : List (Str × LV)} {x : Str} {v : LV} (e : ρ.map (·.1) = C.names) (h : (x, v) ∈ ρ) : x ∈ C.names := by
  rw [← e]; exact List.mem_map.mpr ⟨_, h, rfl⟩
theorem Ev.name (hC : C.Ok) {x : Str} {pos : Pos} {p : PV} (h : (x, LV.val p) ∈ ρ) : Ev C ρ g (.Name x pos) p g := fun O s I =>
  Ev.slot hC (mem_names I.names h) (fun O s m I hl => (hl x _ h).2) O s I
theorem Ev.nameRo (hC : C.Ok) {x : Str} {pos : Pos} {p : PV} (h : (x, LV.ro p) ∈ ρ) : Ev C ρ g (.Name x pos) p g := fun O s I =>
  Ev.slot hC (mem_names I.names h) (fun O s m I hl => hl x _ h) O s I
end
end Mine
end

section
namespace Mine
open PySem PySem.Calls

noncomputable def Op2 (C : Cx) (f : Value → Value → Sem Value) (p q r : PV) : Prop :=
  ∀ (X : Addr → Prop) (s : Shared) (u v : Value), (∀ a, s.heap.get? a = none → ¬ X a) → Rep X s.heap u p → Rep X s.heap v q →
    wpAny C.mod C.A (f u v) (fun z s' => Rep X s'.heap z r ∧ Keeps s s') NoE s
noncomputable def Op1 (C : Cx) (f : Value → Sem Value) (p r : PV) : Prop :=
  ∀ (X : Addr → Prop) (s : Shared) (u : Value), (∀ a, s.heap.get? a = none → ¬ X a) → Rep X s.heap u p →
    wpAny C.mod C.A (f u) (fun z s' => Rep X s'.heap z r ∧ Keeps s s') NoE s

theorem keeps_tok {s : Shared} {n : Nat} : Keeps s { s with toks := n } := ⟨s.heap, n, rfl, fun _ _ e => e⟩
theorem keeps_refl {s : Shared} : Keeps s s := ⟨s.heap, s.toks, rfl, fun _ _ e => e⟩
theorem keeps_push {s : Shared} {o : Obj} : Keeps s { s with heap := s.heap.push o } := ⟨_, s.toks, rfl, fun _ _ e => Heap.get?_push_of_some _ e⟩

theorem Step.of_keeps {C : Cx} (hC : C.Ok) {g : C.G} {s s' : Shared} (w : C.W g s.heap) (k : Keeps s s') : Step C g s s' := by
  obtain ⟨h', tk, rfl, k⟩ := k
  exact ⟨⟨rfl, rfl, rfl⟩, fun a o _ e => k a o e, hC.stab g _ _ w fun a o _ e => k a o e⟩

section
variable {C : Cx} {ρ : List (Str × LV)} {g g' g₁ g₂ : C.G}

theorem Ev.bin (hC : C.Ok) {a b : Expr} {op : Operator} {pos : Pos} {p q r : PV} (h1 : Ev C ρ g a p g₁) (h2 : Ev C ρ g₁ b q g₂) (ho : Op2 C (binaryOp op) p q r) : Ev C ρ g (.BinOp a op b pos) r g₂ := fun O s I =>
  wpAny_BinOp (wpAny_mono (h1 O s I) (fun u s₁ ⟨r1, st1⟩ =>
    have I1 := I.step hC st1
    wpAny_mono (h2 O s₁ I1) (fun v s₂ ⟨r2, st2⟩ =>
      have I2 := I1.step hC st2
      wpAny_mono (ho (avoid C O) s₂ u v (fun x e => (I2.new hC e).2.2.2) (r1.step hC st2) r2) (fun z s₃ ⟨r3, k⟩ => ⟨r3, (st1.trans st2).trans (.of_keeps hC I2.world k)⟩) fun _ _ x => x) fun _ _ x => x) fun _ _ x => x)

theorem Ev.cmp (hC : C.Ok) {a b : Expr} {op : CmpOp} {pos : Pos} {p q r : PV} (h1 : Ev C ρ g a p g₁) (h2 : Ev C ρ g₁ b q g₂) (ho : Op2 C (compareOp op) p q r)
    (hm : behindInMarks op b = false := by with_unfolding_all rfl) : Ev C ρ g (.Compare a [op] [b] pos) r g₂ := fun O s I =>
  wpAny_Compare1 (wpAny_mono (h1 O s I) (fun u s₁ ⟨r1, st1⟩ =>
    have I1 := I.step hC st1
    wpAny_mono (h2 O s₁ I1) (fun v s₂ ⟨r2, st2⟩ =>
      have I2 := I1.step hC st2
      wpAny_mono (ho (avoid C O) s₂ u v (fun x e => (I2.new hC e).2.2.2) (r1.step hC st2) r2) (fun z s₃ ⟨r3, k⟩ => ⟨r3, (st1.trans st2).trans (.of_keeps hC I2.world k)⟩) fun _ _ x => x) fun _ _ x => x) fun _ _ x => x) hm

/-- a test by a comparison -/
theorem EvB.cmp (hC : C.Ok) {a b : Expr} {op : CmpOp} {pos : Pos} {p q : PV} {r : Bool} (h1 : Ev C ρ g a p g₁) (h2 : Ev C ρ g₁ b q g₂) (ho : Op2 C (compareOp op) p q (.bool r))
    (hm : behindInMarks op b = false := by with_unfolding_all rfl) : EvB C ρ g (.Compare a [op] [b] pos) r g₂ := fun O s I =>
  wpAny_isTrue_Compare1 (wpAny_mono (h1 O s I) (fun u s₁ ⟨r1, st1⟩ =>
    have I1 := I.step hC st1
    wpAny_mono (h2 O s₁ I1) (fun v s₂ ⟨r2, st2⟩ =>
      have I2 := I1.step hC st2
      wpAny_mono (ho (avoid C O) s₂ u v (fun x e => (I2.new hC e).2.2.2) (r1.step hC st2) r2) (fun z s₃ ⟨r3, k⟩ => by
        cases r3
        exact wpAny_truthy_bool ⟨rfl, (st1.trans st2).trans (.of_keeps hC I2.world k)⟩) fun _ _ x => x) fun _ _ x => x) fun _ _ x => x) hm

theorem EvB.not (hC : C.Ok) {a : Expr} {pos : Pos} {b : Bool} (h : EvB C ρ g a b g₁) : EvB C ρ g (.UnaryOp .Not a pos) (!b) g₁ := fun O s I =>
  wpAny_isTrue_Not (wpAny_mono (h O s I) (fun b' s₁ ⟨e, st⟩ => ⟨by rw [e], st⟩) fun _ _ x => x)

/-- a test by a value's truth -/
noncomputable def truthOf : PV → Bool
  | .none => false
  | .bool b => b
  | .int i => i != 0
  | .str x => !x.isEmpty
  | .list xs => !xs.isEmpty
  | .tup xs => !xs.isEmpty
  | .obj _ => true
  | .ty _ => true
theorem EvB.val (hC : C.Ok) {e : Expr} {p : PV} (h : Ev C ρ g e p g₁) (hp : (match p with | .bool _ => true | .int _ => true | _ => false) = true)
    (he : isTrue e C.env (eval e C.env) = (do let v ← eval e C.env; standAt e.pos; holding [v] (truthy v)) := by rfl) : EvB C ρ g e (truthOf p) g₁ := fun O s I =>
  wpAny_isTrue_value (wpAny_mono (h O s I) (fun u s₁ ⟨r, st⟩ => by
    cases r with
    | bool b => exact wpAny_truthy_bool ⟨rfl, st⟩
    | int i t => exact PyProof.Rows.truthy_int ⟨rfl, st⟩
    | none => cases hp
    | str => cases hp
    | list => cases hp
    | tup => cases hp
    | obj => cases hp
    | ty => cases hp) fun _ _ x => x) he

noncomputable def EvAll (C : Cx) (ρ : List (Str × LV)) (g : C.G) (op : BoolOp) (es : List Expr) (b : Bool) (g' : C.G) : Prop :=
  ∀ O s, Inv C ρ O g s → wpAny C.mod C.A (allTrue op es C.env) (fun b' s' => b' = b ∧ Step C g' s s') NoE s
theorem EvAll.nilOr : EvAll C ρ g .Or [] false g := fun O s I => wpAny_allTrue_Or_nil ⟨rfl, .refl I.world⟩
theorem EvAll.consOr (hC : C.Ok) {a : Expr} {es : List Expr} {b c : Bool} (h1 : EvB C ρ g a b g) (h2 : b = false → EvAll C ρ g .Or es c g) : EvAll C ρ g .Or (a :: es) (b || c) g := fun O s I => by
  refine wpAny_allTrue_Or_cons (wpAny_mono (h1 O s I) (fun b' s₁ ⟨e, st⟩ => ?_) fun _ _ x => x)
  subst e
  cases b' with
  | true => exact ⟨rfl, st⟩
  | false => exact wpAny_mono (h2 rfl O s₁ (I.step hC st)) (fun c' s₂ ⟨e, st2⟩ => ⟨by rw [e]; rfl, st.trans st2⟩) fun _ _ x => x
theorem EvB.boolOp {op : BoolOp} {es : List Expr} {pos : Pos} {b : Bool} (h : EvAll C ρ g op es b g₁) : EvB C ρ g (.BoolOp op es pos) b g₁ := fun O s I => wpAny_isTrue_BoolOp (h O s I)

theorem Ev.ifExp (hC : C.Ok) {t a b : Expr} {pos : Pos} {c : Bool} {p : PV} (h : EvB C ρ g t c g₁) (h1 : c = true → Ev C ρ g₁ a p g₂) (h2 : c = false → Ev C ρ g₁ b p g₂) : Ev C ρ g (.IfExp t a b pos) p g₂ := fun O s I => by
  refine wpAny_IfExp (wpAny_mono (h O s I) (fun c' s₁ ⟨e, st⟩ => ?_) fun _ _ x => x)
  subst e
  cases c' with
  | true => exact wpAny_mono (h1 rfl O s₁ (I.step hC st)) (fun u s₂ ⟨r, st2⟩ => ⟨r, st.trans st2⟩) fun _ _ x => x
  | false => exact wpAny_mono (h2 rfl O s₁ (I.step hC st)) (fun u s₂ ⟨r, st2⟩ => ⟨r, st.trans st2⟩) fun _ _ x => x

theorem EvL.nil : EvL C ρ g [] [] g := fun O s pos I => spliced_nil ⟨.nil, .refl I.world⟩
theorem EvL.cons (hC : C.Ok) {e : Expr} {es : List Expr} {p : PV} {ps : List PV} (h1 : Ev C ρ g e p g₁) (h2 : EvL C ρ g₁ es ps g₂)
    (hs : ∀ pos, backTo pos (starEach (e :: es) C.env) = (false, eval e C.env) :: backTo pos (starEach es C.env) := by intro _; rfl) : EvL C ρ g (e :: es) (p :: ps) g₂ := fun O s pos I => by
  rw [hs]
  refine spliced_cons (wpAny_mono (h1 O s I) (fun u s₁ ⟨r1, st1⟩ => ?_) fun _ _ x => x)
  have I1 := I.step hC st1
  exact wpAny_mono (h2 O s₁ pos I1) (fun us s₂ ⟨r2, st2⟩ => ⟨.cons (r1.step hC st2) r2, st1.trans st2⟩) fun _ _ x => x

theorem Ev.list (hC : C.Ok) {es : List Expr} {pos : Pos} {ps : List PV} (h : EvL C ρ g es ps g₁) (hn : ps.length ≤ 4096) : Ev C ρ g (.List es pos) (.list ps) g₁ := fun O s I =>
  wpAny_List (wpAny_mono (h O s pos I) (fun us s₁ ⟨r, st⟩ => by
    have I1 := I.step hC st
    have hl := r.length
    refine ⟨by rw [hl]; show _ ≤ 2 ^ 24; omega, .list (I1.new hC (get_size_none _)).2.2.2 ⟨0, Heap.get?_push_size _ rfl⟩ ?_, st.trans (.of_keeps hC I1.world keeps_push)⟩
    exact r.mono (fun _ _ h _ _ => h) fun a o _ _ e => Heap.get?_push_of_some _ e) fun _ _ x => x)
theorem Ev.tup (hC : C.Ok) {es : List Expr} {k : Nat} {pos : Pos} {ps : List PV} (h : EvL C ρ g es ps g₁) (hn : ps.length ≤ 4096) : Ev C ρ g (.Tuple es k pos) (.tup ps) g₁ := fun O s I =>
  wpAny_Tuple (wpAny_mono (h O s pos I) (fun us s₁ ⟨r, st⟩ => by
    have I1 := I.step hC st
    have hl := r.length
    refine ⟨by rw [hl]; show _ ≤ 2 ^ 24; omega, .tup (I1.new hC (get_size_none _)).2.2.2 ⟨0, Heap.get?_push_size _ rfl⟩ ?_, st.trans (.of_keeps hC I1.world keeps_push)⟩
    exact r.mono (fun _ _ h _ _ => h) fun a o _ _ e => Heap.get?_push_of_some _ e) fun _ _ x => x)

/-! operations on ints -/
theorem op_add {a b : Int} : Op2 C (binaryOp .Add) (.int a) (.int b) (.int (a + b)) := fun X s u v hX r1 r2 => by
  cases r1; cases r2; exact PyProof.Rows.add_int ⟨.int _ _, keeps_tok⟩
theorem op_sub {a b : Int} : Op2 C (binaryOp .Sub) (.int a) (.int b) (.int (a - b)) := fun X s u v hX r1 r2 => by
  cases r1; cases r2; exact PyProof.Rows.sub_int ⟨.int _ _, keeps_tok⟩
theorem op_mul {a b : Int} (h : IntMulOk a b) : Op2 C (binaryOp .Mult) (.int a) (.int b) (.int (a * b)) := fun X s u v hX r1 r2 => by
  cases r1; cases r2; exact PyProof.Rows.mul_int ⟨.int _ _, keeps_tok⟩ h
theorem op_mod {a b : Int} (h : b ≠ 0) : Op2 C (binaryOp .Mod) (.int a) (.int b) (.int (a.fmod b)) := fun X s u v hX r1 r2 => by
  cases r1; cases r2; exact PyProof.Rows.mod_int' h ⟨.int _ _, keeps_tok⟩
theorem op_fdiv {a b : Int} (h : b ≠ 0) (hp : Builtin.divisionGoesByPylong a b = false) : Op2 C (binaryOp .FloorDiv) (.int a) (.int b) (.int (a.fdiv b)) := fun X s u v hX r1 r2 => by
  cases r1; cases r2; exact PyProof.Rows.floordiv_int h ⟨.int _ _, keeps_tok⟩ (.inl hp)
theorem op_and {a b : Int} : Op2 C (binaryOp .BitAnd) (.int a) (.int b) (.int (Builtin.bitAnd a b)) := fun X s u v hX r1 r2 => by
  cases r1; cases r2; exact PyProof.Rows.and_int ⟨.int _ _, keeps_tok⟩
theorem op_xor {a b : Int} : Op2 C (binaryOp .BitXor) (.int a) (.int b) (.int (Builtin.bitXor a b)) := fun X s u v hX r1 r2 => by
  cases r1; cases r2; exact PyProof.Rows.xor_int ⟨.int _ _, keeps_tok⟩
theorem op_pow {a n : Int} (hn : 0 ≤ n) (hsz : (Builtin.Int.intBits a : Int) * n ≤ 2 ^ 27) : Op2 C (binaryOp .Pow) (.int a) (.int n) (.int (a ^ n.toNat)) := fun X s u v hX r1 r2 => by
  cases r1; cases r2; exact PyProof.Rows.pow_int hn hsz ⟨.int _ _, keeps_tok⟩
theorem op_shr {a n : Int} (hn : 0 ≤ n) : Op2 C (binaryOp .RShift) (.int a) (.int n) (.int (a.fdiv (2 ^ n.toNat))) := fun X s u v hX r1 r2 => by
  cases r1; cases r2; exact PyProof.Rows.rshift_int hn ⟨.int _ _, keeps_tok⟩
theorem op_eq {a b : Int} : Op2 C (compareOp .Eq) (.int a) (.int b) (.bool (a == b)) := fun X s u v hX r1 r2 => by
  cases r1; cases r2; exact PyProof.Rows.eq_int ⟨.bool _, keeps_refl⟩
theorem op_gt {a b : Int} : Op2 C (compareOp .Gt) (.int a) (.int b) (.bool (decide (b < a))) := fun X s u v hX r1 r2 => by
  cases r1; cases r2; exact PyProof.Rows.gt_int ⟨.bool _, keeps_refl⟩
theorem op_ge {a b : Int} : Op2 C (compareOp .GtE) (.int a) (.int b) (.bool (decide (b ≤ a))) := fun X s u v hX r1 r2 => by
  cases r1; cases r2; exact PyProof.Rows.ge_int ⟨.bool _, keeps_refl⟩

/-! texts -/
theorem str_append (x y : List Nat) : (⟨x.toArray⟩ : Str) ++ ⟨y.toArray⟩ = ⟨(x ++ y).toArray⟩ := by
  show (⟨x.toArray ++ y.toArray⟩ : Str) = _
  simp
theorem str_length (x : List Nat) : (⟨x.toArray⟩ : Str).length = x.length := by
  show (x.toArray).size = _
  simp
theorem op_cat {x y : List Nat} (h : x.length + y.length ≤ 16777216) : Op2 C (binaryOp .Add) (.str x) (.str y) (.str (x ++ y)) := fun X s u v hX r1 r2 => by
  cases r1; cases r2
  refine PyProof.Rows.add_str (fun t' tk => ?_) (by rw [str_length, str_length]; exact h)
  rw [str_append]
  exact ⟨.str _ _, keeps_tok⟩
theorem op_eqs {x y : List Nat} : Op2 C (compareOp .Eq) (.str x) (.str y) (.bool (x == y)) := fun X s u v hX r1 r2 => by
  cases r1; cases r2
  exact PySem.P.eq_str ⟨.bool _, keeps_refl⟩
end
end Mine
end

section
namespace Mine
open PySem PySem.Calls

inductive Put : List (Str × LV) → Str → LV → List (Str × LV) → Prop where
  | here {x : Str} {old v : LV} {r : List (Str × LV)} (h : old.isRo = false := by rfl) : Put ((x, old) :: r) x v ((x, v) :: r)
  | there {y : Str} {w : LV} {r r' : List (Str × LV)} {x : Str} {v : LV} : Put r x v r' → Put ((y, w) :: r) x v ((y, w) :: r')

theorem Put.names {ρ ρ' : List (Str × LV)} {x : Str} {v : LV} (p : Put ρ x v ρ') : ρ'.map (·.1) = ρ.map (·.1) := by
  induction p with
  | here => rfl
  | there _ ih => rw [List.map_cons, List.map_cons, ih]
theorem Put.has {ρ ρ' : List (Str × LV)} {x : Str} {v : LV} (p : Put ρ x v ρ') : x ∈ ρ.map (·.1) := by
  induction p with
  | here => exact List.mem_cons_self
  | there _ ih => exact List.mem_cons_of_mem _ ih
theorem Put.old {ρ ρ' : List (Str × LV)} {x : Str} {v : LV} (p : Put ρ x v ρ') : ∃ w, (x, w) ∈ ρ ∧ w.isRo = false := by
  induction p with
  | here h => exact ⟨_, List.mem_cons_self, h⟩
  | there _ ih => obtain ⟨w, a, b⟩ := ih; exact ⟨w, List.mem_cons_of_mem _ a, b⟩
theorem mem_fst {y : Str} {w : LV} {r : List (Str × LV)} (h : (y, w) ∈ r) : y ∈ r.map (·.1) := List.mem_map.mpr ⟨_, h, rfl⟩
theorem Put.mem {ρ ρ' : List (Str × LV)} {x : Str} {v : LV} (p : Put ρ x v ρ') (nd : (ρ.map (·.1)).Nodup) : ∀ y w, (y, w) ∈ ρ' → (y = x ∧ w = v) ∨ (y ≠ x ∧ (y, w) ∈ ρ) := by
  induction p with
  | here =>
    intro y w h
    rcases List.mem_cons.mp h with e | h2
    · cases e; exact .inl ⟨rfl, rfl⟩
    · refine .inr ⟨?_, List.mem_cons_of_mem _ h2⟩
      intro e
      rw [e] at h2
      exact (List.nodup_cons.mp nd).1 (mem_fst h2)
  | there q ih =>
    intro y w h
    rcases List.mem_cons.mp h with e | h2
    · cases e
      refine .inr ⟨?_, List.mem_cons_self⟩
      intro e
      refine (List.nodup_cons.mp nd).1 ?_
      have := q.has
      rw [← e] at this
      exact this
    · rcases ih (List.nodup_cons.mp nd).2 y w h2 with e | ⟨e1, e2⟩
      · exact .inl e
      · exact .inr ⟨e1, List.mem_cons_of_mem _ e2⟩

structure SKeep (C : Cx) (O O' : List (Str × Addr)) (s s' : Shared) : Prop where
  keep : ∀ a o, a ≠ C.env.locals → ¬ isCellAddr C a → (¬ ∃ x, (x, a) ∈ O) → ¬ C.M a → s.heap.get? a = some o → s'.heap.get? a = some o
  grow : ∀ x a, (x, a) ∈ O' → (x, a) ∈ O ∨ s.heap.get? a = none
  pres : ∀ a o, s.heap.get? a = some o → ∃ o', s'.heap.get? a = some o'

theorem SKeep.refl {C : Cx} {O : List (Str × Addr)} {s : Shared} : SKeep C O O s s := ⟨fun _ _ _ _ _ _ e => e, fun _ _ h => .inl h, fun _ o e => ⟨o, e⟩⟩
theorem SKeep.trans {C : Cx} {O O' O'' : List (Str × Addr)} {s s' s'' : Shared} (p : SKeep C O O' s s') (q : SKeep C O' O'' s' s'') : SKeep C O O'' s s'' := by
  have np : ∀ a o, a ≠ C.env.locals → ¬ isCellAddr C a → (¬ ∃ x, (x, a) ∈ O) → ¬ C.M a → s.heap.get? a = some o → ¬ ∃ x, (x, a) ∈ O' := by
    rintro a o _ _ h3 _ e ⟨x, hx⟩
    rcases p.grow x a hx with h | h
    · exact h3 ⟨x, h⟩
    · rw [h] at e; cases e
  refine ⟨fun a o h1 h2 h3 h4 e => q.keep a o h1 h2 (np a o h1 h2 h3 h4 e) h4 (p.keep a o h1 h2 h3 h4 e), fun x a h => ?_, fun a o e => ?_⟩
  · rcases q.grow x a h with h | h
    · exact p.grow x a h
    · cases e : s.heap.get? a with
      | none => exact .inr rfl
      | some o => obtain ⟨o', e'⟩ := p.pres a o e; rw [h] at e'; cases e'
  · obtain ⟨o', e'⟩ := p.pres a o e
    exact q.pres a o' e'

section
variable {C : Cx} {ρ ρ' : List (Str × LV)} {O O' : List (Str × Addr)} {g g' g₁ g₂ : C.G} {s s' : Shared}

theorem Step.skeep (hC : C.Ok) (st : Step C g' s s') : SKeep C O O s s' :=
  ⟨fun a o _ _ _ hm e => st.keep a o hm e, fun _ _ h => .inl h, fun a o e => by
    by_cases m : C.M a
    · exact hC.wm g' _ a st.world m
    · exact ⟨o, st.keep a o m e⟩⟩

theorem seq_ne_dict {h : Heap} {a L : Addr} {o : Obj} {m : Str → Option Value} (hs : Obj.isSeq o) (e : h.get? a = some o) (n : h.Ns L m) : a ≠ L := by
  rintro rfl
  obtain ⟨o', es, ep, e', d, _⟩ := n
  rw [e] at e'; cases e'
  obtain ⟨xs, k, d'⟩ := hs
  rw [d] at d'; cases d'
theorem seq_ne_cell {h : Heap} {a c : Addr} {o : Obj} {v : Option Value} (hs : Obj.isSeq o) (e : h.get? a = some o) (n : h.IsCell c v) : a ≠ c := by
  rintro rfl
  obtain ⟨o', e', d⟩ := n
  rw [e] at e'; cases e'
  obtain ⟨xs, k, d'⟩ := hs
  rw [d] at d'; cases d'
theorem cell_ne_dict {h : Heap} {c L : Addr} {v : Option Value} {m : Str → Option Value} (n : h.IsCell c v) (k : h.Ns L m) : c ≠ L := by
  rintro rfl
  obtain ⟨o', e', d⟩ := n
  obtain ⟨o, es, ep, e, d', _⟩ := k
  rw [e] at e'; cases e'
  rw [d] at d'; cases d'
theorem rec_ne_dict {h : Heap} {a L : Addr} {o : Obj} {m : Str → Option Value} (hs : Obj.isRec o) (e : h.get? a = some o) (n : h.Ns L m) : a ≠ L := by
  rintro rfl
  obtain ⟨o', es, ep, e', d, _⟩ := n
  rw [e] at e'; cases e'
  obtain ⟨_, vs, d'⟩ := hs
  rw [d] at d'; cases d'
theorem rec_ne_cell {h : Heap} {a c : Addr} {o : Obj} {v : Option Value} (hs : Obj.isRec o) (e : h.get? a = some o) (n : h.IsCell c v) : a ≠ c := by
  rintro rfl
  obtain ⟨o', e', d⟩ := n
  rw [e] at e'; cases e'
  obtain ⟨_, vs, d'⟩ := hs
  rw [d] at d'; cases d'
theorem rec_ne_seq {h : Heap} {a b : Addr} {o o' : Obj} (hs : Obj.isRec o) (e : h.get? a = some o) (e' : h.get? b = some o') (hs' : Obj.isSeq o') : a ≠ b := by
  rintro rfl
  rw [e] at e'; cases e'
  obtain ⟨_, vs, d'⟩ := hs
  obtain ⟨xs, k, d⟩ := hs'
  rw [d] at d'; cases d'
theorem plain_isSeq {h : Heap} {a : Addr} {vs : Array Value} (p : h.PlainList a vs) : ∃ o, Obj.isSeq o ∧ h.get? a = some o := let ⟨n, e⟩ := p; ⟨_, ⟨_, _, rfl⟩, e⟩

/-- what happens to the frame when just the object at b is turned, b no list or tuple, and ρ, O stay -/
theorem Rep.sameBut {X : Addr → Prop} {h h' : Heap} {b : Addr} (hs : Heap.SameBut b h h') (hb : ∀ a o, Obj.isSeq o → h.get? a = some o → a ≠ b) {u : Value} {p : PV} (r : Rep X h u p) : Rep X h' u p :=
  r.mono (fun _ _ h _ _ => h) fun a o _ q e => (hs.2 a (hb a o q e)).trans e
theorem Reps.sameBut {X : Addr → Prop} {h h' : Heap} {b : Addr} (hs : Heap.SameBut b h h') (hb : ∀ a o, Obj.isSeq o → h.get? a = some o → a ≠ b) {u : List Value} {p : List PV} (r : Reps X h u p) : Reps X h' u p :=
  r.mono (fun _ _ h _ _ => h) fun a o _ q e => (hs.2 a (hb a o q e)).trans e

theorem SKeep.sameBut {b : Addr} (hb : b = C.env.locals ∨ isCellAddr C b ∨ (∃ x, (x, b) ∈ O)) (hs : Heap.SameBut b s.heap s'.heap) (hp : ∃ o, s'.heap.get? b = some o) : SKeep C O O s s' := by
  refine ⟨fun a o h1 h2 h3 _ e => (hs.2 a ?_).trans e, fun _ _ h => .inl h, fun a o e => ?_⟩
  · rintro rfl
    rcases hb with h | h | h
    · exact h1 h
    · exact h2 h
    · exact h3 h
  · by_cases q : a = b
    · subst q; exact hp
    · exact ⟨o, (hs.2 a q).trans e⟩

theorem lookup_cells_inj (hC : C.Ok) {x y : Str} {c : Addr} (h1 : C.env.cells.lookup x = some c) (h2 : C.env.cells.lookup y = some c) : x = y := hC.inj x y c h1 h2

/-- a value is stored under a name -/
theorem store_lv (hC : C.Ok) {x : Str} {u : Value} {v : LV} (I : Inv C ρ O g s) (r : ∀ m h', (∀ a o, Obj.isSeq o → s.heap.get? a = some o → h'.get? a = some o) → Rw C x → Slot C m h' x u → LIs C O m h' x v) (hp : Put ρ x v ρ') {Q : Unit → Shared → Prop}
    (hQ : ∀ s', Inv C ρ' O g s' → SKeep C O O s s' → (C.env.kindOf x = some .local → ∀ b o, b ≠ C.env.locals → s.heap.get? b = some o → s'.heap.get? b = some o) → Q () s') : wpAny C.mod C.A (storeName C.env x u) Q NoE s := by
  have hx : x ∈ C.names := by rw [← I.names]; exact hp.has
  have nd : (ρ.map (·.1)).Nodup := by rw [I.names]; exact hC.nodup
  obtain ⟨m, hn, hl⟩ := I.loc
  have hF : Rw C x := by
    obtain ⟨w, hw, ho⟩ := hp.old
    have q := hl x w hw
    cases w with
    | undef => exact q
    | val => exact q.1
    | own => exact q.1
    | ro => cases ho
  rcases hC.kinds x hx with hk | ⟨hk | hk, hc⟩
  · refine wpAny_storeName_local hk hn (fun h' hn' hs' => ?_) (by rw [hC.kind]; rfl)
    have sq : ∀ a o, Obj.isSeq o → s.heap.get? a = some o → a ≠ C.env.locals := fun a o q e => seq_ne_dict q e hn
    refine hQ _ ⟨I.rest, fun a o hf hm e => (hs'.2 a (fun q => hf (q ▸ hC.locF))).trans (I.old a o hf hm e), hC.stab g _ _ I.world fun a o hm e => (hs'.2 a (hm.elim (fun hm q => hC.locM (q ▸ hm)) fun hr => rec_ne_dict hr e hn)).trans e, hp.names.trans I.names,
      ⟨_, hn', fun y w hy => ?_⟩, fun y c hc => ?_, fun y a ha => ?_, I.uniq⟩ (SKeep.sameBut (.inl rfl) hs' ?_) (fun _ b o hb e => (hs'.2 b hb).trans e)
    · rcases hp.mem nd y w hy with ⟨rfl, rfl⟩ | ⟨hne, hy'⟩
      · exact r _ _ (fun a o q e => (hs'.2 a (sq a o q e)).trans e) hF (.inl ⟨hk, by simp⟩)
      · have q := hl y w hy'
        have sl : ∀ z, Slot C m s.heap y z → Slot C (fun k => if k = x then some u else m k) h' y z := by
          rintro z (⟨q1, q2⟩ | ⟨q1, c, q2, q3⟩)
          · exact .inl ⟨q1, by simp [hne, q2]⟩
          · exact .inr ⟨q1, c, q2, q3.sameBut hs' (cell_ne_dict q3 hn)⟩
        cases w with
        | undef => exact q
        | val p' => obtain ⟨q0, z, q1, q2⟩ := q; exact ⟨q0, z, sl z q1, q2.sameBut hs' sq⟩
        | ro p' => obtain ⟨z, q1, q2⟩ := q; exact ⟨z, sl z q1, q2.sameBut hs' sq⟩
        | own xs =>
          obtain ⟨q0, a, vs, q1, q2, q3, q4⟩ := q
          obtain ⟨o, qs, qe⟩ := plain_isSeq q3
          obtain ⟨n, q3⟩ := q3
          exact ⟨q0, a, vs, sl _ q1, q2, ⟨n, (hs'.2 a (sq a o qs qe)).trans q3⟩, q4.sameBut hs' sq⟩
    · obtain ⟨v, hv⟩ := I.cells y c hc
      exact ⟨v, hv.sameBut hs' (cell_ne_dict hv hn)⟩
    · obtain ⟨f, hm, vs, q⟩ := I.own y a ha
      obtain ⟨o, qs, qe⟩ := plain_isSeq q
      obtain ⟨n, q⟩ := q
      exact ⟨f, hm, vs, n, (hs'.2 a (sq a o qs qe)).trans q⟩
    · obtain ⟨o, _, _, e, _⟩ := hn'; exact ⟨o, e⟩
  · obtain ⟨c, hc⟩ := Option.isSome_iff_exists.mp hc
    obtain ⟨v₀, hv₀⟩ := I.cells x c hc
    refine wpAny_storeName_cell hC.kind hk hc hv₀ fun h' hc' hs' => ?_
    have hcF := hC.cellF x c hk hF.2 hc
    have hcM := hC.cellM x c hc
    have sq : ∀ a o, Obj.isSeq o → s.heap.get? a = some o → a ≠ c := fun a o q e => seq_ne_cell q e hv₀
    refine hQ _ ⟨I.rest, fun a o hf hm e => (hs'.2 a (fun q => hf (q ▸ hcF))).trans (I.old a o hf hm e), hC.stab g _ _ I.world fun a o hm e => (hs'.2 a (hm.elim (fun hm q => hcM (q ▸ hm)) fun hr => rec_ne_cell hr e hv₀)).trans e, hp.names.trans I.names,
      ⟨m, hn.sameBut hs' (Ne.symm (cell_ne_dict hv₀ hn)), fun y w hy => ?_⟩, fun y c' hc'' => ?_, fun y a ha => ?_, I.uniq⟩ (SKeep.sameBut (.inr (.inl ⟨x, hc⟩)) hs' ?_) (fun q => by rw [hk] at q; cases q)
    · rcases hp.mem nd y w hy with ⟨rfl, rfl⟩ | ⟨hne, hy'⟩
      · exact r _ _ (fun a o q e => (hs'.2 a (sq a o q e)).trans e) hF (.inr ⟨.inl hk, c, hc, hc'⟩)
      · have q := hl y w hy'
        have sl : ∀ z, Slot C m s.heap y z → Slot C m h' y z := by
          rintro z (⟨q1, q2⟩ | ⟨q1, c', q2, q3⟩)
          · exact .inl ⟨q1, q2⟩
          · exact .inr ⟨q1, c', q2, q3.sameBut hs' fun e => hne (lookup_cells_inj hC (e ▸ q2) hc)⟩
        cases w with
        | undef => exact q
        | val p' => obtain ⟨q0, z, q1, q2⟩ := q; exact ⟨q0, z, sl z q1, q2.sameBut hs' sq⟩
        | ro p' => obtain ⟨z, q1, q2⟩ := q; exact ⟨z, sl z q1, q2.sameBut hs' sq⟩
        | own xs =>
          obtain ⟨q0, a, vs, q1, q2, q3, q4⟩ := q
          obtain ⟨o, qs, qe⟩ := plain_isSeq q3
          obtain ⟨n, q3⟩ := q3
          exact ⟨q0, a, vs, sl _ q1, q2, ⟨n, (hs'.2 a (sq a o qs qe)).trans q3⟩, q4.sameBut hs' sq⟩
    · by_cases e : c' = c
      · subst e; exact ⟨_, hc'⟩
      · obtain ⟨v, hv⟩ := I.cells y c' hc''
        exact ⟨v, hv.sameBut hs' e⟩
    · obtain ⟨f, hm, vs, q⟩ := I.own y a ha
      obtain ⟨o, qs, qe⟩ := plain_isSeq q
      obtain ⟨n, q⟩ := q
      exact ⟨f, hm, vs, n, (hs'.2 a (sq a o qs qe)).trans q⟩
    · obtain ⟨o, e, _⟩ := hc'; exact ⟨o, e⟩
  · obtain ⟨c, hc⟩ := Option.isSome_iff_exists.mp hc
    exact absurd hk hF.1
theorem store_val (hC : C.Ok) {x : Str} {u : Value} {p : PV} (I : Inv C ρ O g s) (r : Rep (avoid C O) s.heap u p) (hp : Put ρ x (.val p) ρ') {Q : Unit → Shared → Prop}
    (hQ : ∀ s', Inv C ρ' O g s' → SKeep C O O s s' → (C.env.kindOf x = some .local → ∀ b o, b ≠ C.env.locals → s.heap.get? b = some o → s'.heap.get? b = some o) → Q () s') : wpAny C.mod C.A (storeName C.env x u) Q NoE s :=
  store_lv (v := .val p) hC I (fun m h' k hf sl => ⟨hf, u, sl, r.mono (fun _ _ h _ _ => h) fun a o _ q e => k a o q e⟩) hp hQ
end
end Mine
end

section
namespace Mine
open PySem PySem.Calls

inductive Fl where
  | next
  | brk
  | cont
  | ret (v : PV)

inductive FlIs (X : Addr → Prop) (h : Heap) : Flow → Fl → Prop where
  | next : FlIs X h .next .next
  | brk : FlIs X h .brk .brk
  | cont : FlIs X h .cont .cont
  | ret {u : Value} {v : PV} : Rep X h u v → FlIs X h (.ret u) (.ret v)

noncomputable abbrev Env' := List (Str × LV)
inductive Post (C : Cx) (O : List (Str × Addr)) (s : Shared) (P : Fl → Env' → C.G → Prop) (f : Flow) (s' : Shared) : Prop
  | mk (fl : Fl) (ρ' : Env') (O' : List (Str × Addr)) (g' : C.G) (hP : P fl ρ' g') (hfl : FlIs (avoid C O') s'.heap f fl) (I : Inv C ρ' O' g' s') (k : SKeep C O O' s s') : Post C O s P f s'
noncomputable def StP (C : Cx) (ρ : Env') (g : C.G) (t : Sem Flow) (P : Fl → Env' → C.G → Prop) : Prop :=
  ∀ O s, Inv C ρ O g s → wpAny C.mod C.A t (Post C O s P) NoE s
noncomputable def St (C : Cx) (ρ : Env') (g : C.G) (ss : List Stmt) (P : Fl → Env' → C.G → Prop) : Prop := StP C ρ g (execs ss C.env) P
noncomputable def St1 (C : Cx) (ρ : Env') (g : C.G) (st : Stmt) (P : Fl → Env' → C.G → Prop) : Prop := StP C ρ g (exec st C.env) P

section
variable {C : Cx} {ρ ρ' ρ₁ : Env'} {g g' g₁ g₂ : C.G} {P P' : Fl → Env' → C.G → Prop}

theorem Post.after {O O' : List (Str × Addr)} {s s' : Shared} (k : SKeep C O O' s s') {f : Flow} {s'' : Shared} (p : Post C O' s' P f s'') : Post C O s P f s'' :=
  let ⟨fl, ρ', O'', g', a, b, c, d⟩ := p; ⟨fl, ρ', O'', g', a, b, c, k.trans d⟩

theorem StP.mono {t : Sem Flow} (h : StP C ρ g t P) (hp : ∀ fl ρ' g', P fl ρ' g' → P' fl ρ' g') : StP C ρ g t P' := fun O s I =>
  wpAny_mono (h O s I) (fun f s' ⟨fl, ρ', O', g', a, b, c, d⟩ => ⟨fl, ρ', O', g', hp _ _ _ a, b, c, d⟩) fun _ _ x => x

theorem St.nil (h : P .next ρ g) : St C ρ g [] P := fun O s I => wpAny_execs_nil ⟨.next, ρ, O, g, h, .next, I, .refl⟩
noncomputable def Then (C : Cx) (rest : List Stmt) (P : Fl → Env' → C.G → Prop) : Fl → Env' → C.G → Prop := fun fl ρ' g' => match fl with | .next => St C ρ' g' rest P | fl => P fl ρ' g'
theorem St.cons {st : Stmt} {rest : List Stmt} (h : St1 C ρ g st (Then C rest P)) : St C ρ g (st :: rest) P := fun O s I => by
  refine wpAny_execs_cons (wpAny_mono (h O s I) (fun f s' ⟨fl, ρ', O', g', a, b, c, d⟩ => ?_) fun _ _ x => x)
  cases b with
  | next => exact wpAny_mono (a O' s' c) (fun f' s'' p => p.after d) fun _ _ x => x
  | brk => exact ⟨.brk, ρ', O', g', a, .brk, c, d⟩
  | cont => exact ⟨.cont, ρ', O', g', a, .cont, c, d⟩
  | ret r => exact ⟨.ret _, ρ', O', g', a, .ret r, c, d⟩
theorem St.one {st : Stmt} (h : St1 C ρ g st P) : St C ρ g [st] P := .cons (StP.mono h fun fl ρ' g' p => by
  cases fl with
  | next => exact St.nil p
  | _ => exact p)

theorem St1.assign (hC : C.Ok) {x : Str} {xp pos : Pos} {e : Expr} {v : PV} (h : Ev C ρ g e v g₁) (hp : Put ρ x (.val v) ρ') (hP : P .next ρ' g₁)
    (hs : swapsWith e (some (.Name x xp)) pos.line C.env = pure false := by rfl) : St1 C ρ g (.Assign [.Name x xp] e pos) P := fun O s I =>
  wpAny_Assign_Name (wpAny_mono (h O s I) (fun u s₁ ⟨r, st⟩ => store_val hC (I.step hC st) r hp fun s' I' k _ => ⟨.next, ρ', O, g₁, hP, .next, I', (st.skeep hC).trans k⟩) fun _ _ x => x) hs

theorem St1.ret (hC : C.Ok) {e : Expr} {pos : Pos} {v : PV} (h : Ev C ρ g e v g₁) (hP : P (.ret v) ρ g₁) : St1 C ρ g (.Return (some e) pos) P := fun O s I =>
  wpAny_Return_some (wpAny_mono (h O s I) (fun u s₁ ⟨r, st⟩ => ⟨.ret v, ρ, O, g₁, hP, .ret r, I.step hC st, st.skeep hC⟩) fun _ _ x => x)

theorem St1.ifs (hC : C.Ok) {t : Expr} {a b : List Stmt} {pos : Pos} {c : Bool} (h : EvB C ρ g t c g₁) (h1 : c = true → St C ρ g₁ a P) (h2 : c = false → St C ρ g₁ b P) : St1 C ρ g (.If t a b pos) P := fun O s I => by
  refine wpAny_If (wpAny_mono (h O s I) (fun c' s₁ ⟨e, st⟩ => ?_) fun _ _ x => x)
  subst e
  cases c' with
  | true => exact wpAny_mono (h1 rfl O s₁ (I.step hC st)) (fun f' s'' p => p.after (st.skeep hC)) fun _ _ x => x
  | false => exact wpAny_mono (h2 rfl O s₁ (I.step hC st)) (fun f' s'' p => p.after (st.skeep hC)) fun _ _ x => x

theorem St1.cont {pos : Pos} (hP : P .cont ρ g) : St1 C ρ g (.Continue pos) P := fun O s I => wpAny_Continue ⟨.cont, ρ, O, g, hP, .cont, I, .refl⟩

theorem St1.aug (hC : C.Ok) {x : Str} {xp pos : Pos} {op : Operator} {e : Expr} {p q v : PV} (hx : (x, LV.val p) ∈ ρ) (h : Ev C ρ g e q g₁) (ho : Op2 C (inplaceOp op) p q v) (hp : Put ρ x (.val v) ρ') (hP : P .next ρ' g₁) :
    St1 C ρ g (.AugAssign (.Name x xp) op e pos) P := fun O s I => by
  refine wpAny_AugAssign_Name ?_
  have hn : wpAny C.mod C.A (loadName C.env x) (fun u s' => Rep (avoid C O) s'.heap u p ∧ s' = s) NoE s := by
    obtain ⟨m, hn, hl⟩ := I.loc
    obtain ⟨u, q, r⟩ := (hl x _ hx).2
    have hd := hC.notDebug x (mem_names I.names hx)
    rcases q with ⟨q1, q2⟩ | ⟨q1 | q1, c, q2, q3⟩
    · exact wpAny_loadName_local hC.kind q1 hn q2 ⟨r, rfl⟩
    · exact wpAny_loadName_cell hC.kind q1 q2 q3 ⟨r, rfl⟩
    · exact wpAny_loadName_free hC.kind q1 q2 q3 ⟨r, rfl⟩ hd.2
  refine wpAny_mono hn (fun u s₁ ⟨r1, e1⟩ => ?_) fun _ _ x => x
  subst e1
  refine wpAny_mono (h O s₁ I) (fun u2 s₂ ⟨r2, st2⟩ => ?_) fun _ _ x => x
  have I2 := I.step hC st2
  refine wpAny_mono (ho (avoid C O) s₂ u u2 (fun x e => (I2.new hC e).2.2.2) (r1.step hC st2) r2) (fun z s₃ ⟨r3, k⟩ => ?_) fun _ _ x => x
  have st3 := Step.of_keeps hC I2.world k
  exact store_val hC (I2.step hC st3) r3 hp fun s' I' k' _ => ⟨.next, ρ', O, g₁, hP, .next, I', ((st2.trans st3).skeep hC).trans k'⟩

/-! in-place operations -/
theorem op_iadd {a b : Int} : Op2 C (inplaceOp .Add) (.int a) (.int b) (.int (a + b)) := fun X s u v hX r1 r2 => by
  cases r1; cases r2; exact PySem.P.iadd_int ⟨.int _ _, keeps_tok⟩
theorem op_ixor {a b : Int} : Op2 C (inplaceOp .BitXor) (.int a) (.int b) (.int (Builtin.bitXor a b)) := fun X s u v hX r1 r2 => by
  cases r1; cases r2; exact PyProof.Rows.ixor_int ⟨.int _ _, keeps_tok⟩
theorem op_ishr {a n : Int} (hn : 0 ≤ n) : Op2 C (inplaceOp .RShift) (.int a) (.int n) (.int (a.fdiv (2 ^ n.toNat))) := fun X s u v hX r1 r2 => by
  cases r1; cases r2; exact PyProof.Rows.irshift_int hn ⟨.int _ _, keeps_tok⟩
theorem op_icat {x y : List Nat} (h : x.length + y.length ≤ 16777216) : Op2 C (inplaceOp .Add) (.str x) (.str y) (.str (x ++ y)) := fun X s u v hX r1 r2 => by
  cases r1; cases r2
  refine PySem.SB.iadd (fun t' tk => ?_) (by rw [str_length, str_length]; exact h)
  rw [str_append]
  exact ⟨.str _ _, keeps_tok⟩

/-! loops -/
/-- an iterator at I that hands out just these items; hb: the heap where it was made -/
structure Iter (C : Cx) (O : List (Str × Addr)) (hb : Heap) (I : Addr) (items : List PV) (S : Nat → Heap → Prop) : Prop where
  fields : ∀ i h, S i h → ∃ o vs, h.get? I = some o ∧ o.data = .fields vs ∧ o.cls ≠ .type "code"
  frame : ∀ i h h', S i h → (∀ o, h.get? I = some o → h'.get? I = some o) → (∀ a o, ¬ avoid C O a → Obj.isSeq o → hb.get? a = some o → h'.get? a = some o) → S i h'
  item : ∀ i p (s : Shared) (Q : Option Value → Shared → Prop) (E : Value → Shared → Prop), items[i]? = some p → S i s.heap →
    (∀ v h' tk, Rep (avoid C O) hb v p → S (i + 1) h' → (∀ b o, b ≠ I → s.heap.get? b = some o → h'.get? b = some o) → Q (some v) { s with heap := h', toks := tk }) → wpAny C.mod C.A (pyNext (.ref I)) Q E s
  done : ∀ (s : Shared) (Q : Option Value → Shared → Prop) (E : Value → Shared → Prop), S items.length s.heap →
    (∀ h' tk, (∀ b o, b ≠ I → s.heap.get? b = some o → h'.get? b = some o) → Q none { s with heap := h', toks := tk }) → wpAny C.mod C.A (pyNext (.ref I)) Q E s
  self : ∀ i (s : Shared) (Q : Value → Shared → Prop) (E : Value → Shared → Prop), S i s.heap → Q (.ref I) s → wpAny C.mod C.A (pyIter (.ref I)) Q E s
  owned : ∀ i (s : Shared) elts k pos T (Q : Unit → Shared → Prop) (E : Value → Shared → Prop), S i s.heap → Q () s → wpAny C.mod C.A (letOwnedTupleGo (.Tuple elts k pos) (.ref I) T) Q E s

/-- what an expression hands out when it is walked -/
noncomputable def EvIt (C : Cx) (ρ : Env') (g : C.G) (e : Expr) (items : List PV) (g' : C.G) : Prop :=
  ∀ O s, Inv C ρ O g s → wpAny C.mod C.A (eval e C.env) (fun x s₁ => wpAny C.mod C.A (pyIter x) (fun it s' => ∃ I S, it = .ref I ∧ Iter C O s'.heap I items S ∧ S 0 s'.heap ∧ s.heap.get? I = none ∧ Step C g' s s') NoE s₁) NoE s

/-- a target takes a value -/
inductive BindsL : List Expr → List PV → Env' → Env' → Prop where
  | nil {ρ : Env'} : BindsL [] [] ρ ρ
  | cons {x : Str} {pos : Pos} {ts : List Expr} {v : PV} {vs : List PV} {ρ ρ₁ ρ' : Env'} : Put ρ x (.val v) ρ₁ → BindsL ts vs ρ₁ ρ' → BindsL (.Name x pos :: ts) (v :: vs) ρ ρ'
inductive Binds : Expr → PV → Env' → Env' → Prop where
  | name {x : Str} {pos : Pos} {v : PV} {ρ ρ' : Env'} : Put ρ x (.val v) ρ' → Binds (.Name x pos) v ρ ρ'
  | tup {ts : List Expr} {k : Nat} {pos : Pos} {vs : List PV} {ρ ρ' : Env'} : BindsL ts vs ρ ρ' → Binds (.Tuple ts k pos) (.tup vs) ρ ρ'

theorem PlainTuple.isTuple {h : Heap} {a : Addr} {vs : Array Value} (p : PlainTuple h a vs) : h.IsTuple a vs := let ⟨n, e⟩ := p; ⟨_, e, rfl, n, rfl⟩

theorem BindsL.each {ts : List Expr} {vs : List PV} (b : BindsL ts vs ρ ρ') (env : Env) : (assignEach ts env).length = vs.length ∧ (assignEach ts env).findIdx? (·.1) = none := by
  induction b with
  | nil => exact ⟨rfl, rfl⟩
  | cons p _ ih =>
    constructor
    · show (_ :: assignEach _ env).length = _
      rw [List.length_cons, List.length_cons, ih.1]
    · show List.findIdx? _ ((false, _) :: assignEach _ env) = none
      rw [List.findIdx?_cons, ih.2]; rfl

theorem Rep.keepAll {X : Addr → Prop} {h h' : Heap} (k : ∀ a o, h.get? a = some o → h'.get? a = some o) {u : Value} {p : PV} (r : Rep X h u p) : Rep X h' u p :=
  r.mono (fun _ _ h _ _ => h) fun a o _ _ e => k a o e
theorem Reps.keepAll {X : Addr → Prop} {h h' : Heap} (k : ∀ a o, h.get? a = some o → h'.get? a = some o) {u : List Value} {p : List PV} (r : Reps X h u p) : Reps X h' u p :=
  r.mono (fun _ _ h _ _ => h) fun a o _ _ e => k a o e

/-- a represented value stays so while the frame's names, cells and owned lists are turned -/
theorem Reps.skeep (hC : C.Ok) {O O' : List (Str × Addr)} {s s' : Shared} (I : Inv C ρ O g s) (k : SKeep C O O' s s') {u : List Value} {p : List PV} (r : Reps (avoid C O) s.heap u p) : Reps (avoid C O') s'.heap u p := by
  obtain ⟨m, hn, _⟩ := I.loc
  refine r.mono (fun a o h _ e => ?_) fun a o h q e => k.keep a o (seq_ne_dict q e hn) ?_ (fun hx => h (.inr hx)) (avoid_not_M hC h) e
  · rintro (x | ⟨x, hx⟩)
    · exact h (.inl x)
    · rcases k.grow x a hx with h' | h'
      · exact h (.inr ⟨x, h'⟩)
      · rw [h'] at e; cases e
  · rintro ⟨x, hx⟩
    obtain ⟨v, hv⟩ := I.cells x a hx
    exact seq_ne_cell q e hv rfl
noncomputable def nameOf : Expr → Option Str
  | .Name x _ => some x
  | _ => none
noncomputable def targetNames : Expr → List Str
  | .Name x _ => [x]
  | .Tuple ts _ _ => ts.filterMap nameOf
  | _ => []
theorem bind_list (hC : C.Ok) {ts : List Expr} {ps : List PV} (hb : BindsL ts ps ρ ρ') : ∀ {O : List (Str × Addr)} {s : Shared} {us : List Value} (I : Inv C ρ O g s) (r : Reps (avoid C O) s.heap us ps) {Q : Unit → Shared → Prop}
    (hQ : ∀ s', Inv C ρ' O g s' → SKeep C O O s s' → ((∀ x ∈ ts.filterMap nameOf, C.env.kindOf x = some .local) → ∀ b o, b ≠ C.env.locals → s.heap.get? b = some o → s'.heap.get? b = some o) → Q () s'), wpAny C.mod C.A (assignInOrder ((assignEach ts C.env).map (·.2)) us) Q NoE s := by
  induction hb with
  | nil => intro O s us I r Q hQ; cases r; exact wpAny_pure (hQ s I .refl fun _ _ _ _ e => e)
  | cons p _ ih =>
    intro O s us I r Q hQ
    cases r with
    | cons r1 r2 =>
      refine wpAny_assignInOrder_more (wpAny_assign_Name (store_val hC I r1 p fun s' I' k kl => ?_))
      exact ih I' (r2.skeep hC I k) fun s'' I'' k' kl' => hQ s'' I'' (k.trans k') fun hl b o hb e => kl' (fun y hy => hl y (List.mem_cons_of_mem _ hy)) b o hb (kl (hl _ List.mem_cons_self) b o hb e)

theorem bind_target (hC : C.Ok) {t : Expr} {v : PV} (hb : Binds t v ρ ρ') {O : List (Str × Addr)} {s : Shared} {u : Value} (I : Inv C ρ O g s) (r : Rep (avoid C O) s.heap u v) {Q : Unit → Shared → Prop}
    (hQ : ∀ s', Inv C ρ' O g s' → SKeep C O O s s' → ((∀ x ∈ targetNames t, C.env.kindOf x = some .local) → ∀ b o, b ≠ C.env.locals → s.heap.get? b = some o → s'.heap.get? b = some o) → Q () s') : wpAny C.mod C.A (assign t C.env u) Q NoE s := by
  cases hb with
  | name p => exact wpAny_assign_Name (store_val hC I r p fun s' I' k kl => hQ s' I' k fun hl => kl (hl _ List.mem_cons_self))
  | tup b =>
    cases r with
    | tup hx ht hr =>
      have e := b.each C.env
      have hl := hr.length
      refine wpAny_assign_Tuple hC.handled ht.isTuple (by rw [e.1, ← hl]; simp) e.2 fun h' he => ?_
      have ka : ∀ a o, s.heap.get? a = some o → h'.get? a = some o := fun a o q => he a o (Nat.ne_of_lt (Heap.lt_size q)) q
      have st : Step C g s { s with heap := h' } := .of_keeps hC I.world ⟨h', s.toks, rfl, ka⟩
      exact bind_list hC b (I.step hC st) (hr.keepAll ka) fun s' I' k kl => hQ s' I' ((st.skeep hC).trans k) fun hl b o hb e => kl hl b o hb (ka b o e)

/-- names may be forgotten; values may be told otherwise -/
inductive Weak : Env' → Env' → Prop where
  | nil : Weak [] []
  | keep {e : Str × LV} {r r' : Env'} : Weak r r' → Weak (e :: r) (e :: r')
  | drop {x : Str} {v : LV} {r r' : Env'} (h : v.isRo = false) : Weak r r' → Weak ((x, v) :: r) ((x, .undef) :: r')
  | val {x : Str} {p p' : PV} {r r' : Env'} (h : p = p') : Weak r r' → Weak ((x, .val p) :: r) ((x, .val p') :: r')
  | own {x : Str} {p p' : List PV} {r r' : Env'} (h : p = p') : Weak r r' → Weak ((x, .own p) :: r) ((x, .own p') :: r')
theorem Weak.names {ρ ρ' : Env'} (h : Weak ρ ρ') : ρ'.map (·.1) = ρ.map (·.1) := by
  induction h with
  | nil => rfl
  | keep _ ih => rw [List.map_cons, List.map_cons, ih]
  | drop _ _ ih => rw [List.map_cons, List.map_cons, ih]
  | val _ _ ih => rw [List.map_cons, List.map_cons, ih]
  | own _ _ ih => rw [List.map_cons, List.map_cons, ih]
theorem Weak.mem {ρ ρ' : Env'} (h : Weak ρ ρ') : ∀ x v, (x, v) ∈ ρ' → (x, v) ∈ ρ ∨ (v = .undef ∧ ∃ w, w.isRo = false ∧ (x, w) ∈ ρ) := by
  induction h with
  | nil => intro x v h; cases h
  | keep _ ih =>
    intro x v h
    rcases List.mem_cons.mp h with e | h
    · exact .inl (e ▸ List.mem_cons_self)
    · exact (ih x v h).imp (List.mem_cons_of_mem _) fun ⟨a, w, b, c⟩ => ⟨a, w, b, List.mem_cons_of_mem _ c⟩
  | drop hr _ ih =>
    intro x v h
    rcases List.mem_cons.mp h with e | h
    · cases e; exact .inr ⟨rfl, _, hr, List.mem_cons_self⟩
    · exact (ih x v h).imp (List.mem_cons_of_mem _) fun ⟨a, w, b, c⟩ => ⟨a, w, b, List.mem_cons_of_mem _ c⟩
  | val hv _ ih =>
    intro x v h
    subst hv
    rcases List.mem_cons.mp h with e | h
    · exact .inl (e ▸ List.mem_cons_self)
    · exact (ih x v h).imp (List.mem_cons_of_mem _) fun ⟨a, w, b, c⟩ => ⟨a, w, b, List.mem_cons_of_mem _ c⟩
  | own hv _ ih =>
    intro x v h
    subst hv
    rcases List.mem_cons.mp h with e | h
    · exact .inl (e ▸ List.mem_cons_self)
    · exact (ih x v h).imp (List.mem_cons_of_mem _) fun ⟨a, w, b, c⟩ => ⟨a, w, b, List.mem_cons_of_mem _ c⟩
theorem Inv.weak {O : List (Str × Addr)} {s : Shared} (I : Inv C ρ O g s) (h : Weak ρ ρ') : Inv C ρ' O g s := by
  obtain ⟨m, hn, hl⟩ := I.loc
  refine ⟨I.rest, I.old, I.world, h.names.trans I.names, ⟨m, hn, fun x v hx => ?_⟩, I.cells, I.own, I.uniq⟩
  rcases h.mem x v hx with h | ⟨rfl, w, hw, h⟩
  · exact hl x v h
  · have q := hl x w h
    cases w with
    | undef => exact q
    | val => exact q.1
    | own => exact q.1
    | ro => cases hw
theorem St.weak {ss : List Stmt} (h : Weak ρ ρ') (k : St C ρ' g ss P) : St C ρ g ss P := fun O s I => k O s (I.weak h)

/-- what stands behind a loop's turn -/
noncomputable def Turn (C : Cx) (J : Nat → Env' → C.G → Prop) (i : Nat) (P : Fl → Env' → C.G → Prop) : Fl → Env' → C.G → Prop := fun fl ρ' g' => match fl with
  | .next => ∃ ρ'', Weak ρ' ρ'' ∧ J (i + 1) ρ'' g'
  | .cont => ∃ ρ'', Weak ρ' ρ'' ∧ J (i + 1) ρ'' g'
  | .brk => P .next ρ' g'
  | .ret v => P (.ret v) ρ' g'

theorem seq_ne_fields {h : Heap} {a b : Addr} {o o' : Obj} {vs : Array Value} (hs : Obj.isSeq o) (e : h.get? a = some o) (e' : h.get? b = some o') (d : o'.data = .fields vs) : a ≠ b := by
  rintro rfl
  rw [e] at e'; cases e'
  obtain ⟨xs, k, d'⟩ := hs
  rw [d] at d'; cases d'

/-- the frame stands while an iterator (or another record of fields) that is its own goes on -/
theorem Inv.but (hC : C.Ok) {O : List (Str × Addr)} {s s' : Shared} {b : Addr} (I : Inv C ρ O g s) (hF : C.F b) (hM : ¬ C.M b) (hL : b ≠ C.env.locals) (hc : ¬ isCellAddr C b) (hd : ∃ o vs, s.heap.get? b = some o ∧ o.data = .fields vs ∧ o.cls ≠ .type "code")
    (hr : s'.gens = s.gens ∧ s'.drawn = s.drawn ∧ s'.os = s.os) (hk : ∀ a o, a ≠ b → s.heap.get? a = some o → s'.heap.get? a = some o) : Inv C ρ O g s' := by
  obtain ⟨o', vs', e', d', dn'⟩ := hd
  have sq : ∀ a o, Obj.isSeq o → s.heap.get? a = some o → s'.heap.get? a = some o := fun a o q e => hk a o (seq_ne_fields q e e' d') e
  obtain ⟨m, hn, hl⟩ := I.loc
  have cl : ∀ x c, C.env.cells.lookup x = some c → ∀ o, s.heap.get? c = some o → s'.heap.get? c = some o := fun x c hx o e => hk c o (fun q => hc ⟨x, q ▸ hx⟩) e
  refine ⟨⟨hr.1.trans I.rest.1, hr.2.1.trans I.rest.2.1, hr.2.2.trans I.rest.2.2⟩, fun a o hf hm e => hk a o (fun q => hf (q ▸ hF)) (I.old a o hf hm e), hC.stab g _ _ I.world fun a o hm e => hk a o (hm.elim (fun hm q => hM (q ▸ hm)) fun ⟨d1, _⟩ q => by subst q; rw [e] at e'; cases e'; exact dn' d1) e, I.names,
    ⟨m, Ns_of hn fun o e => hk _ o (Ne.symm hL) e, fun x v hx => ?_⟩, fun x c hx => ?_, fun x a ha => ?_, I.uniq⟩
  · have q := hl x v hx
    cases v with
    | undef => exact q
    | val p => obtain ⟨q0, u, q1, q2⟩ := q; exact ⟨q0, u, q1.of (cl x), q2.mono (fun _ _ h _ _ => h) fun a o _ z e => sq a o z e⟩
    | ro p => obtain ⟨u, q1, q2⟩ := q; exact ⟨u, q1.of (cl x), q2.mono (fun _ _ h _ _ => h) fun a o _ z e => sq a o z e⟩
    | own xs =>
      obtain ⟨q0, a, vs, q1, q2, ⟨n, q3⟩, q4⟩ := q
      exact ⟨q0, a, vs, q1.of (cl x), q2, ⟨n, sq a _ ⟨_, _, rfl⟩ q3⟩, q4.mono (fun _ _ h _ _ => h) fun a o _ z e => sq a o z e⟩
  · obtain ⟨v, hv⟩ := I.cells x c hx
    exact ⟨v, IsCell_of hv (cl x c hx)⟩
  · obtain ⟨f, hm, vs, n, e⟩ := I.own x a ha
    exact ⟨f, hm, vs, n, sq a _ ⟨_, _, rfl⟩ e⟩

theorem wpAny_never {α : Type} {M : Model} {A : Around} {E : Value → Shared → Prop} {s : Shared} {t : Sem α} {Q : α → Shared → Prop} (h : wpAny M A t Q NoE s) : wpAny M A t Q E s := wpAny_noRaise h

theorem down_lt {i m : Nat} (h : i < m) : m + 1 - (i + 1) < m + 1 - i := by omega
/-- how things stand before a turn of the loop; n counts down -/
inductive ForInv (C : Cx) (J : Nat → Env' → C.G → Prop) (O : List (Str × Addr)) (s s₂ : Shared) (S : Nat → Heap → Prop) (m n : Nat) (s' : Shared) : Prop
  | mk (i : Nat) (ρ₁ : Env') (g₂ : C.G) (O₁ : List (Str × Addr)) (hn : n = m + 1 - i) (hi : i ≤ m) (hJ : J i ρ₁ g₂) (hS : S i s'.heap) (I : Inv C ρ₁ O₁ g₂ s') (k : SKeep C O O₁ s s')
      (k2 : ∀ a o, ¬ avoid C O a → Obj.isSeq o → s₂.heap.get? a = some o → s'.heap.get? a = some o) (k3 : ∀ x a, (x, a) ∈ O₁ → (x, a) ∈ O ∨ s₂.heap.get? a = none) (kp : ∀ a o, s₂.heap.get? a = some o → ∃ o', s'.heap.get? a = some o') : ForInv C J O s s₂ S m n s'

theorem St1.for (hC : C.Ok) {t it : Expr} {body : List Stmt} {pos : Pos} {items : List PV} (h : EvIt C ρ g it items g₁) (J : Nat → Env' → C.G → Prop) (h0 : J 0 ρ g₁)
    (step : ∀ i p ρ₁ g₂, items[i]? = some p → J i ρ₁ g₂ → ∃ ρ₂, Binds t p ρ₁ ρ₂ ∧ St C ρ₂ g₂ body (Turn C J i P))
    (hend : ∀ ρ₁ g₂, J items.length ρ₁ g₂ → P .next ρ₁ g₂)
    (ht : (∃ x p, t = .Name x p) ∨ (∃ ts k p, t = .Tuple ts k p) := by first | exact .inl ⟨_, _, rfl⟩ | exact .inr ⟨_, _, _, rfl⟩)
    (hs : ∀ x, foldedSetIterable it C.env x = pure x := by intro _; rfl) : St1 C ρ g (.For t it body [] pos) P := fun O s I0 => by
  refine wpAny_For (wpAny_mono (h O s I0) (fun x s₁ h1 => wpAny_mono h1 (fun it s₂ h2 => ?_) fun _ _ x => x) fun _ _ x => x) hs
  obtain ⟨I, S, rfl, W, hst, hfr, st⟩ := h2
  have I2 := I0.step hC st
  have hIL : I ≠ C.env.locals := by
    rintro rfl
    obtain ⟨m, ⟨o, _, _, e, _⟩, _⟩ := I0.loc
    rw [hfr] at e; cases e
  have hIc : ¬ isCellAddr C I := by
    rintro ⟨x, hx⟩
    obtain ⟨v, o, e, _⟩ := I0.cells x I hx
    rw [hfr] at e; cases e
  have hIn := I0.new hC hfr
  refine codeAny_forLoop_any (ForInv C J O s s₂ S items.length) ?_ (items.length + 1)
    ⟨0, ρ, g₁, O, by omega, Nat.zero_le _, h0, hst, I2, st.skeep hC, fun _ _ _ _ e => e, fun _ _ h => .inl h, fun _ o e => ⟨o, e⟩⟩
  rintro n s' ⟨i, ρ₁, g₂, O₁, rfl, hi, hJ, hS, I', k, k2, k3, kp⟩
  have hIp : ∃ o vs, s'.heap.get? I = some o ∧ o.data = .fields vs ∧ o.cls ≠ .type "code" := W.fields i _ hS
  have hIO : ¬ ∃ x, (x, I) ∈ O₁ := by
    rintro ⟨x, hx⟩
    obtain ⟨_, _, vs, n, e⟩ := I'.own x I hx
    obtain ⟨o, vs', e', d, _⟩ := hIp
    exact seq_ne_fields ⟨_, _, rfl⟩ e e' d rfl
  by_cases hlt : i < items.length
  · have hp : items[i]? = some items[i] := List.getElem?_eq_getElem hlt
    refine W.item i _ s' _ _ hp hS fun v h' tk r hS' hk => ?_
    obtain ⟨ρ₂, hb, hbody⟩ := step i _ ρ₁ g₂ hp hJ
    have I'' : Inv C ρ₁ O₁ g₂ { s' with heap := h', toks := tk } := I'.but hC hIn.1 hIn.2.2.1 hIL hIc hIp ⟨rfl, rfl, rfl⟩ fun a o hne e => hk a o hne e
    -- the item, as it stands now
    have k2' : ∀ a o, ¬ avoid C O a → Obj.isSeq o → s₂.heap.get? a = some o → h'.get? a = some o := fun a o ha q e => by
      have e1 := k2 a o ha q e
      obtain ⟨o', vs', e', d', _⟩ := hIp
      exact hk a o (seq_ne_fields q e1 e' d') e1
    have r' : Rep (avoid C O₁) h' v items[i] := r.mono (fun a o ha q e => by
      rintro (x | ⟨x, hx⟩)
      · exact ha (.inl x)
      · rcases k3 x a hx with z | z
        · exact ha (.inr ⟨x, z⟩)
        · rw [z] at e; cases e) k2'
    have hown : wpAny C.mod C.A (letOwnedTupleGo t (.ref I) v) (fun _ s₁' => s₁' = { s' with heap := h', toks := tk }) NoE { s' with heap := h', toks := tk } := by
      rcases ht with ⟨x, p, rfl⟩ | ⟨ts, kk, p, rfl⟩
      · exact wpAny_pure rfl
      · exact W.owned (i + 1) _ _ _ _ _ _ _ hS' rfl
    refine wpAny_never (wpAny_mono hown (fun _ s₁' e => ?_) fun _ _ x => x)
    subst e
    refine wpAny_never (bind_target hC hb I'' r' fun s₃ I3 kb _ => ?_)
    refine wpAny_never (wpAny_mono (hbody O₁ s₃ I3) (fun f s₄ pf => ?_) fun _ _ x => x)
    obtain ⟨fl, ρ₃, O₃, g₃, hP, hfl, I4, kc⟩ := pf
    have kd := kb.trans kc
    have kI : SKeep C O O₁ s { s' with heap := h', toks := tk } := ⟨fun a o h1 h2 h3 h4 e => hk a o (fun q => by rw [q, hfr] at e; cases e) (k.keep a o h1 h2 h3 h4 e), k.grow, fun a o e => by
      obtain ⟨o', e'⟩ := k.pres a o e
      exact ⟨o', hk a o' (fun q => by rw [q, hfr] at e; cases e) e'⟩⟩
    have ke : SKeep C O O₃ s s₄ := kI.trans kd
    have hIk : ∀ o, h'.get? I = some o → s₄.heap.get? I = some o := fun o e => kd.keep I o hIL hIc hIO hIn.2.2.1 e
    have k2'' : ∀ a o, ¬ avoid C O a → Obj.isSeq o → s₂.heap.get? a = some o → s₄.heap.get? a = some o := fun a o ha q e => by
      obtain ⟨m, hn, _⟩ := I''.loc
      have e1 := k2' a o ha q e
      refine kd.keep a o (seq_ne_dict q e1 hn) ?_ ?_ (avoid_not_M hC ha) e1
      · rintro ⟨x, hx⟩
        obtain ⟨v, hv⟩ := I''.cells x a hx
        exact seq_ne_cell q e1 hv rfl
      · rintro ⟨x, hx⟩
        rcases k3 x a hx with z | z
        · exact ha (.inr ⟨x, z⟩)
        · rw [z] at e; cases e
    have kp' : ∀ a o, s₂.heap.get? a = some o → ∃ o', h'.get? a = some o' := fun a o e => by
      by_cases q : a = I
      · subst q
        obtain ⟨o', _, e', _⟩ := W.fields _ _ hS'
        exact ⟨o', e'⟩
      · obtain ⟨o', e'⟩ := kp a o e
        exact ⟨o', hk a o' q e'⟩
    have kp'' : ∀ a o, s₂.heap.get? a = some o → ∃ o', s₄.heap.get? a = some o' := fun a o e => by
      obtain ⟨o', e'⟩ := kp' a o e
      exact kd.pres a o' e'
    have k3'' : ∀ x a, (x, a) ∈ O₃ → (x, a) ∈ O ∨ s₂.heap.get? a = none := fun x a hx => by
      rcases kd.grow x a hx with z | z
      · exact k3 x a z
      · cases e : s₂.heap.get? a with
        | none => exact .inr rfl
        | some o =>
          obtain ⟨o', e'⟩ := kp' a o e
          have z' : h'.get? a = none := z
          rw [e'] at z'; cases z'
    have again : ∀ ρ₄, Weak ρ₃ ρ₄ → J (i + 1) ρ₄ g₃ → ∃ m, m < items.length + 1 - i ∧ ForInv C J O s s₂ S items.length m s₄ := fun ρ₄ hw hJ' =>
      ⟨items.length + 1 - (i + 1), down_lt hlt, i + 1, ρ₄, g₃, O₃, rfl, hlt, hJ', W.frame _ _ _ hS' hIk k2'', I4.weak hw, ke, k2'', k3'', kp''⟩
    cases hfl with
    | next => obtain ⟨ρ₄, hw, hJ'⟩ := hP; exact again ρ₄ hw hJ'
    | cont => obtain ⟨ρ₄, hw, hJ'⟩ := hP; exact again ρ₄ hw hJ'
    | brk => exact ⟨.next, ρ₃, O₃, g₃, hP, .next, I4, ke⟩
    | ret r => exact ⟨.ret _, ρ₃, O₃, g₃, hP, .ret r, I4, ke⟩
  · have hin : i = items.length := by omega
    subst hin
    refine W.done s' _ _ hS fun h' tk hk => wpAny_execs_nil ?_
    refine ⟨.next, ρ₁, O₁, g₂, hend _ _ hJ, .next, I'.but hC hIn.1 hIn.2.2.1 hIL hIc hIp ⟨rfl, rfl, rfl⟩ fun a o hne e => hk a o hne e, ?_⟩
    exact ⟨fun a o h1 h2 h3 h4 e => hk a o (fun q => by rw [q, hfr] at e; cases e) (k.keep a o h1 h2 h3 h4 e), k.grow, fun a o e => by
      obtain ⟨o', e'⟩ := k.pres a o e
      exact ⟨o', hk a o' (fun q => by rw [q, hfr] at e; cases e) e'⟩⟩
end
end Mine
end

section
namespace Mine
open PySem PySem.Calls

/-- a global name, by the top's facts -/
noncomputable def TG (T : Heap → Prop) (x : Str) (v : Value) : Prop := (x == ("__debug__" : Str)) = false ∧ ∀ h, T h → ∃ mg mb, h.Ns mainGlobals mg ∧ h.Ns builtinsNs mb ∧ (mg x = some v ∨ (mg x = none ∧ mb x = some v))
noncomputable def GlobIs (C : Cx) (x : Str) (v : Value) : Prop :=
  C.env.kindOf x = some .globalImplicit ∧ (x == ("__debug__" : Str)) = false ∧ ∀ h, C.T h → ∃ mg mb, h.Ns C.env.globals mg ∧ h.Ns C.env.builtins mb ∧ (mg x = some v ∨ (mg x = none ∧ mb x = some v))

theorem GlobIs.of {C : Cx} {x : Str} {v : Value} {T : Heap → Prop} (h : TG T x v) (hT : C.T = T) (h1 : C.env.globals = mainGlobals) (h2 : C.env.builtins = builtinsNs) (hk : C.env.kindOf x = some .globalImplicit) : GlobIs C x v :=
  ⟨hk, h.1, fun hh ht => by rw [h1, h2]; exact h.2 hh (hT ▸ ht)⟩

structure Room (d : Nat) (A : Around) : Prop where
  handled : A.handled = none
  depth : A.depth + d < recursionLimit
  units : A.units + 20 * d + 200 < cLine

/-- a pure call: it makes new things alone -/
noncomputable def Fn (prog : Program) (w : World) (T : Heap → Prop) (d : Nat) (f : Value) (ps : List PV) (r : PV) : Prop :=
  ∀ (A : Around) (X : Addr → Prop) (s : Shared) (us : List Value), Room d A → T s.heap → (∀ a, s.heap.get? a = none → ¬ X a) → Reps X s.heap us ps →
    wpAny (model prog w) A (call f us) (fun z s' => Rep X s'.heap z r ∧ Keeps s s') NoE s

section
variable {M : Model} {A : Around} {E : Value → Shared → Prop} {s : Shared}
theorem evalArgs_any {f : Value} {args : List (Bool × Sem Value)} {Q : Args → Shared → Prop} (hn : args.any (·.1) = false)
    (h : wpAny M A (spliced args) (fun vs s' => Q ⟨vs, []⟩ s') E s) : wpAny M A (evalArgs f true args []) Q E s := by
  match args, hn, h with
  | [], _, h =>
    unfold evalArgs
    show wpAny M A (spliced [] >>= _) Q E s
    refine wpAny_bind (wpAny_mono h (fun vs s' h' => ?_) fun _ _ x => x)
    refine wpAny_bind (wpAny_pure (wpAny_holding ?_))
    exact wpAny_bind (wpAny_pure (wpAny_bind (wpAny_pure (wpAny_pure h'))))
  | (false, x) :: rest, _, h => exact evalArgs_plain h
  | (true, x) :: rest, hn, _ => simp at hn
end

section
variable {C : Cx} {ρ ρ' ρ₁ : Env'} {g g' g₁ g₂ : C.G} {P P' : Fl → Env' → C.G → Prop}

theorem Inv.top (hC : C.Ok) {O : List (Str × Addr)} {s : Shared} (I : Inv C ρ O g s) : C.T s.heap := hC.top _ I.old
theorem Ok.room (hC : C.Ok) {d : Nat} (h : d ≤ C.d) : Room d C.A := ⟨hC.handled, by have := hC.depth; omega, by have := hC.units; omega⟩

theorem eval_glob (hC : C.Ok) {x : Str} {v : Value} {pos : Pos} (hg : GlobIs C x v) {O : List (Str × Addr)} {s : Shared} (I : Inv C ρ O g s) {Q : Value → Shared → Prop} (h : Q v s) :
    wpAny C.mod C.A (eval (.Name x pos) C.env) Q NoE s := by
  obtain ⟨hk, hd, hm⟩ := hg
  obtain ⟨mg, mb, h1, h2, h3⟩ := hm _ (I.top hC)
  refine Name_function_global hC.kind hk ?_ hd
  rcases h3 with h3 | ⟨h3, h4⟩
  · exact loadGlobal_global h1 h3 h
  · exact loadGlobal_builtin h1 h3 h2 h4 h

/-- a pure call of a built-in, by its operation -/
noncomputable def OpL (C : Cx) (f : List Value → Sem Value) (ps : List PV) (r : PV) : Prop :=
  ∀ (X : Addr → Prop) (s : Shared) (us : List Value), (∀ a, s.heap.get? a = none → ¬ X a) → Reps X s.heap us ps →
    wpAny C.mod C.A (f us) (fun z s' => Rep X s'.heap z r ∧ Keeps s s') NoE s

theorem Ev.callB (hC : C.Ok) {x : Str} {np pos : Pos} {id : String} {es : List Expr} {ps : List PV} {r : PV} (hg : GlobIs C x (.builtin id)) (h : EvL C ρ g es ps g₁) (ho : OpL C (fun us => call (.builtin id) us) ps r)
    (hn : (backTo pos (starEach es C.env)).any (·.1) = false := by rfl) : Ev C ρ g (.Call (.Name x np) es [] pos) r g₁ := fun O s I => by
  refine wpAny_Call_NameR (eval_glob hC hg I (callWith_builtin hn (evalArgs_any hn (wpAny_mono (h O s pos I) (fun us s₁ ⟨r1, st⟩ => ?_) fun _ _ x => x))))
  have I1 := I.step hC st
  exact wpAny_mono (ho (avoid C O) s₁ us (fun x e => (I1.new hC e).2.2.2) r1) (fun z s₂ ⟨r2, k⟩ => ⟨r2, st.trans (.of_keeps hC I1.world k)⟩) fun _ _ x => x
/-- a call of a def of the text -/
theorem Ev.callF (hC : C.Ok) {x : Str} {np pos : Pos} {a : Addr} {es : List Expr} {ps : List PV} {r : PV} {d : Nat} (hg : GlobIs C x (.ref a)) (hf : ∃ o fd, o.data = .func fd ∧ ∀ h, C.T h → h.get? a = some o) (h : EvL C ρ g es ps g₁)
    (ho : Fn C.prog C.w C.T d (.ref a) ps r) (hd : d ≤ C.d) (hn : (backTo pos (starEach es C.env)).any (·.1) = false := by rfl) : Ev C ρ g (.Call (.Name x np) es [] pos) r g₁ := fun O s I => by
  obtain ⟨o, fd, e1, e2⟩ := hf
  refine wpAny_Call_NameR (eval_glob hC hg I (callWith_function (o := o) (fd := fd) (evalArgs_any hn (wpAny_mono (h O s pos I) (fun us s₁ ⟨r1, st⟩ => ?_) fun _ _ x => x))))
  have I1 := I.step hC st
  exact ⟨⟨e2 _ (I1.top hC), e1⟩, wpAny_mono (ho C.A (avoid C O) s₁ us (Ok.room hC hd) (I1.top hC) (fun x e => (I1.new hC e).2.2.2) r1) (fun z s₂ ⟨r2, k⟩ => ⟨r2, st.trans (.of_keeps hC I1.world k)⟩) fun _ _ x => x⟩
end

/-! a def of the text, by its body -/
theorem bindL_out {kindOf : Str → Option NameKind} : ∀ (binds : List (Str × Value)) (m : Str → Option Value) (x : Str), x ∉ binds.map (·.1) → bindL kindOf binds m x = m x
  | [], _, _, _ => rfl
  | (n, v) :: r, m, x, h => by
    unfold bindL
    rw [bindL_out r _ x (fun q => h (List.mem_cons_of_mem _ q))]
    have : x ≠ n := fun e => h (by rw [e]; exact List.mem_cons_self)
    split
    · simp [this]
    · rfl
theorem bindL_mem {kindOf : Str → Option NameKind} : ∀ (binds : List (Str × Value)) (m : Str → Option Value) (x : Str) (u : Value), (binds.map (·.1)).Nodup → (x, u) ∈ binds → kindOf x = some .local → bindL kindOf binds m x = some u
  | (n, v) :: r, m, x, u, nd, h, hk => by
    unfold bindL
    rcases List.mem_cons.mp h with e | h
    · cases e
      rw [if_pos hk, bindL_out r _ _ (List.nodup_cons.mp nd).1]
      simp
    · exact bindL_mem r _ x u (List.nodup_cons.mp nd).2 h hk
theorem bindC_out {kindOf : Str → Option NameKind} : ∀ (binds : List (Str × Value)) (m : Str → Option Value) (x : Str), x ∉ binds.map (·.1) → bindC kindOf binds m x = m x
  | [], _, _, _ => rfl
  | (n, v) :: r, m, x, h => by
    unfold bindC
    rw [bindC_out r _ x (fun q => h (List.mem_cons_of_mem _ q))]
    have : x ≠ n := fun e => h (by rw [e]; exact List.mem_cons_self)
    split
    · rfl
    · simp [this]
theorem bindC_mem {kindOf : Str → Option NameKind} : ∀ (binds : List (Str × Value)) (m : Str → Option Value) (x : Str) (u : Value), (binds.map (·.1)).Nodup → (x, u) ∈ binds → kindOf x ≠ some .local → bindC kindOf binds m x = some u
  | (n, v) :: r, m, x, u, nd, h, hk => by
    unfold bindC
    rcases List.mem_cons.mp h with e | h
    · cases e
      rw [if_neg hk, bindC_out r _ _ (List.nodup_cons.mp nd).1]
      simp
    · exact bindC_mem r _ x u (List.nodup_cons.mp nd).2 h hk

theorem none_of_le {h : Heap} {a : Addr} (e : h.objs.size ≤ a) : h.get? a = none := by
  cases q : h.get? a with
  | none => rfl
  | some o => exact absurd (Heap.lt_size q) (Nat.not_lt.mpr e)

theorem zip_vals {X : Addr → Prop} {h : Heap} : ∀ {pn : List Str} {ps : List PV} {us : List Value} {x : Str} {v : LV}, Reps X h us ps → (x, v) ∈ pn.zip (ps.map LV.val) → ∃ p u, v = .val p ∧ (x, u) ∈ pn.zip us ∧ Rep X h u p
  | [], _, _, _, _, _, m => by simp at m
  | _ :: _, _, _, _, _, .nil, m => by simp at m
  | n :: pn, _, _, x, v, .cons (v := u) (p := p) r rs, m => by
    rw [List.map_cons, List.zip_cons_cons] at m
    rcases List.mem_cons.mp m with e | m
    · cases e; exact ⟨p, u, rfl, List.mem_cons_self, r⟩
    · obtain ⟨p', u', e1, e2, e3⟩ := zip_vals rs m
      exact ⟨p', u', e1, List.mem_cons_of_mem _ e2, e3⟩

noncomputable def startEnv (pn rest : List Str) (ps : List PV) : Env' := pn.zip (ps.map LV.val) ++ rest.map (·, .undef)
theorem zip_fst : ∀ {pn : List Str} {α : Type} {us : List α}, us.length = pn.length → (pn.zip us).map (·.1) = pn
  | [], _, _, _ => rfl
  | _ :: _, _, [], h => by cases h
  | n :: pn, _, u :: us, h => by rw [List.zip_cons_cons, List.map_cons, zip_fst (by simpa using h)]

/-- a frame of a def, as its body finds it -/
structure FrameOf (C : Cx) (prog : Program) (w : World) (T : Heap → Prop) (d : Nat) (fd : FuncData) : Prop where
  ok : C.Ok
  prog : C.prog = prog
  w : C.w = w
  T : C.T = T
  d : C.d = d
  scope : C.env.scope = fd.scope
  globals : C.env.globals = fd.globals
  builtins : C.env.builtins = fd.builtins
  code : C.env.code = fd.code
  z : ∀ x, ¬ C.Z x

theorem Fn.intro {prog : Program} {w : World} {T : Heap → Prop} {d : Nat} {a : Addr} {o : Obj} {fd : FuncData} {body : List Stmt} {pn rest : List Str} {ps : List PV} {r : PV}
    (hT : ∀ h h' : Heap, T h → (∀ b o, h.get? b = some o → h'.get? b = some o) → T h')
    (hf : ∀ h, T h → h.get? a = some o ∧ h.CodeRec fd.code fd.qualname ∧ h.NoLimit) (hd : o.data = .func fd) (hb : fd.body = .stmts body) (hclo : fd.closure = [])
    (hbind : ∀ vals : List Value, vals.length = pn.length → bindArgs fd ⟨vals, []⟩ = pure (pn.zip vals)) (hlen : ps.length = pn.length)
    (hnd : (pn ++ rest).Nodup) (hkinds : ((pn ++ rest).all fun x => fd.scope.names.lookup x == some .local || fd.scope.names.lookup x == some .cell) = true)
    (hdbg : ((pn ++ rest).all fun x => !(x == ("__debug__" : Str)) && !(x == ("__classdict__" : Str))) = true)
    (hco : fd.scope.isCoroutine = false) (hgen : fd.scope.isGenerator = false) (hk : fd.scope.kind = .function)
    (hbody : ∀ (C : Cx) (g : C.G), FrameOf C prog w T d fd → St C (startEnv pn rest ps) g body (fun fl _ _ => fl = .ret r ∨ (fl = .next ∧ r = .none))) :
    Fn prog w T (d + 1) (.ref a) ps r := by
  intro A X s us hR hTs hX hr
  have hlu : us.length = pn.length := by rw [hr.length, hlen]
  have ndp : ((pn.zip us).map (·.1)).Nodup := by rw [zip_fst hlu]; exact (List.nodup_append.mp hnd).1
  have hkd : ∀ x ∈ pn ++ rest, fd.scope.names.lookup x = some .local ∨ fd.scope.names.lookup x = some .cell := fun x hx => by
    have := List.all_eq_true.mp hkinds x hx
    simpa using this
  refine wpAny_call (codeAny_call_cells (body := body) (by have := hR.depth; omega) (hf _ hTs).1 hd (hf _ hTs).2.2 (hf _ hTs).2.1 hb (hbind us hlu) hclo ?_ ?_ hco hgen hk)
  · intro x hx
    have hx' : x.1 ∈ pn := by have := List.mem_map_of_mem (f := (·.1)) hx; rw [zip_fst hlu] at this; exact this
    rcases hkd x.1 (List.mem_append_left _ hx') with h | h
    · exact .inl h
    · exact .inr ⟨h, PySem.W.cellsFrom_some _ _ _ (.inl h)⟩
  · intro s₁ x
    let C : Cx := { prog, w, A := A.deeper (callEnvC fd s.heap.objs.size a), env := callEnvC fd s.heap.objs.size a, Z := fun _ => False, s₀ := s, F := fun b => s.heap.get? b = none, X, M := fun _ => False, G := Unit, W := fun _ _ => True, names := pn ++ rest, T, d }
    have hcells : ∀ y c, (callEnvC fd s.heap.objs.size a).cells.lookup y = some c → s.heap.get? c = none := fun y c hc => none_of_le (Nat.le_of_lt (x.above y c (mem_of_lookup hc)))
    have hC : C.Ok := {
      kind := hk
      handled := hR.handled
      depth := by have := hR.depth; show A.depth + 1 + d < recursionLimit; omega
      units := by have := hR.units; show A.units + 3 + 20 * d + 200 < cLine; omega
      top := fun h q => hT _ _ hTs fun b o e => q b o (fun n => by have n' : s.heap.get? b = none := n; rw [n'] at e; cases e) id e
      locF := get_size_none _
      locM := id
      cellM := fun _ _ _ => id
      cellF := fun y c _ _ hc => hcells y c hc
      inj := fun y z c h1 h2 => name_of_addr x.apart (mem_of_lookup h1) (mem_of_lookup h2)
      fresh := fun _ h => h
      mx := fun _ h => h.elim
      xf := fun b hx hn => hX b hn hx
      xs := fun b hx => by
        show ∃ o, s.heap.get? b = some o
        cases q : s.heap.get? b with
        | none => exact absurd hx (hX b q)
        | some o => exact ⟨o, rfl⟩
      wm := fun _ _ _ _ h => h.elim
      stab := fun _ _ _ _ _ => trivial
      nodup := hnd
      kinds := fun y hy => (hkd y hy).imp id fun h => ⟨.inl h, PySem.W.cellsFrom_some _ _ _ (.inl h)⟩
      notDebug := fun y hy => by
        have := List.all_eq_true.mp hdbg y hy
        simpa using this }
    obtain ⟨h₁, tk, e1, hk₁⟩ := x.done
    subst e1
    have nf : ∀ y ∈ pn ++ rest, Rw C y := fun y hy => by
      refine ⟨fun e => ?_, id⟩
      rcases hkd y hy with h | h
      · have : some NameKind.local = some NameKind.free := h.symm.trans e
        cases this
      · have : some NameKind.cell = some NameKind.free := h.symm.trans e
        cases this
    have I : Inv C (startEnv pn rest ps) [] () { s with heap := h₁, toks := tk } := by
      refine ⟨⟨rfl, rfl, rfl⟩, fun b o _ _ e => hk₁ b o e, trivial, ?_, ⟨_, x.toInCall.ns, fun y v hy => ?_⟩, fun y c hc => ⟨_, x.cell y c hc⟩, fun _ _ h => (nomatch h), fun _ _ _ h => (nomatch h)⟩
      · show (startEnv pn rest ps).map (·.1) = pn ++ rest
        rw [startEnv, List.map_append, zip_fst (by simpa using hlen), List.map_map]
        congr 1
        exact List.map_id _
      · rcases List.mem_append.mp hy with h | h
        · obtain ⟨p, u, rfl, hu, hrp⟩ := zip_vals hr h
          have hyp : y ∈ pn := by have := List.mem_map_of_mem (f := (·.1)) hu; rw [zip_fst hlu] at this; exact this
          refine ⟨nf y (List.mem_append_left _ hyp), u, ?_, hrp.mono (fun b o hb _ e => ?_) fun b o _ _ e => hk₁ b o e⟩
          · rcases hkd y (List.mem_append_left _ hyp) with h | h
            · exact .inl ⟨h, bindL_mem _ _ _ _ ndp hu h⟩
            · have hs : ((callEnvC fd s.heap.objs.size a).cells.lookup y).isSome = true := PySem.W.cellsFrom_some _ _ _ (.inl h)
              obtain ⟨c, hc⟩ := Option.isSome_iff_exists.mp hs
              have hne : (callEnvC fd s.heap.objs.size a).kindOf y ≠ some .local := fun e => by
                have : some NameKind.cell = some NameKind.local := h.symm.trans e
                cases this
              refine .inr ⟨.inl h, c, hc, ?_⟩
              have := x.cell y c hc
              rw [bindC_mem _ _ _ _ ndp hu hne] at this
              exact this
          · rintro (q | ⟨_, q⟩)
            · exact hb q
            · cases q
        · obtain ⟨z, hz, e⟩ := List.mem_map.mp h
          cases e
          exact nf y (List.mem_append_right _ hz)
    refine wpAny_mono (hbody C () ⟨hC, rfl, rfl, rfl, rfl, rfl, rfl, rfl, rfl, fun _ => id⟩ [] _ I) (fun f s' ⟨fl, ρ', O', g', hP, hfl, I', k⟩ => ?_) fun _ _ h => h.elim
    have hold : ∀ b o, s.heap.get? b = some o → s'.heap.get? b = some o := fun b o e => I'.old b o (fun n => by have n' : s.heap.get? b = none := n; rw [n'] at e; cases e) id e
    have hkeep : Keeps s s' := ⟨s'.heap, s'.toks, by
      obtain ⟨a1, a2, a3⟩ := I'.rest
      cases s'; cases s; simp_all [C], hold⟩
    have hXr : ∀ {u : Value} {p : PV}, Rep (avoid C O') s'.heap u p → Rep X s'.heap u p := fun q => q.mono (fun b o hb _ _ hx => hb (.inl hx)) fun _ _ _ _ e => e
    rcases hP with rfl | ⟨rfl, rfl⟩
    · cases hfl with
      | ret q => exact ⟨hXr q, hkeep⟩
    · cases hfl
      exact ⟨.none, hkeep⟩
end Mine
end

section
namespace Mine
open PySem PySem.Calls

theorem owned_of {prog : Program} {w : World} {A : Around} {E : Value → Shared → Prop} {s : Shared} {elts : List Expr} {k : Nat} {pos : Pos} {I : Addr} {T : Value} {Q : Unit → Shared → Prop} {o : Obj} {n : String} {vs : Array Value}
    (ho : s.heap.get? I = some o) (hc : o.cls = .type n) (hd : o.data = .fields vs)
    (hn : ["enumerate", "zip", "dict_itemiterator", "dict_reverseitemiterator", "odict_iterator", "itertools.zip_longest", "itertools.pairwise"].contains n = false) (hQ : Q () s) :
    wpAny (model prog w) A (letOwnedTupleGo (.Tuple elts k pos) (.ref I) T) Q E s := by
  unfold letOwnedTupleGo
  cases T with
  | ref a =>
    refine wpAny_bind (wpAny_load ho ?_)
    rw [hc, hd]
    show wpAny _ A (if (["enumerate", "zip", "dict_itemiterator", "dict_reverseitemiterator", "odict_iterator", "itertools.zip_longest", "itertools.pairwise"].contains n && vs[0]? == some (rawInt a)) = true then _ else _) Q E s
    rw [if_neg (by rw [hn, Bool.false_and]; exact Bool.false_ne_true)]
    exact wpAny_pure hQ
  | _ => exact wpAny_pure hQ

section
variable {C : Cx} {ρ ρ' ρ₁ : Env'} {g g' g₁ g₂ : C.G} {P P' : Fl → Env' → C.G → Prop}

theorem Step.fresh (hC : C.Ok) {s s' : Shared} (st : Step C g' s s') {a : Addr} (e : s'.heap.get? a = none) : s.heap.get? a = none := by
  cases q : s.heap.get? a with
  | none => rfl
  | some o => obtain ⟨o', e'⟩ := (st.skeep (O := []) hC).pres a o q; rw [e] at e'; cases e'

theorem EvIt.list (hC : C.Ok) {e : Expr} {items : List PV} (h : Ev C ρ g e (.list items) g₁) : EvIt C ρ g e items g₁ := fun O s I => by
  refine wpAny_mono (h O s I) (fun u s₁ ⟨r, st⟩ => ?_) fun _ _ x => x
  cases r with
  | @list a vs _ hx hl hr =>
    have I1 := I.step hC st
    have hne : a ≠ s₁.heap.objs.size := by obtain ⟨n, e⟩ := hl; exact Nat.ne_of_lt (Heap.lt_size e)
    have hlen : vs.size = items.length := by rw [← hr.length]; simp
    refine wpAny_pyIter_list hl.isList ⟨_, fun i h => h.IsListIter s₁.heap.objs.size a i ∧ h.IsList a vs, rfl, ?_, ⟨⟨_, Heap.get?_push_size _ rfl, rfl, rfl⟩, hl.isList.push _⟩, st.fresh hC (get_size_none _), st.trans (.of_keeps hC I1.world keeps_push)⟩
    refine ⟨fun i h q => ?_, fun i h h' q k1 k2 => ?_, fun i p s' Q E hp q hQ => ?_, fun s' Q E q hQ => ?_, fun i s' Q E q hQ => ?_, fun i s' elts k pos T Q E q hQ => ?_⟩
    · obtain ⟨o, e, c, d⟩ := q.1
      exact ⟨o, _, e, d, by rw [c]; decide⟩
    · refine ⟨q.1.at k1, ?_⟩
      obtain ⟨n, e⟩ := hl
      exact ⟨_, k2 a _ hx ⟨_, _, rfl⟩ (Heap.get?_push_of_some _ e), rfl, n, rfl⟩
    · obtain ⟨v, hv, rv⟩ := hr.get hp
      refine wpAny_pyNext_list_item q.1 q.2 (x := v) (by simpa using hv) fun h' hit' hs' => ?_
      exact hQ v h' s'.toks (rv.keepAll fun _ _ e => Heap.get?_push_of_some _ e) ⟨hit', q.2.extBut hs'.extBut hne⟩ fun b o hb e => hs'.extBut b o hb e
    · exact wpAny_pyNext_list_end hC.handled q.1 q.2 (by simp [hlen]) fun h' he' => hQ h' s'.toks fun b o hb e => he' b o hb e
    · exact wpAny_pyIter_listiter q.1 hQ
    · obtain ⟨o, e, c, d⟩ := q.1
      exact owned_of e c d (by decide) hQ

theorem EvIt.str (hC : C.Ok) {e : Expr} {x : List Nat} (h : Ev C ρ g e (.str x) g₁) : EvIt C ρ g e (x.map fun c => .str [c]) g₁ := fun O s I => by
  refine wpAny_mono (h O s I) (fun u s₁ ⟨r, st⟩ => ?_) fun _ _ x => x
  cases r with
  | str x t =>
    have I1 := I.step hC st
    have W : Walks C.prog C.w C.A s₁.heap.objs.size [s₁.heap.objs.size] [s₁.heap.objs.size] x.length (SignAt ⟨x.toArray⟩) (fun i h => h.IsStrIter s₁.heap.objs.size (strIterType ⟨x.toArray⟩) ⟨x.toArray⟩ t i) := by
      have hl : x.length = (⟨x.toArray⟩ : Str).cps.size := by simp
      rw [hl]
      unfold strIterType
      split
      · exact Walks.strAscii hC.handled _ _ _
      · exact Walks.strWide hC.handled _ _ _
    refine wpAny_pyIter_strU ⟨_, fun i h => h.IsStrIter s₁.heap.objs.size (strIterType ⟨x.toArray⟩) ⟨x.toArray⟩ t i, rfl, ?_, ⟨_, Heap.get?_push_size _ rfl, rfl, rfl⟩, st.fresh hC (get_size_none _), st.trans (.of_keeps hC I1.world keeps_push)⟩
    refine ⟨fun i h q => ?_, fun i h h' q k1 k2 => ?_, fun i p s' Q E hp q hQ => ?_, fun s' Q E q hQ => ?_, fun i s' Q E q hQ => ?_, fun i s' elts k pos T Q E q hQ => ?_⟩
    · obtain ⟨o, e, c, d⟩ := q
      exact ⟨o, _, e, d, by rw [c]; unfold strIterType; split <;> decide⟩
    · obtain ⟨o, e, r⟩ := q
      exact ⟨o, k1 o e, r⟩
    · have hlt : i < x.length := by
        obtain ⟨hh, _⟩ := List.getElem?_eq_some_iff.mp hp
        simpa using hh
      refine W.item i s' Q E hlt q fun v h' tk hv hS hk => ?_
      obtain ⟨c, u, hc, rfl⟩ := hv
      have : p = .str [c] := by
        rw [List.getElem?_map] at hp
        have hc' : x[i]? = some c := by simpa using hc
        rw [hc'] at hp
        simpa using hp.symm
      subst this
      exact hQ _ h' tk (.str [c] u) hS fun b o hb e => hk b o (by simpa using hb) e
    · rw [List.length_map] at q
      exact W.done s' Q E q fun h' tk hk => hQ h' tk fun b o hb e => hk b o (by simpa using hb) e
    · exact W.self i s' Q E q hQ
    · obtain ⟨o, e, c, d⟩ := q
      refine owned_of e c d ?_ hQ
      unfold strIterType
      split <;> decide

/-- the ints of a range: the first, the step, how many -/
noncomputable def rangeItems (a c : Int) (n : Nat) : List PV := (List.range n).map fun (i : Nat) => PV.int (a + (i : Int) * c)
theorem rangeItems_get {a c : Int} {n i : Nat} {p : PV} (h : (rangeItems a c n)[i]? = some p) : i < n ∧ p = .int (a + (i : Int) * c) := by
  have hlt : i < n := by
    obtain ⟨hh, _⟩ := List.getElem?_eq_some_iff.mp h
    simpa [rangeItems] using hh
  refine ⟨hlt, ?_⟩
  rw [rangeItems, List.getElem?_map, List.getElem?_range hlt] at h
  simpa using h.symm
theorem rangeItems_length {a c : Int} {n : Nat} : (rangeItems a c n).length = n := by simp [rangeItems]

/-- an iterator over a range -/
theorem Iter.range (hC : C.Ok) {O : List (Str × Addr)} {hb : Heap} {I : Addr} {a c : Int} {n : Nat} :
    Iter C O hb I (rangeItems a c n) (fun i h => IsRangeIter h I (a + (i : Nat) * c) ((n : Int) - (i : Nat)) c) := by
  have W : Walks C.prog C.w C.A I [I] [I] n (fun i v => ∃ t, v = .int (a + i * c) t) (fun i h => IsRangeIter h I (a + (i : Nat) * c) ((n : Int) - (i : Nat)) c) := Walks.range hC.handled I a c n
  refine ⟨fun i h q => ⟨_, _, q, rfl, by intro z; simp at z⟩, fun i h h' q k1 k2 => k1 _ q, fun i p s' Q E hp q hQ => ?_, fun s' Q E q hQ => ?_, fun i s' Q E q hQ => ?_, fun i s' elts k pos T Q E q hQ => ?_⟩
  · obtain ⟨hlt, rfl⟩ := rangeItems_get hp
    refine W.item i s' Q E hlt q fun v h' tk hv hS hk => ?_
    obtain ⟨t, rfl⟩ := hv
    exact hQ _ h' tk (.int _ _) hS fun b o hb e => hk b o (by simpa using hb) e
  · rw [rangeItems_length] at q
    exact W.done s' Q E q fun h' tk hk => hQ h' tk fun b o hb e => hk b o (by simpa using hb) e
  · exact W.self i s' Q E q hQ
  · exact owned_of q rfl rfl (by decide) hQ

theorem it_range (hC : C.Ok) {O : List (Str × Addr)} {s s₁ : Shared} (I1 : Inv C ρ O g₁ s₁) (st : Step C g₁ s s₁) {r : Addr} {a b c : Int} {t u v : Tok} {n : Nat} (hr : IsRange s₁.heap r a b c t u v) (hsmall : Builtin.Range.small a b c = true)
    (hn : Builtin.Range.rangeSize a b c = n) : wpAny C.mod C.A (pyIter (.ref r)) (fun it s' => ∃ I S, it = .ref I ∧ Iter C O s'.heap I (rangeItems a c n) S ∧ S 0 s'.heap ∧ s.heap.get? I = none ∧ Step C g₁ s s') NoE s₁ := by
  refine wpAny_pyIter_range hr hsmall ⟨s₁.heap.objs.size, fun i h => IsRangeIter h s₁.heap.objs.size (a + (i : Nat) * c) ((n : Int) - (i : Nat)) c, rfl, Iter.range hC, ?_, st.fresh hC (get_size_none _), st.trans (.of_keeps hC I1.world keeps_push)⟩
  have e1 : (a + ((0 : Nat) : Int) * c) = a := by simp
  have e2 : ((n : Int) - ((0 : Nat) : Int)) = Builtin.Range.rangeSize a b c := by rw [hn]; simp
  show IsRangeIter _ _ (a + ((0 : Nat) : Int) * c) ((n : Int) - ((0 : Nat) : Int)) c
  rw [e1, e2]
  exact Heap.get?_push_size _ rfl

theorem EvIt.range2 (hC : C.Ok) {x : Str} {np pos : Pos} {e₁ e₂ : Expr} {a b : Int} (hg : GlobIs C x (.type "range")) (h : EvL C ρ g [e₁, e₂] [.int a, .int b] g₁) (h1 : -(2 ^ 62) ≤ a) (h2 : a < 2 ^ 62) (h3 : -(2 ^ 62) ≤ b) (h4 : b < 2 ^ 62)
    (hn : (backTo pos (starEach [e₁, e₂] C.env)).any (·.1) = false := by rfl) : EvIt C ρ g (.Call (.Name x np) [e₁, e₂] [] pos) (rangeItems a 1 (b - a).toNat) g₁ := fun O s I => by
  refine wpAny_Call_NameR (eval_glob hC hg I (PyProof.Rows.callWith_type hn (evalArgs_any hn (wpAny_mono (h O s pos I) (fun us s₁ ⟨r1, st⟩ => ?_) fun _ _ x => x))))
  have I1 := I.step hC st
  obtain ⟨t, u, rfl⟩ : ∃ t u, us = [.int a t, .int b u] := by
    cases r1 with
    | cons a1 b1 => cases a1; cases b1 with
      | cons a2 b2 => cases a2; cases b2; exact ⟨_, _, rfl⟩
  refine call_range_2 ?_
  have st2 := Step.of_keeps hC I1.world (s' := { s₁ with heap := s₁.heap.push { cls := .type "range", data := .fields #[.int a t, .int b u, .int 1 s₁.toks] }, toks := s₁.toks + 1 }) ⟨_, _, rfl, fun _ _ e => Heap.get?_push_of_some _ e⟩
  exact it_range hC (I1.step hC st2) (st.trans st2) (IsRange.new ..) (small_one h1 h2 h3 h4) (by rw [rangeSize_one]; split <;> omega)

theorem EvIt.range1 (hC : C.Ok) {x : Str} {np pos : Pos} {e₁ : Expr} {b : Int} (hg : GlobIs C x (.type "range")) (h : EvL C ρ g [e₁] [.int b] g₁) (h3 : -(2 ^ 62) ≤ b) (h4 : b < 2 ^ 62)
    (hn : (backTo pos (starEach [e₁] C.env)).any (·.1) = false := by rfl) : EvIt C ρ g (.Call (.Name x np) [e₁] [] pos) (rangeItems 0 1 b.toNat) g₁ := fun O s I => by
  refine wpAny_Call_NameR (eval_glob hC hg I (PyProof.Rows.callWith_type hn (evalArgs_any hn (wpAny_mono (h O s pos I) (fun us s₁ ⟨r1, st⟩ => ?_) fun _ _ x => x))))
  have I1 := I.step hC st
  obtain ⟨t, rfl⟩ : ∃ t, us = [.int b t] := by
    cases r1 with
    | cons a1 b1 => cases a1; cases b1; exact ⟨_, rfl⟩
  refine call_range_1 ?_
  have st2 := Step.of_keeps hC I1.world (s' := { s₁ with heap := s₁.heap.push { cls := .type "range", data := .fields #[.int 0 s₁.toks, .int b t, .int 1 (s₁.toks + 1)] }, toks := s₁.toks + 1 + 1 }) ⟨_, _, rfl, fun _ _ e => Heap.get?_push_of_some _ e⟩
  exact it_range hC (I1.step hC st2) (st.trans st2) (IsRange.new ..) (small_one (by decide) (by decide) h3 h4) (by rw [rangeSize_one]; split <;> omega)

end
end Mine
end

section
namespace Mine
open PySem PySem.Calls PyProof.Rows

theorem seqIndex_of {i : Int} {n : Nat} (h0 : 0 ≤ i) (h : i.toNat < n) : seqIndex? i n = some i.toNat := by
  unfold seqIndex?
  have h1 : ¬ i < 0 := by omega
  simp only [h1, if_false]
  rw [if_pos (by simp only [Bool.and_eq_true, decide_eq_true_eq]; omega)]

/-- what a slice by ones picks -/
noncomputable def clipTo (v : Option Int) (dflt : Int) (n : Nat) : Int := match v with
  | none => dflt
  | some i => let i := if i < 0 then i + n else i; max 0 (min i n)
noncomputable def pySlice {α : Type} (xs : List α) (lo hi : Option Int) : List α := (xs.drop (clipTo lo 0 xs.length).toNat).take (clipTo hi xs.length xs.length - clipTo lo 0 xs.length).toNat

theorem clipTo_bounds (v : Option Int) (d : Int) (n : Nat) (h0 : 0 ≤ d) (h1 : d ≤ n) : 0 ≤ clipTo v d n ∧ clipTo v d n ≤ n := by
  unfold clipTo
  cases v with
  | none => exact ⟨h0, h1⟩
  | some i => simp only; split <;> omega

theorem range_pick {α : Type} (xs : List α) (a : Nat) : ∀ k : Nat, a + k ≤ xs.length → ((List.range k).map fun (j : Nat) => a + j).filterMap (xs[·]?) = (xs.drop a).take k
  | 0, _ => by simp
  | k + 1, h => by
    rw [List.range_succ, List.map_append, List.filterMap_append, range_pick xs a k (by omega), List.take_add_one]
    congr 1
    have hlt : a + k < xs.length := by omega
    simp [hlt]
theorem slice_pick {α : Type} (xs : List α) (a b : Int) (h0 : 0 ≤ a) (h1 : b ≤ xs.length) : (sliceRange a b 1).filterMap (xs[·]?) = (xs.drop a.toNat).take (b - a).toNat := by
  unfold sliceRange
  by_cases hab : a < b
  · have e : ((List.range (b - a).toNat).map fun (k : Nat) => (a + 1 * (k : Int)).toNat) = (List.range (b - a).toNat).map fun (j : Nat) => a.toNat + j := by
      apply List.map_congr_left
      intro k _
      omega
    simp only [show ((1 : Int) > 0) from by decide, if_true, hab, Int.add_sub_cancel, Int.ediv_one]
    rw [e]
    exact range_pick xs a.toNat (b - a).toNat (by omega)
  · simp only [show ((1 : Int) > 0) from by decide, if_true, hab, if_false]
    have : (b - a).toNat = 0 := by omega
    rw [this]
    simp

section
variable {C : Cx} {ρ ρ' ρ₁ : Env'} {g g' g₁ g₂ : C.G} {P P' : Fl → Env' → C.G → Prop}

theorem Ev.neg (hC : C.Ok) {e : Expr} {pos : Pos} {a : Int} (h : Ev C ρ g e (.int a) g₁) : Ev C ρ g (.UnaryOp .USub e pos) (.int (-a)) g₁ := fun O s I =>
  wpAny_UnaryOp (wpAny_mono (h O s I) (fun u s₁ ⟨r, st⟩ => by
    cases r
    exact PyProof.Rows.neg_int ⟨.int _ _, st.trans (.of_keeps hC st.world keeps_tok)⟩) fun _ _ x => x)

/-! subscripts by an int -/
noncomputable def ItemOp (C : Cx) (p q r : PV) : Prop :=
  ∀ (X : Addr → Prop) (s : Shared) (value slice : Expr) (u v : Value) , (∀ o i, subscripted slice false o i = operate [o, i] (getItem o i)) → Rep X s.heap u p → Rep X s.heap v q →
    wpAny C.mod C.A (subscriptTail value slice u v) (fun z s' => Rep X s'.heap z r ∧ Keeps s s') NoE s
theorem Ev.sub (hC : C.Ok) {a b : Expr} {pos : Pos} {p q r : PV} (h1 : Ev C ρ g a p g₁) (h2 : Ev C ρ g₁ b q g₂) (ho : ItemOp C p q r)
    (hs : ∀ o i, subscripted b false o i = operate [o, i] (getItem o i) := by intro _ _; rfl) : Ev C ρ g (.Subscript a b pos) r g₂ := fun O s I =>
  Subscript_ (wpAny_mono (h1 O s I) (fun u s₁ ⟨r1, st1⟩ =>
    have I1 := I.step hC st1
    wpAny_mono (h2 O s₁ I1) (fun v s₂ ⟨r2, st2⟩ =>
      have I2 := I1.step hC st2
      wpAny_mono (ho (avoid C O) s₂ a b u v hs (r1.step hC st2) r2) (fun z s₃ ⟨r3, k⟩ => ⟨r3, (st1.trans st2).trans (.of_keeps hC I2.world k)⟩) fun _ _ x => x) fun _ _ x => x) fun _ _ x => x)

theorem item_list {xs : List PV} {i : Int} {r : PV} (h0 : 0 ≤ i) (h1 : i < 2 ^ 63) (hx : xs[i.toNat]? = some r) : ItemOp C (.list xs) (.int i) r := fun X s value slice u v hs r1 r2 => by
  cases r2
  cases r1 with
  | list ha hl hr =>
    obtain ⟨z, hz, rz⟩ := hr.get hx
    exact tail_any hl.isList.typeIs slot_list_getitem.lookup (wpAny_getItem_list hl.isList h0 h1 (by simpa using hz) ⟨rz, keeps_refl⟩) (hs _ _)
theorem item_str {x : List Nat} {i : Int} {c : Nat} (h0 : 0 ≤ i) (h1 : i < 2 ^ 62) (hx : x[i.toNat]? = some c) : ItemOp C (.str x) (.int i) (.str [c]) := fun X s value slice u v hs r1 r2 => by
  cases r2
  cases r1 with
  | str x t =>
    have hlt : i.toNat < x.length := (List.getElem?_eq_some_iff.mp hx).1
    have hT : s.TypeIs (.str ⟨x.toArray⟩ t) "str" := typeIs_str s _ t
    refine tail_any hT slot_str_getitem.lookup (PyProof.Rows.getItem_str (c := c) ?_ ?_ ⟨.str [c] _, keeps_tok⟩) (hs _ _)
    · simp only [Bool.or_eq_false_iff, decide_eq_false_iff_not]; omega
    · have hj : seqIndex? i (⟨x.toArray⟩ : Str).length = some i.toNat := by
        rw [str_length]
        exact seqIndex_of h0 hlt
      rw [hj]
      simpa using hx

/-! slices -/
noncomputable def EvO (C : Cx) (ρ : Env') (g : C.G) (e : Option Expr) (v : Option Int) (g' : C.G) : Prop :=
  ∀ O s, Inv C ρ O g s → wpAny C.mod C.A (evalPart e C.env) (fun u s' => (∃ t, u = partValue (v.map (·, t))) ∧ Step C g' s s') NoE s
theorem EvO.none : EvO C ρ g none none g := fun O s I => wpAny_evalPart_none ⟨⟨0, rfl⟩, .refl I.world⟩
theorem EvO.some {e : Expr} {i : Int} (h : Ev C ρ g e (.int i) g₁) : EvO C ρ g (some e) (some i) g₁ := fun O s I =>
  wpAny_evalPart_some (wpAny_mono (h O s I) (fun u s₁ ⟨r, st⟩ => by cases r with | int i t => exact ⟨⟨t, rfl⟩, st⟩) fun _ _ x => x)

theorem slicePick_is (vs : Array Value) (lo hi : Option Int) : (slicePick vs lo hi none).toList = pySlice vs.toList lo hi := by
  unfold slicePick pySlice
  have e1 : (sliceBounds lo hi none vs.size).1 = clipTo lo 0 vs.toList.length := by
    simp only [sliceBounds, clipTo, Array.length_toList]
    cases lo <;> simp
  have e2 : (sliceBounds lo hi none vs.size).2.1 = clipTo hi vs.toList.length vs.toList.length := by
    simp only [sliceBounds, clipTo, Array.length_toList]
    cases hi <;> simp
  have e3 : (sliceBounds lo hi none vs.size).2.2 = 1 := rfl
  rw [e1, e2, e3]
  have h1 := clipTo_bounds lo 0 vs.toList.length (by omega) (by omega)
  have h2 := clipTo_bounds hi vs.toList.length vs.toList.length (by omega) (by omega)
  rw [← slice_pick vs.toList _ _ h1.1 h2.2]
  simp

theorem Ev.sliceList (hC : C.Ok) {a : Expr} {lo hi : Option Expr} {p pos : Pos} {xs : List PV} {l u : Option Int} (h1 : Ev C ρ g a (.list xs) g) (h2 : EvO C ρ g lo l g) (h3 : EvO C ρ g hi u g) (hn : xs.length ≤ 4096) :
    Ev C ρ g (.Subscript a (.Slice lo hi Option.none p) pos) (.list (pySlice xs l u)) g := fun O s I => by
  refine Subscript_ (wpAny_mono (h1 O s I) (fun v s₁ ⟨r1, st1⟩ => ?_) fun _ _ x => x)
  have I1 := I.step hC st1
  refine wpAny_Slice (wpAny_mono (h2 O s₁ I1) (fun vl s₂ ⟨⟨t, el⟩, st2⟩ => ?_) fun _ _ x => x)
  have I2 := I1.step hC st2
  refine wpAny_mono (h3 O s₂ I2) (fun vu s₃ ⟨⟨t', eu⟩, st3⟩ => wpAny_evalPart_none ?_) fun _ _ x => x
  have I3 := I2.step hC st3
  subst el eu
  cases r1 with
  | @list a vs _ ha hl hr =>
    have r1' := (Rep.list ha hl hr).step hC (st2.trans st3)
    have st4 := Step.of_keeps hC I3.world (keeps_push (s := s₃) (o := { cls := .type "slice", data := .fields #[partValue (l.map (·, t)), partValue (u.map (·, t')), .none] }))
    have I4 := I3.step hC st4
    have r1'' := r1'.step hC st4
    cases r1'' with
    | @list _ vs _ ha hl hr =>
      have hsz : vs.size ≤ 4096 := by have := hr.length; simp only [Array.length_toList] at this; omega
      refine tail_any (ops := [.ref s₃.heap.objs.size, .ref a]) hl.isList.typeIs slot_list_getitem.lookup (wpAny_getItem_list_slice (lo := l) (hi := u) (st := Option.none) hl.isList ⟨_, Heap.get?_push_size _ rfl, rfl, rfl⟩ ?_ ?_ .none (by intro h; cases h) ?_ (by show _ ≤ 2 ^ 24; omega)) rfl
      · cases l with
        | none => exact .none
        | some i => exact .int _ _
      · cases u with
        | none => exact .none
        | some i => exact .int _ _
      · refine ⟨.list (I4.new hC (get_size_none _)).2.2.2 ⟨0, Heap.get?_push_size _ rfl⟩ ?_, ((st1.trans st2).trans st3).trans (st4.trans (.of_keeps hC I4.world keeps_push))⟩
        rw [slicePick_is]
        have hlen := hr.length
        unfold pySlice
        rw [hlen]
        exact (Reps.take _ (Reps.drop _ hr)).keepAll fun _ _ e => Heap.get?_push_of_some _ e

theorem strSlice_is (x : List Nat) (lo hi : Option Int) : (Builtin.Str.strSliceIndices lo hi 1 x.length).filterMap (x[·]?) = pySlice x lo hi := by
  unfold Builtin.Str.strSliceIndices pySlice
  have h1 := clipTo_bounds lo 0 x.length (by omega) (by omega)
  have h2 := clipTo_bounds hi x.length x.length (by omega) (by omega)
  rw [← slice_pick x _ _ h1.1 h2.2]
  congr 1
theorem strSlice_len (x : List Nat) (lo hi : Option Int) : (Builtin.Str.strSliceIndices lo hi 1 x.length).length = (pySlice x lo hi).length := by
  have h1 := clipTo_bounds lo 0 x.length (by omega) (by omega)
  have h2 := clipTo_bounds hi x.length x.length (by omega) (by omega)
  have e : Builtin.Str.strSliceIndices lo hi 1 x.length = sliceRange (clipTo lo 0 x.length) (clipTo hi x.length x.length) 1 := by
    unfold Builtin.Str.strSliceIndices
    rfl
  rw [e]
  unfold pySlice sliceRange
  simp only [List.length_map, List.length_range, List.length_take, List.length_drop, show ((1 : Int) > 0) from by decide, if_true, Int.add_sub_cancel, Int.ediv_one]
  split <;> omega
theorem pySlice_length_le {α : Type} (x : List α) (lo hi : Option Int) : (pySlice x lo hi).length ≤ x.length := by
  unfold pySlice
  rw [List.length_take, List.length_drop]; omega
theorem pySlice_whole {α : Type} (x : List α) (lo hi : Option Int) (h : (pySlice x lo hi).length = x.length) : pySlice x lo hi = x := by
  unfold pySlice at h ⊢
  rw [List.length_take, List.length_drop] at h
  by_cases h0 : x.length = 0
  · have : x = [] := List.length_eq_zero_iff.mp h0
    subst this; simp
  · have e1 : (clipTo lo 0 x.length).toNat = 0 := by omega
    rw [e1, List.drop_zero]
    exact List.take_of_length_le (by omega)

theorem Ev.sliceStr (hC : C.Ok) {a : Expr} {lo hi : Option Expr} {p pos : Pos} {x : List Nat} {l u : Option Int} (h1 : Ev C ρ g a (.str x) g) (h2 : EvO C ρ g lo l g) (h3 : EvO C ρ g hi u g) (hn : x.length ≤ 16777216) :
    Ev C ρ g (.Subscript a (.Slice lo hi Option.none p) pos) (.str (pySlice x l u)) g := fun O s I => by
  refine Subscript_ (wpAny_mono (h1 O s I) (fun v s₁ ⟨r1, st1⟩ => ?_) fun _ _ x => x)
  have I1 := I.step hC st1
  refine wpAny_Slice (wpAny_mono (h2 O s₁ I1) (fun vl s₂ ⟨⟨t, el⟩, st2⟩ => ?_) fun _ _ x => x)
  have I2 := I1.step hC st2
  refine wpAny_mono (h3 O s₂ I2) (fun vu s₃ ⟨⟨t', eu⟩, st3⟩ => wpAny_evalPart_none ?_) fun _ _ x => x
  have I3 := I2.step hC st3
  subst el eu
  cases r1 with
  | str x tx =>
    have st4 := Step.of_keeps hC I3.world (keeps_push (s := s₃) (o := { cls := .type "slice", data := .fields #[partValue (l.map (·, t)), partValue (u.map (·, t')), .none] }))
    have I4 := I3.step hC st4
    have sts := ((st1.trans st2).trans st3).trans st4
    refine tail_any (ops := [.ref s₃.heap.objs.size, .str ⟨x.toArray⟩ tx]) (typeIs_str _ _ tx) slot_str_getitem.lookup (wpAny_getItem_str_slice (l := l.map (·, t)) (u := u.map (·, t')) (st := Option.none) ⟨_, Heap.get?_push_size _ rfl, rfl, rfl⟩ rfl ?_) rfl
    have ep : slicePicked ⟨x.toArray⟩ (l.map (·, t)) (u.map (·, t')) Option.none = Builtin.Str.strSliceIndices l u 1 x.length := by
      unfold slicePicked
      rw [str_length, Option.map_map, Option.map_map]
      congr 1
      · cases l <;> rfl
      · cases u <;> rfl
    unfold sliceMade
    rw [ep, str_length]
    split
    · rename_i hw
      have hlen : (pySlice x l u).length = x.length := by
        rw [← strSlice_len]
        simpa using hw
      refine ⟨?_, sts⟩
      rw [pySlice_whole x l u hlen]
      exact .str x tx
    · have e2 : (Builtin.Str.strSliceIndices l u 1 x.length).filterMap (fun k => (⟨x.toArray⟩ : Str).cps[k]?) = pySlice x l u := by
        rw [← strSlice_is]
        congr 1
        funext k
        simp
      rw [e2]
      refine ⟨?_, .str _ _, sts.trans (.of_keeps hC I4.world keeps_tok)⟩
      rw [str_length]
      have := pySlice_length_le x l u
      show _ ≤ 2 ^ 24
      omega
end
end Mine
end

section
namespace Mine
open PySem PySem.Calls PyProof.Rows

section
variable {C : Cx} {ρ ρ' ρ₁ : Env'} {g g' g₁ g₂ : C.G} {P P' : Fl → Env' → C.G → Prop}

theorem op_catList {xs ys : List PV} (h : xs.length + ys.length ≤ 4096) : Op2 C (binaryOp .Add) (.list xs) (.list ys) (.list (xs ++ ys)) := fun X s u v hX r1 r2 => by
  cases r1 with
  | @list a vs _ ha hl hr =>
    cases r2 with
    | @list b ws _ hb hl2 hr2 =>
      obtain ⟨n, ho⟩ := hl
      obtain ⟨n2, ho2⟩ := hl2
      have h1 := hr.length
      have h2 := hr2.length
      simp only [Array.length_toList] at h1 h2
      refine concat_meets ⟨_, ho, rfl⟩ ⟨_, ho2, rfl⟩ noFill_list_add seq_list_add PySem.F.slot_list_add PySem.F.entry_list_add (PySem.F.args_list_add_2 _ _) (list_addW a b vs ws n n2 none none #[] #[] (by show _ ≤ 2 ^ 24; omega)) ⟨ho, ho2, ?_⟩
      refine ⟨.list (hX _ (get_size_none _)) ⟨_, Heap.get?_push_size _ rfl⟩ ?_, keeps_push⟩
      rw [Array.toList_append]
      exact (Reps.append hr hr2).keepAll fun _ _ e => Heap.get?_push_of_some _ e

theorem Reps.replicate {X : Addr → Prop} {h : Heap} {vs : List Value} {ps : List PV} (r : Reps X h vs ps) : ∀ n : Nat, Reps X h (List.replicate n vs).flatten (List.replicate n ps).flatten
  | 0 => .nil
  | n + 1 => by rw [List.replicate_succ, List.replicate_succ, List.flatten_cons, List.flatten_cons]; exact r.append (Reps.replicate r n)
theorem foldl_arrays (l : List (Array Value)) : ∀ acc : Array Value, (l.foldl (fun x1 x2 => x1 ++ x2) acc).toList = acc.toList ++ (l.map Array.toList).flatten := by
  induction l with
  | nil => intro acc; simp
  | cons a l ih => intro acc; rw [List.foldl_cons, ih]; simp

theorem op_mulList {xs : List PV} {n : Int} (h0 : 0 ≤ n) (h : xs.length * n.toNat ≤ 4096) (h1 : n ≤ 4096) : Op2 C (binaryOp .Mult) (.list xs) (.int n) (.list (List.replicate n.toNat xs).flatten) := fun X s u v hX r1 r2 => by
  cases r2
  rename_i tok
  cases r1 with
  | @list l vs _ ha hl hr =>
    obtain ⟨k, hl⟩ := hl
    have e1 := hr.length
    simp only [Array.length_toList] at e1
    refine wpAny_binaryOp_repeat_ref (T := "list") (U := "int") (by decide) ⟨_, hl, rfl⟩ (fun s' => typeIs_int s' n tok) noFill_list_mul F.fills_int_mul F.slot_int_rmul repeat_list F.slot_int_index.lookup
      (call_meets F.slot_int_rmul (typeIs_int s n tok) F.entry_int_rmul (F.args_int_rmul_2 _ _) (int___rmul___int_list n tok l vs k)
        ⟨hl, rfl, ⟨_, hl, rfl⟩, call_meets F.slot_list_mul ⟨_, hl, rfl⟩ F.entry_list_mul (F.args_list_mul_2 _ _)
          (AutoListH.list___mul___list_int_3 l vs k n tok (by simp [Builtin.List.listFitsIndex]; omega) (by rw [e1]; omega) (by simp only [Builtin.List.listTooLong, sizeLine, e1]; simp; omega)) ⟨hl, ?_⟩⟩)
    refine ⟨.list (hX _ (get_size_none _)) ⟨_, Heap.get?_push_size _ rfl⟩ ?_, keeps_push⟩
    rw [foldl_arrays]
    have e2 : (List.map Array.toList (List.replicate (if vs.isEmpty = true then 0 else n.toNat) vs)).flatten = (List.replicate n.toNat vs.toList).flatten := by
      rw [List.map_replicate]
      by_cases hv : vs.isEmpty = true
      · rw [if_pos hv]
        have : vs.toList = [] := by simpa using hv
        rw [this]; simp
      · rw [if_neg hv]
    rw [e2]
    simp only [List.nil_append]
    exact (Reps.replicate hr n.toNat).keepAll fun _ _ e => Heap.get?_push_of_some _ e

theorem foldl_nats (l : List (Array Nat)) : ∀ acc : Array Nat, (l.foldl (· ++ ·) acc).toList = acc.toList ++ (l.map Array.toList).flatten := by
  induction l with
  | nil => intro acc; simp
  | cons a l ih => intro acc; rw [List.foldl_cons, ih]; simp
theorem txt_mul (x : List Nat) (n : Int) : Txt.mul ⟨x.toArray⟩ n = ⟨(List.replicate n.toNat x).flatten.toArray⟩ := by
  unfold Txt.mul
  split
  · have : n.toNat = 0 := by omega
    rw [this]; rfl
  · split
    · rename_i h
      simp only [Bool.or_eq_true, beq_iff_eq] at h
      rcases h with h | h
      · subst h; simp
      · rw [str_length] at h
        have : x = [] := List.length_eq_zero_iff.mp h
        subst this; simp
    · congr 1
      apply Array.ext'
      rw [foldl_nats]
      simp
theorem op_mulStr {x : List Nat} {n : Int} (h0 : 0 ≤ n) (h : x.length ≤ 4096) (h1 : n ≤ 4096) : Op2 C (binaryOp .Mult) (.str x) (.int n) (.str (List.replicate n.toNat x).flatten) := fun X s u v hX r1 r2 => by
  cases r1; cases r2
  refine PySem.SB.mul ?_ (fun t' k => ?_)
  · unfold MulOk
    rw [str_length]
    refine ⟨by simp; omega, fun h2 _ => ?_, fun h2 _ => ?_⟩
    · have h3 : (4096 : Int) ≤ (2 ^ 63 - 1) / n := (Int.le_ediv_iff_mul_le (by omega)).mpr (by
        have : (4096 : Int) * n ≤ 4096 * 4096 := Int.mul_le_mul_of_nonneg_left h1 (by decide)
        omega)
      omega
    · have hm : x.length * n.toNat ≤ 4096 * 4096 := Nat.mul_le_mul h (by omega)
      unfold Builtin.Str.tooLong
      simp [sizeLine]; omega
  · rw [txt_mul]
    exact ⟨.str _ _, keeps_tok⟩

theorem op_in {x : List Nat} {c : Nat} : Op2 C (compareOp .In) (.str [c]) (.str x) (.bool (decide (c ∈ x))) := fun X s u v hX r1 r2 => by
  cases r1; cases r2
  refine PyProof.Rows.in_str ?_
  have := StrLaws.found_one ⟨x.toArray⟩ c
  rw [show (⟨[c].toArray⟩ : Str) = ⟨#[c]⟩ from rfl, this]
  exact ⟨.bool _, keeps_refl⟩

/-! built-ins -/
theorem call_lenS {x : List Nat} (h : x.length ≤ 16777216) : OpL C (fun us => call (.builtin "len") us) [.str x] (.int x.length) := fun X s us hX r => by
  cases r with
  | cons a b => cases a; cases b
                refine PyProof.Rows.len_str ?_ ?_
                · rw [str_length]; omega
                · rw [str_length]; exact ⟨.int _ _, keeps_tok⟩
theorem call_lenL {xs : List PV} (h : xs.length ≤ 16777216) : OpL C (fun us => call (.builtin "len") us) [.list xs] (.int xs.length) := fun X s us hX r => by
  cases r with
  | cons a b =>
    cases b
    cases a with
    | list ha hl hr =>
      have e := hr.length
      simp only [Array.length_toList] at e
      refine PyProof.Rows.len_list hl.isList (by omega) ?_
      rw [e]
      exact ⟨.int _ _, keeps_tok⟩
theorem call_ord {c : Nat} : OpL C (fun us => call (.builtin "ord") us) [.str [c]] (.int c) := fun X s us hX r => by
  cases r with
  | cons a b => cases a; cases b
                exact PyProof.Rows.ord_of_one rfl ⟨.int _ _, keeps_tok⟩
theorem call_chr {i : Int} (h0 : 0 ≤ i) (h1 : i ≤ 1114111) : OpL C (fun us => call (.builtin "chr") us) [.int i] (.str [i.toNat]) := fun X s us hX r => by
  cases r with
  | cons a b => cases a; cases b
                exact PyProof.Rows.chr_of_range h0 h1 ⟨.str [i.toNat] _, keeps_tok⟩

end
end Mine
end

section
namespace Mine
open PySem PySem.Calls PyProof.Rows

section
variable {C : Cx} {ρ ρ' ρ₁ : Env'} {g g' g₁ g₂ : C.G} {P P' : Fl → Env' → C.G → Prop} {O O' : List (Str × Addr)} {s s' : Shared}

/-! lists that the frame owns -/
/-- a new list is the frame's own -/
theorem Inv.addOwn (hC : C.Ok) (I : Inv C ρ O g s) (x : Str) {o : Obj} {vs : Array Value} (ho : o = { cls := .type "list", data := .seq vs }) : Inv C ρ ((x, s.heap.objs.size) :: O) g { s with heap := s.heap.push o } := by
  subst ho
  have st := Step.of_keeps hC I.world (keeps_push (s := s) (o := { cls := .type "list", data := .seq vs }))
  have I2 := I.step hC st
  have hn := I.new hC (get_size_none s.heap)
  have av : ∀ a o, ¬ avoid C O a → s.heap.get? a = some o → ¬ avoid C ((x, s.heap.objs.size) :: O) a := fun a o h e => by
    rintro (q | ⟨y, q⟩)
    · exact h (.inl q)
    · rcases List.mem_cons.mp q with q | q
      · cases q; rw [get_size_none] at e; cases e
      · exact h (.inr ⟨y, q⟩)
  obtain ⟨m, hm, hl⟩ := I.loc
  refine ⟨I2.rest, I2.old, I2.world, I2.names, ⟨m, hm.push _, fun y v hy => ?_⟩, I2.cells, fun y a hy => ?_, fun y z a hy hz => ?_⟩
  · have q := hl y v hy
    have sl : ∀ z, Slot C m s.heap y z → Slot C m (s.heap.push { cls := .type "list", data := .seq vs }) y z := fun z hz => hz.of fun c _ o e => Heap.get?_push_of_some _ e
    have rp : ∀ {u : Value} {p : PV}, Rep (avoid C O) s.heap u p → Rep (avoid C ((x, s.heap.objs.size) :: O)) (s.heap.push { cls := .type "list", data := .seq vs }) u p := fun r => r.mono (fun a o h _ e => av a o h e) fun a o _ _ e => Heap.get?_push_of_some _ e
    cases v with
    | undef => exact q
    | val p => obtain ⟨q0, u, q1, q2⟩ := q; exact ⟨q0, u, sl u q1, rp q2⟩
    | ro p => obtain ⟨u, q1, q2⟩ := q; exact ⟨u, sl u q1, rp q2⟩
    | own xs =>
      obtain ⟨q0, a, ws, q1, q2, ⟨n, q3⟩, q4⟩ := q
      exact ⟨q0, a, ws, sl _ q1, List.mem_cons_of_mem _ q2, ⟨n, Heap.get?_push_of_some _ q3⟩, q4.mono (fun a o h _ e => av a o h e) fun a o _ _ e => Heap.get?_push_of_some _ e⟩
  · rcases List.mem_cons.mp hy with q | q
    · cases q; exact ⟨hn.1, hn.2.2.1, vs, 0, Heap.get?_push_size _ rfl⟩
    · exact I2.own y a q
  · rcases List.mem_cons.mp hy with q | q <;> rcases List.mem_cons.mp hz with q' | q'
    · cases q; cases q'; rfl
    · cases q; exact absurd (.inr ⟨z, q'⟩) hn.2.2.2
    · cases q'; exact absurd (.inr ⟨y, q⟩) hn.2.2.2
    · exact I.uniq y z a q q'

theorem St1.assignOwn (hC : C.Ok) {x : Str} {xp lp pos : Pos} {es : List Expr} {ps : List PV} (h : EvL C ρ g es ps g₁) (hn : ps.length ≤ 4096) (hp : Put ρ x (.own ps) ρ') (hP : P .next ρ' g₁) :
    St1 C ρ g (.Assign [.Name x xp] (.List es lp) pos) P := fun O s I => by
  refine wpAny_Assign_Name (wpAny_List (wpAny_mono (h O s lp I) (fun us s₁ ⟨r, st⟩ => ?_) fun _ _ x => x)) rfl
  have I1 := I.step hC st
  have hl := r.length
  refine ⟨by rw [hl]; show _ ≤ 2 ^ 24; omega, ?_⟩
  have I2 := I1.addOwn hC x (vs := us.toArray) rfl
  have hnone := st.skeep (O := O) hC
  refine store_lv hC I2 (fun m h' k hf sl => ?_) hp fun s' I' k _ => ⟨.next, ρ', _, g₁, hP, .next, I', SKeep.trans (O' := (x, s₁.heap.objs.size) :: O) ?_ k⟩
  · refine ⟨hf, s₁.heap.objs.size, us.toArray, sl, List.mem_cons_self, ⟨0, k _ _ ⟨_, _, rfl⟩ (Heap.get?_push_size _ rfl)⟩, r.mono (fun a o hh _ e => ?_) fun a o _ q e => k a o q (Heap.get?_push_of_some _ e)⟩
    rintro (q | ⟨y, q⟩)
    · exact hh (.inl q)
    · rcases List.mem_cons.mp q with q | q
      · cases q; rw [get_size_none] at e; cases e
      · exact hh (.inr ⟨y, q⟩)
  · refine ⟨fun a o h1 h2 h3 h4 e => Heap.get?_push_of_some _ (hnone.keep a o h1 h2 h3 h4 e), fun y a hy => ?_, fun a o e => ?_⟩
    · rcases List.mem_cons.mp hy with q | q
      · cases q; exact .inr (st.fresh hC (get_size_none _))
      · exact .inl q
    · obtain ⟨o', e'⟩ := hnone.pres a o e
      exact ⟨o', Heap.get?_push_of_some _ e'⟩

theorem Ns_unique {h : Heap} {a : Addr} {m m' : Str → Option Value} (n : h.Ns a m) (n' : h.Ns a m') : m = m' := by
  obtain ⟨o, es, ep, e, d, _, q⟩ := n
  obtain ⟨o', es', ep', e', d', _, q'⟩ := n'
  rw [e] at e'; cases e'
  rw [d] at d'; cases d'
  funext x
  rw [← q x, q' x]
/-- the name of an owned list -/
theorem eval_own (hC : C.Ok) {x : Str} {pos : Pos} {xs : List PV} (h : (x, LV.own xs) ∈ ρ) (I : Inv C ρ O g s) {Q : Value → Shared → Prop}
    (hQ : ∀ a vs, (x, a) ∈ O → s.heap.PlainList a vs → Reps (avoid C O) s.heap vs.toList xs → (∀ m, s.heap.Ns C.env.locals m → Slot C m s.heap x (.ref a)) → Q (.ref a) s) : wpAny C.mod C.A (eval (.Name x pos) C.env) Q NoE s := by
  obtain ⟨m, hn, hl⟩ := I.loc
  obtain ⟨_, a, vs, q, q2, q3, q4⟩ := hl x _ h
  have hd := hC.notDebug x (mem_names I.names h)
  have hsl : ∀ m', s.heap.Ns C.env.locals m' → Slot C m' s.heap x (.ref a) := fun m' hm' => by rw [Ns_unique hm' hn]; exact q
  refine wpAny_Name ?_ hd.1
  rcases q with ⟨q1, q2'⟩ | ⟨q1 | q1, c, q2', q3'⟩
  · exact wpAny_loadName_local hC.kind q1 hn q2' (hQ a vs q2 q3 q4 hsl)
  · exact wpAny_loadName_cell hC.kind q1 q2' q3' (hQ a vs q2 q3 q4 hsl)
  · exact wpAny_loadName_free hC.kind q1 q2' q3' (hQ a vs q2 q3 q4 hsl) hd.2

/-- an owned list grows -/
theorem Inv.grow (hC : C.Ok) (I : Inv C ρ O g s) {x : Str} {a : Addr} {vs : Array Value} {xs : List PV} (ha : (x, a) ∈ O) (hr : Reps (avoid C O) s.heap vs.toList xs) {h' : Heap} (hl : h'.PlainList a vs) (hs : Heap.SameBut a s.heap h')
    (hρ : ∀ y v, (y, v) ∈ ρ' → (y = x ∧ v = .own xs ∧ ∃ ws, (x, LV.own ws) ∈ ρ) ∨ ((∀ ws, v = .own ws → y ≠ x) ∧ (y, v) ∈ ρ)) (hnm : ρ'.map (·.1) = ρ.map (·.1)) (hx : ∀ ws, (x, LV.own ws) ∈ ρ → ∀ m, s.heap.Ns C.env.locals m → Slot C m s.heap x (.ref a)) :
    Inv C ρ' O g { s with heap := h' } := by
  have hn := I.own x a ha
  obtain ⟨o0, q0, e0⟩ := plain_isSeq hn.2.2.choose_spec
  obtain ⟨m, hm, hll⟩ := I.loc
  have hL : C.env.locals ≠ a := Ne.symm (seq_ne_dict q0 e0 hm)
  have hcl : ∀ y c, C.env.cells.lookup y = some c → c ≠ a := fun y c hc => by
    obtain ⟨v, hv⟩ := I.cells y c hc
    exact Ne.symm (seq_ne_cell q0 e0 hv)
  have rp : ∀ {u : Value} {p : PV}, Rep (avoid C O) s.heap u p → Rep (avoid C O) h' u p := fun r => r.mono (fun _ _ h _ _ => h) fun b o hb _ e => (hs.2 b (fun q => hb (.inr ⟨x, q ▸ ha⟩))).trans e
  have rps : ∀ {u : List Value} {p : List PV}, Reps (avoid C O) s.heap u p → Reps (avoid C O) h' u p := fun r => r.mono (fun _ _ h _ _ => h) fun b o hb _ e => (hs.2 b (fun q => hb (.inr ⟨x, q ▸ ha⟩))).trans e
  have sl : ∀ y z, Slot C m s.heap y z → Slot C m h' y z := fun y z hz => hz.of fun c hc o e => (hs.2 c (hcl y c hc)).trans e
  refine ⟨I.rest, fun b o hf hM e => (hs.2 b (fun q => hf (q ▸ hn.1))).trans (I.old b o hf hM e), hC.stab g _ _ I.world fun b o hM e => (hs.2 b (hM.elim (fun hM q => hn.2.1 (q ▸ hM)) fun hr => rec_ne_seq hr e e0 q0)).trans e, hnm.trans I.names,
    ⟨m, hm.sameBut hs hL, fun y v hy => ?_⟩, fun y c hc => ?_, fun y b hb => ?_, I.uniq⟩
  · rcases hρ y v hy with ⟨rfl, rfl, ws, hw⟩ | ⟨hne, hy'⟩
    · have q := hll y _ hw
      exact ⟨q.1, a, vs, sl y _ (hx ws hw m hm), ha, hl, rps hr⟩
    · have q := hll y v hy'
      cases v with
      | undef => exact q
      | val p => obtain ⟨q0, u, q1, q2⟩ := q; exact ⟨q0, u, sl y u q1, rp q2⟩
      | ro p => obtain ⟨u, q1, q2⟩ := q; exact ⟨u, sl y u q1, rp q2⟩
      | own ws =>
        obtain ⟨q0, b, us, q1, q2, ⟨n, q3⟩, q4⟩ := q
        have hb : b ≠ a := fun e => hne ws rfl (I.uniq y x a (e ▸ q2) ha)
        exact ⟨q0, b, us, sl y _ q1, q2, ⟨n, (hs.2 b hb).trans q3⟩, rps q4⟩
  · obtain ⟨v, hv⟩ := I.cells y c hc
    exact ⟨v, hv.sameBut hs (hcl y c hc)⟩
  · by_cases e : b = a
    · subst e; exact ⟨hn.1, hn.2.1, vs, hl⟩
    · obtain ⟨f, hM, us, n, q⟩ := I.own y b hb
      exact ⟨f, hM, us, n, (hs.2 b e).trans q⟩

theorem St1.append (hC : C.Ok) {x : Str} {xp apos cpos pos : Pos} {e : Expr} {xs : List PV} {p : PV} (hx : (x, LV.own xs) ∈ ρ) (h : Ev C ρ g e p g₁) (hn : xs.length ≤ 4096) (hp : Put ρ x (.own (xs ++ [p])) ρ') (hP : P .next ρ' g₁)
    (hi : interactive C.env = false)
    (hline : (apos.endLine == cpos.line) = true := by rfl)
    (hfew : ((backTo cpos (starEach [e] C.env)).all (fun x => !x.1) && (backToKw cpos (keywordEach [] C.env)).all (fun x => x.1.isSome)
      && decide (([e] : List Expr).length + ([] : List Keyword).length + (if ([] : List Keyword).isEmpty then 0 else 1) < 30)) = true := by rfl)
    (htrees : backTo cpos (starEach [e] C.env) = [(false, eval e C.env)] := by rfl) :
    St1 C ρ g (.Expr (.Call (.Attribute (.Name x xp) "append" apos) [e] [] cpos) pos) P := fun O s I => by
  refine wpAny_Expr_any (wpAny_Call_append rfl hfew hline htrees ?_) hi rfl
  refine eval_own hC hx I fun a vs ha hl hr hsl => ⟨a, vs, rfl, ?_, ?_⟩
  · obtain ⟨n, q⟩ := hl; exact ⟨_, n, q, rfl, rfl, rfl⟩
  · refine wpAny_mono (h O s I) (fun u s₁ ⟨r, st⟩ => ?_) fun _ _ x => x
    have I1 := I.step hC st
    have hl1 : s₁.heap.PlainList a vs := by obtain ⟨n, q⟩ := hl; exact ⟨n, st.keep a _ (I.own x a ha).2.1 q⟩
    have hr1 := hr.step hC st
    have hsz := hr.length
    simp only [Array.length_toList] at hsz
    refine wpAny_list_append_plain hl1 (fun h' hl' hs' => ?_) (by show _ ≤ 2 ^ 24; omega)
    have nd : (ρ.map (·.1)).Nodup := by rw [I.names]; exact hC.nodup
    have I2 : Inv C ρ' O g₁ { s₁ with heap := h' } := by
      refine I1.grow hC ha (vs := vs.push u) (xs := xs ++ [p]) ?_ hl' hs' (fun y v hy => ?_) hp.names (fun ws hw m hm => ?_)
      · rw [Array.toList_push]; exact hr1.append (.cons r .nil)
      · rcases hp.mem nd y v hy with ⟨rfl, rfl⟩ | ⟨hne, hy'⟩
        · exact .inl ⟨rfl, rfl, xs, hx⟩
        · exact .inr ⟨fun _ _ => hne, hy'⟩
      · obtain ⟨m0, hm0, _⟩ := I.loc
        have : m = m0 := Ns_unique hm (Ns_of hm0 fun o e => st.keep _ o hC.locM e)
        rw [this]
        exact (hsl m0 hm0).of fun c hc o e => st.keep c o (hC.cellM x c hc) e
    exact ⟨.next, ρ', O, g₁, hP, .next, I2, (st.skeep hC).trans (SKeep.sameBut (.inr (.inr ⟨x, ha⟩)) hs' (by obtain ⟨n, q⟩ := hl'; exact ⟨_, q⟩))⟩

/-- an owned list is given up: it's a value from here on -/
theorem Inv.freeze (hC : C.Ok) (I : Inv C ρ O g s) {x : Str} {xs : List PV} (hx : (x, LV.own xs) ∈ ρ) (hp : Put ρ x (.val (.list xs)) ρ') : ∃ O', Inv C ρ' O' g s ∧ SKeep C O O' s s := by
  obtain ⟨m, hm, hll⟩ := I.loc
  obtain ⟨qf, a, vs, q1, q2, q3, q4⟩ := hll x _ hx
  have nd : (ρ.map (·.1)).Nodup := by rw [I.names]; exact hC.nodup
  have sub : ∀ y b, (y, b) ∈ O.filter (fun z => z.2 != a) → (y, b) ∈ O ∧ b ≠ a := fun y b h => by
    have := List.mem_filter.mp h
    exact ⟨this.1, by simpa using this.2⟩
  have av : ∀ b, ¬ avoid C O b → ¬ avoid C (O.filter fun z => z.2 != a) b := fun b h => by
    rintro (q | ⟨y, q⟩)
    · exact h (.inl q)
    · exact h (.inr ⟨y, (sub y b q).1⟩)
  have rp : ∀ {u : Value} {p : PV}, Rep (avoid C O) s.heap u p → Rep (avoid C (O.filter fun z => z.2 != a)) s.heap u p := fun r => r.mono (fun b _ h _ _ => av b h) fun _ _ _ _ e => e
  have rps : ∀ {u : List Value} {p : List PV}, Reps (avoid C O) s.heap u p → Reps (avoid C (O.filter fun z => z.2 != a)) s.heap u p := fun r => r.mono (fun b _ h _ _ => av b h) fun _ _ _ _ e => e
  refine ⟨O.filter fun z => z.2 != a, ⟨I.rest, I.old, I.world, hp.names.trans I.names, ⟨m, hm, fun y v hy => ?_⟩, I.cells, fun y b h => I.own y b (sub y b h).1, fun y z b h h' => I.uniq y z b (sub y b h).1 (sub z b h').1⟩,
    ⟨fun _ _ _ _ _ _ e => e, fun y b h => .inl (sub y b h).1, fun _ o e => ⟨o, e⟩⟩⟩
  rcases hp.mem nd y v hy with ⟨rfl, rfl⟩ | ⟨hne, hy'⟩
  · refine ⟨qf, .ref a, q1, .list ?_ q3 (rps q4)⟩
    rintro (q | ⟨z, q⟩)
    · exact hC.xf a q (I.own y a q2).1
    · exact (sub z a q).2 rfl
  · have q := hll y v hy'
    cases v with
    | undef => exact q
    | val p => obtain ⟨q0, u, q1, q2⟩ := q; exact ⟨q0, u, q1, rp q2⟩
    | ro p => obtain ⟨u, q1, q2⟩ := q; exact ⟨u, q1, rp q2⟩
    | own ws =>
      obtain ⟨q0, b, us, q1', q2', q3', q4'⟩ := q
      have hb : b ≠ a := fun e => hne (I.uniq y x a (e ▸ q2') q2)
      exact ⟨q0, b, us, q1', List.mem_filter.mpr ⟨q2', by simpa using hb⟩, q3', rps q4'⟩
theorem St.freeze (hC : C.Ok) {x : Str} {xs : List PV} {ss : List Stmt} (hx : (x, LV.own xs) ∈ ρ) (hp : Put ρ x (.val (.list xs)) ρ') (h : St C ρ' g ss P) : St C ρ g ss P := fun O s I => by
  obtain ⟨O', I', k⟩ := I.freeze hC hx hp
  exact wpAny_mono (h O' s I') (fun f s' p => p.after k) fun _ _ x => x

theorem Ev.lastOwn (hC : C.Ok) {x : Str} {xp pos : Pos} {b : Expr} {xs : List PV} {r : PV} (hx : (x, LV.own xs) ∈ ρ) (h2 : Ev C ρ g b (.int (-1)) g) (h1 : xs.length < 2 ^ 62) (hr : xs.getLast? = some r)
    (hs : ∀ o i, subscripted b false o i = operate [o, i] (getItem o i) := by intro _ _; rfl) : Ev C ρ g (.Subscript (.Name x xp) b pos) r g := fun O s I => by
  refine Subscript_ (eval_own hC hx I fun a vs ha hl hrs _ => wpAny_mono (h2 O s I) (fun v s₁ ⟨r2, st⟩ => ?_) fun _ _ x => x)
  cases r2
  have hl1 : s₁.heap.PlainList a vs := by obtain ⟨n, q⟩ := hl; exact ⟨n, st.keep a _ (I.own x a ha).2.1 q⟩
  have hne : 0 < xs.length := by cases xs with | nil => simp at hr | cons => simp
  have hx' : xs[xs.length - 1]? = some r := by rw [← List.getLast?_eq_getElem?]; exact hr
  obtain ⟨z, hz, rz⟩ := (hrs.step hC st).get hx'
  have hlen := hrs.length
  simp only [Array.length_toList] at hlen
  refine tail_any hl1.isList.typeIs slot_list_getitem.lookup (wpAny_getItem_list_neg hl1.isList (by decide) (by omega) (by decide) (x := z) ?_ ⟨rz, st⟩) (hs _ _)
  have : (-1 + (vs.size : Int)).toNat = xs.length - 1 := by omega
  rw [this]
  simpa using hz

/-! and, or as values -/
theorem Ev.and2 (hC : C.Ok) {a b : Expr} {pos : Pos} {p q : Bool} (h1 : Ev C ρ g a (.bool p) g) (h2 : p = true → Ev C ρ g b (.bool q) g) : Ev C ρ g (.BoolOp .And [a, b] pos) (.bool (p && q)) g := fun O s I =>
  wpAny_And2 (wpAny_mono (h1 O s I) (fun u s₁ ⟨r, st⟩ => by
    cases r
    refine wpAny_truthy_bool ?_
    cases p with
    | false => exact ⟨.bool _, st⟩
    | true => exact wpAny_mono (h2 rfl O s₁ (I.step hC st)) (fun v s₂ ⟨r, st2⟩ => ⟨r, st.trans st2⟩) fun _ _ x => x) fun _ _ x => x)
theorem Ev.or2 (hC : C.Ok) {a b : Expr} {pos : Pos} {p q : Bool} (h1 : Ev C ρ g a (.bool p) g) (h2 : p = false → Ev C ρ g b (.bool q) g) : Ev C ρ g (.BoolOp .Or [a, b] pos) (.bool (p || q)) g := fun O s I =>
  wpAny_Or2 (wpAny_mono (h1 O s I) (fun u s₁ ⟨r, st⟩ => by
    cases r
    refine wpAny_truthy_bool ?_
    cases p with
    | true => exact ⟨.bool _, st⟩
    | false => exact wpAny_mono (h2 rfl O s₁ (I.step hC st)) (fun v s₂ ⟨r, st2⟩ => ⟨r, st.trans st2⟩) fun _ _ x => x) fun _ _ x => x)

/-! two things that are the same, compared -/
mutual
noncomputable def PV.data : PV → PyData
  | .none => .none
  | .bool b => .bool b
  | .int i => .int i
  | .str x => .str ⟨x.toArray⟩
  | .list xs => .list (PV.datas xs)
  | .tup xs => .tuple (PV.datas xs)
  | .obj _ => .none
  | .ty _ => .none
noncomputable def PV.datas : List PV → List PyData
  | [] => []
  | x :: xs => x.data :: PV.datas xs
end
mutual
/-- data alone, signs in the range of Unicode -/
noncomputable def PV.plain : PV → Bool
  | .none => true
  | .bool _ => true
  | .int _ => true
  | .str x => x.all (· < 0x110000)
  | .list xs => PV.plains xs
  | .tup xs => PV.plains xs
  | .obj _ => false
  | .ty _ => false
noncomputable def PV.plains : List PV → Bool
  | [] => true
  | x :: xs => x.plain && PV.plains xs
end
mutual
theorem Rep.reads {X : Addr → Prop} {h : Heap} : ∀ {u : Value} {p : PV}, Rep X h u p → p.plain = true → ∃ as, Reads h u p.data as
  | _, _, .none, _ => ⟨_, .none⟩
  | _, _, .bool b, _ => ⟨_, .bool b⟩
  | _, _, .int i t, _ => ⟨_, .int i t⟩
  | _, _, .str x t, _ => ⟨_, .str _ t⟩
  | _, _, .list _ ⟨n, e⟩ r, hp => by
    obtain ⟨as, q⟩ := Reps.reads r (by simpa [PV.plain] using hp)
    exact ⟨_, by rw [PV.data]; exact .list e rfl rfl q⟩
  | _, _, .tup _ ⟨n, e⟩ r, hp => by
    obtain ⟨as, q⟩ := Reps.reads r (by simpa [PV.plain] using hp)
    exact ⟨_, by rw [PV.data]; exact .tuple e rfl rfl q⟩
  | _, _, .obj _, hp => by simp [PV.plain] at hp
  | _, _, .ty _, hp => by simp [PV.plain] at hp
theorem Reps.reads {X : Addr → Prop} {h : Heap} : ∀ {us : List Value} {ps : List PV}, Reps X h us ps → PV.plains ps = true → ∃ as, ReadsAll h us (PV.datas ps) as
  | _, _, .nil, _ => ⟨_, .nil⟩
  | _, _, .cons a b, hp => by
    rw [PV.plains, Bool.and_eq_true] at hp
    obtain ⟨as, q⟩ := Rep.reads a hp.1
    obtain ⟨bs, q'⟩ := Reps.reads b hp.2
    exact ⟨_, by rw [PV.datas]; exact .cons q q'⟩
end
mutual
theorem PV.canLay : ∀ p : PV, p.plain = true → p.data.canLay0 = true
  | .none, _ => rfl
  | .bool _, _ => rfl
  | .int _, _ => rfl
  | .str x, h => by
    show Array.all x.toArray (· < 0x110000) = true
    simpa [PV.plain] using h
  | .list xs, h => PV.canLays xs (by simpa [PV.plain] using h)
  | .tup xs, h => PV.canLays xs (by simpa [PV.plain] using h)
  | .obj _, h => by simp [PV.plain] at h
  | .ty _, h => by simp [PV.plain] at h
theorem PV.canLays : ∀ ps : List PV, PV.plains ps = true → PyData.canLayAll0 (PV.datas ps) = true
  | [], _ => rfl
  | x :: xs, h => by
    rw [PV.plains, Bool.and_eq_true] at h
    rw [PV.datas]
    show (x.data.canLay0 && PyData.canLayAll0 (PV.datas xs)) = true
    rw [PV.canLay x h.1, PV.canLays xs h.2]; rfl
end
theorem op_neSame (hC : C.Ok) {p : PV} (hp : p.plain = true) (hd : p.data.depth ≤ 64) : Op2 C (compareOp .NotEq) p p (.bool false) := fun X s u v hX r1 r2 => by
  obtain ⟨as, q1⟩ := r1.reads hp
  obtain ⟨bs, q2⟩ := r2.reads hp
  refine PySem.SeqAt.compareNe_reads q1 q2 (PV.canLay p hp) (PV.canLay p hp) (by have := hC.units; omega) ?_
  rw [PySem.SeqAt.eqv_refl _ (PV.canLay p hp)]
  exact ⟨.bool _, keeps_refl⟩
end
end Mine
end

section
namespace Mine
open PySem PySem.Calls PyProof.Rows

section
variable {prog : Program} {w : World} {A : Around} {R : Result → Shared → Prop} {s : Shared}
theorem compLoop_any {elt target iter : Expr} {ifs : List Expr} {scope : Scope} {pos : Pos} {it acc : Value} {env : Env} (I : Nat → Shared → Prop)
    (turn : ∀ n s, I n s → wpAny (model prog w) A (pyNext it) (fun r s₁ => match r with
      | none => R (.ok .next) s₁
      | some v => wpAny (model prog w) A (letOwnedTupleGo target it v) (fun _ s₀ => wpAny (model prog w) A (assign target env v) (fun _ s₂ =>
          wpAny (model prog w) A (forIn ifs true fun c r => if r = true then do let ok ← isTrue c env (eval c env); pure (ForInStep.yield ok) else pure (ForInStep.yield r)) (fun ok s₃ =>
            if ok = true then wpAny (model prog w) A (eval elt env) (fun x s₄ =>
              wpAny (model prog w) A (call (.builtin "list.append") [acc, x]) (fun _ s₅ => ∃ m, m < n ∧ I m s₅) NoE s₄) NoE s₃
            else ∃ m, m < n ∧ I m s₃) NoE s₂) NoE s₀) NoE s₁) NoE s)
    (n : Nat) (h : I n s) : codeAny (model prog w) A (.compLoop (.ListComp elt [⟨target, iter, ifs, 0⟩] scope pos) 0 it acc env) R s := by
  refine codeAny_loop rfl I (fun n s hI => ?_) n h
  show wpAny _ A ((compTurn (.ListComp elt [⟨target, iter, ifs, 0⟩] scope pos) 0 it acc env).onRaise (fun x => do noteFrame x env; theTreesLotGoes x)) _ _ s
  refine wpAny_noted ?_
  rw [compTurn_list]
  refine wpAny_bind (wpAny_standAt (wpAny_bind (wpAny_mono (turn n s hI) (fun r s₁ h₁ => ?_) fun _ _ h' => h'.elim)))
  cases r with
  | none => exact wpAny_pure h₁
  | some v =>
    refine wpAny_bind (wpAny_mono h₁ (fun _ s₀ h₀ => ?_) fun _ _ h' => h'.elim)
    refine wpAny_bind (wpAny_mono h₀ (fun _ s₂ h₂ => wpAny_bind (wpAny_mono h₂ (fun ok s₃ h₃ => ?_) fun _ _ h' => h'.elim)) fun _ _ h' => h'.elim)
    cases ok with
    | false => exact wpAny_pure ⟨rfl, h₃⟩
    | true =>
      exact wpAny_bind (wpAny_bind (wpAny_mono h₃ (fun x s₄ h₄ => wpAny_bind (wpAny_mono h₄ (fun _ s₅ h₅ => wpAny_pure (wpAny_pure ⟨rfl, h₅⟩)) fun _ _ h' => h'.elim)) fun _ _ h' => h'.elim))
end

/-- the cells that a comprehension keeps -/
noncomputable def closeL (cells : List (Str × Addr)) : List (Str × NameKind) → List (Str × Addr) → List (Str × Addr)
  | [], acc => acc
  | (n, k) :: r, acc => if k == .free then (match cells.lookup n with | some c => closeL cells r ((n, c) :: acc) | none => closeL cells r acc) else closeL cells r acc

theorem closureFor_is {scope : Scope} {env : Env} (h : ∀ n, (n, NameKind.free) ∈ scope.names → (env.cells.lookup n).isSome = true) : closureFor scope env = pure (closeL env.cells scope.names []) := by
  unfold closureFor
  generalize scope.names = ns at h
  have key : ∀ (ns : List (Str × NameKind)) (acc : List (Str × Addr)), (∀ n, (n, NameKind.free) ∈ ns → (env.cells.lookup n).isSome = true) →
      (forIn ns acc (fun x r => match x with | (name, kind) => if (kind == NameKind.free) = true then do let a ← cellOf env name; pure (ForInStep.yield ((name, a) :: r)) else pure (ForInStep.yield r)) : Sem (List (Str × Addr))) = pure (closeL env.cells ns acc) := by
    intro ns
    induction ns with
    | nil => intro acc _; rfl
    | cons x r ih =>
      intro acc hh
      obtain ⟨n, k⟩ := x
      rw [List.forIn_cons]
      by_cases hk : (k == NameKind.free) = true
      · have hk' : k = .free := by simpa using hk
        subst hk'
        obtain ⟨c, hc⟩ := Option.isSome_iff_exists.mp (hh n List.mem_cons_self)
        have e : cellOf env n = pure c := by unfold cellOf; rw [hc]
        simp only [beq_self_eq_true, if_true, e, pure_bind]
        refine (ih _ fun m hm => hh m (List.mem_cons_of_mem _ hm)).trans ?_
        simp only [closeL, beq_self_eq_true, if_true, hc]
      · have hk' : (k == NameKind.free) = false := by simpa using hk
        simp only [hk', Bool.false_eq_true, if_false, pure_bind]
        refine (ih _ fun m hm => hh m (List.mem_cons_of_mem _ hm)).trans ?_
        simp only [closeL, hk', Bool.false_eq_true, if_false]
  have := key ns [] h
  simp only [bind_pure]
  exact this

theorem closeL_mem {cells : List (Str × Addr)} : ∀ (ns : List (Str × NameKind)) (acc : List (Str × Addr)) (n : Str) (c : Addr), (n, c) ∈ closeL cells ns acc → (n, c) ∈ acc ∨ (cells.lookup n = some c ∧ (n, NameKind.free) ∈ ns)
  | [], acc, n, c, h => .inl h
  | (m, k) :: r, acc, n, c, h => by
    unfold closeL at h
    have up : ∀ {acc' : List (Str × Addr)}, ((n, c) ∈ acc' ∨ (cells.lookup n = some c ∧ (n, NameKind.free) ∈ r)) → ((n, c) ∈ acc' ∨ (cells.lookup n = some c ∧ (n, NameKind.free) ∈ (m, k) :: r)) := fun q => q.imp id fun q => ⟨q.1, List.mem_cons_of_mem _ q.2⟩
    split at h
    · rename_i hk
      split at h
      · rename_i c' hc
        rcases closeL_mem r _ n c h with h | h
        · rcases List.mem_cons.mp h with e | h
          · cases e
            have hk' : k = .free := by simpa using hk
            subst hk'
            exact .inr ⟨hc, List.mem_cons_self⟩
          · exact .inl h
        · exact up (.inr h)
      · exact up (closeL_mem r _ n c h)
    · exact up (closeL_mem r _ n c h)
theorem closeL_keeps {cells : List (Str × Addr)} : ∀ (ns : List (Str × NameKind)) (acc : List (Str × Addr)) (n : Str), (acc.lookup n).isSome = true → ((closeL cells ns acc).lookup n).isSome = true
  | [], acc, n, h => h
  | (m, k) :: r, acc, n, h => by
    unfold closeL
    split
    · split
      · refine closeL_keeps r _ n ?_
        rw [List.lookup_cons]
        split <;> first | rfl | exact h
      · exact closeL_keeps r _ n h
    · exact closeL_keeps r _ n h
theorem closeL_has {cells : List (Str × Addr)} : ∀ (ns : List (Str × NameKind)) (acc : List (Str × Addr)) (n : Str), (n, NameKind.free) ∈ ns → (cells.lookup n).isSome = true → ((closeL cells ns acc).lookup n).isSome = true
  | (m, k) :: r, acc, n, h, hc => by
    unfold closeL
    rcases List.mem_cons.mp h with e | h
    · cases e
      obtain ⟨c, hc⟩ := Option.isSome_iff_exists.mp hc
      simp only [beq_self_eq_true, if_true, hc]
      refine closeL_keeps r _ _ ?_
      rw [List.lookup_cons]; simp
    · split
      · split
        · exact closeL_has r _ n h hc
        · exact closeL_has r _ n h hc
      · exact closeL_has r _ n h hc

theorem lookup_relabel {env : Env} {f : NameKind → NameKind → Prop} : ∀ {names : List (Str × NameKind)} {x : Str} {k : NameKind}, names.lookup x = some k → k ≠ .free →
    (names.map fun (n, k) => if (k == NameKind.free && env.scope.kind == .function && env.kindOf n == some .cell) then (n, NameKind.cell) else (n, k)).lookup x = some k
  | [], _, _, h, _ => by simp at h
  | (n, k') :: r, x, k, h, hk => by
    show List.lookup x ((if (k' == NameKind.free && env.scope.kind == .function && env.kindOf n == some .cell) = true then (n, NameKind.cell) else (n, k')) :: _) = _
    cases hx : x == n with
    | true =>
      simp only [List.lookup_cons, hx] at h
      cases h
      have : (k' == NameKind.free) = false := by simpa using hk
      rw [if_neg (by rw [this]; simp)]
      simp only [List.lookup_cons, hx]
    | false =>
      simp only [List.lookup_cons, hx] at h
      have ih := lookup_relabel (env := env) (f := f) h hk
      split <;> (simp only [List.lookup_cons, hx]; exact ih)
theorem lookup_relabel_free {env : Env} (he : env.scope.kind = .function) : ∀ {names : List (Str × NameKind)} {x : Str}, names.lookup x = some .free → env.kindOf x = some .cell →
    (names.map fun (n, k) => if (k == NameKind.free && env.scope.kind == .function && env.kindOf n == some .cell) then (n, NameKind.cell) else (n, k)).lookup x = some .cell
  | [], _, h, _ => by simp at h
  | (n, k') :: r, x, h, hk => by
    show List.lookup x ((if (k' == NameKind.free && env.scope.kind == .function && env.kindOf n == some .cell) = true then (n, NameKind.cell) else (n, k')) :: _) = _
    cases hx : x == n with
    | true =>
      simp only [List.lookup_cons, hx] at h
      cases h
      have e : x = n := by simpa using hx
      subst e
      rw [he, hk]
      simp [List.lookup_cons]
    | false =>
      simp only [List.lookup_cons, hx] at h
      have ih := lookup_relabel_free he h hk
      split <;> (simp only [List.lookup_cons, hx]; exact ih)

noncomputable def Cx.comp (C : Cx) (scope : Scope) (L : Addr) (names : List Str) : Cx := { C with env := compEnvC scope (closeL C.env.cells scope.names []) L C.env, names := names }

/-- what a comprehension sees: its targets, and names of the frame that it reads -/
inductive CompEnv (scope : Scope) (ρ : Env') : Env' → Prop where
  | nil : CompEnv scope ρ []
  | tgt {x : Str} {r : Env'} : scope.names.lookup x = some .local → CompEnv scope ρ r → CompEnv scope ρ ((x, .undef) :: r)
  | free {x : Str} {p : PV} {r : Env'} : scope.names.lookup x = some .free → (x, LV.val p) ∈ ρ → CompEnv scope ρ r → CompEnv scope ρ ((x, .ro p) :: r)
theorem CompEnv.mem {scope : Scope} {ρ r : Env'} (h : CompEnv scope ρ r) : ∀ x v, (x, v) ∈ r → (v = .undef ∧ scope.names.lookup x = some .local) ∨ (∃ p, v = .ro p ∧ scope.names.lookup x = some .free ∧ (x, LV.val p) ∈ ρ) := by
  induction h with
  | nil => intro x v h; cases h
  | tgt h _ ih =>
    intro x v hx
    rcases List.mem_cons.mp hx with e | hx
    · cases e; exact .inl ⟨rfl, h⟩
    · exact ih x v hx
  | free h h2 _ ih =>
    intro x v hx
    rcases List.mem_cons.mp hx with e | hx
    · cases e; exact .inr ⟨_, rfl, h, h2⟩
    · exact ih x v hx

structure CompOk (C : Cx) (scope : Scope) (t : Expr) (ρ ρc : Env') : Prop where
  kind : scope.kind = .function
  nocell : ∀ y ∈ scope.names, y.2 ≠ .cell
  locals : ∀ y ∈ scope.names, y.2 = .local → scope.names.lookup y.1 = some .local
  frees : ∀ n, (n, NameKind.free) ∈ scope.names → C.env.kindOf n = some .cell ∧ ∃ v, (n, v) ∈ ρ
  env : CompEnv scope ρ ρc
  nodup : (ρc.map (·.1)).Nodup
  notDebug : ∀ x ∈ ρc.map (·.1), (x == ("__debug__" : Str)) = false ∧ (x == ("__classdict__" : Str)) = false
  targets : ∀ x ∈ targetNames t, scope.names.lookup x = some .local
  nz : ∀ x, ¬ C.Z x

theorem lookup_mem {α : Type} {l : List (Str × α)} {n : Str} {c : α} (h : l.lookup n = some c) : (n, c) ∈ l := mem_of_lookup h

section
variable {C : Cx} {ρ ρ' ρ₁ : Env'} {g g' g₁ g₂ : C.G} {P P' : Fl → Env' → C.G → Prop}

theorem comp_cells {scope : Scope} {x : Str} {c : Addr} (h : (closeL C.env.cells scope.names []).lookup x = some c) : C.env.cells.lookup x = some c ∧ (x, NameKind.free) ∈ scope.names := by
  rcases closeL_mem _ _ _ _ (lookup_mem h) with q | q
  · cases q
  · exact q

theorem comp_ok (hC : C.Ok) {scope : Scope} {t : Expr} {ρc : Env'} (h : CompOk C scope t ρ ρc) {O : List (Str × Addr)} {s : Shared} (I : Inv C ρ O g s) {L : Addr} (hL : s.heap.get? L = none) : (C.comp scope L (ρc.map (·.1))).Ok := by
  have hn := I.new hC hL
  have hcs : ∀ n, (n, NameKind.free) ∈ scope.names → (C.env.cells.lookup n).isSome = true := fun n hf => by
    obtain ⟨hk, v, hv⟩ := h.frees n hf
    rcases hC.kinds n (mem_names I.names hv) with q | q
    · rw [hk] at q; cases q
    · exact q.2
  exact {
    kind := h.kind
    handled := hC.handled
    depth := hC.depth
    units := hC.units
    top := hC.top
    locF := hn.1
    locM := hn.2.2.1
    cellM := fun x c hc => hC.cellM x c (comp_cells hc).1
    cellF := fun x c _ _ hc => hC.cellF x c (h.frees x (comp_cells hc).2).1 (h.nz x) (comp_cells hc).1
    inj := fun x y c h1 h2 => hC.inj x y c (comp_cells h1).1 (comp_cells h2).1
    fresh := hC.fresh
    mx := hC.mx
    xf := hC.xf
    xs := hC.xs
    wm := hC.wm
    stab := hC.stab
    nodup := h.nodup
    kinds := fun x hx => by
      obtain ⟨e, he, rfl⟩ := List.mem_map.mp hx
      rcases h.env.mem e.1 e.2 he with ⟨_, q⟩ | ⟨p, _, q, _⟩
      · exact .inl (lookup_relabel_local q)
      · have hf : (e.1, NameKind.free) ∈ scope.names := lookup_mem q
        exact .inr ⟨.inl (lookup_relabel_free hC.kind q (h.frees _ hf).1), closeL_has _ _ _ hf (hcs _ hf)⟩
    notDebug := h.notDebug }

theorem comp_inv (hC : C.Ok) {scope : Scope} {t : Expr} {ρc : Env'} (h : CompOk C scope t ρ ρc) {O : List (Str × Addr)} {s : Shared} (I : Inv C ρ O g s) {L : Addr} {m : Str → Option Value} (hL : s.heap.Ns L m) : Inv (C.comp scope L (ρc.map (·.1))) ρc O g s := by
  obtain ⟨m', hm', hl⟩ := I.loc
  refine ⟨I.rest, I.old, I.world, rfl, ⟨m, hL, fun x v hx => ?_⟩, fun x c hc => I.cells x c (comp_cells hc).1, I.own, I.uniq⟩
  rcases h.env.mem x v hx with ⟨rfl, q⟩ | ⟨p, rfl, q, hp⟩
  · refine ⟨fun e => ?_, h.nz x⟩
    have e' : (relabel scope C.env).names.lookup x = some .free := e
    have q' : (relabel scope C.env).names.lookup x = some .local := lookup_relabel_local q
    rw [q'] at e'; cases e'
  · have hf : (x, NameKind.free) ∈ scope.names := lookup_mem q
    obtain ⟨_, u, sl, r⟩ := hl x _ hp
    have hk := (h.frees x hf).1
    rcases sl with ⟨q1, _⟩ | ⟨_, c, q2, q3⟩
    · rw [hk] at q1; cases q1
    · have hs : ((closeL C.env.cells scope.names []).lookup x).isSome = true := closeL_has _ _ _ hf (by rw [q2]; rfl)
      obtain ⟨c', hc'⟩ := Option.isSome_iff_exists.mp hs
      have : c' = c := by have := (comp_cells hc').1; rw [q2] at this; cases this; rfl
      subst this
      exact ⟨u, .inr ⟨.inl (lookup_relabel_free hC.kind q hk), c', hc', q3⟩, r⟩

/-- one turn of a comprehension: a test or none, then the element -/
noncomputable def CompTurn (C : Cx) (ρ : Env') (g : C.G) (ifs : List Expr) (elt : Expr) (o : Option PV) : Prop :=
  ∃ b : Bool, ((ifs = [] ∧ b = true) ∨ (∃ c, ifs = [c] ∧ EvB C ρ g c b g)) ∧ (b = true → ∃ v, o = some v ∧ Ev C ρ g elt v g) ∧ (b = false → o = none)
end
end Mine
end

section
namespace Mine
open PySem PySem.Calls PyProof.Rows

section
variable {C : Cx} {ρ ρ' ρ₁ : Env'} {g g' g₁ g₂ : C.G} {P P' : Fl → Env' → C.G → Prop}

/-- the frame stands while an object that is none of its things, and no list or tuple, is turned -/
theorem Inv.butN (hC : C.Ok) {O : List (Str × Addr)} {s s' : Shared} {b : Addr} (I : Inv C ρ O g s) (hF : C.F b) (hM : ¬ C.M b) (hL : b ≠ C.env.locals) (hc : ¬ isCellAddr C b) (hd : ∀ o, s.heap.get? b = some o → ¬ Obj.isSeq o ∧ ¬ Obj.isRec o)
    (hr : s'.gens = s.gens ∧ s'.drawn = s.drawn ∧ s'.os = s.os) (hk : ∀ a o, a ≠ b → s.heap.get? a = some o → s'.heap.get? a = some o) : Inv C ρ O g s' := by
  have sq : ∀ a o, Obj.isSeq o → s.heap.get? a = some o → s'.heap.get? a = some o := fun a o q e => hk a o (fun z => by subst z; exact (hd o e).1 q) e
  obtain ⟨m, hn, hl⟩ := I.loc
  have cl : ∀ x c, C.env.cells.lookup x = some c → ∀ o, s.heap.get? c = some o → s'.heap.get? c = some o := fun x c hx o e => hk c o (fun q => hc ⟨x, q ▸ hx⟩) e
  refine ⟨⟨hr.1.trans I.rest.1, hr.2.1.trans I.rest.2.1, hr.2.2.trans I.rest.2.2⟩, fun a o hf hm e => hk a o (fun q => hf (q ▸ hF)) (I.old a o hf hm e), hC.stab g _ _ I.world fun a o hm e => hk a o (hm.elim (fun hm q => hM (q ▸ hm)) fun hr q => by subst q; exact (hd o e).2 hr) e, I.names,
    ⟨m, Ns_of hn fun o e => hk _ o (Ne.symm hL) e, fun x v hx => ?_⟩, fun x c hx => ?_, fun x a ha => ?_, I.uniq⟩
  · have q := hl x v hx
    cases v with
    | undef => exact q
    | val p => obtain ⟨q0, u, q1, q2⟩ := q; exact ⟨q0, u, q1.of (cl x), q2.mono (fun _ _ h _ _ => h) fun a o _ z e => sq a o z e⟩
    | ro p => obtain ⟨u, q1, q2⟩ := q; exact ⟨u, q1.of (cl x), q2.mono (fun _ _ h _ _ => h) fun a o _ z e => sq a o z e⟩
    | own xs =>
      obtain ⟨q0, a, vs, q1, q2, ⟨n, q3⟩, q4⟩ := q
      exact ⟨q0, a, vs, q1.of (cl x), q2, ⟨n, sq a _ ⟨_, _, rfl⟩ q3⟩, q4.mono (fun _ _ h _ _ => h) fun a o _ z e => sq a o z e⟩
  · obtain ⟨v, hv⟩ := I.cells x c hx
    exact ⟨v, IsCell_of hv (cl x c hx)⟩
  · obtain ⟨f, hm, vs, n, e⟩ := I.own x a ha
    exact ⟨f, hm, vs, n, sq a _ ⟨_, _, rfl⟩ e⟩

theorem wpAny_tests {env : Env} {ifs : List Expr} {s : Shared} {b : Bool} {Q : Bool → Shared → Prop} (h : (ifs = [] ∧ b = true ∧ Q true s) ∨ (∃ c, ifs = [c] ∧ wpAny C.mod C.A (isTrue c env (eval c env)) Q NoE s)) :
    wpAny C.mod C.A (forIn ifs true fun c r => if r = true then do let ok ← isTrue c env (eval c env); pure (ForInStep.yield ok) else pure (ForInStep.yield r)) Q NoE s := by
  rcases h with ⟨rfl, _, h⟩ | ⟨c, rfl, h⟩
  · exact wpAny_tests_nil h
  · exact wpAny_tests_one h

theorem take_filterMap {α β : Type} (f : α → Option β) (l : List α) (i : Nat) (p : α) (h : l[i]? = some p) : (l.take (i + 1)).filterMap f = (l.take i).filterMap f ++ (f p).toList := by
  rw [List.take_add_one, h, List.filterMap_append]
  cases hp : f p <;> simp [hp]

/-- how things stand before a turn of the comprehension; n counts down -/
inductive CompInv (C C' : Cx) (g : C'.G) (ρc : Env') (O : List (Str × Addr)) (S : Nat → Heap → Prop) (I D L : Addr) (items : List PV) (f : PV → Option PV) (s₂ : Shared) (n : Nat) (s' : Shared) : Prop
  | mk (i : Nat) (vs : Array Value) (hn : n = items.length + 1 - i) (hi : i ≤ items.length) (hS : S i s'.heap) (hD : s'.heap.PlainList D vs) (hr : Reps (avoid C ((Str.ofString ".acc", D) :: O)) s'.heap vs.toList ((items.take i).filterMap f))
      (I' : Inv C' ρc ((Str.ofString ".acc", D) :: O) g s') (kk : ∀ a o, ¬ C.M a → a ≠ I → a ≠ D → a ≠ L → s₂.heap.get? a = some o → s'.heap.get? a = some o) : CompInv C C' g ρc O S I D L items f s₂ n s'

theorem comp_core (hC : C.Ok) {elt it t : Expr} {ifs : List Expr} {scope : Scope} {pos cpos : Pos} {items : List PV} {ρc : Env'} {f : PV → Option PV} (hok : CompOk C scope t ρ ρc)
    (h : EvIt C ρ g it items g) (hlen : items.length ≤ 4096)
    (ht : (∃ x p, t = .Name x p) ∨ (∃ ts k p, t = .Tuple ts k p))
    (body : ∀ p, p ∈ items → ∀ L, (C.comp scope L (ρc.map (·.1))).Ok → ∃ ρ₁, Binds t p ρc ρ₁ ∧ Weak ρ₁ ρc ∧ CompTurn (C.comp scope L (ρc.map (·.1))) ρ₁ g ifs elt (f p))
    {O : List (Str × Addr)} {s : Shared} (I : Inv C ρ O g s) {use : Option (Value → Sem Unit)} {Q : Value → Shared → Prop}
    (hend : ∀ D L m s', Rep (avoid C O) s'.heap (.ref D) (.list (items.filterMap f)) → Step C g s s' → s'.heap.Ns L m → s.heap.get? L = none → compPost C.mod C.A NoE use Q (.ref D) L (.ok .next) s')
    (hs : ∀ x, foldedSetIterable it C.env x = pure x := by intro _; rfl) :
    wpAny C.mod C.A (comprehension (.ListComp elt [⟨t, it, ifs, 0⟩] scope pos) scope C.env cpos (newList []) false (eval it C.env) use) Q NoE s := by
  have hcs : ∀ n, (n, NameKind.free) ∈ scope.names → (C.env.cells.lookup n).isSome = true := fun n hf => by
    obtain ⟨hk, v, hv⟩ := hok.frees n hf
    rcases hC.kinds n (mem_names I.names hv) with q | q
    · rw [hk] at q; cases q
    · exact q.2
  refine wpAny_comprehension_free rfl hs (closureFor_is hcs) hok.kind hok.locals (wpAny_mono (h O s I) (fun x s₁ h1 => wpAny_mono h1 (fun itv s₂ h2 => ?_) fun _ _ x => x) fun _ _ x => x)
  obtain ⟨Ia, S, rfl, W, hst, hfr, st⟩ := h2
  have I2 := I.step hC st
  -- the new list, the new names
  refine wpAny_newList (items := []) ?_
  have I3 : Inv C ρ ((Str.ofString ".acc", s₂.heap.objs.size) :: O) g { s₂ with heap := s₂.heap.push { cls := .type "list", data := .seq [].toArray } } := I2.addOwn hC (Str.ofString ".acc") rfl
  generalize hD : s₂.heap.objs.size = D at *
  generalize hs3 : ({ s₂ with heap := s₂.heap.push { cls := .type "list", data := .seq [].toArray } } : Shared) = s₃ at *
  have k23 : ∀ a o, s₂.heap.get? a = some o → s₃.heap.get? a = some o := fun a o e => by rw [← hs3]; exact Heap.get?_push_of_some _ e
  have hD3 : s₃.heap.PlainList D #[] := by rw [← hs3, ← hD]; exact ⟨0, Heap.get?_push_size _ rfl⟩
  have hDn : s₂.heap.get? D = none := by rw [← hD]; exact get_size_none _
  have r3 : s₃.gens = s₂.gens ∧ s₃.drawn = s₂.drawn ∧ s₃.os = s₂.os := by rw [← hs3]; exact ⟨rfl, rfl, rfl⟩
  refine wpAny_newFunctionEnv hok.nocell (by intro y hy; cases hy) (fun h₁ hns hsb => ?_) hok.kind
  have hLn : s₃.heap.get? s₃.heap.objs.size = none := get_size_none _
  have k34 : ∀ a o, s₃.heap.get? a = some o → h₁.get? a = some o := fun a o e => hsb.extBut a o (Nat.ne_of_lt (Heap.lt_size e)) (Heap.get?_push_of_some _ e)
  have hCc := comp_ok hC hok I3 hLn
  generalize hL : s₃.heap.objs.size = L at *
  have st4 : Step C g s₃ { s₃ with heap := h₁, toks := s₃.toks + ([] : List (Str × Value)).length } := .of_keeps hC I3.world ⟨h₁, _, rfl, k34⟩
  have I4 := I3.step hC st4
  have Ic := comp_inv hC hok I4 hns
  have hLs2 : s₂.heap.get? L = none := Option.eq_none_iff_forall_ne_some.mpr fun o e => nomatch (k23 L o e).symm.trans hLn
  have hLs : s.heap.get? L = none := st.fresh hC hLs2
  have hDs : s.heap.get? D = none := st.fresh hC hDn
  have hDL : D ≠ L := hD3.elim fun _ e => ne_get e hLn
  have hIp2 : ∃ o, s₂.heap.get? Ia = some o := by obtain ⟨o, _, e, _⟩ := W.fields 0 _ hst; exact ⟨o, e⟩
  have hID : Ia ≠ D := hIp2.elim fun _ e => ne_get e hDn
  have hIL : Ia ≠ L := hIp2.elim fun _ e => ne_get e hLs2
  have hIn := I.new hC hfr
  have hIc : ¬ isCellAddr C Ia := by
    rintro ⟨x, hx⟩
    obtain ⟨v, o, e, _⟩ := I.cells x Ia hx
    rw [hfr] at e; cases e
  have hIcc : ¬ isCellAddr (C.comp scope L (ρc.map (·.1))) Ia := by
    rintro ⟨x, hx⟩
    exact hIc ⟨x, (comp_cells hx).1⟩
  have hWS2 : ∀ i h', S i h' → ∀ o, h'.get? Ia = some o → ¬ Obj.isSeq o ∧ ¬ Obj.isRec o := fun i h' hS o e => by
    obtain ⟨o', vs, e', d, dn⟩ := W.fields i h' hS
    rw [e] at e'; cases e'
    constructor
    · rintro ⟨xs, n, d'⟩
      rw [d] at d'; cases d'
    · rintro ⟨d2, _⟩
      exact dn d2
  have hWS : ∀ i h', S i h' → ∀ o, h'.get? Ia = some o → ¬ Obj.isSeq o := fun i h' hS o e => (hWS2 i h' hS o e).1
  have av23 : ∀ a o, ¬ avoid C O a → s₂.heap.get? a = some o → ¬ avoid C ((Str.ofString ".acc", D) :: O) a := fun a o ha e => by
    rintro (q | ⟨y, q⟩)
    · exact ha (.inl q)
    · rcases List.mem_cons.mp q with q | q
      · cases q; rw [hDn] at e; cases e
      · exact ha (.inr ⟨y, q⟩)
  have loop : ∀ s₄ : Shared, s₄ = { s₃ with heap := h₁, toks := s₃.toks + ([] : List (Str × Value)).length } →
      codeAny C.mod C.A (.compLoop (.ListComp elt [⟨t, it, ifs, 0⟩] scope pos) 0 (.ref Ia) (.ref D) (C.comp scope L (ρc.map (·.1))).env) (compPost C.mod C.A NoE use Q (.ref D) L) s₄ := by
    rintro s₄ rfl
    refine compLoop_any (CompInv C (C.comp scope L (ρc.map (·.1))) g ρc O S Ia D L items f s₂) ?_ (items.length + 1)
      ⟨0, #[], rfl, Nat.zero_le _, W.frame 0 _ _ hst (fun o e => k34 _ o (k23 _ o e)) (fun a o _ _ e => k34 a o (k23 a o e)), by obtain ⟨n, e⟩ := hD3; exact ⟨n, k34 _ _ e⟩, .nil, Ic, fun a o _ _ _ _ e => k34 a o (k23 a o e)⟩
    rintro k s' ⟨i, vs, rfl, hi, hS, hpl, hrs, Iv, kk⟩
    have hwm : ∀ a o, ¬ avoid C O a → Obj.isSeq o → s₂.heap.get? a = some o → s'.heap.get? a = some o := fun a o ha q e => by
      refine kk a o (avoid_not_M hC ha) ?_ ?_ ?_ e
      · exact fun z => hWS 0 _ hst o (z ▸ e) q
      · exact ne_get e hDn
      · exact ne_get e hLs2
    by_cases hlt : i < items.length
    · have hp : items[i]? = some items[i] := List.getElem?_eq_getElem hlt
      refine W.item i _ s' _ _ hp hS fun v h' tk r hS' hk => ?_
      obtain ⟨ρ₁, hb, hw, b, htest, helt, hno⟩ := body items[i] (List.getElem_mem hlt) L hCc
      have Iv1 : Inv (C.comp scope L (ρc.map (·.1))) ρc ((Str.ofString ".acc", D) :: O) g { s' with heap := h', toks := tk } := Iv.butN hCc hIn.1 hIn.2.2.1 hIL hIcc (hWS2 i _ hS) ⟨rfl, rfl, rfl⟩ fun a o hne e => hk a o hne e
      have hwm' : ∀ a o, ¬ avoid C O a → Obj.isSeq o → s₂.heap.get? a = some o → h'.get? a = some o := fun a o ha q e => hk a o (fun z => hWS 0 _ hst o (z ▸ e) q) (hwm a o ha q e)
      have r' : Rep (avoid (C.comp scope L (ρc.map (·.1))) ((Str.ofString ".acc", D) :: O)) h' v items[i] := r.mono (fun a o ha _ e => av23 a o ha e) hwm'
      have hown : wpAny C.mod C.A (letOwnedTupleGo t (.ref Ia) v) (fun _ s₁' => s₁' = { s' with heap := h', toks := tk }) NoE { s' with heap := h', toks := tk } := by
        rcases ht with ⟨x, p, rfl⟩ | ⟨ts, kk', p, rfl⟩
        · exact wpAny_pure rfl
        · exact W.owned (i + 1) _ _ _ _ _ _ _ hS' rfl
      refine wpAny_mono hown (fun _ s₁' e => ?_) fun _ _ x => x
      subst e
      refine bind_target hCc hb Iv1 r' fun s₅ I5 kb kl => ?_
      have hloc : ∀ x ∈ targetNames t, (C.comp scope L (ρc.map (·.1))).env.kindOf x = some .local := fun x hx => lookup_relabel_local (hok.targets x hx)
      have kl5 := kl hloc
      have hS5 : S (i + 1) s₅.heap := W.frame _ _ _ hS' (fun o e => kl5 Ia o hIL e) fun a o ha q e => kl5 a o (ne_get e hLs2) (hwm' a o ha q e)
      have hpl5 : s₅.heap.PlainList D vs := by obtain ⟨n, e⟩ := hpl; exact ⟨n, kl5 D _ hDL (hk D _ (Ne.symm hID) e)⟩
      have hrs5 : Reps (avoid C ((Str.ofString ".acc", D) :: O)) s₅.heap vs.toList ((items.take i).filterMap f) := by
        have q1 : Reps (avoid (C.comp scope L (ρc.map (·.1))) ((Str.ofString ".acc", D) :: O)) h' vs.toList ((items.take i).filterMap f) := hrs.mono (fun _ _ h _ _ => h) fun a o ha q e => hk a o (fun z => hWS i _ hS o (z ▸ e) q) e
        exact Reps.skeep hCc Iv1 kb q1
      have kk5 : ∀ a o, ¬ C.M a → a ≠ Ia → a ≠ D → a ≠ L → s₂.heap.get? a = some o → s₅.heap.get? a = some o := fun a o h1 h2 h3 h4 e => kl5 a o h4 (hk a o h2 (kk a o h1 h2 h3 h4 e))
      have I5' : Inv (C.comp scope L (ρc.map (·.1))) ρ₁ ((Str.ofString ".acc", D) :: O) g s₅ := I5
      -- the test
      have hT : wpAny C.mod C.A (forIn ifs true fun c r => if r = true then do let ok ← isTrue c (C.comp scope L (ρc.map (·.1))).env (eval c (C.comp scope L (ρc.map (·.1))).env); pure (ForInStep.yield ok) else pure (ForInStep.yield r))
          (fun ok s₆ => ok = b ∧ Step (C.comp scope L (ρc.map (·.1))) g s₅ s₆) NoE s₅ := by
        refine wpAny_tests (b := b) ?_
        rcases htest with ⟨e1, e2⟩ | ⟨c, e1, hc⟩
        · exact .inl ⟨e1, e2, e2.symm, .refl I5'.world⟩
        · exact .inr ⟨c, e1, hc _ s₅ I5'⟩
      refine wpAny_mono hT (fun ok s₆ ⟨e6, st6⟩ => ?_) fun _ _ x => x
      subst e6
      have I6 := I5'.step hCc st6
      have st6k : ∀ a o, ¬ C.M a → s₅.heap.get? a = some o → s₆.heap.get? a = some o := st6.keep
      have hDM : ¬ C.M D := (I4.own _ D List.mem_cons_self).2.1
      have hS6 : S (i + 1) s₆.heap := W.frame _ _ _ hS5 (fun o e => st6k Ia o hIn.2.2.1 e) fun a o ha q e => by
        have h4 : a ≠ L := ne_get e hLs2
        have h3 : a ≠ D := ne_get e hDn
        have h2 : a ≠ Ia := fun z => hWS 0 _ hst o (z ▸ e) q
        exact st6k a o (avoid_not_M hC ha) (kk5 a o (avoid_not_M hC ha) h2 h3 h4 e)
      have hpl6 : s₆.heap.PlainList D vs := by obtain ⟨n, e⟩ := hpl5; exact ⟨n, st6k D _ hDM e⟩
      have hrs6 : Reps (avoid C ((Str.ofString ".acc", D) :: O)) s₆.heap vs.toList ((items.take i).filterMap f) := Reps.step (C := C.comp scope L (ρc.map (·.1))) hCc st6 hrs5
      have kk6 : ∀ a o, ¬ C.M a → a ≠ Ia → a ≠ D → a ≠ L → s₂.heap.get? a = some o → s₆.heap.get? a = some o := fun a o h1 h2 h3 h4 e => st6k a o h1 (kk5 a o h1 h2 h3 h4 e)
      cases ok with
      | false =>
        rw [if_neg Bool.false_ne_true]
        refine ⟨items.length + 1 - (i + 1), down_lt hlt, i + 1, vs, rfl, hlt, hS6, hpl6, ?_, I6.weak hw, kk6⟩
        rw [take_filterMap f items i _ hp, hno rfl]
        simpa using hrs6
      | true =>
        rw [if_pos rfl]
        obtain ⟨y, hy, hel⟩ := helt rfl
        refine wpAny_mono (hel _ s₆ I6) (fun u s₇ ⟨r7, st7⟩ => ?_) fun _ _ x => x
        have I7 := I6.step hCc st7
        have st7k : ∀ a o, ¬ C.M a → s₆.heap.get? a = some o → s₇.heap.get? a = some o := st7.keep
        have hpl7 : s₇.heap.PlainList D vs := by obtain ⟨n, e⟩ := hpl6; exact ⟨n, st7k D _ hDM e⟩
        have hrs7 : Reps (avoid C ((Str.ofString ".acc", D) :: O)) s₇.heap vs.toList ((items.take i).filterMap f) := Reps.step (C := C.comp scope L (ρc.map (·.1))) hCc st7 hrs6
        have hsz := hrs7.length
        simp only [Array.length_toList] at hsz
        have hsz2 : ((items.take i).filterMap f).length ≤ 4096 := Nat.le_trans (List.length_filterMap_le _ _) (Nat.le_trans (by rw [List.length_take]; omega) hlen)
        refine wpAny_list_append_plain hpl7 (fun h8 hpl8 hs8 => ?_) (by show _ ≤ 2 ^ 24; omega)
        have hnew : Reps (avoid C ((Str.ofString ".acc", D) :: O)) s₇.heap (vs.push u).toList ((items.take (i + 1)).filterMap f) := by
          rw [Array.toList_push, take_filterMap f items i _ hp, hy]
          exact hrs7.append (.cons r7 .nil)
        have noOwn : ∀ y ws, (y, LV.own ws) ∈ ρc → False := fun y ws hy' => by
          rcases hok.env.mem y _ hy' with ⟨e, _⟩ | ⟨p, e, _⟩ <;> cases e
        have I8 : Inv (C.comp scope L (ρc.map (·.1))) ρc ((Str.ofString ".acc", D) :: O) g { s₇ with heap := h8 } :=
          Inv.grow (ρ' := ρc) hCc (I7.weak hw) (x := Str.ofString ".acc") (a := D) List.mem_cons_self hnew hpl8 hs8 (fun y v hy' => .inr ⟨fun ws e _ => noOwn y ws (e ▸ hy'), hy'⟩) rfl (fun ws hw' => (noOwn _ _ hw').elim)
        refine ⟨items.length + 1 - (i + 1), down_lt hlt, i + 1, vs.push u, rfl, hlt, ?_, hpl8, ?_, I8, fun a o h1 h2 h3 h4 e => (hs8.2 a h3).trans (st7k a o h1 (kk6 a o h1 h2 h3 h4 e))⟩
        · refine W.frame _ _ _ hS6 (fun o e => (hs8.2 Ia hID).trans (st7k Ia o hIn.2.2.1 e)) fun a o ha q e => ?_
          have h4 : a ≠ L := ne_get e hLs2
          have h3 : a ≠ D := ne_get e hDn
          have h2 : a ≠ Ia := fun z => hWS 0 _ hst o (z ▸ e) q
          exact (hs8.2 a h3).trans (st7k a o (avoid_not_M hC ha) (kk6 a o (avoid_not_M hC ha) h2 h3 h4 e))
        · exact hnew.mono (fun _ _ h _ _ => h) fun a o ha q e => (hs8.2 a (fun z => ha (.inr ⟨Str.ofString ".acc", by rw [z]; exact List.mem_cons_self⟩))).trans e
    · have hin : i = items.length := by omega
      subst hin
      refine W.done s' _ _ hS fun h' tk hk => ?_
      obtain ⟨mL, hmL, _⟩ := Iv.loc
      refine hend D L mL _ ?_ ?_ (Ns_of hmL fun o e => hk L o (Ne.symm hIL) e) hLs
      · obtain ⟨n, e⟩ := hpl
        rw [List.take_length] at hrs
        refine .list ?_ ⟨n, hk D _ (Ne.symm hID) e⟩ (hrs.mono (fun a o ha _ _ => ?_) fun a o ha q e => hk a o (fun z => hWS _ _ hS o (z ▸ e) q) e)
        · exact (I.new hC hDs).2.2.2
        · rintro (q | ⟨y, q⟩)
          · exact ha (.inl q)
          · exact ha (.inr ⟨y, List.mem_cons_of_mem _ q⟩)
      · refine ⟨?_, fun a o hm e => ?_, hC.stab g _ _ Iv.world fun a o hm e => hk a o (hm.elim (fun hm q => hIn.2.2.1 (q ▸ hm)) fun hr q => by subst q; exact (hWS2 _ _ hS o e).2 hr) e⟩
        · have a1 := Iv.rest
          have a2 := I.rest
          exact ⟨a1.1.trans a2.1.symm, a1.2.1.trans a2.2.1.symm, a1.2.2.trans a2.2.2.symm⟩
        · have h4 : a ≠ L := ne_get e hLs
          have h3 : a ≠ D := ne_get e hDs
          have h2 : a ≠ Ia := ne_get e hfr
          exact hk a o h2 (kk a o hm h2 h3 h4 (st.keep a o hm e))
  have hst1 : S 0 h₁ := W.frame 0 _ _ hst (fun o e => k34 _ o (k23 _ o e)) (fun a o _ _ e => k34 a o (k23 a o e))
  exact codeAny_compStart_list (loop _ rfl) (W.self 0 _ _ _ hst1 (loop _ rfl))

theorem Ev.comp (hC : C.Ok) {elt it t : Expr} {ifs : List Expr} {scope : Scope} {pos : Pos} {items : List PV} {ρc : Env'} {f : PV → Option PV} (hok : CompOk C scope t ρ ρc)
    (h : EvIt C ρ g it items g) (hlen : items.length ≤ 4096)
    (body : ∀ p, p ∈ items → ∀ L, (C.comp scope L (ρc.map (·.1))).Ok → ∃ ρ₁, Binds t p ρc ρ₁ ∧ Weak ρ₁ ρc ∧ CompTurn (C.comp scope L (ρc.map (·.1))) ρ₁ g ifs elt (f p))
    (ht : (∃ x p, t = .Name x p) ∨ (∃ ts k p, t = .Tuple ts k p) := by first | exact .inl ⟨_, _, rfl⟩ | exact .inr ⟨_, _, _, rfl⟩)
    (hs : ∀ x, foldedSetIterable it C.env x = pure x := by intro _; rfl) :
    Ev C ρ g (.ListComp elt [⟨t, it, ifs, 0⟩] scope pos) (.list (items.filterMap f)) g := fun O s I => by
  rw [eval_ListComp]
  refine comp_core hC hok h hlen ht body I (use := Option.none) (fun D L m s' r st hL hLs => ?_) hs
  refine ⟨m, hL, fun h' hs' => ⟨r.sameBut hs' fun a o q e => seq_ne_dict q e hL, ?_⟩⟩
  refine ⟨st.rest, fun a o hm e => (hs'.2 a (ne_get e hLs)).trans (st.keep a o hm e), hC.stab g _ _ st.world fun a o hm e => (hs'.2 a (hm.elim (fun hm z => ?_) fun hr => rec_ne_dict hr e hL)).trans e⟩
  obtain ⟨o', e'⟩ := hC.wm g s.heap a I.world hm
  rw [z, hLs] at e'; cases e'

/-- a comprehension that a local name takes at once -/
theorem St1.assignComp (hC : C.Ok) {x : Str} {xp spos : Pos} {elt it t : Expr} {ifs : List Expr} {scope : Scope} {pos : Pos} {items : List PV} {ρc : Env'} {f : PV → Option PV} (hok : CompOk C scope t ρ ρc)
    (h : EvIt C ρ g it items g) (hlen : items.length ≤ 4096)
    (body : ∀ p, p ∈ items → ∀ L, (C.comp scope L (ρc.map (·.1))).Ok → ∃ ρ₁, Binds t p ρc ρ₁ ∧ Weak ρ₁ ρc ∧ CompTurn (C.comp scope L (ρc.map (·.1))) ρ₁ g ifs elt (f p))
    (hp : Put ρ x (.val (.list (items.filterMap f))) ρ') (hP : P .next ρ' g) (hx : C.env.kindOf x = some .local)
    (hsw : swapsWith (.ListComp elt [⟨t, it, ifs, 0⟩] scope pos) (some (.Name x xp)) spos.line C.env = pure true)
    (ht : (∃ x p, t = .Name x p) ∨ (∃ ts k p, t = .Tuple ts k p) := by first | exact .inl ⟨_, _, rfl⟩ | exact .inr ⟨_, _, _, rfl⟩)
    (hs : ∀ x, foldedSetIterable it C.env x = pure x := by intro _; rfl) :
    St1 C ρ g (.Assign [.Name x xp] (.ListComp elt [⟨t, it, ifs, 0⟩] scope pos) spos) P := fun O s I => by
  rw [exec_Assign_Name_used _ _ _ _ hsw]
  refine wpAny_bind (wpAny_standAt (wpAny_bind ?_))
  show wpAny _ C.A (do let _ ← comprehension (.ListComp elt [⟨t, it, ifs, 0⟩] scope pos) scope C.env _ (newList []) false (eval it C.env) (some (PySem.assign (.Name x xp) C.env))) _ _ s
  refine wpAny_bind (wpAny_mono (comp_core hC hok h hlen ht body I (use := some (PySem.assign (.Name x xp) C.env)) (Q := fun _ s' => Post C O s P .next s') (fun D L m s' r st hL hLs => ?_) hs) (fun _ s' hq => wpAny_pure (wpAny_pure hq)) fun _ _ e => e)
  have I' := I.step hC st
  show wpAny _ C.A (PySem.assign (.Name x xp) C.env (.ref D)) _ _ _
  have hLl : L ≠ C.env.locals := by
    rintro rfl
    obtain ⟨m0, ⟨o, _, _, e, _⟩, _⟩ := I.loc
    rw [hLs] at e; cases e
  refine wpAny_assign_Name (store_val hC I' r hp fun s'' I'' k kl => ?_)
  have hL'' : s''.heap.Ns L m := Ns_of hL fun o e => kl hx L o hLl e
  refine ⟨m, hL'', fun h' hs' => ?_⟩
  have hn := I.new hC hLs
  have I3 : Inv C ρ' O g { s'' with heap := h' } := by
    refine I''.butN hC hn.1 hn.2.2.1 hLl ?_ (fun o e => ⟨fun q => ?_, fun q => rec_ne_dict q e hL'' rfl⟩) ⟨rfl, rfl, rfl⟩ fun a o hne e => (hs'.2 a hne).trans e
    · rintro ⟨y, hy⟩
      obtain ⟨v, o, e, _⟩ := I.cells y L hy
      rw [hLs] at e; cases e
    · exact seq_ne_dict q e hL'' rfl
  refine ⟨.next, ρ', O, g, hP, .next, I3, ?_⟩
  have k0 := (st.skeep (O := O) hC).trans k
  refine ⟨fun a o h1 h2 h3 h4 e => (hs'.2 a (ne_get e hLs)).trans (k0.keep a o h1 h2 h3 h4 e), k0.grow, fun a o e => ?_⟩
  obtain ⟨o', e'⟩ := k0.pres a o e
  exact ⟨o', (hs'.2 a (ne_get e hLs)).trans e'⟩
end
end Mine
end

section
namespace Mine
open PySem PySem.Calls PyProof.Rows

section
variable {C : Cx} {ρ ρ' ρ₁ : Env'} {g g' g₁ g₂ : C.G} {P P' : Fl → Env' → C.G → Prop}

theorem Ev.globT (hC : C.Ok) {x : Str} {pos : Pos} {n : String} (hg : GlobIs C x (.type n)) : Ev C ρ g (.Name x pos) (.ty n) g := fun O s I => eval_glob hC hg I ⟨.ty n, .refl I.world⟩
theorem call_isiInt {i : Int} : OpL C (fun us => call (.builtin "isinstance") us) [.int i, .ty "int"] (.bool true) := fun X s us hX r => by
  cases r with
  | cons a b => cases a; cases b with
    | cons a b => cases a; cases b
                  exact PySem.IsiPair.int_int ⟨.bool _, keeps_refl⟩
theorem call_isiBool {i : Int} : OpL C (fun us => call (.builtin "isinstance") us) [.int i, .ty "bool"] (.bool false) := fun X s us hX r => by
  cases r with
  | cons a b => cases a; cases b with
    | cons a b => cases a; cases b
                  exact PySem.IsiPair.int_bool ⟨.bool _, keeps_tok⟩

theorem St1.assignTup (hC : C.Ok) {ts : List Expr} {k : Nat} {tp pos : Pos} {e : Expr} {vs : List PV} (h : Ev C ρ g e (.tup vs) g₁) (hb : BindsL ts vs ρ ρ') (hP : P .next ρ' g₁)
    (hs : swapsWithSole [.Tuple ts k tp] e pos.line C.env = pure false := by rfl) (hw : swappedStores [.Tuple ts k tp] e C.env = pure none := by rfl) : St1 C ρ g (.Assign [.Tuple ts k tp] e pos) P := fun O s I =>
  Assign_Tuple (wpAny_mono (h O s I) (fun u s₁ ⟨r, st⟩ => bind_target hC (.tup hb) (I.step hC st) r fun s' I' k _ => ⟨.next, ρ', O, g₁, hP, .next, I', (st.skeep hC).trans k⟩) fun _ _ x => x) hs hw

/-! join by the empty text -/
theorem reps_strs {X : Addr → Prop} {h : Heap} : ∀ {vs : List Value} {xs : List (List Nat)}, Reps X h vs (xs.map PV.str) → StrsAre vs (xs.map fun x => (⟨x.toArray⟩ : Str))
  | _, [], .nil => .nil
  | _, x :: xs, .cons a r => by
    cases a
    exact .cons _ _ (reps_strs r)
theorem glued_go (l : List (List Nat)) : ∀ acc : Array Nat, ((l.map fun x => (⟨x.toArray⟩ : Str)).foldl (fun acc p => acc ++ (#[] : Array Nat) ++ p.cps) acc).toList = acc.toList ++ l.flatten := by
  induction l with
  | nil => intro acc; simp
  | cons x l ih => intro acc; rw [List.map_cons, List.foldl_cons, ih]; simp
theorem glued_nil (xs : List (List Nat)) : Txt.join ⟨#[]⟩ (xs.map fun x => (⟨x.toArray⟩ : Str)) = ⟨xs.flatten.toArray⟩ := by
  show (⟨_⟩ : Str) = _
  congr 1
  apply Array.ext'
  cases xs with
  | nil => rfl
  | cons x xs =>
    rw [List.map_cons]
    show (List.foldl _ (x.toArray) (List.map _ xs)).toList = _
    rw [glued_go]
    simp
theorem Ev.join (hC : C.Ok) {x : Str} {k : Nat} {cp apos pos : Pos} {e : Expr} {xs : List (List Nat)} (hx : x.cps.toList = []) (h : Ev C ρ g e (.list (xs.map .str)) g₁) (hn : (xs.map List.length).sum ≤ 16777216)
    (hline : (apos.endLine == pos.line) = true := by rfl)
    (hfew : ((backTo pos (starEach [e] C.env)).all (fun x => !x.1) && (backToKw pos (keywordEach [] C.env)).all (fun x => x.1.isSome)
      && decide (([e] : List Expr).length + ([] : List Keyword).length + (if ([] : List Keyword).isEmpty then 0 else 1) < 30)) = true := by rfl)
    (htrees : backTo pos (starEach [e] C.env) = [(false, eval e C.env)] := by rfl) :
    Ev C ρ g (.Call (.Attribute (.Constant (.str x) k cp) "join" apos) [e] [] pos) (.str xs.flatten) g₁ := fun O s I => by
  refine wpAny_Call_method rfl hfew hline PySem.F.plainAttrs_str PySem.F.slot_str_join PySem.F.type_str_join (wpAny_Constant_str ⟨typeIs_str _ _ _, (fun a e => nomatch e), ?_⟩)
  rw [htrees]
  have st0 : Step C g s { s with toks := s.toks + 1 } := .of_keeps hC I.world keeps_tok
  have I0 := I.step hC st0
  refine callWith_builtin rfl (evalArgs_any rfl (spliced_cons (wpAny_mono (h O _ I0) (fun u s₁ ⟨r, st⟩ => spliced_nil ?_) fun _ _ x => x)))
  have I1 := I0.step hC st
  have ex : x = ⟨#[]⟩ := by cases x with | mk cps => simp at hx; simp [hx]
  subst ex
  cases r with
  | list ha hl hr =>
    refine join_list hl.isList (reps_strs hr) ?_ fun t' kk => ?_
    · simp only [List.map_map, List.length_map]
      have e1 : (xs.map ((fun (y : Str) => y.length) ∘ fun x => (⟨x.toArray⟩ : Str))) = xs.map List.length := by
        apply List.map_congr_left
        intro y _
        exact str_length y
      rw [e1]
      simpa [Str.length] using hn
    · rw [glued_nil]
      exact ⟨.str _ _, (st0.trans st).trans (.of_keeps hC I1.world keeps_tok)⟩

theorem Ev.listRange (hC : C.Ok) {x y : Str} {np rp rpos pos : Pos} {e : Expr} {b : Int} (hg : GlobIs C x (.type "list")) (hg2 : GlobIs C y (.type "range")) (h : EvL C ρ g [e] [.int b] g₁) (h0 : 0 ≤ b) (h1 : b ≤ 4096)
    (hn : (backTo rpos (starEach [e] C.env)).any (·.1) = false := by rfl)
    (ht : backTo pos (starEach [.Call (.Name y rp) [e] [] rpos] C.env) = [(false, eval (.Call (.Name y rp) [e] [] rpos) C.env)] := by rfl) :
    Ev C ρ g (.Call (.Name x np) [.Call (.Name y rp) [e] [] rpos] [] pos) (.list (rangeItems 0 1 b.toNat)) g₁ := fun O s I => by
  refine wpAny_Call_NameR (eval_glob hC hg I ?_)
  rw [ht]
  refine PyProof.Rows.callWith_type rfl (evalArgs_any rfl (spliced_cons ?_))
  refine wpAny_Call_NameR (eval_glob hC hg2 I (PyProof.Rows.callWith_type hn (evalArgs_any hn (wpAny_mono (h O s rpos I) (fun us s₁ ⟨r1, st⟩ => ?_) fun _ _ x => x))))
  have I1 := I.step hC st
  obtain ⟨t, rfl⟩ : ∃ t, us = [.int b t] := by
    cases r1 with
    | cons a1 b1 => cases a1; cases b1; exact ⟨_, rfl⟩
  refine call_range_1 (spliced_nil ?_)
  have st2 := Step.of_keeps hC I1.world (s' := { s₁ with heap := s₁.heap.push { cls := .type "range", data := .fields #[.int 0 s₁.toks, .int b t, .int 1 (s₁.toks + 1)] }, toks := s₁.toks + 1 + 1 }) ⟨_, _, rfl, fun _ _ e => Heap.get?_push_of_some _ e⟩
  have I2 := I1.step hC st2
  refine call_list_range (n := b.toNat) hC.handled (IsRange.new ..) (small_one (by decide) (by decide) (by omega) (by omega)) (by rw [rangeSize_one]; split <;> omega) (by omega) fun h' tk acc' c' hk hS hacc => ?_
  have st3 := Step.of_keeps hC I2.world (s' := { s₁ with heap := h', toks := tk }) ⟨h', tk, rfl, hk⟩
  refine ⟨.list (I2.new hC (get_size_none _)).2.2.2 ⟨c', hS⟩ ?_, (st.trans st2).trans st3⟩
  -- the items
  have key : ∀ (l : List Value) (k : Nat), (∀ j v, l[j]? = some v → ∃ t, v = Value.int (0 + ((k + j : Nat) : Int) * 1) t) → Reps (avoid C O) h' l ((List.range l.length).map fun (j : Nat) => PV.int (0 + ((k + j : Nat) : Int) * 1)) := by
    intro l
    induction l with
    | nil => intro k _; exact .nil
    | cons v l ih =>
      intro k hv
      obtain ⟨t, rfl⟩ := hv 0 v rfl
      rw [List.length_cons, List.range_succ_eq_map, List.map_cons, List.map_map]
      refine .cons (.int _ _) ?_
      have := ih (k + 1) fun j v hj => by
        obtain ⟨t, e⟩ := hv (j + 1) v (by simpa using hj)
        exact ⟨t, by rw [e, show k + (j + 1) = k + 1 + j by omega]⟩
      refine cast ?_ this
      congr 1
      apply List.map_congr_left
      intro j _
      show PV.int _ = PV.int _
      rw [show k + 1 + j = k + (j + 1) by omega]
  have := key acc'.toList 0 fun j v hj => by
    obtain ⟨t, e⟩ := hacc.2 j v (by simpa using hj)
    exact ⟨t, by rw [e]; simp⟩
  have hsz : acc'.toList.length = b.toNat := by simpa using hacc.1
  rw [hsz] at this
  refine cast ?_ this
  congr 1
  unfold rangeItems
  apply List.map_congr_left
  intro j _
  simp

/-! a text from its end -/
theorem range_rev {α : Type} (xs : List α) : (((List.range xs.length).map fun (k : Nat) => ((xs.length : Int) - 1 + (-1) * (k : Int)).toNat).filterMap (xs[·]?)) = xs.reverse := by
  rw [List.filterMap_map]
  have e : ∀ k ∈ List.range xs.length, ((fun x => xs[x]?) ∘ fun (k : Nat) => ((xs.length : Int) - 1 + (-1) * (k : Int)).toNat) k = xs.reverse[k]? := fun k hk => by
    have hk' := List.mem_range.mp hk
    show xs[((xs.length : Int) - 1 + (-1) * (k : Int)).toNat]? = _
    rw [List.getElem?_reverse hk']
    congr 1
    omega
  have cg : ∀ (l : List Nat) (p q : Nat → Option α), (∀ k ∈ l, p k = q k) → l.filterMap p = l.filterMap q := by
    intro l p q h
    induction l with
    | nil => rfl
    | cons a l ih =>
      rw [List.filterMap_cons, List.filterMap_cons, h a List.mem_cons_self, ih fun k hk => h k (List.mem_cons_of_mem _ hk)]
  rw [cg _ _ (fun k => xs.reverse[k]?) e]
  have : xs.length = xs.reverse.length := by simp
  rw [this]
  generalize xs.reverse = l
  have key : ∀ n, n ≤ l.length → (List.range n).filterMap (fun k => l[k]?) = l.take n := by
    intro n
    induction n with
    | zero => intro _; simp
    | succ n ih =>
      intro h
      rw [List.range_succ, List.filterMap_append, ih (by omega), List.take_add_one]
      have : n < l.length := by omega
      simp [this]
  rw [key _ (Nat.le_refl _), List.take_length]
theorem Ev.reverse (hC : C.Ok) {a e : Expr} {p pos : Pos} {x : List Nat} (h1 : Ev C ρ g a (.str x) g) (h2 : Ev C ρ g e (.int (-1)) g) (hn : x.length ≤ 4096) :
    Ev C ρ g (.Subscript a (.Slice Option.none Option.none (Option.some e) p) pos) (.str x.reverse) g := fun O s I => by
  refine Subscript_ (wpAny_mono (h1 O s I) (fun v s₁ ⟨r1, st1⟩ => ?_) fun _ _ x => x)
  have I1 := I.step hC st1
  refine wpAny_Slice (wpAny_evalPart_none (wpAny_evalPart_none (wpAny_evalPart_some (wpAny_mono (h2 O s₁ I1) (fun w s₂ ⟨r2, st2⟩ => ?_) fun _ _ x => x))))
  have I2 := I1.step hC st2
  obtain ⟨tw, rfl⟩ : ∃ tw, w = .int (-1) tw := by cases r2; exact ⟨_, rfl⟩
  cases r1 with
  | str x tx =>
    have st4 := Step.of_keeps hC I2.world (keeps_push (s := s₂) (o := { cls := .type "slice", data := .fields #[.none, .none, .int (-1) tw] }))
    have I4 := I2.step hC st4
    have sts := (st1.trans st2).trans st4
    refine tail_any (ops := [.str ⟨x.toArray⟩ tx, .ref s₂.heap.objs.size]) (typeIs_str _ _ tx) slot_str_getitem.lookup (wpAny_getItem_str_slice (l := Option.none) (u := Option.none) (st := Option.some (-1, tw)) ⟨_, Heap.get?_push_size _ rfl, rfl, rfl⟩ rfl ?_) rfl
    have ep : (slicePicked ⟨x.toArray⟩ Option.none Option.none (Option.some (-1, tw))).filterMap (fun k => (⟨x.toArray⟩ : Str).cps[k]?) = x.reverse := by
      show (Builtin.Str.strSliceIndices Option.none Option.none (-1) (⟨x.toArray⟩ : Str).length).filterMap _ = _
      rw [str_length]
      have e0 : Builtin.Str.strSliceIndices Option.none Option.none (-1) x.length = (List.range x.length).map fun (k : Nat) => ((x.length : Int) - 1 + (-1) * (k : Int)).toNat := by
        show sliceRange ((x.length : Int) - 1) (-1) (-1) = _
        unfold sliceRange
        have hc : (if (-1 : Int) > 0 then (if (x.length : Int) - 1 < -1 then (-1 - ((x.length : Int) - 1) + -1 - 1) / -1 else 0) else (if (x.length : Int) - 1 > -1 then ((x.length : Int) - 1 - -1 - -1 - 1) / (- -1) else 0)).toNat = x.length := by
          rw [if_neg (by decide), show (- -1 : Int) = 1 from rfl, Int.ediv_one]
          split <;> omega
        dsimp only
        rw [hc]
      rw [e0]
      have := range_rev x
      refine Eq.trans ?_ this
      congr 1
      funext k
      simp
    unfold sliceMade
    rw [if_neg (by simp)]
    rw [ep]
    refine ⟨?_, .str _ _, sts.trans (.of_keeps hC I4.world keeps_tok)⟩
    rw [str_length, List.length_reverse]
    show _ ≤ 2 ^ 24
    omega
end
end Mine
end

section
namespace Mine
open PySem PySem.Calls PyProof.Rows

/-- a world of a few objects that calls may turn -/
structure Wd where
  M : Addr → Prop
  G : Type
  W : G → Heap → Prop
structure Wd.Ok (V : Wd) : Prop where
  wm : ∀ g h a, V.W g h → V.M a → ∃ o, h.get? a = some o
  stab : ∀ g h h', V.W g h → (∀ a o, (V.M a ∨ Obj.isRec o) → h.get? a = some o → h'.get? a = some o) → V.W g h'

/-- a call that turns the world alone, and makes new things -/
noncomputable def FnW (prog : Program) (w : World) (T : Heap → Prop) (V : Wd) (d : Nat) (f : Value) (g : V.G) (ps : List PV) (r : PV) (g' : V.G) : Prop :=
  ∀ (A : Around) (X : Addr → Prop) (s : Shared) (us : List Value), Room d A → T s.heap → (∀ a, s.heap.get? a = none → ¬ X a) → (∀ a, V.M a → X a) → V.W g s.heap → Reps X s.heap us ps →
    codeAny (model prog w) A (.call f ⟨us, []⟩) (fun r' s' => match r' with | .ok (.ret z) => Rep X s'.heap z r ∧ (s'.gens = s.gens ∧ s'.drawn = s.drawn ∧ s'.os = s.os) ∧ (∀ a o, ¬ V.M a → s.heap.get? a = some o → s'.heap.get? a = some o) ∧ V.W g' s'.heap | .ok _ => False | .error e => NoE e s') s
theorem FnW.wp {prog : Program} {w : World} {T : Heap → Prop} {V : Wd} {d : Nat} {f : Value} {g : V.G} {ps : List PV} {r : PV} {g' : V.G} (h : FnW prog w T V d f g ps r g') (A : Around) (X : Addr → Prop) (s : Shared) (us : List Value) (hR : Room d A) (hT : T s.heap) (hX : ∀ a, s.heap.get? a = none → ¬ X a) (hM : ∀ a, V.M a → X a) (hW : V.W g s.heap) (hr : Reps X s.heap us ps) :
    wpAny (model prog w) A (call f us) (fun z s' => Rep X s'.heap z r ∧ (s'.gens = s.gens ∧ s'.drawn = s.drawn ∧ s'.os = s.os) ∧ (∀ a o, ¬ V.M a → s.heap.get? a = some o → s'.heap.get? a = some o) ∧ V.W g' s'.heap) NoE s :=
  wpAny_call (h A X s us hR hT hX hM hW hr)

noncomputable def frameW (prog : Program) (w : World) (T : Heap → Prop) (V : Wd) (d : Nat) (fd : FuncData) (names : List Str) (a : Addr) (cells : List (Str × Addr)) (A : Around) (X : Addr → Prop) (s : Shared) : Cx :=
  { prog, w, A := A.deeper (newEnv fd.scope s.heap.objs.size fd.globals cells (fd.qualname ++ ".<locals>.") (some a) fd.code none fd.builtins),
    env := newEnv fd.scope s.heap.objs.size fd.globals cells (fd.qualname ++ ".<locals>.") (some a) fd.code none fd.builtins, Z := fun _ => False,
    s₀ := s, F := fun b => s.heap.get? b = none, X, M := V.M, G := V.G, W := V.W, names, T, d }

theorem frameW_ok {prog : Program} {w : World} {T : Heap → Prop} {V : Wd} {d : Nat} {fd : FuncData} {names : List Str} {a : Addr} {cells : List (Str × Addr)} {A : Around} {X : Addr → Prop} {s : Shared} {g : V.G} (hV : V.Ok)
    (hT : ∀ h h' : Heap, T h → (∀ b o, ¬ V.M b → h.get? b = some o → h'.get? b = some o) → T h') (hR : Room (d + 1) A) (hTs : T s.heap) (hX : ∀ a, s.heap.get? a = none → ¬ X a) (hMX : ∀ a, V.M a → X a) (hw : V.W g s.heap)
    (hk : fd.scope.kind = .function) (hcF : ∀ y c, (newEnv fd.scope s.heap.objs.size fd.globals cells (fd.qualname ++ ".<locals>.") (some a) fd.code none fd.builtins).kindOf y = some .cell → cells.lookup y = some c → s.heap.get? c = none)
    (hcM : ∀ y c, cells.lookup y = some c → ¬ V.M c) (hinj : ∀ x y c, cells.lookup x = some c → cells.lookup y = some c → x = y) (hnd : names.Nodup)
    (hkinds : ∀ x ∈ names, fd.scope.names.lookup x = some .local ∨ ((fd.scope.names.lookup x = some .cell ∨ fd.scope.names.lookup x = some .free) ∧ (cells.lookup x).isSome = true))
    (hdbg : ∀ x ∈ names, (x == ("__debug__" : Str)) = false ∧ (x == ("__classdict__" : Str)) = false) : (frameW prog w T V d fd names a cells A X s).Ok := {
  kind := hk
  handled := hR.handled
  depth := by have := hR.depth; show A.depth + 1 + d < recursionLimit; omega
  units := by have := hR.units; show A.units + 3 + 20 * d + 200 < cLine; omega
  top := fun h q => hT _ _ hTs fun b o hm e => q b o (fun n => by have n' : s.heap.get? b = none := n; rw [n'] at e; cases e) hm e
  locF := get_size_none _
  locM := fun m => by obtain ⟨o, e⟩ := hV.wm g _ _ hw m; rw [show (frameW prog w T V d fd names a cells A X s).env.locals = s.heap.objs.size from rfl, get_size_none] at e; cases e
  cellM := hcM
  cellF := fun y c h _ hc => hcF y c h hc
  inj := hinj
  fresh := fun _ h => h
  mx := hMX
  xf := fun b hx hn => hX b hn hx
  xs := fun b hx => by
    show ∃ o, s.heap.get? b = some o
    cases q : s.heap.get? b with
    | none => exact absurd hx (hX b q)
    | some o => exact ⟨o, rfl⟩
  wm := hV.wm
  stab := hV.stab
  nodup := hnd
  kinds := hkinds
  notDebug := hdbg }

/-- the end of a frame: what the caller finds -/
theorem frameW_end {prog : Program} {w : World} {T : Heap → Prop} {V : Wd} {d : Nat} {fd : FuncData} {names : List Str} {a : Addr} {cells : List (Str × Addr)} {A : Around} {X : Addr → Prop} {s s' : Shared} {ρ' : Env'} {O' : List (Str × Addr)} {g' : V.G}
    (I' : Inv (frameW prog w T V d fd names a cells A X s) ρ' O' g' s') : (s'.gens = s.gens ∧ s'.drawn = s.drawn ∧ s'.os = s.os) ∧ (∀ a o, ¬ V.M a → s.heap.get? a = some o → s'.heap.get? a = some o) ∧ V.W g' s'.heap :=
  ⟨I'.rest, fun b o hm e => I'.old b o (fun n => by have n' : s.heap.get? b = none := n; rw [n'] at e; cases e) hm e, I'.world⟩

theorem FnW.intro {prog : Program} {w : World} {T : Heap → Prop} {V : Wd} {d : Nat} {a : Addr} {o : Obj} {fd : FuncData} {body : List Stmt} {pn rest : List Str} {ps : List PV} {r : PV} {g g' : V.G} (hV : V.Ok)
    (hT : ∀ h h' : Heap, T h → (∀ b o, ¬ V.M b → h.get? b = some o → h'.get? b = some o) → T h')
    (hf : ∀ h, T h → h.get? a = some o ∧ h.CodeRec fd.code fd.qualname ∧ h.NoLimit) (hd : o.data = .func fd) (hb : fd.body = .stmts body) (hclo : fd.closure = [])
    (hbind : ∀ vals : List Value, vals.length = pn.length → bindArgs fd ⟨vals, []⟩ = pure (pn.zip vals)) (hlen : ps.length = pn.length)
    (hnd : (pn ++ rest).Nodup) (hkinds : ((pn ++ rest).all fun x => fd.scope.names.lookup x == some .local || fd.scope.names.lookup x == some .cell) = true)
    (hdbg : ((pn ++ rest).all fun x => !(x == ("__debug__" : Str)) && !(x == ("__classdict__" : Str))) = true)
    (hco : fd.scope.isCoroutine = false) (hgen : fd.scope.isGenerator = false) (hk : fd.scope.kind = .function)
    (hbody : ∀ cells A X s, (frameW prog w T V d fd (pn ++ rest) a cells A X s).Ok →
      St (frameW prog w T V d fd (pn ++ rest) a cells A X s) (startEnv pn rest ps) g body (fun fl _ g₁ => (fl = .ret r ∨ (fl = .next ∧ r = .none)) ∧ g₁ = g')) :
    FnW prog w T V (d + 1) (.ref a) g ps r g' := by
  intro A X s us hR hTs hX hMX hw hr
  have hlu : us.length = pn.length := by rw [hr.length, hlen]
  have ndp : ((pn.zip us).map (·.1)).Nodup := by rw [zip_fst hlu]; exact (List.nodup_append.mp hnd).1
  have hkd : ∀ x ∈ pn ++ rest, fd.scope.names.lookup x = some .local ∨ fd.scope.names.lookup x = some .cell := fun x hx => by
    have := List.all_eq_true.mp hkinds x hx
    simpa using this
  refine codeAny_call_cells (body := body) (by have := hR.depth; omega) (hf _ hTs).1 hd (hf _ hTs).2.2 (hf _ hTs).2.1 hb (hbind us hlu) hclo ?_ ?_ hco hgen hk
  · intro x hx
    have hx' : x.1 ∈ pn := by have := List.mem_map_of_mem (f := (·.1)) hx; rw [zip_fst hlu] at this; exact this
    rcases hkd x.1 (List.mem_append_left _ hx') with h | h
    · exact .inl h
    · exact .inr ⟨h, PySem.W.cellsFrom_some _ _ _ (.inl h)⟩
  · intro s₁ x
    have hcells : ∀ y c, (callEnvC fd s.heap.objs.size a).cells.lookup y = some c → s.heap.get? c = none := fun y c hc => none_of_le (Nat.le_of_lt (x.above y c (mem_of_lookup hc)))
    have hC : (frameW prog w T V d fd (pn ++ rest) a (cellsFrom (s.heap.objs.size + 1) fd.scope.names []) A X s).Ok := frameW_ok hV hT hR hTs hX hMX hw hk (fun y c _ hc => hcells y c hc)
      (fun y c hc m => by obtain ⟨o, e⟩ := hV.wm g _ _ hw m; rw [hcells y c hc] at e; cases e)
      (fun y z c h1 h2 => name_of_addr x.apart (mem_of_lookup h1) (mem_of_lookup h2)) hnd
      (fun y hy => (hkd y hy).imp id fun h => ⟨.inl h, PySem.W.cellsFrom_some _ _ _ (.inl h)⟩)
      (fun y hy => by have := List.all_eq_true.mp hdbg y hy; simpa using this)
    obtain ⟨h₁, tk, e1, hk₁⟩ := x.done
    subst e1
    have nf : ∀ y ∈ pn ++ rest, Rw (frameW prog w T V d fd (pn ++ rest) a (cellsFrom (s.heap.objs.size + 1) fd.scope.names []) A X s) y := fun y hy => by
      refine ⟨fun e => ?_, id⟩
      rcases hkd y hy with h | h
      · have : some NameKind.local = some NameKind.free := h.symm.trans e
        cases this
      · have : some NameKind.cell = some NameKind.free := h.symm.trans e
        cases this
    have I : Inv (frameW prog w T V d fd (pn ++ rest) a (cellsFrom (s.heap.objs.size + 1) fd.scope.names []) A X s) (startEnv pn rest ps) [] g { s with heap := h₁, toks := tk } := by
      refine ⟨⟨rfl, rfl, rfl⟩, fun b o _ _ e => hk₁ b o e, hV.stab _ _ _ hw fun b o _ e => hk₁ b o e, ?_, ⟨_, x.toInCall.ns, fun y v hy => ?_⟩, fun y c hc => ⟨_, x.cell y c hc⟩, fun _ _ h => (nomatch h), fun _ _ _ h => (nomatch h)⟩
      · show (startEnv pn rest ps).map (·.1) = pn ++ rest
        rw [startEnv, List.map_append, zip_fst (by simpa using hlen), List.map_map]
        congr 1
        exact List.map_id _
      · rcases List.mem_append.mp hy with h | h
        · obtain ⟨p, u, rfl, hu, hrp⟩ := zip_vals hr h
          have hyp : y ∈ pn := by have := List.mem_map_of_mem (f := (·.1)) hu; rw [zip_fst hlu] at this; exact this
          refine ⟨nf y (List.mem_append_left _ hyp), u, ?_, hrp.mono (fun b o hb _ e => ?_) fun b o _ _ e => hk₁ b o e⟩
          · rcases hkd y (List.mem_append_left _ hyp) with h | h
            · exact .inl ⟨h, bindL_mem _ _ _ _ ndp hu h⟩
            · have hs : ((callEnvC fd s.heap.objs.size a).cells.lookup y).isSome = true := PySem.W.cellsFrom_some _ _ _ (.inl h)
              obtain ⟨c, hc⟩ := Option.isSome_iff_exists.mp hs
              have hne : (callEnvC fd s.heap.objs.size a).kindOf y ≠ some .local := fun e => by
                have : some NameKind.cell = some NameKind.local := h.symm.trans e
                cases this
              refine .inr ⟨.inl h, c, hc, ?_⟩
              have := x.cell y c hc
              rw [bindC_mem _ _ _ _ ndp hu hne] at this
              exact this
          · rintro (q | ⟨_, q⟩)
            · exact hb q
            · cases q
        · obtain ⟨z, hz, e⟩ := List.mem_map.mp h
          cases e
          exact nf y (List.mem_append_right _ hz)
    refine wpAny_mono (hbody _ A X s hC [] _ I) (fun f s' ⟨fl, ρ', O', g₁, ⟨hP, hg⟩, hfl, I', k⟩ => ?_) fun _ _ h => h.elim
    subst hg
    have hXr : ∀ {u : Value} {p : PV}, Rep (avoid (frameW prog w T V d fd (pn ++ rest) a (cellsFrom (s.heap.objs.size + 1) fd.scope.names []) A X s) O') s'.heap u p → Rep X s'.heap u p := fun q => q.mono (fun b o hb _ _ hx => hb (.inl hx)) fun _ _ _ _ e => e
    rcases hP with rfl | ⟨rfl, rfl⟩
    · cases hfl with
      | ret q => exact ⟨hXr q, frameW_end I'⟩
    · cases hfl
      exact ⟨.none, frameW_end I'⟩

theorem lookup_nodup {α : Type} : ∀ {l : List (Str × α)}, (l.map (·.1)).Nodup → ∀ {y : Str} {u : α}, (y, u) ∈ l → l.lookup y = some u
  | [], _, _, _, h => nomatch h
  | (z, w) :: l, nd, y, u, h => by
    rw [List.map_cons, List.nodup_cons] at nd
    rcases List.mem_cons.mp h with e | e
    · cases e; rw [List.lookup_cons, BEq.rfl]
    · have hne : (y == z) = false := by
        rw [beq_eq_false_iff_ne]; rintro rfl; exact nd.1 (List.mem_map.mpr ⟨_, e, rfl⟩)
      rw [List.lookup_cons, hne]
      exact lookup_nodup nd.2 e

/-- a def within a def, with names of the outer one that it reads -/
theorem FnW.introC {prog : Program} {w : World} {T : Heap → Prop} {V : Wd} {d : Nat} {a : Addr} {o : Obj} {fd : FuncData} {body : List Stmt} {pn rest : List Str} {frees : List (Str × PV)} {ps : List PV} {r : PV} {g g' : V.G} (hV : V.Ok)
    (hT : ∀ h h' : Heap, T h → (∀ b o, ¬ V.M b → h.get? b = some o → h'.get? b = some o) → T h')
    (hf : ∀ g h, T h → V.W g h → h.get? a = some o ∧ h.CodeRec fd.code fd.qualname ∧ h.NoLimit) (hd : o.data = .func fd) (hb : fd.body = .stmts body)
    (hbind : ∀ vals : List Value, vals.length = pn.length → bindArgs fd ⟨vals, []⟩ = pure (pn.zip vals)) (hlen : ps.length = pn.length)
    (hnd : (pn ++ rest ++ frees.map (·.1)).Nodup) (hkinds : ((pn ++ rest).all fun x => fd.scope.names.lookup x == some .local) = true)
    (hnocell : ∀ x ∈ fd.scope.names, x.2 ≠ .cell)
    (hfree : ∀ y p, (y, p) ∈ frees → fd.scope.names.lookup y = some .free ∧ ∃ c, fd.closure.lookup y = some c ∧ ∀ h, T h → ∃ u, h.IsCell c (some u) ∧ ∀ X h', Rep X h' u p)
    (hclos : ∀ y c, fd.closure.lookup y = some c → ¬ V.M c ∧ ∀ h, T h → ∃ v, h.IsCell c v) (hinj : ∀ x y c, fd.closure.lookup x = some c → fd.closure.lookup y = some c → x = y)
    (hdbg : ((pn ++ rest ++ frees.map (·.1)).all fun x => !(x == ("__debug__" : Str)) && !(x == ("__classdict__" : Str))) = true)
    (hco : fd.scope.isCoroutine = false) (hgen : fd.scope.isGenerator = false) (hk : fd.scope.kind = .function) (hncl : ∀ y, fd.scope.names.lookup y ≠ some .cell)
    (hbody : ∀ A X s, (frameW prog w T V d fd (pn ++ rest ++ frees.map (·.1)) a fd.closure A X s).Ok →
      St (frameW prog w T V d fd (pn ++ rest ++ frees.map (·.1)) a fd.closure A X s) (startEnv pn rest ps ++ frees.map fun y => (y.1, LV.ro y.2)) g body (fun fl _ g₁ => (fl = .ret r ∨ (fl = .next ∧ r = .none)) ∧ g₁ = g')) :
    FnW prog w T V (d + 1) (.ref a) g ps r g' := by
  intro A X s us hR hTs hX hMX hw hr
  have hlu : us.length = pn.length := by rw [hr.length, hlen]
  have ndp : ((pn.zip us).map (·.1)).Nodup := by rw [zip_fst hlu]; exact (List.nodup_append.mp (List.nodup_append.mp hnd).1).1
  have hkd : ∀ x ∈ pn ++ rest, fd.scope.names.lookup x = some .local := fun x hx => by
    have := List.all_eq_true.mp hkinds x hx
    simpa using this
  refine codeAny_call_function (by have := hR.depth; omega) (hf _ _ hTs hw).1 hd hco hgen hb (hf _ _ hTs hw).2.1 ?_
  rw [hbind us hlu]
  refine wpAny_pure (wpAny_newFunctionEnv hnocell ?_ (fun h₁ hns hsb => ?_) hk)
  · intro x hx
    have hx' : x.1 ∈ pn := by have := List.mem_map_of_mem (f := (·.1)) hx; rw [zip_fst hlu] at this; exact this
    exact hkd x.1 (List.mem_append_left _ hx')
  have hk₁ : ∀ b o, s.heap.get? b = some o → h₁.get? b = some o := fun b o e => hsb.extBut b o (Nat.ne_of_lt (Heap.lt_size e)) (Heap.get?_push_of_some _ e)
  refine ⟨(hf _ _ hTs hw).2.2.keeps hk₁, codeAny_func ?_⟩
  have hC : (frameW prog w T V d fd (pn ++ rest ++ frees.map (·.1)) a fd.closure A X s).Ok := frameW_ok hV hT hR hTs hX hMX hw hk (fun y c hy _ => absurd hy (hncl y)) (fun y c hc => (hclos y c hc).1) hinj hnd
    (fun y hy => by
      rcases List.mem_append.mp hy with h | h
      · exact .inl (hkd y h)
      · obtain ⟨z, hz, rfl⟩ := List.mem_map.mp h
        obtain ⟨q1, c, q2, _⟩ := hfree z.1 z.2 hz
        exact .inr ⟨.inr q1, by rw [q2]; rfl⟩)
    (fun y hy => by have := List.all_eq_true.mp hdbg y hy; simpa using this)
  have nf : ∀ y ∈ pn ++ rest, Rw (frameW prog w T V d fd (pn ++ rest ++ frees.map (·.1)) a fd.closure A X s) y := fun y hy => by
    refine ⟨fun e => ?_, id⟩
    have : some NameKind.local = some NameKind.free := (hkd y hy).symm.trans e
    cases this
  have hrev : ∀ y u, (y, u) ∈ pn.zip us → (pn.zip us).reverse.lookup y = some u := fun y u hy => by
    have nd' : ((pn.zip us).reverse.map (·.1)).Nodup := by rw [List.map_reverse]; exact (List.reverse_perm _).nodup_iff.mpr ndp
    exact lookup_nodup nd' (List.mem_reverse.mpr hy)
  have I : Inv (frameW prog w T V d fd (pn ++ rest ++ frees.map (·.1)) a fd.closure A X s) (startEnv pn rest ps ++ frees.map fun y => (y.1, LV.ro y.2)) [] g { s with heap := h₁, toks := s.toks + (pn.zip us).length } := by
    refine ⟨⟨rfl, rfl, rfl⟩, fun b o _ _ e => hk₁ b o e, hV.stab _ _ _ hw fun b o _ e => hk₁ b o e, ?_, ⟨_, hns, fun y v hy => ?_⟩, fun y c hc => ?_, fun _ _ h => (nomatch h), fun _ _ _ h => (nomatch h)⟩
    · show (startEnv pn rest ps ++ frees.map fun y => (y.1, LV.ro y.2)).map (·.1) = pn ++ rest ++ frees.map (·.1)
      rw [startEnv, List.map_append, List.map_append, zip_fst (by simpa using hlen), List.map_map, List.map_map]
      congr 1
      congr 1
      exact List.map_id _
    · rcases List.mem_append.mp hy with hy | hy
      · rcases List.mem_append.mp hy with h | h
        · obtain ⟨p, u, rfl, hu, hrp⟩ := zip_vals hr h
          have hyp : y ∈ pn := by have := List.mem_map_of_mem (f := (·.1)) hu; rw [zip_fst hlu] at this; exact this
          refine ⟨nf y (List.mem_append_left _ hyp), u, .inl ⟨hkd y (List.mem_append_left _ hyp), hrev y u hu⟩, hrp.mono (fun b o hb _ e => ?_) fun b o _ _ e => hk₁ b o e⟩
          rintro (q | ⟨_, q⟩)
          · exact hb q
          · cases q
        · obtain ⟨z, hz, e⟩ := List.mem_map.mp h
          cases e
          exact nf y (List.mem_append_right _ hz)
      · obtain ⟨z, hz, e⟩ := List.mem_map.mp hy
        cases e
        obtain ⟨q1, c, q2, q3⟩ := hfree z.1 z.2 hz
        obtain ⟨u, hu, hrep⟩ := q3 _ hTs
        exact ⟨u, .inr ⟨.inr q1, c, q2, hu.keeps hk₁⟩, hrep _ _⟩
    · obtain ⟨v, hv⟩ := (hclos y c hc).2 _ hTs
      exact ⟨v, hv.keeps hk₁⟩
  refine wpAny_mono (hbody A X s hC [] _ I) (fun f s' ⟨fl, ρ', O', g₁, ⟨hP, hg⟩, hfl, I', k⟩ => ?_) fun _ _ h => h.elim
  subst hg
  have hXr : ∀ {u : Value} {p : PV}, Rep (avoid (frameW prog w T V d fd (pn ++ rest ++ frees.map (·.1)) a fd.closure A X s) O') s'.heap u p → Rep X s'.heap u p := fun q => q.mono (fun b o hb _ _ hx => hb (.inl hx)) fun _ _ _ _ e => e
  rcases hP with rfl | ⟨rfl, rfl⟩
  · cases hfl with
    | ret q => exact ⟨hXr q, frameW_end I'⟩
  · cases hfl
    exact ⟨.none, frameW_end I'⟩
end Mine
end

section
namespace Mine
open PySem PySem.Calls PyProof.Rows

noncomputable abbrev Cx.wd (C : Cx) : Wd := ⟨C.M, C.G, C.W⟩

section
variable {C : Cx} {ρ ρ' ρ₁ : Env'} {g g' g₁ g₂ g₃ : C.G} {P P' : Fl → Env' → C.G → Prop}

/-- the method of an object, as the world stands -/
noncomputable def GMeth (C : Cx) (g : C.G) (a : Addr) (name : Str) (f : Value) (first : List Value) : Prop :=
  ∀ (A : Around) (pl : Sem Bool) (s : Shared) (Q : Value × List Value → Shared → Prop), C.T s.heap → C.W g s.heap → (∀ t, Q (f, first) { s with toks := t }) → wpAny C.mod A (getMethod (.ref a) name pl) Q NoE s
/-- the field of an object, as the world stands -/
noncomputable def GAttr (C : Cx) (g : C.G) (a : Addr) (name : Str) (p : PV) : Prop :=
  ∀ (X : Addr → Prop) (s : Shared) (Q : Value → Shared → Prop), C.T s.heap → C.W g s.heap → (∀ u t, Rep X s.heap u p → Q u { s with toks := t }) → wpAny C.mod C.A (getAttr (.ref a) name true) Q NoE s
/-- an field is set -/
noncomputable def GSet (C : Cx) (g : C.G) (a : Addr) (name : Str) (p : PV) (g' : C.G) : Prop :=
  ∀ (X : Addr → Prop) (s : Shared) (u : Value), C.T s.heap → C.W g s.heap → Rep X s.heap u p → wpAny C.mod C.A (setAttr (.ref a) name u) (fun _ s' => Step C g' s s') NoE s

theorem step_tok (hC : C.Ok) {s : Shared} (w : C.W g s.heap) (t : Nat) : Step C g s { s with toks := t } := ⟨⟨rfl, rfl, rfl⟩, fun _ _ _ e => e, w⟩

theorem Ev.attr (hC : C.Ok) {e : Expr} {a : Addr} {name : Str} {pos : Pos} {p : PV} (h : Ev C ρ g e (.obj a) g₁) (ha : GAttr C g₁ a name p)
    (he : eval (.Attribute e name pos) C.env = (do
      let o ← eval e C.env
      standAt pos.atName
      let r ← holding [o] (getAttr o name true)
      letTemporaryGo e o r
      pure r) := by with_unfolding_all rfl) : Ev C ρ g (.Attribute e name pos) p g₁ := fun O s I => by
  refine Attribute_any_ (wpAny_mono (h O s I) (fun o s₁ ⟨r, st⟩ => ?_) fun _ _ x => x) he
  obtain rfl := Rep.of_obj r
  case _ =>
    have I1 := I.step hC st
    exact ha (avoid C O) s₁ _ (I1.top hC) I1.world fun u t r => ⟨r, st.trans (step_tok hC I1.world t)⟩

/-- a call of a method that is a def of the text -/
theorem Ev.meth (hC : C.Ok) {o : Expr} {a b : Addr} {name : Str} {apos pos : Pos} {es : List Expr} {ps qs : List PV} {r : PV} {pl : Sem Bool} {first : List Value} {dd : Nat} (ho : Ev C ρ g o (.obj a) g₁) (hm : GMeth C g₁ a name (.ref b) first)
    (hfirst : ∀ X h, Reps X h first qs) (hf : ∃ o fd, o.data = .func fd ∧ ∀ h, C.T h → h.get? b = some o)
    (h : EvL C ρ g₁ es ps g₂) (hc : FnW C.prog C.w C.T C.wd dd (.ref b) g₂ (qs ++ ps) r g₃) (hd : dd ≤ C.d)
    (he : eval (.Call (.Attribute o name apos) es [] pos) C.env = (do
      let ov ← eval o C.env
      standAt apos.atName
      let (f, first) ← holding [ov] (getMethod ov name pl)
      callWith pos f first (backTo pos (starEach es C.env)) (backToKw pos (keywordEach [] C.env))) := by rfl)
    (hn : (backTo pos (starEach es C.env)).any (·.1) = false := by rfl) : Ev C ρ g (.Call (.Attribute o name apos) es [] pos) r g₃ := fun O s I => by
  refine PySem.W.methodCall_KW (pl := pl) (wpAny_mono (ho O s I) (fun ov s₁ ⟨r1, st⟩ => ?_) fun _ _ x => x) he
  obtain rfl := Rep.of_obj r1
  case _ =>
    have I1 := I.step hC st
    refine hm C.A pl s₁ _ (I1.top hC) I1.world fun t => ?_
    have st1 := st.trans (step_tok hC I1.world t)
    have I1' := I.step hC st1
    obtain ⟨ob, fd, e1, e2⟩ := hf
    refine callWith_function (o := ob) (fd := fd) (evalArgs_any hn (wpAny_mono (h O _ pos I1') (fun us s₂ ⟨r2, st2⟩ => ?_) fun _ _ x => x))
    have I2 := I1'.step hC st2
    refine ⟨⟨e2 _ (I2.top hC), e1⟩, ?_⟩
    refine wpAny_mono (hc.wp C.A (avoid C O) s₂ (first ++ us) (Ok.room hC hd) (I2.top hC) (fun x e => (I2.new hC e).2.2.2) (fun a m => .inl (hC.mx a m)) I2.world ((hfirst _ _).append r2)) (fun z s₃ ⟨r3, k1, k2, k3⟩ => ?_) fun _ _ x => x
    exact ⟨r3, (st1.trans st2).trans ⟨k1, k2, k3⟩⟩
end
end Mine
end

section
namespace Mine
open PySem PySem.Calls PyProof.Rows

section
variable {C : Cx} {ρ ρ' ρ₁ : Env'} {g g' g₁ g₂ g₃ g₄ : C.G} {P P' : Fl → Env' → C.G → Prop}

theorem Step.world_write (hC : C.Ok) {s : Shared} {h' : Heap} {a : Addr} {t : Nat} (hM : C.M a) (hs : Heap.SameBut a s.heap h') (hw : C.W g' h') : Step C g' s { s with heap := h', toks := t } :=
  ⟨⟨rfl, rfl, rfl⟩, fun b o hb e => by rw [← e]; exact hs.2 b fun q => hb (q ▸ hM), hw⟩

theorem Post.step (hC : C.Ok) {O : List (Str × Addr)} {s s' : Shared} (I : Inv C ρ O g s) (st : Step C g' s s') (hP : P .next ρ g') : Post C O s P .next s' :=
  ⟨.next, ρ, O, g', hP, .next, I.step hC st, st.skeep hC⟩

theorem St1.expr (hC : C.Ok) {e : Expr} {pos : Pos} {p : PV} (h : Ev C ρ g e p g₁) (hP : P .next ρ g₁) (hi : interactive C.env = false) (hs : swapsWith e none pos.line C.env = pure false := by rfl) : St1 C ρ g (.Expr e pos) P := fun O s I =>
  wpAny_Expr_any (wpAny_mono (h O s I) (fun u s₁ ⟨_, st⟩ => Post.step hC I st hP) fun _ _ x => x) hi hs

/-- `x[i]` of a list of the world -/
theorem Ev.subW (hC : C.Ok) {o b : Expr} {a : Addr} {pos : Pos} {i : Int} {r : PV} (h1 : Ev C ρ g o (.obj a) g₁) (h2 : Ev C ρ g₁ b (.int i) g₂) (h0 : 0 ≤ i) (hf : i < 2 ^ 63)
    (hW : ∀ h X, C.T h → C.W g₂ h → ∃ vs u, h.IsList a vs ∧ vs[i.toNat]? = some u ∧ Rep X h u r)
    (hs : ∀ o i, subscripted b false o i = operate [o, i] (getItem o i) := by intro _ _; rfl) : Ev C ρ g (.Subscript o b pos) r g₂ := fun O s I => by
  refine Subscript_ (wpAny_mono (h1 O s I) (fun u s₁ ⟨r1, st1⟩ => ?_) fun _ _ x => x)
  have I1 := I.step hC st1
  obtain rfl := Rep.of_obj r1
  case _ =>
    refine wpAny_mono (h2 O s₁ I1) (fun v s₂ ⟨r2, st2⟩ => ?_) fun _ _ x => x
    have I2 := I1.step hC st2
    cases r2
    obtain ⟨vs, z, hl, hz, rz⟩ := hW s₂.heap (avoid C O) (I2.top hC) I2.world
    exact tail_any hl.typeIs slot_list_getitem.lookup (wpAny_getItem_list hl h0 hf hz ⟨rz, st1.trans st2⟩) (hs _ _)

/-- `x[i] = e` of a list of the world -/
theorem St1.setW (hC : C.Ok) {o b e : Expr} {a : Addr} {pos pos' : Pos} {i : Int} {p : PV} (h : Ev C ρ g e p g₁) (h1 : Ev C ρ g₁ o (.obj a) g₂) (h2 : Ev C ρ g₂ b (.int i) g₃) (h0 : 0 ≤ i) (hf : i < 2 ^ 63) (hM : C.M a)
    (hW : ∀ h X u, C.W g₃ h → Rep X h u p → ∃ vs, h.IsList a vs ∧ i < vs.size ∧ ∀ h', h'.IsList a (vs.setIfInBounds i.toNat u) → Heap.SameBut a h h' → C.W g₄ h') (hP : P .next ρ g₄)
    (hs : swapsWith e (some (.Subscript o b pos')) pos.line C.env = pure false := by rfl) : St1 C ρ g (.Assign [.Subscript o b pos'] e pos) P := fun O s I => by
  refine wpAny_Assign_Subscript (wpAny_mono (h O s I) (fun u s₀ ⟨r, st⟩ => ?_) fun _ _ x => x) hs
  have I0 := I.step hC st
  refine wpAny_mono (h1 O s₀ I0) (fun ov s₁ ⟨r1, st1⟩ => ?_) fun _ _ x => x
  have I1 := I0.step hC st1
  obtain rfl := Rep.of_obj r1
  case _ =>
    refine wpAny_mono (h2 O s₁ I1) (fun v s₂ ⟨r2, st2⟩ => ?_) fun _ _ x => x
    have I2 := I1.step hC st2
    cases r2
    obtain ⟨vs, hl, hlt, hw⟩ := hW s₂.heap (avoid C O) u I2.world ((r.step hC st1).step hC st2)
    refine wpAny_setItem_list hl h0 hf hlt fun h' hl' hs' => ?_
    exact Post.step hC I (((st.trans st1).trans st2).trans (Step.world_write hC hM hs' (hw h' hl' hs'))) hP

/-- `x[i] += e` of a list of the world -/
theorem St1.augW (hC : C.Ok) {o b e : Expr} {a : Addr} {pos tpos : Pos} {op : Operator} {i : Int} {p q r : PV} (h1 : Ev C ρ g o (.obj a) g₁) (h2 : Ev C ρ g₁ b (.int i) g₂) (h0 : 0 ≤ i) (hf : i < 2 ^ 63)
    (hR : ∀ h X, C.T h → C.W g₂ h → ∃ vs u, h.IsList a vs ∧ vs[i.toNat]? = some u ∧ Rep X h u p) (h : Ev C ρ g₂ e q g₃) (ho : Op2 C (inplaceOp op) p q r) (hM : C.M a)
    (hW : ∀ h X u, C.W g₃ h → Rep X h u r → ∃ vs, h.IsList a vs ∧ i < vs.size ∧ ∀ h', h'.IsList a (vs.setIfInBounds i.toNat u) → Heap.SameBut a h h' → C.W g₄ h') (hP : P .next ρ g₄)
    (hi : ∀ ov iv new, augStore b ov iv new = (do holding [new, ov, iv] (setItem ov iv new); release [new, ov, iv] []; pure .next) := by intros; rfl) : St1 C ρ g (.AugAssign (.Subscript o b tpos) op e pos) P := fun O s I => by
  refine wpAny_AugAssign_SubscriptAny (wpAny_mono (h1 O s I) (fun ov s₁ ⟨r1, st1⟩ => ?_) fun _ _ x => x) hi
  have I1 := I.step hC st1
  obtain rfl := Rep.of_obj r1
  case _ =>
    refine wpAny_mono (h2 O s₁ I1) (fun v s₂ ⟨r2, st2⟩ => ?_) fun _ _ x => x
    have I2 := I1.step hC st2
    cases r2
    obtain ⟨vs, z, hl, hz, rz⟩ := hR s₂.heap (avoid C O) (I2.top hC) I2.world
    refine wpAny_getItem_list hl h0 hf hz (wpAny_mono (h O s₂ I2) (fun u s₃ ⟨r3, st3⟩ => ?_) fun _ _ x => x)
    have I3 := I2.step hC st3
    refine wpAny_mono (ho (avoid C O) s₃ z u (fun x e => (I3.new hC e).2.2.2) (rz.step hC st3) r3) (fun y s₄ ⟨r4, k⟩ => ?_) fun _ _ x => x
    have st4 := Step.of_keeps hC I3.world k
    have I4 := I3.step hC st4
    obtain ⟨vs', hl', hlt, hw⟩ := hW s₄.heap (avoid C O) y I4.world r4
    refine wpAny_setItem_list hl' h0 hf hlt fun h' hl'' hs' => ?_
    exact Post.step hC I ((((st1.trans st2).trans st3).trans st4).trans (Step.world_write hC hM hs' (hw h' hl'' hs'))) hP

/-- `x.name += e` of an object of the world -/
theorem St1.augAttrW (hC : C.Ok) {o e : Expr} {a : Addr} {pos tpos : Pos} {name : Str} {op : Operator} {p q r : PV} (h1 : Ev C ρ g o (.obj a) g₁) (ha : GAttr C g₁ a name p) (h : Ev C ρ g₁ e q g₂) (ho : Op2 C (inplaceOp op) p q r)
    (hg : GSet C g₂ a name r g₃) (hP : P .next ρ g₃) : St1 C ρ g (.AugAssign (.Attribute o name tpos) op e pos) P := fun O s I => by
  refine wpAny_AugAssign_AttributeAny (wpAny_mono (h1 O s I) (fun ov s₁ ⟨r1, st1⟩ => ?_) fun _ _ x => x)
  have I1 := I.step hC st1
  obtain rfl := Rep.of_obj r1
  case _ =>
    refine ha (avoid C O) s₁ _ (I1.top hC) I1.world fun u t r => ?_
    have st2 := step_tok hC I1.world t
    have I2 := I1.step hC st2
    refine wpAny_mono (h O _ I2) (fun v s₃ ⟨r3, st3⟩ => ?_) fun _ _ x => x
    have I3 := I2.step hC st3
    refine wpAny_mono (ho (avoid C O) s₃ u v (fun x e => (I3.new hC e).2.2.2) ((r.step hC st2).step hC st3) r3) (fun y s₄ ⟨r4, k⟩ => ?_) fun _ _ x => x
    have st4 := Step.of_keeps hC I3.world k
    have I4 := I3.step hC st4
    refine wpAny_mono (hg (avoid C O) s₄ y (I4.top hC) I4.world r4) (fun _ s₅ st5 => ?_) fun _ _ x => x
    exact Post.step hC I ((((st1.trans st2).trans st3).trans st4).trans st5) hP

/-- whether a list of the world holds something -/
theorem EvB.listW (hC : C.Ok) {e : Expr} {a : Addr} {b : Bool} (h : Ev C ρ g e (.obj a) g₁) (hW : ∀ h, C.W g₁ h → ∃ vs, h.IsList a vs ∧ (vs.size : Int) < 2 ^ 63 ∧ (!vs.isEmpty) = b)
    (he : isTrue e C.env (eval e C.env) = (do let v ← eval e C.env; standAt e.pos; holding [v] (truthy v)) := by rfl) : EvB C ρ g e b g₁ := fun O s I =>
  wpAny_isTrue_value (wpAny_mono (h O s I) (fun u s₁ ⟨r, st⟩ => by
    obtain rfl := Rep.of_obj r
    case _ =>
      have I1 := I.step hC st
      obtain ⟨vs, hl, hn, hb⟩ := hW _ I1.world
      exact wpAny_truthy_list hl hn ⟨hb, st.trans (step_tok hC I1.world _)⟩) fun _ _ x => x) he

/-- `x.append(e)` of a list of the world -/
theorem Ev.appendW (hC : C.Ok) {o e : Expr} {a : Addr} {apos pos : Pos} {p : PV} {pl : Sem Bool} (ho : Ev C ρ g o (.obj a) g₁) (h : Ev C ρ g₁ e p g₂) (hM : C.M a) (hL : ∀ h, C.W g₁ h → ∃ vs, h.PlainList a vs)
    (hW : ∀ h X u, C.W g₂ h → Rep X h u p → ∃ vs, h.PlainList a vs ∧ vs.size ≤ sizeLine ∧ ∀ h', h'.PlainList a (vs.push u) → Heap.SameBut a h h' → C.W g₃ h')
    (he : eval (.Call (.Attribute o "append" apos) [e] [] pos) C.env = (do
      let ov ← eval o C.env
      standAt apos.atName
      let (f, first) ← holding [ov] (getMethod ov "append" pl)
      callWith pos f first (backTo pos (starEach [e] C.env)) (backToKw pos (keywordEach [] C.env))) := by rfl)
    (htrees : backTo pos (starEach [e] C.env) = [(false, eval e C.env)] := by rfl) : Ev C ρ g (.Call (.Attribute o "append" apos) [e] [] pos) .none g₃ := fun O s I => by
  refine PySem.W.methodCall_KW (pl := pl) (wpAny_mono (ho O s I) (fun ov s₁ ⟨r1, st1⟩ => ?_) fun _ _ x => x) he
  have I1 := I.step hC st1
  obtain rfl := Rep.of_obj r1
  case _ =>
    obtain ⟨vs, n, hl⟩ := hL _ I1.world
    refine getMethod_builtin (T := "list") ⟨_, hl, rfl⟩ PySem.F.plainAttrs_list PySem.F.slot_list_append PySem.F.type_list_append (fun b q => by cases q; exact ⟨_, hl, rfl⟩) ?_
    rw [htrees]
    refine callWith_builtin rfl (evalArgs_any rfl (spliced_cons (wpAny_mono (h O s₁ I1) (fun u s₂ ⟨r, st⟩ => spliced_nil ?_) fun _ _ x => x)))
    have I2 := I1.step hC st
    obtain ⟨vs', hl', hn, hw⟩ := hW s₂.heap (avoid C O) u I2.world r
    exact wpAny_list_append_plain hl' (fun h' hl'' hs' => ⟨.none, (st1.trans st).trans (Step.world_write hC hM hs' (hw h' hl'' hs'))⟩) hn

/-- `x.pop(0)` of a list of the world -/
theorem Ev.popW (hC : C.Ok) {o e : Expr} {a : Addr} {apos pos : Pos} {p : PV} {pl : Sem Bool} (ho : Ev C ρ g o (.obj a) g₁) (h : Ev C ρ g₁ e (.int 0) g₁) (hM : C.M a)
    (hW : ∀ h X, C.W g₁ h → ∃ v vs, h.PlainList a (v :: vs).toArray ∧ vs.length < sizeLine ∧ Rep X h v p ∧ (∀ h', Rep X h' v p) ∧ ∀ h', h'.PlainList a vs.toArray → Heap.SameBut a h h' → C.W g₂ h')
    (he : eval (.Call (.Attribute o "pop" apos) [e] [] pos) C.env = (do
      let ov ← eval o C.env
      standAt apos.atName
      let (f, first) ← holding [ov] (getMethod ov "pop" pl)
      callWith pos f first (backTo pos (starEach [e] C.env)) (backToKw pos (keywordEach [] C.env))) := by rfl)
    (htrees : backTo pos (starEach [e] C.env) = [(false, eval e C.env)] := by rfl) : Ev C ρ g (.Call (.Attribute o "pop" apos) [e] [] pos) p g₂ := fun O s I => by
  refine PySem.W.methodCall_KW (pl := pl) (wpAny_mono (ho O s I) (fun ov s₁ ⟨r1, st1⟩ => ?_) fun _ _ x => x) he
  have I1 := I.step hC st1
  obtain rfl := Rep.of_obj r1
  case _ =>
    obtain ⟨v, vs, ⟨n, hl⟩, _⟩ := hW _ (avoid C O) I1.world
    refine getMethod_builtin (T := "list") ⟨_, hl, rfl⟩ PySem.F.plainAttrs_list PySem.F.slot_list_pop PySem.F.type_list_pop (fun b q => by cases q; exact ⟨_, hl, rfl⟩) ?_
    rw [htrees]
    refine callWith_builtin rfl (evalArgs_any rfl (spliced_cons (wpAny_mono (h O s₁ I1) (fun u s₂ ⟨r, st⟩ => spliced_nil ?_) fun _ _ x => x)))
    cases r
    have I2 := I1.step hC st
    obtain ⟨v, vs, ⟨n, hl⟩, hn, rv, rv', hw⟩ := hW s₂.heap (avoid C O) I2.world
    refine call_meets PySem.F.slot_list_pop ⟨_, hl, rfl⟩ PySem.F.entry_list_pop (PySem.F.args_list_pop_2 _ _) (PySem.MeetsSeq.list_pop_at a _ n 0 _ 0 v (by rfl) (by simp [seqIndex?]) (by simp) (by rw [List.size_toArray, List.length_cons]; omega)) ⟨hl, ?_⟩
    have hs' : Heap.SameBut a s₂.heap (s₂.heap.update a (Obj.mapSeq fun xs => xs.eraseIdxIfInBounds 0)) := Heap.SameBut.update ..
    have q := PySem.IsL.update hl (fun xs => xs.eraseIdxIfInBounds 0)
    have e0 : ((v :: vs).toArray).eraseIdxIfInBounds 0 = vs.toArray := PySem.W.kl_erase [] vs v
    exact ⟨rv' _, (st1.trans st).trans (Step.world_write hC hM hs' (hw _ ⟨_, by rw [e0] at q; exact q⟩ hs'))⟩
end
end Mine
end

section
namespace Mine
open PySem PySem.Calls PyProof.Rows

/-- the same frame, from here on with more objects in its world -/
noncomputable def Cx.turn (C : Cx) (s₁ : Shared) (K N : Addr → Prop) (G' : Type) (W' : G' → Heap → Prop) (T' : Heap → Prop) : Cx :=
  { C with s₀ := s₁, F := fun a => C.F a ∧ ¬ K a, X := fun a => C.X a ∨ N a, M := fun a => C.M a ∨ N a, G := G', W := W', T := T' }

structure NewW (C : Cx) (s s₁ : Shared) (K N : Addr → Prop) (G' : Type) (W' : G' → Heap → Prop) (T' : Heap → Prop) (g' : G') : Prop where
  rest : s₁.gens = s.gens ∧ s₁.drawn = s.drawn ∧ s₁.os = s.os
  keep : ∀ a o, ¬ C.M a → s.heap.get? a = some o → s₁.heap.get? a = some o
  kn : ∀ a, N a → K a
  fresh : ∀ a, K a → s.heap.get? a = none
  there : ∀ a, K a → ∃ o, s₁.heap.get? a = some o
  top : ∀ h, (∀ a o, ¬ (C.F a ∧ ¬ K a) → ¬ (C.M a ∨ N a) → s₁.heap.get? a = some o → h.get? a = some o) → T' h
  world : W' g' s₁.heap
  ok : Wd.Ok ⟨fun a => C.M a ∨ N a, G', W'⟩

section
variable {C : Cx} {ρ ρ' ρ₁ : Env'} {O O' : List (Str × Addr)} {g g₁ g₂ : C.G} {P P' : Fl → Env' → C.G → Prop} {s s₁ s' : Shared} {K N : Addr → Prop} {G' : Type} {W' : G' → Heap → Prop} {T' : Heap → Prop} {g' g'' : G'}

theorem NewW.was (I : Inv C ρ O g s) (n : NewW C s s₁ K N G' W' T' g') {a : Addr} (h : ∃ o, s.heap.get? a = some o) : ¬ K a := fun k => by
  obtain ⟨o, e⟩ := h; rw [n.fresh a k] at e; cases e
theorem NewW.pres (n : NewW C s s₁ K N G' W' T' g') {a : Addr} (h : ∃ o, s.heap.get? a = some o) : ∃ o, s₁.heap.get? a = some o := by
  by_cases m : C.M a
  · exact n.ok.wm g' _ a n.world (.inl m)
  · obtain ⟨o, e⟩ := h; exact ⟨o, n.keep a o m e⟩
theorem NewW.loc (I : Inv C ρ O g s) : ∃ o, s.heap.get? C.env.locals = some o := by
  obtain ⟨m, ⟨o, _, _, e, _⟩, _⟩ := I.loc; exact ⟨o, e⟩
theorem NewW.cell (I : Inv C ρ O g s) {x : Str} {c : Addr} (h : C.env.cells.lookup x = some c) : ∃ o, s.heap.get? c = some o := by
  obtain ⟨v, o, e, _⟩ := I.cells x c h; exact ⟨o, e⟩

theorem turn_ok (hC : C.Ok) (I : Inv C ρ O g s) (n : NewW C s s₁ K N G' W' T' g') : (C.turn s₁ K N G' W' T').Ok where
  kind := hC.kind
  handled := hC.handled
  depth := hC.depth
  units := hC.units
  top := n.top
  locF := ⟨hC.locF, n.was I (NewW.loc (C := C) I)⟩
  locM := fun h => h.elim hC.locM fun h => n.was I (NewW.loc (C := C) I) (n.kn _ h)
  cellM := fun x c hc h => h.elim (hC.cellM x c hc) fun h => n.was I (NewW.cell (C := C) I hc) (n.kn _ h)
  cellF := fun x c hk hz hc => ⟨hC.cellF x c hk hz hc, n.was I (NewW.cell (C := C) I hc)⟩
  inj := hC.inj
  fresh := fun a e => by
    have e0 : s.heap.get? a = none := by
      cases q : s.heap.get? a with
      | none => rfl
      | some o =>
        obtain ⟨o', e'⟩ := n.pres ⟨o, q⟩
        have e1 : s₁.heap.get? a = none := e
        rw [e1] at e'; cases e'
    refine ⟨(I.new hC e0).1, fun k => ?_⟩
    obtain ⟨o, e'⟩ := n.there a k
    have e1 : s₁.heap.get? a = none := e
    rw [e1] at e'; cases e'
  mx := fun a h => h.imp (hC.mx a) id
  xf := fun a h hf => h.elim (fun h => hC.xf a h hf.1) fun h => hf.2 (n.kn a h)
  xs := fun a h => by
    rcases h with h | h
    · by_cases m : C.M a
      · exact n.ok.wm g' _ a n.world (.inl m)
      · obtain ⟨o, e⟩ := hC.xs a h
        exact ⟨o, n.keep a o m (I.old a o (hC.xf a h) m e)⟩
    · exact n.there a (n.kn a h)
  wm := n.ok.wm
  stab := n.ok.stab
  nodup := hC.nodup
  kinds := hC.kinds
  notDebug := hC.notDebug

theorem turn_inv (hC : C.Ok) (I : Inv C ρ O g s) (n : NewW C s s₁ K N G' W' T' g') : Inv (C.turn s₁ K N G' W' T') ρ O g' s₁ := by
  obtain ⟨m, hn, hl⟩ := I.loc
  have av : ∀ a o, ¬ avoid C O a → Obj.isSeq o → s.heap.get? a = some o → ¬ avoid (C.turn s₁ K N G' W' T') O a := fun a o h _ e => by
    rintro ((q | q) | q)
    · exact h (.inl q)
    · exact n.was I ⟨o, e⟩ (n.kn a q)
    · exact h (.inr q)
  have kp : ∀ a o, ¬ avoid C O a → Obj.isSeq o → s.heap.get? a = some o → s₁.heap.get? a = some o := fun a o h _ e => n.keep a o (avoid_not_M hC h) e
  have sl : ∀ x u, Slot C m s.heap x u → Slot (C.turn s₁ K N G' W' T') m s₁.heap x u := fun x u q => by
    rcases q with q | ⟨q1, c, q2, q3⟩
    · exact .inl q
    · exact .inr ⟨q1, c, q2, IsCell_of q3 fun o e => n.keep c o (hC.cellM x c q2) e⟩
  refine ⟨⟨rfl, rfl, rfl⟩, fun a o _ _ e => e, n.world, I.names, ⟨m, Ns_of hn fun o e => n.keep _ o hC.locM e, fun x v hx => ?_⟩, fun x c hc => ?_, fun x a ha => ?_, I.uniq⟩
  · have q := hl x v hx
    cases v with
    | undef => exact q
    | val p => obtain ⟨q0, u, q1, q2⟩ := q; exact ⟨q0, u, sl x u q1, q2.mono av kp⟩
    | ro p => obtain ⟨u, q1, q2⟩ := q; exact ⟨u, sl x u q1, q2.mono av kp⟩
    | own xs =>
      obtain ⟨q0, a, vs, q1, q2, ⟨k, q3⟩, q4⟩ := q
      exact ⟨q0, a, vs, sl x _ q1, q2, ⟨k, n.keep a _ (I.own x a q2).2.1 q3⟩, q4.mono av kp⟩
  · obtain ⟨v, hv⟩ := I.cells x c hc
    exact ⟨v, IsCell_of hv fun o e => n.keep c o (hC.cellM x c hc) e⟩
  · obtain ⟨f, hm, vs, k, e⟩ := I.own x a ha
    exact ⟨⟨f, n.was I ⟨_, e⟩⟩, fun q => q.elim hm fun q => n.was I ⟨_, e⟩ (n.kn a q), vs, k, n.keep a _ hm e⟩

theorem turn_back (hC : C.Ok) (I : Inv C ρ O g s) (n : NewW C s s₁ K N G' W' T' g') {π : G' → C.G} (hπ : ∀ g h, W' g h → C.W (π g) h) (I' : Inv (C.turn s₁ K N G' W' T') ρ' O' g'' s') : Inv C ρ' O' (π g'') s' := by
  obtain ⟨m, hn, hl⟩ := I'.loc
  have av : ∀ a o, ¬ avoid (C.turn s₁ K N G' W' T') O' a → Obj.isSeq o → s'.heap.get? a = some o → ¬ avoid C O' a := fun a o h _ e => by
    rintro (q | q)
    · exact h (.inl (.inl q))
    · exact h (.inr q)
  have r1 := n.rest; have r2 := I.rest; have r3 : s'.gens = s₁.gens ∧ s'.drawn = s₁.drawn ∧ s'.os = s₁.os := I'.rest
  refine ⟨⟨(r3.1.trans r1.1).trans r2.1, (r3.2.1.trans r1.2.1).trans r2.2.1, (r3.2.2.trans r1.2.2).trans r2.2.2⟩, fun a o hf hm e => ?_, hπ _ _ I'.world, I'.names, ⟨m, hn, fun x v hx => ?_⟩, I'.cells, fun x a ha => ?_, I'.uniq⟩
  · have e1 := I.old a o hf hm e
    exact I'.old a o (fun q => hf q.1) (fun q => q.elim hm fun q => n.was I ⟨o, e1⟩ (n.kn a q)) (n.keep a o hm e1)
  · have q := hl x v hx
    cases v with
    | undef => exact q
    | val p => obtain ⟨q0, u, q1, q2⟩ := q; exact ⟨q0, u, q1, q2.mono av fun _ _ _ _ e => e⟩
    | ro p => obtain ⟨u, q1, q2⟩ := q; exact ⟨u, q1, q2.mono av fun _ _ _ _ e => e⟩
    | own xs => obtain ⟨q0, a, vs, q1, q2, q3, q4⟩ := q; exact ⟨q0, a, vs, q1, q2, q3, q4.mono av fun _ _ _ _ e => e⟩
  · obtain ⟨f, hm, r⟩ := I'.own x a ha
    exact ⟨f.1, fun q => hm (.inl q), r⟩

theorem turn_keep (hC : C.Ok) (I : Inv C ρ O g s) (n : NewW C s s₁ K N G' W' T' g') (k : SKeep (C.turn s₁ K N G' W' T') O O' s₁ s') : SKeep C O O' s s' := by
  refine ⟨fun a o h1 h2 h3 h4 e => k.keep a o h1 h2 h3 (fun q => q.elim h4 fun q => n.was I ⟨o, e⟩ (n.kn a q)) (n.keep a o h4 e), fun x a h => ?_, fun a o e => ?_⟩
  · rcases k.grow x a h with h | h
    · exact .inl h
    · refine .inr ?_
      cases q : s.heap.get? a with
      | none => rfl
      | some o => obtain ⟨o', e'⟩ := n.pres ⟨o, q⟩; rw [h] at e'; cases e'
  · obtain ⟨o', e'⟩ := n.pres ⟨o, e⟩
    exact k.pres a o' e'

theorem new_rest (hC : C.Ok) (I : Inv C ρ O g s) (n : NewW C s s₁ K N G' W' T' g') {π : G' → C.G} (hπ : ∀ g h, W' g h → C.W (π g) h) {x : Str} {a : Addr} {rest : List Stmt} (hp : Put ρ x (.val (.obj a)) ρ')
    (hr : (C.turn s₁ K N G' W' T').Ok → St (C.turn s₁ K N G' W' T') ρ' g' rest (fun fl ρ'' g'' => P fl ρ'' (π g''))) :
    wpAny C.mod C.A (storeName C.env x (.ref a)) (fun _ s₂ => wpAny C.mod C.A (execs rest C.env) (Post C O s P) NoE s₂) NoE s₁ := by
  have hC' := turn_ok hC I n
  refine store_val (C := C.turn s₁ K N G' W' T') hC' (turn_inv hC I n) (.obj a) hp fun s₂ I2 k _ => ?_
  refine wpAny_mono (hr hC' O s₂ I2) (fun f s₃ ⟨fl, ρ'', O'', g'', hP, hfl, I3, k3⟩ => ?_) fun _ _ x => x
  have hfl' : FlIs (avoid C O'') s₃.heap f fl := by
    cases hfl with
    | next => exact .next
    | brk => exact .brk
    | cont => exact .cont
    | ret r => exact .ret (r.mono (fun a o h _ e => by
        rintro (q | q)
        · exact h (.inl (.inl q))
        · exact h (.inr q)) fun _ _ _ _ e => e)
  exact ⟨fl, ρ'', O'', π g'', hP, hfl', turn_back hC I n hπ I3, turn_keep hC I n (k.trans k3)⟩

/-- a new object, which is of the frame's world from here on -/
inductive NewTurn (C : Cx) (ρ : Env') (s : Shared) (x : Str) (rest : List Stmt) (P : Fl → Env' → C.G → Prop) (u : Value) (s₁ : Shared) : Prop
  | mk (a : Addr) (K N : Addr → Prop) (G' : Type) (W' : G' → Heap → Prop) (T' : Heap → Prop) (g' : G') (π : G' → C.G) (ρ' : Env') (e : u = .ref a) (n : NewW C s s₁ K N G' W' T' g')
      (hπ : ∀ g h, W' g h → C.W (π g) h) (hp : Put ρ x (.val (.obj a)) ρ') (hr : (C.turn s₁ K N G' W' T').Ok → St (C.turn s₁ K N G' W' T') ρ' g' rest (fun fl ρ'' g'' => P fl ρ'' (π g''))) : NewTurn C ρ s x rest P u s₁
/-- a name takes a new object, which is of the frame's world from here on -/
theorem St.new (hC : C.Ok) {x : Str} {xp pos : Pos} {e : Expr} {rest : List Stmt}
    (h : ∀ O s, Inv C ρ O g s → wpAny C.mod C.A (eval e C.env) (NewTurn C ρ s x rest P) NoE s)
    (hs : swapsWith e (some (.Name x xp)) pos.line C.env = pure false := by rfl) : St C ρ g (.Assign [.Name x xp] e pos :: rest) P := fun O s I =>
  wpAny_execs_cons (wpAny_Assign_Name (wpAny_mono (h O s I) (fun u s₁ ⟨a, K, N, G', W', T', g', π, ρ', e, n, hπ, hp, hr⟩ => by subst e; exact new_rest hC I n hπ hp hr) fun _ _ x => x) hs)
end
end Mine
end

section
namespace Mine
open PySem PySem.Calls PyProof.Rows

/-- the same frame, from here on with some cells that no one stores into -/
noncomputable def Cx.fix (C : Cx) (s₁ : Shared) (Z' : Str → Prop) (T' : Heap → Prop) : Cx :=
  { C with s₀ := s₁, Z := fun x => C.Z x ∨ Z' x, F := fun a => C.F a ∧ ¬ ∃ x, Z' x ∧ C.env.cells.lookup x = some a, T := T' }

/-- the values of the names that are held fast -/
inductive Fix (Z' : Str → Prop) : Env' → Env' → Prop where
  | nil : Fix Z' [] []
  | keep {x : Str} {v : LV} {r r' : Env'} (h : ¬ Z' x) : Fix Z' r r' → Fix Z' ((x, v) :: r) ((x, v) :: r')
  | fix {x : Str} {p : PV} {r r' : Env'} : Fix Z' r r' → Fix Z' ((x, .val p) :: r) ((x, .ro p) :: r')
theorem Fix.names {Z' : Str → Prop} {ρ ρ' : Env'} (h : Fix Z' ρ ρ') : ρ'.map (·.1) = ρ.map (·.1) := by
  induction h with
  | nil => rfl
  | keep _ _ ih => rw [List.map_cons, List.map_cons, ih]
  | fix _ ih => rw [List.map_cons, List.map_cons, ih]
theorem Fix.mem {Z' : Str → Prop} {ρ ρ' : Env'} (h : Fix Z' ρ ρ') : ∀ x v, (x, v) ∈ ρ' → (¬ Z' x ∧ (x, v) ∈ ρ) ∨ (∃ p, v = .ro p ∧ (x, LV.val p) ∈ ρ) := by
  induction h with
  | nil => intro x v h; cases h
  | keep hz _ ih =>
    intro x v h
    rcases List.mem_cons.mp h with e | h
    · cases e; exact .inl ⟨hz, List.mem_cons_self⟩
    · exact (ih x v h).imp (fun q => ⟨q.1, List.mem_cons_of_mem _ q.2⟩) fun ⟨p, a, b⟩ => ⟨p, a, List.mem_cons_of_mem _ b⟩
  | fix _ ih =>
    intro x v h
    rcases List.mem_cons.mp h with e | h
    · cases e; exact .inr ⟨_, rfl, List.mem_cons_self⟩
    · exact (ih x v h).imp (fun q => ⟨q.1, List.mem_cons_of_mem _ q.2⟩) fun ⟨p, a, b⟩ => ⟨p, a, List.mem_cons_of_mem _ b⟩

section
variable {C : Cx} {ρ ρ' ρ₁ ρ'' : Env'} {O O' : List (Str × Addr)} {g g₁ g₂ g'' : C.G} {P P' : Fl → Env' → C.G → Prop} {s s₁ s' : Shared} {Z' : Str → Prop} {T' : Heap → Prop}

theorem fix_ok (hC : C.Ok) (I : Inv C ρ O g s) (ht : ∀ h, (∀ a o, ¬ (C.F a ∧ ¬ ∃ x, Z' x ∧ C.env.cells.lookup x = some a) → ¬ C.M a → s.heap.get? a = some o → h.get? a = some o) → T' h)
    (hl : ¬ ∃ x, Z' x ∧ C.env.cells.lookup x = some C.env.locals) : (C.fix s Z' T').Ok where
  kind := hC.kind
  handled := hC.handled
  depth := hC.depth
  units := hC.units
  top := ht
  locF := ⟨hC.locF, hl⟩
  locM := hC.locM
  cellM := hC.cellM
  cellF := fun x c hk hz hc => ⟨hC.cellF x c hk (fun q => hz (.inl q)) hc, fun ⟨y, hy, e⟩ => hz (.inr (hC.inj y x c e hc ▸ hy))⟩
  inj := hC.inj
  fresh := fun a e => by
    refine ⟨(I.new hC e).1, fun ⟨x, _, hx⟩ => ?_⟩
    obtain ⟨v, o, e', _⟩ := I.cells x a hx
    have e1 : s.heap.get? a = none := e
    rw [e1] at e'; cases e'
  mx := hC.mx
  xf := fun a h hf => hC.xf a h hf.1
  xs := fun a h => by
    by_cases m : C.M a
    · exact hC.wm g _ a I.world m
    · obtain ⟨o, e⟩ := hC.xs a h
      exact ⟨o, I.old a o (hC.xf a h) m e⟩
  wm := hC.wm
  stab := hC.stab
  nodup := hC.nodup
  kinds := hC.kinds
  notDebug := hC.notDebug

theorem fix_inv (hC : C.Ok) (I : Inv C ρ O g s) (hx : Fix Z' ρ ρ') : Inv (C.fix s Z' T') ρ' O g s := by
  obtain ⟨m, hn, hl⟩ := I.loc
  refine ⟨⟨rfl, rfl, rfl⟩, fun a o _ _ e => e, I.world, hx.names.trans I.names, ⟨m, hn, fun x v hv => ?_⟩, I.cells, fun x a ha => ?_, I.uniq⟩
  · rcases hx.mem x v hv with ⟨hz, h⟩ | ⟨p, rfl, h⟩
    · have q := hl x v h
      have rw' : Rw C x → Rw (C.fix s Z' T') x := fun q => ⟨q.1, fun z => z.elim q.2 hz⟩
      cases v with
      | undef => exact rw' q
      | val p => exact ⟨rw' q.1, q.2⟩
      | ro p => exact q
      | own xs => exact ⟨rw' q.1, q.2⟩
    · exact (hl x _ h).2
  · obtain ⟨f, hm, vs, hp⟩ := I.own x a ha
    refine ⟨⟨f, fun ⟨y, _, hy⟩ => ?_⟩, hm, vs, hp⟩
    obtain ⟨v, hv⟩ := I.cells y a hy
    obtain ⟨o, q, e⟩ := plain_isSeq hp
    exact seq_ne_cell q e hv rfl

theorem fix_back (hC : C.Ok) (I : Inv C ρ O g s) (I' : Inv (C.fix s Z' T') ρ'' O' g'' s') : Inv C ρ'' O' g'' s' := by
  obtain ⟨m, hn, hl⟩ := I'.loc
  have r2 := I.rest; have r3 : s'.gens = s.gens ∧ s'.drawn = s.drawn ∧ s'.os = s.os := I'.rest
  refine ⟨⟨r3.1.trans r2.1, r3.2.1.trans r2.2.1, r3.2.2.trans r2.2.2⟩, fun a o hf hm e => I'.old a o (fun q => hf q.1) hm (I.old a o hf hm e), I'.world, I'.names, ⟨m, hn, fun x v hx => ?_⟩, I'.cells, fun x a ha => ?_, I'.uniq⟩
  · have q := hl x v hx
    have rw' : Rw (C.fix s Z' T') x → Rw C x := fun q => ⟨q.1, fun z => q.2 (.inl z)⟩
    cases v with
    | undef => exact rw' q
    | val p => exact ⟨rw' q.1, q.2⟩
    | ro p => exact q
    | own xs => exact ⟨rw' q.1, q.2⟩
  · obtain ⟨f, r⟩ := I'.own x a ha
    exact ⟨f.1, r⟩

theorem fix_keep (k : SKeep (C.fix s Z' T') O O' s s') : SKeep C O O' s s' := ⟨fun a o h1 h2 h3 h4 e => k.keep a o h1 h2 h3 h4 e, k.grow, k.pres⟩

/-- some names are held fast from here on -/
theorem St.fix (hC : C.Ok) (Z' : Str → Prop) {rest : List Stmt} (hx : Fix Z' ρ ρ')
    (h : ∀ O s, Inv C ρ O g s → ∃ T', (∀ h, (∀ a o, ¬ (C.F a ∧ ¬ ∃ x, Z' x ∧ C.env.cells.lookup x = some a) → ¬ C.M a → s.heap.get? a = some o → h.get? a = some o) → T' h) ∧
      ((C.fix s Z' T').Ok → St (C.fix s Z' T') ρ' g rest P)) : St C ρ g rest P := fun O s I => by
  obtain ⟨T', ht, hr⟩ := h O s I
  have hloc : ¬ ∃ x, Z' x ∧ C.env.cells.lookup x = some C.env.locals := fun ⟨x, _, hx⟩ => by
    obtain ⟨v, hv⟩ := I.cells x _ hx
    obtain ⟨m, hn, _⟩ := I.loc
    exact cell_ne_dict hv hn rfl
  have hC' := fix_ok hC I ht hloc
  refine wpAny_mono (hr hC' O s (fix_inv hC I hx)) (fun f s₃ ⟨fl, ρ'', O'', g'', hP, hfl, I3, k3⟩ => ⟨fl, ρ'', O'', g'', hP, ?_, fix_back hC I I3, fix_keep k3⟩) fun _ _ x => x
  cases hfl with
  | next => exact .next
  | brk => exact .brk
  | cont => exact .cont
  | ret r => exact .ret r

/-- things made, which are of the frame's world from here on -/
inductive StTurn (C : Cx) (ρ : Env') (s : Shared) (rest : List Stmt) (P : Fl → Env' → C.G → Prop) (f : Flow) (s₁ : Shared) : Prop
  | mk (e : f = .next) (K N : Addr → Prop) (G' : Type) (W' : G' → Heap → Prop) (T' : Heap → Prop) (g' : G') (π : G' → C.G) (n : NewW C s s₁ K N G' W' T' g')
      (hπ : ∀ g h, W' g h → C.W (π g) h) (hr : (C.turn s₁ K N G' W' T').Ok → St (C.turn s₁ K N G' W' T') ρ g' rest (fun fl ρ'' g'' => P fl ρ'' (π g''))) : StTurn C ρ s rest P f s₁
/-- a statement that makes things which are of the frame's world from here on -/
theorem St.turn (hC : C.Ok) {st : Stmt} {rest : List Stmt}
    (h : ∀ O s, Inv C ρ O g s → wpAny C.mod C.A (exec st C.env) (StTurn C ρ s rest P) NoE s) : St C ρ g (st :: rest) P := fun O s I => by
  refine wpAny_execs_cons (wpAny_mono (h O s I) (fun f s₁ ⟨e, K, N, G', W', T', g', π, n, hπ, hr⟩ => ?_) fun _ _ x => x)
  subst e
  have hC' := turn_ok hC I n
  refine wpAny_mono (hr hC' O s₁ (turn_inv hC I n)) (fun f s₃ ⟨fl, ρ'', O'', g'', hP, hfl, I3, k3⟩ => ⟨fl, ρ'', O'', π g'', hP, ?_, turn_back hC I n hπ I3, turn_keep hC I n k3⟩) fun _ _ x => x
  cases hfl with
  | next => exact .next
  | brk => exact .brk
  | cont => exact .cont
  | ret r => exact .ret (r.mono (fun a o h _ e => by
      rintro (q | q)
      · exact h (.inl (.inl q))
      · exact h (.inr q)) fun _ _ _ _ e => e)

/-- the top still stands behind a turn -/
theorem turn_top (hC : C.Ok) (I : Inv C ρ O g s) {K N : Addr → Prop} (keep : ∀ a o, ¬ C.M a → s.heap.get? a = some o → s₁.heap.get? a = some o) (fresh : ∀ a, K a → s.heap.get? a = none) (kn : ∀ a, N a → K a) {h : Heap}
    (k : ∀ a o, ¬ (C.F a ∧ ¬ K a) → ¬ (C.M a ∨ N a) → s₁.heap.get? a = some o → h.get? a = some o) : C.T h :=
  hC.top h fun a o q1 q2 q3 => by
    have q4 := I.old a o q1 q2 q3
    exact k a o (fun z => q1 z.1) (fun z => z.elim q2 fun z => by have := fresh a (kn a z); rw [this] at q4; cases q4) (keep a o q2 q4)
end
end Mine
end

section
namespace Mine
open PySem PySem.Calls PyProof.Rows PySem.W

noncomputable abbrev itOn (bm : Addr) (t : Tok) : Obj := { cls := .type "callable_iterator", data := .fields #[.ref bm, .str ⟨#[]⟩ t, .bool false] }
noncomputable abbrev itOff : Obj := { cls := .type "callable_iterator", data := .fields #[.none, .none, .bool true] }
noncomputable def itObj (bm : Addr) (t : Tok) (b : Bool) : Obj := if b then itOff else itOn bm t

theorem slot_ci_next : PySem.Slot "callable_iterator" "__next__" "callable_iterator.__next__" :=
  .of (owner := "callable_iterator") (n := "__next__") (by rw [typeLookup_type, builtinLookup_eq_fast]; kernel_rfl) (by decide +kernel) (by decide +kernel) (by decide +kernel)
    (by first | exact .inl (by decide +kernel) | exact .inr (by decide +kernel)) (by rw [isSubtype_type]; kernel_rfl)
theorem slot_ci_iter : PySem.Slot "callable_iterator" "__iter__" "callable_iterator.__iter__" :=
  .of (owner := "callable_iterator") (n := "__iter__") (by rw [typeLookup_type, builtinLookup_eq_fast]; kernel_rfl) (by decide +kernel) (by decide +kernel) (by decide +kernel)
    (by first | exact .inl (by decide +kernel) | exact .inr (by decide +kernel)) (by rw [isSubtype_type]; kernel_rfl)
theorem entry_ci_next : entryFor table "callable_iterator.__next__" = some Builtin.«callable_iterator.__next__» := entryFor_of_tree (by kernel_rfl)
theorem entry_ci_iter : entryFor table "callable_iterator.__iter__" = some Builtin.«dict_keyiterator.__iter__» :=
  entryFor_alias (id' := "dict_keyiterator.__iter__") (by kernel_rfl) rfl (by decide +kernel) (by kernel_rfl)
theorem args_ci_next (a : Value) : argsOk "callable_iterator.__next__" ⟨[a], []⟩ := by unfold argsOk; kernel_rfl
theorem args_ci_iter (a : Value) : argsOk "callable_iterator.__iter__" ⟨[a], []⟩ := by unfold argsOk; kernel_rfl

section
variable {prog : Program} {w : World} {A : Around} {E : Value → Shared → Prop} {s : Shared}

theorem wpAny_callBorrowed {M : Model} {f : Value} {pos : List Value} {Q : Value → Shared → Prop}
    (hc : codeAny M A (.call f ⟨pos, []⟩) (fun r s' => match r with | .ok (.ret v) => Q v s' | .ok _ => False | .error e => E e s') s) :
    wpAny M A (callBorrowed f pos) Q E s := fun Γ p hΓ => by
  unfold callBorrowed
  rw [Sem.wp_call]
  refine wpCode_mono ?_ (hc _ p rfl (hΓ.enter _ none p (by intro x; cases x)))
  intro r s' h
  match r, h with
  | .ok (.ret v), h => exact h
  | .error e, h => exact h

theorem pyIter_ci {it bm : Addr} {t : Tok} {b : Bool} {Q : Value → Shared → Prop} (ho : s.heap.get? it = some (itObj bm t b)) (h : Q (.ref it) s) : wpAny (model prog w) A (pyIter (.ref it)) Q E s := by
  have hT : s.TypeIs (.ref it) "callable_iterator" := ⟨_, ho, by cases b <;> rfl⟩
  refine wpAny_pyIter_slot hT slot_ci_iter (wpAny_call_entry slot_ci_iter hT entry_ci_iter ?_ (args_ci_iter _))
  show wpAny _ _ (ret (.ref it)) _ _ s
  exact wpAny_pure ⟨_, rfl, "callable_iterator", _, hT, slot_ci_next.lookup, h⟩

theorem borrows_meth {M : Model} {bm f : Addr} {self : Value} {fo : Obj} {fd : FuncData} {Q : Bool → Shared → Prop} (hb : s.heap.get? bm = some (methodObj (.ref f) self)) (hf : s.heap.get? f = some fo) (hd : fo.data = .func fd) (h : Q true s) :
    wpAny M A (borrowsExactly (.ref bm)) Q E s := by
  unfold borrowsExactly
  refine wpAny_bind (wpAny_load hb ?_)
  show wpAny _ _ (if (Value.type "method" == Value.type "method") = true then _ else _) _ _ _
  rw [if_pos (by rfl)]
  refine wpAny_bind (wpAny_load hf ?_)
  rw [hd]
  exact wpAny_pure h

theorem stop_raised {α : Type} {Q : α → Shared → Prop} (hh : A.handled = none) (h : ∀ x h', (∀ b o, s.heap.get? b = some o → h'.get? b = some o) → (∃ o, h'.get? x = some o ∧ o.cls = .type "StopIteration") → E (.ref x) { s with heap := h' }) :
    wpAny (model prog w) A (Builtin.SmallTypes.stopIteration : Sem α) Q E s := by
  show wpAny _ _ (newExc (.type "StopIteration") [] >>= _) _ _ _
  refine wpAny_bind ?_
  simp only [newExc, newTuple]
  refine wpAny_bind (wpAny_newObj_type ?_ (by size_fits))
  refine wpAny_bind (m := firstArgMember _ _) (wpAny_of_eq (a := Value.none) (by first | rfl | (simp only [firstArgMember]; rfl)) ?_)
  refine wpAny_newObj_type ?_ (by size_fits)
  simp only [raiseNew]
  refine wpAny_bind (wpAny_handled ?_)
  rw [hh]
  refine wpAny_bind (wpAny_pure (wpAny_throw (h _ _ (fun b o e => Heap.get?_push_of_some _ (Heap.get?_push_of_some _ e)) ⟨_, Heap.get?_push_size _ rfl, rfl⟩)))

/-- the next of `iter(f, '')`, at its end already -/
theorem next_off {it : Addr} {Q : Option Value → Shared → Prop} (hh : A.handled = none) (ho : s.heap.get? it = some itOff) (h : ∀ h', (∀ b o, s.heap.get? b = some o → h'.get? b = some o) → Q none { s with heap := h' }) :
    wpAny (model prog w) A (pyNext (.ref it)) Q E s := by
  have hT : s.TypeIs (.ref it) "callable_iterator" := ⟨_, ho, rfl⟩
  unfold pyNext
  refine wpAny_bind (wpAny_attempt (wpAny_callSpecial?_slot (name := Str.ofString "__next__") hT slot_ci_next
    (wpAny_call_entry slot_ci_next hT entry_ci_next ?_ (args_ci_next _))))
  show wpAny _ _ (field (.ref it) 2 >>= _) _ _ s
  refine wpAny_bind (wpAny_field ho rfl (x := .bool true) rfl ?_)
  show wpAny _ _ (if (Value.bool true == Value.bool true) = true then _ else _) _ _ s
  rw [if_pos (by rfl)]
  refine wpAny_bind (wpAny_rule (wpAny_bind ?_))
  refine stop_raised hh fun x h' k ⟨o, e, c⟩ => ?_
  exact wpAny_bind (wpAny_isInstance (T := "StopIteration") (b := true) ⟨_, e, c⟩ isSubtype_stop (wpAny_pure (h h' k)))

/-- the next of `iter(f, '')` -/
theorem next_on {it bm f : Addr} {t : Tok} {self : Value} {fo : Obj} {fd : FuncData} {Q : Option Value → Shared → Prop} (hh : A.handled = none) (ho : s.heap.get? it = some (itOn bm t))
    (hb : s.heap.get? bm = some (methodObj (.ref f) self)) (hf : s.heap.get? f = some fo) (hd : fo.data = .func fd)
    (hc : codeAny (model prog w) A.in1 (.call (.ref f) ⟨[self], []⟩) (fun r s' => match r with
      | .ok (.ret v) => ∃ x u, v = .str x u ∧ s'.heap.get? it = some (itOn bm t) ∧ s'.heap.get? bm = some (methodObj (.ref f) self) ∧ s'.heap.get? f = some fo ∧ (x ≠ ⟨#[]⟩ → Q (some (.str x u)) s') ∧
          (x = ⟨#[]⟩ → ∀ h', (∀ b o, b ≠ it → s'.heap.get? b = some o → h'.get? b = some o) → h'.get? it = some itOff → Q none { s' with heap := h' })
      | .ok _ => False
      | .error e => False) s) :
    wpAny (model prog w) A (pyNext (.ref it)) Q E s := by
  have hT : s.TypeIs (.ref it) "callable_iterator" := ⟨_, ho, rfl⟩
  unfold pyNext
  refine wpAny_bind (wpAny_attempt (wpAny_callSpecial?_slot (name := Str.ofString "__next__") hT slot_ci_next
    (wpAny_call_entry slot_ci_next hT entry_ci_next ?_ (args_ci_next _))))
  show wpAny _ _ (field (.ref it) 2 >>= _) _ _ s
  refine wpAny_bind (wpAny_field ho rfl (x := .bool false) rfl ?_)
  show wpAny _ _ (if (Value.bool false == Value.bool true) = true then _ else _) _ _ s
  rw [if_neg (by exact Bool.false_ne_true)]
  show wpAny _ _ (field (.ref it) 0 >>= _) _ _ s
  refine wpAny_bind (wpAny_field ho rfl (x := .ref bm) rfl ?_)
  refine wpAny_bind (wpAny_attempt ?_)
  unfold callOutOfASlot
  refine wpAny_bind (borrows_meth hb hf hd ?_)
  rw [if_pos rfl]
  refine wpAny_callBorrowed (method_call hb (codeAny_mono hc fun r s' h => ?_))
  match r, h with
  | .ok (.ret v), h =>
    obtain ⟨x, u, rfl, ho', hb', hf', h1, h2⟩ := h
    show wpAny _ _ (field (.ref it) 2 >>= _) _ _ s'
    refine wpAny_bind (wpAny_field ho' rfl (x := .bool false) rfl ?_)
    show wpAny _ _ (if (Value.bool false == Value.bool true) = true then _ else _) _ _ s'
    rw [if_neg (by exact Bool.false_ne_true)]
    show wpAny _ _ (field (.ref it) 1 >>= _) _ _ s'
    refine wpAny_bind (wpAny_field ho' rfl (x := .str ⟨#[]⟩ t) rfl ?_)
    refine wpAny_bind (wpAny_holding (wpAny_eqBool_str ?_))
    by_cases hx : x = ⟨#[]⟩
    · subst hx
      simp only [decide_true, Bool.not_true, Bool.false_eq_true, if_false]
      refine wpAny_bind (wpAny_rule (wpAny_bind ?_))
      show wpAny _ _ (field (.ref it) 0 >>= _) _ _ s'
      refine wpAny_bind (wpAny_field ho' rfl (x := .ref bm) rfl ?_)
      unfold slotLetsGo
      refine wpAny_bind ?_
      refine wpAny_bind (borrows_meth hb' hf' hd ?_)
      rw [if_pos rfl]
      refine wpAny_pure ?_
      refine wpAny_bind (wpAny_setField_rec ho' (by simp) fun h1' e1 k1 => ?_)
      refine wpAny_bind (wpAny_setField_rec (s := { s' with heap := h1' }) e1 (by simp) fun h2' e2 k2 => ?_)
      refine wpAny_setField_rec (s := { s' with heap := h2' }) e2 (by simp) fun h3' e3 k3 => ?_
      refine stop_raised hh fun y h' k ⟨o, e, c⟩ => ?_
      refine wpAny_bind (wpAny_isInstance (T := "StopIteration") (b := true) ⟨_, e, c⟩ isSubtype_stop (wpAny_pure ?_))
      exact h2 rfl h' (fun b ob hb e => k b ob ((k3.2 b hb).trans ((k2.2 b hb).trans ((k1.2 b hb).trans e)))) (k it _ e3)
    · rw [decide_eq_false (fun q => hx q.symm)]
      simp only [Bool.not_false, if_true]
      exact wpAny_pure ⟨_, rfl, wpAny_pure (h1 hx)⟩
end
end Mine
end

section
namespace Mine
open PySem PySem.Calls PyProof.Rows PySem.W Builtin Builtin.ObjectAttr

theorem lk_fn_get : typeLookup (.type "function") "__get__" = pure (some (.builtin "function.__get__")) := by rw [typeLookup_type, builtinLookup_eq_fast]; kernel_rfl
theorem lk_fn_set : typeLookup (.type "function") "__set__" = pure none := by rw [typeLookup_type, builtinLookup_eq_fast]; kernel_rfl
theorem lk_fn_del : typeLookup (.type "function") "__delete__" = pure none := by rw [typeLookup_type, builtinLookup_eq_fast]; kernel_rfl

section
variable {prog : Program} {w : World} {A : Around} {E : Value → Shared → Prop} {h : Heap} {g : Array GenState} {d : Drawn} {t : Nat} {os : OsState}
variable {nm q : Str} {C N x f : Addr} {bs : List Value} {sn : List Str} {sub : List Value} {ab : Bool} {col : Option Bool} {dd : Option Addr} {k0 k1 k2 k3 k5 : Option Value} {newId : String}
  {mN mA : Str → Option Value} {name : Str} {fo : Obj}

theorem fn_get_at {tp : Value} {Q : Value → Shared → Prop} (hfo : h.get? f = some fo) (hfc : fo.cls = .type "function")
    (hq : Q (.ref h.objs.size) ⟨h.push (methodObj (.ref f) (.ref x)), g, d, t, os⟩) : wpAny (model prog w) A (call (.builtin "function.__get__") [.ref f, .ref x, tp]) Q E ⟨h, g, d, t, os⟩ := by
  refine wpAny_call (codeAny_call_builtin KF.slot_fn.plain KF.entry_fn (KF.slot_fn.check _ _ _ _ _ _ _ _ ⟨_, hfo, hfc⟩ (KF.args_fn _ _ _) ?_))
  repeat k_node
  exact hq

theorem load_bound_entry {tk : Tok} {Q : PySem.Fin → Shared → Prop} {y : Option Value}
    (hC : h.get? C = some (excClassObj nm q C N bs [.type "object"] true sn sub ab col dd k0 k1 k2 k3 k5 newId)) (hn : h.Ns N mN) (hnh : mN "__getattr__" = none) (hna : mN name = some (.ref f)) (hfo : h.get? f = some fo) (hfc : fo.cls = .type "function")
    (hB : typeLookup (.type "object") name = pure y) (I : h.Inst x C mA) (hv : mA name = none)
    (hcp : (["__module__", "__name__", "__qualname__", "__doc__", "__annotations__"] : List Str).contains name = false) (hq : Q (.done (.ret (.ref h.objs.size))) ⟨h.push (methodObj (.ref f) (.ref x)), g, d, t, os⟩) :
    wpAny (model prog w) A (Builtin.«proto.getattr_hooked» ⟨[.ref x, .str name tk], []⟩) Q E ⟨h, g, d, t, os⟩ := by
  obtain ⟨o, hx, hc, hnc, hd⟩ := I
  unfold Builtin.«proto.getattr_hooked»
  repeat (first | (with_reducible refine wpAny_loadPart_at hx ?_; rw [hc]) | (with_reducible refine wpAny_typeLookup_exc hC hn F.mro_object hB ?_; rw [hna]) | (with_reducible refine wpAny_typeOf (T := "function") ⟨_, hfo, hfc⟩ ?_) | (rw [lk_fn_get]) | (rw [lk_fn_set]) | (rw [lk_fn_del]) | wp_step)
  rw [hfc, lk_fn_get]
  repeat (first | (with_reducible refine wpAny_loadPart_at hx ?_; rw [hc]) | (with_reducible refine wpAny_loadPart_at hfo ?_; rw [hfc]) | (rw [lk_fn_set]) | (rw [lk_fn_del]) | wp_step)
  split
  · rename_i c hcd
    exact absurd hcd (hnc c)
  unfold instanceDict
  repeat (first | (with_reducible refine wpAny_loadPart_at hx ?_; rw [hc]) | with_reducible refine wpAny_loadPart_at hC ?_ | wp_step)
  rcases hd with ⟨hdn, _⟩ | ⟨dx, hdx, hne, hns⟩
  · rw [hdn]
    repeat (first | (rw [hcp]) | (with_reducible refine wpAny_typeLookup_exc hC hn F.mro_object F.lk_object_getattr ?_; rw [hnh]) | (with_reducible refine fn_get_at hfo hfc ?_) | wp_step)
    exact hq
  · rw [hdx]
    repeat (first | (with_reducible refine wpAny_nsGet hns.ns ?_; rw [hv]) | (rw [hcp]) | (with_reducible refine wpAny_typeLookup_exc hC hn F.mro_object F.lk_object_getattr ?_; rw [hnh]) | (with_reducible refine fn_get_at hfo hfc ?_) | wp_step)
    exact hq

theorem handed_ref {a : Addr} : handedOut (.ref a) = pure (.ref a) := rfl

/-- a method, loaded from an object -/
theorem load_bound {expr : Bool} {Q : Value → Shared → Prop} {y : Option Value}
    (hC : h.get? C = some (excClassObj nm q C N bs [.type "object"] true sn sub ab col dd k0 k1 k2 k3 k5 newId)) (hn : h.Ns N mN) (hng : mN "__getattribute__" = none) (hnh : mN "__getattr__" = none) (hna : mN name = some (.ref f)) (hfo : h.get? f = some fo) (hfc : fo.cls = .type "function")
    (hB : typeLookup (.type "object") name = pure y) (I : h.Inst x C mA) (hv : mA name = none)
    (hcp : (["__module__", "__name__", "__qualname__", "__doc__", "__annotations__"] : List Str).contains name = false) (hq : Q (.ref h.objs.size) ⟨h.push (methodObj (.ref f) (.ref x)), g, d, t + 1, os⟩) :
    wpAny (model prog w) A (getAttr (.ref x) name expr) Q E ⟨h, g, d, t, os⟩ := by
  obtain ⟨o, hx, hc, _⟩ := id I
  unfold getAttr getAttrBy
  repeat (first | (with_reducible refine wpAny_loadPart_at hx ?_; rw [hc]) | (with_reducible refine wpAny_typeLookup_exc hC hn F.mro_object F.lk_object_ga ?_; rw [hng]) | wp_step)
  show wpAny _ _ ((runValue (.builtin "proto.getattr_hooked" ⟨[.ref x, .str name t], []⟩)).onRaise (noteIf true (.ref x) (.str name t))) _ _ _
  refine wpAny_onRaise (wpAny_runValue (codeAny_builtin F.plainObj_entry_getattr_hooked (load_bound_entry hC hn hnh hna hfo hfc hB I hv hcp ?_)))
  show wpAny _ _ (handedOut (.ref h.objs.size)) _ _ _
  rw [handed_ref]
  exact wpAny_pure hq

theorem lk_meth_call : typeLookup (.type "method") "__call__" = pure (some (.builtin "method.__call__")) := by rw [typeLookup_type, builtinLookup_eq_fast]; kernel_rfl
theorem kind_iter : builtinKind "iter" = none := by decide +kernel
theorem plain_iter : plainId "iter" = true := by decide +kernel
theorem entry_iter : entryFor table "iter" = some Builtin.«iter» := entryFor_of_tree (by kernel_rfl)
theorem args_iter_2 (a b : Value) : argsOk "iter" ⟨[a, b], []⟩ := by unfold argsOk; kernel_rfl

theorem call_iter2 {bm : Addr} {u : Tok} {fv self : Value} {Q : Value → Shared → Prop} (hb : h.get? bm = some (methodObj fv self)) (hq : Q (.ref h.objs.size) ⟨h.push (itOn bm u), g, d, t, os⟩) :
    wpAny (model prog w) A (call (.builtin "iter") [.ref bm, .str ⟨#[]⟩ u]) Q E ⟨h, g, d, t, os⟩ := by
  refine Calls.call_function_entry kind_iter plain_iter entry_iter (args_iter_2 _ _) ?_
  unfold Builtin.«iter»
  refine wpAny_bind (wpAny_of_eq (a := [.ref bm, .str ⟨#[]⟩ u]) (by first | rfl | kernel_rfl) ?_)
  dsimp only
  refine wpAny_bind (wpAny_specialOf (T := "method") (name := Str.ofString "__call__") ⟨_, hb, rfl⟩ lk_meth_call ?_)
  repeat wp_step
  exact ⟨_, rfl, hq⟩

theorem lk_fn_ga : typeLookup (.type "function") "__getattribute__" = pure (some (.builtin "object.__getattribute__")) := by rw [typeLookup_type, builtinLookup_eq_fast]; kernel_rfl
theorem lk_fn_getattr : typeLookup (.type "function") "__getattr__" = pure none := by rw [typeLookup_type, builtinLookup_eq_fast]; kernel_rfl
theorem lk_fn_read : typeLookup (.type "function") "read" = pure none := by rw [typeLookup_type, builtinLookup_eq_fast]; kernel_rfl

theorem bind_ga (self : Value) : bindSpecial (.builtin "object.__getattribute__") self = pure (.builtin "object.__getattribute__", [self]) := by
  unfold bindSpecial
  rw [show typeOf (.builtin "object.__getattribute__") = pure (.type "wrapper_descriptor") from by kernel_rfl]
  rfl
theorem slot_fn_ga : PySem.Slot "function" "__getattribute__" "object.__getattribute__" :=
  .of (owner := "object") (n := "__getattribute__") (by rw [typeLookup_type, builtinLookup_eq_fast]; kernel_rfl) (by decide +kernel) (by decide +kernel) (by decide +kernel)
    (by first | exact .inl (by decide +kernel) | exact .inr (by decide +kernel)) (by rw [isSubtype_type]; kernel_rfl)
theorem entry_ga : entryFor table "object.__getattribute__" = some Builtin.«object.__getattribute__» := entryFor_of_tree (by kernel_rfl)
theorem args_ga (a b : Value) : argsOk "object.__getattribute__" ⟨[a, b], []⟩ := by unfold argsOk; kernel_rfl

/-- a function that bears fields of its own -/
noncomputable def FnDict (h : Heap) (fn dx : Addr) (m : Str → Option Value) : Prop := ∃ o, h.get? fn = some o ∧ o.cls = .type "function" ∧ (∀ c, o.data ≠ .cls c) ∧ o.dict = some dx ∧ fn ≠ dx ∧ h.Ns1 dx m

theorem fn_read_meth {fn dx : Addr} {m : Str → Option Value} {v : Value} {pl : Sem Bool} {Q : Value × List Value → Shared → Prop} (I : FnDict h fn dx m) (hv : m "read" = some v) (hh : handedOut v = pure v) (hq : ∀ t', Q (v, []) ⟨h, g, d, t', os⟩) :
    wpAny (model prog w) A (getMethod (.ref fn) "read" pl) Q E ⟨h, g, d, t, os⟩ := by
  obtain ⟨o, hx, hc, hnc, hdx, hne, hns⟩ := I
  have hT : Shared.TypeIs ⟨h, g, d, t, os⟩ (.ref fn) "function" := ⟨_, hx, hc⟩
  unfold getMethod
  refine wpAny_bind (wpAny_specialOf (T := "function") (name := Str.ofString "__getattribute__") hT lk_fn_ga ?_)
  repeat (first | (rw [lk_fn_getattr]) | (rw [lk_fn_read]) | (with_reducible refine wpAny_specialOf (T := "function") (name := Str.ofString "read") hT lk_fn_read ?_) | wp_step)
  rw [hc, lk_fn_ga]
  refine wpAny_pure ?_
  dsimp only
  rw [if_neg (by simp [onTheHeap])]
  unfold getAttrByItsOwn hookBefore
  rw [if_neg (by simp [onTheHeap])]
  refine wpAny_bind (wpAny_pure (wpAny_bind (wpAny_attempt (wpAny_holding ?_))))
  unfold callGetattribute
  rw [if_neg (by simp [onTheHeap])]
  unfold boundAndCalled
  rw [bind_ga]
  refine wpAny_bind (wpAny_pure ?_)
  refine wpAny_call_entry slot_fn_ga ⟨_, hx, hc⟩ entry_ga ?_ (args_ga _ _)
  unfold Builtin.«object.__getattribute__»
  repeat (first | (with_reducible refine wpAny_loadPart_at hx ?_; rw [hc]) | (rw [lk_fn_read]) | wp_step)
  split
  · rename_i c hcd
    exact absurd hcd (hnc c)
  unfold instanceDict
  repeat (first | (with_reducible refine wpAny_loadPart_at hx ?_; rw [hc]) | wp_step)
  rw [hdx]
  repeat (first | (with_reducible refine wpAny_nsGet hns.ns ?_; rw [hv]) | wp_step)
  refine ⟨v, rfl, ?_⟩
  show wpAny _ _ (handedOut v) _ _ _
  rw [hh]
  exact wpAny_pure (wpAny_pure (hq _))

theorem slot_fn_sa : PySem.Slot "function" "__setattr__" "object.__setattr__" :=
  .of (owner := "object") (n := "__setattr__") (by rw [typeLookup_type, builtinLookup_eq_fast]; kernel_rfl) (by decide +kernel) (by decide +kernel) (by decide +kernel)
    (by first | exact .inl (by decide +kernel) | exact .inr (by decide +kernel)) (by rw [isSubtype_type]; kernel_rfl)
theorem mro_fn : mroOf (.type "function") = pure [.type "function", .type "object"] := by kernel_rfl
theorem refuse_fn (self : Value) : refuseLoop self "__setattr__" [.type "function", .type "object"] = pure () := by kernel_rfl
theorem fin_fn : finalisedInACycleAlone "function" = false := by decide +kernel

theorem fn_read_set {fn : Addr} {o : Obj} {v : Value} {Q : Unit → Shared → Prop} (hx : h.get? fn = some o) (hc : o.cls = .type "function") (hnc : ∀ c, o.data ≠ .cls c) (hdn : o.dict = none)
    (hq : ∀ h' t', FnDict h' fn h.objs.size (fun y => if y = Str.ofString "read" then some v else none) → (∀ b o, b ≠ fn → h.get? b = some o → h'.get? b = some o) → (∀ o₀, h.get? fn = some o₀ → ∃ o₁, h'.get? fn = some o₁ ∧ o₁.data = o₀.data) → Q () ⟨h', g, d, t', os⟩) :
    wpAny (model prog w) A (setAttr (.ref fn) "read" v) Q E ⟨h, g, d, t, os⟩ := by
  have hT : ∀ t, Shared.TypeIs ⟨h, g, d, t, os⟩ (.ref fn) "function" := fun t => ⟨_, hx, hc⟩
  unfold setAttr
  refine wpAny_bind (wpAny_mkText ?_)
  refine wpAny_bind (wpAny_callSpecial?_slot (name := Str.ofString "__setattr__") (hT _) slot_fn_sa (wpAny_call_entry slot_fn_sa (hT _) PySem.F.store_object.entry ?_ (PySem.F.store_object.args _ _ _)))
  unfold Builtin.«object.__setattr__»
  repeat (first | (rw [refuse_eq]) | (rw [mro_fn]) | (rw [refuse_fn]) | (with_reducible refine wpAny_loadPart_at hx ?_; rw [hc]) | (rw [lk_fn_read]) | wp_step)
  rw [hdn, if_neg (by decide +kernel)]
  split
  · rename_i hcd
    cases hcd
  split
  · rename_i c hcd
    exact absurd hcd (hnc c)
  · have hx₁ : (h.push { cls := .type "dict", data := .dict #[] }).get? fn = some o := Heap.get?_push_of_some _ hx
    have hxs : fn ≠ h.objs.size := Nat.ne_of_lt (Heap.lt_size hx)
    refine wpAny_bind (wpAny_alloc' ?_)
    refine wpAny_bind (wpAny_update' hx₁ ?_)
    unfold dictMade
    dsimp only
    rw [fin_fn]
    refine wpAny_pure ?_
    have hgd : ((h.push { cls := .type "dict", data := .dict #[] }).update fn fun o => { cls := o.cls, dict := some h.objs.size, data := o.data, slots := o.slots }).get? h.objs.size
        = some { cls := .type "dict", data := .dict #[] } :=
      (Heap.get?_update_ne _ _ _ _ hxs.symm).trans (Heap.get?_push_at rfl rfl)
    have hnd : ((h.push { cls := .type "dict", data := .dict #[] }).update fn fun o => { cls := o.cls, dict := some h.objs.size, data := o.data, slots := o.slots }).Ns h.objs.size (fun _ => none) :=
      ⟨_, #[], _, hgd, rfl, fun e he => absurd he (by simp), fun _ => rfl⟩
    show wpAny _ _ (storeInDict h.objs.size (.str (Str.ofString "read") _) (Str.ofString "read") v) _ _ _
    unfold storeInDict newKeyGuard
    refine wpAny_bind (wpAny_pure (wpAny_bind (wpAny_nsSet1 (Heap.Ns1.of_empty hnd) fun h' hn' hs => ?_)))
    obtain ⟨oD, esD, epD, hoD, hdD, hcD⟩ := hn'.count (Within.cons (Str.ofString "read") v Within.nil)
    refine wpAny_bind (wpAny_lookBehind hoD (by rw [hdD]; exact pastItsLine_dict (Nat.le_trans hcD (by rw [List.length_cons, List.length_nil, sizeLine_eq]; omega))) ?_)
    have hx' : h'.get? fn = some { cls := o.cls, dict := some h.objs.size, data := o.data, slots := o.slots } := by
      refine (hs.2 fn hxs).trans (Heap.get?_update_self _ hx₁ ?_)
      have hfr := (Heap.get?_some_iff.mp hx).2
      obtain ⟨oc, od, odt, osl⟩ := o
      cases odt <;> first | rfl | exact hfr
    refine wpAny_pure ⟨_, rfl, wpAny_pure (hq h' _ ⟨_, hx', hc, hnc, rfl, hxs, hn'⟩ (fun b ob hbx hb => ?_) fun o₀ h₀ => ⟨_, hx', ?_⟩)⟩
    · exact (hs.2 b (Nat.ne_of_lt (Heap.lt_size hb))).trans ((Heap.get?_update_ne _ _ _ _ hbx).trans (Heap.get?_push_of_some _ hb))
    · obtain rfl : o = o₀ := Option.some.inj (hx.symm.trans h₀)
      rfl
end
end Mine
end

section
namespace Mine
open PySem PySem.Calls PyProof.Rows

section
variable {C : Cx} {ρ ρ' ρ₁ : Env'} {g g' g₁ g₂ : C.G} {P P' : Fl → Env' → C.G → Prop}

/-- what the next of an iterator of the world gives -/
noncomputable def NextW (C : Cx) (g : C.G) (it : Addr) (res : Option PV) (g' : C.G) : Prop :=
  ∀ (X : Addr → Prop) (s : Shared) (Q : Option Value → Shared → Prop), (∀ a, s.heap.get? a = none → ¬ X a) → (∀ a, C.M a → X a) → C.T s.heap → C.W g s.heap →
    (∀ r s', (match res with | none => r = none | some p => ∃ u, r = some u ∧ Rep X s'.heap u p) → Step C g' s s' → Q r s') → wpAny C.mod C.A (pyNext (.ref it)) Q NoE s

noncomputable def TurnW (C : Cx) (J : Env' → C.G → Prop) (μ : C.G → Nat) (n : Nat) (P : Fl → Env' → C.G → Prop) : Fl → Env' → C.G → Prop := fun fl ρ' g' => match fl with
  | .next => ∃ ρ'', Weak ρ' ρ'' ∧ J ρ'' g' ∧ μ g' < n
  | .cont => ∃ ρ'', Weak ρ' ρ'' ∧ J ρ'' g' ∧ μ g' < n
  | .brk => P .next ρ' g'
  | .ret v => P (.ret v) ρ' g'

inductive ForWInv (C : Cx) (J : Env' → C.G → Prop) (μ : C.G → Nat) (O : List (Str × Addr)) (s : Shared) (n : Nat) (s' : Shared) : Prop
  | mk (ρ₁ : Env') (g₂ : C.G) (O₁ : List (Str × Addr)) (hn : n = μ g₂) (hJ : J ρ₁ g₂) (I : Inv C ρ₁ O₁ g₂ s') (k : SKeep C O O₁ s s') : ForWInv C J μ O s n s'
theorem St1.forW (hC : C.Ok) {x y : Str} {xp yp pos : Pos} {a : Addr} {body : List Stmt} (hy : (y, LV.val (.obj a)) ∈ ρ) (hI : ∀ (s : Shared) (Q : Value → Shared → Prop), C.W g s.heap → Q (.ref a) s → wpAny C.mod C.A (pyIter (.ref a)) Q NoE s)
    (J : Env' → C.G → Prop) (μ : C.G → Nat) (h0 : J ρ g)
    (step : ∀ ρ₁ g₁, J ρ₁ g₁ → (∃ g₂, NextW C g₁ a none g₂ ∧ P .next ρ₁ g₂) ∨ (∃ p g₂ ρ₂, NextW C g₁ a (some p) g₂ ∧ Put ρ₁ x (.val p) ρ₂ ∧ St C ρ₂ g₂ body (TurnW C J μ (μ g₁) P)))
    (hs : ∀ z, foldedSetIterable (.Name y yp) C.env z = pure z := by intro _; rfl) : St1 C ρ g (.For (.Name x xp) (.Name y yp) body [] pos) P := fun O s I0 => by
  refine wpAny_For (wpAny_mono (Ev.name hC hy O s I0) (fun z s₁ h1 => ?_) fun _ _ x => x) hs
  obtain ⟨r1, st⟩ := h1
  obtain rfl := Rep.of_obj r1
  case _ =>
    have I2 := I0.step hC st
    refine hI s₁ _ I2.world ?_
    refine codeAny_forLoop_any (ForWInv C J μ O s) ?_ (μ g) ⟨ρ, g, O, rfl, h0, I2, st.skeep hC⟩
    rintro n s' ⟨ρ₁, g₁, O₁, rfl, hJ, I', k⟩
    have av : ∀ b, s'.heap.get? b = none → ¬ avoid C O₁ b := fun b e => (I'.new hC e).2.2.2
    rcases step ρ₁ g₁ hJ with ⟨g₂, hn, hP⟩ | ⟨p, g₂, ρ₂, hn, hp, hb⟩
    · refine wpAny_never (hn (avoid C O₁) s' _ av (fun b m => .inl (hC.mx b m)) (I'.top hC) I'.world fun r s₂ hr st2 => ?_)
      have hr' : r = none := hr
      subst hr'
      exact wpAny_execs_nil ⟨.next, ρ₁, O₁, g₂, hP, .next, I'.step hC st2, k.trans (st2.skeep hC)⟩
    · refine wpAny_never (hn (avoid C O₁) s' _ av (fun b m => .inl (hC.mx b m)) (I'.top hC) I'.world fun r s₂ hr st2 => ?_)
      obtain ⟨u, hu, ru⟩ := hr
      subst hu
      have I2' := I'.step hC st2
      refine wpAny_pure ?_
      refine wpAny_never (wpAny_assign_Name (store_val hC I2' ru hp fun s₃ I3 kb _ => ?_))
      refine wpAny_never (wpAny_mono (hb O₁ s₃ I3) (fun f s₄ pf => ?_) fun _ _ x => x)
      obtain ⟨fl, ρ₃, O₃, g₃, hP, hfl, I4, kc⟩ := pf
      have ke : SKeep C O O₃ s s₄ := ((k.trans (st2.skeep hC)).trans kb).trans kc
      cases hfl with
      | next => obtain ⟨ρ₄, hw, hJ', hlt⟩ := hP; exact ⟨_, hlt, ρ₄, g₃, O₃, rfl, hJ', I4.weak hw, ke⟩
      | cont => obtain ⟨ρ₄, hw, hJ', hlt⟩ := hP; exact ⟨_, hlt, ρ₄, g₃, O₃, rfl, hJ', I4.weak hw, ke⟩
      | brk => exact ⟨.next, ρ₃, O₃, g₃, hP, .next, I4, ke⟩
      | ret r => exact ⟨.ret _, ρ₃, O₃, g₃, hP, .ret r, I4, ke⟩
end

/-! a world with one object more -/
noncomputable def Wd.more (V : Wd) (it : Addr) (o : Bool → Obj) : Wd := ⟨fun a => V.M a ∨ a = it, V.G × Bool, fun g h => V.W g.1 h ∧ h.get? it = some (o g.2)⟩

theorem Wd.more_ok {V : Wd} (hV : V.Ok) {it : Addr} {o : Bool → Obj} : (V.more it o).Ok where
  wm := fun g h a hw hm => by
    rcases hm with hm | rfl
    · exact hV.wm _ _ _ hw.1 hm
    · exact ⟨_, hw.2⟩
  stab := fun g h h' hw hk => ⟨hV.stab _ _ _ hw.1 fun a o hm e => hk a o (hm.imp .inl id) e, hk it _ (.inl (.inr rfl)) hw.2⟩

theorem FnW.more {prog : Program} {w : World} {T T' : Heap → Prop} {V : Wd} {d : Nat} {f : Value} {g g' : V.G} {ps : List PV} {r : PV} {it : Addr} {o : Bool → Obj} {b : Bool} (h : FnW prog w T V d f g ps r g') (hT : ∀ h, T' h → T h) (hit : ¬ V.M it) :
    FnW prog w T' (V.more it o) d f (g, b) ps r (g', b) := fun A X s us hR hTs hX hMX hw hr =>
  codeAny_mono (h A X s us hR (hT _ hTs) hX (fun a m => hMX a (.inl m)) hw.1 hr) fun r' s' q => by
    match r', q with
    | .ok (.ret z), ⟨q1, q2, q3, q4⟩ => exact ⟨q1, q2, fun a o hm e => q3 a o (fun m => hm (.inl m)) e, q4, q3 it _ hit hw.2⟩
end Mine
end

section
namespace Mine
open PySem PySem.Calls PyProof.Rows PySem.W

/-! the lexer: its objects -/
structure LA where
  aL : Addr
  aLd : Addr
  aP : Addr
  aS : Addr
  aFn : Addr
  aFd : Addr
  aRd : Addr
  aC : Addr
  aN : Addr
  fR : Addr
  fG : Addr
  fP : Addr

set_option genInjectivity true in
structure LG where
  pos : Nat
  reg : Nat
  line : Nat
  push : List (List Nat)

noncomputable abbrev ws : List Nat := [10, 9, 13, 32]

/-- the class, as the top made it -/
inductive ClsOk (la : LA) (h : Heap) : Prop
  | mk (nm q bs sn sub ab col dd k0 k1 k2 k3 k5 newId : _) (mN : Str → Option Value) (oR oG oP : Obj) (a1 : h.get? la.aC = some (excClassObj nm q la.aC la.aN bs [.type "object"] true sn sub ab col dd k0 k1 k2 k3 k5 newId)) (a2 : h.Ns la.aN mN)
    (z1 : mN "__getattribute__" = none) (z2 : mN "__getattr__" = none) (z3 : mN "__setattr__" = none) (z4 : mN "lineno" = none) (z5 : mN "instream" = none) (z6 : mN "whitespace" = none) (z7 : mN "pushback" = none)
    (y1 : mN "_read_char" = some (.ref la.fR)) (y2 : mN "get_token" = some (.ref la.fG)) (y3 : mN "push_token" = some (.ref la.fP))
    (y4 : h.get? la.fR = some oR) (y5 : oR.cls = .type "function") (y6 : h.get? la.fG = some oG) (y7 : oG.cls = .type "function") (y8 : h.get? la.fP = some oP) (y9 : oP.cls = .type "function") (ne : la.aL ≠ la.aC) : ClsOk la h
/-- what reading a name of the class needs of it -/
inductive ClsAt (la : LA) (name : Str) (h : Heap) : Prop
  | mk (nm q bs sn sub ab col dd k0 k1 k2 k3 k5 newId : _) (mN : Str → Option Value) (a1 : h.get? la.aC = some (excClassObj nm q la.aC la.aN bs [.type "object"] true sn sub ab col dd k0 k1 k2 k3 k5 newId)) (a2 : h.Ns la.aN mN)
    (z1 : mN "__getattribute__" = none) (z4 : mN name = none) : ClsAt la name h

/-- the lexer and its stream, as they stand -/
structure LexW (la : LA) (l : LG) (h : Heap) : Prop where
  inst : ∃ mA, h.Inst la.aL la.aC mA ∧ (∃ t, mA "lineno" = some (.int l.line t)) ∧ mA "instream" = some (.ref la.aFn) ∧ (∃ t, mA "whitespace" = some (.str ⟨ws.toArray⟩ t)) ∧ mA "pushback" = some (.ref la.aP) ∧
    mA "_read_char" = none ∧ mA "get_token" = none ∧ mA "push_token" = none ∧ Within mA ["lineno", "instream", "whitespace", "pushback"]
  dict : ∀ o, h.get? la.aL = some o → o.dict = some la.aLd
  push : ∃ vs : List Value, h.PlainList la.aP vs.toArray ∧ ∀ X h', Reps X h' vs (l.push.map .str)
  state : ∃ t u, h.IsList la.aS #[.int l.pos t, .int l.reg u]
  stream : FnDict h la.aFn la.aFd (fun y => if y = Str.ofString "read" then some (.ref la.aRd) else none)

theorem lko_lineno : typeLookup (.type "object") "lineno" = pure none := by rw [typeLookup_type, builtinLookup_eq_fast]; kernel_rfl
theorem lko_instream : typeLookup (.type "object") "instream" = pure none := by rw [typeLookup_type, builtinLookup_eq_fast]; kernel_rfl
theorem lko_whitespace : typeLookup (.type "object") "whitespace" = pure none := by rw [typeLookup_type, builtinLookup_eq_fast]; kernel_rfl
theorem lko_pushback : typeLookup (.type "object") "pushback" = pure none := by rw [typeLookup_type, builtinLookup_eq_fast]; kernel_rfl
theorem lko_read_char : typeLookup (.type "object") "_read_char" = pure none := by rw [typeLookup_type, builtinLookup_eq_fast]; kernel_rfl
theorem lko_get_token : typeLookup (.type "object") "get_token" = pure none := by rw [typeLookup_type, builtinLookup_eq_fast]; kernel_rfl
theorem lko_push_token : typeLookup (.type "object") "push_token" = pure none := by rw [typeLookup_type, builtinLookup_eq_fast]; kernel_rfl

/-- the world of a frame that has the lexer at hand -/
noncomputable abbrev LexV (V : Wd) (la : LA) : Wd :=
  ⟨fun a => ((((V.M a ∨ a = la.aS) ∨ False) ∨ a = la.aFn) ∨ a = la.aFd) ∨ (a = la.aL ∨ a = la.aLd ∨ a = la.aP), V.G × LG, fun g h => V.W g.1 h ∧ LexW la g.2 h⟩

theorem LexW.stab {la : LA} {l : LG} {h h' : Heap} (w : LexW la l h) (k : ∀ a o, (a = la.aS ∨ a = la.aFn ∨ a = la.aFd ∨ a = la.aL ∨ a = la.aLd ∨ a = la.aP) → h.get? a = some o → h'.get? a = some o) : LexW la l h' := by
  obtain ⟨⟨mA, I, r⟩, hd, ⟨vs, ⟨n, hp⟩, hps⟩, ⟨t, u, o, ho, hc, n', hs⟩, hf⟩ := w
  obtain ⟨o1, e1, c1, n1, d1⟩ := I
  have e1' := k _ _ (.inr (.inr (.inr (.inl rfl)))) e1
  have hd1 := hd _ e1
  refine ⟨⟨mA, ⟨o1, e1', c1, n1, ?_⟩, r⟩, fun o e => by rw [e1'] at e; cases e; exact hd1, ⟨vs, ⟨n, k _ _ (.inr (.inr (.inr (.inr (.inr rfl))))) hp⟩, hps⟩, ⟨t, u, o, k _ _ (.inl rfl) ho, hc, n', hs⟩, ?_⟩
  · rcases d1 with d1 | ⟨dx, q1, q2, q3⟩
    · rw [hd1] at d1; cases d1.1
    · rw [hd1] at q1; cases q1
      refine .inr ⟨_, hd1, q2, ?_⟩
      obtain ⟨o2, es, ep, z1, z2⟩ := q3
      exact ⟨o2, es, ep, k _ _ (.inr (.inr (.inr (.inr (.inl rfl))))) z1, z2⟩
  · obtain ⟨o2, z1, z2, z3, z4, z5, o3, es, ep, y1, y2⟩ := hf
    exact ⟨o2, k _ _ (.inr (.inl rfl)) z1, z2, z3, z4, z5, o3, es, ep, k _ _ (.inr (.inr (.inl rfl))) y1, y2⟩

theorem LexV.ok {V : Wd} {la : LA} (hV : V.Ok) : (LexV V la).Ok where
  wm := fun g h a hw hm => by
    obtain ⟨h0, ⟨mA, ⟨o1, e1, c1, n1, d1⟩, r⟩, hd, ⟨vs, ⟨n, hp⟩, hps⟩, ⟨t, u, o, ho, hc, n', hs⟩, hf⟩ := hw
    obtain ⟨o2, z1, z2, z3, z4, z5, o3, es, ep, y1, y2⟩ := hf
    rcases hm with ((((hm | rfl) | hm) | rfl) | rfl) | (rfl | rfl | rfl)
    · exact hV.wm _ _ _ h0 hm
    · exact ⟨_, ho⟩
    · exact hm.elim
    · exact ⟨_, z1⟩
    · exact ⟨_, y1⟩
    · exact ⟨_, e1⟩
    · have hd1 := hd _ e1
      rcases d1 with d1 | ⟨dx, q1, q2, o4, es4, ep4, x1, _⟩
      · rw [hd1] at d1; cases d1.1
      · rw [hd1] at q1; cases q1; exact ⟨_, x1⟩
    · exact ⟨_, hp⟩
  stab := fun g h h' hw hk => ⟨hV.stab _ _ _ hw.1 fun a o hm e => hk a o (hm.imp (fun m => .inl (.inl (.inl (.inl (.inl m))))) id) e, hw.2.stab fun a o q e => hk a o (.inl (by
    rcases q with rfl | rfl | rfl | rfl | rfl | rfl
    · exact .inl (.inl (.inl (.inl (.inr rfl))))
    · exact .inl (.inl (.inr rfl))
    · exact .inl (.inr rfl)
    · exact .inr (.inl rfl)
    · exact .inr (.inr (.inl rfl))
    · exact .inr (.inr (.inr rfl)))) e⟩
end Mine
end

section
namespace Mine
open PySem PySem.Calls PyProof.Rows PySem.W

/-- a context that has the lexer in its world -/
structure HasLex (C : Cx) (la : LA) where
  get : C.G → LG
  put : C.G → LG → C.G
  hw : ∀ g h, C.W g h → LexW la (get g) h
  cls : ∀ h, C.T h → ClsOk la h
  upd : ∀ g l h h', C.W g h → (∀ a o, a ≠ la.aS → a ≠ la.aL → a ≠ la.aLd → a ≠ la.aP → h.get? a = some o → h'.get? a = some o) → LexW la l h' → C.W (put g l) h'
  mS : C.M la.aS
  mL : C.M la.aL
  mLd : C.M la.aLd
  mP : C.M la.aP
  ap : [la.aL, la.aLd, la.aP, la.aS, la.aFn, la.aFd].Nodup
  gp : ∀ g l, get (put g l) = l
  pp : ∀ g l l', put (put g l) l' = put g l'
  pg : ∀ g, put g (get g) = g

structure LA.Apart (la : LA) : Prop where
  pl : la.aP ≠ la.aL
  pd : la.aP ≠ la.aLd
  sl : la.aS ≠ la.aL
  sd : la.aS ≠ la.aLd
  sp : la.aS ≠ la.aP
  fl : la.aFn ≠ la.aL
  fd : la.aFn ≠ la.aLd
  fp : la.aFn ≠ la.aP
  fs : la.aFn ≠ la.aS
  dl : la.aFd ≠ la.aL
  dd : la.aFd ≠ la.aLd
  dp : la.aFd ≠ la.aP
  ds : la.aFd ≠ la.aS
  ld : la.aL ≠ la.aLd
theorem LA.Apart.of {la : LA} (h : [la.aL, la.aLd, la.aP, la.aS, la.aFn, la.aFd].Nodup) : la.Apart := by
  simp only [List.nodup_cons, List.mem_cons, List.not_mem_nil, or_false, not_or, List.nodup_nil, and_true] at h
  obtain ⟨⟨a1, a2, a3, a4, a5⟩, ⟨b1, b2, b3, b4⟩, ⟨c1, c2, c3⟩, ⟨d1, d2⟩, e1⟩ := h
  exact ⟨Ne.symm a2, Ne.symm b1, Ne.symm a3, Ne.symm b2, Ne.symm c1, Ne.symm a4, Ne.symm b3, Ne.symm c2, Ne.symm d1, Ne.symm a5, Ne.symm b4, Ne.symm c3, Ne.symm d2, a1⟩

section
variable {C : Cx} {la : LA} {g : C.G}

theorem HasLex.attr (H : HasLex C la) {name : Str} {p : PV} (hB : typeLookup (.type "object") name = pure none)
    (h : ∀ h, LexW la (H.get g) h → ∃ mA v, h.Inst la.aL la.aC mA ∧ mA name = some v ∧ handedOut v = pure v ∧ ∀ X h', Rep X h' v p) (hN : ∀ h, ClsOk la h → ClsAt la name h) : GAttr C g la.aL name p := fun X s Q hT hW hQ => by
  obtain ⟨hh, gg, d, t, os⟩ := s
  obtain ⟨mA, v, I, e, hd, hr⟩ := h _ (H.hw _ _ hW)
  obtain ⟨nm, q, bs, sn, sub, ab, col, dd, k0, k1, k2, k3, k5, newId, mN, hC, hn, hng, hna⟩ := hN _ (H.cls _ hT)
  exact load_attr hC hn hng hna hB I e hd (hQ v (t + 1) (hr _ _))

theorem HasLex.lineno (H : HasLex C la) : GAttr C g la.aL "lineno" (.int (H.get g).line) := H.attr lko_lineno
  (fun h w => let ⟨mA, I, ⟨t, e⟩, _⟩ := w.inst; ⟨mA, _, I, e, rfl, fun _ _ => .int _ _⟩)
  fun h x => by cases x; exact ⟨_, _, _, _, _, _, _, _, _, _, _, _, _, _, _, by assumption, by assumption, by assumption, by assumption⟩
theorem HasLex.instream (H : HasLex C la) : GAttr C g la.aL "instream" (.obj la.aFn) := H.attr lko_instream
  (fun h w => let ⟨mA, I, _, e, _⟩ := w.inst; ⟨mA, _, I, e, rfl, fun _ _ => .obj _⟩)
  fun h x => by cases x; exact ⟨_, _, _, _, _, _, _, _, _, _, _, _, _, _, _, by assumption, by assumption, by assumption, by assumption⟩
theorem HasLex.white (H : HasLex C la) : GAttr C g la.aL "whitespace" (.str ws) := H.attr lko_whitespace
  (fun h w => let ⟨mA, I, _, _, ⟨t, e⟩, _⟩ := w.inst; ⟨mA, _, I, e, rfl, fun _ _ => .str _ _⟩)
  fun h x => by cases x; exact ⟨_, _, _, _, _, _, _, _, _, _, _, _, _, _, _, by assumption, by assumption, by assumption, by assumption⟩
theorem HasLex.pushback (H : HasLex C la) : GAttr C g la.aL "pushback" (.obj la.aP) := H.attr lko_pushback
  (fun h w => let ⟨mA, I, _, _, _, e, _⟩ := w.inst; ⟨mA, _, I, e, rfl, fun _ _ => .obj _⟩)
  fun h x => by cases x; exact ⟨_, _, _, _, _, _, _, _, _, _, _, _, _, _, _, by assumption, by assumption, by assumption, by assumption⟩

theorem HasLex.mRead (H : HasLex C la) : GMeth C g la.aFn "read" (.ref la.aRd) [] := fun A pl s Q hT hW hQ => by
  obtain ⟨hh, gg, d, t, os⟩ := s
  exact fn_read_meth (H.hw _ _ hW).stream (by rfl) rfl fun t' => hQ t'
theorem HasLex.mReadChar (H : HasLex C la) : GMeth C g la.aL "_read_char" (.ref la.fR) [.ref la.aL] := fun A pl s Q hT hW hQ => by
  obtain ⟨hh, gg, d, t, os⟩ := s
  obtain ⟨nm, q, bs, sn, sub, ab, col, dd, k0, k1, k2, k3, k5, newId, mN, oR, oG, oP, hC, hn, z1, z2, z3, z4, z5, z6, z7, y1, y2, y3, y4, y5, y6, y7, y8, y9, _⟩ := H.cls _ hT
  obtain ⟨mA, I, _, _, _, _, x1, x2, x3, _⟩ := (H.hw _ _ hW).inst
  exact method_of hC hn z1 z2 y1 y4 y5 lko_read_char I x1 (hQ t)
theorem HasLex.mGet (H : HasLex C la) : GMeth C g la.aL "get_token" (.ref la.fG) [.ref la.aL] := fun A pl s Q hT hW hQ => by
  obtain ⟨hh, gg, d, t, os⟩ := s
  obtain ⟨nm, q, bs, sn, sub, ab, col, dd, k0, k1, k2, k3, k5, newId, mN, oR, oG, oP, hC, hn, z1, z2, z3, z4, z5, z6, z7, y1, y2, y3, y4, y5, y6, y7, y8, y9, _⟩ := H.cls _ hT
  obtain ⟨mA, I, _, _, _, _, x1, x2, x3, _⟩ := (H.hw _ _ hW).inst
  exact method_of hC hn z1 z2 y2 y6 y7 lko_get_token I x2 (hQ t)
theorem HasLex.mPush (H : HasLex C la) : GMeth C g la.aL "push_token" (.ref la.fP) [.ref la.aL] := fun A pl s Q hT hW hQ => by
  obtain ⟨hh, gg, d, t, os⟩ := s
  obtain ⟨nm, q, bs, sn, sub, ab, col, dd, k0, k1, k2, k3, k5, newId, mN, oR, oG, oP, hC, hn, z1, z2, z3, z4, z5, z6, z7, y1, y2, y3, y4, y5, y6, y7, y8, y9, _⟩ := H.cls _ hT
  obtain ⟨mA, I, _, _, _, _, x1, x2, x3, _⟩ := (H.hw _ _ hW).inst
  exact method_of hC hn z1 z2 y3 y8 y9 lko_push_token I x3 (hQ t)

theorem HasLex.setLine (H : HasLex C la) {n : Nat} : GSet C g la.aL "lineno" (.int n) (H.put g { H.get g with line := n }) := fun X s u hT hW hr => by
  obtain ⟨hh, gg, d, t, os⟩ := s
  cases hr with
  | int i tu =>
    obtain ⟨nm, q, bs, sn, sub, ab, col, dd, k0, k1, k2, k3, k5, newId, mN, oR, oG, oP, hC, hn, z1, z2, z3, z4, z5, z6, z7, y1, y2, y3, y4, y5, y6, y7, y8, y9, hne⟩ := H.cls _ hT
    have w := H.hw _ _ hW
    obtain ⟨⟨mA, I, x0, x1, x2, x3, x4, x5, x6, x7⟩, hd, hp, hs, hf⟩ := w
    refine store_attr (ns := ["lineno", "instream", "whitespace", "pushback"]) PySem.F.store_object hC hn z3 z4 lko_lineno hne I (fun h' tk' I' hk ho => ?_) x7 (by decide +kernel)
    have hoL : ∃ oL, hh.get? la.aL = some oL := let ⟨o, e, _⟩ := I; ⟨o, e⟩
    obtain ⟨oL, eL⟩ := hoL
    obtain ⟨o1, e1, c1, c2, c3, c4⟩ := ho oL eL
    have dL := hd oL eL
    have kp : ∀ a o, a ≠ la.aL → a ≠ la.aLd → hh.get? a = some o → h'.get? a = some o := fun a o q1 q2 e => hk a o q1 (fun o₀ dx q3 q4 => by
      have q3' : hh.get? la.aL = some o₀ := q3
      rw [eL] at q3'; cases q3'; rw [dL] at q4; cases q4; exact q2) e
    have ap := LA.Apart.of H.ap
    obtain ⟨vs, ⟨np, hp1⟩, hp2⟩ := hp
    obtain ⟨t1, u1, os1, hs1, hs2, ns1, hs3⟩ := hs
    obtain ⟨of1, f1, f2, f3, f4, f5, od1, es1, ep1, f6, f7⟩ := hf
    have nw : LexW la { H.get g with line := n } h' := by
      refine ⟨⟨_, I', ⟨tu, by simp⟩, ?_, ?_, ?_, ?_, ?_, ?_, ?_⟩, fun o e => ?_, ⟨vs, ⟨np, kp _ _ ap.pl ap.pd hp1⟩, hp2⟩, ⟨t1, u1, os1, kp _ _ ap.sl ap.sd hs1, hs2, ns1, hs3⟩, ⟨of1, kp _ _ ap.fl ap.fd f1, f2, f3, f4, f5, od1, es1, ep1, kp _ _ ap.dl ap.dd f6, f7⟩⟩
      · rw [if_neg (by decide)]; exact x1
      · obtain ⟨t2, x2⟩ := x2; exact ⟨t2, by rw [if_neg (by decide)]; exact x2⟩
      · rw [if_neg (by decide)]; exact x3
      · rw [if_neg (by decide)]; exact x4
      · rw [if_neg (by decide)]; exact x5
      · rw [if_neg (by decide)]; exact x6
      · intro y hy
        by_cases e : y = Str.ofString "lineno"
        · subst e; exact List.mem_cons_self
        · exact x7 y (by dsimp only at hy; rw [if_neg e] at hy; exact hy)
      · have e' : h'.get? la.aL = some o := e
        rw [e1] at e'; cases e'; exact c4 _ dL
    exact ⟨⟨rfl, rfl, rfl⟩, fun a o hm e => kp a o (fun z => hm (z ▸ H.mL)) (fun z => hm (z ▸ H.mLd)) e, H.upd _ _ _ _ hW (fun a o q1 q2 q3 q4 e => kp a o q2 q3 e) nw⟩

theorem HasLex.state0 (H : HasLex C la) : ∀ h X, C.T h → C.W g h → ∃ vs u, h.IsList la.aS vs ∧ vs[(0 : Int).toNat]? = some u ∧ Rep X h u (.int (H.get g).pos) := fun h X _ hW =>
  let ⟨t, u, e⟩ := (H.hw _ _ hW).state; ⟨_, _, e, rfl, .int _ _⟩
theorem HasLex.state1 (H : HasLex C la) : ∀ h X, C.T h → C.W g h → ∃ vs u, h.IsList la.aS vs ∧ vs[(1 : Int).toNat]? = some u ∧ Rep X h u (.int (H.get g).reg) := fun h X _ hW =>
  let ⟨t, u, e⟩ := (H.hw _ _ hW).state; ⟨_, _, e, rfl, .int _ _⟩

theorem HasLex.put_state (H : HasLex C la) {h h' : Heap} {p r : Nat} {t u : Tok} (hW : C.W g h) (hs : h'.IsList la.aS #[.int p t, .int r u]) (k : Heap.SameBut la.aS h h') : C.W (H.put g { H.get g with pos := p, reg := r }) h' := by
  have ap := LA.Apart.of H.ap
  obtain ⟨⟨mA, ⟨o1, e1, c1, n1, d1⟩, x⟩, hd, ⟨vs, ⟨np, hp1⟩, hp2⟩, _, ⟨of1, f1, f2, f3, f4, f5, od1, es1, ep1, f6, f7⟩⟩ := H.hw _ _ hW
  have kp : ∀ a o, a ≠ la.aS → h.get? a = some o → h'.get? a = some o := fun a o q e => (k.2 a q).trans e
  have e1' := kp _ _ (Ne.symm ap.sl) e1
  have hd1 := hd _ e1
  refine H.upd _ _ _ _ hW (fun a o q _ _ _ e => kp a o q e) ⟨⟨mA, ⟨o1, e1', c1, n1, ?_⟩, x⟩, fun o e => by rw [e1'] at e; cases e; exact hd1, ⟨vs, ⟨np, kp _ _ (Ne.symm ap.sp) hp1⟩, hp2⟩, ⟨t, u, hs⟩, ⟨of1, kp _ _ ap.fs f1, f2, f3, f4, f5, od1, es1, ep1, kp _ _ ap.ds f6, f7⟩⟩
  rcases d1 with d1 | ⟨dx, q1, q2, q3⟩
  · rw [hd1] at d1; cases d1.1
  · rw [hd1] at q1; cases q1
    exact .inr ⟨_, hd1, q2, q3.sameBut k (Ne.symm ap.sd)⟩

theorem HasLex.set0 (H : HasLex C la) {n : Nat} : ∀ h X u, C.W g h → Rep X h u (.int n) → ∃ vs, h.IsList la.aS vs ∧ (0 : Int) < vs.size ∧ ∀ h', h'.IsList la.aS (vs.setIfInBounds (0 : Int).toNat u) → Heap.SameBut la.aS h h' → C.W (H.put g { H.get g with pos := n }) h' := fun h X u hW hr => by
  obtain ⟨t, v, e⟩ := (H.hw _ _ hW).state
  cases hr
  exact ⟨_, e, by simp, fun h' hl hs => H.put_state hW hl hs⟩
theorem HasLex.set1 (H : HasLex C la) {n : Nat} : ∀ h X u, C.W g h → Rep X h u (.int n) → ∃ vs, h.IsList la.aS vs ∧ (1 : Int) < vs.size ∧ ∀ h', h'.IsList la.aS (vs.setIfInBounds (1 : Int).toNat u) → Heap.SameBut la.aS h h' → C.W (H.put g { H.get g with reg := n }) h' := fun h X u hW hr => by
  obtain ⟨t, v, e⟩ := (H.hw _ _ hW).state
  cases hr
  exact ⟨_, e, by simp, fun h' hl hs => H.put_state hW hl hs⟩

theorem HasLex.put_push (H : HasLex C la) {h h' : Heap} {ps : List (List Nat)} {vs : List Value} (hW : C.W g h) (hs : h'.PlainList la.aP vs.toArray) (hr : ∀ X h', Reps X h' vs (ps.map .str)) (k : Heap.SameBut la.aP h h') : C.W (H.put g { H.get g with push := ps }) h' := by
  have ap := LA.Apart.of H.ap
  obtain ⟨⟨mA, ⟨o1, e1, c1, n1, d1⟩, x⟩, hd, _, ⟨t1, u1, os1, hs1, hs2, ns1, hs3⟩, ⟨of1, f1, f2, f3, f4, f5, od1, es1, ep1, f6, f7⟩⟩ := H.hw _ _ hW
  have kp : ∀ a o, a ≠ la.aP → h.get? a = some o → h'.get? a = some o := fun a o q e => (k.2 a q).trans e
  have e1' := kp _ _ (Ne.symm ap.pl) e1
  have hd1 := hd _ e1
  refine H.upd _ _ _ _ hW (fun a o _ _ _ q e => kp a o q e) ⟨⟨mA, ⟨o1, e1', c1, n1, ?_⟩, x⟩, fun o e => by rw [e1'] at e; cases e; exact hd1, ⟨vs, hs, hr⟩, ⟨t1, u1, os1, kp _ _ ap.sp hs1, hs2, ns1, hs3⟩, ⟨of1, kp _ _ ap.fp f1, f2, f3, f4, f5, od1, es1, ep1, kp _ _ ap.dp f6, f7⟩⟩
  rcases d1 with d1 | ⟨dx, q1, q2, q3⟩
  · rw [hd1] at d1; cases d1.1
  · rw [hd1] at q1; cases q1
    exact .inr ⟨_, hd1, q2, q3.sameBut k (Ne.symm ap.pd)⟩

theorem HasLex.pushList (H : HasLex C la) : ∀ h, C.W g h → ∃ vs, h.PlainList la.aP vs := fun h hW => let ⟨vs, e, _⟩ := (H.hw _ _ hW).push; ⟨_, e⟩
theorem HasLex.pushTrue (H : HasLex C la) (hn : (H.get g).push.length < 1000) : ∀ h, C.W g h → ∃ vs, h.IsList la.aP vs ∧ (vs.size : Int) < 2 ^ 63 ∧ (!vs.isEmpty) = !(H.get g).push.isEmpty := fun h hW => by
  obtain ⟨vs, e, r⟩ := (H.hw _ _ hW).push
  have hl := (r (fun _ => False) h).length
  rw [List.length_map] at hl
  refine ⟨_, e.isList, by rw [List.size_toArray]; omega, ?_⟩
  cases vs with
  | nil => cases hp : (H.get g).push with
    | nil => rfl
    | cons => rw [hp] at hl; simp at hl
  | cons => cases hp : (H.get g).push with
    | nil => rw [hp] at hl; simp at hl
    | cons => rfl
theorem HasLex.append (H : HasLex C la) {x : List Nat} (hn : (H.get g).push.length < 1000) : ∀ h X u, C.W g h → Rep X h u (.str x) → ∃ vs, h.PlainList la.aP vs ∧ vs.size ≤ sizeLine ∧ ∀ h', h'.PlainList la.aP (vs.push u) → Heap.SameBut la.aP h h' → C.W (H.put g { H.get g with push := (H.get g).push ++ [x] }) h' := fun h X u hW hr => by
  obtain ⟨vs, e, r⟩ := (H.hw _ _ hW).push
  have hl := (r (fun _ => False) h).length
  rw [List.length_map] at hl
  refine ⟨_, e, by rw [List.size_toArray, sizeLine_eq]; omega, fun h' hp hs => ?_⟩
  cases hr with
  | str x t =>
    refine H.put_push hW (vs := vs ++ [.str ⟨x.toArray⟩ t]) (by simpa using hp) (fun X h'' => ?_) hs
    rw [List.map_append]
    exact (r X h'').append (.cons (.str _ _) .nil)
theorem HasLex.pop (H : HasLex C la) {x : List Nat} {xs : List (List Nat)} (hp : (H.get g).push = x :: xs) (hn : xs.length < 1000) : ∀ h X, C.W g h → ∃ v vs, h.PlainList la.aP (v :: vs).toArray ∧ vs.length < sizeLine ∧ Rep X h v (.str x) ∧ (∀ h', Rep X h' v (.str x)) ∧
    ∀ h', h'.PlainList la.aP vs.toArray → Heap.SameBut la.aP h h' → C.W (H.put g { H.get g with push := xs }) h' := fun h X hW => by
  obtain ⟨vs, e, r⟩ := (H.hw _ _ hW).push
  rw [hp] at r
  have hl := (r (fun _ => False) h).length
  cases vs with
  | nil => simp at hl
  | cons v vs =>
    simp only [List.length_cons, List.length_map] at hl
    have r1 : ∀ X h', Rep X h' v (.str x) := fun X h' => by cases r X h' with | cons a b => exact a
    have r2 : ∀ X h', Reps X h' vs (xs.map .str) := fun X h' => by cases r X h' with | cons a b => exact b
    exact ⟨v, vs, e, by rw [sizeLine_eq]; omega, r1 _ _, r1 _, fun h' hp' hs => H.put_push hW hp' r2 hs⟩
end
end Mine
end

section
namespace Mine
open PySem PySem.Calls PyProof.Rows PySem.W

noncomputable abbrev Cx.withW (C : Cx) (V : Wd) : Cx := { C with M := V.M, G := V.G, W := V.W }
/-- a frame whose world is that of the lexer -/
noncomputable def hasLexW {C : Cx} {V : Wd} {la : LA} (hV : V.Ok)
    (hdis : ∀ a, V.M a → a ≠ la.aS ∧ a ≠ la.aL ∧ a ≠ la.aLd ∧ a ≠ la.aP) (hT : ∀ h, C.T h → ClsOk la h) (ap : [la.aL, la.aLd, la.aP, la.aS, la.aFn, la.aFd].Nodup) : HasLex (C.withW (LexV V la)) la where
  get := Prod.snd
  put := fun g l => (g.1, l)
  hw := fun g h hw => hw.2
  cls := hT
  upd := fun g l h h' hw k nl => by
    refine ⟨hV.stab _ _ _ hw.1 fun a o hm e => ?_, nl⟩
    have ne : a ≠ la.aS ∧ a ≠ la.aL ∧ a ≠ la.aLd ∧ a ≠ la.aP := by
      rcases hm with hm | hr
      · exact hdis a hm
      · obtain ⟨⟨mA, ⟨o1, e1, c1, n1, d1⟩, r⟩, hd, ⟨vs, ⟨n, hp⟩, hps⟩, ⟨t, u, o2, ho, hc, n', hs⟩, hf⟩ := hw.2
        refine ⟨?_, ?_, ?_, ?_⟩
        · rintro rfl; rw [ho] at e; cases e; exact absurd (hc.symm.trans hr.1) (by simp)
        · rintro rfl; rw [e1] at e; cases e; exact absurd (c1.symm.trans hr.1) (by simp)
        · rintro rfl
          have hd1 := hd _ e1
          rcases d1 with d1 | ⟨dx, q1, q2, o4, es4, ep4, x1, x2, _⟩
          · rw [hd1] at d1; cases d1.1
          · rw [hd1] at q1; cases q1
            rw [x1] at e; cases e
            obtain ⟨_, vs, q⟩ := hr
            rw [x2] at q; cases q
        · rintro rfl; rw [hp] at e; cases e; exact absurd hr.1 (by simp)
    exact k a o ne.1 ne.2.1 ne.2.2.1 ne.2.2.2 e
  mS := .inl (.inl (.inl (.inl (.inr rfl))))
  mL := .inr (.inl rfl)
  mLd := .inr (.inr (.inl rfl))
  mP := .inr (.inr (.inr rfl))
  ap := ap
  gp := fun _ _ => rfl
  pp := fun _ _ _ => rfl
  pg := fun _ => rfl

noncomputable def hasLexF {prog : Program} {w : World} {T : Heap → Prop} {V : Wd} {la : LA} {d : Nat} {fd : FuncData} {names : List Str} {a : Addr} {cells : List (Str × Addr)} {A : Around} {X : Addr → Prop} {s : Shared} (hV : V.Ok)
    (hdis : ∀ a, V.M a → a ≠ la.aS ∧ a ≠ la.aL ∧ a ≠ la.aLd ∧ a ≠ la.aP) (hT : ∀ h, T h → ClsOk la h) (ap : [la.aL, la.aLd, la.aP, la.aS, la.aFn, la.aFd].Nodup) : HasLex (frameW prog w T (LexV V la) d fd names a cells A X s) la :=
  hasLexW (C := frameW prog w T (LexV V la) d fd names a cells A X s) hV hdis hT ap

/-- the same, with an iterator more -/
noncomputable def HasLex.more {C : Cx} {la : LA} (H : HasLex C la) {s₁ : Shared} {K : Addr → Prop} {it : Addr} {o : Bool → Obj} {T' : Heap → Prop} (hT : ∀ h, T' h → C.T h) (hit : it ≠ la.aS ∧ it ≠ la.aL ∧ it ≠ la.aLd ∧ it ≠ la.aP) :
    HasLex (C.turn s₁ K (fun a => a = it) (C.G × Bool) (fun g h => C.W g.1 h ∧ h.get? it = some (o g.2)) T') la where
  get := fun g => H.get g.1
  put := fun g l => (H.put g.1 l, g.2)
  hw := fun g h hw => H.hw _ _ hw.1
  cls := fun h t => H.cls h (hT h t)
  upd := fun g l h h' hw k nl => ⟨H.upd _ _ _ _ hw.1 k nl, k it _ hit.1 hit.2.1 hit.2.2.1 hit.2.2.2 hw.2⟩
  mS := .inl H.mS
  mL := .inl H.mL
  mLd := .inl H.mLd
  mP := .inl H.mP
  ap := H.ap
  gp := fun _ _ => H.gp _ _
  pp := fun _ _ _ => by rw [H.pp]
  pg := fun g => by rw [H.pg]; rfl

section
variable {C : Cx} {la : LA} {s₁ : Shared} {K : Addr → Prop} {it bm f : Addr} {t : Tok} {T' : Heap → Prop} {self : Addr} {g g₁ : C.G} {fo : Obj} {fd : FuncData} {dd : Nat} {x : List Nat}

theorem nextW_off (hC : C.Ok) (hst : Wd.Ok ⟨fun a => C.M a ∨ a = it, C.G × Bool, fun g h => C.W g.1 h ∧ h.get? it = some (itObj bm t g.2)⟩) : NextW (C.turn s₁ K (fun a => a = it) (C.G × Bool) (fun g h => C.W g.1 h ∧ h.get? it = some (itObj bm t g.2)) T') (g, true) it none (g, true) := fun X s Q hX hM hT hW hQ =>
  next_off hC.handled hW.2 fun h' k => hQ none _ rfl ⟨⟨rfl, rfl, rfl⟩, fun a o _ e => k a o e, hst.stab (g, true) _ _ hW fun a o _ e => k a o e⟩

theorem nextW_on (hC : C.Ok) (hst : Wd.Ok ⟨fun a => C.M a ∨ a = it, C.G × Bool, fun g h => C.W g.1 h ∧ h.get? it = some (itObj bm t g.2)⟩) (hit : ¬ C.M it)
    (hT : ∀ h, T' h → C.T h ∧ h.get? bm = some (PySem.W.methodObj (.ref f) (.ref self)) ∧ h.get? f = some fo) (hnM : ¬ C.M bm ∧ ¬ C.M f ∧ bm ≠ it ∧ f ≠ it) (hd : fo.data = .func fd)
    (hf : FnW C.prog C.w C.T C.wd dd (.ref f) g [.obj self] (.str x) g₁) (hdd : dd < C.d) :
    NextW (C.turn s₁ K (fun a => a = it) (C.G × Bool) (fun g h => C.W g.1 h ∧ h.get? it = some (itObj bm t g.2)) T') (g, false) it (if x = [] then none else some (.str x)) (g₁, x.isEmpty) := fun X s Q hX hM hTs hW hQ => by
  obtain ⟨hT0, hT1, hT2⟩ := hT _ hTs
  have hR : Room dd C.A.in1 := by
    have h1 := hC.handled; have h2 := hC.depth; have h3 := hC.units
    exact ⟨h1, by show C.A.depth + dd < _; omega, by show C.A.units + 1 + 20 * dd + 200 < _; omega⟩
  refine next_on hC.handled hW.2 hT1 hT2 hd (codeAny_mono (hf C.A.in1 X s [.ref self] hR hT0 hX (fun a m => hM a (.inl m)) hW.1 (.cons (.obj _) .nil)) fun r s' q => ?_)
  match r, q with
  | .ok (.ret z), ⟨q1, q2, q3, q4⟩ =>
    cases q1 with
    | str x u =>
      refine ⟨_, u, rfl, q3 _ _ hit hW.2, q3 _ _ hnM.1 hT1, q3 _ _ hnM.2.1 hT2, fun hx => ?_, fun hx h' k e' => ?_⟩
      · have hx' : x ≠ [] := fun e => hx (by subst e; rfl)
        rw [if_neg hx'] at hQ
        refine hQ _ s' ⟨_, rfl, .str _ _⟩ ⟨q2, fun a o hm e => q3 a o (fun m => hm (.inl m)) e, ?_⟩
        rw [List.isEmpty_eq_false_iff.mpr hx']
        exact ⟨q4, q3 _ _ hit hW.2⟩
      · have hx' : x = [] := by
          have := congrArg (fun s : Str => s.cps.toList) hx
          simpa using this
        subst hx'
        refine hQ none _ rfl ⟨q2, fun a o hm e => k a o (fun z => hm (.inr z)) (q3 a o (fun m => hm (.inl m)) e), ?_, e'⟩
        refine hC.stab _ _ _ q4 fun a o hm e => k a o ?_ e
        rintro rfl
        rcases hm with hm | hr
        · exact hit hm
        · have e2 := q3 _ _ hit hW.2
          rw [e2] at e; cases e
          exact absurd hr.1 (by simp [itObj])
end
end Mine
end

section
open Mine
local macro_rules | `(tactic| walk_at "m_mem") => `(tactic| first | with_reducible exact List.mem_cons_self | (apply List.mem_cons_of_mem; walk_at "m_mem"))
local macro_rules | `(tactic| walk_at "m_put") => `(tactic| first | ((with_reducible refine Put.here ?_); (first | rfl | assumption)) | (apply Put.there; walk_at "m_put"))
local macro_rules | `(tactic| walk_at "m_op") => `(tactic| with_reducible first | exact op_add | exact op_sub | exact op_mul | exact op_and | exact op_xor | exact op_shr (by decide) | exact op_eqs | exact op_eq | exact op_ge | exact op_ishr (by decide))
local macro_rules | `(tactic| walk_at "m_ev") => `(tactic| with_reducible first
  | exact Ev.int
  | exact Ev.str rfl
  | exact Ev.bool
  | exact Ev.none
  | (apply Ev.name (by assumption); walk_at "m_mem")
  | (apply Ev.bin (by assumption); walk_at "m_ev"; walk_at "m_ev"; walk_at "m_op"))
local macro_rules | `(tactic| walk_at "m_weak") => `(tactic| first | exact Weak.nil | ((with_reducible apply Weak.keep); walk_at "m_weak") | ((with_reducible refine Weak.drop ?_ ?_); (first | rfl | assumption); walk_at "m_weak") | ((with_reducible refine Weak.val ?_ ?_); rotate_left; walk_at "m_weak") | ((with_reducible refine Weak.own ?_ ?_); rotate_left; walk_at "m_weak"))

section
namespace Mine
open PySem PySem.Calls PyProof.Rows PySem.W

noncomputable abbrev theProg : Program := PySem.Challenge.pw_pk0026_02
noncomputable abbrev iCls : Nat := 3
noncomputable abbrev iCrc : Nat := 1
noncomputable def bodyOf (p : Program) (i : Nat) : List Stmt := match p.main.body[i]? with
  | some (.FunctionDef _ _ b _ _ _ _ _ _ _) => b
  | _ => []
noncomputable def methOf (p : Program) (i j : Nat) : List Stmt := match p.main.body[i]? with
  | some (.ClassDef _ _ _ ms _ _ _ _ _ _ _) => (match ms[j]? with
    | some (.FunctionDef _ _ b _ _ _ _ _ _ _) => b
    | _ => [])
  | _ => []
noncomputable abbrev en (x : String) (v : LV) : Str × LV := (Str.ofString x, v)

section
variable {C : Cx} {la : LA} {g g₁ : C.G}

theorem readChar_body (hC : C.Ok) (H : HasLex C la) {dd : Nat} {x : List Nat} (hf : ∃ o fd, o.data = .func fd ∧ ∀ h, C.T h → h.get? la.aRd = some o)
    (hr : FnW C.prog C.w C.T C.wd dd (.ref la.aRd) g [.int 1] (.str x) g₁) (hd : dd ≤ C.d) :
    St C [en "self" (.val (.obj la.aL)), en "ch" .undef] g (methOf theProg iCls 1) (fun fl _ g' => fl = .ret (.str x) ∧ g' = if x = [10] then H.put g₁ { H.get g₁ with line := (H.get g₁).line + 1 } else g₁) := by
  refine St.cons (St1.assign hC (Ev.meth (first := []) (qs := []) hC (Ev.attr hC (by walk_at "m_ev") H.instream) H.mRead (fun _ _ => .nil) hf (EvL.cons hC Ev.int EvL.nil) hr hd) (by walk_at "m_put") ?_)
  refine St.cons (St1.ifs hC (EvB.cmp hC (by walk_at "m_ev") (by walk_at "m_ev") (by walk_at "m_op")) (fun h => ?_) fun h => ?_)
  · refine St.one (St1.augAttrW hC (by walk_at "m_ev") H.lineno Ev.int op_iadd (H.setLine (n := (H.get g₁).line + 1)) ?_)
    refine St.one (St1.ret hC (by walk_at "m_ev") ⟨rfl, ?_⟩)
    have h' : (x == [10]) = true := h
    rw [if_pos (by simpa using h')]
  · refine St.nil ?_
    refine St.one (St1.ret hC (by walk_at "m_ev") ⟨rfl, ?_⟩)
    have h' : (x == [10]) = false := h
    rw [if_neg (by simpa using h')]

theorem push_body (hC : C.Ok) (H : HasLex C la) {x : List Nat} (hn : (H.get g).push.length < 1000) (hi : interactive C.env = false) :
    St C [en "self" (.val (.obj la.aL)), en "token" (.val (.str x))] g (methOf theProg iCls 3) (fun fl _ g' => fl = .next ∧ g' = H.put g { H.get g with push := (H.get g).push ++ [x] }) := by
  refine St.one (St1.expr hC (Ev.appendW hC (Ev.attr hC (by walk_at "m_ev") H.pushback) (by walk_at "m_ev") H.mP H.pushList (H.append hn)) ⟨rfl, rfl⟩ hi)
end
end Mine
end

section
namespace Mine
open PySem PySem.Calls PyProof.Rows PySem.W

/-! what the lexer reads -/
noncomputable def sgn (text : List Nat) (l : LG) : List Nat := (text[l.pos]?).toList
noncomputable def nxt (text : List Nat) (crc : Nat → Nat → Nat) (l : LG) : LG := match text[l.pos]? with
  | some c => { l with pos := l.pos + 1, reg := crc l.reg c, line := if c = 10 then l.line + 1 else l.line }
  | none => l
noncomputable def adv (text : List Nat) (crc : Nat → Nat → Nat) : Nat → LG → LG
  | 0, l => l
  | n + 1, l => adv text crc n (nxt text crc l)

noncomputable def bareTok : List Nat → List Nat × Nat
  | [] => ([], 0)
  | c :: r => if c ∈ ws then ([], 1) else if c = 92 then (match r with
      | [] => ([], 1)
      | c' :: r' => (c' :: (bareTok r').1, (bareTok r').2 + 2))
    else (c :: (bareTok r).1, (bareTok r).2 + 1)
noncomputable def quoteTok : List Nat → List Nat × Nat
  | [] => ([], 0)
  | c :: r => if c = 34 then ([], 1) else if c = 92 then (match r with
      | [] => ([], 1)
      | c' :: r' => (c' :: (quoteTok r').1, (quoteTok r').2 + 2))
    else (c :: (quoteTok r).1, (quoteTok r).2 + 1)
noncomputable def lexTok : List Nat → List Nat × Nat
  | [] => ([], 0)
  | c :: r => if c ∈ ws then ((lexTok r).1, (lexTok r).2 + 1) else if c = 34 then ((quoteTok r).1, (quoteTok r).2 + 1) else if c = 92 then (match r with
      | [] => ([], 1)
      | c' :: r' => (c' :: (bareTok r').1, (bareTok r').2 + 2))
    else (c :: (bareTok r).1, (bareTok r).2 + 1)

section
variable {C : Cx} {la : LA} {ρ : Env'} {g g₁ : C.G}

theorem iter_new (hC : C.Ok) (H : HasLex C la) (hg : GlobIs C "iter" (.builtin "iter")) (hs : (Str.ofString "self", LV.val (.obj la.aL)) ∈ ρ) {p1 p2 p3 p4 p5 : Pos} {k : Nat} {O : List (Str × Addr)} {s : Shared} (I : Inv C ρ O g s)
    (he : eval (.Attribute (.Name "self" p2) "_read_char" p3) C.env = (do
      let o ← eval (.Name "self" p2) C.env
      standAt p3.atName
      let r ← holding [o] (getAttr o "_read_char" true)
      letTemporaryGo (.Name "self" p2) o r
      pure r) := by with_unfolding_all rfl) :
    wpAny C.mod C.A (eval (.Call (.Name "iter" p1) [.Attribute (.Name "self" p2) "_read_char" p3, .Constant (.str "") k p4] [] p5) C.env) (fun u s₁ => ∃ it bm t, u = .ref it ∧ s.heap.get? it = none ∧ s.heap.get? bm = none ∧ bm ≠ it ∧
      s₁.heap.get? it = some (itOn bm t) ∧ s₁.heap.get? bm = some (methodObj (.ref la.fR) (.ref la.aL)) ∧ (s₁.gens = s.gens ∧ s₁.drawn = s.drawn ∧ s₁.os = s.os) ∧ C.W g s₁.heap ∧ ∀ a o, ¬ C.M a → s.heap.get? a = some o → s₁.heap.get? a = some o) NoE s := by
  refine wpAny_Call_NameR (eval_glob hC hg I (callWith_builtin rfl (evalArgs_any rfl ?_)))
  refine spliced_cons (Attribute_any_ (wpAny_mono (Ev.name hC hs O s I) (fun o s₁ ⟨r, st⟩ => ?_) fun _ _ x => x) he)
  obtain rfl := Rep.of_obj r
  case _ =>
    have I1 := I.step hC st
    obtain ⟨nm, q, bs, sn, sub, ab, col, dd, k0, k1, k2, k3, k5, newId, mN, oR, oG, oP, hCl, hn, z1, z2, z3, z4, z5, z6, z7, y1, y2, y3, y4, y5, y6, y7, y8, y9, _⟩ := H.cls _ (I1.top hC)
    obtain ⟨mA, Ia, _, _, _, _, x1, x2, x3, _⟩ := (H.hw _ _ I1.world).inst
    have f0 : ∀ a, s₁.heap.get? a = none → s.heap.get? a = none := fun a e => st.fresh hC e
    have hk := st.keep
    have hr := st.rest
    have hw1 := I1.world
    obtain ⟨h1, g1, d1, t1, os1⟩ := s₁
    refine load_bound hCl hn z1 z2 y1 y4 y5 lko_read_char Ia x1 (by decide) ?_
    refine spliced_cons (wpAny_Constant_str (k := k) (pos := p4) (spliced_nil ?_))
    refine call_iter2 (fv := .ref la.fR) (self := .ref la.aL) (Heap.get?_push_size _ rfl) ?_
    have k2 : ∀ a o, h1.get? a = some o → ((h1.push (methodObj (.ref la.fR) (.ref la.aL))).push (itOn h1.objs.size (t1 + 1))).get? a = some o := fun a o e => Heap.get?_push_of_some _ (Heap.get?_push_of_some _ e)
    refine ⟨_, h1.objs.size, t1 + 1, rfl, ?_, f0 _ (get_size_none _), ?_, Heap.get?_push_size _ rfl, Heap.get?_push_of_some _ (Heap.get?_push_size _ rfl), hr, hC.stab _ _ _ hw1 fun a o _ e => k2 a o e, fun a o hm e => k2 a o (hk a o hm e)⟩
    · refine f0 _ ?_
      show h1.get? (h1.push _).objs.size = none
      exact none_of_le (by rw [Heap.size_push]; omega)
    · rw [Heap.size_push]; exact Nat.ne_of_lt (Nat.lt_succ_self _)

theorem adv_succ {text : List Nat} {crc : Nat → Nat → Nat} {n : Nat} {l : LG} : adv text crc (n + 1) l = adv text crc n (nxt text crc l) := rfl

theorem drop_cons {text : List Nat} {l : LG} {c : Nat} {r : List Nat} {crc : Nat → Nat → Nat} (h : text.drop l.pos = c :: r) : text[l.pos]? = some c ∧ text.drop (nxt text crc l).pos = r ∧ (nxt text crc l).push = l.push := by
  have h1 : text[l.pos]? = some c := by
    have := congrArg (fun z => z[0]?) h
    simpa using this
  have h2 : nxt text crc l = { l with pos := l.pos + 1, reg := crc l.reg c, line := if c = 10 then l.line + 1 else l.line } := by
    unfold nxt; rw [h1]
  refine ⟨h1, ?_, by rw [h2]⟩
  rw [h2]
  show text.drop (l.pos + 1) = r
  rw [← List.drop_drop, h]; rfl
theorem drop_nil {text : List Nat} {l : LG} {crc : Nat → Nat → Nat} (h : text.drop l.pos = []) : text[l.pos]? = none ∧ nxt text crc l = l := by
  have h1 : text[l.pos]? = none := by
    have := congrArg (fun z => z[0]?) h
    simpa using this
  exact ⟨h1, by unfold nxt; rw [h1]⟩
end
end Mine
end

section
namespace Mine
open PySem PySem.Calls PyProof.Rows PySem.W

noncomputable def inner1 : Stmt := match methOf theProg iCls 2 with
  | [_, _, _, .For _ _ [_, .If _ [f1] [_, _, f2] _] _ _, _] => f1
  | _ => .Pass ⟨0, 0, 0, 0⟩
noncomputable def inner2 : Stmt := match methOf theProg iCls 2 with
  | [_, _, _, .For _ _ [_, .If _ [f1] [_, _, f2] _] _ _, _] => f2
  | _ => .Pass ⟨0, 0, 0, 0⟩
noncomputable def incr1 : List Stmt := match inner1 with
  | .For _ _ [_, a] _ _ => [a]
  | _ => []
noncomputable def incr2 : List Stmt := match inner2 with
  | .For _ _ [_, a] _ _ => [a]
  | _ => []
noncomputable def outer : Stmt := match methOf theProg iCls 2 with
  | [_, _, _, f, _] => f
  | _ => .Pass ⟨0, 0, 0, 0⟩

/-- the frame of get_token once its iterator stands -/
structure TokCx (C : Cx) (la : LA) (text : List Nat) (crc : Nat → Nat → Nat) (it : Addr) (st : LG → Bool → C.G) where
  ok : C.Ok
  dd : Nat
  hd : dd ≤ C.d
  white : ∀ l b, GAttr C (st l b) la.aL "whitespace" (.str ws)
  meth : ∀ l b, GMeth C (st l b) la.aL "_read_char" (.ref la.fR) [.ref la.aL]
  fn : ∃ o fd, o.data = .func fd ∧ ∀ h, C.T h → h.get? la.fR = some o
  read : ∀ l b, FnW C.prog C.w C.T C.wd dd (.ref la.fR) (st l b) [.obj la.aL] (.str (sgn text l)) (st (nxt text crc l) b)
  off : ∀ l, NextW C (st l true) it none (st l true)
  on : ∀ l, NextW C (st l false) it (if sgn text l = [] then none else some (.str (sgn text l))) (st (nxt text crc l) (sgn text l).isEmpty)
  iter : ∀ l b (s : Shared) (Q : Value → Shared → Prop), C.W (st l b) s.heap → Q (.ref it) s → wpAny C.mod C.A (pyIter (.ref it)) Q NoE s
  pos : C.G → Nat
  hpos : ∀ l b, pos (st l b) = l.pos

section
variable {C : Cx} {la : LA} {text : List Nat} {crc : Nat → Nat → Nat} {it : Addr} {st : LG → Bool → C.G} {P : Fl → Env' → C.G → Prop}

noncomputable abbrev tokEnv (la : LA) (tk : List Nat) (it : Addr) (v : LV) : Env' := [en "self" (.val (.obj la.aL)), en "token" (.val (.str tk)), en "fiter" (.val (.obj it)), en "ch" v]

theorem quoteTok_end {r : List Nat} : quoteTok (34 :: r) = ([], 1) := by cases r <;> simp [quoteTok]
theorem quoteTok_other {c : Nat} {r : List Nat} (h1 : c ≠ 34) (h2 : c ≠ 92) : quoteTok (c :: r) = (c :: (quoteTok r).1, (quoteTok r).2 + 1) := by cases r <;> simp [quoteTok, h1, h2]
theorem bareTok_end {c : Nat} {r : List Nat} (h : c ∈ ws) : bareTok (c :: r) = ([], 1) := by cases r <;> simp [bareTok, h]
theorem bareTok_other {c : Nat} {r : List Nat} (h1 : c ∉ ws) (h2 : c ≠ 92) : bareTok (c :: r) = (c :: (bareTok r).1, (bareTok r).2 + 1) := by cases r <;> simp [bareTok, h1, h2]
theorem nxt_some {l : LG} {c : Nat} (h : text[l.pos]? = some c) : (nxt text crc l).pos = l.pos + 1 ∧ sgn text l = [c] ∧ l.pos < text.length := by
  refine ⟨by unfold nxt; rw [h], by unfold sgn; rw [h]; rfl, ?_⟩
  exact (List.getElem?_eq_some_iff.mp h).1

theorem quote_loop (T : TokCx C la text crc it st) {tk t : List Nat} {l lN : LG} (ht : tk ++ (quoteTok (text.drop l.pos)).1 = t) (hl : adv text crc (quoteTok (text.drop l.pos)).2 l = lN) (hlen : t.length ≤ 16000000)
    (hret : ∀ ρ', P (.ret (.str t)) ρ' (st lN false)) (hnext : P .next (tokEnv la t it .undef) (st lN true)) : St1 C (tokEnv la tk it .undef) (st l false) inner1 P := by
  have hC := T.ok
  refine St1.forW hC (a := it) (by walk_at "m_mem") (T.iter _ _) (fun ρ g => ∃ tk l, ρ = tokEnv la tk it .undef ∧ g = st l false ∧ tk ++ (quoteTok (text.drop l.pos)).1 = t ∧ adv text crc (quoteTok (text.drop l.pos)).2 l = lN) (fun g => text.length - T.pos g) ⟨tk, l, rfl, rfl, ht, hl⟩ ?_
  rintro ρ₁ g₁ ⟨tk, l, rfl, rfl, ht, hl⟩
  cases hr : text.drop l.pos with
  | nil =>
    obtain ⟨e1, e2⟩ := drop_nil (crc := crc) hr
    have hsg : sgn text l = [] := by unfold sgn; rw [e1]; rfl
    have hn := T.on l
    rw [hsg, e2] at hn
    rw [hr] at ht hl
    refine .inl ⟨_, hn, ?_⟩
    simp [quoteTok] at ht
    have hl' : l = lN := hl
    subst ht hl'
    exact hnext
  | cons c r =>
    obtain ⟨e1, e2, e3⟩ := drop_cons (crc := crc) hr
    obtain ⟨e4, hsg, e5⟩ := nxt_some (crc := crc) e1
    have hn : NextW C (st l false) it (some (.str [c])) (st (nxt text crc l) false) := by have hn := T.on l; rw [hsg] at hn; exact hn
    rw [hr] at ht hl
    refine .inr ⟨_, _, _, hn, by walk_at "m_put", ?_⟩
    have hb : ∀ (x : List Nat) (l' : LG), (tk ++ x) ++ (quoteTok (text.drop l'.pos)).1 = t → adv text crc (quoteTok (text.drop l'.pos)).2 l' = lN → l.pos < l'.pos → x.length ≤ 1 →
        St C (tokEnv la tk it (.val (.str x))) (st l' false) incr1 (TurnW C (fun ρ g => ∃ tk l, ρ = tokEnv la tk it .undef ∧ g = st l false ∧ tk ++ (quoteTok (text.drop l.pos)).1 = t ∧ adv text crc (quoteTok (text.drop l.pos)).2 l = lN) (fun g => text.length - T.pos g) (text.length - T.pos (st l false)) P) := fun x l' h1 h2 h3 h4 => by
      refine St.one (St1.aug hC (by walk_at "m_mem") (by walk_at "m_ev") (op_icat ?_) (by walk_at "m_put") ⟨_, ?_, ⟨tk ++ x, l', rfl, rfl, h1, h2⟩, ?_⟩)
      · have := congrArg List.length h1
        simp only [List.length_append] at this
        omega
      · walk_at "m_weak"
      · show text.length - T.pos (st l' false) < text.length - T.pos (st l false)
        rw [T.hpos, T.hpos]
        omega
    refine St.cons (St1.ifs hC (EvB.cmp hC (by walk_at "m_ev") (by walk_at "m_ev") (by walk_at "m_op")) (fun h => ?_) fun h => ?_)
    · have h' : ([c] == [34]) = true := h
      have hc : c = 34 := by simpa using h'
      subst hc
      rw [quoteTok_end] at ht hl
      simp only [List.append_nil] at ht
      have hl' : nxt text crc l = lN := hl
      subst ht hl'
      exact St.one (St1.ret hC (by walk_at "m_ev") (hret _))
    · have h' : ([c] == [34]) = false := h
      have hc : c ≠ 34 := by simpa using h'
      refine St.one (St1.ifs hC (EvB.cmp hC (by walk_at "m_ev") (by walk_at "m_ev") (by walk_at "m_op")) (fun h2 => ?_) fun h2 => ?_)
      · have h2' : ([c] == [92]) = true := h2
        have hc2 : c = 92 := by simpa using h2'
        subst hc2
        refine St.one (St1.assign hC (Ev.meth (first := [.ref la.aL]) (qs := [.obj la.aL]) hC (by walk_at "m_ev") (T.meth _ _) (fun _ _ => .cons (.obj _) .nil) T.fn EvL.nil (T.read _ _) T.hd) (by walk_at "m_put") ?_)
        cases r with
        | nil =>
          obtain ⟨f1, f2⟩ := drop_nil (crc := crc) e2
          have hsg2 : sgn text (nxt text crc l) = [] := by unfold sgn; rw [f1]; rfl
          rw [hsg2, f2]
          have hl' : nxt text crc l = lN := hl
          refine hb [] _ ?_ ?_ (by omega) (by simp)
          · rw [e2]; simpa [quoteTok] using ht
          · rw [e2]; exact hl'
        | cons c' r' =>
          obtain ⟨f1, f2, f3⟩ := drop_cons (crc := crc) e2
          obtain ⟨f4, hsg2, f5⟩ := nxt_some (crc := crc) f1
          rw [hsg2]
          refine hb [c'] _ ?_ ?_ (by omega) (by simp)
          · rw [f2]; simpa [quoteTok] using ht
          · rw [f2]; simpa [quoteTok, adv] using hl
      · have h2' : ([c] == [92]) = false := h2
        have hc2 : c ≠ 92 := by simpa using h2'
        refine St.nil ?_
        refine hb [c] _ ?_ ?_ (by omega) (by simp)
        · rw [e2]; rw [quoteTok_other hc hc2] at ht; simpa using ht
        · rw [e2]; rw [quoteTok_other hc hc2] at hl; exact hl

theorem bare_loop (T : TokCx C la text crc it st) {tk t : List Nat} {l lN : LG} (ht : tk ++ (bareTok (text.drop l.pos)).1 = t) (hl : adv text crc (bareTok (text.drop l.pos)).2 l = lN) (hlen : t.length ≤ 16000000)
    (hret : ∀ ρ', P (.ret (.str t)) ρ' (st lN false)) (hnext : P .next (tokEnv la t it .undef) (st lN true)) : St1 C (tokEnv la tk it .undef) (st l false) inner2 P := by
  have hC := T.ok
  refine St1.forW hC (a := it) (by walk_at "m_mem") (T.iter _ _) (fun ρ g => ∃ tk l, ρ = tokEnv la tk it .undef ∧ g = st l false ∧ tk ++ (bareTok (text.drop l.pos)).1 = t ∧ adv text crc (bareTok (text.drop l.pos)).2 l = lN) (fun g => text.length - T.pos g) ⟨tk, l, rfl, rfl, ht, hl⟩ ?_
  rintro ρ₁ g₁ ⟨tk, l, rfl, rfl, ht, hl⟩
  cases hr : text.drop l.pos with
  | nil =>
    obtain ⟨e1, e2⟩ := drop_nil (crc := crc) hr
    have hsg : sgn text l = [] := by unfold sgn; rw [e1]; rfl
    have hn := T.on l
    rw [hsg, e2] at hn
    rw [hr] at ht hl
    refine .inl ⟨_, hn, ?_⟩
    simp [bareTok] at ht
    have hl' : l = lN := hl
    subst ht hl'
    exact hnext
  | cons c r =>
    obtain ⟨e1, e2, e3⟩ := drop_cons (crc := crc) hr
    obtain ⟨e4, hsg, e5⟩ := nxt_some (crc := crc) e1
    have hn : NextW C (st l false) it (some (.str [c])) (st (nxt text crc l) false) := by have hn := T.on l; rw [hsg] at hn; exact hn
    rw [hr] at ht hl
    refine .inr ⟨_, _, _, hn, by walk_at "m_put", ?_⟩
    have hb : ∀ (x : List Nat) (l' : LG), (tk ++ x) ++ (bareTok (text.drop l'.pos)).1 = t → adv text crc (bareTok (text.drop l'.pos)).2 l' = lN → l.pos < l'.pos → x.length ≤ 1 →
        St C (tokEnv la tk it (.val (.str x))) (st l' false) incr2 (TurnW C (fun ρ g => ∃ tk l, ρ = tokEnv la tk it .undef ∧ g = st l false ∧ tk ++ (bareTok (text.drop l.pos)).1 = t ∧ adv text crc (bareTok (text.drop l.pos)).2 l = lN) (fun g => text.length - T.pos g) (text.length - T.pos (st l false)) P) := fun x l' h1 h2 h3 h4 => by
      refine St.one (St1.aug hC (by walk_at "m_mem") (by walk_at "m_ev") (op_icat ?_) (by walk_at "m_put") ⟨_, ?_, ⟨tk ++ x, l', rfl, rfl, h1, h2⟩, ?_⟩)
      · have := congrArg List.length h1
        simp only [List.length_append] at this
        omega
      · walk_at "m_weak"
      · show text.length - T.pos (st l' false) < text.length - T.pos (st l false)
        rw [T.hpos, T.hpos]
        omega
    refine St.cons (St1.ifs hC (EvB.cmp hC (by walk_at "m_ev") (Ev.attr hC (by walk_at "m_ev") (T.white _ _)) op_in) (fun h => ?_) fun h => ?_)
    · have hc : c ∈ ws := of_decide_eq_true h
      rw [bareTok_end hc] at ht hl
      simp only [List.append_nil] at ht
      have hl' : nxt text crc l = lN := hl
      subst ht hl'
      exact St.one (St1.ret hC (by walk_at "m_ev") (hret _))
    · have hc : c ∉ ws := of_decide_eq_false h
      refine St.one (St1.ifs hC (EvB.cmp hC (by walk_at "m_ev") (by walk_at "m_ev") (by walk_at "m_op")) (fun h2 => ?_) fun h2 => ?_)
      · have h2' : ([c] == [92]) = true := h2
        have hc2 : c = 92 := by simpa using h2'
        subst hc2
        refine St.one (St1.assign hC (Ev.meth (first := [.ref la.aL]) (qs := [.obj la.aL]) hC (by walk_at "m_ev") (T.meth _ _) (fun _ _ => .cons (.obj _) .nil) T.fn EvL.nil (T.read _ _) T.hd) (by walk_at "m_put") ?_)
        cases r with
        | nil =>
          obtain ⟨f1, f2⟩ := drop_nil (crc := crc) e2
          have hsg2 : sgn text (nxt text crc l) = [] := by unfold sgn; rw [f1]; rfl
          rw [hsg2, f2]
          have hl' : nxt text crc l = lN := hl
          refine hb [] _ ?_ ?_ (by omega) (by simp)
          · rw [e2]; simpa [bareTok, ws] using ht
          · rw [e2]; exact hl'
        | cons c' r' =>
          obtain ⟨f1, f2, f3⟩ := drop_cons (crc := crc) e2
          obtain ⟨f4, hsg2, f5⟩ := nxt_some (crc := crc) f1
          rw [hsg2]
          refine hb [c'] _ ?_ ?_ (by omega) (by simp)
          · rw [f2]; simpa [bareTok, ws] using ht
          · rw [f2]; simpa [bareTok, ws, adv] using hl
      · have h2' : ([c] == [92]) = false := h2
        have hc2 : c ≠ 92 := by simpa using h2'
        refine St.nil ?_
        refine hb [c] _ ?_ ?_ (by omega) (by simp)
        · rw [e2]; rw [bareTok_other hc hc2] at ht; simpa using ht
        · rw [e2]; rw [bareTok_other hc hc2] at hl; exact hl
end
end Mine
end

section
namespace Mine
open PySem PySem.Calls PyProof.Rows PySem.W

noncomputable def incrO : List Stmt := match outer with
  | .For _ _ [_, .If _ _ [_, a, b] _] _ _ => [a, b]
  | _ => []

section
variable {C : Cx} {la : LA} {text : List Nat} {crc : Nat → Nat → Nat} {it : Addr} {st : LG → Bool → C.G} {P : Fl → Env' → C.G → Prop}

theorem Weak.refl : ∀ {ρ : Env'}, Weak ρ ρ
  | [] => .nil
  | _ :: _ => .keep Weak.refl
theorem nxt_le {l : LG} : l.pos ≤ (nxt text crc l).pos := by
  unfold nxt; split
  · exact Nat.le_succ _
  · exact Nat.le_refl _
theorem adv_le : ∀ {n : Nat} {l : LG}, l.pos ≤ (adv text crc n l).pos
  | 0, l => Nat.le_refl _
  | n + 1, l => Nat.le_trans (nxt_le (text := text) (crc := crc)) (adv_le (n := n))

theorem lexTok_ws {c : Nat} {r : List Nat} (h : c ∈ ws) : lexTok (c :: r) = ((lexTok r).1, (lexTok r).2 + 1) := by cases r <;> simp [lexTok, h]
theorem lexTok_quote {r : List Nat} : lexTok (34 :: r) = ((quoteTok r).1, (quoteTok r).2 + 1) := by cases r <;> simp [lexTok, ws]
theorem lexTok_esc {c : Nat} {r : List Nat} : lexTok (92 :: c :: r) = (c :: (bareTok r).1, (bareTok r).2 + 2) := by simp [lexTok, ws]
theorem lexTok_lone : lexTok [92] = ([], 1) := by simp [lexTok, ws]
theorem lexTok_other {c : Nat} {r : List Nat} (h : c ∉ ws) (h1 : c ≠ 34) (h2 : c ≠ 92) : lexTok (c :: r) = (c :: (bareTok r).1, (bareTok r).2 + 1) := by cases r <;> simp [lexTok, h, h1, h2]

theorem outer_loop (T : TokCx C la text crc it st) {t : List Nat} {l lN : LG} (ht : (lexTok (text.drop l.pos)).1 = t) (hl : adv text crc (lexTok (text.drop l.pos)).2 l = lN) (hlen : t.length ≤ 16000000)
    (hret : ∀ ρ' b, P (.ret (.str t)) ρ' (st lN b)) (hnext : ∀ b, P .next (tokEnv la t it .undef) (st lN b)) : St1 C (tokEnv la [] it .undef) (st l false) outer P := by
  have hC := T.ok
  refine St1.forW hC (a := it) (by walk_at "m_mem") (T.iter _ _) (fun ρ g => (∃ l, ρ = tokEnv la [] it .undef ∧ g = st l false ∧ (lexTok (text.drop l.pos)).1 = t ∧ adv text crc (lexTok (text.drop l.pos)).2 l = lN) ∨ (ρ = tokEnv la t it .undef ∧ g = st lN true)) (fun g => text.length - T.pos g) (.inl ⟨l, rfl, rfl, ht, hl⟩) ?_
  rintro ρ₁ g₁ (⟨l, rfl, rfl, ht, hl⟩ | ⟨rfl, rfl⟩)
  rotate_left
  · exact .inl ⟨_, T.off lN, hnext true⟩
  cases hr : text.drop l.pos with
  | nil =>
    obtain ⟨e1, e2⟩ := drop_nil (crc := crc) hr
    have hsg : sgn text l = [] := by unfold sgn; rw [e1]; rfl
    have hn := T.on l
    rw [hsg, e2] at hn
    rw [hr] at ht hl
    refine .inl ⟨_, hn, ?_⟩
    have ht' : [] = t := ht
    have hl' : l = lN := hl
    subst ht' hl'
    exact hnext true
  | cons c r =>
    obtain ⟨e1, e2, e3⟩ := drop_cons (crc := crc) hr
    obtain ⟨e4, hsg, e5⟩ := nxt_some (crc := crc) e1
    have hn : NextW C (st l false) it (some (.str [c])) (st (nxt text crc l) false) := by have hn := T.on l; rw [hsg] at hn; exact hn
    rw [hr] at ht hl
    refine .inr ⟨_, _, _, hn, by walk_at "m_put", ?_⟩
    have less : ∀ {l' : LG} {b : Bool}, l.pos < l'.pos → text.length - T.pos (st l' b) < text.length - T.pos (st l false) := fun h => by rw [T.hpos, T.hpos]; omega
    have hb : ∀ (x : List Nat) (l' : LG), x ++ (bareTok (text.drop l'.pos)).1 = t → adv text crc (bareTok (text.drop l'.pos)).2 l' = lN → l.pos < l'.pos → x.length ≤ 1 →
        St C (tokEnv la [] it (.val (.str x))) (st l' false) incrO (TurnW C (fun ρ g => (∃ l, ρ = tokEnv la [] it .undef ∧ g = st l false ∧ (lexTok (text.drop l.pos)).1 = t ∧ adv text crc (lexTok (text.drop l.pos)).2 l = lN) ∨ (ρ = tokEnv la t it .undef ∧ g = st lN true)) (fun g => text.length - T.pos g) (text.length - T.pos (st l false)) P) := fun x l' h1 h2 h3 h4 => by
      refine St.cons (St1.aug hC (by walk_at "m_mem") (by walk_at "m_ev") (op_icat ?_) (by walk_at "m_put") ?_)
      · simp; omega
      refine St.weak (ρ' := tokEnv la ([] ++ x) it .undef) (by walk_at "m_weak") (St.one (bare_loop T h1 h2 hlen (fun ρ' => hret ρ' false) ⟨_, Weak.refl, .inr ⟨rfl, rfl⟩, less ?_⟩))
      rw [← h2]
      exact Nat.lt_of_lt_of_le h3 (adv_le (text := text) (crc := crc))
    refine St.cons (St1.ifs hC (EvB.cmp hC (by walk_at "m_ev") (Ev.attr hC (by walk_at "m_ev") (T.white _ _)) op_in) (fun h => ?_) fun h => ?_)
    · have hc : c ∈ ws := of_decide_eq_true h
      rw [lexTok_ws hc] at ht hl
      refine St.one (St1.cont ⟨_, ?_, .inl ⟨nxt text crc l, rfl, rfl, ?_, ?_⟩, less (by omega)⟩)
      · walk_at "m_weak"
      · rw [e2]; exact ht
      · rw [e2]; exact hl
    · have hc : c ∉ ws := of_decide_eq_false h
      refine St.nil (St.one (St1.ifs hC (EvB.cmp hC (by walk_at "m_ev") (by walk_at "m_ev") (by walk_at "m_op")) (fun h => ?_) fun h => ?_))
      · have h' : ([c] == [34]) = true := h
        have hc : c = 34 := by simpa using h'
        subst hc
        rw [lexTok_quote] at ht hl
        refine St.weak (ρ' := tokEnv la [] it .undef) (by walk_at "m_weak") (St.one (quote_loop T (tk := []) (t := t) (lN := lN) ?_ ?_ hlen (fun ρ' => hret ρ' false) ⟨_, Weak.refl, .inr ⟨rfl, rfl⟩, less ?_⟩))
        · rw [e2]; exact ht
        · rw [e2]; exact hl
        · rw [← hl]
          exact Nat.lt_of_lt_of_le (by omega) (adv_le (text := text) (crc := crc) (n := (quoteTok r).2) (l := nxt text crc l))
      · have h' : ([c] == [34]) = false := h
        have hc1 : c ≠ 34 := by simpa using h'
        refine St.cons (St1.ifs hC (EvB.cmp hC (by walk_at "m_ev") (by walk_at "m_ev") (by walk_at "m_op")) (fun h2 => ?_) fun h2 => ?_)
        · have h2' : ([c] == [92]) = true := h2
          have hc2 : c = 92 := by simpa using h2'
          subst hc2
          refine St.one (St1.assign hC (Ev.meth (first := [.ref la.aL]) (qs := [.obj la.aL]) hC (by walk_at "m_ev") (T.meth _ _) (fun _ _ => .cons (.obj _) .nil) T.fn EvL.nil (T.read _ _) T.hd) (by walk_at "m_put") ?_)
          cases r with
          | nil =>
            obtain ⟨f1, f2⟩ := drop_nil (crc := crc) e2
            have hsg2 : sgn text (nxt text crc l) = [] := by unfold sgn; rw [f1]; rfl
            rw [hsg2, f2]
            rw [lexTok_lone] at ht hl
            refine hb [] _ ?_ ?_ (by omega) (by simp)
            · rw [e2]; exact ht
            · rw [e2]; exact hl
          | cons c' r' =>
            obtain ⟨f1, f2, f3⟩ := drop_cons (crc := crc) e2
            obtain ⟨f4, hsg2, f5⟩ := nxt_some (crc := crc) f1
            rw [hsg2]
            rw [lexTok_esc] at ht hl
            refine hb [c'] _ ?_ ?_ (by omega) (by simp)
            · rw [f2]; exact ht
            · rw [f2]; exact hl
        · have h2' : ([c] == [92]) = false := h2
          have hc2 : c ≠ 92 := by simpa using h2'
          rw [lexTok_other hc hc1 hc2] at ht hl
          refine St.nil ?_
          refine hb [c] _ ?_ ?_ (by omega) (by simp)
          · rw [e2]; exact ht
          · rw [e2]; exact hl
end
end Mine
end

section
namespace Mine
open PySem PySem.Calls PyProof.Rows PySem.W

section
variable {C : Cx} {la : LA} {text : List Nat} {crc : Nat → Nat → Nat} {g : C.G} {dd : Nat}

theorem getTok_pushed (hC : C.Ok) (H : HasLex C la) {x : List Nat} {xs : List (List Nat)} (hp : (H.get g).push = x :: xs) (hn : xs.length < 900) :
    St C [en "self" (.val (.obj la.aL)), en "token" .undef, en "fiter" .undef, en "ch" .undef] g (methOf theProg iCls 2) (fun fl _ g' => fl = .ret (.str x) ∧ g' = H.put g { H.get g with push := xs }) := by
  have hb : (!(H.get g).push.isEmpty) = true := by rw [hp]; rfl
  refine St.cons (St1.ifs hC (EvB.listW hC (Ev.attr hC (by walk_at "m_ev") H.pushback) (H.pushTrue (by rw [hp]; simp; omega))) (fun h => ?_) fun h => ?_)
  · exact St.one (St1.ret hC (Ev.popW hC (Ev.attr hC (by walk_at "m_ev") H.pushback) Ev.int H.mP (H.pop hp (by omega))) ⟨rfl, rfl⟩)
  · rw [hb] at h; cases h

theorem getTok_fresh (hC : C.Ok) (H : HasLex C la) (hg : GlobIs C "iter" (.builtin "iter")) (hp : (H.get g).push = []) {fo : Obj} {fd : FuncData} (hfd : fo.data = .func fd) (hfo : ∀ h, C.T h → h.get? la.fR = some fo) (hfM : ¬ C.M la.fR)
    (hrc : ∀ l, FnW C.prog C.w C.T C.wd dd (.ref la.fR) (H.put g l) [.obj la.aL] (.str (sgn text l)) (H.put g (nxt text crc l))) (hdd : dd < C.d) (hlen : (lexTok (text.drop (H.get g).pos)).1.length ≤ 16000000) :
    St C [en "self" (.val (.obj la.aL)), en "token" .undef, en "fiter" .undef, en "ch" .undef] g (methOf theProg iCls 2)
      (fun fl _ g' => fl = .ret (.str (lexTok (text.drop (H.get g).pos)).1) ∧ g' = H.put g (adv text crc (lexTok (text.drop (H.get g).pos)).2 (H.get g))) := by
  have hb : (!(H.get g).push.isEmpty) = false := by rw [hp]; rfl
  refine St.cons (St1.ifs hC (EvB.listW hC (Ev.attr hC (by walk_at "m_ev") H.pushback) (H.pushTrue (by rw [hp]; simp))) (fun h => ?_) fun h => ?_)
  · rw [hb] at h; cases h
  refine St.nil (St.cons (St1.assign hC (by walk_at "m_ev") (by walk_at "m_put") ?_))
  refine St.new hC fun O s I => wpAny_mono (iter_new hC H hg (by walk_at "m_mem") I) (fun u s₁ ⟨it, bm, t, e, h1, h2, h3, h4, h5, h6, h7, h8⟩ => ?_) fun _ _ x => x
  have hitM : ¬ C.M it := (I.new hC h1).2.2.1
  have hbmM : ¬ C.M bm := (I.new hC h2).2.2.1
  have hst : Wd.Ok ⟨fun a => C.M a ∨ a = it, C.G × Bool, fun g h => C.W g.1 h ∧ h.get? it = some (itObj bm t g.2)⟩ := Wd.more_ok (V := C.wd) ⟨hC.wm, hC.stab⟩
  have hnew : NewW C s s₁ (fun a => a = it ∨ a = bm) (fun a => a = it) (C.G × Bool) (fun g h => C.W g.1 h ∧ h.get? it = some (itObj bm t g.2)) (fun h => C.T h ∧ h.get? bm = some (methodObj (.ref la.fR) (.ref la.aL)) ∧ h.get? la.fR = some fo) (g, false) := by
    refine ⟨h6, h8, fun a q => .inl q, ?_, ?_, fun h k => ?_, ⟨h7, h4⟩, hst⟩
    · rintro a (rfl | rfl)
      · exact h1
      · exact h2
    · rintro a (rfl | rfl)
      · exact ⟨_, h4⟩
      · exact ⟨_, h5⟩
    · have hT : C.T h := hC.top h fun a o q1 q2 q3 => by
        have q4 := I.old a o q1 q2 q3
        exact k a o (fun z => q1 z.1) (fun z => z.elim q2 fun z => by subst z; rw [h1] at q4; cases q4) (h8 a o q2 q4)
      refine ⟨hT, k bm _ (fun z => z.2 (.inr rfl)) (fun z => z.elim hbmM fun z => h3 z) h5, hfo h hT⟩
  refine ⟨it, _, _, _, _, _, _, Prod.fst, _, e, hnew, fun g h w => w.1, by walk_at "m_put", fun hC2 => ?_⟩
  have nit : ∀ a, C.M a → it ≠ a := fun a m z => hitM (z ▸ m)
  have H2 := H.more (s₁ := s₁) (K := fun a => a = it ∨ a = bm) (o := itObj bm t) (T' := fun h => C.T h ∧ h.get? bm = some (methodObj (.ref la.fR) (.ref la.aL)) ∧ h.get? la.fR = some fo) (fun h z => z.1) ⟨nit _ H.mS, nit _ H.mL, nit _ H.mLd, nit _ H.mP⟩
  have hfit : la.fR ≠ it := fun z => by
    have q := hfo _ (I.top hC)
    rw [z, h1] at q; cases q
  have T : TokCx (C.turn s₁ (fun a => a = it ∨ a = bm) (fun a => a = it) (C.G × Bool) (fun g h => C.W g.1 h ∧ h.get? it = some (itObj bm t g.2)) (fun h => C.T h ∧ h.get? bm = some (methodObj (.ref la.fR) (.ref la.aL)) ∧ h.get? la.fR = some fo)) la text crc it (fun l b => (H.put g l, b)) := {
    ok := hC2
    dd := dd
    hd := Nat.le_of_lt hdd
    white := fun l b => H2.white
    meth := fun l b => H2.mReadChar
    fn := ⟨fo, fd, hfd, fun h z => z.2.2⟩
    read := fun l b => (hrc l).more (fun h z => z.1) hitM
    off := fun l => nextW_off hC hst
    on := fun l => nextW_on hC hst hitM (fun h z => z) ⟨hbmM, hfM, h3, hfit⟩ hfd (hrc l) hdd
    iter := fun l b s Q hw hq => pyIter_ci hw.2 hq
    pos := fun g' => (H.get g'.1).pos
    hpos := fun l b => by show (H.get (H.put g l)).pos = _; rw [H.gp] }
  have hg0 : ((g, false) : C.G × Bool) = (H.put g (H.get g), false) := by rw [H.pg]
  rw [hg0]
  refine St.cons (outer_loop T rfl rfl hlen (fun ρ' b => ⟨rfl, rfl⟩) fun b => ?_)
  refine St.one (St1.ret hC2 (Ev.name hC2 ?_) ⟨rfl, rfl⟩)
  exact List.mem_cons_of_mem _ List.mem_cons_self
end
end Mine
end

section
namespace Mine
open PySem PySem.Calls PyProof.Rows

noncomputable def stmtAt (p : Program) (i : Nat) : Stmt := (p.main.body[i]?).getD (.Pass ⟨0, 0, 0, 0⟩)
noncomputable def methAt (p : Program) (i j : Nat) : Stmt := match p.main.body[i]? with
  | some (.ClassDef _ _ _ ms _ _ _ _ _ _ _) => (ms[j]?).getD (.Pass ⟨0, 0, 0, 0⟩)
  | _ => .Pass ⟨0, 0, 0, 0⟩
noncomputable def stmtBody : Stmt → List Stmt
  | .FunctionDef _ _ b _ _ _ _ _ _ _ => b
  | _ => []
noncomputable def stmtScope : Stmt → Scope
  | .FunctionDef _ _ _ _ _ _ s _ _ _ => s
  | _ => { kind := .function, names := [], isGenerator := false, isCoroutine := false }

/-- a def of the text, as the top made it -/
structure DefAt (T : Heap → Prop) (st : Stmt) (pn : List Str) (a : Addr) (o : Obj) (fd : FuncData) : Prop where
  data : o.data = .func fd
  at' : ∀ h, T h → h.get? a = some o ∧ h.CodeRec fd.code fd.qualname ∧ h.NoLimit
  body : fd.body = .stmts (stmtBody st)
  scope : fd.scope = stmtScope st
  clo : fd.closure = []
  glob : fd.globals = mainGlobals
  bi : fd.builtins = builtinsNs
  bind : ∀ vals : List Value, vals.length = pn.length → bindArgs fd ⟨vals, []⟩ = pure (pn.zip vals)

/-- what a frame knows of its text -/
structure FrameD (C : Cx) (prog : Program) (w : World) (T : Heap → Prop) (d : Nat) (sc : Scope) : Prop where
  ok : C.Ok
  prog : C.prog = prog
  w : C.w = w
  T : C.T = T
  d : C.d = d
  scope : C.env.scope = sc
  globals : C.env.globals = mainGlobals
  builtins : C.env.builtins = builtinsNs
  z : ∀ x, ¬ C.Z x

theorem FrameD.glob {C : Cx} {prog : Program} {w : World} {T : Heap → Prop} {d : Nat} {sc : Scope} (F : FrameD C prog w T d sc) {x : Str} {v : Value} (h : TG T x v) (hk : sc.names.lookup x = some .globalImplicit) : GlobIs C x v :=
  GlobIs.of h F.T F.globals F.builtins (by show C.env.scope.names.lookup x = _; rw [F.scope]; exact hk)

theorem Fn.weaken {prog : Program} {w : World} {T T' : Heap → Prop} {d : Nat} {f : Value} {ps : List PV} {r : PV} (h : Fn prog w T d f ps r) (hT : ∀ h, T' h → T h) : Fn prog w T' d f ps r :=
  fun A X s us hR hTs hX hr => h A X s us hR (hT _ hTs) hX hr
theorem Fn.def {prog : Program} {w : World} {T : Heap → Prop} {d : Nat} {st : Stmt} {a : Addr} {o : Obj} {fd : FuncData} {pn : List Str} (rest : List Str) {ps : List PV} {r : PV}
    (hT : ∀ h h' : Heap, T h → (∀ b o, h.get? b = some o → h'.get? b = some o) → T h') (D : DefAt T st pn a o fd) (hlen : ps.length = pn.length)
    (hnd : (pn ++ rest).Nodup) (hkinds : ((pn ++ rest).all fun x => (stmtScope st).names.lookup x == some .local || (stmtScope st).names.lookup x == some .cell) = true)
    (hdbg : ((pn ++ rest).all fun x => !(x == ("__debug__" : Str)) && !(x == ("__classdict__" : Str))) = true)
    (hco : (stmtScope st).isCoroutine = false) (hgen : (stmtScope st).isGenerator = false) (hk : (stmtScope st).kind = .function)
    (hbody : ∀ (C : Cx) (g : C.G), FrameD C prog w T d (stmtScope st) → St C (startEnv pn rest ps) g (stmtBody st) (fun fl _ _ => fl = .ret r ∨ (fl = .next ∧ r = .none))) :
    Fn prog w T (d + 1) (.ref a) ps r :=
  Fn.intro hT D.at' D.data D.body D.clo D.bind hlen hnd (by rw [D.scope]; exact hkinds) hdbg (by rw [D.scope]; exact hco) (by rw [D.scope]; exact hgen) (by rw [D.scope]; exact hk)
    fun C g F => hbody C g ⟨F.ok, F.prog, F.w, F.T, F.d, F.scope.trans D.scope, F.globals.trans D.glob, F.builtins.trans D.bi, F.z⟩

theorem FnW.def {prog : Program} {w : World} {T : Heap → Prop} {V : Wd} {d : Nat} {st : Stmt} {a : Addr} {o : Obj} {fd : FuncData} {pn : List Str} (rest : List Str) {ps : List PV} {r : PV} {g g' : V.G} (hV : V.Ok)
    (hT : ∀ h h' : Heap, T h → (∀ b o, ¬ V.M b → h.get? b = some o → h'.get? b = some o) → T h') (D : DefAt T st pn a o fd) (hlen : ps.length = pn.length)
    (hnd : (pn ++ rest).Nodup) (hkinds : ((pn ++ rest).all fun x => (stmtScope st).names.lookup x == some .local || (stmtScope st).names.lookup x == some .cell) = true)
    (hdbg : ((pn ++ rest).all fun x => !(x == ("__debug__" : Str)) && !(x == ("__classdict__" : Str))) = true)
    (hco : (stmtScope st).isCoroutine = false) (hgen : (stmtScope st).isGenerator = false) (hk : (stmtScope st).kind = .function)
    (hbody : ∀ cells A X s, FrameD (frameW prog w T V d fd (pn ++ rest) a cells A X s) prog w T d (stmtScope st) →
      St (frameW prog w T V d fd (pn ++ rest) a cells A X s) (startEnv pn rest ps) g (stmtBody st) (fun fl _ g₁ => (fl = .ret r ∨ (fl = .next ∧ r = .none)) ∧ g₁ = g')) :
    FnW prog w T V (d + 1) (.ref a) g ps r g' :=
  FnW.intro hV hT D.at' D.data D.body D.clo D.bind hlen hnd (by rw [D.scope]; exact hkinds) hdbg (by rw [D.scope]; exact hco) (by rw [D.scope]; exact hgen) (by rw [D.scope]; exact hk)
    fun cells A X s hC => hbody cells A X s ⟨hC, rfl, rfl, rfl, rfl, D.scope, D.glob, D.bi, fun _ => id⟩
end Mine
end

section
namespace Mine
open PySem PySem.Calls PyProof.Rows PySem.W

/-- what the lexer's contracts stand on -/
structure LexEnv (prog : Program) (w : World) (T : Heap → Prop) (V : Wd) (la : LA) (text : List Nat) (crc : Nat → Nat → Nat) (dd : Nat) : Prop where
  vok : V.Ok
  tm : ∀ h h' : Heap, T h → (∀ b o, ¬ (LexV V la).M b → h.get? b = some o → h'.get? b = some o) → T h'
  dR : ∃ o fd, DefAt T (methAt theProg iCls 1) ["self"] la.fR o fd
  dG : ∃ o fd, DefAt T (methAt theProg iCls 2) ["self"] la.fG o fd
  dP : ∃ o fd, DefAt T (methAt theProg iCls 3) ["self", "token"] la.fP o fd
  cls : ∀ h, T h → ClsOk la h
  dis : ∀ a, V.M a → a ≠ la.aS ∧ a ≠ la.aL ∧ a ≠ la.aLd ∧ a ≠ la.aP
  ap : [la.aL, la.aLd, la.aP, la.aS, la.aFn, la.aFd].Nodup
  fnM : ¬ (LexV V la).M la.fR
  rd : ∃ o fd, o.data = .func fd ∧ ∀ h, T h → h.get? la.aRd = some o
  read : ∀ g l, FnW prog w T (LexV V la) dd (.ref la.aRd) (g, l) [.int 1] (.str (sgn text l)) (g, { nxt text crc l with line := l.line })
  iter : TG T "iter" (.builtin "iter")

section
variable {prog : Program} {w : World} {T : Heap → Prop} {V : Wd} {la : LA} {text : List Nat} {crc : Nat → Nat → Nat} {dd : Nat}

theorem LexEnv.readChar (E : LexEnv prog w T V la text crc dd) (g : V.G) (l : LG) : FnW prog w T (LexV V la) (dd + 1) (.ref la.fR) (g, l) [.obj la.aL] (.str (sgn text l)) (g, nxt text crc l) := by
  obtain ⟨o, fd, D⟩ := E.dR
  refine FnW.def ["ch"] (LexV.ok E.vok) E.tm D rfl (by decide) (by decide +kernel) (by decide +kernel) rfl rfl rfl fun cells A X s F => ?_
  refine StP.mono (readChar_body F.ok (hasLexF E.vok E.dis E.cls E.ap) E.rd (E.read g l) (Nat.le_refl _)) fun fl ρ g' h => ⟨.inl h.1, h.2.trans ?_⟩
  show (if sgn text l = [10] then ((g, { nxt text crc l with line := l.line + 1 }) : V.G × LG) else (g, { nxt text crc l with line := l.line })) = (g, nxt text crc l)
  unfold sgn nxt
  cases e : text[l.pos]? with
  | none => simp
  | some c =>
    by_cases hc : c = 10
    · subst hc; simp
    · simp [hc]

theorem LexEnv.pushToken (E : LexEnv prog w T V la text crc dd) (g : V.G) (l : LG) (x : List Nat) (hn : l.push.length < 900) : FnW prog w T (LexV V la) 1 (.ref la.fP) (g, l) [.obj la.aL, .str x] .none (g, { l with push := l.push ++ [x] }) := by
  obtain ⟨o, fd, D⟩ := E.dP
  refine FnW.def [] (LexV.ok E.vok) E.tm D rfl (by decide) (by decide +kernel) (by decide +kernel) rfl rfl rfl fun cells A X s F => ?_
  exact StP.mono (push_body F.ok (hasLexF E.vok E.dis E.cls E.ap) (x := x) (by show l.push.length < 1000; omega) (by unfold interactive; rw [F.scope]; rfl)) fun fl ρ g' h => ⟨.inr ⟨h.1, rfl⟩, h.2⟩

theorem LexEnv.pushed (E : LexEnv prog w T V la text crc dd) (g : V.G) (l : LG) {x : List Nat} {xs : List (List Nat)} (hp : l.push = x :: xs) (hn : xs.length < 900) : FnW prog w T (LexV V la) 1 (.ref la.fG) (g, l) [.obj la.aL] (.str x) (g, { l with push := xs }) := by
  obtain ⟨o, fd, D⟩ := E.dG
  refine FnW.def ["token", "fiter", "ch"] (LexV.ok E.vok) E.tm D rfl (by decide) (by decide +kernel) (by decide +kernel) rfl rfl rfl fun cells A X s F => ?_
  exact StP.mono (getTok_pushed F.ok (hasLexF E.vok E.dis E.cls E.ap) (by exact hp) hn) fun fl ρ g' h => ⟨.inl h.1, h.2⟩

theorem LexEnv.getToken (E : LexEnv prog w T V la text crc dd) (g : V.G) (l : LG) (hp : l.push = []) (hlen : (lexTok (text.drop l.pos)).1.length ≤ 16000000) :
    FnW prog w T (LexV V la) (dd + 3) (.ref la.fG) (g, l) [.obj la.aL] (.str (lexTok (text.drop l.pos)).1) (g, adv text crc (lexTok (text.drop l.pos)).2 l) := by
  obtain ⟨o, fd, D⟩ := E.dG
  obtain ⟨oR, fdR, DR⟩ := E.dR
  refine FnW.def ["token", "fiter", "ch"] (LexV.ok E.vok) E.tm D rfl (by decide) (by decide +kernel) (by decide +kernel) rfl rfl rfl fun cells A X s F => ?_
  exact StP.mono (getTok_fresh (text := text) (crc := crc) (dd := dd + 1) F.ok (hasLexF E.vok E.dis E.cls E.ap) (F.glob E.iter (by rfl)) (by exact hp) DR.data (fun h t => (DR.at' h t).1) E.fnM (fun l' => E.readChar g l') (by show dd + 1 < dd + 2; omega) hlen) fun fl ρ g' h => ⟨.inl h.1, h.2⟩
end
end Mine
end

section
namespace Mine
open PySem PySem.Calls PyProof.Rows PySem.W

/-- a code object, with its class -/
noncomputable def CodeR (h : Heap) (c : Addr) (q : Str) : Prop := ∃ o vs t, h.get? c = some o ∧ o.cls = .type "code" ∧ o.data = .fields vs ∧ vs[1]? = some (.str q t)
theorem CodeR.rec {h : Heap} {c : Addr} {q : Str} (x : CodeR h c q) : h.CodeRec (.ref c) q := let ⟨o, vs, t, a, _, b, d⟩ := x; ⟨c, o, vs, t, rfl, a, b, d⟩
theorem CodeR.stab {h h' : Heap} {c : Addr} {q : Str} (x : CodeR h c q) (k : ∀ a o, Obj.isRec o → h.get? a = some o → h'.get? a = some o) : CodeR h' c q :=
  let ⟨o, vs, t, a, b, d, e⟩ := x; ⟨o, vs, t, k _ _ ⟨b, _, d⟩ a, b, d, e⟩

/-- the table of a maker's code: what it has is of the right names -/
noncomputable def TabW (P : Addr) (known : List (Pos × Str)) (h : Heap) : Prop := ∃ ps, h.get? P = some (tabObj ps) ∧ TriplesOk ps.toList ∧ ∀ x ∈ known, ∀ v, codeAmong x.1 ps.toList = some v → ∃ c, v = .ref c ∧ CodeR h c x.2
noncomputable def tabV (P : Addr) (known : List (Pos × Str)) : Wd := ⟨fun a => a = P, Unit, fun _ h => TabW P known h⟩
theorem TabW.stab {P : Addr} {known : List (Pos × Str)} {h h' : Heap} (w : TabW P known h) (k : ∀ a o, (a = P ∨ Obj.isRec o) → h.get? a = some o → h'.get? a = some o) : TabW P known h' :=
  let ⟨ps, a, b, c⟩ := w
  ⟨ps, k _ _ (.inl rfl) a, b, fun x hx v hv => let ⟨cc, e, r⟩ := c x hx v hv; ⟨cc, e, r.stab fun a o q e => k a o (.inr q) e⟩⟩
theorem tabV.ok (P : Addr) (known : List (Pos × Str)) : (tabV P known).Ok where
  wm := fun g h a hw hm => by obtain ⟨ps, e, _⟩ := hw; exact ⟨_, by rw [show a = P from hm]; exact e⟩
  stab := fun g h h' hw hk => hw.stab hk

theorem codeAmong_snoc' {pos pos' : Pos} {c : Value} (l : List Value) (h : TriplesOk l) : ∀ v, codeAmong pos (l ++ [rawInt pos'.line, rawInt pos'.col, c]) = some v →
    codeAmong pos l = some v ∨ (pos'.line = pos.line ∧ pos'.col = pos.col ∧ v = c) := by
  fun_induction TriplesOk l with
  | case1 =>
    intro v e
    simp only [List.nil_append, codeAmong, rawInt] at e
    split at e
    · rename_i q
      cases e
      simp only [Bool.and_eq_true, beq_iff_eq] at q
      exact .inr ⟨by omega, by omega, rfl⟩
    · simp [codeAmong] at e
  | case2 a t b u x rest ih =>
    intro v e
    simp only [List.cons_append, codeAmong] at e ⊢
    split at e
    · rename_i q; rw [if_pos q]; exact .inl e
    · rename_i q; rw [if_neg q]; exact ih h v e
  | case3 l h1 h2 => exact h.elim

section
variable {M : Model} {A : Around} {E : Value → Shared → Prop} {s : Shared} {name qual : Str} {params : Arguments} {body : FuncBody} {scope : Scope} {env : Env} {c P : Addr} {known : List (Pos × Str)} {pos : Pos} {firstLine : Nat} {mg : Str → Option Value}
  {clos : List (Str × Addr)} {Q : Value → Shared → Prop}

noncomputable abbrev fnD (name qual : Str) (params : Arguments) (body : FuncBody) (scope : Scope) (clos : List (Str × Addr)) (pm : Value) (c' : Addr) (ctv : Value) : FuncData :=
  { name, qualname := qual, params, body, scope, globals := mainGlobals, closure := clos, defaults := .none, kwdefaults := .none, doc := .none, pyModule := pm, annotations := none, code := .ref c', closureTuple := ctv, builtins := builtinsNs }

theorem newFn (hcl : closureFor scope env = pure clos) (hge0 : env.globals = mainGlobals) (hg : s.heap.Ns mainGlobals mg) (hcode : env.code = .ref c) (C : CodeHd s.heap c P) (W : TabW P known s.heap) (hgP : mainGlobals ≠ P) (hb : s.heap.BuiltinsAt mg P)
    (hk : ∀ x ∈ known, x.1.line = pos.line → x.1.col = pos.col → x.2 = qual) (hin : ∃ p, (p, qual) ∈ known ∧ p.line = pos.line ∧ p.col = pos.col) (hdoc : (match body with | .stmts b => docOf b | .expr _ => none) = none)
    (h : ∀ f c' ctv pm h' tk, (∀ b o, b ≠ P → s.heap.get? b = some o → h'.get? b = some o) → s.heap.get? f = none → h'.get? f = some { cls := .type "function", data := .func (fnD name qual params body scope clos pm c' ctv) } → CodeR h' c' qual → TabW P known h' →
      Q (.ref f) { s with heap := h', toks := tk }) :
    wpAny M A (makeFunction name qual params body scope env [] [] [] pos firstLine) Q E s := by
  obtain ⟨ps, hP, ht, hkn⟩ := W
  obtain ⟨bm, ob, hbm, hne0, _, hneP, hbo, hcls, hdict, hdata⟩ := hb
  have hamong : ∀ p : Pos, p.line = pos.line → p.col = pos.col → ∀ l, codeAmong p l = codeAmong pos l := fun p h1 h2 l => by
    fun_induction codeAmong p l <;> simp_all [codeAmong]
  -- the end of it, over any heap with the code at hand
  have fin : ∀ (ctv : Value) (h₁ h₂ : Heap) (tk : Tok) (c' : Addr), (∀ b o, b ≠ P → s.heap.get? b = some o → h₂.get? b = some o) → CodeR h₂ c' qual → TabW P known h₂ → (∀ b, h₂.get? b = none → s.heap.get? b = none) →
      wpAny M A (do
        let bi ← builtinsFor env.globals env.builtins
        let pm ← nsGet env.globals "__name__"
        let doc ← match body with | .stmts b => (match docOf b with | some s => mkText s | none => pure .none) | .expr _ => pure .none
        newObj (.type "function") (.func { name, qualname := qual, params, body, scope, globals := env.globals, closure := clos, closureTuple := ctv, code := .ref c', builtins := bi, defaults := .none, kwdefaults := .none, annotations := none, pyModule := pm.getD .none, doc })) Q E
        { s with heap := h₂, toks := tk } := by
    intro ctv h₁ h₂ tk c' hx hrec hW hfr
    rw [hge0]
    have hg' : h₂.Ns mainGlobals mg := let ⟨o, es, ep, e, r⟩ := hg; ⟨o, es, ep, hx _ _ hgP e, r⟩
    refine wpAny_bind (wpAny_builtinsFor hg' hbm hne0 (hx _ _ hneP hbo) hcls hdict hdata ?_)
    refine wpAny_bind (wpAny_nsGet hg' ?_)
    have fin2 : ∀ pm : Value, Q (.ref h₂.objs.size) ⟨h₂.push { cls := .type "function", data := .func (fnD name qual params body scope clos pm c' ctv) }, s.gens, s.drawn, tk, s.os⟩ := fun pm =>
      h _ c' ctv pm _ tk (fun b o hb e => Heap.get?_push_of_some _ (hx b o hb e)) (hfr _ (get_size_none _)) (Heap.get?_push_size _ rfl) (hrec.stab fun a o _ e => Heap.get?_push_of_some _ e) (hW.stab fun a o _ e => Heap.get?_push_of_some _ e)
    cases body with
    | stmts b =>
      have hdoc' : docOf b = none := hdoc
      simp only [hdoc']
      exact wpAny_bind (wpAny_pure (wpAny_newObj_type (fin2 _) (by size_fits)))
    | expr b => exact wpAny_bind (wpAny_pure (wpAny_newObj_type (fin2 _) (by size_fits)))
  -- the code
  have code : ∀ (ctv : Value) (h₁ : Heap), (∀ b o, s.heap.get? b = some o → h₁.get? b = some o) → wpAny M A (do
        let code ← functionCode env pos firstLine name qual params scope body
        let bi ← builtinsFor env.globals env.builtins
        let pm ← nsGet env.globals "__name__"
        let doc ← match body with | .stmts b => (match docOf b with | some s => mkText s | none => pure .none) | .expr _ => pure .none
        newObj (.type "function") (.func { name, qualname := qual, params, body, scope, globals := env.globals, closure := clos, closureTuple := ctv, code, builtins := bi, defaults := .none, kwdefaults := .none, annotations := none, pyModule := pm.getD .none, doc })) Q E
        { s with heap := h₁ } := by
    intro ctv h₁ k1
    have hfr1 : ∀ h₂ : Heap, (∀ b o, b ≠ P → h₁.get? b = some o → h₂.get? b = some o) → h₂.get? P ≠ none → ∀ b, h₂.get? b = none → s.heap.get? b = none := fun h₂ q qP b e => by
      cases e0 : s.heap.get? b with
      | none => rfl
      | some o =>
        by_cases hb : b = P
        · subst hb; exact absurd e qP
        · rw [q b o hb (k1 b o e0)] at e; cases e
    cases hf : codeAmong pos ps.toList with
    | none =>
      refine wpAny_bind (wpAny_functionCodeX hcode ((C.keeps k1).code (k1 _ _ hP) ht) ((C.keeps k1).tab (k1 _ _ hP)) hf fun c' h' tk hx hge hlt _ hrec htb ⟨P', _, _, hcl'⟩ => ?_)
      have hR : CodeR h' c' qual := by
        obtain ⟨c₂, o, vs, t, e, a, b, d⟩ := hrec
        cases e
        obtain ⟨⟨o', vs', a', b', d', _⟩, _⟩ := hcl'
        rw [a] at a'; cases a'
        exact ⟨o, vs, t, a, b', b, d⟩
      have hx1 : ∀ b o, b ≠ P → s.heap.get? b = some o → h'.get? b = some o := fun b o hb e => hx b o hb (k1 b o e)
      refine fin ctv h₁ h' tk c' hx1 hR ⟨_, htb.2, ?_, ?_⟩ (hfr1 h' (fun b o hb e => hx b o hb e) (by rw [htb.2]; simp))
      · rw [Array.toList_append]; exact TriplesOk_snoc _ _ _ _ ht
      · intro x hx' v hv
        rw [Array.toList_append] at hv
        rcases codeAmong_snoc' _ ht v hv with q | ⟨q1, q2, rfl⟩
        · obtain ⟨cc, e, r⟩ := hkn x hx' v q
          refine ⟨cc, e, r.stab fun a o ho e => hx1 a o ?_ e⟩
          rintro rfl
          rw [hP] at e; cases e
          exact absurd ho.1 (by simp [tabObj])
        · exact ⟨c', rfl, by rw [hk x hx' q1.symm q2.symm]; exact hR⟩
    | some v =>
      obtain ⟨p, hp, hl, hcol⟩ := hin
      obtain ⟨c', rfl, hR⟩ := hkn _ hp v (by rw [hamong p hl hcol]; exact hf)
      refine wpAny_bind (wpAny_functionCode_hit hcode ((C.keeps k1).code (k1 _ _ hP) ht) hf ?_)
      refine fin ctv h₁ h₁ s.toks c' (fun b o _ e => k1 b o e) (hR.stab fun a o _ e => k1 a o e) (TabW.stab ⟨ps, hP, ht, hkn⟩ fun a o _ e => k1 a o e) fun b e => ?_
      cases e0 : s.heap.get? b with
      | none => rfl
      | some o => rw [k1 b o e0] at e; cases e
  rw [makeFunction_eq]
  simp only [List.zip_nil_right, List.filterMap_nil, List.isEmpty_nil, if_true, pure_bind]
  unfold makeTail
  rw [hcl]
  refine wpAny_bind (wpAny_pure ?_)
  cases clos with
  | nil =>
    simp only [List.isEmpty_nil, if_true]
    refine wpAny_bind (wpAny_pure ?_)
    exact code .none s.heap fun _ _ e => e
  | cons q r =>
    simp only [List.isEmpty_cons, Bool.false_eq_true, if_false]
    refine wpAny_bind (wpAny_newTextTuple ?_)
    exact code _ _ fun b o e => Heap.get?_push_of_some _ e
end
end Mine
end

section
namespace Mine
open PySem PySem.Calls PyProof.Rows PySem.W

section
variable {C : Cx} {ρ ρ' : Env'} {O : List (Str × Addr)} {g : C.G} {P : Fl → Env' → C.G → Prop} {s s₁ : Shared}

/-- all that the frame cannot turn -/
noncomputable abbrev Canon (F M : Addr → Prop) (h₀ : Heap) : Heap → Prop := fun h => ∀ a o, ¬ F a → ¬ M a → h₀.get? a = some o → h.get? a = some o
noncomputable abbrev Cx.turnC (C : Cx) (s₁ : Shared) (K N : Addr → Prop) (G' : Type) (W' : G' → Heap → Prop) : Cx :=
  C.turn s₁ K N G' W' (Canon (fun a => C.F a ∧ ¬ K a) (fun a => C.M a ∨ N a) s₁.heap)
noncomputable abbrev NewC (C : Cx) (s s₁ : Shared) (K N : Addr → Prop) (G' : Type) (W' : G' → Heap → Prop) (g' : G') : Prop :=
  NewW C s s₁ K N G' W' (Canon (fun a => C.F a ∧ ¬ K a) (fun a => C.M a ∨ N a) s₁.heap) g'
noncomputable abbrev stW (C : Cx) (aS : Addr) : C.G × Nat × Nat → Heap → Prop := fun g h => C.W g.1 h ∧ ∃ t u, h.IsList aS #[.int g.2.1 t, .int g.2.2 u]
noncomputable abbrev fnW' (C : Cx) (f : Addr) : C.G × Bool → Heap → Prop := fun g h => C.W g.1 h ∧ ∃ o, h.get? f = some o ∧ o.cls = .type "function" ∧ (∀ c, o.data ≠ .cls c) ∧ (g.2 = false → o.dict = none)
noncomputable abbrev cdW (C : Cx) (c' : Addr) (q : Str) : C.G → Heap → Prop := fun g h => C.W g h ∧ CodeR h c' q
noncomputable abbrev dcW (V : Wd) (aFn aFd aRd : Addr) : V.G → Heap → Prop := fun g h => V.W g h ∧ FnDict h aFn aFd (fun y => if y = Str.ofString "read" then some (.ref aRd) else none)
noncomputable abbrev cx1 (C : Cx) (s₁ : Shared) (aS : Addr) : Cx := C.turnC s₁ (fun a => a = aS) (fun a => a = aS) (C.G × Nat × Nat) (stW C aS)
noncomputable abbrev cx2 (C : Cx) (s₁ : Shared) (f c' : Addr) (q : Str) : Cx := C.turnC s₁ (fun a => a = f) (fun _ => False) C.G (cdW C c' q)
noncomputable abbrev cx3 (C : Cx) (s₁ : Shared) (f : Addr) : Cx := C.turnC s₁ (fun a => a = f) (fun a => a = f) (C.G × Bool) (fnW' C f)
noncomputable abbrev cx4 (C : Cx) (s₁ : Shared) (V : Wd) (aFn aFd aRd : Addr) : Cx := C.turnC s₁ (fun a => a = aFd) (fun a => a = aFd) V.G (dcW V aFn aFd aRd)
theorem NewC.top {K N : Addr → Prop} {G' : Type} {W' : G' → Heap → Prop} {g' : G'} (hC : C.Ok) (I : Inv C ρ O g s) (n : NewC C s s₁ K N G' W' g') : ∀ h, (C.turnC s₁ K N G' W').T h → C.T h :=
  fun h k => turn_top hC I n.keep n.fresh n.kn k

/-- the state list -/
theorem St.state (hC : C.Ok) {x : Str} {xp lp pos : Pos} {es : List Expr} {rest : List Stmt} {i j : Nat} (h : EvL C ρ g es [.int i, .int j] g)
    (hr : ∀ (O : List (Str × Addr)) (s s₁ : Shared) (aS : Addr), Inv C ρ O g s → s.heap.get? aS = none → NewC C s s₁ (fun a => a = aS) (fun a => a = aS) (C.G × Nat × Nat) (stW C aS) (g, i, j) →
      ∃ ρ', Put ρ x (.val (.obj aS)) ρ' ∧ ((cx1 C s₁ aS).Ok →
        St (cx1 C s₁ aS) ρ' (g, i, j) rest (fun fl ρ'' g'' => P fl ρ'' g''.1))) :
    St C ρ g (.Assign [.Name x xp] (.List es lp) pos :: rest) P := by
  refine St.new hC fun O s I => ?_
  refine wpAny_List (wpAny_mono (h O s lp I) (fun us s₁ ⟨r, st⟩ => ?_) fun _ _ x => x)
  have I1 := I.step hC st
  obtain ⟨t, u, rfl⟩ : ∃ t u, us = [.int i t, .int j u] := by
    cases r with
    | cons a1 b1 => cases a1; cases b1 with
      | cons a2 b2 => cases a2; cases b2; exact ⟨_, _, rfl⟩
  refine ⟨by show 2 ≤ 2 ^ 24; omega, ?_⟩
  have hfr := st.fresh hC (get_size_none s₁.heap)
  have n : NewC C s { s₁ with heap := s₁.heap.push { cls := .type "list", data := .seq [Value.int i t, .int j u].toArray } } (fun a => a = s₁.heap.objs.size) (fun a => a = s₁.heap.objs.size) (C.G × Nat × Nat) (fun g h => C.W g.1 h ∧ ∃ t u, h.IsList s₁.heap.objs.size #[.int g.2.1 t, .int g.2.2 u]) (g, i, j) := {
    rest := st.rest
    keep := fun a o hm e => Heap.get?_push_of_some _ (st.keep a o hm e)
    kn := fun _ h => h
    fresh := fun a e => by rw [show a = s₁.heap.objs.size from e]; exact hfr
    there := fun a e => by have e' : a = s₁.heap.objs.size := e; subst e'; exact ⟨_, Heap.get?_push_size _ rfl⟩
    top := fun h k => k
    world := ⟨hC.stab _ _ _ I1.world fun a o _ e => Heap.get?_push_of_some _ e, t, u, ⟨_, Heap.get?_push_size _ rfl, rfl, 0, rfl⟩⟩
    ok := {
      wm := fun g h a hw hm => by
        rcases hm with hm | hm
        · exact hC.wm _ _ _ hw.1 hm
        · obtain ⟨t, u, o, e, _⟩ := hw.2
          have hm' : a = s₁.heap.objs.size := hm
          exact ⟨o, by rw [hm']; exact e⟩
      stab := fun g h h' hw k => ⟨hC.stab _ _ _ hw.1 fun a o hm e => k a o (hm.imp .inl id) e, by
        obtain ⟨t, u, o, e, q⟩ := hw.2
        exact ⟨t, u, o, k _ _ (.inl (.inr rfl)) e, q⟩⟩ } }
  obtain ⟨ρ', hp, hs⟩ := hr O s _ _ I hfr n
  exact ⟨_, _, _, _, _, _, _, Prod.fst, ρ', rfl, n, fun g h w => w.1, hp, hs⟩

/-- what a def within a def stands on -/
structure Maker (C : Cx) (c PT : Addr) (known : List (Pos × Str)) : Prop where
  glob : C.env.globals = mainGlobals
  code : C.env.code = .ref c
  top : ∀ h, C.T h → ∃ mg, h.Ns mainGlobals mg ∧ CodeHd h c PT ∧ mainGlobals ≠ PT ∧ h.BuiltinsAt mg PT
  m : C.M PT
  w : ∀ g h, C.W g h → TabW PT known h
  u : ∀ g h h', C.W g h → TabW PT known h' → (∀ b o, b ≠ PT → h.get? b = some o → h'.get? b = some o) → C.W g h'

variable {c PT : Addr} {known : List (Pos × Str)}

theorem Maker.new {name qual : Str} {params : Arguments} {body : FuncBody} {scope : Scope} {pos : Pos} {firstLine : Nat} {clos : List (Str × Addr)} {Q : Value → Shared → Prop} (hC : C.Ok) (K : Maker C c PT known) (I : Inv C ρ O g s) (hcl : closureFor scope C.env = pure clos)
    (hk : ∀ x ∈ known, x.1.line = pos.line → x.1.col = pos.col → x.2 = qual) (hin : ∃ p, (p, qual) ∈ known ∧ p.line = pos.line ∧ p.col = pos.col) (hdoc : (match body with | .stmts b => docOf b | .expr _ => none) = none)
    (h : ∀ f c' ctv pm s₁, Step C g s s₁ → s.heap.get? f = none → s₁.heap.get? f = some { cls := .type "function", data := .func (fnD name qual params body scope clos pm c' ctv) } → CodeR s₁.heap c' qual → Q (.ref f) s₁) :
    wpAny C.mod C.A (makeFunction name qual params body scope C.env [] [] [] pos firstLine) Q NoE s := by
  obtain ⟨mg, h1, h2, h3, h4⟩ := K.top _ (I.top hC)
  refine newFn hcl K.glob h1 K.code h2 (K.w _ _ I.world) h3 h4 hk hin hdoc fun f c' ctv pm h' tk hx hf hfo hR hW => h f c' ctv pm _ ⟨⟨rfl, rfl, rfl⟩, fun a o hm e => hx a o (fun z => hm (z ▸ K.m)) e, K.u _ _ _ I.world hW hx⟩ hf hfo hR

/-- a def within a def -/
theorem St.nested (hC : C.Ok) (K : Maker C c PT known) {name : Str} {params : Arguments} {body : List Stmt} {scope : Scope} {pos : Pos} {rest : List Stmt} {clos : List (Str × Addr)} {qual : Str} (hcl : closureFor scope C.env = pure clos)
    (hk : ∀ x ∈ known, x.1.line = pos.line → x.1.col = pos.col → x.2 = qual) (hin : ∃ p, (p, qual) ∈ known ∧ p.line = pos.line ∧ p.col = pos.col) (hdoc : docOf body = none) (hq : qualnameIn C.env name name = qual)
    (hd0 : params.defaults = []) (hk0 : params.kw_defaults = []) (ha : annTrees params none C.env = [])
    (hr : ∀ (O : List (Str × Addr)) (s s₁ : Shared) (f c' : Addr) (ctv pm : Value), Inv C ρ O g s → s.heap.get? f = none → s₁.heap.get? f = some { cls := .type "function", data := .func (fnD name qual params (.stmts body) scope clos pm c' ctv) } →
      NewC C s s₁ (fun a => a = f) (fun _ => False) C.G (cdW C c' qual) g →
      ∃ ρ', Put ρ name (.val (.obj f)) ρ' ∧ ((cx2 C s₁ f c' qual).Ok →
        St (cx2 C s₁ f c' qual) ρ' g rest P)) :
    St C ρ g (.FunctionDef name params body [] none [] scope none name pos :: rest) P := fun O s I => by
  refine wpAny_execs_cons (nestDef_K hd0 hk0 ha ?_)
  rw [hq]
  refine K.new hC I hcl hk hin hdoc fun f c' ctv pm s₁ st hf hfo hR => ?_
  have n : NewC C s s₁ (fun a => a = f) (fun _ => False) C.G (cdW C c' qual) g := {
    rest := st.rest
    keep := st.keep
    kn := fun _ h => h.elim
    fresh := fun a e => by rw [show a = f from e]; exact hf
    there := fun a e => by have e' : a = f := e; subst e'; exact ⟨_, hfo⟩
    top := fun h k => k
    world := ⟨st.world, hR⟩
    ok := {
      wm := fun g h a hw hm => by
        rcases hm with hm | hm
        · exact hC.wm _ _ _ hw.1 hm
        · exact hm.elim
      stab := fun g h h' hw k => ⟨hC.stab _ _ _ hw.1 fun a o hm e => k a o (hm.imp .inl id) e, hw.2.stab fun a o q e => k a o (.inr q) e⟩ } }
  obtain ⟨ρ', hp, hs⟩ := hr O s s₁ f c' ctv pm I hf hfo n
  exact new_rest hC I n (π := id) (fun g h w => w.1) hp hs

/-- a lambda, for an field to be set upon -/
theorem St.lambda (hC : C.Ok) (K : Maker C c PT known) {x : Str} {xp pos apos : Pos} {params : Arguments} {body : Expr} {scope : Scope} {rest : List Stmt} {clos : List (Str × Addr)} {qual : Str} (hcl : closureFor scope C.env = pure clos)
    (hk : ∀ x ∈ known, x.1.line = pos.line → x.1.col = pos.col → x.2 = qual) (hin : ∃ p, (p, qual) ∈ known ∧ p.line = pos.line ∧ p.col = pos.col) (hq : C.env.qual ++ "<lambda>" = qual) (hd : defaultsOf params C.env = ([], []))
    (hr : ∀ (O : List (Str × Addr)) (s s₁ : Shared) (f : Addr), Inv C ρ O g s → s.heap.get? f = none →
      NewC C s s₁ (fun a => a = f) (fun a => a = f) (C.G × Bool) (fnW' C f) (g, false) →
      ∃ ρ', Put ρ x (.val (.obj f)) ρ' ∧ ((cx3 C s₁ f).Ok →
        St (cx3 C s₁ f) ρ' (g, false) rest (fun fl ρ'' g'' => P fl ρ'' g''.1)))
    (hs : swapsWith (.Lambda params body scope pos) (some (.Name x xp)) apos.line C.env = pure false := by rfl) :
    St C ρ g (.Assign [.Name x xp] (.Lambda params body scope pos) apos :: rest) P := by
  refine St.new hC (fun O s I => ?_) hs
  rw [arm_eval_Lambda, hd]
  refine wpAny_bind (wpAny_pure (wpAny_bind (wpAny_holding (wpAny_pure ?_))))
  rw [hq]
  refine K.new hC I hcl hk hin rfl fun f c' ctv pm s₁ st hf hfo hR => ?_
  have n : NewC C s s₁ (fun a => a = f) (fun a => a = f) (C.G × Bool) (fnW' C f) (g, false) := {
    rest := st.rest
    keep := st.keep
    kn := fun _ h => h
    fresh := fun a e => by rw [show a = f from e]; exact hf
    there := fun a e => by have e' : a = f := e; subst e'; exact ⟨_, hfo⟩
    top := fun h k => k
    world := ⟨st.world, _, hfo, rfl, fun c e => (nomatch e), fun _ => rfl⟩
    ok := {
      wm := fun g h a hw hm => by
        rcases hm with hm | hm
        · exact hC.wm _ _ _ hw.1 hm
        · obtain ⟨o, e, _⟩ := hw.2
          exact ⟨o, by rw [show a = f from hm]; exact e⟩
      stab := fun g h h' hw k => ⟨hC.stab _ _ _ hw.1 fun a o hm e => k a o (hm.imp .inl id) e, by
        obtain ⟨o, e, q⟩ := hw.2
        exact ⟨o, k _ _ (.inl (.inr rfl)) e, q⟩⟩ } }
  obtain ⟨ρ', hp, hs⟩ := hr O s s₁ f I hf n
  exact ⟨_, _, _, _, _, _, _, Prod.fst, ρ', rfl, n, fun g h w => w.1, hp, hs⟩

/-- `stream.read = read` -/
theorem St.setRead (hC : C.Ok) {y z : Str} {yp zp ap pos : Pos} {aFn aRd : Addr} {rest : List Stmt} (hy : (y, LV.val (.obj aFn)) ∈ ρ) (hz : (z, LV.val (.obj aRd)) ∈ ρ) (hM : C.M aFn)
    (hW : ∀ h, C.W g h → ∃ o, h.get? aFn = some o ∧ o.cls = .type "function" ∧ (∀ c, o.data ≠ .cls c) ∧ o.dict = none) {V : Wd} {g' : V.G} {π : V.G → C.G}
    (hVM : ∀ a, V.M a → C.M a ∧ a ≠ aFn) (hV : ∀ h, C.W g h → V.W g' h) (hVS : ∀ g h h', V.W g h → (∀ a o, (V.M a ∨ Obj.isRec o) → h.get? a = some o → h'.get? a = some o) → V.W g h')
    (hwm : ∀ g h a, V.W g h → C.M a → a ≠ aFn → ∃ o, h.get? a = some o)
    (hπ : ∀ (g : V.G) (h : Heap) (aFd : Addr), V.W g h → FnDict h aFn aFd (fun y => if y = Str.ofString "read" then some (.ref aRd) else none) → C.W (π g) h)
    (hr : ∀ (O : List (Str × Addr)) (s s₁ : Shared) (aFd : Addr), Inv C ρ O g s → s.heap.get? aFd = none →
      NewC C s s₁ (fun a => a = aFd) (fun a => a = aFd) V.G (dcW V aFn aFd aRd) g' →
      ((cx4 C s₁ V aFn aFd aRd).Ok →
        St (cx4 C s₁ V aFn aFd aRd) ρ g' rest (fun fl ρ'' g'' => P fl ρ'' (π g'')))) :
    St C ρ g (.Assign [.Attribute (.Name y yp) "read" ap] (.Name z zp) pos :: rest) P := by
  refine St.turn hC fun O s I => ?_
  refine plainObj_wpAny_Assign_Attribute (wpAny_mono (Ev.name hC hz O s I) (fun v s₁ ⟨r1, st1⟩ => ?_) fun _ _ x => x)
  obtain rfl := Rep.of_obj r1
  case _ =>
    have I1 := I.step hC st1
    refine wpAny_mono (Ev.name hC hy O s₁ I1) (fun v s₂ ⟨r2, st2⟩ => ?_) fun _ _ x => x
    obtain rfl := Rep.of_obj r2
    case _ =>
      have st := st1.trans st2
      have I2 := I1.step hC st2
      obtain ⟨o, e1, e2, e3, e4⟩ := hW _ I2.world
      have hw2 := I2.world
      have hfr : ∀ a, s₂.heap.get? a = none → s.heap.get? a = none := fun a e => st.fresh hC e
      have hkeep := st.keep
      have hrest := st.rest
      obtain ⟨h2, g2, d2, t2, os2⟩ := s₂
      refine fn_read_set e1 e2 e3 e4 fun h' t' hD hk ho => ?_
      have hnone := hfr _ (get_size_none h2)
      have hdn : ∃ o, h'.get? h2.objs.size = some o := by
        obtain ⟨_, _, _, _, _, _, o, _, _, e, _⟩ := hD
        exact ⟨o, e⟩
      have hfn : ∃ o, h'.get? aFn = some o := let ⟨o, e, _⟩ := hD; ⟨o, e⟩
      have hVW : V.W g' h' := by
        refine hVS g' h2 h' (hV _ hw2) fun a o hm e => ?_
        rcases hm with hm | hm
        · exact hk a o (hVM a hm).2 e
        · refine hk a o ?_ e
          rintro rfl
          have q : h2.get? a = some o := e
          have q1 : h2.get? a = _ := e1
          rw [q] at q1; cases q1
          rw [hm.1] at e2
          exact absurd e2 (by simp)
      have n : NewC C s ⟨h', g2, d2, t', os2⟩ (fun a => a = h2.objs.size) (fun a => a = h2.objs.size) V.G (dcW V aFn h2.objs.size aRd) g' := {
        rest := hrest
        keep := fun a o hm e => hk a o (fun z => hm (z ▸ hM)) (hkeep a o hm e)
        kn := fun _ h => h
        fresh := fun a e => by rw [show a = h2.objs.size from e]; exact hnone
        there := fun a e => by have e' : a = h2.objs.size := e; subst e'; exact hdn
        top := fun h k => k
        world := ⟨hVW, hD⟩
        ok := {
          wm := fun g h a hw hm => by
            rcases hm with hm | hm
            · by_cases z : a = aFn
              · subst z; obtain ⟨o, e, _⟩ := hw.2; exact ⟨o, e⟩
              · exact hwm _ _ _ hw.1 hm z
            · have hm' : a = h2.objs.size := hm
              subst hm'
              obtain ⟨_, _, _, _, _, _, o, _, _, e, _⟩ := hw.2
              exact ⟨o, e⟩
          stab := fun g h h' hw k => ⟨hVS _ _ _ hw.1 fun a o hm e => k a o (hm.imp (fun m => .inl (hVM a m).1) id) e, by
            obtain ⟨o2, z1, z2, z3, z4, z5, o3, es, ep, y1, y2⟩ := hw.2
            exact ⟨o2, k _ _ (.inl (.inl hM)) z1, z2, z3, z4, z5, o3, es, ep, k _ _ (.inl (.inr rfl)) y1, y2⟩⟩ } }
      exact ⟨rfl, _, _, _, _, _, _, π, n, fun g h w => hπ g h _ w.1 w.2, hr O s _ _ I hnone n⟩
end
end Mine
end

section
namespace Mine
open PySem PySem.Calls PyProof.Rows PySem.W

theorem FnW.raw {prog : Program} {w : World} {T : Heap → Prop} {V : Wd} {d : Nat} {a : Addr} {o : Obj} {fd : FuncData} {body : List Stmt} {pn rest : List Str} {ps : List PV} {g : V.G} {A : Around} {X : Addr → Prop} {s : Shared} {us : List Value} {R : Result → Shared → Prop} (hV : V.Ok)
    (hT : ∀ h h' : Heap, T h → (∀ b o, ¬ V.M b → h.get? b = some o → h'.get? b = some o) → T h')
    (hR : Room (d + 1) A) (hTs : T s.heap) (hX : ∀ a, s.heap.get? a = none → ¬ X a) (hMX : ∀ a, V.M a → X a) (hw : V.W g s.heap) (hr : Reps X s.heap us ps)
    (hf : s.heap.get? a = some o ∧ s.heap.CodeRec fd.code fd.qualname ∧ s.heap.NoLimit) (hd : o.data = .func fd) (hb : fd.body = .stmts body) (hclo : fd.closure = [])
    (hbind : ∀ vals : List Value, vals.length = pn.length → bindArgs fd ⟨vals, []⟩ = pure (pn.zip vals)) (hlen : ps.length = pn.length)
    (hnd : (pn ++ rest).Nodup) (hkinds : ((pn ++ rest).all fun x => fd.scope.names.lookup x == some .local || fd.scope.names.lookup x == some .cell) = true)
    (hdbg : ((pn ++ rest).all fun x => !(x == ("__debug__" : Str)) && !(x == ("__classdict__" : Str))) = true)
    (hco : fd.scope.isCoroutine = false) (hgen : fd.scope.isGenerator = false) (hk : fd.scope.kind = .function)
    (hbody : ∀ cells s₁, (frameW prog w T V d fd (pn ++ rest) a cells A X s).Ok → Inv (frameW prog w T V d fd (pn ++ rest) a cells A X s) (startEnv pn rest ps) [] g s₁ →
      wpAny (model prog w) (frameW prog w T V d fd (pn ++ rest) a cells A X s).A (execs body (frameW prog w T V d fd (pn ++ rest) a cells A X s).env) (fun f s' => R (.ok (.ret (match f with | .ret v => v | _ => .none))) s') NoE s₁) :
    codeAny (model prog w) A (.call (.ref a) ⟨us, []⟩) R s := by
  have hlu : us.length = pn.length := by rw [hr.length, hlen]
  have ndp : ((pn.zip us).map (·.1)).Nodup := by rw [zip_fst hlu]; exact (List.nodup_append.mp hnd).1
  have hkd : ∀ x ∈ pn ++ rest, fd.scope.names.lookup x = some .local ∨ fd.scope.names.lookup x = some .cell := fun x hx => by
    have := List.all_eq_true.mp hkinds x hx
    simpa using this
  refine codeAny_call_cells (body := body) (by have := hR.depth; omega) hf.1 hd hf.2.2 hf.2.1 hb (hbind us hlu) hclo ?_ ?_ hco hgen hk
  · intro x hx
    have hx' : x.1 ∈ pn := by have := List.mem_map_of_mem (f := (·.1)) hx; rw [zip_fst hlu] at this; exact this
    rcases hkd x.1 (List.mem_append_left _ hx') with h | h
    · exact .inl h
    · exact .inr ⟨h, PySem.W.cellsFrom_some _ _ _ (.inl h)⟩
  · intro s₁ x
    have hcells : ∀ y c, (callEnvC fd s.heap.objs.size a).cells.lookup y = some c → s.heap.get? c = none := fun y c hc => none_of_le (Nat.le_of_lt (x.above y c (mem_of_lookup hc)))
    have hC : (frameW prog w T V d fd (pn ++ rest) a (cellsFrom (s.heap.objs.size + 1) fd.scope.names []) A X s).Ok := frameW_ok hV hT hR hTs hX hMX hw hk (fun y c _ hc => hcells y c hc)
      (fun y c hc m => by obtain ⟨o, e⟩ := hV.wm g _ _ hw m; rw [hcells y c hc] at e; cases e)
      (fun y z c h1 h2 => name_of_addr x.apart (mem_of_lookup h1) (mem_of_lookup h2)) hnd
      (fun y hy => (hkd y hy).imp id fun h => ⟨.inl h, PySem.W.cellsFrom_some _ _ _ (.inl h)⟩)
      (fun y hy => by have := List.all_eq_true.mp hdbg y hy; simpa using this)
    obtain ⟨h₁, tk, e1, hk₁⟩ := x.done
    subst e1
    have nf : ∀ y ∈ pn ++ rest, Rw (frameW prog w T V d fd (pn ++ rest) a (cellsFrom (s.heap.objs.size + 1) fd.scope.names []) A X s) y := fun y hy => by
      refine ⟨fun e => ?_, id⟩
      rcases hkd y hy with h | h
      · have : some NameKind.local = some NameKind.free := h.symm.trans e
        cases this
      · have : some NameKind.cell = some NameKind.free := h.symm.trans e
        cases this
    have I : Inv (frameW prog w T V d fd (pn ++ rest) a (cellsFrom (s.heap.objs.size + 1) fd.scope.names []) A X s) (startEnv pn rest ps) [] g { s with heap := h₁, toks := tk } := by
      refine ⟨⟨rfl, rfl, rfl⟩, fun b o _ _ e => hk₁ b o e, hV.stab _ _ _ hw fun b o _ e => hk₁ b o e, ?_, ⟨_, x.toInCall.ns, fun y v hy => ?_⟩, fun y c hc => ⟨_, x.cell y c hc⟩, fun _ _ h => (nomatch h), fun _ _ _ h => (nomatch h)⟩
      · show (startEnv pn rest ps).map (·.1) = pn ++ rest
        rw [startEnv, List.map_append, zip_fst (by simpa using hlen), List.map_map]
        congr 1
        exact List.map_id _
      · rcases List.mem_append.mp hy with h | h
        · obtain ⟨p, u, rfl, hu, hrp⟩ := zip_vals hr h
          have hyp : y ∈ pn := by have := List.mem_map_of_mem (f := (·.1)) hu; rw [zip_fst hlu] at this; exact this
          refine ⟨nf y (List.mem_append_left _ hyp), u, ?_, hrp.mono (fun b o hb _ e => ?_) fun b o _ _ e => hk₁ b o e⟩
          · rcases hkd y (List.mem_append_left _ hyp) with h | h
            · exact .inl ⟨h, bindL_mem _ _ _ _ ndp hu h⟩
            · have hs : ((callEnvC fd s.heap.objs.size a).cells.lookup y).isSome = true := PySem.W.cellsFrom_some _ _ _ (.inl h)
              obtain ⟨c, hc⟩ := Option.isSome_iff_exists.mp hs
              have hne : (callEnvC fd s.heap.objs.size a).kindOf y ≠ some .local := fun e => by
                have : some NameKind.cell = some NameKind.local := h.symm.trans e
                cases this
              refine .inr ⟨.inl h, c, hc, ?_⟩
              have := x.cell y c hc
              rw [bindC_mem _ _ _ _ ndp hu hne] at this
              exact this
          · rintro (q | ⟨_, q⟩)
            · exact hb q
            · cases q
        · obtain ⟨z, hz, e⟩ := List.mem_map.mp h
          cases e
          exact nf y (List.mem_append_right _ hz)
    exact wpAny_mono (hbody _ _ hC I) (fun f s' q => q) fun _ _ h => h.elim

/-! the lexer is made -/
structure CA where
  aC : Addr
  aN : Addr
  fI : Addr
  fR : Addr
  fG : Addr
  fP : Addr

/-- the class, as the top made it -/
inductive ClsB (ca : CA) (h : Heap) : Prop
  | mk (nm q bs sn sub ab col dd k0 k1 k2 k3 k5 newId : _) (mN : Str → Option Value) (oR oG oP : Obj) (a1 : h.get? ca.aC = some (excClassObj nm q ca.aC ca.aN bs [.type "object"] true sn sub ab col dd k0 k1 k2 k3 k5 newId)) (a2 : h.Ns ca.aN mN)
    (z1 : mN "__getattribute__" = none) (z2 : mN "__getattr__" = none) (z3 : mN "__setattr__" = none) (z4 : mN "lineno" = none) (z5 : mN "instream" = none) (z6 : mN "whitespace" = none) (z7 : mN "pushback" = none)
    (y1 : mN "_read_char" = some (.ref ca.fR)) (y2 : mN "get_token" = some (.ref ca.fG)) (y3 : mN "push_token" = some (.ref ca.fP))
    (y4 : h.get? ca.fR = some oR) (y5 : oR.cls = .type "function") (y6 : h.get? ca.fG = some oG) (y7 : oG.cls = .type "function") (y8 : h.get? ca.fP = some oP) (y9 : oP.cls = .type "function") : ClsB ca h

noncomputable abbrev attrs : List Str := ["lineno", "instream", "whitespace", "pushback"]
/-- an object under way -/
structure InstW (aC aL aLd : Addr) (m : Str → Option Value) (h : Heap) : Prop where
  inst : h.Inst aL aC m
  ways : Within m attrs
  dict : ∀ o, h.get? aL = some o → o.dict = some aLd
theorem InstW.stab {aC aL aLd : Addr} {m : Str → Option Value} {h h' : Heap} (w : InstW aC aL aLd m h) (k : ∀ a o, (a = aL ∨ a = aLd) → h.get? a = some o → h'.get? a = some o) : InstW aC aL aLd m h' := by
  obtain ⟨⟨o1, e1, c1, n1, d1⟩, hw, hd⟩ := w
  have e1' := k _ _ (.inl rfl) e1
  have hd1 := hd _ e1
  refine ⟨⟨o1, e1', c1, n1, ?_⟩, hw, fun o e => by rw [e1'] at e; cases e; exact hd1⟩
  rcases d1 with d1 | ⟨dx, q1, q2, q3⟩
  · rw [hd1] at d1; cases d1.1
  · rw [hd1] at q1; cases q1
    refine .inr ⟨_, hd1, q2, ?_⟩
    obtain ⟨o2, es, ep, z1, z2⟩ := q3
    exact ⟨o2, es, ep, k _ _ (.inr rfl) z1, z2⟩
theorem InstW.there {aC aL aLd : Addr} {m : Str → Option Value} {h : Heap} (w : InstW aC aL aLd m h) : (∃ o, h.get? aL = some o) ∧ ∃ o, h.get? aLd = some o := by
  obtain ⟨⟨o1, e1, c1, n1, d1⟩, hw, hd⟩ := w
  have hd1 := hd _ e1
  refine ⟨⟨_, e1⟩, ?_⟩
  rcases d1 with d1 | ⟨dx, q1, q2, o4, es4, ep4, x1, _⟩
  · rw [hd1] at d1; cases d1.1
  · rw [hd1] at q1; cases q1; exact ⟨_, x1⟩

theorem InstW.noRec {aC aL aLd : Addr} {m : Str → Option Value} {h : Heap} (w : InstW aC aL aLd m h) {b : Addr} {o : Obj} (ho : Obj.isRec o) (e : h.get? b = some o) : b ≠ aL ∧ b ≠ aLd := by
  obtain ⟨⟨o1, e1, c1, n1, d1⟩, hw, hd⟩ := w
  refine ⟨?_, ?_⟩
  · rintro rfl; rw [e1] at e; cases e; exact absurd (c1.symm.trans ho.1) (by simp)
  · rintro rfl
    have hd1 := hd _ e1
    rcases d1 with d1 | ⟨dx, q1, q2, o4, es4, ep4, x1, x2, _⟩
    · rw [hd1] at d1; cases d1.1
    · rw [hd1] at q1; cases q1
      rw [x1] at e; cases e
      obtain ⟨_, vs, q⟩ := ho
      rw [x2] at q; cases q

noncomputable def InitV (V : Wd) (aC aL aLd : Addr) : Wd := ⟨fun a => V.M a ∨ (a = aL ∨ a = aLd), V.G × (Str → Option Value), fun g h => V.W g.1 h ∧ InstW aC aL aLd g.2 h⟩
theorem InitV.ok {V : Wd} {aC aL aLd : Addr} (hV : V.Ok) : (InitV V aC aL aLd).Ok where
  wm := fun g h a hw hm => by
    rcases hm with hm | rfl | rfl
    · exact hV.wm _ _ _ hw.1 hm
    · exact hw.2.there.1
    · exact hw.2.there.2
  stab := fun g h h' hw k => ⟨hV.stab _ _ _ hw.1 fun a o hm e => k a o (hm.imp .inl id) e, hw.2.stab fun a o q e => k a o (.inl (.inr q)) e⟩

noncomputable abbrev updM (m : Str → Option Value) (x : Str) (v : Value) : Str → Option Value := fun y => if y = x then some v else m y

theorem inst_set {prog : Program} {w : World} {A : Around} {ca : CA} {aL aLd : Addr} {m : Str → Option Value} {s : Shared} {name : Str} {v : Value} (hn : name ∈ attrs) (hI : InstW ca.aC aL aLd m s.heap) (hcls : ClsB ca s.heap) (hne : aL ≠ ca.aC) {Q : Unit → Shared → Prop}
    (hQ : ∀ h' tk, InstW ca.aC aL aLd (updM m name v) h' → (∀ b o, b ≠ aL → b ≠ aLd → s.heap.get? b = some o → h'.get? b = some o) → Q () { s with heap := h', toks := tk }) : wpAny (model prog w) A (setAttr (.ref aL) name v) Q NoE s := by
  obtain ⟨hh, gg, d, t, os⟩ := s
  obtain ⟨nm, q, bs, sn, sub, ab, col, dd, k0, k1, k2, k3, k5, newId, mN, oR, oG, oP, hC, hNs, z1, z2, z3, z4, z5, z6, z7, _⟩ := hcls
  have hB : typeLookup (.type "object") name = pure none ∧ mN name = none := by
    simp only [attrs, List.mem_cons, List.not_mem_nil, or_false] at hn
    rcases hn with rfl | rfl | rfl | rfl
    · exact ⟨lko_lineno, z4⟩
    · exact ⟨lko_instream, z5⟩
    · exact ⟨lko_whitespace, z6⟩
    · exact ⟨lko_pushback, z7⟩
  obtain ⟨I, hw, hd⟩ := hI
  obtain ⟨oL, eL⟩ : ∃ oL, hh.get? aL = some oL := let ⟨o, e, _⟩ := I; ⟨o, e⟩
  have dL := hd oL eL
  refine store_attr (ns := attrs) PySem.F.store_object hC hNs z3 hB.2 hB.1 hne I (fun h' tk' I' hk ho => ?_) hw (by decide +kernel)
  obtain ⟨o1, e1, c1, c2, c3, c4⟩ := ho oL eL
  refine hQ h' tk' ⟨I', fun y hy => ?_, fun o e => ?_⟩ fun b o q1 q2 e => hk b o q1 (fun o₀ dx q3 q4 => ?_) e
  · by_cases e : y = name
    · subst e; exact hn
    · exact hw y (by simp only [updM] at hy; rw [if_neg e] at hy; exact hy)
  · rw [e1] at e; cases e; exact c4 _ dL
  · have q3' : hh.get? aL = some o₀ := q3
    rw [eL] at q3'; cases q3'; rw [dL] at q4; cases q4; exact q2

section
variable {prog : Program} {w : World} {T : Heap → Prop} {V : Wd} {d : Nat} {fd : FuncData} {names : List Str} {a : Addr} {cells : List (Str × Addr)} {A : Around} {X : Addr → Prop} {s₀ : Shared} {ca : CA} {aL aLd : Addr}

/-- `self.name = e` while the object is being made -/
theorem init_stmt (hV : V.Ok) (hC : (frameW prog w T (InitV V ca.aC aL aLd) d fd names a cells A X s₀).Ok) {ρ : Env'} {O : List (Str × Addr)} {g : V.G} {m : Str → Option Value} {s : Shared} (I : Inv (frameW prog w T (InitV V ca.aC aL aLd) d fd names a cells A X s₀) ρ O (g, m) s)
    {name self : Str} {e : Expr} {p : PV} {sp ap pos : Pos} (hself : (self, LV.val (.obj aL)) ∈ ρ) (he : Ev (frameW prog w T (InitV V ca.aC aL aLd) d fd names a cells A X s₀) ρ (g, m) e p (g, m)) (hn : name ∈ attrs) (hcls : ∀ h, T h → ClsB ca h) (hne : aL ≠ ca.aC)
    (hM : ∀ a, V.M a → a ≠ aL ∧ a ≠ aLd) {Q : Flow → Shared → Prop}
    (hQ : ∀ u Y s', Rep Y s'.heap u p → Inv (frameW prog w T (InitV V ca.aC aL aLd) d fd names a cells A X s₀) ρ O (g, updM m name u) s' → Q .next s')
    (hs : swapsWith e (some (.Attribute (.Name self sp) name ap)) pos.line (frameW prog w T (InitV V ca.aC aL aLd) d fd names a cells A X s₀).env = pure false := by rfl) :
    wpAny (model prog w) (frameW prog w T (InitV V ca.aC aL aLd) d fd names a cells A X s₀).A (exec (.Assign [.Attribute (.Name self sp) name ap] e pos) (frameW prog w T (InitV V ca.aC aL aLd) d fd names a cells A X s₀).env) Q NoE s := by
  refine plainObj_wpAny_Assign_Attribute (wpAny_mono (he O s I) (fun u s₁ ⟨r, st⟩ => ?_) fun _ _ x => x) hs
  have I1 := I.step hC st
  refine wpAny_mono (Ev.name hC hself O s₁ I1) (fun v s₂ ⟨r2, st2⟩ => ?_) fun _ _ x => x
  obtain rfl := Rep.of_obj r2
  case _ =>
    have I2 := I1.step hC st2
    obtain ⟨hv, hI⟩ := I2.world
    refine inst_set hn hI (hcls _ (I2.top hC)) hne fun h' tk hI' hk => ?_
    have hnr : ∀ b o, Obj.isRec o → s₂.heap.get? b = some o → b ≠ aL ∧ b ≠ aLd := fun b o ho e => hI.noRec ho e
    have st3 : Step (frameW prog w T (InitV V ca.aC aL aLd) d fd names a cells A X s₀) (g, updM m name u) s₂ { s₂ with heap := h', toks := tk } :=
      ⟨⟨rfl, rfl, rfl⟩, fun b o hm e => hk b o (fun z => hm (.inr (.inl z))) (fun z => hm (.inr (.inr z))) e, hV.stab _ _ _ hv fun b o hm e => by
        have q : b ≠ aL ∧ b ≠ aLd := hm.elim (fun m => hM b m) fun r => hnr b o r e
        exact hk b o q.1 q.2 e, hI'⟩
    exact hQ u _ _ ((r.step hC st2).step hC st3) (I2.step hC st3)

/-- `self.name = []` while the object is being made -/
theorem init_list (hV : V.Ok) (hC : (frameW prog w T (InitV V ca.aC aL aLd) d fd names a cells A X s₀).Ok) {ρ : Env'} {O : List (Str × Addr)} {g : V.G} {m : Str → Option Value} {s : Shared} (I : Inv (frameW prog w T (InitV V ca.aC aL aLd) d fd names a cells A X s₀) ρ O (g, m) s)
    {name self : Str} {sp lp ap pos : Pos} (hself : (self, LV.val (.obj aL)) ∈ ρ) (hn : name ∈ attrs) (hcls : ∀ h, T h → ClsB ca h) (hne : aL ≠ ca.aC)
    (hM : ∀ a, V.M a → a ≠ aL ∧ a ≠ aLd) {Q : Flow → Shared → Prop}
    (hQ : ∀ aP s', s.heap.get? aP = none → s₀.heap.get? aP = none → s'.heap.PlainList aP #[] → Inv (frameW prog w T (InitV V ca.aC aL aLd) d fd names a cells A X s₀) ρ O (g, updM m name (.ref aP)) s' → Q .next s') :
    wpAny (model prog w) (frameW prog w T (InitV V ca.aC aL aLd) d fd names a cells A X s₀).A (exec (.Assign [.Attribute (.Name self sp) name ap] (.List [] lp) pos) (frameW prog w T (InitV V ca.aC aL aLd) d fd names a cells A X s₀).env) Q NoE s := by
  refine plainObj_wpAny_Assign_Attribute (wpAny_List (spliced_nil ⟨by show 0 ≤ 2 ^ 24; omega, ?_⟩))
  have hn4 := I.new hC (get_size_none s.heap)
  have st5 := Step.of_keeps hC I.world (keeps_push (s := s) (o := { cls := .type "list", data := .seq ([] : List Value).toArray }))
  have I5 := I.step hC st5
  refine wpAny_mono (Ev.name hC hself _ _ I5) (fun v s6 ⟨r6, st6⟩ => ?_) fun _ _ x => x
  obtain rfl := Rep.of_obj r6
  case _ =>
    have I6 := I5.step hC st6
    obtain ⟨hv, hI6⟩ := I6.world
    have hP6 : s6.heap.PlainList s.heap.objs.size #[] := ⟨0, st6.keep _ _ hn4.2.2.1 (Heap.get?_push_size _ rfl)⟩
    have hPL : s.heap.objs.size ≠ aL ∧ s.heap.objs.size ≠ aLd := by
      have q := I.world.2.there
      refine ⟨fun z => ?_, fun z => ?_⟩
      · obtain ⟨o, e⟩ := q.1; rw [← z, get_size_none] at e; cases e
      · obtain ⟨o, e⟩ := q.2; rw [← z, get_size_none] at e; cases e
    refine inst_set hn hI6 (hcls _ (I6.top hC)) hne fun h' tk hI' hk => ?_
    have st3 : Step (frameW prog w T (InitV V ca.aC aL aLd) d fd names a cells A X s₀) (g, updM m name (.ref s.heap.objs.size)) s6 { s6 with heap := h', toks := tk } :=
      ⟨⟨rfl, rfl, rfl⟩, fun b o hm e => hk b o (fun z => hm (.inr (.inl z))) (fun z => hm (.inr (.inr z))) e, hV.stab _ _ _ hv fun b o hm e => by
        have q : b ≠ aL ∧ b ≠ aLd := hm.elim (fun m => hM b m) fun r => hI6.noRec r e
        exact hk b o q.1 q.2 e, hI'⟩
    exact hQ _ _ (get_size_none _) hn4.1 (by obtain ⟨n, e⟩ := hP6; exact ⟨n, hk _ _ hPL.1 hPL.2 e⟩) (I6.step hC st3)
end

/-- what the new object bears -/
structure Made (ca : CA) (aL aLd aP aFn : Addr) (mA : Str → Option Value) (h : Heap) : Prop where
  inst : InstW ca.aC aL aLd mA h
  lineno : ∃ t, mA "lineno" = some (.int 1 t)
  instream : mA "instream" = some (.ref aFn)
  white : ∃ t, mA "whitespace" = some (.str ⟨ws.toArray⟩ t)
  pushback : mA "pushback" = some (.ref aP)
  list : h.PlainList aP #[]
  r : mA "_read_char" = none
  g : mA "get_token" = none
  p : mA "push_token" = none

theorem init_call {prog : Program} {w : World} {T : Heap → Prop} {V : Wd} {g : V.G} {A : Around} {ca : CA} {aL aLd aFn : Addr} {s : Shared} {o : Obj} {fd : FuncData} {R : Result → Shared → Prop} (hV : V.Ok)
    (hT : ∀ h h' : Heap, T h → (∀ b o, ¬ (V.M b ∨ (b = aL ∨ b = aLd)) → h.get? b = some o → h'.get? b = some o) → T h') (hR : Room 1 A) (hTs : T s.heap) (hw : V.W g s.heap) (hI : InstW ca.aC aL aLd (fun _ => none) s.heap)
    (D : DefAt T (methAt theProg iCls 0) ["self", "fp"] ca.fI o fd) (hcls : ∀ h, T h → ClsB ca h) (hne : aL ≠ ca.aC) (hM : ∀ a, V.M a → a ≠ aL ∧ a ≠ aLd)
    (hq : ∀ s' aP mA, s.heap.get? aP = none → (s'.gens = s.gens ∧ s'.drawn = s.drawn ∧ s'.os = s.os) → (∀ a o, ¬ V.M a → a ≠ aL → a ≠ aLd → s.heap.get? a = some o → s'.heap.get? a = some o) → V.W g s'.heap → Made ca aL aLd aP aFn mA s'.heap → R (.ok (.ret .none)) s') :
    codeAny (model prog w) A (.call (.ref ca.fI) ⟨[.ref aL, .ref aFn], []⟩) R s := by
  have hV' : (InitV V ca.aC aL aLd).Ok := InitV.ok hV
  refine FnW.raw (T := T) (V := InitV V ca.aC aL aLd) (d := 0) (g := (g, fun _ => none)) (X := (InitV V ca.aC aL aLd).M) (ps := [.obj aL, .obj aFn]) (rest := []) hV' hT hR hTs (fun a e m => ?_) (fun _ m => m) ⟨hw, hI⟩ (.cons (.obj _) (.cons (.obj _) .nil)) (D.at' _ hTs) D.data D.body D.clo D.bind rfl (by decide) (by rw [D.scope]; decide +kernel) (by decide +kernel) (by rw [D.scope]; rfl) (by rw [D.scope]; rfl) (by rw [D.scope]; rfl) fun cells s₁ hC I => ?_
  · obtain ⟨o, e'⟩ := hV'.wm (g, fun _ => none) _ _ ⟨hw, hI⟩ m; rw [e] at e'; cases e'
  have hself : (Str.ofString "self", LV.val (.obj aL)) ∈ startEnv ["self", "fp"] [] [.obj aL, .obj aFn] := List.mem_cons_self
  have hfp : (Str.ofString "fp", LV.val (.obj aFn)) ∈ startEnv ["self", "fp"] [] [.obj aL, .obj aFn] := List.mem_cons_of_mem _ List.mem_cons_self
  refine wpAny_execs_cons (init_stmt hV hC I hself Ev.int (by simp [attrs]) hcls hne hM fun u1 X1 s2 r1 I2 => ?_)
  refine wpAny_execs_cons (init_stmt hV hC I2 hself (Ev.name hC hfp) (by simp [attrs]) hcls hne hM fun u2 X2 s3 r2 I3 => ?_)
  refine wpAny_execs_cons (init_stmt hV hC I3 hself (Ev.str (l := ws) rfl) (by simp [attrs]) hcls hne hM fun u3 X3 s4 r3 I4 => ?_)
  refine wpAny_execs_cons (init_list hV hC I4 hself (by simp [attrs]) hcls hne hM fun aP s5 _ hn5 hP5 I5 => ?_)
  refine wpAny_execs_nil ?_
  refine hq _ aP _ hn5 I5.rest (fun b o hm h1 h2 e => I5.old b o (fun z => by have z' : s.heap.get? b = none := z; rw [z'] at e; cases e) (fun z => z.elim hm fun z => z.elim h1 h2) e)
      I5.world.1 ⟨I5.world.2, ?_, ?_, ?_, ?_, hP5, ?_, ?_, ?_⟩
  · cases r1; exact ⟨_, rfl⟩
  · cases r2; rfl
  · cases r3; exact ⟨_, rfl⟩
  · rfl
  · rfl
  · rfl
  · rfl

/-- `_netrclex(stream)` -/
theorem new_lexer {C : Cx} (hC : C.Ok) {ρ : Env'} {O : List (Str × Addr)} {g : C.G} {s : Shared} (I : Inv C ρ O g s) {ca : CA} {K : Frag} {aFn : Addr} {o : Obj} {fd : FuncData} (hK : ∀ h, C.T h → K.In h) (hmk : makesIn K ca.aC = true)
    (hfi : findIn K (.ref ca.aC) "__init__" = some (some (.ref ca.fI))) (hty : typeIn K (.ref ca.fI) = some (.type "function")) (hkeep : keepIn K (.ref ca.aC) = true) (hcls : ∀ h, C.T h → ClsB ca h)
    (D : DefAt C.T (methAt theProg iCls 0) ["self", "fp"] ca.fI o fd) (hTc : C.T = Canon C.F C.M C.s₀.heap) {np xp pos : Pos} {c x : Str} (hg : GlobIs C c (.ref ca.aC)) (hst : (x, LV.val (.obj aFn)) ∈ ρ) (hd : 2 ≤ C.d) {Q : Value → Shared → Prop}
    (hQ : ∀ aL aLd aP s₁ mA, s.heap.get? aL = none → s.heap.get? aLd = none → s.heap.get? aP = none → aL ≠ aLd → aP ≠ aL → aP ≠ aLd → (s₁.gens = s.gens ∧ s₁.drawn = s.drawn ∧ s₁.os = s.os) → (∀ a o, ¬ C.M a → s.heap.get? a = some o → s₁.heap.get? a = some o) →
      C.W g s₁.heap → Made ca aL aLd aP aFn mA s₁.heap → Q (.ref aL) s₁)
    (hn : (backTo pos (starEach [.Name x xp] C.env)).any (·.1) = false := by rfl)
    (he : starEach (.Name x xp :: []) C.env = (false, eval (.Name x xp) C.env) :: starEach [] C.env := by rfl) (hplain : (backTo pos (starEach [] C.env)).any (·.1) = false := by rfl) :
    wpAny C.mod C.A (eval (.Call (.Name c np) [.Name x xp] [] pos) C.env) Q NoE s := by
  refine wpAny_Call_NameR (eval_glob hC hg I (callWith_K (h₀ := s.heap) (hK _ (I.top hC)) hkeep (wpAny_mono (EvL.cons hC (Ev.name hC hst) EvL.nil (fun _ => rfl) O s pos I) (fun us s₁ ⟨r, st⟩ => ?_) fun _ _ x => x) he hplain))
  have I1 := I.step hC st
  have X := hK _ (I1.top hC)
  refine ⟨X, wpAny_call ?_⟩
  obtain rfl : us = [.ref aFn] := by
    cases r with
    | cons a1 b1 => cases a1; cases b1; rfl
  have hfresh : ∀ a, s₁.heap.get? a = none → s.heap.get? a = none := fun a e => st.fresh hC e
  have hkeep1 := st.keep
  have hrest1 := st.rest
  have hT1 := I1.top hC
  have hw1 := I1.world
  have hold1 := I1.old
  have hcl1 := hcls _ hT1
  obtain ⟨h1, g1, d1, t1, os1⟩ := s₁
  refine make_core (makes_of X hmk) (looks_findIn X hfi) (fun self => bind_fn X self hty) (.inl rfl) ?_
  have kp : ∀ b o, h1.get? b = some o → ((h1.push emptyDict).push (instObj ca.aC h1.objs.size)).get? b = some o := fun b o e => Heap.get?_push_of_some _ (Heap.get?_push_of_some _ e)
  have hL0 : h1.get? (h1.objs.size + 1) = none := none_of_le (Nat.le_succ _)
  have hD0 : h1.get? h1.objs.size = none := get_size_none _
  have eL : ((h1.push emptyDict).push (instObj ca.aC h1.objs.size)).get? (h1.objs.size + 1) = some (instObj ca.aC h1.objs.size) := by heap_get
  have eD : ((h1.push emptyDict).push (instObj ca.aC h1.objs.size)).get? h1.objs.size = some emptyDict := Heap.get?_push_of_some _ (Heap.get?_push_size _ rfl)
  have hI : InstW ca.aC (h1.objs.size + 1) h1.objs.size (fun _ => none) ((h1.push emptyDict).push (instObj ca.aC h1.objs.size)) := by
    refine ⟨⟨_, eL, rfl, fun c e => (nomatch e), .inr ⟨_, rfl, Nat.ne_of_lt (Nat.lt_succ_self _), ?_⟩⟩, fun y hy => absurd rfl hy, fun o e => ?_⟩
    · exact Heap.Ns1.of_empty ⟨_, #[], _, eD, rfl, fun e he => absurd he (by simp), fun _ => rfl⟩
    · rw [eL] at e; cases e; rfl
  have hne : h1.objs.size + 1 ≠ ca.aC := by
    obtain ⟨nm, q, bs, sn, sub, ab, col, dd, k0, k1, k2, k3, k5, newId, mN, oR, oG, oP, hCo, _⟩ := hcl1
    rintro z; rw [← z, hL0] at hCo; cases hCo
  have hMn : ∀ a, C.M a → a ≠ h1.objs.size + 1 ∧ a ≠ h1.objs.size := fun a m => by
    obtain ⟨o, e⟩ := hC.wm _ _ _ hw1 m
    refine ⟨?_, ?_⟩
    · exact ne_get e hL0
    · exact ne_get e hD0
  have hRm : Room 1 (C.A.under (.builtin "type.__call__" ⟨.ref ca.aC :: [.ref aFn], []⟩)) := by
    have h1 := hC.handled; have h2 := hC.depth; have h3 := hC.units
    exact ⟨h1, by show C.A.depth + 1 + 1 < _; omega, by show C.A.units + 1 + 20 * 1 + 200 < _; omega⟩
  refine init_call (T := C.T) (V := C.wd) (g := g) (aFn := aFn) ⟨hC.wm, hC.stab⟩ (fun h h' hT k => ?_) hRm ?_ (hC.stab _ _ _ hw1 fun a o _ e => kp a o e) hI D hcls hne hMn fun s' aP mA e1 e2 e3 e4 e5 => ?_
  · rw [hTc] at hT ⊢
    intro a o q1 q2 q3
    refine k a o (fun z => ?_) (hT a o q1 q2 q3)
    have e := hold1 a o q1 q2 q3
    rcases z with z | z | z
    · exact q2 z
    · exact ne_get e hL0 z
    · exact ne_get e hD0 z
  · rw [hTc]
    exact fun a o q1 q2 q3 => kp a o (hold1 a o q1 q2 q3)
  · have hPL : aP ≠ h1.objs.size + 1 := (ne_get eL e1).symm
    have hPD : aP ≠ h1.objs.size := (ne_get eD e1).symm
    have hP0 : h1.get? aP = none := by
      cases q : h1.get? aP with
      | none => rfl
      | some o => rw [show _ = some _ from kp _ _ q] at e1; cases e1
    refine ⟨rfl, hQ _ _ aP s' mA (hfresh _ hL0) (hfresh _ hD0) (hfresh _ hP0) (Nat.succ_ne_self _) hPL hPD ⟨e2.1.trans hrest1.1, e2.2.1.trans hrest1.2.1, e2.2.2.trans hrest1.2.2⟩ (fun a o hm e => ?_) e4 e5⟩
    have e' := hkeep1 a o hm e
    refine e3 a o hm ?_ ?_ (kp a o e')
    · exact ne_get e' hL0
    · exact ne_get e' hD0
end Mine
end

section
namespace Mine
open PySem PySem.Calls PyProof.Rows PySem.W

/-! bits -/
theorem bitAnd_nat (a b : Nat) : Builtin.bitAnd (a : Int) (b : Int) = ((a &&& b : Nat) : Int) := by
  rw [bitAnd_pp (Int.natCast_nonneg a) (Int.natCast_nonneg b)]; simp
theorem xor_half {x y a b : Nat} (h : x / 2 + 2 * (y / 2) = a / 2 + b / 2) (m : x % 2 + 2 * (y % 2) = a % 2 + b % 2) : x + 2 * y = a + b := by omega
theorem xor_low {i j : Nat} (hi : i < 2) (hj : j < 2) : (i ^^^ j) + 2 * (i &&& j) = i + j := by
  match i, j with
  | 0, 0 => rfl
  | 0, 1 => rfl
  | 1, 0 => rfl
  | 1, 1 => rfl
theorem nat_xor_add (a b : Nat) : (a ^^^ b) + 2 * (a &&& b) = a + b := by
  induction a using Nat.strongRecOn generalizing b with
  | ind a ih =>
    by_cases h : a = 0
    · subst h; simp
    · have h1 : (a ^^^ b) / 2 = a / 2 ^^^ b / 2 := Nat.xor_div_two
      have h2 : (a &&& b) / 2 = a / 2 &&& b / 2 := Nat.and_div_two
      have h3 : (a ^^^ b) % 2 = a % 2 ^^^ b % 2 := Nat.xor_mod_two_pow (n := 1)
      have h4 : (a &&& b) % 2 = a % 2 &&& b % 2 := Nat.and_mod_two_pow (n := 1)
      refine xor_half ?_ ?_
      · rw [h1, h2]; exact ih (a / 2) (Nat.div_lt_self (Nat.pos_of_ne_zero h) (by decide)) (b / 2)
      · rw [h3, h4]; exact xor_low (Nat.mod_lt _ (by decide)) (Nat.mod_lt _ (by decide))
theorem bitXor_nat (a b : Nat) : Builtin.bitXor (a : Int) (b : Int) = ((a ^^^ b : Nat) : Int) := by
  unfold Builtin.bitXor
  rw [bitOr_and, bitAnd_nat]
  have := nat_xor_add a b
  omega
theorem and_one (a : Nat) : a &&& 1 = a % 2 := Nat.and_one_is_mod a
theorem shr_nat (a n : Nat) : ((a : Int)).fdiv (2 ^ n) = ((a / 2 ^ n : Nat) : Int) := by
  rw [show ((2 : Int) ^ n) = ((2 ^ n : Nat) : Int) by norm_cast]
  rw [Int.fdiv_eq_ediv_of_nonneg _ (Int.natCast_nonneg _)]
  norm_cast

noncomputable def bitStep (r : Nat) : Nat := if r % 2 = 1 then r / 2 ^^^ 3988292384 else r / 2
noncomputable def bitSteps : Nat → Nat → Nat
  | 0, r => r
  | n + 1, r => bitStep (bitSteps n r)
noncomputable abbrev genCrc (r : Nat) : Nat := bitSteps 8 r

theorem TG.mono {T T' : Heap → Prop} {x : Str} {v : Value} (h : TG T x v) (hT : ∀ h, T' h → T h) : TG T' x v := ⟨h.1, fun hh t => h.2 hh (hT hh t)⟩
theorem DefAt.mono {T T' : Heap → Prop} {st : Stmt} {pn : List Str} {a : Addr} {o : Obj} {fd : FuncData} (D : DefAt T st pn a o fd) (hT : ∀ h, T' h → T h) : DefAt T' st pn a o fd :=
  ⟨D.data, fun h t => D.at' h (hT h t), D.body, D.scope, D.clo, D.glob, D.bi, D.bind⟩

section
variable {C : Cx} {g : C.G} {prog : Program} {w : World} {T : Heap → Prop} {d : Nat}

theorem GlobIs.of' {T : Heap → Prop} {x : Str} {v : Value} (h : TG T x v) (hT : ∀ h, C.T h → T h) (h1 : C.env.globals = mainGlobals) (h2 : C.env.builtins = builtinsNs) (hk : C.env.kindOf x = some .globalImplicit) : GlobIs C x v :=
  ⟨hk, h.1, fun hh ht => by rw [h1, h2]; exact h.2 hh (hT hh ht)⟩

/-- what a frame of a def sees of the top -/
structure TopAt (C : Cx) (prog : Program) (w : World) (T : Heap → Prop) (d : Nat) (sc : Scope) : Prop where
  ok : C.Ok
  prog : C.prog = prog
  w : C.w = w
  sub : ∀ h, C.T h → T h
  d : d ≤ C.d
  scope : C.env.scope = sc
  globals : C.env.globals = mainGlobals
  builtins : C.env.builtins = builtinsNs
theorem FrameD.top {sc : Scope} (F : FrameD C prog w T d sc) : TopAt C prog w T d sc := ⟨F.ok, F.prog, F.w, fun h t => F.T ▸ t, Nat.le_of_eq F.d.symm, F.scope, F.globals, F.builtins⟩
theorem TopAt.glob {sc : Scope} (F : TopAt C prog w T d sc) {x : Str} {v : Value} (h : TG T x v) (hk : sc.names.lookup x = some .globalImplicit) : GlobIs C x v :=
  GlobIs.of' h F.sub F.globals F.builtins (by show C.env.scope.names.lookup x = _; rw [F.scope]; exact hk)

/-- a pure def of the top -/
structure PureAt (prog : Program) (w : World) (T : Heap → Prop) (d : Nat) (x : Str) (f : Addr) : Prop where
  glob : TG T x (.ref f)
  obj : ∃ o fd, o.data = .func fd ∧ ∀ h, T h → h.get? f = some o
theorem TopAt.call {sc : Scope} {ρ : Env'} {g₁ : C.G} {d' : Nat} (F : TopAt C prog w T d sc) {x : Str} {f : Addr} {np pos : Pos} {es : List Expr} {ps : List PV} {r : PV} (D : PureAt prog w T d' x f) (hk : sc.names.lookup x = some .globalImplicit) (h : EvL C ρ g es ps g₁)
    (ho : Fn prog w T d' (.ref f) ps r) (hd : d' ≤ d) (hn : (backTo pos (starEach es C.env)).any (·.1) = false := by rfl) : Ev C ρ g (.Call (.Name x np) es [] pos) r g₁ := by
  obtain ⟨o, fd, e1, e2⟩ := D.obj
  refine Ev.callF F.ok (F.glob D.glob hk) ⟨o, fd, e1, fun h t => e2 h (F.sub h t)⟩ h ?_ (Nat.le_trans hd F.d) hn
  rw [F.prog, F.w]
  exact ho.weaken F.sub

theorem crc_body {sc : Scope} (F : TopAt C prog w T d sc) (hrange : TG T "range" (.type "range")) (hk : sc.names.lookup (Str.ofString "range") = some .globalImplicit) (r : Nat) :
    St C [en "crc" (.val (.int r)), en "j" .undef] g (stmtBody (stmtAt theProg iCrc)) (fun fl _ _ => fl = .ret (.int (genCrc r))) := by
  have hC := F.ok
  refine St.cons (St1.for hC (EvIt.range1 hC (F.glob hrange hk) (EvL.cons hC Ev.int EvL.nil) (by decide) (by decide)) (fun i ρ g => ρ = [en "crc" (.val (.int (bitSteps i r))), en "j" .undef]) rfl ?_ ?_)
  · rintro i p ρ₁ g₂ hp rfl
    refine ⟨_, Binds.name (by walk_at "m_put"), ?_⟩
    refine St.one (St1.ifs hC (EvB.val hC (by walk_at "m_ev") rfl) (fun h => ?_) fun h => ?_)
    · have h' : bitSteps i r % 2 = 1 := by
        have h' : (Builtin.bitAnd ((bitSteps i r : Nat) : Int) ((1 : Nat) : Int) != 0) = true := h
        rw [bitAnd_nat, and_one] at h'
        have : ¬ ((bitSteps i r % 2 : Nat) : Int) = 0 := by simpa using h'
        omega
      refine St.one (St1.assign hC (by walk_at "m_ev") (by walk_at "m_put") ⟨_, ?_, rfl⟩)
      refine Weak.val ?_ (Weak.drop rfl Weak.nil)
      congr 1
      show Builtin.bitXor (((bitSteps i r : Nat) : Int).fdiv (2 ^ 1)) ((3988292384 : Nat) : Int) = _
      rw [shr_nat, bitXor_nat]
      simp [bitSteps, bitStep, h']
    · have h' : ¬ bitSteps i r % 2 = 1 := by
        have h' : (Builtin.bitAnd ((bitSteps i r : Nat) : Int) ((1 : Nat) : Int) != 0) = false := h
        rw [bitAnd_nat, and_one] at h'
        have : ((bitSteps i r % 2 : Nat) : Int) = 0 := by simpa using h'
        omega
      refine St.one (St1.aug hC (by walk_at "m_mem") (by walk_at "m_ev") (op_ishr (by decide)) (by walk_at "m_put") ⟨_, ?_, rfl⟩)
      refine Weak.val ?_ (Weak.drop rfl Weak.nil)
      congr 1
      show (((bitSteps i r : Nat) : Int).fdiv (2 ^ 1)) = _
      rw [shr_nat]
      simp [bitSteps, bitStep, h']
  · rintro ρ₁ g₂ rfl
    exact St.one (St1.ret hC (by walk_at "m_ev") (by rw [rangeItems_length]; rfl))

theorem crc_fn {f : Addr} {o : Obj} {fd : FuncData} (hT : ∀ h h' : Heap, T h → (∀ b o, h.get? b = some o → h'.get? b = some o) → T h') (D : DefAt T (stmtAt theProg iCrc) ["crc"] f o fd) (hrange : TG T "range" (.type "range")) (r : Nat) :
    Fn prog w T 1 (.ref f) [.int r] (.int (genCrc r)) :=
  Fn.def ["j"] hT D rfl (by decide) (by decide +kernel) (by decide +kernel) rfl rfl rfl fun C g F => StP.mono (crc_body F.top hrange (by rfl) r) fun fl ρ g h => .inl h
end
end Mine
end

section
namespace Mine
open PySem PySem.Calls PyProof.Rows PySem.W

noncomputable abbrev iCalls : Nat := 7
noncomputable def readStmt : Stmt := ((stmtBody (stmtAt theProg iCalls))[1]?).getD (.Pass ⟨0, 0, 0, 0⟩)
noncomputable def stmtArgs : Stmt → Arguments
  | .FunctionDef _ a _ _ _ _ _ _ _ _ => a
  | _ => { posonlyargs := [], args := [], vararg := none, kwonlyargs := [], kw_defaults := [], kwarg := none, defaults := [] }
noncomputable def crcOf (r c : Nat) : Nat := genCrc (r ^^^ c)

section
variable {C : Cx} {g : C.G} {prog : Program} {w : World} {T : Heap → Prop} {d : Nat} {la : LA} {text : List Nat}

theorem op_xorN {a b : Nat} : Op2 C (binaryOp .BitXor) (.int a) (.int b) (.int ((a ^^^ b : Nat) : Int)) := by rw [← bitXor_nat]; exact op_xor

theorem HasLex.state0' (H : HasLex C la) (l : LG) : ∀ h X, C.T h → C.W (H.put g l) h → ∃ vs u, h.IsList la.aS vs ∧ vs[(0 : Int).toNat]? = some u ∧ Rep X h u (.int l.pos) := by
  have := H.state0 (g := H.put g l); rw [H.gp] at this; exact this
theorem HasLex.state1' (H : HasLex C la) (l : LG) : ∀ h X, C.T h → C.W (H.put g l) h → ∃ vs u, h.IsList la.aS vs ∧ vs[(1 : Int).toNat]? = some u ∧ Rep X h u (.int l.reg) := by
  have := H.state1 (g := H.put g l); rw [H.gp] at this; exact this
theorem HasLex.set0' (H : HasLex C la) (l : LG) {n : Nat} : ∀ h X u, C.W (H.put g l) h → Rep X h u (.int n) → ∃ vs, h.IsList la.aS vs ∧ (0 : Int) < vs.size ∧ ∀ h', h'.IsList la.aS (vs.setIfInBounds (0 : Int).toNat u) → Heap.SameBut la.aS h h' → C.W (H.put g { l with pos := n }) h' := by
  have := H.set0 (g := H.put g l) (n := n); rw [H.gp, H.pp] at this; exact this
theorem HasLex.set1' (H : HasLex C la) (l : LG) {n : Nat} : ∀ h X u, C.W (H.put g l) h → Rep X h u (.int n) → ∃ vs, h.IsList la.aS vs ∧ (1 : Int) < vs.size ∧ ∀ h', h'.IsList la.aS (vs.setIfInBounds (1 : Int).toNat u) → Heap.SameBut la.aS h h' → C.W (H.put g { l with reg := n }) h' := by
  have := H.set1 (g := H.put g l) (n := n); rw [H.gp, H.pp] at this; exact this

theorem slice_one (x : List Nat) (p : Nat) : pySlice x (some (p : Int)) (some ((p : Int) + 1)) = (x[p]?).toList := by
  unfold pySlice clipTo
  simp only
  rw [if_neg (by omega), if_neg (by omega)]
  by_cases h : p < x.length
  · have h' : (p : Int) + 1 ≤ (x.length : Int) := by omega
    rw [Int.min_eq_left h', Int.min_eq_left (show (p : Int) ≤ (x.length : Int) by omega), Int.max_eq_right (Int.natCast_nonneg p), Int.max_eq_right (show (0 : Int) ≤ (p : Int) + 1 by omega), show (p : Int) + 1 - (p : Int) = 1 by omega, Int.toNat_natCast, List.getElem?_eq_getElem h]
    rw [List.drop_eq_getElem_cons h]; rfl
  · rw [Int.min_eq_right (show (x.length : Int) ≤ (p : Int) + 1 by omega), Int.min_eq_right (show (x.length : Int) ≤ (p : Int) by omega), Int.sub_self, List.getElem?_eq_none (by omega)]; simp

theorem sgn_le (l : LG) : (sgn text l).length ≤ 1 := by unfold sgn; cases text[l.pos]? <;> simp

theorem read_body {sc : Scope} (F : TopAt C prog w T d sc) (H : HasLex C la) (hlen : TG T "len" (.builtin "len")) (hord : TG T "ord" (.builtin "ord")) {fCrc : Addr} (D : PureAt prog w T 1 "_gen_crc" fCrc) (hcrc : ∀ r : Nat, Fn prog w T 1 (.ref fCrc) [.int r] (.int (genCrc r)))
    (hk1 : sc.names.lookup (Str.ofString "len") = some .globalImplicit) (hk2 : sc.names.lookup (Str.ofString "ord") = some .globalImplicit) (hk3 : sc.names.lookup (Str.ofString "_gen_crc") = some .globalImplicit) (hd : 1 ≤ d) (hl : text.length ≤ 16000000) (l : LG) :
    St C [en "count" (.val (.int 1)), en "part" .undef, en "sign" .undef, en "state" (.ro (.obj la.aS)), en "text" (.ro (.str text))] (H.put g l) (stmtBody readStmt)
      (fun fl _ g' => fl = .ret (.str (sgn text l)) ∧ g' = H.put g { nxt text crcOf l with line := l.line }) := by
  have hC := F.ok
  have hst : ∀ {ρ : Env'} {g : C.G}, (Str.ofString "state", LV.ro (.obj la.aS)) ∈ ρ → ∀ {pos}, Ev C ρ g (.Name (Str.ofString "state") pos) (.obj la.aS) g := fun h => Ev.nameRo hC h
  refine St.cons (St1.assign hC (Ev.sliceStr (l := some (l.pos : Int)) (u := some ((l.pos : Int) + 1)) hC (Ev.nameRo hC (by walk_at "m_mem")) (EvO.some (Ev.subW hC (hst (by walk_at "m_mem")) Ev.int (by decide) (by decide) (H.state0' l))) (EvO.some (Ev.bin hC (Ev.subW hC (hst (by walk_at "m_mem")) Ev.int (by decide) (by decide) (H.state0' l)) (by walk_at "m_ev") op_add)) (by omega)) (by walk_at "m_put") ?_)
  have esl : pySlice text (some (l.pos : Int)) (some ((l.pos : Int) + 1)) = sgn text l := slice_one text l.pos
  rw [esl]
  have hpart : ∀ {ρ : Env'} {g : C.G}, (Str.ofString "part", LV.val (.str (sgn text l))) ∈ ρ → ∀ {pos}, Ev C ρ g (.Name (Str.ofString "part") pos) (.str (sgn text l)) g := fun h => Ev.name hC h
  refine St.cons (St1.augW (g₃ := H.put g l) hC (hst (by walk_at "m_mem")) Ev.int (by decide) (by decide) (H.state0' l) (Ev.callB hC (F.glob hlen hk1) (EvL.cons hC (hpart (by walk_at "m_mem")) EvL.nil) (call_lenS (by have := sgn_le (text := text) l; omega))) op_iadd H.mS (H.set0' l (n := l.pos + (sgn text l).length)) ?_)
  refine St.cons (St1.for hC (EvIt.str hC (hpart (by walk_at "m_mem"))) (fun i ρ g' => ρ = [en "count" (.val (.int 1)), en "part" (.val (.str (sgn text l))), en "sign" .undef, en "state" (.ro (.obj la.aS)), en "text" (.ro (.str text))] ∧
    g' = H.put g { l with pos := l.pos + (sgn text l).length, reg := ((sgn text l).take i).foldl crcOf l.reg }) ⟨rfl, rfl⟩ ?_ ?_)
  · rintro i p ρ₁ g₂ hp ⟨rfl, rfl⟩
    obtain ⟨c, hc, rfl⟩ : ∃ c, (sgn text l)[i]? = some c ∧ p = .str [c] := by
      rw [List.getElem?_map] at hp
      cases e : (sgn text l)[i]? with
      | none => rw [e] at hp; cases hp
      | some c => rw [e] at hp; cases hp; exact ⟨c, rfl, rfl⟩
    refine ⟨_, Binds.name (by walk_at "m_put"), ?_⟩
    refine St.one (St1.setW hC (F.call D hk3 (EvL.cons hC (Ev.bin hC (Ev.subW hC (hst (by walk_at "m_mem")) Ev.int (by decide) (by decide) (H.state1' _)) (Ev.callB hC (F.glob hord hk2) (EvL.cons hC (by walk_at "m_ev") EvL.nil) call_ord) op_xorN) EvL.nil) (hcrc _) hd) (hst (by walk_at "m_mem")) Ev.int (by decide) (by decide) H.mS (H.set1' _) ⟨_, by walk_at "m_weak", rfl, ?_⟩)
    rw [List.take_add_one, hc, List.foldl_append]; rfl
  · rintro ρ₁ g₂ ⟨rfl, rfl⟩
    refine St.one (St1.ret hC (by walk_at "m_ev") ⟨rfl, ?_⟩)
    congr 1
    rw [List.length_map, List.take_length]
    unfold sgn nxt
    cases text[l.pos]? <;> rfl
end

/-- the contract of `read` -/
theorem read_fn {prog : Program} {w : World} {T : Heap → Prop} {d : Nat} {V : Wd} {la : LA} {text : List Nat} {o : Obj} {qual : Str} {cT cS cR : Addr} {pm ctv : Value} (hV : V.Ok)
    (hT : ∀ h h' : Heap, T h → (∀ b o, ¬ (LexV V la).M b → h.get? b = some o → h'.get? b = some o) → T h') (ho : ∀ h, T h → h.get? la.aRd = some o ∧ h.NoLimit) (hd : o.data = .func (fnD "read" qual (stmtArgs readStmt) (.stmts (stmtBody readStmt)) (stmtScope readStmt) [("text", cT), ("state", cS)] pm cR ctv))
    (hR : ∀ g h, V.W g h → CodeR h cR qual) (hcT : ∀ h, T h → ∃ t, h.IsCell cT (some (.str ⟨text.toArray⟩ t))) (hcS : ∀ h, T h → h.IsCell cS (some (.ref la.aS))) (hne : cT ≠ cS) (hcM : ¬ (LexV V la).M cT ∧ ¬ (LexV V la).M cS)
    (hdis : ∀ a, V.M a → a ≠ la.aS ∧ a ≠ la.aL ∧ a ≠ la.aLd ∧ a ≠ la.aP) (hcls : ∀ h, T h → ClsOk la h) (ap : [la.aL, la.aLd, la.aP, la.aS, la.aFn, la.aFd].Nodup)
    (hlen : TG T "len" (.builtin "len")) (hord : TG T "ord" (.builtin "ord")) {fCrc : Addr} (D : PureAt prog w T 1 "_gen_crc" fCrc) (hcrc : ∀ r : Nat, Fn prog w T 1 (.ref fCrc) [.int r] (.int (genCrc r))) (hl : text.length ≤ 16000000) (g : V.G) (l : LG) :
    FnW prog w T (LexV V la) 2 (.ref la.aRd) (g, l) [.int 1] (.str (sgn text l)) (g, { nxt text crcOf l with line := l.line }) := by
  refine FnW.introC (pn := ["count"]) (rest := ["part", "sign"]) (frees := [("state", .obj la.aS), ("text", .str text)]) (LexV.ok hV) hT (fun g h t hw => ⟨(ho h t).1, (hR _ _ hw.1).rec, (ho h t).2⟩) hd rfl ?_ rfl ?_ ?_ ?_ ?_ ?_ ?_ ?_ rfl rfl rfl ?_ fun A X s hC => ?_
  · intro vals h
    match vals, h with
    | [v], _ => rfl
  · show (["count", "part", "sign", "state", "text"] : List Str).Nodup
    decide
  · show ((["count", "part", "sign"] : List Str).all fun x => (stmtScope readStmt).names.lookup x == some .local) = true
    decide +kernel
  · show ∀ x ∈ (stmtScope readStmt).names, x.2 ≠ .cell
    decide +kernel
  · intro y p hy
    simp only [List.mem_cons, List.not_mem_nil, or_false, Prod.mk.injEq] at hy
    rcases hy with ⟨rfl, rfl⟩ | ⟨rfl, rfl⟩
    · exact ⟨by rfl, cS, by rfl, fun h t => ⟨_, hcS h t, fun _ _ => .obj _⟩⟩
    · refine ⟨by rfl, cT, by rfl, fun h t => ?_⟩
      obtain ⟨u, q⟩ := hcT h t
      exact ⟨_, q, fun _ _ => .str _ _⟩
  · intro y c hy
    have : (y, c) ∈ [((Str.ofString "text" : Str), cT), (Str.ofString "state", cS)] := lookup_mem hy
    simp only [List.mem_cons, List.not_mem_nil, or_false, Prod.mk.injEq] at this
    rcases this with ⟨rfl, rfl⟩ | ⟨rfl, rfl⟩
    · exact ⟨hcM.1, fun h t => let ⟨u, q⟩ := hcT h t; ⟨_, q⟩⟩
    · exact ⟨hcM.2, fun h t => ⟨_, hcS h t⟩⟩
  · intro x y c hx hy
    have h1 : (x, c) ∈ [((Str.ofString "text" : Str), cT), (Str.ofString "state", cS)] := lookup_mem hx
    have h2 : (y, c) ∈ [((Str.ofString "text" : Str), cT), (Str.ofString "state", cS)] := lookup_mem hy
    simp only [List.mem_cons, List.not_mem_nil, or_false, Prod.mk.injEq] at h1 h2
    rcases h1 with ⟨rfl, rfl⟩ | ⟨rfl, rfl⟩ <;> rcases h2 with ⟨rfl, h2⟩ | ⟨rfl, h2⟩
    · rfl
    · exact absurd h2 hne
    · exact absurd h2.symm hne
    · rfl
  · show ((["count", "part", "sign", "state", "text"] : List Str).all fun x => !(x == ("__debug__" : Str)) && !(x == ("__classdict__" : Str))) = true
    decide +kernel
  · intro y e
    have key : ∀ x ∈ (stmtScope readStmt).names, x.2 ≠ .cell := by decide +kernel
    exact key _ (lookup_mem e) rfl
  · have F : TopAt (frameW prog w T (LexV V la) 1 _ (["count", "part", "sign", "state", "text"] : List Str) la.aRd _ A X s) prog w T 1 (stmtScope readStmt) := ⟨hC, rfl, rfl, fun h t => t, Nat.le_refl _, rfl, rfl, rfl⟩
    have h0 := read_body (g := ((g, l) : V.G × LG)) F (hasLexF hV hdis hcls ap) hlen hord D hcrc (by rfl) (by rfl) (by rfl) (Nat.le_refl _) hl l
    exact StP.mono h0 fun fl ρ g' h => ⟨.inl h.1, h.2⟩
end Mine
end

section
namespace Mine
open PySem PySem.Calls PyProof.Rows PySem.W

/-- what the top gives for the lexer -/
structure LexTop (prog : Program) (w : World) (T : Heap → Prop) (ca : CA) (K : Frag) (fCrc : Addr) : Prop where
  hK : ∀ h, T h → K.In h
  made : makesIn K ca.aC = true
  fi : findIn K (.ref ca.aC) "__init__" = some (some (.ref ca.fI))
  ty : typeIn K (.ref ca.fI) = some (.type "function")
  keep : keepIn K (.ref ca.aC) = true
  cls : ∀ h, T h → ClsB ca h
  dI : ∃ o fd, DefAt T (methAt theProg iCls 0) ["self", "fp"] ca.fI o fd
  dR : ∃ o fd, DefAt T (methAt theProg iCls 1) ["self"] ca.fR o fd
  dG : ∃ o fd, DefAt T (methAt theProg iCls 2) ["self"] ca.fG o fd
  dP : ∃ o fd, DefAt T (methAt theProg iCls 3) ["self", "token"] ca.fP o fd
  cg : TG T "_netrclex" (.ref ca.aC)
  iter : TG T "iter" (.builtin "iter")
  len : TG T "len" (.builtin "len")
  ord : TG T "ord" (.builtin "ord")
  range : TG T "range" (.type "range")
  crc : PureAt prog w T 1 "_gen_crc" fCrc
  crcFn : ∀ r : Nat, Fn prog w T 1 (.ref fCrc) [.int r] (.int (genCrc r))
  lim : ∀ h, T h → h.NoLimit

noncomputable def readPos : Pos := ⟨72, 4, 77, 19⟩
noncomputable def lamPos : Pos := ⟨78, 13, 78, 25⟩
noncomputable def known (q1 q2 : Str) : List (Pos × Str) := [(readPos, q1), (lamPos, q2)]
noncomputable def callsRest : List Stmt := (stmtBody (stmtAt theProg iCalls)).drop 5

noncomputable def Cx.wdCode (C : Cx) (c : Addr) (q : Str) : Wd := ⟨C.M, C.G, fun g h => C.W g h ∧ CodeR h c q⟩
theorem Cx.wdCode_ok {C : Cx} (hC : C.Ok) {c : Addr} {q : Str} : (C.wdCode c q).Ok where
  wm := fun g h a hw hm => hC.wm _ _ _ hw.1 hm
  stab := fun g h h' hw k => ⟨hC.stab _ _ _ hw.1 k, hw.2.stab fun a o q e => k a o (.inr q) e⟩

noncomputable abbrev callsEnv0 (text : List Nat) (W : PV) : Env' := [en "text" (.val (.str text)), en "words" (.val W), en "read" .undef, en "stream" .undef, en "lexer" .undef, en "calls" .undef, en "marks" .undef, en "call" .undef, en "turn" .undef, en "told" .undef, en "word" .undef, en "state" .undef]
noncomputable abbrev callsEnv (text : List Nat) (W : PV) (la : LA) (calls marks call turn told word : LV) : Env' :=
  [en "text" (.ro (.str text)), en "words" (.val W), en "read" (.val (.obj la.aRd)), en "stream" (.val (.obj la.aFn)), en "lexer" (.val (.obj la.aL)), en "calls" calls, en "marks" marks, en "call" call, en "turn" turn, en "told" told, en "word" word, en "state" (.ro (.obj la.aS))]

theorem closeL_read {cells : List (Str × Addr)} {cT cS : Addr} (hT : cells.lookup (Str.ofString "text") = some cT) (hS : cells.lookup (Str.ofString "state") = some cS) : closeL cells (stmtScope readStmt).names [] = [(Str.ofString "text", cT), (Str.ofString "state", cS)] := by
  have hn : (stmtScope readStmt).names = [(Str.ofString "count", .local), (Str.ofString "part", .local), (Str.ofString "sign", .local), (Str.ofString "state", .free), (Str.ofString "text", .free), (Str.ofString "len", .globalImplicit), (Str.ofString "_gen_crc", .globalImplicit), (Str.ofString "ord", .globalImplicit)] := rfl
  rw [hn]
  simp [closeL, hT, hS]

theorem clsB_ok {ca : CA} {la : LA} {h : Heap} (x : ClsB ca h) (h1 : la.aC = ca.aC) (h2 : la.aN = ca.aN) (h3 : la.fR = ca.fR) (h4 : la.fG = ca.fG) (h5 : la.fP = ca.fP) (hne : la.aL ≠ la.aC) : ClsOk la h := by
  obtain ⟨nm, q, bs, sn, sub, ab, col, dd, k0, k1, k2, k3, k5, newId, mN, oR, oG, oP, a1, a2, z1, z2, z3, z4, z5, z6, z7, y1, y2, y3, y4, y5, y6, y7, y8, y9⟩ := x
  exact ⟨nm, q, bs, sn, sub, ab, col, dd, k0, k1, k2, k3, k5, newId, mN, oR, oG, oP, by rw [h1, h2]; exact a1, by rw [h2]; exact a2, z1, z2, z3, z4, z5, z6, z7, by rw [h3]; exact y1, by rw [h4]; exact y2, by rw [h5]; exact y3, by rw [h3]; exact y4, y5, by rw [h4]; exact y6, y7, by rw [h5]; exact y8, y9, hne⟩

theorem tab_ne_list {h : Heap} {P a : Addr} {kn : List (Pos × Str)} {vs : Array Value} (w : TabW P kn h) (l : h.IsList a vs) : a ≠ P := by
  rintro rfl
  obtain ⟨ps, e, _⟩ := w
  obtain ⟨o, e', c, _⟩ := l
  rw [e] at e'; cases e'; cases c
theorem tab_ne_code {h : Heap} {P c : Addr} {kn : List (Pos × Str)} {q : Str} (w : TabW P kn h) (l : CodeR h c q) : c ≠ P := by
  rintro rfl
  obtain ⟨ps, e, _⟩ := w
  obtain ⟨o, vs, t, e', c, _⟩ := l
  rw [e] at e'; cases e'; cases c
theorem CodeR.at {h h' : Heap} {c : Addr} {q : Str} (x : CodeR h c q) (k : ∀ o, h.get? c = some o → h'.get? c = some o) : CodeR h' c q := let ⟨o, vs, t, a, r⟩ := x; ⟨o, vs, t, k _ a, r⟩

theorem Maker.state {C : Cx} {c PT aS : Addr} {kn : List (Pos × Str)} (K : Maker C c PT kn) {s₁ : Shared} (sub : ∀ h, (cx1 C s₁ aS).T h → C.T h) :
    Maker (cx1 C s₁ aS) c PT kn where
  glob := K.glob
  code := K.code
  top := fun h t => K.top h (sub h t)
  m := .inl K.m
  w := fun g h hw => K.w _ _ hw.1
  u := fun g h h' hw ht k => ⟨K.u _ _ _ hw.1 ht k, by
    obtain ⟨t, u, l⟩ := hw.2
    have ne := tab_ne_list (K.w _ _ hw.1) l
    obtain ⟨o, e, r⟩ := l
    exact ⟨t, u, o, k _ _ ne e, r⟩⟩
theorem Maker.read {C : Cx} {c PT f c' : Addr} {q : Str} {kn : List (Pos × Str)} (K : Maker C c PT kn) {s₁ : Shared} (sub : ∀ h, (cx2 C s₁ f c' q).T h → C.T h) :
    Maker (cx2 C s₁ f c' q) c PT kn where
  glob := K.glob
  code := K.code
  top := fun h t => K.top h (sub h t)
  m := .inl K.m
  w := fun g h hw => K.w _ _ hw.1
  u := fun g h h' hw ht k => ⟨K.u _ _ _ hw.1 ht k, hw.2.at fun o e => k _ _ (tab_ne_code (K.w _ _ hw.1) hw.2) e⟩

/-! the frame, as it turns -/
noncomputable abbrev V3 (C : Cx) (aS cR : Addr) (q1 : Str) : Wd := ⟨fun a => C.M a ∨ a = aS, C.G × Nat × Nat, fun g h => (C.W g.1 h ∧ CodeR h cR q1) ∧ ∃ t u, h.IsList aS #[.int g.2.1 t, .int g.2.2 u]⟩
noncomputable abbrev cx5 (C : Cx) (s₁ : Shared) (V : Wd) (la : LA) : Cx := C.turnC s₁ (fun a => a = la.aL ∨ a = la.aLd ∨ a = la.aP) (fun a => a = la.aL ∨ a = la.aLd ∨ a = la.aP) (V.G × LG) (LexV V la).W
noncomputable abbrev Zst : Str → Prop := fun x => x = Str.ofString "text" ∨ x = Str.ofString "state"
noncomputable abbrev cx6 (C : Cx) (s : Shared) : Cx := C.fix s Zst (Canon (fun a => C.F a ∧ ¬ ∃ x, Zst x ∧ C.env.cells.lookup x = some a) C.M s.heap)
theorem cx6_top {C : Cx} {ρ : Env'} {O : List (Str × Addr)} {g : C.G} {s : Shared} (hC : C.Ok) (I : Inv C ρ O g s) : ∀ h, (cx6 C s).T h → C.T h :=
  fun h k => hC.top h fun a o q1 q2 q3 => k a o (fun z => q1 z.1) q2 (I.old a o q1 q2 q3)

set_option maxHeartbeats 4000000 in
theorem prelude {C : Cx} {g : C.G} {prog : Program} {w : World} {T : Heap → Prop} {d : Nat} {sc : Scope} {ca : CA} {K : Frag} {fCrc c PT : Addr} {q1 q2 : Str} {text : List Nat} {W : PV} {P : Fl → Env' → C.G → Prop} {st : Stmt} {rest : List Stmt} (hst : st = stmtAt theProg iCalls) (hrr : rest = callsRest) (F : TopAt C prog w T d sc) (LT : LexTop prog w T ca K fCrc)
    (MK : Maker C c PT (known q1 q2)) (hMP : ∀ a, C.M a → a = PT) (hsc : sc = stmtScope st) (hq1 : qualnameIn C.env "read" "read" = q1) (hq2 : C.env.qual ++ "<lambda>" = q2) (hd : 2 ≤ d) (hl : text.length ≤ 16000000)
    (hrest : ∀ (C' : Cx) (cR : Addr) (la : LA), TopAt (C'.withW (LexV (C.wdCode cR q1) la)) prog w T d sc → LexEnv prog w C'.T (C.wdCode cR q1) la text crcOf 2 →
      St (C'.withW (LexV (C.wdCode cR q1) la)) (callsEnv text W la .undef .undef .undef .undef .undef .undef) (g, ⟨0, 4294967295, 1, []⟩) rest (fun fl ρ g' => P fl ρ g'.1)) :
    St C (callsEnv0 text W) g (stmtBody st) P := by
  have hC := F.ok
  subst hsc
  subst hst
  subst hrr
  refine St.state hC (i := 0) (j := 4294967295) (EvL.cons hC Ev.int (EvL.cons hC (Ev.bin hC (Ev.bin hC Ev.int Ev.int (op_pow (by decide) (by decide))) Ev.int op_sub) EvL.nil)) fun O₀ s₀ s₁ aS I₀ fS n₁ => ⟨_, by walk_at "m_put", fun hC1 => ?_⟩
  have kk : ∀ x v, (x, v) ∈ callsEnv0 text W → C.env.kindOf x = some .cell → ∃ c, C.env.cells.lookup x = some c := fun x v hx hk => by
    rcases hC.kinds x (mem_names I₀.names hx) with q | q
    · rw [hk] at q; cases q
    · exact Option.isSome_iff_exists.mp q.2
  have hkT : C.env.kindOf (Str.ofString "text") = some .cell := by show C.env.scope.names.lookup _ = _; rw [F.scope]; rfl
  have hkS : C.env.kindOf (Str.ofString "state") = some .cell := by show C.env.scope.names.lookup _ = _; rw [F.scope]; rfl
  obtain ⟨cT, hcT⟩ := kk (Str.ofString "text") _ (by walk_at "m_mem") hkT
  obtain ⟨cS, hcS⟩ := kk (Str.ofString "state") _ (by walk_at "m_mem") hkS
  have sub1 := NewC.top hC I₀ n₁
  have M1 := MK.state sub1
  have hcl : closureFor (stmtScope readStmt) C.env = pure [(Str.ofString "text", cT), (Str.ofString "state", cS)] := by
    rw [closureFor_is, closeL_read hcT hcS]
    intro n hn
    have hn' : n = Str.ofString "state" ∨ n = Str.ofString "text" := by
      have key : ∀ x ∈ (stmtScope readStmt).names, x.2 = .free → x.1 = Str.ofString "state" ∨ x.1 = Str.ofString "text" := by decide +kernel
      exact key _ hn rfl
    rcases hn' with rfl | rfl
    · rw [hcS]; rfl
    · rw [hcT]; rfl
  refine St.nested hC1 M1 (clos := [(Str.ofString "text", cT), (Str.ofString "state", cS)]) (qual := q1) hcl (fun x hx h1 h2 => ?_) ⟨readPos, List.mem_cons_self, rfl, rfl⟩ rfl hq1 rfl rfl rfl fun O₁ s₁' s₂ aRd cR ctv pm I₁ fRd oRd n₂ => ⟨_, by walk_at "m_put", fun hC2 => ?_⟩
  · simp only [known, List.mem_cons, List.not_mem_nil, or_false] at hx
    rcases hx with rfl | rfl
    · rfl
    · exact absurd h1 (show ¬ lamPos.line = readPos.line by decide)
  have sub2 := NewC.top hC1 I₁ n₂
  have M2 := M1.read (q := q1) sub2
  refine St.lambda hC2 M2 (clos := []) (qual := q2) rfl (fun x hx h1 h2 => ?_) ⟨lamPos, List.mem_cons_of_mem _ List.mem_cons_self, rfl, rfl⟩ hq2 rfl fun O₂ s₂' s₃ aFn I₂ fFn n₃ => ⟨_, by walk_at "m_put", fun hC3 => ?_⟩
  · simp only [known, List.mem_cons, List.not_mem_nil, or_false] at hx
    rcases hx with rfl | rfl
    · exact absurd h1 (show ¬ readPos.line = lamPos.line by decide)
    · rfl
  have sub3 := NewC.top hC2 I₂ n₃
  have mS2 : (C.M aS ∨ aS = aS) ∨ False := .inl (.inr rfl)
  refine St.setRead hC3 (aFn := aFn) (aRd := aRd) (by walk_at "m_mem") (by walk_at "m_mem") (.inr rfl) (fun h hw => let ⟨o, e1, e2, e3, e4⟩ := hw.2; ⟨o, e1, e2, e3, e4 rfl⟩)
    (V := ⟨fun a => C.M a ∨ a = aS, C.G × Nat × Nat, fun g h => (C.W g.1 h ∧ CodeR h cR q1) ∧ ∃ t u, h.IsList aS #[.int g.2.1 t, .int g.2.2 u]⟩) (g' := (g, 0, 4294967295)) (π := fun g => (g, true))
    (fun a m => ⟨.inl (.inl m), ?_⟩) (fun h hw => ⟨⟨hw.1.1.1, hw.1.2⟩, hw.1.1.2⟩) (fun g h h' hw k => ⟨⟨hC.stab _ _ _ hw.1.1 fun a o hm e => k a o (hm.imp .inl id) e, hw.1.2.stab fun a o q e => k a o (.inr q) e⟩, ?_⟩) (fun g h a hw m ne => ?_) (fun g h aFd hw hd => ⟨⟨⟨hw.1.1, hw.2⟩, hw.1.2⟩, ?_⟩) fun O₃ s₃' s₄ aFd I₃ fFd n₄ hC4 => ?_
  · exact (hC2.wm _ _ a I₂.world (.inl m)).elim fun _ e => ne_get e fFn
  · obtain ⟨t, u, o, e, r⟩ := hw.2
    exact ⟨t, u, o, k _ _ (.inl (.inr rfl)) e, r⟩
  · rcases m with ((m | m) | m) | m
    · exact hC.wm _ _ _ hw.1.1 m
    · obtain ⟨t, u, o, e, r⟩ := hw.2
      have m' : a = aS := m
      subst m'
      exact ⟨o, e⟩
    · exact m.elim
    · exact absurd m ne
  · obtain ⟨o, e1, e2, e3, _⟩ := hd
    exact ⟨o, e1, e2, e3, fun z => by cases z⟩
  have sub4 := NewC.top hC3 I₃ n₄
  have sub04 : ∀ h, _ → T h := fun h t => F.sub h (sub1 h (sub2 h (sub3 h (sub4 h t))))
  obtain ⟨oI, fdI, DI⟩ := LT.dI
  refine St.new hC4 fun O₄ s₄' I₄ => new_lexer hC4 I₄ (fun h t => LT.hK h (sub04 h t)) LT.made LT.fi LT.ty LT.keep (fun h t => LT.cls h (sub04 h t)) (DI.mono sub04) rfl (GlobIs.of' LT.cg sub04 F.globals F.builtins (by show C.env.scope.names.lookup _ = _; rw [F.scope]; rfl)) (by walk_at "m_mem") (Nat.le_trans hd F.d)
    fun aL aLd aP s₅ mA fL fLd fP hLD hPL hPD r5 k5 w5 made => ?_
  have hM4 : ∀ a, ((((C.M a ∨ a = aS) ∨ False) ∨ a = aFn) ∨ a = aFd) → a ≠ aL ∧ a ≠ aLd ∧ a ≠ aP := fun a m => by
    obtain ⟨o, e⟩ := hC4.wm _ _ a I₄.world m
    refine ⟨?_, ?_, ?_⟩
    · exact ne_get e fL
    · exact ne_get e fLd
    · exact ne_get e fP
  let la : LA := ⟨aL, aLd, aP, aS, aFn, aFd, aRd, ca.aC, ca.aN, ca.fR, ca.fG, ca.fP⟩
  have lex : LexW la ⟨0, 4294967295, 1, []⟩ s₅.heap := ⟨⟨mA, made.inst.inst, made.lineno, made.instream, made.white, made.pushback, made.r, made.g, made.p, made.inst.ways⟩, made.inst.dict, ⟨[], made.list, fun _ _ => .nil⟩, w5.1.2, w5.2⟩
  have n₅ : NewC _ s₄' s₅ (fun a => a = aL ∨ a = aLd ∨ a = aP) (fun a => a = aL ∨ a = aLd ∨ a = aP) (C.G × LG) (LexV (C.wdCode cR q1) la).W (g, ⟨0, 4294967295, 1, []⟩) := {
    rest := r5
    keep := k5
    kn := fun _ h => h
    fresh := fun a q => by rcases q with rfl | rfl | rfl <;> assumption
    there := fun a q => by
      rcases q with rfl | rfl | rfl
      · exact made.inst.there.1
      · exact made.inst.there.2
      · obtain ⟨n, e⟩ := made.list; exact ⟨_, e⟩
    top := fun h k => k
    world := ⟨w5.1.1, lex⟩
    ok := LexV.ok (V := C.wdCode cR q1) (la := la) (C.wdCode_ok hC) }
  refine ⟨aL, _, _, _, _, _, _, fun g => (g.1, g.2.pos, g.2.reg), _, rfl, n₅, fun g h hw => ⟨⟨⟨hw.1.1, hw.1.2⟩, hw.2.state⟩, hw.2.stream⟩, by walk_at "m_put", fun hC5 => ?_⟩
  have sub5 := NewC.top hC4 I₄ n₅
  refine St.fix hC5 (fun x => x = Str.ofString "text" ∨ x = Str.ofString "state") (ρ' := callsEnv text W la .undef .undef .undef .undef .undef .undef) ?_ fun O₅ s₅' I₅ => ⟨_, fun h k => k, fun hC6 => ?_⟩
  · repeat (first | exact Fix.nil | refine Fix.keep (by decide) ?_ | refine Fix.fix ?_)
  have sub6 := cx6_top hC5 I₅
  have F6 : TopAt ((cx6 (cx5 (cx4 (cx3 (cx2 (cx1 C s₁ aS) s₂ aRd cR q1) s₃ aFn) s₄ (V3 C aS cR q1) aFn aFd aRd) s₅ (C.wdCode cR q1) la) s₅').withW (LexV (C.wdCode cR q1) la)) prog w T d (stmtScope (stmtAt theProg iCalls)) :=
    ⟨hC6, F.prog, F.w, fun h t => sub04 h (sub5 h (sub6 h t)), F.d, F.scope, F.globals, F.builtins⟩
  -- the cells
  obtain ⟨m5, hn5, hl5⟩ := I₅.loc
  have cellT : ∃ t, s₅'.heap.IsCell cT (some (.str ⟨text.toArray⟩ t)) := by
    obtain ⟨_, u, sl, r⟩ := hl5 (Str.ofString "text") (.val (.str text)) (by walk_at "m_mem")
    cases r
    rcases sl with ⟨q, _⟩ | ⟨_, c', q2, q3⟩
    · have q' : C.env.kindOf (Str.ofString "text") = some .local := q
      rw [hkT] at q'; cases q'
    · have q2' : C.env.cells.lookup (Str.ofString "text") = some c' := q2
      rw [hcT] at q2'; cases q2'; exact ⟨_, q3⟩
  have cellS : s₅'.heap.IsCell cS (some (.ref aS)) := by
    obtain ⟨_, u, sl, r⟩ := hl5 (Str.ofString "state") (.val (.obj aS)) (by walk_at "m_mem")
    cases r
    rcases sl with ⟨q, _⟩ | ⟨_, c', q2, q3⟩
    · have q' : C.env.kindOf (Str.ofString "state") = some .local := q
      rw [hkS] at q'; cases q'
    · have q2' : C.env.cells.lookup (Str.ofString "state") = some c' := q2
      rw [hcS] at q2'; cases q2'; exact q3
  have cM : ∀ x c, C.env.cells.lookup x = some c → ¬ (LexV (C.wdCode cR q1) la).M c := fun x c hx => hC5.cellM x c hx
  have exR : ∀ h, T h → ∃ o, h.get? ca.fR = some o := fun h t => by
    obtain ⟨nm, q, bs, sn, sub, ab, col, dd, k0, k1, k2, k3, k5, newId, mN, oR, oG, oP, a1, a2, z1, z2, z3, z4, z5, z6, z7, y1, y2, y3, y4, _⟩ := LT.cls h t
    exact ⟨_, y4⟩
  have T0 : T s₀.heap := F.sub _ (I₀.top hC)
  have T2 : T s₂'.heap := F.sub _ (sub1 _ (sub2 _ (I₂.top hC2)))
  have T3 : T s₃'.heap := F.sub _ (sub1 _ (sub2 _ (sub3 _ (I₃.top hC3))))
  have T4 : T s₄'.heap := sub04 _ (I₄.top hC4)
  have ne : ∀ {h : Heap} {a b : Addr}, (∃ o, h.get? a = some o) → h.get? b = none → a ≠ b := fun ⟨o, e⟩ n z => by rw [z, n] at e; cases e
  have fnM : ¬ (LexV (C.wdCode cR q1) la).M ca.fR := by
    rintro (((((m | m) | m) | m) | m) | m | m | m)
    · have e := hMP _ m
      obtain ⟨ps, e1, _⟩ := MK.w _ _ I₀.world
      obtain ⟨o, fd, D⟩ := LT.dR
      have e2 := (D.at' _ T0).1
      rw [e, e1] at e2
      cases e2
      have := D.data
      cases this
    · exact ne (exR _ T0) fS m
    · exact m
    · exact ne (exR _ T2) fFn m
    · exact ne (exR _ T3) fFd m
    · exact ne (exR _ T4) fL m
    · exact ne (exR _ T4) fLd m
    · exact ne (exR _ T4) fP m
  have neC : aL ≠ ca.aC := by
    obtain ⟨nm, q, bs, sn, sub, ab, col, dd, k0, k1, k2, k3, k5, newId, mN, oR, oG, oP, a1, _⟩ := LT.cls _ T4
    exact fun z => ne ⟨_, a1⟩ fL z.symm
  have sub06 : ∀ h, (cx6 (cx5 (cx4 (cx3 (cx2 (cx1 C s₁ aS) s₂ aRd cR q1) s₃ aFn) s₄ (V3 C aS cR q1) aFn aFd aRd) s₅ (C.wdCode cR q1) la) s₅').T h → T h := fun h t => sub04 h (sub5 h (sub6 h t))
  have cls6 : ∀ h, (cx6 (cx5 (cx4 (cx3 (cx2 (cx1 C s₁ aS) s₂ aRd cR q1) s₃ aFn) s₄ (V3 C aS cR q1) aFn aFd aRd) s₅ (C.wdCode cR q1) la) s₅').T h → ClsOk la h := fun h t => clsB_ok (LT.cls h (sub06 h t)) rfl rfl rfl rfl rfl neC
  have ap : [la.aL, la.aLd, la.aP, la.aS, la.aFn, la.aFd].Nodup := by
    have a1 := hM4 aS (.inl (.inl (.inl (.inr rfl))))
    have a2 := hM4 aFn (.inl (.inr rfl))
    have a3 := hM4 aFd (.inr rfl)
    have b1 : aS ≠ aFn := ne (hC2.wm _ _ aS I₂.world (.inl (.inr rfl))) fFn
    have b2 : aS ≠ aFd := ne (hC3.wm _ _ aS I₃.world (.inl (.inl (.inr rfl)))) fFd
    have b3 : aFn ≠ aFd := ne (hC3.wm _ _ aFn I₃.world (.inr rfl)) fFd
    show [aL, aLd, aP, aS, aFn, aFd].Nodup
    simp only [List.nodup_cons, List.mem_cons, List.not_mem_nil, or_false, not_or, List.nodup_nil, and_true]
    exact ⟨⟨hLD, Ne.symm hPL, Ne.symm a1.1, Ne.symm a2.1, Ne.symm a3.1⟩, ⟨Ne.symm hPD, Ne.symm a1.2.1, Ne.symm a2.2.1, Ne.symm a3.2.1⟩, ⟨Ne.symm a1.2.2, Ne.symm a2.2.2, Ne.symm a3.2.2⟩, ⟨b1, b2⟩, b3, not_false⟩
  have dis : ∀ a, (C.wdCode cR q1).M a → a ≠ la.aS ∧ a ≠ la.aL ∧ a ≠ la.aLd ∧ a ≠ la.aP := fun a m => by
    have m' : C.M a := m
    have q := hM4 a (.inl (.inl (.inl (.inl m'))))
    exact ⟨ne (hC.wm _ _ a I₀.world m') fS, q.1, q.2.1, q.2.2⟩
  have rdM : ¬ ((C.M aRd ∨ aRd = aS) ∨ False) := by
    rintro (m | m)
    · obtain ⟨o, e⟩ := hC1.wm _ _ aRd I₁.world m
      rw [fRd] at e; cases e
    · exact m
  have hrd : ∀ h, (cx2 (cx1 C s₁ aS) s₂ aRd cR q1).T h → h.get? aRd = some { cls := .type "function", data := .func (fnD "read" q1 (stmtArgs readStmt) (.stmts (stmtBody readStmt)) (stmtScope readStmt) [("text", cT), ("state", cS)] pm cR ctv) } := fun h t => t aRd _ (fun z => z.2 rfl) rdM oRd
  have sub26 : ∀ h, (cx6 (cx5 (cx4 (cx3 (cx2 (cx1 C s₁ aS) s₂ aRd cR q1) s₃ aFn) s₄ (V3 C aS cR q1) aFn aFd aRd) s₅ (C.wdCode cR q1) la) s₅').T h → (cx2 (cx1 C s₁ aS) s₂ aRd cR q1).T h := fun h t => sub3 h (sub4 h (sub5 h (sub6 h t)))
  have sub06' : ∀ h, (cx6 (cx5 (cx4 (cx3 (cx2 (cx1 C s₁ aS) s₂ aRd cR q1) s₃ aFn) s₄ (V3 C aS cR q1) aFn aFd aRd) s₅ (C.wdCode cR q1) la) s₅').T h → T h := sub06
  have tm6 : ∀ h h' : Heap, (cx6 (cx5 (cx4 (cx3 (cx2 (cx1 C s₁ aS) s₂ aRd cR q1) s₃ aFn) s₄ (V3 C aS cR q1) aFn aFd aRd) s₅ (C.wdCode cR q1) la) s₅').T h → (∀ b o, ¬ (LexV (C.wdCode cR q1) la).M b → h.get? b = some o → h'.get? b = some o) →
      (cx6 (cx5 (cx4 (cx3 (cx2 (cx1 C s₁ aS) s₂ aRd cR q1) s₃ aFn) s₄ (V3 C aS cR q1) aFn aFd aRd) s₅ (C.wdCode cR q1) la) s₅').T h' := fun h h' t k a o z1 z2 z3 => k a o z2 (t a o z1 z2 z3)
  have cellT6 : ∀ h, (cx6 (cx5 (cx4 (cx3 (cx2 (cx1 C s₁ aS) s₂ aRd cR q1) s₃ aFn) s₄ (V3 C aS cR q1) aFn aFd aRd) s₅ (C.wdCode cR q1) la) s₅').T h → ∃ t, h.IsCell cT (some (.str ⟨text.toArray⟩ t)) := fun h t => by
    obtain ⟨tt, o, e, r⟩ := cellT
    exact ⟨tt, o, t cT o (fun z => z.2 ⟨_, .inl rfl, hcT⟩) (cM _ _ hcT) e, r⟩
  have cellS6 : ∀ h, (cx6 (cx5 (cx4 (cx3 (cx2 (cx1 C s₁ aS) s₂ aRd cR q1) s₃ aFn) s₄ (V3 C aS cR q1) aFn aFd aRd) s₅ (C.wdCode cR q1) la) s₅').T h → h.IsCell cS (some (.ref aS)) := fun h t => by
    obtain ⟨o, e, r⟩ := cellS
    exact ⟨o, t cS o (fun z => z.2 ⟨_, .inr rfl, hcS⟩) (cM _ _ hcS) e, r⟩
  have hneC : cT ≠ cS := fun z => by
    have := hC.inj _ _ _ hcT (z ▸ hcS)
    exact absurd this (by decide)
  refine hrest _ cR la F6 {
    vok := C.wdCode_ok hC
    tm := tm6
    dR := let ⟨o, fd, D⟩ := LT.dR; ⟨o, fd, D.mono sub06'⟩
    dG := let ⟨o, fd, D⟩ := LT.dG; ⟨o, fd, D.mono sub06'⟩
    dP := let ⟨o, fd, D⟩ := LT.dP; ⟨o, fd, D.mono sub06'⟩
    cls := cls6
    dis := dis
    ap := ap
    fnM := fnM
    rd := ⟨_, _, rfl, fun h t => hrd h (sub26 h t)⟩
    read := fun g l => ?_
    iter := LT.iter.mono sub06' }
  exact read_fn (d := 0) (C.wdCode_ok hC) tm6 (fun h t => ⟨hrd h (sub26 h t), LT.lim h (sub06' h t)⟩) rfl (fun g h hw => hw.2) cellT6 cellS6 hneC ⟨cM _ _ hcT, cM _ _ hcS⟩ dis cls6 ap (LT.len.mono sub06') (LT.ord.mono sub06') ⟨LT.crc.glob.mono sub06', let ⟨o, fd, e1, e2⟩ := LT.crc.obj; ⟨o, fd, e1, fun h t => e2 h (sub06' h t)⟩⟩ (fun r => (LT.crcFn r).weaken sub06') hl g l
end Mine
end

section
namespace Mine
open PySem PySem.Calls PyProof.Rows PySem.W

section
variable {C : Cx} {ρ ρ' ρ₁ : Env'} {g g₁ g₂ : C.G} {P : Fl → Env' → C.G → Prop}

theorem addOwn_skeep {O : List (Str × Addr)} {s : Shared} (x : Str) (o : Obj) : SKeep C O ((x, s.heap.objs.size) :: O) s { s with heap := s.heap.push o } := by
  refine ⟨fun a o h1 h2 h3 h4 e => Heap.get?_push_of_some _ e, fun y a hy => ?_, fun a o e => ⟨o, Heap.get?_push_of_some _ e⟩⟩
  rcases List.mem_cons.mp hy with q | q
  · cases q; exact .inr (get_size_none _)
  · exact .inl q

/-- two new lists at once -/
theorem St1.assignOwn2 (hC : C.Ok) {x y : Str} {xp yp lp1 lp2 tp tp2 pos : Pos} {k k2 : Nat} {es1 es2 : List Expr} {ps1 ps2 : List PV} (h1 : EvL C ρ g es1 ps1 g) (h2 : EvL C ρ g es2 ps2 g) (hn1 : ps1.length ≤ 4096) (hn2 : ps2.length ≤ 4096)
    (hp2 : Put ρ y (.own ps2) ρ₁) (hp1 : Put ρ₁ x (.own ps1) ρ') (hy : C.env.kindOf y = some .local) (hP : P .next ρ' g)
    (hs : swapsWithSole [.Tuple [.Name x xp, .Name y yp] k tp] (.Tuple [.List es1 lp1, .List es2 lp2] k2 tp2) pos.line C.env = pure false := by rfl) (hw : swappedStores [.Tuple [.Name x xp, .Name y yp] k tp] (.Tuple [.List es1 lp1, .List es2 lp2] k2 tp2) C.env = pure (some [x, y]))
    (hsp : ∀ pos, backTo pos (starEach [.List es1 lp1, .List es2 lp2] C.env) = [(false, eval (.List es1 lp1) C.env), (false, eval (.List es2 lp2) C.env)] := by intro _; rfl) :
    St1 C ρ g (.Assign [.Tuple [.Name x xp, .Name y yp] k tp] (.Tuple [.List es1 lp1, .List es2 lp2] k2 tp2) pos) P := fun O s I => by
  refine Assign_Tuple_swapped (names := [x, y]) (wpAny_Tuple ?_) hs hw
  rw [hsp]
  refine spliced_cons (wpAny_List (wpAny_mono (h1 O s lp1 I) (fun us1 s₁ ⟨r1, st1⟩ => ⟨by have := r1.length; rw [this]; show _ ≤ 2 ^ 24; omega, ?_⟩) fun _ _ x => x))
  have I1 := I.step hC st1
  have I2 := I1.addOwn hC x (vs := us1.toArray) rfl
  refine spliced_cons (wpAny_List (wpAny_mono (h2 _ _ lp2 I2) (fun us2 s₃ ⟨r2, st3⟩ => ⟨by have := r2.length; rw [this]; show _ ≤ 2 ^ 24; omega, spliced_nil ⟨by show 2 ≤ 2 ^ 24; omega, ?_⟩⟩) fun _ _ x => x))
  have I3 := I2.step hC st3
  have I4 := I3.addOwn hC y (vs := us2.toArray) rfl
  generalize ha1 : s₁.heap.objs.size = a1 at *
  generalize ha2 : s₃.heap.objs.size = a2 at *
  have st5 := Step.of_keeps hC I4.world (keeps_push (s := { s₃ with heap := s₃.heap.push { cls := .type "list", data := .seq us2.toArray } }) (o := { cls := .type "tuple", data := .seq [Value.ref a1, Value.ref a2].toArray }))
  have I5 := I4.step hC st5
  have m1 : (x, a1) ∈ (x, a1) :: O := List.mem_cons_self
  have n1 : ¬ C.M a1 := (I2.own x a1 m1).2.1
  have l1 : s₃.heap.PlainList a1 us1.toArray := ⟨0, st3.keep a1 _ n1 (by rw [← ha1]; exact Heap.get?_push_size _ rfl)⟩
  have l1' : ∃ n, ((s₃.heap.push { cls := .type "list", data := .seq us2.toArray }).push { cls := .type "tuple", data := .seq [Value.ref a1, Value.ref a2].toArray }).get? a1 = some { cls := .type "list", data := .seq us1.toArray n } := let ⟨n, e⟩ := l1; ⟨n, Heap.get?_push_of_some _ (Heap.get?_push_of_some _ e)⟩
  have l2' : ∃ n, ((s₃.heap.push { cls := .type "list", data := .seq us2.toArray }).push { cls := .type "tuple", data := .seq [Value.ref a1, Value.ref a2].toArray }).get? a2 = some { cls := .type "list", data := .seq us2.toArray n } := ⟨0, Heap.get?_push_of_some _ (by rw [← ha2]; exact Heap.get?_push_size _ rfl)⟩
  have av : ∀ (a : Addr) (o : Obj), ¬ avoid C O a → s.heap.get? a = some o → ¬ avoid C ((y, a2) :: (x, a1) :: O) a := fun a o h e => by
    have e1 := st1.keep a o (avoid_not_M hC h) e
    have e3 := st3.keep a o (avoid_not_M hC h) (Heap.get?_push_of_some _ e1)
    rintro (q | ⟨z, q⟩)
    · exact h (.inl q)
    · rcases List.mem_cons.mp q with q | q
      · cases q; rw [← ha2, get_size_none] at e3; cases e3
      · rcases List.mem_cons.mp q with q | q
        · cases q; rw [← ha1, get_size_none] at e1; cases e1
        · exact h (.inr ⟨z, q⟩)
  have av1 : ∀ (a : Addr) (o : Obj), ¬ avoid C O a → s₁.heap.get? a = some o → ¬ avoid C ((y, a2) :: (x, a1) :: O) a := fun a o h e1 => by
    have e3 := st3.keep a o (avoid_not_M hC h) (Heap.get?_push_of_some _ e1)
    rintro (q | ⟨z, q⟩)
    · exact h (.inl q)
    · rcases List.mem_cons.mp q with q | q
      · cases q; rw [← ha2, get_size_none] at e3; cases e3
      · rcases List.mem_cons.mp q with q | q
        · cases q; rw [← ha1, get_size_none] at e1; cases e1
        · exact h (.inr ⟨z, q⟩)
  have av3 : ∀ (a : Addr) (o : Obj), ¬ avoid C ((x, a1) :: O) a → s₃.heap.get? a = some o → ¬ avoid C ((y, a2) :: (x, a1) :: O) a := fun a o h e3 => by
    rintro (q | ⟨z, q⟩)
    · exact h (.inl q)
    · rcases List.mem_cons.mp q with q | q
      · cases q; rw [← ha2, get_size_none] at e3; cases e3
      · exact h (.inr ⟨z, q⟩)
  have kp3 : ∀ (a : Addr) (o : Obj), s₃.heap.get? a = some o → ((s₃.heap.push { cls := .type "list", data := .seq us2.toArray }).push { cls := .type "tuple", data := .seq [Value.ref a1, Value.ref a2].toArray }).get? a = some o := fun a o e => Heap.get?_push_of_some _ (Heap.get?_push_of_some _ e)
  have R1 : Reps (avoid C ((y, a2) :: (x, a1) :: O)) ((s₃.heap.push { cls := .type "list", data := .seq us2.toArray }).push { cls := .type "tuple", data := .seq [Value.ref a1, Value.ref a2].toArray }) us1 ps1 :=
    r1.mono (fun a o h _ e => av1 a o h e) fun a o h _ e => kp3 a o (st3.keep a o (avoid_not_M hC h) (Heap.get?_push_of_some _ e))
  have R2 : Reps (avoid C ((y, a2) :: (x, a1) :: O)) ((s₃.heap.push { cls := .type "list", data := .seq us2.toArray }).push { cls := .type "tuple", data := .seq [Value.ref a1, Value.ref a2].toArray }) us2 ps2 :=
    r2.mono (fun a o h _ e => av3 a o h e) fun a o h _ e => kp3 a o e
  have K0 : SKeep C O ((y, a2) :: (x, a1) :: O) s { s₃ with heap := (s₃.heap.push { cls := .type "list", data := .seq us2.toArray }).push { cls := .type "tuple", data := .seq [Value.ref a1, Value.ref a2].toArray } } := by
    have q1 := addOwn_skeep (C := C) (O := O) (s := s₁) x { cls := .type "list", data := .seq us1.toArray }
    have q2 := addOwn_skeep (C := C) (O := (x, a1) :: O) (s := s₃) y { cls := .type "list", data := .seq us2.toArray }
    rw [ha1] at q1
    rw [ha2] at q2
    exact ((((st1.skeep hC).trans q1).trans (st3.skeep hC)).trans q2).trans (st5.skeep hC)
  refine wpAny_unpackItems_tuple (items := #[Value.ref a1, Value.ref a2]) hC.handled ⟨_, Heap.get?_push_size _ rfl, rfl, 0, rfl⟩ fun h' he => ?_
  have ka : ∀ a o, ((s₃.heap.push { cls := .type "list", data := .seq us2.toArray }).push { cls := .type "tuple", data := .seq [Value.ref a1, Value.ref a2].toArray }).get? a = some o → h'.get? a = some o := fun a o q => he a o (Nat.ne_of_lt (Heap.lt_size q)) q
  have st6 := Step.of_keeps hC I5.world (s' := { s₃ with heap := h' }) ⟨h', s₃.toks, rfl, ka⟩
  have I6 := I5.step hC st6
  show wpAny _ _ (assignInOrder [fun v => bindName C.env y v, fun v => bindName C.env x v] [Value.ref a2, Value.ref a1]) _ _ _
  refine wpAny_assignInOrder_more (wpAny_bindName (store_lv (v := .own ps2) hC I6 (fun m h'' k rw' sl => ?_) hp2 fun s7 I7 k7 kl7 => ?_))
  · obtain ⟨n, e⟩ := l2'
    exact ⟨rw', a2, us2.toArray, sl, List.mem_cons_self, ⟨n, k a2 _ ⟨_, _, rfl⟩ (ka _ _ e)⟩, R2.mono (fun _ _ h _ _ => h) fun a o _ q e => k a o q (ka _ _ e)⟩
  have kl := kl7 hy
  obtain ⟨m6, hn6, _⟩ := I6.loc
  have kseq : ∀ a o, Obj.isSeq o → h'.get? a = some o → s7.heap.get? a = some o := fun a o q e => kl a o (seq_ne_dict q e hn6) e
  refine wpAny_assignInOrder_more (wpAny_bindName (store_lv (v := .own ps1) hC I7 (fun m h'' k rw' sl => ?_) hp1 fun s8 I8 k8 kl8 => ?_))
  · obtain ⟨n, e⟩ := l1'
    exact ⟨rw', a1, us1.toArray, sl, List.mem_cons_of_mem _ List.mem_cons_self, ⟨n, k a1 _ ⟨_, _, rfl⟩ (kseq _ _ ⟨_, _, rfl⟩ (ka _ _ e))⟩, R1.mono (fun _ _ h _ _ => h) fun a o _ q e => k a o q (kseq a o q (ka _ _ e))⟩
  exact wpAny_pure ⟨.next, ρ', _, g, hP, .next, I8, ((K0.trans (st6.skeep hC)).trans k7).trans k8⟩

/-- what depends on an environment's scope alone -/
theorem scope_of {env : Env} {sc : Scope} {α : Type} {f : Env → α} {r : α} (h : env.scope = sc) (hr : ∀ e : Env, f { e with scope := sc } = r) : f env = r := by subst h; exact hr env
end

/-! what `_law_calls` gives -/
theorem bareTok_len : ∀ (n : Nat) (r : List Nat), r.length ≤ n → (bareTok r).1.length ≤ r.length
  | _, [], _ => by simp [bareTok]
  | 0, _ :: _, h => by simp at h
  | n + 1, c :: r, h => by
    have h' : r.length ≤ n := by simpa using h
    by_cases h1 : c ∈ ws
    · rw [bareTok_end h1]; simp
    · by_cases h2 : c = 92
      · subst h2
        cases r with
        | nil => simp [bareTok, ws]
        | cons c' r' =>
          have := bareTok_len n r' (by simp at h'; omega)
          simp [bareTok, ws]; omega
      · rw [bareTok_other h1 h2]
        have := bareTok_len n r h'
        simp; omega
theorem quoteTok_len : ∀ (n : Nat) (r : List Nat), r.length ≤ n → (quoteTok r).1.length ≤ r.length
  | _, [], _ => by simp [quoteTok]
  | 0, _ :: _, h => by simp at h
  | n + 1, c :: r, h => by
    have h' : r.length ≤ n := by simpa using h
    by_cases h1 : c = 34
    · subst h1; rw [quoteTok_end]; simp
    · by_cases h2 : c = 92
      · subst h2
        cases r with
        | nil => simp [quoteTok]
        | cons c' r' =>
          have := quoteTok_len n r' (by simp at h'; omega)
          simp [quoteTok]; omega
      · rw [quoteTok_other h1 h2]
        have := quoteTok_len n r h'
        simp; omega
theorem lexTok_len : ∀ (r : List Nat), (lexTok r).1.length ≤ r.length
  | [] => by simp [lexTok]
  | c :: r => by
    by_cases h : c ∈ ws
    · rw [lexTok_ws h]; have := lexTok_len r; simp; omega
    · by_cases h1 : c = 34
      · subst h1; rw [lexTok_quote]; have := quoteTok_len _ r (Nat.le_refl _); simp; omega
      · by_cases h2 : c = 92
        · subst h2
          cases r with
          | nil => rw [lexTok_lone]; simp
          | cons c' r' => rw [lexTok_esc]; have := bareTok_len _ r' (Nat.le_refl _); simp; omega
        · rw [lexTok_other h h1 h2]; have := bareTok_len _ r (Nat.le_refl _); simp; omega

theorem nxt_push {text : List Nat} {crc : Nat → Nat → Nat} {l : LG} : (nxt text crc l).push = l.push := by unfold nxt; split <;> rfl
theorem adv_push {text : List Nat} {crc : Nat → Nat → Nat} : ∀ {n : Nat} {l : LG}, (adv text crc n l).push = l.push
  | 0, l => rfl
  | n + 1, l => by rw [adv, adv_push, nxt_push]

noncomputable def tokAt (text : List Nat) (l : LG) : List Nat := (lexTok (text.drop l.pos)).1
noncomputable def lexAt (text : List Nat) (l : LG) : LG := adv text crcOf (lexTok (text.drop l.pos)).2 l
noncomputable def lexRun (text : List Nat) : Nat → LG
  | 0 => ⟨0, 4294967295, 1, []⟩
  | n + 1 => lexAt text (lexRun text n)
theorem lexRun_push {text : List Nat} : ∀ {n : Nat}, (lexRun text n).push = []
  | 0 => rfl
  | n + 1 => by rw [lexRun, lexAt, adv_push, lexRun_push]
noncomputable abbrev ent (t : List Nat) (l : LG) : PV := .tup [.str t, .int l.pos, .int l.line]
noncomputable def callsA (text : List Nat) : Nat → List PV
  | 0 => []
  | n + 1 => callsA text n ++ [ent (tokAt text (lexRun text n)) (lexRun text (n + 1)), ent (tokAt text (lexRun text n)) (lexRun text (n + 1))]
noncomputable def marksA (text : List Nat) : Nat → List PV
  | 0 => [.int 4294967295]
  | n + 1 => marksA text n ++ [.int (lexRun text (n + 1)).reg]
theorem callsA_len {text : List Nat} : ∀ {n : Nat}, (callsA text n).length = 2 * n
  | 0 => rfl
  | n + 1 => by rw [callsA, List.length_append, callsA_len]; simp; omega
theorem marksA_len {text : List Nat} : ∀ {n : Nat}, (marksA text n).length = n + 1
  | 0 => rfl
  | n + 1 => by rw [marksA, List.length_append, marksA_len]; simp
noncomputable def callsOut (text : List Nat) (words : List (List Nat)) : PV :=
  .tup [.list (callsA text (words.length + 1) ++ words.map (ent · (lexRun text (words.length + 1))) ++ [ent (tokAt text (lexRun text (words.length + 1))) (lexRun text (words.length + 2))]), .list (marksA text (words.length + 1))]
end Mine
end

section
namespace Mine
open PySem PySem.Calls PyProof.Rows PySem.W

section
variable {C' : Cx} {V : Wd} {la : LA} {prog : Program} {w : World} {T : Heap → Prop} {d : Nat} {sc : Scope} {text : List Nat} {ρ : Env'} {g : V.G} {l : LG}

theorem get_fresh (F : TopAt (C'.withW (LexV V la)) prog w T d sc) (E : LexEnv prog w C'.T V la text crcOf 2) (hd : 5 ≤ d) (hl : text.length ≤ 16000000) (hp : l.push = []) (hm : (Str.ofString "lexer", LV.val (.obj la.aL)) ∈ ρ) {p1 p2 p3 : Pos} {pl : Sem Bool} (he : eval (.Call (.Attribute (.Name "lexer" p1) "get_token" p2) [] [] p3) (C'.withW (LexV V la)).env = (do
      let ov ← eval (.Name "lexer" p1) (C'.withW (LexV V la)).env
      standAt p2.atName
      let (f, first) ← holding [ov] (getMethod ov "get_token" pl)
      callWith p3 f first (backTo p3 (starEach [] (C'.withW (LexV V la)).env)) (backToKw p3 (keywordEach [] (C'.withW (LexV V la)).env))) := by rfl) :
    Ev (C'.withW (LexV V la)) ρ (g, l) (.Call (.Attribute (.Name "lexer" p1) "get_token" p2) [] [] p3) (.str (tokAt text l)) (g, lexAt text l) := by
  obtain ⟨o, fd, D⟩ := E.dG
  have h := E.getToken g l hp (by have := lexTok_len (text.drop l.pos); rw [List.length_drop] at this; omega)
  rw [← F.prog, ← F.w] at h
  exact Ev.meth (C := C'.withW (LexV V la)) (first := [.ref la.aL]) (qs := [.obj la.aL]) F.ok (Ev.name F.ok hm) (hasLexW (C := C') E.vok E.dis E.cls E.ap).mGet (fun _ _ => .cons (.obj _) .nil) ⟨o, fd, D.data, fun h t => (D.at' h t).1⟩ EvL.nil h (Nat.le_trans hd F.d) he

theorem get_pushed (F : TopAt (C'.withW (LexV V la)) prog w T d sc) (E : LexEnv prog w C'.T V la text crcOf 2) (hd : 5 ≤ d) {x : List Nat} {xs : List (List Nat)} (hp : l.push = x :: xs) (hn : xs.length < 900) (hm : (Str.ofString "lexer", LV.val (.obj la.aL)) ∈ ρ) {p1 p2 p3 : Pos} {pl : Sem Bool} (he : eval (.Call (.Attribute (.Name "lexer" p1) "get_token" p2) [] [] p3) (C'.withW (LexV V la)).env = (do
      let ov ← eval (.Name "lexer" p1) (C'.withW (LexV V la)).env
      standAt p2.atName
      let (f, first) ← holding [ov] (getMethod ov "get_token" pl)
      callWith p3 f first (backTo p3 (starEach [] (C'.withW (LexV V la)).env)) (backToKw p3 (keywordEach [] (C'.withW (LexV V la)).env))) := by rfl) :
    Ev (C'.withW (LexV V la)) ρ (g, l) (.Call (.Attribute (.Name "lexer" p1) "get_token" p2) [] [] p3) (.str x) (g, { l with push := xs }) := by
  obtain ⟨o, fd, D⟩ := E.dG
  have h := E.pushed g l hp hn
  rw [← F.prog, ← F.w] at h
  exact Ev.meth (C := C'.withW (LexV V la)) (first := [.ref la.aL]) (qs := [.obj la.aL]) F.ok (Ev.name F.ok hm) (hasLexW (C := C') E.vok E.dis E.cls E.ap).mGet (fun _ _ => .cons (.obj _) .nil) ⟨o, fd, D.data, fun h t => (D.at' h t).1⟩ EvL.nil h (Nat.le_trans (by omega) F.d) he

theorem do_push (F : TopAt (C'.withW (LexV V la)) prog w T d sc) (E : LexEnv prog w C'.T V la text crcOf 2) (hd : 5 ≤ d) {x : List Nat} (hn : l.push.length < 900) (hm : (Str.ofString "lexer", LV.val (.obj la.aL)) ∈ ρ) {y : Str} (hx : (y, LV.val (.str x)) ∈ ρ) {p1 p2 p3 p4 : Pos} {pl : Sem Bool} (he : eval (.Call (.Attribute (.Name "lexer" p1) "push_token" p2) [.Name y p4] [] p3) (C'.withW (LexV V la)).env = (do
      let ov ← eval (.Name "lexer" p1) (C'.withW (LexV V la)).env
      standAt p2.atName
      let (f, first) ← holding [ov] (getMethod ov "push_token" pl)
      callWith p3 f first (backTo p3 (starEach [.Name y p4] (C'.withW (LexV V la)).env)) (backToKw p3 (keywordEach [] (C'.withW (LexV V la)).env))) := by rfl) :
    Ev (C'.withW (LexV V la)) ρ (g, l) (.Call (.Attribute (.Name "lexer" p1) "push_token" p2) [.Name y p4] [] p3) .none (g, { l with push := l.push ++ [x] }) := by
  obtain ⟨o, fd, D⟩ := E.dP
  have h := E.pushToken g l x hn
  rw [← F.prog, ← F.w] at h
  exact Ev.meth (C := C'.withW (LexV V la)) (first := [.ref la.aL]) (qs := [.obj la.aL]) F.ok (Ev.name F.ok hm) (hasLexW (C := C') E.vok E.dis E.cls E.ap).mPush (fun _ _ => .cons (.obj _) .nil) ⟨o, fd, D.data, fun h t => (D.at' h t).1⟩ (EvL.cons F.ok (Ev.name F.ok hx) EvL.nil) h (Nat.le_trans (by omega) F.d) he

theorem ev_entry (F : TopAt (C'.withW (LexV V la)) prog w T d sc) (E : LexEnv prog w C'.T V la text crcOf 2) {t : List Nat} (ht : (Str.ofString "told", LV.val (.str t)) ∈ ρ) (hs : (Str.ofString "state", LV.ro (.obj la.aS)) ∈ ρ) (hm : (Str.ofString "lexer", LV.val (.obj la.aL)) ∈ ρ) {p1 p2 p3 p4 p5 p6 p7 : Pos} {k1 k2 : Nat} :
    Ev (C'.withW (LexV V la)) ρ (g, l) (.Tuple [.Name "told" p1, .Subscript (.Name "state" p2) (.Constant (.int 0) k1 p3) p4, .Attribute (.Name "lexer" p5) "lineno" p6] k2 p7) (ent t l) (g, l) := by
  have hC := F.ok
  refine Ev.tup hC (EvL.cons hC (Ev.name hC ht) (EvL.cons hC (Ev.subW hC (Ev.nameRo hC hs) Ev.int (by decide) (by decide) ((hasLexW (C := C') E.vok E.dis E.cls E.ap).state0)) (EvL.cons hC (Ev.attr hC (Ev.name hC hm) (hasLexW (C := C') E.vok E.dis E.cls E.ap).lineno) EvL.nil))) (by simp)

theorem ev_reg (F : TopAt (C'.withW (LexV V la)) prog w T d sc) (E : LexEnv prog w C'.T V la text crcOf 2) (hs : (Str.ofString "state", LV.ro (.obj la.aS)) ∈ ρ) {p2 p3 p4 : Pos} {k1 : Nat} :
    Ev (C'.withW (LexV V la)) ρ (g, l) (.Subscript (.Name "state" p2) (.Constant (.int 1) k1 p3) p4) (.int l.reg) (g, l) :=
  Ev.subW F.ok (Ev.nameRo F.ok hs) Ev.int (by decide) (by decide) ((hasLexW (C := C') E.vok E.dis E.cls E.ap).state1)

theorem push_same {l : LG} (h : l.push = []) : ({ l with push := [] } : LG) = l := by cases l; simp at h; subst h; rfl

noncomputable def innerL (text : List Nat) (i : Nat) : Nat → LG
  | 0 => lexRun text i
  | 1 => { lexRun text (i + 1) with push := [tokAt text (lexRun text i)] }
  | _ => lexRun text (i + 1)

set_option maxHeartbeats 4000000 in
theorem calls_rest {rest : List Stmt} (hrr : rest = callsRest) (hsc : sc = stmtScope (stmtAt theProg iCalls)) (F : TopAt (C'.withW (LexV V la)) prog w T d sc) (E : LexEnv prog w C'.T V la text crcOf 2) (hlen : TG T "len" (.builtin "len")) (hrange : TG T "range" (.type "range")) (hd : 5 ≤ d) (hl : text.length ≤ 16000000) (words : List (List Nat)) (hw : words.length ≤ 100) :
    St (C'.withW (LexV V la)) (callsEnv text (.list (words.map .str)) la .undef .undef .undef .undef .undef .undef) (g, ⟨0, 4294967295, 1, []⟩) rest (fun fl _ _ => fl = .ret (callsOut text words)) := by
  subst hsc
  subst hrr
  have hC := F.ok
  have hint : interactive (C'.withW (LexV V la)).env = false := by unfold interactive; rw [F.scope]; rfl
  have hkl : (C'.withW (LexV V la)).env.kindOf (Str.ofString "marks") = some .local := by show (C'.withW (LexV V la)).env.scope.names.lookup _ = _; rw [F.scope]; rfl
  have gl := F.glob hlen (by rfl)
  have gr := F.glob hrange (by rfl)
  have hN : ∀ {ρ : Env'} {g : (LexV V la).G}, (Str.ofString "words", LV.val (.list (words.map .str))) ∈ ρ → ∀ {p1 p2 p3 p4 p5 : Pos} {k : Nat},
      EvL (C'.withW (LexV V la)) ρ g [.BinOp (.Call (.Name "len" p1) [.Name "words" p2] [] p3) .Add (.Constant (.int 1) k p4) p5] [.int ((words.length : Int) + 1)] g := fun h => by
    rw [show ((words.length : Int) + 1) = ((words.map PV.str).length : Int) + 1 by rw [List.length_map]]
    exact EvL.cons hC (Ev.bin hC (Ev.callB hC gl (EvL.cons hC (Ev.name hC h) EvL.nil) (call_lenL (by rw [List.length_map]; omega))) Ev.int op_add) EvL.nil
  refine St.cons (St1.assignOwn2 hC EvL.nil (EvL.cons hC (ev_reg F E (by walk_at "m_mem")) EvL.nil) (by decide) (by decide) (by walk_at "m_put") (by walk_at "m_put") hkl ?_ rfl (scope_of F.scope fun e => rfl))
  -- the calls, each twice
  refine St.cons (St1.for hC (EvIt.range1 hC gr (hN (by walk_at "m_mem")) (by omega) (by omega)) (fun i ρ g' => ρ = callsEnv text (.list (words.map .str)) la (.own (callsA text i)) (.own (marksA text i)) .undef .undef .undef .undef ∧ g' = (g, lexRun text i)) ⟨rfl, rfl⟩ ?_ ?_)
  · rintro i p ρ₁ g₂ hp ⟨rfl, rfl⟩
    have hi : i < words.length + 1 := by have := (rangeItems_get hp).1; omega
    refine ⟨_, Binds.name (by walk_at "m_put"), ?_⟩
    refine St.cons (St1.for hC (EvIt.range1 hC gr (EvL.cons hC Ev.int EvL.nil) (by decide) (by decide)) (fun j ρ g' => ρ = callsEnv text (.list (words.map .str)) la (.own (callsA text i ++ List.replicate j (ent (tokAt text (lexRun text i)) (lexRun text (i + 1))))) (.own (marksA text i)) (.val p) .undef .undef .undef ∧
      g' = (g, innerL text i j)) ⟨by simp, rfl⟩ ?_ ?_)
    · rintro j q ρ₁ g₂ hq ⟨rfl, rfl⟩
      obtain ⟨hj, rfl⟩ := rangeItems_get hq
      refine ⟨_, Binds.name (by walk_at "m_put"), ?_⟩
      have hlenA : (callsA text i ++ List.replicate j (ent (tokAt text (lexRun text i)) (lexRun text (i + 1)))).length ≤ 4096 := by
        rw [List.length_append, callsA_len, List.length_replicate]
        have : j < 2 := hj
        omega
      have hj2 : j = 0 ∨ j = 1 := by have : j < 2 := hj; omega
      rcases hj2 with rfl | rfl
      · change St (C'.withW (LexV V la)) _ ((g, lexRun text i) : V.G × LG) _ _
        refine St.cons (St1.assign hC (get_fresh F E hd hl lexRun_push (by walk_at "m_mem")) (by walk_at "m_put") ?_)
        change St (C'.withW (LexV V la)) _ ((g, lexRun text (i + 1)) : V.G × LG) _ _
        refine St.cons (St1.append hC (by walk_at "m_mem") (ev_entry F E (by walk_at "m_mem") (by walk_at "m_mem") (by walk_at "m_mem")) hlenA (by walk_at "m_put") ?_ hint)
        refine St.one (St1.ifs hC (EvB.cmp hC (by walk_at "m_ev") (by walk_at "m_ev") (by walk_at "m_op")) (fun h => ?_) fun h => ?_)
        · refine St.one (St1.expr hC (do_push F E hd (by rw [lexRun_push]; decide) (by walk_at "m_mem") (by walk_at "m_mem")) ⟨_, ?_, rfl, ?_⟩ hint)
          · walk_at "m_weak"
            simp [lexRun]
          · rw [lexRun_push]
            rfl
        · exact absurd h (by decide)
      · change St (C'.withW (LexV V la)) _ ((g, { lexRun text (i + 1) with push := [tokAt text (lexRun text i)] }) : V.G × LG) _ _
        refine St.cons (St1.assign hC (get_pushed F E hd (x := tokAt text (lexRun text i)) (xs := []) rfl (by decide) (by walk_at "m_mem")) (by walk_at "m_put") ?_)
        change St (C'.withW (LexV V la)) _ ((g, { lexRun text (i + 1) with push := [] }) : V.G × LG) _ _
        rw [push_same lexRun_push]
        refine St.cons (St1.append hC (by walk_at "m_mem") (ev_entry F E (by walk_at "m_mem") (by walk_at "m_mem") (by walk_at "m_mem")) hlenA (by walk_at "m_put") ?_ hint)
        refine St.one (St1.ifs hC (EvB.cmp hC (by walk_at "m_ev") (by walk_at "m_ev") (by walk_at "m_op")) (fun h => ?_) fun h => ?_)
        · exact absurd h (by decide)
        · refine St.nil ⟨_, ?_, rfl, rfl⟩
          walk_at "m_weak"
          rw [List.append_assoc]; rfl
    · rintro ρ₁ g₂ ⟨rfl, rfl⟩
      have hn2 : (rangeItems 0 1 (Int.toNat 2)).length = 2 := rangeItems_length
      rw [hn2]
      change St (C'.withW (LexV V la)) _ ((g, lexRun text (i + 1)) : V.G × LG) _ _
      refine St.one (St1.append hC (by walk_at "m_mem") (ev_reg F E (by walk_at "m_mem")) (by rw [marksA_len]; omega) (by walk_at "m_put") ⟨_, ?_, rfl, rfl⟩ hint)
      walk_at "m_weak"
      all_goals rfl
  rintro ρ₁ g₂ ⟨rfl, rfl⟩
  have hn : (rangeItems 0 1 ((words.length : Int) + 1).toNat).length = words.length + 1 := by rw [rangeItems_length]; omega
  rw [hn]
  -- the words, pushed back
  refine St.cons (St1.for hC (EvIt.list hC (Ev.name hC (by walk_at "m_mem"))) (fun i ρ g' => ρ = callsEnv text (.list (words.map .str)) la (.own (callsA text (words.length + 1))) (.own (marksA text (words.length + 1))) .undef .undef .undef .undef ∧ g' = (g, { lexRun text (words.length + 1) with push := words.take i })) ⟨rfl, ?_⟩ ?_ ?_)
  · rw [List.take_zero, push_same lexRun_push]
  · rintro i p ρ₁ g₂ hp ⟨rfl, rfl⟩
    obtain ⟨x, hx, rfl⟩ : ∃ x, words[i]? = some x ∧ p = .str x := by
      rw [List.getElem?_map] at hp
      cases e : words[i]? with
      | none => rw [e] at hp; cases hp
      | some c => rw [e] at hp; cases hp; exact ⟨c, rfl, rfl⟩
    refine ⟨_, Binds.name (by walk_at "m_put"), ?_⟩
    refine St.one (St1.expr hC (do_push F E hd (by show (words.take i).length < 900; rw [List.length_take]; omega) (by walk_at "m_mem") (by walk_at "m_mem")) ⟨_, by walk_at "m_weak", rfl, ?_⟩ hint)
    rw [List.take_add_one, hx]; rfl
  rintro ρ₁ g₂ ⟨rfl, rfl⟩
  rw [List.length_map, List.take_length]
  -- and given once more
  refine St.cons (St1.for hC (EvIt.range1 hC gr (hN (by walk_at "m_mem")) (by omega) (by omega)) (fun i ρ g' => ρ = callsEnv text (.list (words.map .str)) la (.own (callsA text (words.length + 1) ++ (words.take i).map (ent · (lexRun text (words.length + 1))) ++ if i ≤ words.length then [] else [ent (tokAt text (lexRun text (words.length + 1))) (lexRun text (words.length + 2))])) (.own (marksA text (words.length + 1))) .undef .undef .undef .undef ∧
      g' = (g, if i ≤ words.length then { lexRun text (words.length + 1) with push := words.drop i } else lexRun text (words.length + 2))) ⟨by simp, by simp⟩ ?_ ?_)
  · rintro i p ρ₁ g₂ hp ⟨rfl, rfl⟩
    have hi : i < words.length + 1 := by have := (rangeItems_get hp).1; omega
    have hi' : i ≤ words.length := by omega
    rw [if_pos hi', if_pos hi', List.append_nil]
    refine ⟨_, Binds.name (by walk_at "m_put"), ?_⟩
    have hlenA : (callsA text (words.length + 1) ++ (words.take i).map (ent · (lexRun text (words.length + 1)))).length ≤ 4096 := by
      rw [List.length_append, callsA_len, List.length_map, List.length_take]
      omega
    by_cases hlt : i < words.length
    · have hx : words.drop i = words[i] :: words.drop (i + 1) := List.drop_eq_getElem_cons hlt
      rw [hx]
      refine St.cons (St1.assign hC (get_pushed F E hd (x := words[i]) (xs := words.drop (i + 1)) rfl (by rw [List.length_drop]; omega) (by walk_at "m_mem")) (by walk_at "m_put") ?_)
      refine St.one (St1.append hC (by walk_at "m_mem") (ev_entry F E (by walk_at "m_mem") (by walk_at "m_mem") (by walk_at "m_mem")) hlenA (by walk_at "m_put") ⟨_, ?_, rfl, ?_⟩ hint)
      · walk_at "m_weak"
        rw [if_pos (by omega), List.append_nil, List.take_add_one, List.getElem?_eq_getElem hlt, List.map_append, List.append_assoc]
        rfl
      · rw [if_pos (by omega)]
    · have hin : i = words.length := by omega
      subst hin
      rw [List.drop_length, push_same lexRun_push]
      refine St.cons (St1.assign hC (get_fresh F E hd hl lexRun_push (by walk_at "m_mem")) (by walk_at "m_put") ?_)
      refine St.one (St1.append hC (by walk_at "m_mem") (ev_entry F E (by walk_at "m_mem") (by walk_at "m_mem") (by walk_at "m_mem")) hlenA (by walk_at "m_put") ⟨_, ?_, rfl, ?_⟩ hint)
      · walk_at "m_weak"
        rw [if_neg (by omega), List.take_of_length_le (Nat.le_refl _), List.take_of_length_le (Nat.le_succ _)]
        rfl
      · rw [if_neg (by omega)]; rfl
  rintro ρ₁ g₂ ⟨rfl, rfl⟩
  rw [hn]
  rw [if_neg (by omega), List.take_of_length_le (Nat.le_succ _)]
  refine St.freeze hC (by walk_at "m_mem") (x := Str.ofString "calls") (by walk_at "m_put") (St.freeze hC (by walk_at "m_mem") (x := Str.ofString "marks") (by walk_at "m_put") ?_)
  exact St.one (St1.ret hC (Ev.tup hC (EvL.cons hC (by walk_at "m_ev") (EvL.cons hC (by walk_at "m_ev") EvL.nil)) (by simp)) rfl)
end
end Mine
end

section
namespace Mine
open PySem PySem.Calls PyProof.Rows PySem.W

theorem calls_st {C : Cx} {g : C.G} {prog : Program} {w : World} {T : Heap → Prop} {d : Nat} {sc : Scope} {ca : CA} {K : Frag} {fCrc c PT : Addr} {q1 q2 : Str} {text : List Nat} {words : List (List Nat)} {st : Stmt} (hst : st = stmtAt theProg iCalls) (F : TopAt C prog w T d sc) (LT : LexTop prog w T ca K fCrc)
    (MK : Maker C c PT (known q1 q2)) (hMP : ∀ a, C.M a → a = PT) (hsc : sc = stmtScope st) (hq1 : qualnameIn C.env "read" "read" = q1) (hq2 : C.env.qual ++ "<lambda>" = q2) (hd : 5 ≤ d) (hl : text.length ≤ 16000000) (hw : words.length ≤ 100) :
    St C (callsEnv0 text (.list (words.map .str))) g (stmtBody st) (fun fl _ _ => fl = .ret (callsOut text words)) := by
  obtain ⟨rest, hrr⟩ : ∃ r, r = callsRest := ⟨_, rfl⟩
  exact prelude hst hrr F LT MK hMP hsc hq1 hq2 (by omega) hl fun C' cR la F' E' => calls_rest hrr (hst ▸ hsc) F' E' LT.len LT.range hd hl words hw

theorem FnW.def' {prog : Program} {w : World} {T : Heap → Prop} {V : Wd} {d : Nat} {st : Stmt} {a : Addr} {o : Obj} {fd : FuncData} {pn : List Str} (rest : List Str) {ps : List PV} {r : PV} {g g' : V.G} (hV : V.Ok)
    (hT : ∀ h h' : Heap, T h → (∀ b o, ¬ V.M b → h.get? b = some o → h'.get? b = some o) → T h') (D : DefAt T st pn a o fd) (hlen : ps.length = pn.length)
    (hnd : (pn ++ rest).Nodup) (hkinds : ((pn ++ rest).all fun x => (stmtScope st).names.lookup x == some .local || (stmtScope st).names.lookup x == some .cell) = true)
    (hdbg : ((pn ++ rest).all fun x => !(x == ("__debug__" : Str)) && !(x == ("__classdict__" : Str))) = true)
    (hco : (stmtScope st).isCoroutine = false) (hgen : (stmtScope st).isGenerator = false) (hk : (stmtScope st).kind = .function)
    (hbody : ∀ C0 : Cx, FrameD (C0.withW V) prog w T d (stmtScope st) → C0.env.code = fd.code → C0.env.qual = fd.qualname ++ ".<locals>." →
      St (C0.withW V) (startEnv pn rest ps) g (stmtBody st) (fun fl _ g₁ => (fl = .ret r ∨ (fl = .next ∧ r = .none)) ∧ g₁ = g')) :
    FnW prog w T V (d + 1) (.ref a) g ps r g' :=
  FnW.def rest hV hT D hlen hnd hkinds hdbg hco hgen hk fun cells A X s F => hbody (frameW prog w T V d fd (pn ++ rest) a cells A X s) F rfl rfl

/-- the contract of `_law_calls` -/
theorem calls_fn {prog : Program} {w : World} {T : Heap → Prop} {ca : CA} {K : Frag} {fCrc fCalls c PT : Addr} {o : Obj} {fd : FuncData} {q1 q2 : Str} (LT : LexTop prog w T ca K fCrc)
    (hT : ∀ h h' : Heap, T h → (∀ b o, b ≠ PT → h.get? b = some o → h'.get? b = some o) → T h') {st : Stmt} (hst : st = stmtAt theProg iCalls) (D : DefAt T st ["text", "words"] fCalls o fd) (hcode : fd.code = .ref c)
    (htop : ∀ h, T h → ∃ mg, h.Ns mainGlobals mg ∧ CodeHd h c PT ∧ mainGlobals ≠ PT ∧ h.BuiltinsAt mg PT) {text : List Nat} {words : List (List Nat)} (hl : text.length ≤ 16000000) (hw : words.length ≤ 100)
    (hq1 : fd.qualname ++ ".<locals>." ++ "read" = q1) (hq2 : fd.qualname ++ ".<locals>." ++ "<lambda>" = q2) :
    FnW prog w T (tabV PT (known q1 q2)) 6 (.ref fCalls) () [.str text, .list (words.map .str)] (callsOut text words) () := by
  refine FnW.def' ["read", "stream", "lexer", "calls", "marks", "call", "turn", "told", "word", "state"] (tabV.ok _ _) (fun h h' t k => hT h h' t fun b o hb e => k b o hb e) D rfl (by decide +kernel) (by subst hst; decide +kernel) (by decide +kernel) (by subst hst; rfl) (by subst hst; rfl) (by subst hst; rfl) fun C0 F hc hq => ?_
  have hk : C0.env.kindOf (Str.ofString "read") = some .local := by
    have := F.scope
    show C0.env.scope.names.lookup _ = _
    rw [show C0.env.scope = _ from this]; subst hst; rfl
  have e1 : qualnameIn C0.env "read" "read" = q1 := by
    unfold qualnameIn; rw [hk, hq]; exact hq1
  have h0 := calls_st (C := C0.withW (tabV PT (known q1 q2))) (g := ()) (text := text) (words := words) hst F.top LT (c := c) (PT := PT) ⟨F.globals, hc.trans hcode, fun h t => htop h (F.T ▸ t), rfl, fun g h hw => hw, fun g h h' hw ht k => ht⟩ (fun a m => m) rfl e1 (by rw [show (C0.withW (tabV PT (known q1 q2))).env.qual = _ from hq]; exact hq2) (by decide) hl hw
  exact StP.mono h0 fun fl ρ g' h => ⟨.inl h, rfl⟩

/-! arithmetic of naturals -/
section
variable {C : Cx}
theorem intBits_le {a : Nat} {n : Nat} (h : a < 2 ^ n) : Builtin.Int.intBits (a : Int) ≤ n := by
  unfold Builtin.Int.intBits
  split
  · exact Nat.zero_le _
  · rename_i h0
    have h0' : a ≠ 0 := by intro z; subst z; simp at h0
    rw [Int.natAbs_natCast]
    exact (Nat.log2_lt h0').mpr h
theorem op_addN {a b : Nat} : Op2 C (binaryOp .Add) (.int a) (.int b) (.int ((a + b : Nat) : Int)) := by rw [Int.natCast_add]; exact op_add
theorem op_mulN {a b : Nat} (h : a < 2 ^ 64) : Op2 C (binaryOp .Mult) (.int a) (.int b) (.int ((a * b : Nat) : Int)) := by rw [Int.natCast_mul]; exact op_mul (.of_left (intBits_le h))
theorem op_mulN' {a b : Nat} (h : b < 2 ^ 64) : Op2 C (binaryOp .Mult) (.int a) (.int b) (.int ((a * b : Nat) : Int)) := by rw [Int.natCast_mul]; exact op_mul (.of_right (intBits_le h))
theorem op_modN {a b : Nat} (h : 0 < b) : Op2 C (binaryOp .Mod) (.int a) (.int b) (.int ((a % b : Nat) : Int)) := by
  rw [Int.natCast_emod, ← Int.fmod_eq_emod_of_nonneg _ (Int.natCast_nonneg b)]; exact op_mod (by omega)
theorem op_fdivN {a b : Nat} (h : 0 < b) (h2 : b < 1073741824) : Op2 C (binaryOp .FloorDiv) (.int a) (.int b) (.int ((a / b : Nat) : Int)) := by
  rw [Int.natCast_ediv, ← Int.fdiv_eq_ediv_of_nonneg _ (Int.natCast_nonneg b)]; exact op_fdiv (by omega) (PyProof.noPylong_small (by omega))
theorem op_powN {a n k : Nat} (h : a < 2 ^ k) (h2 : k * n ≤ 134217728) : Op2 C (binaryOp .Pow) (.int a) (.int n) (.int ((a ^ n : Nat) : Int)) := by
  have e : ((a ^ n : Nat) : Int) = (a : Int) ^ ((n : Int).toNat) := by rw [Int.toNat_natCast]; exact Int.natCast_pow a n
  rw [e]
  refine op_pow (Int.natCast_nonneg _) ?_
  have h1 := intBits_le h
  have h3 : Builtin.Int.intBits (a : Int) * n ≤ 134217728 := Nat.le_trans (Nat.mul_le_mul_right n h1) h2
  have h4 : ((Builtin.Int.intBits (a : Int) * n : Nat) : Int) ≤ ((134217728 : Nat) : Int) := Int.ofNat_le.mpr h3
  rw [Int.natCast_mul] at h4
  have h5 : (2 : Int) ^ 27 = 134217728 := by decide
  omega
theorem op_nes {x y : List Nat} : Op2 C (compareOp .NotEq) (.str x) (.str y) (.bool (x != y)) := fun X s u v hX r1 r2 => by
  cases r1; cases r2
  exact PySem.P.ne_str ⟨.bool _, keeps_refl⟩
theorem rangeN_get {n i : Nat} {p : PV} (h : (rangeItems 0 1 n)[i]? = some p) : i < n ∧ p = .int (i : Int) := by
  obtain ⟨h1, rfl⟩ := rangeItems_get h
  refine ⟨h1, ?_⟩
  congr 1
  omega
end
end Mine
end

section
namespace Mine
open PySem PySem.Calls PyProof.Rows PySem.W

theorem op_ixorN {C : Cx} {a b : Nat} : Op2 C (inplaceOp .BitXor) (.int a) (.int b) (.int ((a ^^^ b : Nat) : Int)) := by rw [← bitXor_nat]; exact op_ixor

theorem op_gtN {C : Cx} {a b : Nat} : Op2 C (compareOp .Gt) (.int a) (.int b) (.bool (decide (b < a))) := by
  have e : decide (b < a) = decide ((b : Int) < (a : Int)) := by simp only [decide_eq_decide]; omega
  rw [e]; exact op_gt
theorem op_geN {C : Cx} {a b : Nat} : Op2 C (compareOp .GtE) (.int a) (.int b) (.bool (decide (b ≤ a))) := by
  have e : decide (b ≤ a) = decide ((b : Int) ≤ (a : Int)) := by simp only [decide_eq_decide]; omega
  rw [e]; exact op_ge
theorem op_eqN {C : Cx} {a b : Nat} : Op2 C (compareOp .Eq) (.int a) (.int b) (.bool (decide (a = b))) := by
  have e : decide (a = b) = ((a : Int) == (b : Int)) := by rw [Bool.eq_iff_iff]; simp; omega
  rw [e]; exact op_eq

/-! `_law_word` -/
noncomputable def tbl : List Nat := [97, 98, 32, 9, 13, 10, 34, 92]
noncomputable def digitSign (d : Nat) : Nat := if d % 2 = 1 then d / 2 % 256 else tbl.getD (d / 2 % 8) 0
noncomputable def lawWord (n : Nat) : List Nat := (List.range (n % 3)).map fun k => digitSign (n / 3 / 512 ^ k)

theorem getD_some {l : List Nat} {i : Nat} (h : i < l.length) : l[i]? = some (l.getD i 0) := by
  rw [List.getD_eq_getElem?_getD, List.getElem?_eq_getElem h]; rfl

section
variable {C : Cx} {g : C.G} {prog : Program} {w : World} {T : Heap → Prop} {d : Nat} {st : Stmt}

theorem word_body (hst : st = stmtAt theProg 5) (F : TopAt C prog w T d (stmtScope st)) (hrange : TG T "range" (.type "range")) (hchr : TG T "chr" (.builtin "chr")) (n : Nat) :
    St C [en "number" (.val (.int n)), en "word" .undef, en "k" .undef, en "digit" .undef] g (stmtBody st) (fun fl _ _ => fl = .ret (.str (lawWord n))) := by
  have hC := F.ok
  have gr := F.glob hrange (by subst hst; rfl)
  have gc := F.glob hchr (by subst hst; rfl)
  clear F
  subst hst
  refine St.cons (St1.assign hC (by walk_at "m_ev") (by walk_at "m_put") ?_)
  refine St.cons (St1.for hC (EvIt.range1 hC gr (EvL.cons hC (Ev.bin hC (by walk_at "m_ev") Ev.int (op_modN (b := 3) (by decide))) EvL.nil) (by omega) (by omega)) (fun i ρ _ => ρ = [en "number" (.val (.int n)), en "word" (.val (.str ((List.range i).map fun k => digitSign (n / 3 / 512 ^ k)))), en "k" .undef, en "digit" .undef]) rfl ?_ ?_)
  · rintro i p ρ₁ g₂ hp rfl
    obtain ⟨hi, rfl⟩ := rangeN_get hp
    have hi' : i < 3 := by omega
    refine ⟨_, Binds.name (by walk_at "m_put"), ?_⟩
    refine St.cons (St1.assign hC (v := .int ((n / 3 / 512 ^ i : Nat) : Int)) (Ev.bin hC (Ev.bin hC (by walk_at "m_ev") Ev.int (op_fdivN (b := 3) (by decide) (by decide))) (Ev.bin hC Ev.int (by walk_at "m_ev") (op_powN (a := 512) (k := 10) (by decide) (by omega))) (op_fdivN (Nat.pow_pos (by decide)) ?_)) (by walk_at "m_put") ?_)
    · have : i = 0 ∨ i = 1 ∨ i = 2 := by omega
      rcases this with rfl | rfl | rfl <;> decide
    generalize hdd : n / 3 / 512 ^ i = dd
    refine St.one (St1.aug (g₁ := g₂) hC (q := .str [digitSign dd]) (by walk_at "m_mem") (Ev.ifExp hC (EvB.cmp hC (Ev.bin hC (by walk_at "m_ev") Ev.int (op_modN (b := 2) (by decide))) Ev.int op_eq) (fun h => ?_) fun h => ?_) (op_icat ?_) (by walk_at "m_put") ⟨_, ?_, rfl⟩)
    · have h' : dd % 2 = 1 := by have h0 : (((dd % 2 : Nat) : Int) == 1) = true := h; simp at h0; omega
      have e : digitSign dd = dd / 2 % 256 := by unfold digitSign; rw [if_pos h']
      rw [e]
      exact Ev.callB hC gc (EvL.cons hC (Ev.bin hC (Ev.bin hC (by walk_at "m_ev") Ev.int (op_fdivN (b := 2) (by decide) (by decide))) Ev.int (op_modN (b := 256) (by decide))) EvL.nil) (call_chr (i := ((dd / 2 % 256 : Nat) : Int)) (by omega) (by omega))
    · have h' : ¬ dd % 2 = 1 := by have h0 : (((dd % 2 : Nat) : Int) == 1) = false := h; simp at h0; omega
      have e : digitSign dd = tbl.getD (dd / 2 % 8) 0 := by unfold digitSign; rw [if_neg h']
      rw [e]
      exact Ev.sub hC (Ev.str (l := tbl) rfl) (Ev.bin hC (Ev.bin hC (by walk_at "m_ev") Ev.int (op_fdivN (b := 2) (by decide) (by decide))) Ev.int (op_modN (b := 8) (by decide))) (item_str (i := ((dd / 2 % 8 : Nat) : Int)) (by omega) (by omega) (getD_some (by show dd / 2 % 8 < 8; omega)))
    · simp; omega
    · walk_at "m_weak"
      rw [List.range_succ, List.map_append, ← hdd]; rfl
  · rintro ρ₁ g₂ rfl
    refine St.one (St1.ret hC (by walk_at "m_ev") ?_)
    rw [rangeItems_length]
    rfl

theorem word_fn {f : Addr} {o : Obj} {fd : FuncData} (hT : ∀ h h' : Heap, T h → (∀ b o, h.get? b = some o → h'.get? b = some o) → T h') (hst : st = stmtAt theProg 5) (D : DefAt T st ["number"] f o fd) (hrange : TG T "range" (.type "range")) (hchr : TG T "chr" (.builtin "chr")) (n : Nat) :
    Fn prog w T 1 (.ref f) [.int n] (.str (lawWord n)) :=
  Fn.def ["word", "k", "digit"] hT D rfl (by decide) (by subst hst; decide +kernel) (by decide +kernel) (by subst hst; rfl) (by subst hst; rfl) (by subst hst; rfl) fun C g F => StP.mono (word_body hst F.top hrange hchr n) fun fl ρ g h => .inl h

/-! `_law_written` -/
noncomputable def needsB (bare : Bool) (k c : Nat) : Bool := if bare then decide (c ∈ [32, 9, 13, 10, 92]) || (decide (c = 34) && decide (k = 0)) else decide (c ∈ [34, 92])
noncomputable def bareB (word : List Nat) (m : Nat) : Bool := decide (1 < m) && (word != [])
noncomputable def bodyW (word : List Nat) (m : Nat) : Nat → List Nat
  | 0 => []
  | k + 1 => bodyW word m k ++ ((if needsB (bareB word m) k (word.getD k 0) || decide (m % 2 = 1) then [92] else []) ++ [word.getD k 0])
noncomputable def lawWritten (word : List Nat) (m : Nat) (white : List Nat) : List Nat := if bareB word m then bodyW word m word.length ++ white else [34] ++ bodyW word m word.length ++ [34]
theorem bodyW_len {word : List Nat} {m : Nat} : ∀ i, (bodyW word m i).length ≤ 2 * i
  | 0 => by simp [bodyW]
  | i + 1 => by
    have := bodyW_len (word := word) (m := m) i
    rw [bodyW, List.length_append, List.length_append]
    split <;> simp <;> omega

theorem written_body (hst : st = stmtAt theProg 6) (F : TopAt C prog w T d (stmtScope st)) (hrange : TG T "range" (.type "range")) (hlen : TG T "len" (.builtin "len")) (word : List Nat) (m : Nat) (white : List Nat) (hw : word.length ≤ 100) (hw2 : white.length ≤ 100) :
    St C [en "word" (.val (.str word)), en "manner" (.val (.int m)), en "white" (.val (.str white)), en "bare" .undef, en "written" .undef, en "k" .undef, en "needs" .undef] g (stmtBody st) (fun fl _ _ => fl = .ret (.str (lawWritten word m white))) := by
  have hC := F.ok
  have gr := F.glob hrange (by subst hst; rfl)
  have gl := F.glob hlen (by subst hst; rfl)
  clear F
  subst hst
  refine St.cons (St1.assign hC (v := .bool (bareB word m)) (Ev.and2 hC (p := decide (1 < m)) (q := word != []) (Ev.cmp hC (by walk_at "m_ev") Ev.int (op_gtN (b := 1))) fun _ => Ev.cmp hC (by walk_at "m_ev") (Ev.str rfl) op_nes) (by walk_at "m_put") ?_)
  refine St.cons (St1.assign hC (by walk_at "m_ev") (by walk_at "m_put") ?_)
  refine St.cons (St1.for hC (EvIt.range1 hC gr (EvL.cons hC (Ev.callB hC gl (EvL.cons hC (by walk_at "m_ev") EvL.nil) (call_lenS (x := word) (by omega))) EvL.nil) (by omega) (by omega)) (fun i ρ _ => ρ = [en "word" (.val (.str word)), en "manner" (.val (.int m)), en "white" (.val (.str white)), en "bare" (.val (.bool (bareB word m))), en "written" (.val (.str (bodyW word m i))), en "k" .undef, en "needs" .undef]) rfl ?_ ?_)
  · rintro i p ρ₁ g₂ hp rfl
    obtain ⟨hi, rfl⟩ := rangeN_get hp
    have hi' : i < word.length := by omega
    have hit : ∀ {ρ : Env'} {g : C.G} {p1 p2 p3 : Pos}, (Str.ofString "word", LV.val (.str word)) ∈ ρ → (Str.ofString "k", LV.val (.int (i : Int))) ∈ ρ → Ev C ρ g (.Subscript (.Name "word" p1) (.Name "k" p2) p3) (.str [word.getD i 0]) g := fun h1 h2 =>
      Ev.sub hC (Ev.name hC h1) (Ev.name hC h2) (item_str (i := (i : Int)) (by omega) (by omega) (getD_some hi'))
    refine ⟨_, Binds.name (by walk_at "m_put"), ?_⟩
    refine St.cons (St1.assign hC (Ev.cmp hC (hit (by walk_at "m_mem") (by walk_at "m_mem")) (Ev.str (l := [34, 92]) rfl) op_in) (by walk_at "m_put") ?_)
    have tail : ∀ nb : Bool, nb = needsB (bareB word m) i (word.getD i 0) → St C [en "word" (.val (.str word)), en "manner" (.val (.int m)), en "white" (.val (.str white)), en "bare" (.val (.bool (bareB word m))), en "written" (.val (.str (bodyW word m i))), en "k" (.val (.int (i : Int))), en "needs" (.val (.bool nb))] g₂
        ((match stmtBody (stmtAt theProg 6) with | [_, _, .For _ _ b _ _, _] => b | _ => []).drop 2) (Turn C (fun i ρ _ => ρ = [en "word" (.val (.str word)), en "manner" (.val (.int m)), en "white" (.val (.str white)), en "bare" (.val (.bool (bareB word m))), en "written" (.val (.str (bodyW word m i))), en "k" .undef, en "needs" .undef]) i
          (Then C ((stmtBody (stmtAt theProg 6)).drop 3) (fun fl _ _ => fl = .ret (.str (lawWritten word m white))))) := fun nb hnb => by
      have hcond : ∀ {ρ : Env'} {g : C.G} {p1 p2 p3 p4 p5 p6 : Pos} {k1 k2 : Nat}, (Str.ofString "needs", LV.val (.bool nb)) ∈ ρ → (Str.ofString "manner", LV.val (.int (m : Int))) ∈ ρ →
          EvB C ρ g (.BoolOp .Or [.Name "needs" p1, .Compare (.BinOp (.Name "manner" p2) .Mod (.Constant (.int 2) k1 p3) p4) [.Eq] [.Constant (.int 1) k2 p5] p6] p6) (nb || decide (m % 2 = 1)) g := fun h1 h2 => by
        have e : (nb || decide (m % 2 = 1)) = (truthOf (.bool nb) || ((((m % 2 : Nat) : Int) == 1) || false)) := by
          rw [Bool.or_false]
          congr 1
          rw [Bool.eq_iff_iff]; simp; omega
        rw [e]
        exact EvB.boolOp (EvAll.consOr hC (EvB.val hC (Ev.name hC h1) rfl) fun _ => EvAll.consOr hC (EvB.cmp hC (Ev.bin hC (Ev.name hC h2) Ev.int (op_modN (b := 2) (by decide))) Ev.int op_eq) fun _ => EvAll.nilOr)
      have hl2 := bodyW_len (word := word) (m := m) i
      refine St.one (St1.aug (g₁ := g₂) hC (q := .str ((if nb || decide (m % 2 = 1) then [92] else []) ++ [word.getD i 0])) (by walk_at "m_mem") (Ev.bin hC (Ev.ifExp hC (hcond (by walk_at "m_mem") (by walk_at "m_mem")) (fun h => ?_) fun h => ?_) (hit (by walk_at "m_mem") (by walk_at "m_mem")) (op_cat ?_)) (op_icat ?_) (by walk_at "m_put") ⟨_, ?_, rfl⟩)
      · rw [if_pos h]; exact Ev.str rfl
      · rw [if_neg (by rw [h]; decide)]; exact Ev.str rfl
      · split <;> simp
      · split <;> simp <;> omega
      · walk_at "m_weak"
        rw [hnb]; rfl
    cases hb : bareB word m with
    | false =>
      rw [hb] at tail
      refine St.cons (St1.ifs hC (EvB.val hC (p := .bool false) (by walk_at "m_ev") rfl) (fun h => absurd h (by decide)) fun _ => ?_)
      exact St.nil (tail _ (by unfold needsB; rfl))
    | true =>
      rw [hb] at tail
      refine St.cons (St1.ifs hC (EvB.val hC (p := .bool true) (by walk_at "m_ev") rfl) (fun _ => ?_) fun h => absurd h (by decide))
      refine St.one (St1.assign hC (v := .bool (needsB true i (word.getD i 0))) (Ev.or2 hC (p := decide (word.getD i 0 ∈ [32, 9, 13, 10, 92])) (q := decide (word.getD i 0 = 34) && decide (i = 0)) (Ev.cmp hC (hit (by walk_at "m_mem") (by walk_at "m_mem")) (Ev.str (l := [32, 9, 13, 10, 92]) rfl) op_in) fun _ => Ev.and2 hC (p := decide (word.getD i 0 = 34)) (q := decide (i = 0)) ?_ fun _ => ?_) (by walk_at "m_put") ?_)
      · have e : decide (word.getD i 0 = 34) = ([word.getD i 0] == [34]) := by rw [Bool.eq_iff_iff]; simp
        rw [e]
        exact Ev.cmp hC (hit (by walk_at "m_mem") (by walk_at "m_mem")) (Ev.str rfl) op_eqs
      · have e : decide (i = 0) = ((i : Int) == 0) := by rw [Bool.eq_iff_iff]; simp
        rw [e]
        exact Ev.cmp hC (by walk_at "m_ev") Ev.int op_eq
      · exact tail _ rfl
  · rintro ρ₁ g₂ rfl
    have hn : (rangeItems 0 1 ((word.length : Int)).toNat).length = word.length := by rw [rangeItems_length]; omega
    rw [hn]
    have hl2 := bodyW_len (word := word) (m := m) word.length
    refine St.one (St1.ret (g₁ := g₂) hC (v := .str (lawWritten word m white)) (Ev.ifExp hC (EvB.val hC (p := .bool (bareB word m)) (by walk_at "m_ev") rfl) (fun h => ?_) fun h => ?_) rfl)
    · have h' : bareB word m = true := h
      unfold lawWritten; rw [if_pos h']
      exact Ev.bin hC (by walk_at "m_ev") (by walk_at "m_ev") (op_cat (by omega))
    · have h' : bareB word m = false := h
      unfold lawWritten; rw [if_neg (by rw [h']; decide)]
      exact Ev.bin hC (Ev.bin hC (Ev.str (l := [34]) rfl) (by walk_at "m_ev") (op_cat (by simp; omega))) (Ev.str (l := [34]) rfl) (op_cat (by simp; omega))

theorem written_fn {f : Addr} {o : Obj} {fd : FuncData} (hT : ∀ h h' : Heap, T h → (∀ b o, h.get? b = some o → h'.get? b = some o) → T h') (hst : st = stmtAt theProg 6) (D : DefAt T st ["word", "manner", "white"] f o fd) (hrange : TG T "range" (.type "range")) (hlen : TG T "len" (.builtin "len")) (word : List Nat) (m : Nat) (white : List Nat) (hw : word.length ≤ 100) (hw2 : white.length ≤ 100) :
    Fn prog w T 1 (.ref f) [.str word, .int m, .str white] (.str (lawWritten word m white)) :=
  Fn.def ["bare", "written", "k", "needs"] hT D rfl (by decide) (by subst hst; decide +kernel) (by decide +kernel) (by subst hst; rfl) (by subst hst; rfl) (by subst hst; rfl) fun C g F => StP.mono (written_body hst F.top hrange hlen word m white hw hw2) fun fl ρ g h => .inl h
end
end Mine
end

section
namespace Mine
open PySem PySem.Calls PyProof.Rows PySem.W

theorem rangeN_eq (n : Nat) : rangeItems 0 1 n = (List.range n).map fun (i : Nat) => PV.int (i : Int) := by
  unfold rangeItems
  apply List.map_congr_left
  intro i _
  congr 1
  omega

/-! `_law_back` -/
noncomputable def backStep (r : Nat) : Nat := if 2147483648 ≤ r then (r ^^^ 3988292384) * 2 + 1 else r * 2
noncomputable def backBits : Nat → Nat → Nat
  | 0, r => r
  | n + 1, r => backStep (backBits n r)
noncomputable def lawBack (r : Nat) (text : List Nat) : Nat := text.reverse.foldl (fun r c => backBits 8 r ^^^ c) r

section
variable {C : Cx} {g : C.G} {prog : Program} {w : World} {T : Heap → Prop} {d : Nat} {st : Stmt}

theorem strItem {x : List Nat} {i : Nat} {p : PV} (hp : (x.map fun c => PV.str [c])[i]? = some p) : ∃ c, x[i]? = some c ∧ p = .str [c] := by
  rw [List.getElem?_map] at hp
  cases e : x[i]? with
  | none => rw [e] at hp; cases hp
  | some c => rw [e] at hp; cases hp; exact ⟨c, rfl, rfl⟩

theorem back_body (hst : st = stmtAt theProg 8) (F : TopAt C prog w T d (stmtScope st)) (hrange : TG T "range" (.type "range")) (hord : TG T "ord" (.builtin "ord")) (r : Nat) (text : List Nat) (ht : text.length ≤ 4096) :
    St C [en "register" (.val (.int r)), en "text" (.val (.str text)), en "sign" .undef, en "turn" .undef] g (stmtBody st) (fun fl _ _ => fl = .ret (.int (lawBack r text))) := by
  have hC := F.ok
  have gr := F.glob hrange (by subst hst; rfl)
  have go := F.glob hord (by subst hst; rfl)
  clear F
  subst hst
  refine St.cons (St1.for hC (EvIt.str hC (Ev.reverse hC (x := text) (by walk_at "m_ev") (Ev.neg hC Ev.int) ht)) (fun i ρ _ => ρ = [en "register" (.val (.int (((text.reverse.take i).foldl (fun r c => backBits 8 r ^^^ c) r : Nat) : Int))), en "text" (.val (.str text)), en "sign" .undef, en "turn" .undef]) rfl ?_ ?_)
  · rintro i p ρ₁ g₂ hp rfl
    obtain ⟨c, hc, rfl⟩ := strItem hp
    refine ⟨_, Binds.name (by walk_at "m_put"), ?_⟩
    generalize hq : (text.reverse.take i).foldl (fun r c => backBits 8 r ^^^ c) r = q
    refine St.cons (St1.for hC (EvIt.range1 hC gr (EvL.cons hC Ev.int EvL.nil) (by decide) (by decide)) (fun j ρ _ => ρ = [en "register" (.val (.int ((backBits j q : Nat) : Int))), en "text" (.val (.str text)), en "sign" (.val (.str [c])), en "turn" .undef]) rfl ?_ ?_)
    · rintro j p ρ₁ g₃ hp rfl
      refine ⟨_, Binds.name (by walk_at "m_put"), ?_⟩
      refine St.one (St1.assign (g₁ := g₃) hC (v := .int ((backStep (backBits j q) : Nat) : Int)) (Ev.ifExp hC (EvB.cmp hC (by walk_at "m_ev") (Ev.bin hC Ev.int Ev.int (op_powN (a := 2) (n := 31) (k := 2) (by decide) (by decide))) (op_geN (b := 2 ^ 31))) (fun h => ?_) fun h => ?_) (by walk_at "m_put") ⟨_, ?_, rfl⟩)
      · have h' : 2147483648 ≤ backBits j q := of_decide_eq_true h
        unfold backStep; rw [if_pos h']
        exact Ev.bin hC (Ev.bin hC (Ev.bin hC (by walk_at "m_ev") Ev.int (op_xorN (b := 3988292384))) Ev.int (op_mulN' (b := 2) (by decide))) Ev.int (op_addN (b := 1))
      · have h' : ¬ 2147483648 ≤ backBits j q := of_decide_eq_false h
        unfold backStep; rw [if_neg h']
        exact Ev.bin hC (by walk_at "m_ev") Ev.int (op_mulN' (b := 2) (by decide))
      · walk_at "m_weak"
        rfl
    · rintro ρ₁ g₃ rfl
      refine St.one (St1.aug hC (by walk_at "m_mem") (Ev.callB hC go (EvL.cons hC (by walk_at "m_ev") EvL.nil) call_ord) op_ixorN (by walk_at "m_put") ⟨_, ?_, rfl⟩)
      walk_at "m_weak"
      rw [List.take_add_one, hc, List.foldl_append, hq, rangeItems_length]
      rfl
  · rintro ρ₁ g₂ rfl
    refine St.one (St1.ret hC (by walk_at "m_ev") ?_)
    rw [List.length_map, List.take_length]; rfl

theorem back_fn {f : Addr} {o : Obj} {fd : FuncData} (hT : ∀ h h' : Heap, T h → (∀ b o, h.get? b = some o → h'.get? b = some o) → T h') (hst : st = stmtAt theProg 8) (D : DefAt T st ["register", "text"] f o fd) (hrange : TG T "range" (.type "range")) (hord : TG T "ord" (.builtin "ord")) (r : Nat) (text : List Nat) (ht : text.length ≤ 4096) :
    Fn prog w T 1 (.ref f) [.int r, .str text] (.int (lawBack r text)) :=
  Fn.def ["sign", "turn"] hT D rfl (by decide) (by subst hst; decide +kernel) (by decide +kernel) (by subst hst; rfl) (by subst hst; rfl) (by subst hst; rfl) fun C g F => StP.mono (back_body hst F.top hrange hord r text ht) fun fl ρ g h => .inl h

/-! `_law_counts` -/
noncomputable def stepsN (a w : Nat) : Nat → Nat
  | 0 => a
  | n + 1 => crcOf (stepsN a w n) w
noncomputable def backN (b w : Nat) : Nat → Nat
  | 0 => b
  | n + 1 => lawBack (backN b w n) [w, w, w, w]
noncomputable def hits (a b w f : Nat) : List Nat := (List.range 4).filterMap fun k => if stepsN a w k = b then some (k + 4 * f) else none
noncomputable def countsN (a b w : Nat) : Nat → List Nat
  | 0 => hits a b w 0
  | n + 1 => countsN a b w n ++ hits a (backN b w (n + 1)) w (n + 1)
noncomputable abbrev lawCounts (a b w : Nat) : List Nat := countsN a b w 3
noncomputable abbrev pvInts (l : List Nat) : List PV := l.map fun (n : Nat) => PV.int (n : Int)
noncomputable def steps4 (a w : Nat) : List PV := (List.range 4).map fun j => PV.int (stepsN a w j : Int)
theorem hits_len (a b w f : Nat) : (hits a b w f).length ≤ 4 := Nat.le_trans (List.length_filterMap_le _ _) (by simp)
theorem countsN_len (a b w : Nat) : ∀ n, (countsN a b w n).length ≤ 4 * (n + 1)
  | 0 => hits_len ..
  | n + 1 => by
    have h1 := countsN_len a b w n
    have h2 := hits_len a (backN b w (n + 1)) w (n + 1)
    rw [countsN, List.length_append]; omega

noncomputable def hitF (a b w f : Nat) : PV → Option PV
  | .int i => if stepsN a w i.toNat = b then some (.int ((i.toNat + 4 * f : Nat) : Int)) else none
  | _ => none
theorem hitF_eq (a b w f : Nat) : (rangeItems 0 1 4).filterMap (hitF a b w f) = pvInts (hits a b w f) := by
  rw [rangeN_eq, pvInts, hits, List.filterMap_map, List.map_filterMap]
  congr 1
  funext k
  show (if stepsN a w (Int.toNat (k : Int)) = b then some _ else none) = _
  rw [Int.toNat_natCast]
  split <;> rfl

set_option maxHeartbeats 1000000 in
theorem counts_body (hst : st = stmtAt theProg 9) (F : TopAt C prog w T d (stmtScope st)) (hz : ∀ x, ¬ C.Z x) (hrange : TG T "range" (.type "range")) (hord : TG T "ord" (.builtin "ord")) {fCrc fBack : Addr} (crc : PureAt prog w T 1 "_gen_crc" fCrc) (crcFn : ∀ r : Nat, Fn prog w T 1 (.ref fCrc) [.int r] (.int (genCrc r)))
    (back : PureAt prog w T 1 "_law_back" fBack) (backFn : ∀ (r : Nat) (text : List Nat), text.length ≤ 4096 → Fn prog w T 1 (.ref fBack) [.int r, .str text] (.int (lawBack r text))) (hd : 1 ≤ d) (a b wc : Nat) :
    St C [en "ahead" (.val (.int a)), en "behind" (.val (.int b)), en "white" (.val (.str [wc])), en "steps" .undef, en "turn" .undef, en "counts" .undef, en "fours" .undef] g (stmtBody st) (fun fl _ _ => fl = .ret (.list (pvInts (lawCounts a b wc)))) := by
  have hC := F.ok
  have gr := F.glob hrange (by subst hst; rfl)
  have go := F.glob hord (by subst hst; rfl)
  have hkind : ∀ x, (stmtScope st).names.lookup x = some .cell → C.env.kindOf x = some .cell := fun x h => by show C.env.scope.names.lookup x = _; rw [F.scope]; exact h
  have hcell : C.env.kindOf (Str.ofString "behind") = some .cell ∧ C.env.kindOf (Str.ofString "steps") = some .cell ∧ C.env.kindOf (Str.ofString "fours") = some .cell := by subst hst; exact ⟨hkind _ rfl, hkind _ rfl, hkind _ rfl⟩
  have hloc : C.env.kindOf (Str.ofString "counts") = some .local := by show C.env.scope.names.lookup _ = _; rw [F.scope]; subst hst; rfl
  have hint : interactive C.env = false := by unfold interactive; rw [F.scope]; subst hst; rfl
  have hcC : (stmtScope st).names.lookup (Str.ofString "_gen_crc") = some .globalImplicit := by subst hst; rfl
  have hcB : (stmtScope st).names.lookup (Str.ofString "_law_back") = some .globalImplicit := by subst hst; rfl
  have hsc := F.scope
  subst hst
  refine St.cons (St1.assignOwn hC (EvL.cons hC (by walk_at "m_ev") EvL.nil) (by simp) (by walk_at "m_put") ?_)
  refine St.cons (St1.for hC (EvIt.range1 hC gr (EvL.cons hC Ev.int EvL.nil) (by decide) (by decide)) (fun i ρ _ => ρ = [en "ahead" (.val (.int a)), en "behind" (.val (.int b)), en "white" (.val (.str [wc])), en "steps" (.own ((List.range (i + 1)).map fun j => PV.int (stepsN a wc j : Int))), en "turn" .undef, en "counts" .undef, en "fours" .undef]) rfl ?_ ?_)
  · rintro i p ρ₁ g₂ hp rfl
    obtain ⟨hi, rfl⟩ := rangeN_get hp
    have hi' : i < 3 := hi
    refine ⟨_, Binds.name (by walk_at "m_put"), ?_⟩
    refine St.one (St1.append hC (by walk_at "m_mem") (F.call crc hcC (EvL.cons hC (Ev.bin hC (Ev.lastOwn (r := .int (stepsN a wc i : Int)) hC (by walk_at "m_mem") (Ev.neg hC Ev.int) (by simp; omega) (by rw [List.range_succ, List.map_append]; simp)) (Ev.callB hC go (EvL.cons hC (by walk_at "m_ev") EvL.nil) call_ord) op_xorN) EvL.nil) (crcFn _) hd) (by simp; omega) (by walk_at "m_put") ⟨_, ?_, rfl⟩ hint)
    walk_at "m_weak"
    rw [List.range_succ (n := i + 1), List.map_append]; rfl
  rintro ρ₁ g₂ rfl
  rw [show (rangeItems 0 1 (Int.toNat 3)).length = 3 from rangeItems_length]
  rw [show ((List.range (3 + 1)).map fun (j : Nat) => PV.int (stepsN a wc j : Int)) = steps4 a wc from rfl]
  refine St.freeze hC (by walk_at "m_mem") (x := Str.ofString "steps") (by walk_at "m_put") ?_
  have hstep : ∀ {C : Cx} {ρ : Env'} {g : C.G} {p1 p2 p3 p4 p5 : Pos} {i bb : Nat}, C.Ok → (Str.ofString "steps", LV.ro (.list (steps4 a wc))) ∈ ρ → (Str.ofString "k", LV.val (.int (i : Int))) ∈ ρ → (Str.ofString "behind", LV.ro (.int (bb : Int))) ∈ ρ → i < 4 →
      EvB C ρ g (.Compare (.Subscript (.Name "steps" p1) (.Name "k" p2) p3) [.Eq] [.Name "behind" p4] p5) (decide (stepsN a wc i = bb)) g := fun hC h1 h2 h3 hi =>
    EvB.cmp hC (Ev.sub hC (Ev.nameRo hC h1) (Ev.name hC h2) (item_list (r := .int (stepsN a wc _ : Int)) (by omega) (by omega) (by simp [steps4, hi]))) (Ev.nameRo hC h3) op_eqN
  have hok1 : ∀ {ρ : Env'} {bb : Nat} {pos : Pos}, (Str.ofString "behind", LV.val (.int (bb : Int))) ∈ ρ → (Str.ofString "steps", LV.val (.list (steps4 a wc))) ∈ ρ →
      CompOk C { kind := .function, names := [(Str.ofString ".0", .local), (Str.ofString "k", .local), (Str.ofString "behind", .free), (Str.ofString "steps", .free)], isGenerator := false, isCoroutine := false, more := [] } (.Name "k" pos) ρ
        [en "k" .undef, en "behind" (.ro (.int (bb : Int))), en "steps" (.ro (.list (steps4 a wc)))] := fun h1 h2 => {
    kind := rfl
    nocell := by decide +kernel
    locals := by decide +kernel
    frees := fun n hn => by
      have key : n = Str.ofString "behind" ∨ n = Str.ofString "steps" := by simpa using hn
      rcases key with rfl | rfl
      · exact ⟨hcell.1, _, h1⟩
      · exact ⟨hcell.2.1, _, h2⟩
    env := .tgt rfl (.free rfl h1 (.free rfl h2 .nil))
    nodup := by show (["k", "behind", "steps"] : List Str).Nodup; decide
    notDebug := by show ∀ x ∈ (["k", "behind", "steps"] : List Str), _; decide
    targets := by show ∀ x ∈ (["k"] : List Str), _; decide +kernel
    nz := hz }
  have hok2 : ∀ {ρ : Env'} {bb ff : Nat} {pos : Pos}, (Str.ofString "behind", LV.val (.int (bb : Int))) ∈ ρ → (Str.ofString "fours", LV.val (.int (ff : Int))) ∈ ρ → (Str.ofString "steps", LV.val (.list (steps4 a wc))) ∈ ρ →
      CompOk C { kind := .function, names := [(Str.ofString ".0", .local), (Str.ofString "k", .local), (Str.ofString "behind", .free), (Str.ofString "fours", .free), (Str.ofString "steps", .free)], isGenerator := false, isCoroutine := false, more := [] } (.Name "k" pos) ρ
        [en "k" .undef, en "behind" (.ro (.int (bb : Int))), en "fours" (.ro (.int (ff : Int))), en "steps" (.ro (.list (steps4 a wc)))] := fun h1 h3 h2 => {
    kind := rfl
    nocell := by decide +kernel
    locals := by decide +kernel
    frees := fun n hn => by
      have key : n = Str.ofString "behind" ∨ n = Str.ofString "fours" ∨ n = Str.ofString "steps" := by simpa using hn
      rcases key with rfl | rfl | rfl
      · exact ⟨hcell.1, _, h1⟩
      · exact ⟨hcell.2.2, _, h3⟩
      · exact ⟨hcell.2.1, _, h2⟩
    env := .tgt rfl (.free rfl h1 (.free rfl h3 (.free rfl h2 .nil)))
    nodup := by show (["k", "behind", "fours", "steps"] : List Str).Nodup; decide
    notDebug := by show ∀ x ∈ (["k", "behind", "fours", "steps"] : List Str), _; decide
    targets := by show ∀ x ∈ (["k"] : List Str), _; decide +kernel
    nz := hz }
  have hmem : ∀ p ∈ rangeItems 0 1 (Int.toNat 4), ∃ i : Nat, i < 4 ∧ p = .int (i : Int) := fun p hp => by
    rw [rangeN_eq] at hp
    obtain ⟨i, hi, rfl⟩ := List.mem_map.mp hp
    exact ⟨i, List.mem_range.mp hi, rfl⟩
  have hyes : ∀ {i bb ff : Nat}, decide (stepsN a wc i = bb) = true → hitF a bb wc ff (.int (i : Int)) = some (.int ((i + 4 * ff : Nat) : Int)) := fun {i bb ff} h => by
    have h' : stepsN a wc i = bb := of_decide_eq_true h
    show (if stepsN a wc (Int.toNat (i : Int)) = bb then some (PV.int ((Int.toNat (i : Int) + 4 * ff : Nat) : Int)) else none) = _
    rw [Int.toNat_natCast, if_pos h']
  have hno : ∀ {i bb ff : Nat}, decide (stepsN a wc i = bb) = false → hitF a bb wc ff (.int (i : Int)) = none := fun {i bb ff} h => by
    have h' : ¬ stepsN a wc i = bb := of_decide_eq_false h
    show (if stepsN a wc (Int.toNat (i : Int)) = bb then some (PV.int ((Int.toNat (i : Int) + 4 * ff : Nat) : Int)) else none) = _
    rw [Int.toNat_natCast, if_neg h']
  refine St.cons (St1.assignComp (f := hitF a b wc 0) hC (hok1 (bb := b) (by walk_at "m_mem") (by walk_at "m_mem")) (EvIt.range1 hC gr (EvL.cons hC Ev.int EvL.nil) (by decide) (by decide)) (by rw [rangeItems_length]; decide) (fun p hp L hCc => ?_) (by walk_at "m_put") ?_ hloc (scope_of hsc fun e => rfl))
  · obtain ⟨i, hi, rfl⟩ := hmem p hp
    exact ⟨_, Binds.name (by walk_at "m_put"), by walk_at "m_weak", _, .inr ⟨_, rfl, hstep hCc (by walk_at "m_mem") (by walk_at "m_mem") (by walk_at "m_mem") hi⟩, fun hb => ⟨_, hyes hb, Ev.name hCc (by exact List.mem_cons_self)⟩, fun hb => hno hb⟩
  rw [show (rangeItems 0 1 (Int.toNat 4)).filterMap (hitF a b wc 0) = pvInts (hits a b wc 0) from hitF_eq a b wc 0]
  refine St.cons (St1.for hC (EvIt.range2 hC gr (EvL.cons hC Ev.int (EvL.cons hC Ev.int EvL.nil)) (by decide) (by decide) (by decide) (by decide)) (fun i ρ _ => ρ = [en "ahead" (.val (.int a)), en "behind" (.val (.int (backN b wc i : Int))), en "white" (.val (.str [wc])), en "steps" (.val (.list (steps4 a wc))), en "turn" .undef, en "counts" (.val (.list (pvInts (countsN a b wc i)))), en "fours" .undef]) rfl ?_ ?_)
  · rintro i p ρ₁ g₃ hp rfl
    obtain ⟨hi, rfl⟩ := rangeItems_get hp
    have hi' : i < 3 := hi
    have e1 : (1 : Int) + (i : Int) * 1 = ((i + 1 : Nat) : Int) := by omega
    rw [e1]
    refine ⟨_, Binds.name (by walk_at "m_put"), ?_⟩
    refine St.cons (St1.assign hC (v := .int (backN b wc (i + 1) : Int)) (F.call back hcB (EvL.cons hC (by walk_at "m_ev") (EvL.cons hC (Ev.bin hC (by walk_at "m_ev") Ev.int (show Op2 C (binaryOp .Mult) (.str [wc]) (.int 4) (.str [wc, wc, wc, wc]) from op_mulStr (by decide) (by simp) (by decide))) EvL.nil)) (backFn (backN b wc i) [wc, wc, wc, wc] (by simp)) hd) (by walk_at "m_put") ?_)
    refine St.one (St1.assign hC (Ev.bin hC (by walk_at "m_ev") (Ev.comp (f := hitF a (backN b wc (i + 1)) wc (i + 1)) hC (hok2 (bb := backN b wc (i + 1)) (ff := i + 1) (by walk_at "m_mem") (by walk_at "m_mem") (by walk_at "m_mem")) (EvIt.range1 hC gr (EvL.cons hC Ev.int EvL.nil) (by decide) (by decide)) (by rw [rangeItems_length]; decide) (fun p hp L hCc => ?_)) (op_catList ?_)) (by walk_at "m_put") ⟨_, ?_, rfl⟩)
    · obtain ⟨k, hk, rfl⟩ := hmem p hp
      refine ⟨_, Binds.name (by walk_at "m_put"), by walk_at "m_weak", _, .inr ⟨_, rfl, hstep hCc (by walk_at "m_mem") (by walk_at "m_mem") (by walk_at "m_mem") hk⟩, fun hb => ⟨_, hyes hb, ?_⟩, fun hb => hno hb⟩
      rw [Nat.add_comm k]
      exact Ev.bin hCc (Ev.bin hCc Ev.int (Ev.nameRo hCc (by walk_at "m_mem")) (op_mulN (a := 4) (by decide))) (Ev.name hCc (by walk_at "m_mem")) op_addN
    · rw [show (rangeItems 0 1 (Int.toNat 4)).filterMap (hitF a (backN b wc (i + 1)) wc (i + 1)) = pvInts (hits a (backN b wc (i + 1)) wc (i + 1)) from hitF_eq ..]
      have h1 := countsN_len a b wc i
      have h2 := hits_len a (backN b wc (i + 1)) wc (i + 1)
      rw [List.length_map, List.length_map]; omega
    · walk_at "m_weak"
      rw [show (rangeItems 0 1 (Int.toNat 4)).filterMap (hitF a (backN b wc (i + 1)) wc (i + 1)) = pvInts (hits a (backN b wc (i + 1)) wc (i + 1)) from hitF_eq ..]
      rw [countsN, pvInts, pvInts, pvInts, List.map_append]
  · rintro ρ₁ g₃ rfl
    exact St.one (St1.ret hC (by walk_at "m_ev") (by rw [rangeItems_length]; rfl))

theorem counts_fn {f : Addr} {o : Obj} {fd : FuncData} (hT : ∀ h h' : Heap, T h → (∀ b o, h.get? b = some o → h'.get? b = some o) → T h') (hst : st = stmtAt theProg 9) (D : DefAt T st ["ahead", "behind", "white"] f o fd) (hrange : TG T "range" (.type "range")) (hord : TG T "ord" (.builtin "ord")) {fCrc fBack : Addr} (crc : PureAt prog w T 1 "_gen_crc" fCrc) (crcFn : ∀ r : Nat, Fn prog w T 1 (.ref fCrc) [.int r] (.int (genCrc r)))
    (back : PureAt prog w T 1 "_law_back" fBack) (backFn : ∀ (r : Nat) (text : List Nat), text.length ≤ 4096 → Fn prog w T 1 (.ref fBack) [.int r, .str text] (.int (lawBack r text))) (a b wc : Nat) :
    Fn prog w T 2 (.ref f) [.int a, .int b, .str [wc]] (.list (pvInts (lawCounts a b wc))) :=
  Fn.def ["steps", "turn", "counts", "fours"] hT D rfl (by decide) (by subst hst; decide +kernel) (by decide +kernel) (by subst hst; rfl) (by subst hst; rfl) (by subst hst; rfl) fun C g F => StP.mono (counts_body hst F.top F.z hrange hord crc crcFn back backFn (Nat.le_refl _) a b wc) fun fl ρ g h => .inl h
end
end Mine
end

section
namespace Mine
open PySem PySem.Calls PyProof.Rows PySem.W

section
variable {C : Cx} {ρ ρ' : Env'} {g g₁ g₂ : C.G} {prog : Program} {w : World} {T : Heap → Prop} {d : Nat}

/-- a call of a def that turns the world -/
theorem Ev.callFW (hC : C.Ok) {x : Str} {np pos : Pos} {a : Addr} {es : List Expr} {ps : List PV} {r : PV} {dd : Nat} (hg : GlobIs C x (.ref a)) (hf : ∃ o fd, o.data = .func fd ∧ ∀ h, C.T h → h.get? a = some o) (h : EvL C ρ g es ps g₁)
    (ho : FnW C.prog C.w C.T C.wd dd (.ref a) g₁ ps r g₂) (hd : dd ≤ C.d) (hn : (backTo pos (starEach es C.env)).any (·.1) = false := by rfl) : Ev C ρ g (.Call (.Name x np) es [] pos) r g₂ := fun O s I => by
  obtain ⟨o, fd, e1, e2⟩ := hf
  refine wpAny_Call_NameR (eval_glob hC hg I (callWith_function (o := o) (fd := fd) (evalArgs_any hn (wpAny_mono (h O s pos I) (fun us s₁ ⟨r1, st⟩ => ?_) fun _ _ x => x))))
  have I1 := I.step hC st
  refine ⟨⟨e2 _ (I1.top hC), e1⟩, ?_⟩
  refine wpAny_mono (ho.wp C.A (avoid C O) s₁ us (Ok.room hC hd) (I1.top hC) (fun x e => (I1.new hC e).2.2.2) (fun a m => .inl (hC.mx a m)) I1.world r1) (fun z s₃ ⟨r3, k1, k2, k3⟩ => ?_) fun _ _ x => x
  exact ⟨r3, st.trans ⟨k1, k2, k3⟩⟩

theorem TopAt.comp {sc scope : Scope} {L : Addr} {names : List Str} (F : TopAt C prog w T d sc) (hCc : (C.comp scope L names).Ok) : TopAt (C.comp scope L names) prog w T d (relabel scope C.env) :=
  ⟨hCc, F.prog, F.w, F.sub, F.d, rfl, F.globals, F.builtins⟩
theorem relabel_glob {scope : Scope} {env : Env} {x : Str} (h : scope.names.lookup x = some .globalImplicit) : (relabel scope env).names.lookup x = some .globalImplicit := lookup_relabel (f := fun _ _ => True) h (by decide)

theorem plains_of : ∀ {ps : List PV}, (∀ p ∈ ps, p.plain = true) → PV.plains ps = true
  | [], _ => rfl
  | p :: ps, h => by rw [PV.plains, h p List.mem_cons_self, plains_of fun q hq => h q (List.mem_cons_of_mem _ hq)]; rfl
theorem depths_of : ∀ {ps : List PV} {n : Nat}, (∀ p ∈ ps, p.data.depth ≤ n) → PyData.depthAll (PV.datas ps) ≤ n
  | [], _, _ => by simp [PV.datas, PyData.depthAll]
  | p :: ps, n, h => by
    rw [PV.datas]
    simp only [PyData.depthAll]
    have h1 := h p List.mem_cons_self
    have h2 := depths_of (ps := ps) fun q hq => h q (List.mem_cons_of_mem _ hq)
    omega
theorem ent_plain {t : List Nat} {a b : Int} (h : ∀ c ∈ t, c < 0x110000) : (PV.tup [.str t, .int a, .int b]).plain = true ∧ (PV.tup [.str t, .int a, .int b]).data.depth ≤ 2 := by
  refine ⟨?_, ?_⟩
  · rw [PV.plain, PV.plains, PV.plains, PV.plains, PV.plains, PV.plain, PV.plain, PV.plain]
    simp only [Bool.and_true]
    exact List.all_eq_true.mpr fun c hc => by simpa using h c hc
  · simp [PV.data, PV.datas, PyData.depth, PyData.depthAll]
theorem list_plain {ps : List PV} {n : Nat} (h : ∀ p ∈ ps, p.plain = true ∧ p.data.depth ≤ n) : (PV.list ps).plain = true ∧ (PV.list ps).data.depth ≤ n + 1 := by
  refine ⟨by rw [PV.plain]; exact plains_of fun p hp => (h p hp).1, ?_⟩
  have := depths_of (ps := ps) (n := n) fun p hp => (h p hp).2
  rw [PV.data]
  simp only [PyData.depth]
  omega
theorem pvInts_plain (l : List Nat) : (PV.list (pvInts l)).plain = true ∧ (PV.list (pvInts l)).data.depth ≤ 2 := list_plain fun p hp => by
  obtain ⟨n, _, rfl⟩ := List.mem_map.mp hp
  exact ⟨rfl, by simp [PV.data, PyData.depth]⟩
end

/-! the plain law -/
structure Dr where
  d0 : Nat
  d1 : Nat
  d2 : Nat
  d3 : Nat
noncomputable def ws4 : List Nat := [32, 9, 13, 10]
namespace Dr
variable (D : Dr)
noncomputable def at1 : Nat → Nat
  | 0 => D.d1
  | 1 => D.d2
  | _ => D.d3
noncomputable def first : Nat := D.d0 % 4
noncomputable def step : Nat := D.d0 / 4 % 4
noncomputable def fin : Nat := D.d0 / 16 % 3
noncomputable def kind (i : Nat) : Nat := ws4.getD ((D.first + i * D.step) % 4) 0
noncomputable def count (i : Nat) : Nat := if i < 3 then D.at1 i % 16 else if D.fin = 0 then D.d0 / 48 % 16 else 0
noncomputable def word (i : Nat) : List Nat := lawWord (D.at1 i / 16)
noncomputable def wr0 (i : Nat) : List Nat := lawWritten (D.word i) (D.at1 i / 12582912 % 4) [D.kind (i + 1)]
noncomputable def last : List Nat := if D.fin = 0 then D.wr0 2 else (D.wr0 2).dropLast ++ List.replicate (D.fin - 1) 92
noncomputable def wr : Nat → List Nat
  | 0 => D.wr0 0
  | 1 => D.wr0 1
  | 2 => D.last
  | _ => []
noncomputable def part (i : Nat) : List Nat := List.replicate (D.count i) (D.kind i) ++ D.wr i
noncomputable def words : List (List Nat) := [D.word 0, D.word 1, D.word 2]
noncomputable def parts : List (List Nat) := [D.part 0, D.part 1, D.part 2, D.part 3]
noncomputable def text : List Nat := D.parts.flatten
noncomputable def passed (i : Nat) : List Nat := (D.parts.take (i + 1)).flatten
noncomputable def lines (i : Nat) : Nat := 1 + ((D.passed i).filter (· == 10)).length
noncomputable def due1 (i : Nat) : PV := .tup [.str ((D.words ++ [[]]).getD i []), .int (D.passed i).length, .int (D.lines i)]
noncomputable def dueA : Nat → List PV
  | 0 => []
  | n + 1 => dueA n ++ [D.due1 n, D.due1 n]
noncomputable def due : List PV := D.dueA 4 ++ (D.words ++ [[]]).map fun w => PV.tup [.str w, .int (D.passed 3).length, .int (D.lines 3)]
end Dr
noncomputable def callsL (text : List Nat) (words : List (List Nat)) : List PV := callsA text (words.length + 1) ++ words.map (ent · (lexRun text (words.length + 1))) ++ [ent (tokAt text (lexRun text (words.length + 1))) (lexRun text (words.length + 2))]
/-- what is to be shown of the lexer and the sums -/
structure Dr.Holds (D : Dr) : Prop where
  due : callsL D.text D.words = D.due
  counts : ∀ i, i < 4 → lawCounts (lexRun D.text i).reg (lawBack (lexRun D.text (i + 1)).reg (D.wr i)) (D.kind i) = if crcOf (lexRun D.text i).reg (D.kind i) = (lexRun D.text i).reg then List.range 16 else [D.count i]

noncomputable def drawnF : PV → Option PV
  | .int x => some (.int ((x % 100000000).toNat : Int))
  | _ => none
noncomputable abbrev dflt : List PV := [.int 183, .int 35021410, .int 0, .int 37749429]
structure Dr.Ok (D : Dr) : Prop where
  b0 : D.d0 < 100000000
  b1 : D.d1 < 100000000
  b2 : D.d2 < 100000000
  b3 : D.d3 < 100000000
theorem drawn_is (script : List Int) : ∃ D : Dr, D.Ok ∧ (pySlice (script.map PV.int) none (some 4)).filterMap drawnF ++ pySlice dflt (some (((pySlice (script.map PV.int) none (some 4)).filterMap drawnF).length : Int)) none = [.int D.d0, .int D.d1, .int D.d2, .int D.d3] := by
  have lt : ∀ x : Int, (x % 100000000).toNat < 100000000 := fun x => by omega
  have l0 : 183 < 100000000 := by decide
  have l1 : 35021410 < 100000000 := by decide
  have l2 : 0 < 100000000 := by decide
  have l3 : 37749429 < 100000000 := by decide
  match script with
  | [] => exact ⟨⟨183, 35021410, 0, 37749429⟩, ⟨l0, l1, l2, l3⟩, rfl⟩
  | [a] => exact ⟨⟨(a % 100000000).toNat, 35021410, 0, 37749429⟩, ⟨lt a, l1, l2, l3⟩, rfl⟩
  | [a, b] => exact ⟨⟨(a % 100000000).toNat, (b % 100000000).toNat, 0, 37749429⟩, ⟨lt a, lt b, l2, l3⟩, rfl⟩
  | [a, b, c] => exact ⟨⟨(a % 100000000).toNat, (b % 100000000).toNat, (c % 100000000).toNat, 37749429⟩, ⟨lt a, lt b, lt c, l3⟩, rfl⟩
  | a :: b :: c :: d :: r =>
    refine ⟨⟨(a % 100000000).toNat, (b % 100000000).toNat, (c % 100000000).toNat, (d % 100000000).toNat⟩, ⟨lt a, lt b, lt c, lt d⟩, ?_⟩
    have e : pySlice ((a :: b :: c :: d :: r).map PV.int) none (some 4) = [.int a, .int b, .int c, .int d] := by
      unfold pySlice clipTo
      simp only [List.map_cons, List.length_cons, List.length_map]
      rw [if_neg (by decide)]
      have e1 : (max 0 (min (4 : Int) ((r.length + 1 + 1 + 1 + 1 : Nat) : Int)) - 0).toNat = 4 := by omega
      rw [e1]; rfl
    rw [e]; rfl
end Mine
end

section
namespace Mine
open PySem PySem.Calls PyProof.Rows PySem.W

theorem comp_env {scope : Scope} {ρ : Env'} : ∀ {tg : List Str} {fr : List (Str × PV)}, (∀ x ∈ tg, scope.names.lookup x = some .local) → (∀ y ∈ fr, scope.names.lookup y.1 = some .free ∧ (y.1, LV.val y.2) ∈ ρ) →
    CompEnv scope ρ (tg.map (·, LV.undef) ++ fr.map fun y => (y.1, LV.ro y.2))
  | [], [], _, _ => .nil
  | [], y :: fr, h1, h2 => .free (h2 y List.mem_cons_self).1 (h2 y List.mem_cons_self).2 (comp_env (tg := []) h1 fun z hz => h2 z (List.mem_cons_of_mem _ hz))
  | x :: tg, fr, h1, h2 => .tgt (h1 x List.mem_cons_self) (comp_env (tg := tg) (fun z hz => h1 z (List.mem_cons_of_mem _ hz)) h2)

theorem CompOk.of {C : Cx} {scope : Scope} {t : Expr} {ρ : Env'} (tg : List Str) (frn : List Str) (fr : List (Str × PV)) (hfn : fr.map (·.1) = frn) (nz : ∀ x, ¬ C.Z x) (hk : scope.kind = .function) (ht : targetNames t = tg)
    (h1 : (scope.names.all fun y => y.2 != .cell && (y.2 != .local || scope.names.lookup y.1 == some .local) && (y.2 != .free || frn.contains y.1)) = true)
    (h2 : ((tg.all fun x => scope.names.lookup x == some .local) && (frn.all fun x => scope.names.lookup x == some .free)) = true)
    (h3 : ((tg ++ frn).all fun x => !(x == ("__debug__" : Str)) && !(x == ("__classdict__" : Str))) = true) (h4 : (tg ++ frn).Nodup)
    (hfr : ∀ y ∈ fr, C.env.kindOf y.1 = some .cell ∧ (y.1, LV.val y.2) ∈ ρ) : CompOk C scope t ρ (tg.map (·, LV.undef) ++ fr.map fun y => (y.1, LV.ro y.2)) := by
  have hnm : (tg.map (·, LV.undef) ++ fr.map fun y => (y.1, LV.ro y.2)).map (·.1) = tg ++ frn := by
    rw [List.map_append, List.map_map, List.map_map, ← hfn]
    congr 1
    exact List.map_id _
  rw [Bool.and_eq_true] at h2
  have hfree : ∀ y ∈ fr, scope.names.lookup y.1 = some .free := fun y hy => by
    have := List.all_eq_true.mp h2.2 y.1 (by rw [← hfn]; exact List.mem_map_of_mem hy)
    simpa using this
  have htg : ∀ x ∈ tg, scope.names.lookup x = some .local := fun x hx => by simpa using List.all_eq_true.mp h2.1 x hx
  exact {
    kind := hk
    nocell := fun y hy => by
      have := List.all_eq_true.mp h1 y hy
      simp only [Bool.and_eq_true] at this
      simpa using this.1.1
    locals := fun y hy hl => by
      have := List.all_eq_true.mp h1 y hy
      simp only [Bool.and_eq_true] at this
      have q := this.1.2
      rw [hl] at q
      simpa using q
    frees := fun n hn => by
      have := List.all_eq_true.mp h1 _ hn
      simp only [Bool.and_eq_true] at this
      have q := this.2
      have q' : n ∈ frn := by simpa using q
      rw [← hfn] at q'
      obtain ⟨y, hy, rfl⟩ := List.mem_map.mp q'
      exact ⟨(hfr y hy).1, _, (hfr y hy).2⟩
    env := comp_env htg fun y hy => ⟨hfree y hy, (hfr y hy).2⟩
    nodup := by rw [hnm]; exact h4
    notDebug := fun x hx => by
      rw [hnm] at hx
      have := List.all_eq_true.mp h3 x hx
      simpa using this
    targets := fun x hx => htg x (by rw [← ht]; exact hx)
    nz := nz }

/-- what the law calls -/
structure LawTop (prog : Program) (w : World) (T : Heap → Prop) (fCrc fWord fWritten fBack fCounts : Addr) : Prop where
  len : TG T "len" (.builtin "len")
  ord : TG T "ord" (.builtin "ord")
  range : TG T "range" (.type "range")
  list : TG T "list" (.type "list")
  isi : TG T "isinstance" (.builtin "isinstance")
  int : TG T "int" (.type "int")
  bool : TG T "bool" (.type "bool")
  crc : PureAt prog w T 1 "_gen_crc" fCrc
  crcFn : ∀ r : Nat, Fn prog w T 1 (.ref fCrc) [.int r] (.int (genCrc r))
  word : PureAt prog w T 1 "_law_word" fWord
  wordFn : ∀ n : Nat, Fn prog w T 1 (.ref fWord) [.int n] (.str (lawWord n))
  written : PureAt prog w T 1 "_law_written" fWritten
  writtenFn : ∀ (x : List Nat) (m : Nat) (wh : List Nat), x.length ≤ 100 → wh.length ≤ 100 → Fn prog w T 1 (.ref fWritten) [.str x, .int m, .str wh] (.str (lawWritten x m wh))
  back : PureAt prog w T 1 "_law_back" fBack
  backFn : ∀ (r : Nat) (text : List Nat), text.length ≤ 4096 → Fn prog w T 1 (.ref fBack) [.int r, .str text] (.int (lawBack r text))
  counts : PureAt prog w T 2 "_law_counts" fCounts
  countsFn : ∀ a b wc : Nat, Fn prog w T 2 (.ref fCounts) [.int a, .int b, .str [wc]] (.list (pvInts (lawCounts a b wc)))

noncomputable abbrev lawEnv (script drawn first step fin i kinds counts words written last parts calls marks due passed lines odd told still : LV) : Env' :=
  [en "script" script, en "drawn" drawn, en "first" first, en "step" step, en "end" fin, en "i" i, en "kinds" kinds, en "counts" counts, en "words" words, en "written" written, en "last" last, en "parts" parts, en "calls" calls, en "marks" marks, en "due" due, en "passed" passed, en "lines" lines, en "odd" odd, en "told" told, en "still" still]

namespace Dr
variable (D : Dr)
noncomputable def drawnP : List PV := [.int D.d0, .int D.d1, .int D.d2, .int D.d3]
noncomputable def kindsP : List PV := [.str [D.kind 0], .str [D.kind 1], .str [D.kind 2], .str [D.kind 3]]
noncomputable def countsP : List PV := [.int (D.count 0), .int (D.count 1), .int (D.count 2), .int (D.count 3)]
end Dr
end Mine
end

section
namespace Mine
open PySem PySem.Calls PyProof.Rows PySem.W

theorem three {i : Nat} (h : i < 3) : i = 0 ∨ i = 1 ∨ i = 2 := by omega
theorem four {i : Nat} (h : i < 4) : i = 0 ∨ i = 1 ∨ i = 2 ∨ i = 3 := by omega
theorem range_mem {n : Nat} {p : PV} (h : p ∈ rangeItems 0 1 n) : ∃ i : Nat, i < n ∧ p = .int (i : Int) := by
  rw [rangeN_eq] at h
  obtain ⟨i, hi, rfl⟩ := List.mem_map.mp h
  exact ⟨i, List.mem_range.mp hi, rfl⟩

theorem slice_init {α : Type} (x : List α) : pySlice x none (some (-1)) = x.dropLast := by
  unfold pySlice clipTo
  simp only
  rw [if_pos (by decide), List.dropLast_eq_take]
  have e : (max 0 (min (-1 + (x.length : Int)) (x.length : Int)) - 0).toNat = x.length - 1 := by rw [Int.min_eq_left (by omega), Int.sub_zero]; omega
  rw [e]; rfl
theorem rep_one (n : Nat) (c : Nat) : (List.replicate n [c]).flatten = List.replicate n c := by
  induction n with
  | zero => rfl
  | succ n ih => rw [List.replicate_succ, List.flatten_cons, ih, List.replicate_succ]; rfl

theorem lawWord_len (n : Nat) : (lawWord n).length ≤ 2 := by unfold lawWord; rw [List.length_map, List.length_range]; omega
theorem lawWritten_len (x : List Nat) (m : Nat) (wh : List Nat) : (lawWritten x m wh).length ≤ 2 * x.length + wh.length + 2 := by
  have := bodyW_len (word := x) (m := m) x.length
  unfold lawWritten
  split <;> simp <;> omega

namespace Dr
variable (D : Dr)
noncomputable def wordsP : List PV := [.str (D.word 0), .str (D.word 1), .str (D.word 2)]
noncomputable def wr0P : List PV := [.str (D.wr0 0), .str (D.wr0 1), .str (D.wr0 2)]
noncomputable def wrP : List PV := [.str (D.wr 0), .str (D.wr 1), .str (D.wr 2), .str (D.wr 3)]
noncomputable def partsP : List PV := [.str (D.part 0), .str (D.part 1), .str (D.part 2), .str (D.part 3)]
noncomputable def kindF : PV → Option PV
  | .int i => some (.str [D.kind i.toNat])
  | _ => none
noncomputable def wr0F : PV → Option PV
  | .int i => some (.str (D.wr0 i.toNat))
  | _ => none
noncomputable def partF : PV → Option PV
  | .int i => some (.str (D.part i.toNat))
  | _ => none
end Dr
noncomputable def modF : PV → Option PV
  | .int i => some (.int ((i.toNat % 16 : Nat) : Int))
  | _ => none
noncomputable def wordF : PV → Option PV
  | .int i => some (.str (lawWord (i.toNat / 16)))
  | _ => none

section
variable {C : Cx} {g : C.G} {prog : Program} {w : World} {T : Heap → Prop} {d : Nat} {st : Stmt} {rest : List Stmt} {P : Fl → Env' → C.G → Prop} {fCrc fWord fWritten fBack fCounts : Addr}

theorem wr0_len {D : Dr} {i : Nat} : (D.wr0 i).length ≤ 7 := by
  have h1 := lawWord_len (D.at1 i / 16)
  have h2 := lawWritten_len (D.word i) (D.at1 i / 12582912 % 4) [D.kind (i + 1)]
  unfold Dr.wr0
  have h3 : (D.word i).length ≤ 2 := h1
  simp only [List.length_singleton] at h2
  omega
theorem last_len {D : Dr} : D.last.length ≤ 10 := by
  have h1 := wr0_len (D := D) (i := 2)
  unfold Dr.last Dr.fin
  split
  · omega
  · rw [List.length_append, List.length_dropLast, List.length_replicate]; omega
theorem wr_len {D : Dr} {i : Nat} : (D.wr i).length ≤ 10 := by
  match i with
  | 0 => have := wr0_len (D := D) (i := 0); show (D.wr0 0).length ≤ 10; omega
  | 1 => have := wr0_len (D := D) (i := 1); show (D.wr0 1).length ≤ 10; omega
  | 2 => exact last_len
  | n + 3 => exact Nat.zero_le _
theorem count_lt {D : Dr} {i : Nat} : D.count i < 16 := by unfold Dr.count; split <;> (try split) <;> omega
theorem part_len {D : Dr} {i : Nat} : (D.part i).length ≤ 26 := by
  have h1 := wr_len (D := D) (i := i)
  have h2 := count_lt (D := D) (i := i)
  unfold Dr.part
  rw [List.length_append, List.length_replicate]; omega

set_option maxHeartbeats 4000000 in
theorem law_body1 (hst : st = stmtAt theProg 10) (hrr : rest = (stmtBody st).drop 12) (F : TopAt C prog w T d (stmtScope st)) (hz : ∀ x, ¬ C.Z x) (L : LawTop prog w T fCrc fWord fWritten fBack fCounts) (hd : 2 ≤ d) (script : List Int) (hs : script.length ≤ 4096)
    (hrest : ∀ D : Dr, D.Ok → St C (lawEnv (.val (.list (script.map .int))) (.val (.list D.drawnP)) (.val (.int D.first)) (.val (.int D.step)) (.val (.int D.fin)) .undef (.val (.list D.kindsP)) (.val (.list D.countsP)) (.val (.list D.wordsP)) (.val (.list D.wrP)) (.val (.str D.last)) (.val (.list D.partsP)) .undef .undef .undef .undef .undef .undef .undef .undef) g rest P) :
    St C (lawEnv (.val (.list (script.map .int))) .undef .undef .undef .undef .undef .undef .undef .undef .undef .undef .undef .undef .undef .undef .undef .undef .undef .undef .undef) g (stmtBody st) P := by
  have hC := F.ok
  have gr := F.glob L.range (by subst hst; rfl)
  have gl := F.glob L.len (by subst hst; rfl)
  have hkind : ∀ x, (stmtScope st).names.lookup x = some .cell → C.env.kindOf x = some .cell := fun x h => by show C.env.scope.names.lookup x = _; rw [F.scope]; exact h
  have kd : C.env.kindOf (Str.ofString "drawn") = some .cell := hkind _ (by subst hst; rfl)
  have kf : C.env.kindOf (Str.ofString "first") = some .cell := hkind _ (by subst hst; rfl)
  have ks : C.env.kindOf (Str.ofString "step") = some .cell := hkind _ (by subst hst; rfl)
  have kk : C.env.kindOf (Str.ofString "kinds") = some .cell := hkind _ (by subst hst; rfl)
  have kc : C.env.kindOf (Str.ofString "counts") = some .cell := hkind _ (by subst hst; rfl)
  have kw : C.env.kindOf (Str.ofString "words") = some .cell := hkind _ (by subst hst; rfl)
  have kwr : C.env.kindOf (Str.ofString "written") = some .cell := hkind _ (by subst hst; rfl)
  have kparts : C.env.kindOf (Str.ofString "parts") = some .local := by show C.env.scope.names.lookup _ = _; rw [F.scope]; subst hst; rfl
  have hsc := F.scope
  subst hst
  subst hrr
  -- drawn
  refine St.cons (St1.assign hC (Ev.comp (f := drawnF) (ρc := [en "x" .undef]) hC (CompOk.of ["x"] [] [] rfl hz rfl rfl (by decide +kernel) (by decide +kernel) (by decide +kernel) (by decide +kernel) (fun y hy => nomatch hy)) (EvIt.list hC (Ev.sliceList (l := none) (u := some 4) hC (Ev.name hC (p := .list (script.map .int)) (by walk_at "m_mem")) EvO.none (EvO.some Ev.int) (by rw [List.length_map]; exact hs))) ?_ (fun p hp Lc hCc => ?_)) (by walk_at "m_put") ?_ (scope_of hsc fun e => rfl))
  · have := pySlice_length_le (script.map PV.int) none (some 4)
    rw [List.length_map] at this; omega
  · have hp' : p ∈ script.map PV.int := by
      unfold pySlice at hp
      exact List.drop_subset _ _ (List.take_subset _ _ hp)
    obtain ⟨x, _, rfl⟩ := List.mem_map.mp hp'
    refine ⟨_, Binds.name (by walk_at "m_put"), by walk_at "m_weak", true, .inl ⟨rfl, rfl⟩, fun _ => ⟨_, rfl, ?_⟩, fun h => by cases h⟩
    have e : (((x % 100000000).toNat : Nat) : Int) = x.fmod ((10 ^ 8 : Nat) : Int) := by
      rw [show ((10 ^ 8 : Nat) : Int) = 100000000 by decide, Int.fmod_eq_emod_of_nonneg _ (by decide)]
      omega
    rw [e]
    exact Ev.bin hCc (Ev.name hCc (by walk_at "m_mem")) (Ev.bin hCc Ev.int Ev.int (op_powN (a := 10) (n := 8) (k := 4) (by decide) (by decide))) (op_mod (by decide))
  generalize hL0 : (pySlice (script.map PV.int) none (some 4)).filterMap drawnF = L0
  have hL0n : L0.length ≤ 4 := by
    rw [← hL0]
    refine Nat.le_trans (List.length_filterMap_le _ _) ?_
    unfold pySlice clipTo
    simp only
    rw [if_neg (by decide), List.length_take]
    omega
  refine St.cons (St1.assign hC (Ev.bin hC (Ev.name hC (p := .list L0) (by walk_at "m_mem")) (Ev.sliceList (l := some (L0.length : Int)) (u := none) hC (Ev.list hC (EvL.cons hC Ev.int (EvL.cons hC Ev.int (EvL.cons hC Ev.int (EvL.cons hC Ev.int EvL.nil)))) (by decide)) (EvO.some (Ev.callB hC gl (EvL.cons hC (Ev.name hC (p := .list L0) (by walk_at "m_mem")) EvL.nil) (call_lenL (by omega)))) EvO.none (by decide)) (op_catList ?_)) (by walk_at "m_put") ?_)
  · have := pySlice_length_le dflt (some (L0.length : Int)) none
    have e : dflt.length = 4 := rfl
    rw [e] at this
    show L0.length + (pySlice dflt (some (L0.length : Int)) none).length ≤ 4096
    omega
  obtain ⟨D, hD, eD⟩ := drawn_is script
  rw [hL0] at eD
  rw [show L0 ++ pySlice [PV.int 183, .int 35021410, .int 0, .int 37749429] (some (L0.length : Int)) none = D.drawnP from eD]
  have hrest := hrest D hD
  have hD0 : ∀ {ρ : Env'} {p1 p2 p3 : Pos} {k : Nat}, (Str.ofString "drawn", LV.val (.list D.drawnP)) ∈ ρ → Ev C ρ g (.Subscript (.Name "drawn" p1) (.Constant (.int 0) k p2) p3) (.int (D.d0 : Int)) g := fun h =>
    Ev.sub hC (Ev.name hC h) Ev.int (item_list (i := 0) (by decide) (by decide) rfl)
  -- first, step, end
  refine St.cons (St1.assign hC (v := .int (D.first : Int)) (Ev.bin hC (hD0 (by walk_at "m_mem")) Ev.int (op_modN (b := 4) (by decide))) (by walk_at "m_put") ?_)
  refine St.cons (St1.assign hC (v := .int (D.step : Int)) (Ev.bin hC (Ev.bin hC (hD0 (by walk_at "m_mem")) Ev.int (op_fdivN (b := 4) (by decide) (by decide))) Ev.int (op_modN (b := 4) (by decide))) (by walk_at "m_put") ?_)
  refine St.cons (St1.assign hC (v := .int (D.fin : Int)) (Ev.bin hC (Ev.bin hC (hD0 (by walk_at "m_mem")) Ev.int (op_fdivN (b := 16) (by decide) (by decide))) Ev.int (op_modN (b := 3) (by decide))) (by walk_at "m_put") ?_)
  -- kinds
  refine St.cons (St1.assign hC (Ev.comp (f := D.kindF) (ρc := [en "i" .undef, en "first" (.ro (.int (D.first : Int))), en "step" (.ro (.int (D.step : Int)))]) hC (CompOk.of ["i"] ["first", "step"] [("first", .int (D.first : Int)), ("step", .int (D.step : Int))] rfl hz rfl rfl (by decide +kernel) (by decide +kernel) (by decide +kernel) (by decide +kernel) (fun y hy => ?_)) (EvIt.range1 hC gr (EvL.cons hC Ev.int EvL.nil) (by decide) (by decide)) (by rw [rangeItems_length]; decide) (fun p hp Lc hCc => ?_)) (by walk_at "m_put") ?_ (scope_of hsc fun e => rfl))
  · rcases List.mem_cons.mp hy with rfl | hy
    · exact ⟨kf, by walk_at "m_mem"⟩
    · rcases List.mem_cons.mp hy with rfl | hy
      · exact ⟨ks, by walk_at "m_mem"⟩
      · cases hy
  · obtain ⟨i, hi, rfl⟩ := range_mem hp
    refine ⟨_, Binds.name (by walk_at "m_put"), by walk_at "m_weak", true, .inl ⟨rfl, rfl⟩, fun _ => ⟨_, rfl, ?_⟩, fun h => by cases h⟩
    refine Ev.sub hCc (Ev.str (l := ws4) rfl) (Ev.bin hCc (Ev.bin hCc (Ev.nameRo hCc (p := .int (D.first : Int)) (by walk_at "m_mem")) (Ev.bin hCc (Ev.name hCc (p := .int (i : Int)) (by walk_at "m_mem")) (Ev.nameRo hCc (p := .int (D.step : Int)) (by walk_at "m_mem")) (op_mulN' ?_)) op_addN) Ev.int (op_modN (b := 4) (by decide))) (item_str (i := (((D.first + i * D.step) % 4 : Nat) : Int)) (by omega) (by omega) (getD_some ?_))
    · unfold Dr.step; omega
    · show (D.first + i * D.step) % 4 < 4; omega
  rw [show (rangeItems 0 1 (Int.toNat 4)).filterMap D.kindF = D.kindsP from rfl]
  -- counts
  have sl1 : pySlice D.drawnP (some 1) none = [.int (D.d1 : Int), .int (D.d2 : Int), .int (D.d3 : Int)] := rfl
  have itd : ∀ {ρ : Env'} {p1 p2 p3 p4 : Pos} {k : Nat}, (Str.ofString "drawn", LV.val (.list D.drawnP)) ∈ ρ → EvIt C ρ g (.Subscript (.Name "drawn" p1) (.Slice (some (.Constant (.int 1) k p2)) none none p3) p4) [.int (D.d1 : Int), .int (D.d2 : Int), .int (D.d3 : Int)] g := fun h => by
    rw [← sl1]
    exact EvIt.list hC (Ev.sliceList (l := some 1) (u := none) hC (Ev.name hC h) (EvO.some Ev.int) EvO.none (show 4 ≤ 4096 by decide))
  have memd : ∀ p ∈ [PV.int (D.d1 : Int), .int (D.d2 : Int), .int (D.d3 : Int)], ∃ n : Nat, p = .int (n : Int) := fun p hp => by
    rcases List.mem_cons.mp hp with rfl | hp
    · exact ⟨_, rfl⟩
    · rcases List.mem_cons.mp hp with rfl | hp
      · exact ⟨_, rfl⟩
      · rcases List.mem_cons.mp hp with rfl | hp
        · exact ⟨_, rfl⟩
        · cases hp
  refine St.cons (St1.assign (g₁ := g) hC (v := .list D.countsP) (Ev.bin hC (Ev.comp (f := modF) (ρc := [en "number" .undef]) hC (CompOk.of ["number"] [] [] rfl hz rfl rfl (by decide +kernel) (by decide +kernel) (by decide +kernel) (by decide +kernel) (fun y hy => nomatch hy)) (itd (by walk_at "m_mem")) (by simp) (fun p hp Lc hCc => ?_)) (Ev.list (ps := [.int (D.count 3 : Int)]) hC (EvL.cons hC (Ev.ifExp hC (EvB.cmp hC (Ev.name hC (p := .int (D.fin : Int)) (by walk_at "m_mem")) Ev.int (op_eqN (b := 0))) (fun h => ?_) fun h => ?_) EvL.nil) (by simp)) (op_catList (show 3 + 1 ≤ 4096 by decide))) (by walk_at "m_put") ?_)
  · obtain ⟨n, rfl⟩ := memd p hp
    exact ⟨_, Binds.name (by walk_at "m_put"), by walk_at "m_weak", true, .inl ⟨rfl, rfl⟩, fun _ => ⟨_, rfl, Ev.bin hCc (Ev.name hCc (p := .int (n : Int)) (by walk_at "m_mem")) Ev.int (op_modN (b := 16) (by decide))⟩, fun h => by cases h⟩
  · have h' : D.fin = 0 := of_decide_eq_true h
    have e : D.count 3 = D.d0 / 48 % 16 := by unfold Dr.count; rw [if_neg (by decide), if_pos h']
    rw [e]
    exact Ev.bin hC (Ev.bin hC (hD0 (by walk_at "m_mem")) Ev.int (op_fdivN (b := 48) (by decide) (by decide))) Ev.int (op_modN (b := 16) (by decide))
  · have h' : ¬ D.fin = 0 := of_decide_eq_false h
    have e : D.count 3 = 0 := by unfold Dr.count; rw [if_neg (by decide), if_neg h']
    rw [e]
    exact Ev.int
  -- words
  refine St.cons (St1.assign hC (v := .list D.wordsP) (Ev.comp (f := wordF) (ρc := [en "number" .undef]) hC (CompOk.of ["number"] [] [] rfl hz rfl rfl (by decide +kernel) (by decide +kernel) (by decide +kernel) (by decide +kernel) (fun y hy => nomatch hy)) (itd (by walk_at "m_mem")) (by simp) (fun p hp Lc hCc => ?_)) (by walk_at "m_put") ?_ (scope_of hsc fun e => rfl))
  · obtain ⟨n, rfl⟩ := memd p hp
    exact ⟨_, Binds.name (by walk_at "m_put"), by walk_at "m_weak", true, .inl ⟨rfl, rfl⟩, fun _ => ⟨_, rfl, (F.comp hCc).call L.word (relabel_glob (by rfl)) (EvL.cons hCc (Ev.bin hCc (Ev.name hCc (p := .int (n : Int)) (by walk_at "m_mem")) Ev.int (op_fdivN (b := 16) (by decide) (by decide))) EvL.nil) (L.wordFn _) (by omega)⟩, fun h => by cases h⟩
  -- written
  refine St.cons (St1.assign hC (v := .list D.wr0P) (Ev.comp (f := D.wr0F) (ρc := [en "i" .undef, en "drawn" (.ro (.list D.drawnP)), en "kinds" (.ro (.list D.kindsP)), en "words" (.ro (.list D.wordsP))]) hC (CompOk.of ["i"] ["drawn", "kinds", "words"] [("drawn", .list D.drawnP), ("kinds", .list D.kindsP), ("words", .list D.wordsP)] rfl hz rfl rfl (by decide +kernel) (by decide +kernel) (by decide +kernel) (by decide +kernel) (fun y hy => ?_)) (EvIt.range1 hC gr (EvL.cons hC Ev.int EvL.nil) (by decide) (by decide)) (by rw [rangeItems_length]; decide) (fun p hp Lc hCc => ?_)) (by walk_at "m_put") ?_ (scope_of hsc fun e => rfl))
  · rcases List.mem_cons.mp hy with rfl | hy
    · exact ⟨kd, by walk_at "m_mem"⟩
    · rcases List.mem_cons.mp hy with rfl | hy
      · exact ⟨kk, by walk_at "m_mem"⟩
      · rcases List.mem_cons.mp hy with rfl | hy
        · exact ⟨kw, by walk_at "m_mem"⟩
        · cases hy
  · obtain ⟨i, hi, rfl⟩ := range_mem hp
    have hi' : i < 3 := hi
    have g1 : D.wordsP[(i : Int).toNat]? = some (.str (D.word i)) := by rcases three hi' with rfl | rfl | rfl <;> rfl
    have g2 : D.drawnP[((i + 1 : Nat) : Int).toNat]? = some (.int (D.at1 i : Int)) := by rcases three hi' with rfl | rfl | rfl <;> rfl
    have g3 : D.kindsP[((i + 1 : Nat) : Int).toNat]? = some (.str [D.kind (i + 1)]) := by rcases three hi' with rfl | rfl | rfl <;> rfl
    have ei : ∀ {ρ : Env'} {p1 p2 p3 : Pos} {k : Nat} {g : (C.comp _ Lc _).G}, (Str.ofString "i", LV.val (.int (i : Int))) ∈ ρ → Ev (C.comp _ Lc _) ρ g (.BinOp (.Name "i" p1) .Add (.Constant (.int 1) k p2) p3) (.int ((i + 1 : Nat) : Int)) g := fun h => Ev.bin hCc (Ev.name hCc h) Ev.int (op_addN (b := 1))
    refine ⟨_, Binds.name (by walk_at "m_put"), by walk_at "m_weak", true, .inl ⟨rfl, rfl⟩, fun _ => ⟨_, rfl, ?_⟩, fun h => by cases h⟩
    refine (F.comp hCc).call L.written (relabel_glob (by rfl)) (EvL.cons hCc (Ev.sub hCc (Ev.nameRo hCc (by walk_at "m_mem")) (Ev.name hCc (p := .int (i : Int)) (by walk_at "m_mem")) (item_list (by omega) (by omega) g1)) (EvL.cons hCc (Ev.bin hCc (Ev.bin hCc (Ev.sub hCc (Ev.nameRo hCc (by walk_at "m_mem")) (ei (by walk_at "m_mem")) (item_list (by omega) (by omega) g2)) Ev.int (op_fdivN (b := 12582912) (by decide) (by decide))) Ev.int (op_modN (b := 4) (by decide)))
      (EvL.cons hCc (Ev.sub hCc (Ev.nameRo hCc (by walk_at "m_mem")) (ei (by walk_at "m_mem")) (item_list (by omega) (by omega) g3)) EvL.nil))) (L.writtenFn _ _ _ ?_ (by simp)) (by omega)
    have := lawWord_len (D.at1 i / 16)
    show (lawWord (D.at1 i / 16)).length ≤ 100
    omega
  -- last
  refine St.cons (St1.assign (g₁ := g) hC (v := .str D.last) (Ev.ifExp hC (EvB.cmp hC (Ev.name hC (p := .int (D.fin : Int)) (by walk_at "m_mem")) Ev.int (op_eqN (b := 0))) (fun h => ?_) fun h => ?_) (by walk_at "m_put") ?_)
  · have h' : D.fin = 0 := of_decide_eq_true h
    have e : D.last = D.wr0 2 := by unfold Dr.last; rw [if_pos h']
    rw [e]
    exact Ev.sub hC (Ev.name hC (p := .list D.wr0P) (by walk_at "m_mem")) Ev.int (item_list (i := 2) (by decide) (by decide) rfl)
  · have h' : ¬ D.fin = 0 := of_decide_eq_false h
    have hf : D.fin < 3 := by unfold Dr.fin; omega
    have e : D.last = pySlice (D.wr0 2) none (some (-1)) ++ (List.replicate ((D.fin : Int) - 1).toNat [92]).flatten := by
      unfold Dr.last; rw [if_neg h', slice_init, rep_one]
      congr 2
      omega
    rw [e]
    have h7 := wr0_len (D := D) (i := 2)
    have h8 := pySlice_length_le (D.wr0 2) none (some (-1))
    refine Ev.bin hC (Ev.sliceStr (l := none) (u := some (-1)) hC (Ev.sub hC (Ev.name hC (p := .list D.wr0P) (by walk_at "m_mem")) Ev.int (item_list (i := 2) (r := .str (D.wr0 2)) (by decide) (by decide) rfl)) EvO.none (EvO.some (Ev.neg hC Ev.int)) (by omega)) (Ev.bin hC (Ev.str (l := [92]) rfl) (Ev.bin hC (Ev.name hC (p := .int (D.fin : Int)) (by walk_at "m_mem")) Ev.int op_sub) (op_mulStr (n := (D.fin : Int) - 1) (by omega) (by simp) (by omega))) (op_cat ?_)
    rw [rep_one, List.length_replicate]; omega
  -- written, once more
  refine St.cons (St1.assign hC (v := .list D.wrP) (Ev.bin hC (Ev.sliceList (l := none) (u := some 2) hC (Ev.name hC (p := .list D.wr0P) (by walk_at "m_mem")) EvO.none (EvO.some Ev.int) (show 3 ≤ 4096 by decide)) (Ev.list (ps := [.str D.last, .str []]) hC (EvL.cons hC (Ev.name hC (by walk_at "m_mem")) (EvL.cons hC (Ev.str rfl) EvL.nil)) (by simp)) (op_catList (show 2 + 2 ≤ 4096 by decide))) (by walk_at "m_put") ?_)
  -- parts
  refine St.cons (St1.assignComp (f := D.partF) (ρc := [en "i" .undef, en "counts" (.ro (.list D.countsP)), en "kinds" (.ro (.list D.kindsP)), en "written" (.ro (.list D.wrP))]) hC (CompOk.of ["i"] ["counts", "kinds", "written"] [("counts", .list D.countsP), ("kinds", .list D.kindsP), ("written", .list D.wrP)] rfl hz rfl rfl (by decide +kernel) (by decide +kernel) (by decide +kernel) (by decide +kernel) (fun y hy => ?_)) (EvIt.range1 hC gr (EvL.cons hC Ev.int EvL.nil) (by decide) (by decide)) (by rw [rangeItems_length]; decide) (fun p hp Lc hCc => ?_) (by walk_at "m_put") ?_ kparts (scope_of hsc fun e => rfl))
  · rcases List.mem_cons.mp hy with rfl | hy
    · exact ⟨kc, by walk_at "m_mem"⟩
    · rcases List.mem_cons.mp hy with rfl | hy
      · exact ⟨kk, by walk_at "m_mem"⟩
      · rcases List.mem_cons.mp hy with rfl | hy
        · exact ⟨kwr, by walk_at "m_mem"⟩
        · cases hy
  · obtain ⟨i, hi, rfl⟩ := range_mem hp
    have hi' : i < 4 := hi
    have g1 : D.kindsP[(i : Int).toNat]? = some (.str [D.kind i]) := by rcases four hi' with rfl | rfl | rfl | rfl <;> rfl
    have g2 : D.countsP[(i : Int).toNat]? = some (.int (D.count i : Int)) := by rcases four hi' with rfl | rfl | rfl | rfl <;> rfl
    have g3 : D.wrP[(i : Int).toNat]? = some (.str (D.wr i)) := by rcases four hi' with rfl | rfl | rfl | rfl <;> rfl
    refine ⟨_, Binds.name (by walk_at "m_put"), by walk_at "m_weak", true, .inl ⟨rfl, rfl⟩, fun _ => ⟨_, rfl, ?_⟩, fun h => by cases h⟩
    have e : D.part ((i : Int).toNat) = (List.replicate ((D.count i : Int)).toNat [D.kind i]).flatten ++ D.wr i := by rw [rep_one]; rfl
    rw [e]
    have h1 := wr_len (D := D) (i := i)
    have h2 := count_lt (D := D) (i := i)
    refine Ev.bin hCc (Ev.bin hCc (Ev.sub hCc (Ev.nameRo hCc (by walk_at "m_mem")) (Ev.name hCc (p := .int (i : Int)) (by walk_at "m_mem")) (item_list (by omega) (by omega) g1)) (Ev.sub hCc (Ev.nameRo hCc (by walk_at "m_mem")) (Ev.name hCc (p := .int (i : Int)) (by walk_at "m_mem")) (item_list (by omega) (by omega) g2)) (op_mulStr (by omega) (by simp) (by omega))) (Ev.sub hCc (Ev.nameRo hCc (by walk_at "m_mem")) (Ev.name hCc (p := .int (i : Int)) (by walk_at "m_mem")) (item_list (by omega) (by omega) g3)) (op_cat ?_)
    rw [rep_one, List.length_replicate]; omega
  rw [show (rangeItems 0 1 (Int.toNat 4)).filterMap D.partF = D.partsP from rfl]
  exact hrest
end
end Mine
end

section
namespace Mine
open PySem PySem.Calls PyProof.Rows PySem.W

namespace Dr
variable (D : Dr)
noncomputable def pvL : Nat → LV
  | 0 => .undef
  | n + 1 => .val (.str (D.passed n))
noncomputable def lvL : Nat → LV
  | 0 => .undef
  | n + 1 => .val (.int (D.lines n : Int))
theorem pvL_ro (i : Nat) : (D.pvL i).isRo = false := by cases i <;> rfl
theorem lvL_ro (i : Nat) : (D.lvL i).isRo = false := by cases i <;> rfl
end Dr
noncomputable def lineF : PV → Option PV
  | .str [c] => if c = 10 then some (.str [c]) else none
  | _ => none
theorem lineF_len (x : List Nat) : ((x.map fun c => PV.str [c]).filterMap lineF).length = (x.filter (· == 10)).length := by
  induction x with
  | nil => rfl
  | cons c x ih =>
    by_cases h : c = 10
    · subst h
      have e : ((10 :: x).map fun c => PV.str [c]).filterMap lineF = PV.str [10] :: (x.map fun c => PV.str [c]).filterMap lineF := rfl
      rw [e, List.length_cons, ih]
      simp
    · have e0 : lineF (.str [c]) = none := by show (if c = 10 then _ else _) = _; rw [if_neg h]
      have e : ((c :: x).map fun c => PV.str [c]).filterMap lineF = (x.map fun c => PV.str [c]).filterMap lineF := by rw [List.map_cons, List.filterMap_cons, e0]
      rw [e, ih]
      simp [h]
theorem dueA_len {D : Dr} : ∀ n, (D.dueA n).length = 2 * n
  | 0 => rfl
  | n + 1 => by
    show (D.dueA n ++ [D.due1 n, D.due1 n]).length = _
    rw [List.length_append, dueA_len n]; simp; omega
theorem passed_len {D : Dr} {i : Nat} : (D.passed i).length ≤ 104 := by
  have h0 := part_len (D := D) (i := 0)
  have h1 := part_len (D := D) (i := 1)
  have h2 := part_len (D := D) (i := 2)
  have h3 := part_len (D := D) (i := 3)
  have e : (D.passed i).length ≤ D.parts.flatten.length := by
    unfold Dr.passed
    conv => rhs; rw [← List.take_append_drop (i + 1) D.parts, List.flatten_append, List.length_append]
    omega
  have e2 : D.parts.flatten.length ≤ 104 := by
    unfold Dr.parts
    simp only [List.flatten_cons, List.flatten_nil, List.length_append, List.length_nil]
    omega
  omega
theorem lawWord_small {n c : Nat} (h : c ∈ lawWord n) : c < 256 := by
  unfold lawWord at h
  obtain ⟨k, _, rfl⟩ := List.mem_map.mp h
  unfold digitSign
  split
  · omega
  · have : ∀ j, tbl.getD j 0 < 256 := fun j => by
      match j with
      | 0 => decide
      | 1 => decide
      | 2 => decide
      | 3 => decide
      | 4 => decide
      | 5 => decide
      | 6 => decide
      | 7 => decide
      | n + 8 => exact (by decide : (0 : Nat) < 256)
    exact this _
theorem words_small {D : Dr} {x : List Nat} (hx : x ∈ D.words ++ [[]]) : ∀ c ∈ x, c < 0x110000 := fun c hc => by
  have key : ∀ n c, c ∈ lawWord n → c < 0x110000 := fun n c h => by have := lawWord_small h; omega
  rcases List.mem_append.mp hx with h | h
  · unfold Dr.words at h
    rcases List.mem_cons.mp h with rfl | h
    · exact key _ _ hc
    · rcases List.mem_cons.mp h with rfl | h
      · exact key _ _ hc
      · rcases List.mem_cons.mp h with rfl | h
        · exact key _ _ hc
        · cases h
  · rcases List.mem_cons.mp h with rfl | h
    · cases hc
    · cases h
theorem due_plain {D : Dr} : ∀ p ∈ D.due, p.plain = true ∧ p.data.depth ≤ 2 := by
  have h1 : ∀ i, (D.due1 i).plain = true ∧ (D.due1 i).data.depth ≤ 2 := fun i => by
    refine ent_plain ?_
    by_cases h : i < (D.words ++ [[]]).length
    · have e : (D.words ++ [[]]).getD i [] = (D.words ++ [[]])[i] := by rw [List.getD_eq_getElem?_getD, List.getElem?_eq_getElem h]; rfl
      rw [e]
      exact words_small (List.getElem_mem h)
    · rw [List.getD_eq_getElem?_getD, List.getElem?_eq_none (by omega)]
      intro c hc; cases hc
  have h2 : ∀ n, ∀ p ∈ D.dueA n, p.plain = true ∧ p.data.depth ≤ 2 := fun n => by
    induction n with
    | zero => intro p hp; cases hp
    | succ n ih =>
      intro p hp
      rcases List.mem_append.mp hp with hp | hp
      · exact ih p hp
      · rcases List.mem_cons.mp hp with rfl | hp
        · exact h1 n
        · rcases List.mem_cons.mp hp with rfl | hp
          · exact h1 n
          · cases hp
  intro p hp
  rcases List.mem_append.mp hp with hp | hp
  · exact h2 4 p hp
  · obtain ⟨x, hx, rfl⟩ := List.mem_map.mp hp
    exact ent_plain (words_small hx)
theorem marksA_get {text : List Nat} : ∀ {n i : Nat}, i ≤ n → (marksA text n)[i]? = some (.int ((lexRun text i).reg : Int))
  | 0, i, h => by
    have : i = 0 := by omega
    subst this; rfl
  | n + 1, i, h => by
    rw [marksA]
    by_cases h2 : i ≤ n
    · rw [List.getElem?_append_left (by rw [marksA_len]; omega)]
      exact marksA_get h2
    · have : i = n + 1 := by omega
      subst this
      rw [List.getElem?_append_right (by rw [marksA_len]; omega), marksA_len]
      simp
theorem callsA_ent {text : List Nat} : ∀ {n : Nat} {p : PV}, p ∈ callsA text n → ∃ t l, p = ent t l
  | 0, p, h => nomatch h
  | n + 1, p, h => by
    rcases List.mem_append.mp h with h | h
    · exact callsA_ent h
    · rcases List.mem_cons.mp h with rfl | h
      · exact ⟨_, _, rfl⟩
      · rcases List.mem_cons.mp h with rfl | h
        · exact ⟨_, _, rfl⟩
        · cases h
theorem callsL_ent {text : List Nat} {words : List (List Nat)} {p : PV} (h : p ∈ callsL text words) : ∃ t l, p = ent t l := by
  rcases List.mem_append.mp h with h | h
  · rcases List.mem_append.mp h with h | h
    · exact callsA_ent h
    · obtain ⟨x, _, rfl⟩ := List.mem_map.mp h
      exact ⟨_, _, rfl⟩
  · rcases List.mem_cons.mp h with rfl | h
    · exact ⟨_, _, rfl⟩
    · cases h
theorem filterMap_noneP : ∀ l : List PV, l.filterMap (fun _ => (none : Option PV)) = []
  | [] => rfl
  | _ :: l => by rw [List.filterMap_cons]; exact filterMap_noneP l

noncomputable def dueF (D : Dr) : PV → Option PV := fun p => some (.tup [p, .int ((D.passed 3).length : Int), .int (D.lines 3 : Int)])

section
variable {C : Cx} {g : C.G} {prog : Program} {w : World} {T : Heap → Prop} {d : Nat} {st : Stmt} {rest : List Stmt} {fCrc fWord fWritten fBack fCounts fCalls : Addr}

set_option maxHeartbeats 4000000 in
theorem law_body2 (hst : st = stmtAt theProg 10) (hrr : rest = (stmtBody st).drop 12) (F : TopAt C prog w T d (stmtScope st)) (hz : ∀ x, ¬ C.Z x) (L : LawTop prog w T fCrc fWord fWritten fBack fCounts) (hd : 6 ≤ d) (D : Dr) (H : D.Holds)
    (calls : PureAt prog w T 6 "_law_calls" fCalls) (hcalls : FnW C.prog C.w C.T C.wd 6 (.ref fCalls) g [.str D.text, .list (D.words.map .str)] (.tup [.list (callsL D.text D.words), .list (marksA D.text 4)]) g) {v0 v1 v2 v3 v4 v5 v6 : LV} :
    St C (lawEnv v0 v1 v2 v3 v4 .undef (.val (.list D.kindsP)) (.val (.list D.countsP)) (.val (.list (D.words.map .str))) (.val (.list D.wrP)) v5 (.val (.list (D.parts.map .str))) .undef .undef .undef .undef .undef .undef .undef .undef) g rest (fun fl _ g' => fl = .ret (.bool true) ∧ g' = g) := by
  have hC := F.ok
  have gr := F.glob L.range (by subst hst; rfl)
  have gl := F.glob L.len (by subst hst; rfl)
  have go := F.glob L.ord (by subst hst; rfl)
  have gli := F.glob L.list (by subst hst; rfl)
  have gc := F.glob calls.glob (by subst hst; rfl)
  have hkind : ∀ x, (stmtScope st).names.lookup x = some .cell → C.env.kindOf x = some .cell := fun x h => by show C.env.scope.names.lookup x = _; rw [F.scope]; exact h
  have kp : C.env.kindOf (Str.ofString "passed") = some .cell := hkind _ (by subst hst; rfl)
  have kl : C.env.kindOf (Str.ofString "lines") = some .cell := hkind _ (by subst hst; rfl)
  have kodd : C.env.kindOf (Str.ofString "odd") = some .local := by show C.env.scope.names.lookup _ = _; rw [F.scope]; subst hst; rfl
  have hsc := F.scope
  subst hst
  subst hrr
  -- the calls
  have hobj : ∃ o fd, o.data = .func fd ∧ ∀ h, C.T h → h.get? fCalls = some o := let ⟨o, fd, e1, e2⟩ := calls.obj; ⟨o, fd, e1, fun h t => e2 h (F.sub h t)⟩
  have hp104 := passed_len (D := D) (i := 3)
  have htl : (D.parts.map List.length).sum ≤ 16777216 := by
    rw [← List.length_flatten]
    have e : D.parts.flatten = D.passed 3 := rfl
    rw [e]; omega
  refine St.cons (St1.assignTup hC (vs := [.list (callsL D.text D.words), .list (marksA D.text 4)]) (Ev.callFW (ps := [.str D.text, .list (D.words.map .str)]) hC gc hobj (EvL.cons hC (Ev.join hC (xs := D.parts) rfl (Ev.name hC (by walk_at "m_mem")) htl) (EvL.cons hC (Ev.name hC (by walk_at "m_mem")) EvL.nil)) hcalls (Nat.le_trans hd F.d)) (.cons (by walk_at "m_put") (.cons (by walk_at "m_put") .nil)) ?_)
  -- due
  refine St.cons (St1.assign hC (Ev.list hC EvL.nil (by decide)) (by walk_at "m_put") ?_)
  refine St.cons (St1.for hC (EvIt.range1 hC gr (EvL.cons hC Ev.int EvL.nil) (by decide) (by decide)) (fun i ρ g' => ρ = lawEnv v0 v1 v2 v3 v4 .undef (.val (.list D.kindsP)) (.val (.list D.countsP)) (.val (.list (D.words.map .str))) (.val (.list D.wrP)) v5 (.val (.list (D.parts.map .str))) (.val (.list (callsL D.text D.words))) (.val (.list (marksA D.text 4))) (.val (.list (D.dueA i))) (D.pvL i) (D.lvL i) .undef .undef .undef ∧ g' = g) ⟨rfl, rfl⟩ ?_ ?_)
  · rintro i p ρ₁ g₂ hp ⟨rfl, rfl⟩
    obtain ⟨hi, rfl⟩ := rangeN_get hp
    have hi' : i < 4 := hi
    have hpi := passed_len (D := D) (i := i)
    have hr1 := D.pvL_ro i
    have hr2 := D.lvL_ro i
    refine ⟨_, Binds.name (by walk_at "m_put"), ?_⟩
    have esl : pySlice (D.parts.map PV.str) none (some ((i + 1 : Nat) : Int)) = (D.parts.take (i + 1)).map PV.str := by rcases four hi' with rfl | rfl | rfl | rfl <;> rfl
    refine St.cons (St1.assign hC (v := .str (D.passed i)) (Ev.join hC (xs := D.parts.take (i + 1)) rfl (by rw [← esl]; exact Ev.sliceList (l := none) (u := some ((i + 1 : Nat) : Int)) hC (Ev.name hC (by walk_at "m_mem")) EvO.none (EvO.some (Ev.bin hC (Ev.name hC (p := .int (i : Int)) (by walk_at "m_mem")) Ev.int (op_addN (b := 1)))) (show 4 ≤ 4096 by decide)) (by rw [← List.length_flatten]; have e : (D.parts.take (i + 1)).flatten = D.passed i := rfl; rw [e]; omega)) (by walk_at "m_put") ?_)
    have eln : D.lines i = 1 + (((D.passed i).map fun c => PV.str [c]).filterMap lineF).length := by rw [lineF_len]; rfl
    have hlnn : (((D.passed i).map fun c => PV.str [c]).filterMap lineF).length ≤ 104 := Nat.le_trans (List.length_filterMap_le _ _) (by rw [List.length_map]; omega)
    refine St.cons (St1.assign hC (v := .int (D.lines i : Int)) (by
      rw [eln]
      refine Ev.bin hC Ev.int (Ev.callB hC gl (EvL.cons hC (Ev.comp (f := lineF) (ρc := [en "sign" .undef]) hC (CompOk.of ["sign"] [] [] rfl hz rfl rfl (by decide +kernel) (by decide +kernel) (by decide +kernel) (by decide +kernel) (fun y hy => nomatch hy)) (EvIt.str hC (Ev.name hC (p := .str (D.passed i)) (by walk_at "m_mem"))) (by rw [List.length_map]; omega) (fun p hp Lc hCc => ?_)) EvL.nil) (call_lenL (by omega))) (op_addN (a := 1))
      obtain ⟨c, _, rfl⟩ := List.mem_map.mp hp
      refine ⟨_, Binds.name (by walk_at "m_put"), by walk_at "m_weak", _, .inr ⟨_, rfl, EvB.cmp hCc (Ev.name hCc (p := .str [c]) (by walk_at "m_mem")) (Ev.str (l := [10]) rfl) op_eqs⟩, fun hb => ⟨.str [c], ?_, Ev.name hCc (by walk_at "m_mem")⟩, fun hb => ?_⟩
      · have h' : c = 10 := by have h0 : ([c] == [10]) = true := hb; simpa using h0
        show (if c = 10 then _ else _) = _
        rw [if_pos h']
      · have h' : ¬ c = 10 := by have h0 : ([c] == [10]) = false := hb; simpa using h0
        show (if c = 10 then _ else _) = _
        rw [if_neg h']) (by walk_at "m_put") ?_)
    have gw : (D.words.map PV.str ++ [.str []])[(i : Int).toNat]? = some (.str ((D.words ++ [[]]).getD i [])) := by rcases four hi' with rfl | rfl | rfl | rfl <;> rfl
    have hdl : (D.dueA i).length + 2 ≤ 4096 := by rw [dueA_len]; omega
    refine St.one (St1.assign hC (v := .list (D.dueA (i + 1))) (Ev.bin hC (Ev.name hC (p := .list (D.dueA i)) (by walk_at "m_mem")) (Ev.bin (p := .list [D.due1 i]) hC (Ev.list hC (EvL.cons hC (Ev.tup hC (EvL.cons hC (Ev.sub hC (Ev.bin hC (Ev.name hC (p := .list (D.words.map .str)) (by walk_at "m_mem")) (Ev.list hC (EvL.cons hC (Ev.str rfl) EvL.nil) (by simp)) (op_catList (show 3 + 1 ≤ 4096 by decide))) (Ev.name hC (p := .int (i : Int)) (by walk_at "m_mem")) (item_list (by omega) (by omega) gw)) (EvL.cons hC (Ev.callB hC gl (EvL.cons hC (Ev.name hC (p := .str (D.passed i)) (by walk_at "m_mem")) EvL.nil) (call_lenS (by omega))) (EvL.cons hC (Ev.name hC (p := .int (D.lines i : Int)) (by walk_at "m_mem")) EvL.nil))) (by simp)) EvL.nil) (by simp)) Ev.int (op_mulList (n := 2) (by decide) (by simp) (by decide))) (op_catList (show (D.dueA i).length + 2 ≤ 4096 from hdl))) (by walk_at "m_put") ⟨lawEnv v0 v1 v2 v3 v4 .undef (.val (.list D.kindsP)) (.val (.list D.countsP)) (.val (.list (D.words.map .str))) (.val (.list D.wrP)) v5 (.val (.list (D.parts.map .str))) (.val (.list (callsL D.text D.words))) (.val (.list (marksA D.text 4))) (.val (.list (D.dueA (i + 1)))) (.val (.str (D.passed i))) (.val (.int (D.lines i : Int))) .undef .undef .undef, by walk_at "m_weak", rfl, rfl⟩)
  rintro ρ₁ g₂ ⟨rfl, rfl⟩
  rw [show (rangeItems 0 1 (Int.toNat 4)).length = 4 from rangeItems_length]
  rw [show D.pvL 4 = .val (.str (D.passed 3)) from rfl, show D.lvL 4 = .val (.int (D.lines 3 : Int)) from rfl]
  refine St.cons (St1.assign hC (v := .list D.due) (Ev.bin hC (Ev.name hC (p := .list (D.dueA 4)) (by walk_at "m_mem")) (Ev.comp (f := dueF D) (ρc := [en "word" .undef, en "lines" (.ro (.int (D.lines 3 : Int))), en "passed" (.ro (.str (D.passed 3)))]) hC (CompOk.of ["word"] ["lines", "passed"] [("lines", .int (D.lines 3 : Int)), ("passed", .str (D.passed 3))] rfl hz rfl rfl (by decide +kernel) (by decide +kernel) (by decide +kernel) (by decide +kernel) (fun y hy => ?_)) (EvIt.list hC (Ev.bin hC (Ev.name hC (p := .list (D.words.map .str)) (by walk_at "m_mem")) (Ev.list hC (EvL.cons hC (Ev.str (l := []) rfl) EvL.nil) (by simp)) (op_catList (show 3 + 1 ≤ 4096 by decide)))) (show 4 ≤ 4096 by decide) (fun p hp Lc hCc => ?_)) (op_catList (show 8 + 4 ≤ 4096 by decide))) (by walk_at "m_put") ?_)
  · rcases List.mem_cons.mp hy with rfl | hy
    · exact ⟨kl, by walk_at "m_mem"⟩
    · rcases List.mem_cons.mp hy with rfl | hy
      · exact ⟨kp, by walk_at "m_mem"⟩
      · cases hy
  · refine ⟨_, Binds.name (by walk_at "m_put"), by walk_at "m_weak", true, .inl ⟨rfl, rfl⟩, fun _ => ⟨_, rfl, ?_⟩, fun h => by cases h⟩
    exact Ev.tup hCc (EvL.cons hCc (Ev.name hCc (by walk_at "m_mem")) (EvL.cons hCc (Ev.callB hCc ((F.comp hCc).glob L.len (relabel_glob (by rfl))) (EvL.cons hCc (Ev.nameRo hCc (p := .str (D.passed 3)) (by walk_at "m_mem")) EvL.nil) (call_lenS (by omega))) (EvL.cons hCc (Ev.nameRo hCc (p := .int (D.lines 3 : Int)) (by walk_at "m_mem")) EvL.nil))) (by simp)
  -- odd
  have hcl : (callsL D.text D.words).length ≤ 4096 := by
    unfold callsL
    rw [List.length_append, List.length_append, callsA_len, List.length_map]
    show 2 * (3 + 1) + 3 + 1 ≤ 4096
    decide
  refine St.cons (St1.assignComp (f := fun _ => none) (ρc := [en "word" .undef, en "place" .undef, en "line" .undef]) hC (CompOk.of ["word", "place", "line"] [] [] rfl hz rfl rfl (by decide +kernel) (by decide +kernel) (by decide +kernel) (by decide +kernel) (fun y hy => nomatch hy)) (EvIt.list hC (Ev.name hC (p := .list (callsL D.text D.words)) (by walk_at "m_mem"))) hcl (fun p hp Lc hCc => ?_) (by walk_at "m_put") ?_ kodd (scope_of hsc fun e => rfl))
  · obtain ⟨t, l, rfl⟩ := callsL_ent hp
    have gi := (F.comp hCc).glob L.isi (relabel_glob (by rfl))
    refine ⟨_, Binds.tup (.cons (by walk_at "m_put") (.cons (by walk_at "m_put") (.cons (by walk_at "m_put") .nil))), by walk_at "m_weak", false, .inr ⟨_, rfl, ?_⟩, (fun h => by cases h), fun _ => rfl⟩
    have e : false = ((!true) || (false || false)) := rfl
    rw [e]
    refine EvB.boolOp (EvAll.consOr hCc (EvB.not hCc (EvB.val hCc (p := .bool true) (Ev.callB hCc gi (EvL.cons hCc (Ev.name hCc (p := .int (l.line : Int)) (by walk_at "m_mem")) (EvL.cons hCc (Ev.globT hCc ((F.comp hCc).glob L.int (relabel_glob (by rfl)))) EvL.nil)) call_isiInt) rfl)) fun _ => EvAll.consOr hCc (EvB.val hCc (p := .bool false) (Ev.callB hCc gi (EvL.cons hCc (Ev.name hCc (p := .int (l.line : Int)) (by walk_at "m_mem")) (EvL.cons hCc (Ev.globT hCc ((F.comp hCc).glob L.bool (relabel_glob (by rfl)))) EvL.nil)) call_isiBool) rfl) fun _ => EvAll.nilOr)
  rw [filterMap_noneP, H.due]
  -- calls != due
  have hdp := list_plain (due_plain (D := D))
  have e0 : false = (false || (false || false)) := rfl
  refine St.cons (St1.ifs (g₁ := g₂) (c := false) hC (by
    rw [e0]
    exact EvB.boolOp (EvAll.consOr hC (EvB.cmp hC (Ev.name hC (p := .list D.due) (by walk_at "m_mem")) (Ev.name hC (p := .list D.due) (by walk_at "m_mem")) (op_neSame hC hdp.1 (by have := hdp.2; omega))) fun _ => EvAll.consOr hC (EvB.cmp hC (Ev.name hC (p := .list []) (by walk_at "m_mem")) (Ev.list hC EvL.nil (by decide)) (op_neSame hC rfl (by decide))) fun _ => EvAll.nilOr)) (fun h => by cases h) fun _ => St.nil ?_)
  -- the counts
  refine St.cons (St1.for hC (EvIt.range1 hC gr (EvL.cons hC Ev.int EvL.nil) (by decide) (by decide)) (fun i ρ g' => ρ = lawEnv v0 v1 v2 v3 v4 .undef (.val (.list D.kindsP)) (.val (.list D.countsP)) (.val (.list (D.words.map .str))) (.val (.list D.wrP)) v5 (.val (.list (D.parts.map .str))) (.val (.list D.due)) (.val (.list (marksA D.text 4))) (.val (.list D.due)) (.val (.str (D.passed 3))) (.val (.int (D.lines 3 : Int))) (.val (.list [])) .undef .undef ∧ g' = g₂) ⟨rfl, rfl⟩ ?_ ?_)
  · rintro i p ρ₁ g₃ hp ⟨rfl, rfl⟩
    obtain ⟨hi, rfl⟩ := rangeN_get hp
    have hi' : i < 4 := hi
    refine ⟨_, Binds.name (by walk_at "m_put"), ?_⟩
    have g1 : (marksA D.text 4)[(i : Int).toNat]? = some (.int ((lexRun D.text i).reg : Int)) := marksA_get (by omega)
    have g2 : (marksA D.text 4)[((i + 1 : Nat) : Int).toNat]? = some (.int ((lexRun D.text (i + 1)).reg : Int)) := marksA_get (by omega)
    have g3 : D.wrP[(i : Int).toNat]? = some (.str (D.wr i)) := by rcases four hi' with rfl | rfl | rfl | rfl <;> rfl
    have g4 : D.kindsP[(i : Int).toNat]? = some (.str [D.kind i]) := by rcases four hi' with rfl | rfl | rfl | rfl <;> rfl
    have g5 : D.countsP[(i : Int).toNat]? = some (.int (D.count i : Int)) := by rcases four hi' with rfl | rfl | rfl | rfl <;> rfl
    have hwl := wr_len (D := D) (i := i)
    generalize hra : (lexRun D.text i).reg = ra at *
    generalize hrb : (lexRun D.text (i + 1)).reg = rb at *
    have HC := H.counts i hi'
    rw [hra, hrb] at HC
    have em : ∀ {ρ : Env'} {p1 p2 p3 : Pos}, (Str.ofString "marks", LV.val (.list (marksA D.text 4))) ∈ ρ → (Str.ofString "i", LV.val (.int (i : Int))) ∈ ρ → Ev C ρ g₃ (.Subscript (.Name "marks" p1) (.Name "i" p2) p3) (.int (ra : Int)) g₃ := fun h1 h2 =>
      Ev.sub hC (Ev.name hC h1) (Ev.name hC h2) (item_list (by omega) (by omega) g1)
    have ek : ∀ {ρ : Env'} {p1 p2 p3 : Pos}, (Str.ofString "kinds", LV.val (.list D.kindsP)) ∈ ρ → (Str.ofString "i", LV.val (.int (i : Int))) ∈ ρ → Ev C ρ g₃ (.Subscript (.Name "kinds" p1) (.Name "i" p2) p3) (.str [D.kind i]) g₃ := fun h1 h2 =>
      Ev.sub hC (Ev.name hC h1) (Ev.name hC h2) (item_list (by omega) (by omega) g4)
    refine St.cons (St1.assign hC (F.call L.counts (by rfl) (EvL.cons hC (em (by walk_at "m_mem") (by walk_at "m_mem")) (EvL.cons hC (F.call L.back (by rfl) (EvL.cons hC (Ev.sub hC (Ev.name hC (p := .list (marksA D.text 4)) (by walk_at "m_mem")) (Ev.bin hC (Ev.name hC (p := .int (i : Int)) (by walk_at "m_mem")) Ev.int (op_addN (b := 1))) (item_list (by omega) (by omega) g2)) (EvL.cons hC (Ev.sub hC (Ev.name hC (p := .list D.wrP) (by walk_at "m_mem")) (Ev.name hC (p := .int (i : Int)) (by walk_at "m_mem")) (item_list (by omega) (by omega) g3)) EvL.nil)) (L.backFn rb (D.wr i) (by omega)) (by omega)) (EvL.cons hC (ek (by walk_at "m_mem") (by walk_at "m_mem")) EvL.nil))) (L.countsFn _ _ _) (by omega)) (by walk_at "m_put") ?_)
    refine St.cons (St1.assign hC (v := .bool (decide (crcOf ra (D.kind i) = ra))) (Ev.cmp hC (F.call L.crc (by rfl) (EvL.cons hC (Ev.bin hC (em (by walk_at "m_mem") (by walk_at "m_mem")) (Ev.callB hC go (EvL.cons hC (ek (by walk_at "m_mem") (by walk_at "m_mem")) EvL.nil) call_ord) op_xorN) EvL.nil) (L.crcFn _) (by omega)) (em (by walk_at "m_mem") (by walk_at "m_mem")) op_eqN) (by walk_at "m_put") ?_)
    have hpi := pvInts_plain (lawCounts ra (lawBack rb (D.wr i)) (D.kind i))
    refine St.one (St1.ifs (g₁ := g₃) (c := false) hC (EvB.cmp hC (Ev.name hC (p := .list (pvInts (lawCounts ra (lawBack rb (D.wr i)) (D.kind i)))) (by walk_at "m_mem")) (Ev.ifExp (g₁ := g₃) (g₂ := g₃) hC (EvB.val hC (p := .bool (decide (crcOf ra (D.kind i) = ra))) (by walk_at "m_ev") rfl) (fun h => ?_) fun h => ?_) (op_neSame hC hpi.1 (by have := hpi.2; omega))) (fun h => by cases h) fun _ => St.nil ⟨_, by walk_at "m_weak", rfl, rfl⟩)
    · have h' : crcOf ra (D.kind i) = ra := of_decide_eq_true h
      rw [HC, if_pos h']
      have e16 : rangeItems 0 1 (Int.toNat 16) = pvInts (List.range 16) := rangeN_eq 16
      rw [← e16]
      exact Ev.listRange hC gli gr (EvL.cons hC Ev.int EvL.nil) (by decide) (by decide)
    · have h' : ¬ crcOf ra (D.kind i) = ra := of_decide_eq_false h
      rw [HC, if_neg h']
      exact Ev.list hC (EvL.cons hC (Ev.sub hC (Ev.name hC (p := .list D.countsP) (by walk_at "m_mem")) (Ev.name hC (p := .int (i : Int)) (by walk_at "m_mem")) (item_list (by omega) (by omega) g5)) EvL.nil) (by simp)
  · rintro ρ₁ g₃ ⟨rfl, rfl⟩
    exact St.one (St1.ret hC Ev.bool ⟨rfl, rfl⟩)
end
end Mine
end

section
namespace Mine
open PySem PySem.Calls PyProof.Rows PySem.W

noncomputable abbrev lawNames : List Str := ["drawn", "first", "step", "end", "i", "kinds", "counts", "words", "written", "last", "parts", "calls", "marks", "due", "passed", "lines", "odd", "told", "still"]

theorem law_st {C : Cx} {g : C.G} {prog : Program} {w : World} {T : Heap → Prop} {d : Nat} {st : Stmt} {fCrc fWord fWritten fBack fCounts fCalls : Addr} (hst : st = stmtAt theProg 10) (F : TopAt C prog w T d (stmtScope st)) (hz : ∀ x, ¬ C.Z x) (L : LawTop prog w T fCrc fWord fWritten fBack fCounts) (hd : 6 ≤ d)
    (calls : PureAt prog w T 6 "_law_calls" fCalls) (hcalls : ∀ (text : List Nat) (words : List (List Nat)), text.length ≤ 16000000 → words.length ≤ 100 → FnW C.prog C.w C.T C.wd 6 (.ref fCalls) g [.str text, .list (words.map .str)] (callsOut text words) g) (hD : ∀ D : Dr, D.Ok → D.Holds) (script : List Int) (hs : script.length ≤ 4096) :
    St C (lawEnv (.val (.list (script.map .int))) .undef .undef .undef .undef .undef .undef .undef .undef .undef .undef .undef .undef .undef .undef .undef .undef .undef .undef .undef) g (stmtBody st) (fun fl _ g' => fl = .ret (.bool true) ∧ g' = g) := by
  obtain ⟨rest, hrr⟩ : ∃ r, r = (stmtBody st).drop 12 := ⟨_, rfl⟩
  refine law_body1 hst hrr F hz L (by omega) script hs fun D hok => ?_
  have hp := passed_len (D := D) (i := 3)
  have e : D.text = D.passed 3 := rfl
  exact law_body2 (v6 := .undef) hst hrr F hz L hd D (hD D hok) calls (hcalls D.text D.words (by rw [e]; omega) (by show 3 ≤ 100; decide))

theorem law_fn {prog : Program} {w : World} {T : Heap → Prop} {PT : Addr} {q1 q2 : Str} {st : Stmt} {f : Addr} {o : Obj} {fd : FuncData} {fCrc fWord fWritten fBack fCounts fCalls : Addr} (hst : st = stmtAt theProg 10) (hT : ∀ h h' : Heap, T h → (∀ b o, b ≠ PT → h.get? b = some o → h'.get? b = some o) → T h') (Df : DefAt T st ["script"] f o fd) (L : LawTop prog w T fCrc fWord fWritten fBack fCounts)
    (calls : PureAt prog w T 6 "_law_calls" fCalls) (hcalls : ∀ (text : List Nat) (words : List (List Nat)), text.length ≤ 16000000 → words.length ≤ 100 → FnW prog w T (tabV PT (known q1 q2)) 6 (.ref fCalls) () [.str text, .list (words.map .str)] (callsOut text words) ()) (hD : ∀ D : Dr, D.Ok → D.Holds) (script : List Int) (hs : script.length ≤ 4096) :
    FnW prog w T (tabV PT (known q1 q2)) 7 (.ref f) () [.list (script.map .int)] (.bool true) () := by
  refine FnW.def' lawNames (tabV.ok _ _) (fun h h' t k => hT h h' t fun b o hb e => k b o hb e) Df rfl (by decide +kernel) (by subst hst; decide +kernel) (by decide +kernel) (by subst hst; rfl) (by subst hst; rfl) (by subst hst; rfl) fun C0 F hc hq => ?_
  have hcalls' : ∀ (text : List Nat) (words : List (List Nat)), text.length ≤ 16000000 → words.length ≤ 100 → FnW (C0.withW (tabV PT (known q1 q2))).prog (C0.withW (tabV PT (known q1 q2))).w (C0.withW (tabV PT (known q1 q2))).T (C0.withW (tabV PT (known q1 q2))).wd 6 (.ref fCalls) () [.str text, .list (words.map .str)] (callsOut text words) () := fun text words h1 h2 => by
    have := hcalls text words h1 h2
    rw [← F.prog, ← F.w, ← F.T] at this
    exact this
  exact StP.mono (law_st hst F.top F.z L (by decide) calls hcalls' hD script hs) fun fl ρ g' h => ⟨.inl h.1, h.2⟩
end Mine
end

section
namespace Mine
open PySem PySem.Calls PyProof.Rows PySem.W

noncomputable def stmtName : Stmt → Str
  | .FunctionDef n _ _ _ _ _ _ _ _ _ => n
  | _ => ""

section
variable {vw : Program} {loose : List Str} {mean : ExcName → Option Value} {mg mb : Str → Option Value} {K K' : Frag} {w : World} {prog : Program} {s₁ : Shared} {c PT : Addr} {h h' : Heap}

theorem tab_ne {a : Addr} {o : Obj} (hP : h.get? PT = some (tabObj #[])) (e : h.get? a = some o) (hn : ∀ xs, o.data ≠ .fields xs) : a ≠ PT := by
  rintro rfl; rw [hP] at e; cases e; exact hn _ rfl
theorem ns_ext {a : Addr} {m : Str → Option Value} (hP : h.get? PT = some (tabObj #[])) (x : h.Ns a m) (k : Heap.ExtBut PT h h') : h'.Ns a m := by
  obtain ⟨o, es, ep, e, hd, r⟩ := x
  exact ⟨o, es, ep, k _ _ (tab_ne hP e (by rw [hd]; exact fun _ z => by cases z)) e, hd, r⟩
theorem rec_ext {cd : Value} {q : Str} (hP : h.get? PT = some (tabObj #[])) (x : h.CodeRec cd q) (k : Heap.ExtBut PT h h') : h'.CodeRec cd q := by
  obtain ⟨c, o, vs, t, e0, e, hd, r⟩ := x
  refine ⟨c, o, vs, t, e0, k _ _ ?_ e, hd, r⟩
  rintro rfl; rw [hP] at e; cases e; cases hd; simp at r
theorem lim_ext (hP : h.get? PT = some (tabObj #[])) (x : h.NoLimit) (k : Heap.ExtBut PT h h') : h'.NoLimit := let ⟨mc, a, b⟩ := x; ⟨mc, ns_ext hP a k, b⟩

theorem defAt_of {d : DefRec} {st : Stmt} {pn : List Str} (T : Top vw loose mean mg mb s₁.heap) (hd : d ∈ recsOf vw) (hP : s₁.heap.get? PT = some (tabObj #[])) (h1 : d.params = stmtArgs st) (h2 : d.body = stmtBody st) (h3 : d.scope = stmtScope st)
    (hb : ∀ (n : Str) (bd : List Stmt) (sc : Scope) (pm code doc : Value) (vals : List Value), vals.length = pn.length → bindArgs (docDef n (stmtArgs st) bd sc pm code doc) ⟨vals, []⟩ = pure (pn.zip vals)) :
    ∃ a o fd, mg d.name = some (.ref a) ∧ DefAt (Heap.ExtBut PT s₁.heap) st pn a o fd ∧ fd.qualname = d.name := by
  obtain ⟨a, o, pm, code, doc, e1, e2, e3, e4⟩ := T.fn d hd
  refine ⟨a, o, _, e1, ⟨e3, fun h k => ⟨k _ _ (tab_ne hP e2 (by rw [e3]; exact fun _ z => by cases z)) e2, rec_ext hP e4 k, lim_ext hP T.nolimit k⟩, ?_, ?_, rfl, rfl, rfl, ?_⟩, rfl⟩
  · show FuncBody.stmts d.body = _; rw [h2]
  · exact h3
  · rw [h1]; exact hb _ _ _ _ _ _
theorem tg_mg {x : Str} {v : Value} (T : Top vw loose mean mg mb s₁.heap) (hP : s₁.heap.get? PT = some (tabObj #[])) (hx : (x == ("__debug__" : Str)) = false) (e : mg x = some v) : TG (Heap.ExtBut PT s₁.heap) x v :=
  ⟨hx, fun h k => ⟨mg, mb, ns_ext hP T.g k, ns_ext hP T.b k, .inl e⟩⟩
theorem tg_mb {x : Str} {v : Value} (T : Top vw loose mean mg mb s₁.heap) (hP : s₁.heap.get? PT = some (tabObj #[])) (hx : (x == ("__debug__" : Str)) = false) (e : mg x = none) (hn : x ≠ "__name__") (hv : bootBuiltins x = some v) : TG (Heap.ExtBut PT s₁.heap) x v :=
  ⟨hx, fun h k => ⟨mg, mb, ns_ext hP T.g k, ns_ext hP T.b k, .inr ⟨e, by rw [T.builtins x hn]; exact hv⟩⟩⟩

theorem bb_len : bootBuiltins "len" = some (.builtin "len") := by decide +kernel
theorem bb_ord : bootBuiltins "ord" = some (.builtin "ord") := by decide +kernel
theorem bb_chr : bootBuiltins "chr" = some (.builtin "chr") := by decide +kernel
theorem bb_iter : bootBuiltins "iter" = some (.builtin "iter") := by decide +kernel
theorem bb_isi : bootBuiltins "isinstance" = some (.builtin "isinstance") := by decide +kernel
theorem bb_range : bootBuiltins "range" = some (.type "range") := by decide +kernel
theorem bb_list : bootBuiltins "list" = some (.type "list") := by decide +kernel
theorem bb_int : bootBuiltins "int" = some (.type "int") := by decide +kernel
theorem bb_bool : bootBuiltins "bool" = some (.type "bool") := by decide +kernel
end

/-- a method of the class, as the top made it -/
noncomputable def MethIn (K : Frag) (st : Stmt) (pn : List Str) (f : Addr) : Prop :=
  ∃ o fd, K.lookup f = some o ∧ o.data = .func fd ∧ codeIn K fd.code fd.qualname = true ∧ fd.body = .stmts (stmtBody st) ∧ fd.scope = stmtScope st ∧ fd.closure = [] ∧ fd.globals = mainGlobals ∧ fd.builtins = builtinsNs ∧
    ∀ vals : List Value, vals.length = pn.length → bindArgs fd ⟨vals, []⟩ = pure (pn.zip vals)
theorem MethIn.def {K : Frag} {T : Heap → Prop} {st : Stmt} {pn : List Str} {f : Addr} (x : MethIn K st pn f) (hK : ∀ h, T h → K.In h) (hl : ∀ h, T h → h.NoLimit) : ∃ o fd, DefAt T st pn f o fd := by
  obtain ⟨o, fd, e1, e2, e3, e4, e5, e6, e7, e8, e9⟩ := x
  exact ⟨o, fd, e2, fun h t => ⟨hK h t _ _ e1, codeRec_of (hK h t) e3, hl h t⟩, e4, e5, e6, e7, e8, e9⟩

structure ClsIn (K : Frag) (ca : CA) : Prop where
  made : makesIn K ca.aC = true
  fi : findIn K (.ref ca.aC) "__init__" = some (some (.ref ca.fI))
  ty : typeIn K (.ref ca.fI) = some (.type "function")
  keep : keepIn K (.ref ca.aC) = true
  cls : ∀ h, K.In h → ClsB ca h
  mI : MethIn K (methAt theProg iCls 0) ["self", "fp"] ca.fI
  mR : MethIn K (methAt theProg iCls 1) ["self"] ca.fR
  mG : MethIn K (methAt theProg iCls 2) ["self"] ca.fG
  mP : MethIn K (methAt theProg iCls 3) ["self", "token"] ca.fP

noncomputable abbrev recIs (vw : Program) (i : Nat) : Prop := ∃ d ∈ recsOf vw, d.name = stmtName (stmtAt theProg i) ∧ d.params = stmtArgs (stmtAt theProg i) ∧ d.body = stmtBody (stmtAt theProg i) ∧ d.scope = stmtScope (stmtAt theProg i)

theorem final02 {vw : Program} {loose : List Str} {mean : ExcName → Option Value} {mg mb : Str → Option Value} {K K' : Frag} {w : World} {prog : Program} {s₁ : Shared} {ca : CA} {c PT argA fLaw : Addr} {ns : List Int} {vs : List Value}
    (T : Top vw loose mean mg mb s₁.heap) (KX : K.In s₁.heap) (hK' : ∀ a o, K'.lookup a = some o → K.lookup a = some o ∧ a ≠ PT) (hC : CodeHd s₁.heap c PT) (hP : s₁.heap.get? PT = some (tabObj #[]))
    (r1 : recIs vw 1) (r5 : recIs vw 5) (r6 : recIs vw 6) (r7 : recIs vw 7) (r8 : recIs vw 8) (r9 : recIs vw 9) (r10 : recIs vw 10)
    (hcode : ∀ fa o fd, mg "_law_calls" = some (.ref fa) → s₁.heap.get? fa = some o → o.data = .func fd → fd.code = .ref c)
    (hbi : ∀ x ∈ (["len", "ord", "chr", "iter", "isinstance", "range", "list", "int", "bool"] : List Str), mg x = none) (hcls : mg "_netrclex" = some (.ref ca.aC)) (CI : ClsIn K' ca) (hlaw : mg "law" = some (.ref fLaw))
    (hl : s₁.heap.PlainList argA vs.toArray) (hr : IntsAre vs ns) (hlen : ns.length ≤ 63) (hD : ∀ D : Dr, D.Ok → D.Holds) :
    wpAny (model prog w) callerA (call (.ref fLaw) [.ref argA]) (fun v s' => v = .bool true ∧ s'.gens = s₁.gens ∧ s'.os = s₁.os ∧ (∀ a o, a ≠ PT → s₁.heap.get? a = some o → s'.heap.get? a = some o) ∧ ∃ ps, s'.heap.get? PT = some (tabObj ps)) NoE s₁ := by
  have tm : ∀ h h' : Heap, Heap.ExtBut PT s₁.heap h → (∀ b o, b ≠ PT → h.get? b = some o → h'.get? b = some o) → Heap.ExtBut PT s₁.heap h' := fun h h' k q b o hb e => q b o hb (k b o hb e)
  have tmA : ∀ h h' : Heap, Heap.ExtBut PT s₁.heap h → (∀ b o, h.get? b = some o → h'.get? b = some o) → Heap.ExtBut PT s₁.heap h' := fun h h' k q b o hb e => q b o (k b o hb e)
  have T0 : Heap.ExtBut PT s₁.heap s₁.heap := fun b o _ e => e
  have hlim : ∀ h, Heap.ExtBut PT s₁.heap h → h.NoLimit := fun h k => lim_ext hP T.nolimit k
  have hKK : ∀ h, Heap.ExtBut PT s₁.heap h → K'.In h := fun h k a o e => k a o (hK' a o e).2 (KX a o (hK' a o e).1)
  have bi : ∀ x v, x ∈ (["len", "ord", "chr", "iter", "isinstance", "range", "list", "int", "bool"] : List Str) → (x == ("__debug__" : Str)) = false → x ≠ "__name__" → bootBuiltins x = some v → TG (Heap.ExtBut PT s₁.heap) x v := fun x v hx h1 h2 h3 => tg_mb T hP h1 (hbi x hx) h2 h3
  have gLen := bi "len" _ (by decide) (by decide) (by decide) bb_len
  have gOrd := bi "ord" _ (by decide) (by decide) (by decide) bb_ord
  have gChr := bi "chr" _ (by decide) (by decide) (by decide) bb_chr
  have gIter := bi "iter" _ (by decide) (by decide) (by decide) bb_iter
  have gIsi := bi "isinstance" _ (by decide) (by decide) (by decide) bb_isi
  have gRange := bi "range" _ (by decide) (by decide) (by decide) bb_range
  have gList := bi "list" _ (by decide) (by decide) (by decide) bb_list
  have gInt := bi "int" _ (by decide) (by decide) (by decide) bb_int
  have gBool := bi "bool" _ (by decide) (by decide) (by decide) bb_bool
  have mk : ∀ (i : Nat) (pn : List Str), recIs vw i → (∀ (n : Str) (bd : List Stmt) (sc : Scope) (pm code doc : Value) (vals : List Value), vals.length = pn.length → bindArgs (docDef n (stmtArgs (stmtAt theProg i)) bd sc pm code doc) ⟨vals, []⟩ = pure (pn.zip vals)) →
      ∃ a o fd, mg (stmtName (stmtAt theProg i)) = some (.ref a) ∧ DefAt (Heap.ExtBut PT s₁.heap) (stmtAt theProg i) pn a o fd ∧ fd.qualname = stmtName (stmtAt theProg i) := fun i pn ⟨d, hd, e1, e2, e3, e4⟩ hb => by
    have := defAt_of T hd hP e2 e3 e4 hb
    rw [e1] at this
    exact this
  have one : ∀ (i : Nat) (x : Str), (∀ (n : Str) (bd : List Stmt) (sc : Scope) (pm code doc : Value) (v : Value), bindArgs (docDef n (stmtArgs (stmtAt theProg i)) bd sc pm code doc) ⟨[v], []⟩ = pure [(x, v)]) →
      ∀ (n : Str) (bd : List Stmt) (sc : Scope) (pm code doc : Value) (vals : List Value), vals.length = [x].length → bindArgs (docDef n (stmtArgs (stmtAt theProg i)) bd sc pm code doc) ⟨vals, []⟩ = pure ([x].zip vals) := fun i x hb n bd sc pm code doc vals hv => by
    match vals, hv with
    | [v], _ => exact hb n bd sc pm code doc v
  have two : ∀ (i : Nat) (x y : Str), (∀ (n : Str) (bd : List Stmt) (sc : Scope) (pm code doc : Value) (v u : Value), bindArgs (docDef n (stmtArgs (stmtAt theProg i)) bd sc pm code doc) ⟨[v, u], []⟩ = pure [(x, v), (y, u)]) →
      ∀ (n : Str) (bd : List Stmt) (sc : Scope) (pm code doc : Value) (vals : List Value), vals.length = [x, y].length → bindArgs (docDef n (stmtArgs (stmtAt theProg i)) bd sc pm code doc) ⟨vals, []⟩ = pure ([x, y].zip vals) := fun i x y hb n bd sc pm code doc vals hv => by
    match vals, hv with
    | [v, u], _ => exact hb n bd sc pm code doc v u
  have thr : ∀ (i : Nat) (x y z : Str), (∀ (n : Str) (bd : List Stmt) (sc : Scope) (pm code doc : Value) (v u t : Value), bindArgs (docDef n (stmtArgs (stmtAt theProg i)) bd sc pm code doc) ⟨[v, u, t], []⟩ = pure [(x, v), (y, u), (z, t)]) →
      ∀ (n : Str) (bd : List Stmt) (sc : Scope) (pm code doc : Value) (vals : List Value), vals.length = [x, y, z].length → bindArgs (docDef n (stmtArgs (stmtAt theProg i)) bd sc pm code doc) ⟨vals, []⟩ = pure ([x, y, z].zip vals) := fun i x y z hb n bd sc pm code doc vals hv => by
    match vals, hv with
    | [v, u, t], _ => exact hb n bd sc pm code doc v u t
  obtain ⟨fCrc, oCrc, dCrc, mCrc, DCrc, _⟩ := mk 1 ["crc"] r1 (one 1 "crc" fun _ _ _ _ _ _ _ => rfl)
  obtain ⟨fWord, oWord, dWord, mWord, DWord, _⟩ := mk 5 ["number"] r5 (one 5 "number" fun _ _ _ _ _ _ _ => rfl)
  obtain ⟨fWr, oWr, dWr, mWr, DWr, _⟩ := mk 6 ["word", "manner", "white"] r6 (thr 6 "word" "manner" "white" fun _ _ _ _ _ _ _ _ _ => rfl)
  obtain ⟨fCalls, oCalls, dCalls, mCalls, DCalls, qCalls⟩ := mk 7 ["text", "words"] r7 (two 7 "text" "words" fun _ _ _ _ _ _ _ _ => rfl)
  obtain ⟨fBack, oBack, dBack, mBack, DBack, _⟩ := mk 8 ["register", "text"] r8 (two 8 "register" "text" fun _ _ _ _ _ _ _ _ => rfl)
  obtain ⟨fCounts, oCounts, dCounts, mCounts, DCounts, _⟩ := mk 9 ["ahead", "behind", "white"] r9 (thr 9 "ahead" "behind" "white" fun _ _ _ _ _ _ _ _ _ => rfl)
  obtain ⟨fL, oL, dL, mL, DL, _⟩ := mk 10 ["script"] r10 (one 10 "script" fun _ _ _ _ _ _ _ => rfl)
  have pure' : ∀ {d : Nat} {x : Str} {f : Addr} {o : Obj} {fd : FuncData} {st : Stmt} {pn : List Str}, (x == ("__debug__" : Str)) = false → mg x = some (.ref f) → DefAt (Heap.ExtBut PT s₁.heap) st pn f o fd → PureAt prog w (Heap.ExtBut PT s₁.heap) d x f := fun h1 h2 D => ⟨tg_mg T hP h1 h2, _, _, D.data, fun h k => (D.at' h k).1⟩
  have pCrc : PureAt prog w (Heap.ExtBut PT s₁.heap) 1 "_gen_crc" fCrc := pure' (by decide) mCrc DCrc
  have fnCrc : ∀ r : Nat, Fn prog w (Heap.ExtBut PT s₁.heap) 1 (.ref fCrc) [.int r] (.int (genCrc r)) := crc_fn tmA DCrc gRange
  have pBack : PureAt prog w (Heap.ExtBut PT s₁.heap) 1 "_law_back" fBack := pure' (by decide) mBack DBack
  have fnBack : ∀ (r : Nat) (text : List Nat), text.length ≤ 4096 → Fn prog w (Heap.ExtBut PT s₁.heap) 1 (.ref fBack) [.int r, .str text] (.int (lawBack r text)) := fun r text ht => back_fn tmA rfl DBack gRange gOrd r text ht
  have L : LawTop prog w (Heap.ExtBut PT s₁.heap) fCrc fWord fWr fBack fCounts := {
    len := gLen
    ord := gOrd
    range := gRange
    list := gList
    isi := gIsi
    int := gInt
    bool := gBool
    crc := pCrc
    crcFn := fnCrc
    word := pure' (by decide) mWord DWord
    wordFn := fun n => word_fn tmA rfl DWord gRange gChr n
    written := pure' (by decide) mWr DWr
    writtenFn := fun x m wh h1 h2 => written_fn tmA rfl DWr gRange gLen x m wh h1 h2
    back := pBack
    backFn := fnBack
    counts := pure' (by decide) mCounts DCounts
    countsFn := fun a b wc => counts_fn tmA rfl DCounts gRange gOrd pCrc fnCrc pBack fnBack a b wc }
  have LT : LexTop prog w (Heap.ExtBut PT s₁.heap) ca K' fCrc := {
    hK := hKK
    made := CI.made
    fi := CI.fi
    ty := CI.ty
    keep := CI.keep
    cls := fun h k => CI.cls h (hKK h k)
    dI := CI.mI.def hKK hlim
    dR := CI.mR.def hKK hlim
    dG := CI.mG.def hKK hlim
    dP := CI.mP.def hKK hlim
    cg := tg_mg T hP (by decide) hcls
    iter := gIter
    len := gLen
    ord := gOrd
    range := gRange
    crc := pCrc
    crcFn := fnCrc
    lim := hlim }
  have hcd : dCalls.code = .ref c := hcode _ _ _ mCalls (DCalls.at' _ T0).1 DCalls.data
  obtain ⟨bm, ob, b1, b2, b3, b4, b5, b6⟩ := T.bmain
  have hgP : mainGlobals ≠ PT := by
    obtain ⟨o, es, ep, e, hd, _⟩ := T.g
    exact tab_ne hP e (by rw [hd]; exact fun _ z => by cases z)
  have htop : ∀ h, Heap.ExtBut PT s₁.heap h → ∃ mg, h.Ns mainGlobals mg ∧ CodeHd h c PT ∧ mainGlobals ≠ PT ∧ h.BuiltinsAt mg PT := fun h k => by
    refine ⟨mg, ns_ext hP T.g k, ?_, hgP, ⟨bm, ob, b1, b2, ?_, ?_, k _ _ (tab_ne hP b3 (by rw [b6]; exact fun _ z => by cases z)) b3, b4, b5, b6⟩⟩
    · obtain ⟨o, vs, file, tf, flags, tg, inF, text, tt, e1, r⟩ := hC
      refine ⟨o, vs, file, tf, flags, tg, inF, text, tt, k _ _ ?_ e1, r⟩
      exact r.2.2.2.2.2.2.2.2
    · obtain ⟨o, es, ep, e, hd, _⟩ := T.g
      rintro rfl
      rw [b3] at e; cases e; rw [b6] at hd; cases hd
    · exact tab_ne hP b3 (by rw [b6]; exact fun _ z => by cases z)
  have hcalls : ∀ (text : List Nat) (words : List (List Nat)), text.length ≤ 16000000 → words.length ≤ 100 → FnW prog w (Heap.ExtBut PT s₁.heap) (tabV PT (known (dCalls.qualname ++ ".<locals>." ++ "read") (dCalls.qualname ++ ".<locals>." ++ "<lambda>"))) 6 (.ref fCalls) () [.str text, .list (words.map .str)] (callsOut text words) () := fun text words h1 h2 =>
    calls_fn LT tm rfl DCalls hcd htop h1 h2 rfl rfl
  have hlawfn := law_fn rfl tm DL L (pure' (by decide) mCalls DCalls) hcalls hD ns (by omega)
  have efL : fL = fLaw := by
    have e : mg (stmtName (stmtAt theProg 10)) = some (.ref fLaw) := hlaw
    rw [e] at mL; cases mL; rfl
  subst efL
  obtain ⟨n, e1⟩ := hl
  have hargP : argA ≠ PT := tab_ne hP e1 (fun _ z => by cases z)
  have hR : Room 7 callerA := ⟨rfl, by decide, by decide⟩
  have hreps : Reps (fun a => a = PT) s₁.heap [.ref argA] [.list (ns.map .int)] := by
    refine .cons (.list (vs := vs.toArray) hargP ⟨n, e1⟩ ?_) .nil
    show Reps _ _ vs _
    clear hargP e1 hlen hlawfn
    induction hr with
    | nil => exact .nil
    | cons _ _ _ ih => exact .cons (.int _ _) ih
  refine wpAny_mono (hlawfn.wp callerA (fun a => a = PT) s₁ [.ref argA] hR T0 (fun a e z => by rw [z, hP] at e; cases e) (fun a m => m) ⟨#[], hP, trivial, fun x _ v hv => by cases hv⟩ hreps) (fun v s' ⟨q1, q2, q3, q4⟩ => ?_) fun _ _ x => x
  cases q1
  obtain ⟨ps, e, _⟩ := q4
  exact ⟨rfl, q2.1, q2.2.2, fun a o ha e => q3 a o ha e, ps, e⟩
end Mine
end

section
namespace Mine
open PySem PySem.Calls PyProof.Rows PySem.W

/-! facts of the top's objects, by computation -/
noncomputable def objOf (K : Frag) (a : Addr) : Obj := (K.lookup a).getD default
noncomputable def funcOf (K : Frag) (f : Addr) : FuncData := match K.lookup f with
  | some ⟨_, _, .func fd, _⟩ => fd
  | _ => default
noncomputable def dictArr (K : Frag) (a : Addr) : Array DictEntry := match K.lookup a with
  | some ⟨_, _, .dict es _, _⟩ => es
  | _ => #[]
noncomputable def dictEp (K : Frag) (a : Addr) : Nat := match K.lookup a with
  | some ⟨_, _, .dict _ n, _⟩ => n
  | _ => 0
noncomputable def keysOk (es : Array DictEntry) : Bool := es.toList.all fun e => match e.key with
  | .str _ _ => true
  | _ => false
noncomputable def slotOf (K : Frag) (a : Addr) (i : Nat) : Option Value := ((objOf K a).slots.toList[i]?).join

theorem MethIn.of {K : Frag} {st : Stmt} {pn : List Str} {f : Addr} (e1 : K.lookup f = some (objOf K f)) (e2 : (objOf K f).data = .func (funcOf K f)) (e3 : codeIn K (funcOf K f).code (funcOf K f).qualname = true) (e4 : (funcOf K f).body = .stmts (stmtBody st)) (e5 : (funcOf K f).scope = stmtScope st)
    (e6 : (funcOf K f).closure = []) (e7 : (funcOf K f).globals = mainGlobals) (e8 : (funcOf K f).builtins = builtinsNs) (e9 : ∀ vals : List Value, vals.length = pn.length → bindArgs (funcOf K f) ⟨vals, []⟩ = pure (pn.zip vals)) : MethIn K st pn f :=
  ⟨_, _, e1, e2, e3, e4, e5, e6, e7, e8, e9⟩
theorem keys_of {es : Array DictEntry} (h : keysOk es = true) : StrKeys es := fun e he => by
  have := List.all_eq_true.mp h e (Array.mem_toList_iff.mpr he)
  split at this
  · rename_i n t hk; exact ⟨n, t, hk⟩
  · cases this
theorem clsB_of {K : Frag} {ca : CA} {nm q : Str} {bs : List Value} {sn : List Str} {sub : List Value} {ab : Bool} {col : Option Bool} {dd : Option Addr} {newId : String}
    (e1 : K.lookup ca.aC = some (excClassObj nm q ca.aC ca.aN bs [.type "object"] true sn sub ab col dd (slotOf K ca.aC 0) (slotOf K ca.aC 1) (slotOf K ca.aC 2) (slotOf K ca.aC 3) (slotOf K ca.aC 5) newId)) (e2 : K.lookup ca.aN = some (objOf K ca.aN)) (e3 : (objOf K ca.aN).data = .dict (dictArr K ca.aN) (dictEp K ca.aN)) (e4 : keysOk (dictArr K ca.aN) = true)
    (f1 : nsFind (dictArr K ca.aN) "__getattribute__" = none) (f2 : nsFind (dictArr K ca.aN) "__getattr__" = none) (f3 : nsFind (dictArr K ca.aN) "__setattr__" = none) (f4 : nsFind (dictArr K ca.aN) "lineno" = none) (f5 : nsFind (dictArr K ca.aN) "instream" = none) (f6 : nsFind (dictArr K ca.aN) "whitespace" = none) (f7 : nsFind (dictArr K ca.aN) "pushback" = none)
    (f8 : nsFind (dictArr K ca.aN) "_read_char" = some (.ref ca.fR)) (f9 : nsFind (dictArr K ca.aN) "get_token" = some (.ref ca.fG)) (f10 : nsFind (dictArr K ca.aN) "push_token" = some (.ref ca.fP))
    (g1 : K.lookup ca.fR = some (objOf K ca.fR)) (g2 : (objOf K ca.fR).cls = .type "function") (g3 : K.lookup ca.fG = some (objOf K ca.fG)) (g4 : (objOf K ca.fG).cls = .type "function") (g5 : K.lookup ca.fP = some (objOf K ca.fP)) (g6 : (objOf K ca.fP).cls = .type "function") :
    ∀ h, K.In h → ClsB ca h := fun h X =>
  ⟨nm, q, bs, sn, sub, ab, col, dd, _, _, _, _, _, newId, nsFind (dictArr K ca.aN), _, _, _, X _ _ e1, ⟨_, _, _, X _ _ e2, e3, keys_of e4, fun _ => rfl⟩, f1, f2, f3, f4, f5, f6, f7, f8, f9, f10, X _ _ g1, g2, X _ _ g3, g4, X _ _ g5, g6⟩

theorem lookup_filter {K : Frag} {PT : Addr} : ∀ a o, (K.filter fun p => p.1 != PT).lookup a = some o → K.lookup a = some o ∧ a ≠ PT := by
  induction K with
  | nil => intro a o h; cases h
  | cons p K ih =>
    intro a o h
    rw [List.filter_cons] at h
    by_cases hp : p.1 = PT
    · rw [if_neg (by simp [hp])] at h
      obtain ⟨h1, h2⟩ := ih a o h
      refine ⟨?_, h2⟩
      rw [List.lookup_cons]
      have : (a == p.1) = false := by rw [hp]; simpa using h2
      rw [this]; exact h1
    · rw [if_pos (by simpa using hp)] at h
      rw [List.lookup_cons] at h ⊢
      cases ha : a == p.1 with
      | true =>
        rw [ha] at h
        refine ⟨h, ?_⟩
        rw [eq_of_beq ha]; exact hp
      | false =>
        rw [ha] at h
        exact ih a o h

theorem script_plain {R : WRecords} {w : World} {s₀ s₁ : Shared} {ns : List Int} {a : Addr} {as : List Addr} (L : Laid R w s₀ s₁ [ofPy (PyData.list (ns.map PyData.int))] [.ref a] as) : ∃ vs, s₁.heap.PlainList a vs := by
  obtain ⟨ord, _, e⟩ := L.laid
  simp only [ofPy, layAllW, layW] at e
  cases q : layAllW R (classAt s₀.heap) w.params ord (ofPys (List.map PyData.int ns)) s₀ with
  | none => rw [q] at e; cases e
  | some r =>
    rw [q] at e
    simp only [Option.some.injEq, Prod.mk.injEq, List.cons.injEq, Value.ref.injEq] at e
    obtain ⟨⟨ea, _⟩, es⟩ := e
    rw [← es, ← ea]
    exact ⟨_, 0, Heap.get?_push_size _ rfl⟩
theorem plain_of_list {h : Heap} {a : Addr} {xs ys : Array Value} (p : h.PlainList a xs) (l : h.IsList a ys) : h.PlainList a ys := by
  obtain ⟨n, e⟩ := p
  obtain ⟨o, e', c, m, d⟩ := l
  rw [e] at e'; cases e'
  cases d
  exact ⟨n, e⟩

noncomputable def recD (i : Nat) (pos : Pos) : DefRec := ⟨stmtName (stmtAt theProg i), stmtArgs (stmtAt theProg i), stmtBody (stmtAt theProg i), stmtScope (stmtAt theProg i), pos⟩
noncomputable def stmtPos : Stmt → Pos
  | .FunctionDef _ _ _ _ _ _ _ _ _ p => p
  | _ => ⟨0, 0, 0, 0⟩
theorem recIs.of {vw : Program} {i j : Nat} (e : (recsOf vw)[j]? = some (recD i (stmtPos (stmtAt theProg i)))) : recIs vw i := ⟨_, List.mem_of_getElem? e, rfl, rfl, rfl, rfl⟩
end Mine
end

section
namespace Mine

/-! the sums: plain mathematics -/
theorem bitStep_xor (x y : Nat) : bitStep (x ^^^ y) = bitStep x ^^^ bitStep y := by
  have h1 : (x ^^^ y) / 2 = x / 2 ^^^ y / 2 := Nat.xor_div_two
  have h2 : (x ^^^ y) % 2 = 1 ↔ ¬(x % 2 = 1 ↔ y % 2 = 1) := Nat.xor_mod_two_eq_one
  unfold bitStep
  rw [h1]
  by_cases hx : x % 2 = 1 <;> by_cases hy : y % 2 = 1
  · rw [if_neg (by rw [h2]; simp [hx, hy]), if_pos hx, if_pos hy]
    rw [Nat.xor_assoc, Nat.xor_comm 3988292384, Nat.xor_assoc, Nat.xor_self, Nat.xor_zero]
  · rw [if_pos (by rw [h2]; simp [hx, hy]), if_pos hx, if_neg hy]
    rw [Nat.xor_assoc, Nat.xor_assoc, Nat.xor_comm 3988292384]
  · rw [if_pos (by rw [h2]; simp [hx, hy]), if_neg hx, if_pos hy, Nat.xor_assoc]
  · rw [if_neg (by rw [h2]; simp [hx, hy]), if_neg hx, if_neg hy]
theorem bitSteps_xor (n x y : Nat) : bitSteps n (x ^^^ y) = bitSteps n x ^^^ bitSteps n y := by
  induction n with
  | zero => rfl
  | succ n ih => rw [bitSteps, ih, bitStep_xor]; rfl
theorem bitStep_lt {x : Nat} (h : x < 2 ^ 32) : bitStep x < 2 ^ 32 := by
  unfold bitStep
  split
  · exact Nat.xor_lt_two_pow (by omega) (by decide)
  · omega
theorem bitSteps_lt {x : Nat} (n : Nat) (h : x < 2 ^ 32) : bitSteps n x < 2 ^ 32 := by
  induction n with
  | zero => exact h
  | succ n ih => exact bitStep_lt ih
theorem backStep_bitStep {x : Nat} (h : x < 2 ^ 32) : backStep (bitStep x) = x := by
  unfold bitStep
  by_cases hx : x % 2 = 1
  · rw [if_pos hx]
    have hb : (x / 2 ^^^ 3988292384).testBit 31 = true := by
      rw [Nat.testBit_xor, Nat.testBit_lt_two_pow (show x / 2 < 2 ^ 31 by omega)]
      decide
    have hge : 2147483648 ≤ x / 2 ^^^ 3988292384 := Nat.ge_two_pow_of_testBit hb
    unfold backStep
    rw [if_pos hge, Nat.xor_assoc, Nat.xor_self, Nat.xor_zero]
    omega
  · rw [if_neg hx]
    unfold backStep
    rw [if_neg (by omega)]
    omega
theorem backBits_succ (n r : Nat) : backBits (n + 1) r = backBits n (backStep r) := by
  induction n with
  | zero => rfl
  | succ n ih => rw [backBits, ih]; rfl
theorem backBits_bitSteps {x : Nat} (n : Nat) (h : x < 2 ^ 32) : backBits n (bitSteps n x) = x := by
  induction n with
  | zero => rfl
  | succ n ih => rw [backBits_succ, bitSteps, backStep_bitStep (bitSteps_lt n h)]; exact ih
theorem crcOf_lt {r c : Nat} (h : r < 2 ^ 32) (hc : c < 256) : crcOf r c < 2 ^ 32 := bitSteps_lt 8 (Nat.xor_lt_two_pow h (by omega))
theorem back_crc {r c : Nat} (h : r < 2 ^ 32) (hc : c < 256) : backBits 8 (crcOf r c) ^^^ c = r := by
  unfold crcOf genCrc
  rw [backBits_bitSteps 8 (Nat.xor_lt_two_pow h (by omega)), Nat.xor_assoc, Nat.xor_self, Nat.xor_zero]
theorem foldl_lt : ∀ (x : List Nat) {r : Nat}, r < 2 ^ 32 → (∀ c ∈ x, c < 256) → x.foldl crcOf r < 2 ^ 32
  | [], _, h, _ => h
  | c :: x, r, h, hx => foldl_lt x (crcOf_lt h (hx c List.mem_cons_self)) fun d hd => hx d (List.mem_cons_of_mem _ hd)
theorem lawBack_foldl : ∀ (x : List Nat) {r : Nat}, r < 2 ^ 32 → (∀ c ∈ x, c < 256) → lawBack (x.foldl crcOf r) x = r
  | [], _, _, _ => rfl
  | c :: x, r, h, hx => by
    have ih := lawBack_foldl x (crcOf_lt h (hx c List.mem_cons_self)) fun d hd => hx d (List.mem_cons_of_mem _ hd)
    unfold lawBack at ih ⊢
    rw [List.reverse_cons, List.foldl_append]
    show backBits 8 (List.foldl _ (List.foldl crcOf (crcOf r c) x) x.reverse) ^^^ c = r
    rw [ih]
    exact back_crc h (hx c List.mem_cons_self)

theorem crcOf_inj {x y c : Nat} (hx : x < 2 ^ 32) (hy : y < 2 ^ 32) (hc : c < 256) (h : crcOf x c = crcOf y c) : x = y := by
  rw [← back_crc hx hc, h, back_crc hy hc]
theorem stepsN_lt {a w : Nat} (ha : a < 2 ^ 32) (hw : w < 256) : ∀ n, stepsN a w n < 2 ^ 32
  | 0 => ha
  | n + 1 => crcOf_lt (stepsN_lt ha hw n) hw
theorem stepsN_add {a w : Nat} (n : Nat) : ∀ m, stepsN a w (n + m) = stepsN (stepsN a w n) w m
  | 0 => rfl
  | m + 1 => by show crcOf (stepsN a w (n + m)) w = crcOf (stepsN (stepsN a w n) w m) w; rw [stepsN_add n m]
theorem stepsN_inj {x y w : Nat} (hx : x < 2 ^ 32) (hy : y < 2 ^ 32) (hw : w < 256) : ∀ n, stepsN x w n = stepsN y w n → x = y
  | 0, h => h
  | n + 1, h => stepsN_inj hx hy hw n (crcOf_inj (stepsN_lt hx hw n) (stepsN_lt hy hw n) hw h)
theorem stepsN_foldl {a w : Nat} : ∀ n, (List.replicate n w).foldl crcOf a = stepsN a w n
  | 0 => rfl
  | n + 1 => by
    rw [List.replicate_succ', List.foldl_append, stepsN_foldl n]; rfl

/-! four signs taken back -/
theorem bitStep_backStep {r : Nat} (h : r < 2 ^ 32) : bitStep (backStep r) = r := by
  unfold backStep
  by_cases hr : 2147483648 ≤ r
  · rw [if_pos hr]
    unfold bitStep
    rw [if_pos (by omega)]
    have e : ((r ^^^ 3988292384) * 2 + 1) / 2 = r ^^^ 3988292384 := by omega
    rw [e, Nat.xor_assoc, Nat.xor_self, Nat.xor_zero]
  · rw [if_neg hr]
    unfold bitStep
    rw [if_neg (by omega)]
    omega
theorem backStep_lt {r : Nat} (h : r < 2 ^ 32) : backStep r < 2 ^ 32 := by
  unfold backStep
  split
  · rename_i hr
    have hb : (r ^^^ 3988292384) < 2 ^ 31 := by
      refine Nat.lt_pow_two_of_testBit _ fun i hi => ?_
      rw [Nat.testBit_xor]
      by_cases h31 : i = 31
      · subst h31
        have h1 : r.testBit 31 = true := by
          rw [Nat.testBit_eq_decide_div_mod_eq]
          have : r / 2 ^ 31 = 1 := by omega
          rw [this]; rfl
        rw [h1]; decide
      · rw [Nat.testBit_lt_two_pow (Nat.lt_of_lt_of_le h (Nat.pow_le_pow_right (by decide) (by omega))), Nat.testBit_lt_two_pow (Nat.lt_of_lt_of_le (show 3988292384 < 2 ^ 32 by decide) (Nat.pow_le_pow_right (by decide) (by omega)))]
        rfl
    omega
  · omega
theorem backBits_lt {r : Nat} (h : r < 2 ^ 32) : ∀ n, backBits n r < 2 ^ 32
  | 0 => h
  | n + 1 => backStep_lt (backBits_lt h n)
theorem bitSteps_succ (n r : Nat) : bitSteps (n + 1) r = bitSteps n (bitStep r) := by
  induction n with
  | zero => rfl
  | succ n ih => rw [bitSteps, ih]; rfl
theorem bitSteps_backBits {r : Nat} (h : r < 2 ^ 32) : ∀ n, bitSteps n (backBits n r) = r
  | 0 => rfl
  | n + 1 => by rw [bitSteps_succ, backBits, bitStep_backStep (backBits_lt h n)]; exact bitSteps_backBits h n
theorem crc_back {r c : Nat} (h : r < 2 ^ 32) : crcOf (backBits 8 r ^^^ c) c = r := by
  unfold crcOf genCrc
  rw [Nat.xor_assoc, Nat.xor_self, Nat.xor_zero, bitSteps_backBits h]
theorem back4 {r w : Nat} (h : r < 2 ^ 32) (hw : w < 256) : lawBack r [w, w, w, w] < 2 ^ 32 ∧ stepsN (lawBack r [w, w, w, w]) w 4 = r := by
  have u : ∀ {x : Nat}, x < 2 ^ 32 → backBits 8 x ^^^ w < 2 ^ 32 := fun hx => Nat.xor_lt_two_pow (backBits_lt hx 8) (by omega)
  refine ⟨u (u (u (u h))), ?_⟩
  show crcOf (crcOf (crcOf (crcOf (backBits 8 (backBits 8 (backBits 8 (backBits 8 r ^^^ w) ^^^ w) ^^^ w) ^^^ w) w) w) w) w = r
  rw [crc_back (u (u (u h))), crc_back (u (u h)), crc_back (u h), crc_back h]
theorem backN_steps {b w : Nat} (h : b < 2 ^ 32) (hw : w < 256) : ∀ f, backN b w f < 2 ^ 32 ∧ stepsN (backN b w f) w (4 * f) = b
  | 0 => ⟨h, rfl⟩
  | f + 1 => by
    obtain ⟨h1, h2⟩ := backN_steps h hw f
    obtain ⟨h3, h4⟩ := back4 h1 hw
    refine ⟨h3, ?_⟩
    show stepsN (lawBack (backN b w f) [w, w, w, w]) w (4 * (f + 1)) = b
    rw [show 4 * (f + 1) = 4 + 4 * f by omega, stepsN_add, h4, h2]
theorem hits_iff {a b w f k : Nat} (ha : a < 2 ^ 32) (hb : b < 2 ^ 32) (hw : w < 256) : stepsN a w k = backN b w f ↔ stepsN a w (k + 4 * f) = b := by
  obtain ⟨h1, h2⟩ := backN_steps hb hw f
  constructor
  · intro e; rw [stepsN_add, e, h2]
  · intro e
    refine stepsN_inj (stepsN_lt ha hw k) h1 hw (4 * f) ?_
    rw [← stepsN_add, e, h2]
theorem hits_eq {a b w f : Nat} (ha : a < 2 ^ 32) (hb : b < 2 ^ 32) (hw : w < 256) : hits a (backN b w f) w f = ((List.range 4).map (· + 4 * f)).filter fun n => decide (stepsN a w n = b) := by
  unfold hits
  rw [List.filter_map, ← List.filterMap_eq_map, ← List.filterMap_eq_filter, List.filterMap_filterMap]
  congr 1
  funext k
  have := hits_iff (f := f) (k := k) ha hb hw
  by_cases h : stepsN a w k = backN b w f
  · have h' := this.mp h
    simp [h, h', Option.guard]
  · have h' : ¬ stepsN a w (k + 4 * f) = b := fun e => h (this.mpr e)
    simp [h, h', Option.guard]
theorem lawCounts_eq {a b w : Nat} (ha : a < 2 ^ 32) (hb : b < 2 ^ 32) (hw : w < 256) : lawCounts a b w = (List.range 16).filter fun n => decide (stepsN a w n = b) := by
  have e16 : List.range 16 = ((((List.range 4).map (· + 4 * 0)) ++ (List.range 4).map (· + 4 * 1)) ++ (List.range 4).map (· + 4 * 2)) ++ (List.range 4).map (· + 4 * 3) := by decide
  rw [e16, List.filter_append, List.filter_append, List.filter_append, ← hits_eq ha hb hw, ← hits_eq ha hb hw, ← hits_eq ha hb hw, ← hits_eq ha hb hw]
  rfl

/-! no round in less than sixteen steps -/
noncomputable def Lin (F : Nat → Nat) : Prop := ∀ x y, F (x ^^^ y) = F x ^^^ F y
theorem Lin.zero {F : Nat → Nat} (h : Lin F) : F 0 = 0 := by
  have := h 0 0
  rw [Nat.xor_self, Nat.xor_self] at this; exact this
theorem split_top {x n : Nat} (h1 : 2 ^ n ≤ x) (h2 : x < 2 ^ (n + 1)) : x ^^^ 2 ^ n < 2 ^ n := by
  refine Nat.lt_pow_two_of_testBit _ fun i hi => ?_
  rw [Nat.testBit_xor, Nat.testBit_two_pow]
  by_cases h : i = n
  · subst h
    have : x.testBit i = true := by
      rw [Nat.testBit_eq_decide_div_mod_eq]
      have : x / 2 ^ i = 1 := by
        refine Nat.div_eq_of_lt_le (by omega) ?_
        rw [Nat.pow_succ] at h2; omega
      rw [this]; rfl
    rw [this]; simp
  · rw [Nat.testBit_lt_two_pow (Nat.lt_of_lt_of_le h2 (Nat.pow_le_pow_right (by decide) (by omega)))]
    simp; omega
theorem lin_basis {F : Nat → Nat} (h : Lin F) : ∀ n, (∀ i, i < n → F (2 ^ i) = 2 ^ i) → ∀ x, x < 2 ^ n → F x = x
  | 0, _, x, hx => by
    have : x = 0 := by simpa using hx
    subst this; exact h.zero
  | n + 1, hb, x, hx => by
    have ih := lin_basis h n fun i hi => hb i (by omega)
    by_cases hlt : x < 2 ^ n
    · exact ih x hlt
    · have h3 := split_top (by omega) hx
      have e : x = (x ^^^ 2 ^ n) ^^^ 2 ^ n := by rw [Nat.xor_assoc, Nat.xor_self, Nat.xor_zero]
      conv => lhs; rw [e]
      rw [h, ih _ h3, hb n (by omega)]
      exact e.symm
noncomputable def sumG : Nat → Nat → Nat
  | 0, _ => 0
  | e + 1, x => x ^^^ sumG e (genCrc x)
noncomputable def applyM : Nat → Nat → Nat → Nat
  | 0, _, _ => 0
  | n + 1, m, y => (if m % 2 = 1 then y else 0) ^^^ applyM n (m / 2) (bitStep y)
theorem xor4 (a b c d : Nat) : (a ^^^ b) ^^^ (c ^^^ d) = (a ^^^ c) ^^^ (b ^^^ d) := by
  rw [Nat.xor_assoc, ← Nat.xor_assoc b, Nat.xor_comm b c, Nat.xor_assoc c, ← Nat.xor_assoc]
theorem sumG_lin : ∀ e, Lin (sumG e)
  | 0, x, y => by simp [sumG]
  | e + 1, x, y => by
    have h : genCrc (x ^^^ y) = genCrc x ^^^ genCrc y := bitSteps_xor 8 x y
    rw [sumG, h, sumG_lin e, xor4]; rfl
theorem applyM_lin : ∀ n m, Lin (applyM n m)
  | 0, _, x, y => by simp [applyM]
  | n + 1, m, x, y => by
    rw [applyM, bitStep_xor, applyM_lin n (m / 2), applyM, applyM, xor4]
    congr 1
    split <;> rfl
noncomputable def masks : List Nat := [0, 1, 3140311070, 2110547094, 2073644663, 852758085, 3281207082, 1194294435, 773776101, 2764264054, 737159629, 3009221701, 1487358573, 1462224510, 743603980, 2900418337]
theorem masks_ok : ((List.range 16).all fun e => e == 0 || (List.range 32).all fun i => applyM 32 (masks.getD e 0) (sumG e (2 ^ i)) == 2 ^ i) = true := by decide +kernel
theorem sumG_inj {e x : Nat} (h0 : 0 < e) (h1 : e < 16) (hx : x < 2 ^ 32) (h : sumG e x = 0) : x = 0 := by
  have lin : Lin (fun x => applyM 32 (masks.getD e 0) (sumG e x)) := fun x y => by
    show applyM 32 _ (sumG e (x ^^^ y)) = _
    rw [sumG_lin e, applyM_lin]
  have hb : ∀ i, i < 32 → applyM 32 (masks.getD e 0) (sumG e (2 ^ i)) = 2 ^ i := fun i hi => by
    have := List.all_eq_true.mp masks_ok e (List.mem_range.mpr h1)
    simp only [Bool.or_eq_true, beq_iff_eq] at this
    rcases this with q | q
    · omega
    · have := List.all_eq_true.mp q i (List.mem_range.mpr hi)
      exact eq_of_beq this
  have := lin_basis lin 32 hb x hx
  have e2 : applyM 32 (masks.getD e 0) (sumG e x) = x := this
  rw [h] at e2
  rw [← e2]
  exact (applyM_lin _ _).zero
theorem crcOf_diff (x y w : Nat) : crcOf x w ^^^ crcOf y w = genCrc (x ^^^ y) := by
  unfold crcOf
  rw [← bitSteps_xor, xor4, Nat.xor_self, Nat.xor_zero]
theorem steps_diff {a w : Nat} : ∀ e, a ^^^ stepsN a w e = sumG e (a ^^^ crcOf a w)
  | 0 => by simp [stepsN, sumG]
  | e + 1 => by
    have h1 : stepsN a w (e + 1) = stepsN (crcOf a w) w e := by rw [Nat.add_comm, stepsN_add 1 e]; rfl
    have h2 := steps_diff (a := crcOf a w) (w := w) e
    rw [crcOf_diff] at h2
    rw [h1, sumG, ← h2, Nat.xor_assoc, ← Nat.xor_assoc (crcOf a w), Nat.xor_self, Nat.zero_xor]
theorem no_round {a w e : Nat} (ha : a < 2 ^ 32) (hw : w < 256) (h0 : 0 < e) (h1 : e < 16) (h : stepsN a w e = a) : crcOf a w = a := by
  have hd := steps_diff (a := a) (w := w) e
  rw [h, Nat.xor_self] at hd
  have := sumG_inj h0 h1 (Nat.xor_lt_two_pow ha (crcOf_lt ha hw)) hd.symm
  have e2 : a = crcOf a w := by
    have q := congrArg (· ^^^ crcOf a w) this
    simp only [Nat.xor_assoc, Nat.xor_self, Nat.xor_zero, Nat.zero_xor] at q
    exact q
  exact e2.symm
theorem steps_still {a w : Nat} (h : crcOf a w = a) : ∀ n, stepsN a w n = a
  | 0 => rfl
  | n + 1 => by show crcOf (stepsN a w n) w = a; rw [steps_still h n, h]
theorem steps_eq {a w n d : Nat} (ha : a < 2 ^ 32) (hw : w < 256) (hn : n < 16) (hd : d < 16) (hs : ¬ crcOf a w = a) : stepsN a w n = stepsN a w d ↔ n = d := by
  constructor
  · intro h
    rcases Nat.lt_trichotomy n d with q | q | q
    · refine absurd (no_round ha hw (e := d - n) (by omega) (by omega) ?_) hs
      refine stepsN_inj (stepsN_lt ha hw _) ha hw n ?_
      rw [← stepsN_add, show d - n + n = d by omega, h]
    · exact q
    · refine absurd (no_round ha hw (e := n - d) (by omega) (by omega) ?_) hs
      refine stepsN_inj (stepsN_lt ha hw _) ha hw d ?_
      rw [← stepsN_add, show n - d + d = n by omega, h]
  · intro h; rw [h]
theorem filter_one : ∀ {n d : Nat}, d < n → (List.range n).filter (fun k => decide (k = d)) = [d]
  | 0, _, h => by omega
  | n + 1, d, h => by
    rw [List.range_succ, List.filter_append]
    by_cases e : d = n
    · subst e
      have : (List.range d).filter (fun k => decide (k = d)) = [] := by
        rw [List.filter_eq_nil_iff]
        intro k hk
        have := List.mem_range.mp hk
        simp; omega
      rw [this]; simp
    · rw [filter_one (by omega : d < n)]
      simp; omega
/-- the counts that the sums tell -/
theorem counts_told {a w d : Nat} (ha : a < 2 ^ 32) (hw : w < 256) (hd : d < 16) : lawCounts a (stepsN a w d) w = if crcOf a w = a then List.range 16 else [d] := by
  rw [lawCounts_eq ha (stepsN_lt ha hw d) hw]
  split
  · rename_i h
    rw [List.filter_eq_self]
    intro n _
    rw [steps_still h, steps_still h]; simp
  · rename_i h
    have e : ∀ n ∈ List.range 16, (decide (stepsN a w n = stepsN a w d)) = decide (n = d) := fun n hn => by
      rw [decide_eq_decide]
      exact steps_eq ha hw (List.mem_range.mp hn) hd h
    rw [List.filter_congr e]
    exact filter_one hd
end Mine
end

section
namespace Mine

/-! the lexer over the written words: plain mathematics -/
noncomputable def enc (bare all : Bool) : Nat → List Nat → List Nat
  | _, [] => []
  | k, c :: r => ((if needsB bare k c || all then [92] else []) ++ [c]) ++ enc bare all (k + 1) r
theorem enc_body (word : List Nat) (m : Nat) : ∀ j i, i + j = word.length → bodyW word m i ++ enc (bareB word m) (decide (m % 2 = 1)) i (word.drop i) = bodyW word m word.length
  | 0, i, h => by
    have : i = word.length := by omega
    subst this
    rw [List.drop_length]
    simp [enc]
  | j + 1, i, h => by
    have hi : i < word.length := by omega
    have e : word.drop i = word[i] :: word.drop (i + 1) := List.drop_eq_getElem_cons hi
    have eg : word.getD i 0 = word[i] := by rw [List.getD_eq_getElem?_getD, List.getElem?_eq_getElem hi]; rfl
    rw [e, enc, ← eg, ← List.append_assoc]
    exact enc_body word m j (i + 1) (by omega)
theorem body_enc (word : List Nat) (m : Nat) : bodyW word m word.length = enc (bareB word m) (decide (m % 2 = 1)) 0 word := by
  have := enc_body word m word.length 0 (by omega)
  rw [← this]; simp [bodyW]

theorem quoteTok_esc {c : Nat} {r : List Nat} : quoteTok (92 :: c :: r) = (c :: (quoteTok r).1, (quoteTok r).2 + 2) := by simp [quoteTok]
theorem bareTok_esc {c : Nat} {r : List Nat} : bareTok (92 :: c :: r) = (c :: (bareTok r).1, (bareTok r).2 + 2) := by simp [bareTok, ws]
theorem quote_enc (a : Bool) : ∀ (w : List Nat) (k : Nat) (r : List Nat), quoteTok (enc false a k w ++ r) = (w ++ (quoteTok r).1, (enc false a k w).length + (quoteTok r).2)
  | [], k, r => by simp [enc]
  | c :: w, k, r => by
    rw [enc]
    cases hb : needsB false k c || a with
    | true =>
      have ih := quote_enc a w (k + 1) r
      rw [if_pos rfl]
      show quoteTok (92 :: c :: (enc false a (k + 1) w ++ r)) = _
      rw [quoteTok_esc, ih]
      simp; omega
    | false =>
      have ih := quote_enc a w (k + 1) r
      rw [if_neg (by decide)]
      have hn : needsB false k c = false := by
        rw [Bool.or_eq_false_iff] at hb; exact hb.1
      have hc : c ∉ [34, 92] := by simpa [needsB] using hn
      show quoteTok (c :: (enc false a (k + 1) w ++ r)) = _
      rw [quoteTok_other (by intro e; exact hc (by simp [e])) (by intro e; exact hc (by simp [e])), ih]
      simp; omega
theorem bare_sign {k c : Nat} (h : needsB true k c = false) : c ∉ ws ∧ c ≠ 92 ∧ (k = 0 → c ≠ 34) := by
  unfold needsB at h
  simp only [if_true, Bool.or_eq_false_iff, decide_eq_false_iff_not, List.mem_cons, List.not_mem_nil, or_false, not_or] at h
  obtain ⟨⟨h1, h2, h3, h4, h5⟩, h6⟩ := h
  refine ⟨by simp [ws, h1, h2, h3, h4], h5, fun hk hc => ?_⟩
  subst hk hc
  simp at h6
theorem bare_enc (a : Bool) : ∀ (w : List Nat) (k : Nat) (r : List Nat), bareTok (enc true a k w ++ r) = (w ++ (bareTok r).1, (enc true a k w).length + (bareTok r).2)
  | [], k, r => by simp [enc]
  | c :: w, k, r => by
    rw [enc]
    cases hb : needsB true k c || a with
    | true =>
      have ih := bare_enc a w (k + 1) r
      rw [if_pos rfl]
      show bareTok (92 :: c :: (enc true a (k + 1) w ++ r)) = _
      rw [bareTok_esc, ih]
      simp; omega
    | false =>
      have ih := bare_enc a w (k + 1) r
      rw [if_neg (by decide)]
      have hn : needsB true k c = false := by
        rw [Bool.or_eq_false_iff] at hb; exact hb.1
      obtain ⟨h1, h2, _⟩ := bare_sign hn
      show bareTok (c :: (enc true a (k + 1) w ++ r)) = _
      rw [bareTok_other h1 h2, ih]
      simp; omega
theorem lex_bare (a : Bool) (c : Nat) (w r : List Nat) : lexTok (enc true a 0 (c :: w) ++ r) = (c :: w ++ (bareTok r).1, (enc true a 0 (c :: w)).length + (bareTok r).2) := by
  rw [enc]
  have ih := bare_enc a w 1 r
  cases hb : needsB true 0 c || a with
  | true =>
    rw [if_pos rfl]
    show lexTok (92 :: c :: (enc true a 1 w ++ r)) = _
    rw [lexTok_esc, ih]
    simp; omega
  | false =>
    rw [if_neg (by decide)]
    have hn : needsB true 0 c = false := by
      rw [Bool.or_eq_false_iff] at hb; exact hb.1
    obtain ⟨h1, h2, h3⟩ := bare_sign hn
    show lexTok (c :: (enc true a 1 w ++ r)) = _
    rw [lexTok_other h1 (h3 rfl) h2, ih]
    simp; omega
theorem lex_quote (a : Bool) (w r : List Nat) : lexTok (34 :: (enc false a 0 w ++ r)) = (w ++ (quoteTok r).1, (enc false a 0 w).length + (quoteTok r).2 + 1) := by
  rw [lexTok_quote, quote_enc]
theorem lex_ws {k : Nat} (hk : k ∈ ws) : ∀ (n : Nat) (r : List Nat), lexTok (List.replicate n k ++ r) = ((lexTok r).1, n + (lexTok r).2)
  | 0, r => by simp
  | n + 1, r => by
    rw [List.replicate_succ]
    show lexTok (k :: (List.replicate n k ++ r)) = _
    rw [lexTok_ws hk, lex_ws hk n r]
    simp; omega
theorem bare_word {word : List Nat} {m : Nat} (h : bareB word m = true) : ∃ c w, word = c :: w := by
  cases word with
  | nil => simp [bareB] at h
  | cons c w => exact ⟨c, w, rfl⟩
theorem tok_full {word : List Nat} {m wh : Nat} (hw : wh ∈ ws) (r : List Nat) : lexTok (lawWritten word m [wh] ++ r) = (word, (lawWritten word m [wh]).length) := by
  unfold lawWritten
  rw [body_enc]
  cases hb : bareB word m with
  | true =>
    obtain ⟨c, w, rfl⟩ := bare_word hb
    rw [if_pos rfl, List.append_assoc, lex_bare]
    show (c :: w ++ (bareTok (wh :: r)).1, _ + (bareTok (wh :: r)).2) = _
    rw [bareTok_end hw]
    simp
  | false =>
    rw [if_neg (by decide), List.append_assoc, List.append_assoc]
    show lexTok (34 :: (enc false _ 0 word ++ (34 :: r))) = _
    rw [lex_quote, quoteTok_end]
    simp
theorem tail_bare : ∀ e, e ≤ 1 → bareTok (List.replicate e 92) = ([], e)
  | 0, _ => by simp [bareTok]
  | 1, _ => by simp [bareTok, ws]
  | n + 2, h => by omega
theorem tail_quote : ∀ e, e ≤ 1 → quoteTok (List.replicate e 92) = ([], e)
  | 0, _ => by simp [quoteTok]
  | 1, _ => by simp [quoteTok]
  | n + 2, h => by omega
theorem tok_cut {word : List Nat} {m wh e : Nat} (he : e ≤ 1) : lexTok ((lawWritten word m [wh]).dropLast ++ List.replicate e 92) = (word, ((lawWritten word m [wh]).dropLast ++ List.replicate e 92).length) := by
  unfold lawWritten
  rw [body_enc]
  cases hb : bareB word m with
  | true =>
    obtain ⟨c, w, rfl⟩ := bare_word hb
    rw [if_pos rfl, List.dropLast_concat, lex_bare, tail_bare e he]
    simp
  | false =>
    rw [if_neg (by decide), List.dropLast_concat, List.append_assoc]
    show lexTok (34 :: (enc false _ 0 word ++ List.replicate e 92)) = _
    rw [lex_quote, tail_quote e he]
    simp

/-! what is read -/
theorem adv_seg {text : List Nat} {crc : Nat → Nat → Nat} : ∀ (x y : List Nat) (l : LG), text.drop l.pos = x ++ y → adv text crc x.length l = { l with pos := l.pos + x.length, reg := x.foldl crc l.reg, line := l.line + (x.filter (· == 10)).length }
  | [], y, l, h => rfl
  | c :: x, y, l, h => by
    obtain ⟨h1, h2, h3⟩ := drop_cons (crc := crc) (r := x ++ y) h
    have e : nxt text crc l = { l with pos := l.pos + 1, reg := crc l.reg c, line := if c = 10 then l.line + 1 else l.line } := by unfold nxt; rw [h1]
    rw [List.length_cons, adv_succ, adv_seg x y _ h2, e]
    rw [List.filter_cons]
    by_cases hc : c = 10
    · subst hc
      simp; omega
    · simp [hc]; omega

namespace Dr
variable (D : Dr)
noncomputable def upto (i : Nat) : List Nat := (D.parts.take i).flatten
noncomputable def stAt (i : Nat) : LG := ⟨(D.upto i).length, (D.upto i).foldl crcOf 4294967295, 1 + ((D.upto i).filter (· == 10)).length, []⟩
end Dr
theorem kind_ws {D : Dr} {i : Nat} : D.kind i ∈ ws ∧ D.kind i < 256 := by
  unfold Dr.kind
  have : (D.first + i * D.step) % 4 < 4 := by omega
  generalize (D.first + i * D.step) % 4 = j at this
  have h : j = 0 ∨ j = 1 ∨ j = 2 ∨ j = 3 := by omega
  rcases h with rfl | rfl | rfl | rfl <;> decide
theorem upto_succ {D : Dr} {i : Nat} (hi : i < 4) : D.upto (i + 1) = D.upto i ++ D.part i := by
  have h : i = 0 ∨ i = 1 ∨ i = 2 ∨ i = 3 := by omega
  unfold Dr.upto Dr.parts
  rcases h with rfl | rfl | rfl | rfl <;> simp
theorem part_tok {D : Dr} {i : Nat} (hi : i < 4) : ∃ y, D.text = D.upto i ++ (D.part i ++ y) ∧ lexTok (D.part i ++ y) = ((D.words ++ [[]]).getD i [], (D.part i).length) := by
  have ht : D.text = D.part 0 ++ (D.part 1 ++ (D.part 2 ++ D.part 3)) := by unfold Dr.text Dr.parts; simp
  have full : ∀ (i : Nat) (y : List Nat), D.wr i = D.wr0 i → lexTok (D.part i ++ y) = (D.word i, (D.part i).length) := fun i y h => by
    unfold Dr.part
    rw [List.append_assoc, lex_ws kind_ws.1, h]
    unfold Dr.wr0
    rw [tok_full kind_ws.1]
    simp
  have h : i = 0 ∨ i = 1 ∨ i = 2 ∨ i = 3 := by omega
  rcases h with rfl | rfl | rfl | rfl
  · exact ⟨D.part 1 ++ (D.part 2 ++ D.part 3), by rw [ht]; simp [Dr.upto], full 0 _ rfl⟩
  · exact ⟨D.part 2 ++ D.part 3, by rw [ht]; simp [Dr.upto, Dr.parts], full 1 _ rfl⟩
  · refine ⟨D.part 3, by rw [ht]; simp [Dr.upto, Dr.parts], ?_⟩
    by_cases hf : D.fin = 0
    · exact full 2 _ (by show D.last = _; unfold Dr.last; rw [if_pos hf])
    · have hlt : D.fin < 3 := by unfold Dr.fin; omega
      have e3 : D.part 3 = [] := by
        have : D.count 3 = 0 := by unfold Dr.count; rw [if_neg (by decide), if_neg hf]
        unfold Dr.part
        rw [this]; rfl
      rw [e3, List.append_nil]
      unfold Dr.part
      rw [lex_ws kind_ws.1]
      have el : D.wr 2 = (D.wr0 2).dropLast ++ List.replicate (D.fin - 1) 92 := by show D.last = _; unfold Dr.last; rw [if_neg hf]
      rw [el]
      unfold Dr.wr0
      rw [tok_cut (by omega)]
      simp; rfl
  · refine ⟨[], by rw [ht]; simp [Dr.upto, Dr.parts], ?_⟩
    have e3 : D.part 3 = List.replicate (D.count 3) (D.kind 3) ++ [] := rfl
    rw [List.append_nil, e3, lex_ws kind_ws.1]
    simp [lexTok]; rfl
theorem run_is {D : Dr} : ∀ i, i ≤ 4 → lexRun D.text i = D.stAt i
  | 0, _ => rfl
  | i + 1, h => by
    have ih := run_is (D := D) i (by omega)
    obtain ⟨y, h1, h2⟩ := part_tok (D := D) (i := i) (by omega)
    have hd : D.text.drop (D.stAt i).pos = D.part i ++ y := by
      conv => lhs; rw [h1]
      show (D.upto i ++ (D.part i ++ y)).drop (D.upto i).length = _
      rw [List.drop_left]
    rw [lexRun, ih]
    unfold lexAt
    rw [hd, h2]
    show adv D.text crcOf (D.part i).length (D.stAt i) = _
    rw [adv_seg (D.part i) y _ hd]
    unfold Dr.stAt
    rw [upto_succ (by omega), List.length_append, List.foldl_append, List.filter_append, List.length_append]
    simp only [LG.mk.injEq, and_true, true_and]
    omega
theorem tok_is {D : Dr} {i : Nat} (hi : i < 4) : tokAt D.text (lexRun D.text i) = (D.words ++ [[]]).getD i [] := by
  rw [run_is i (by omega)]
  obtain ⟨y, h1, h2⟩ := part_tok (D := D) hi
  have hd : D.text.drop (D.stAt i).pos = D.part i ++ y := by
    conv => lhs; rw [h1]
    show (D.upto i ++ (D.part i ++ y)).drop (D.upto i).length = _
    rw [List.drop_left]
  unfold tokAt
  rw [hd, h2]
theorem run_end {D : Dr} : tokAt D.text (lexRun D.text 4) = [] ∧ lexRun D.text 5 = lexRun D.text 4 := by
  have hd : D.text.drop (lexRun D.text 4).pos = [] := by
    rw [run_is 4 (Nat.le_refl _)]
    show D.text.drop (D.upto 4).length = []
    have : D.upto 4 = D.text := rfl
    rw [this, List.drop_length]
  have e0 : lexTok [] = ([], 0) := rfl
  refine ⟨by unfold tokAt; rw [hd, e0], ?_⟩
  have e5 : lexRun D.text 5 = lexAt D.text (lexRun D.text 4) := by rw [lexRun]
  rw [e5]
  unfold lexAt
  rw [hd, e0]
  generalize lexRun D.text 4 = l
  rfl
theorem due1_is {D : Dr} {i : Nat} (hi : i < 4) : ent (tokAt D.text (lexRun D.text i)) (lexRun D.text (i + 1)) = D.due1 i := by
  rw [tok_is hi, run_is (i + 1) (by omega)]
  rfl
theorem callsA_is {D : Dr} : ∀ n, n ≤ 4 → callsA D.text n = D.dueA n
  | 0, _ => rfl
  | n + 1, h => by
    rw [callsA, callsA_is n (by omega), due1_is (by omega)]; rfl
theorem due_is (D : Dr) : callsL D.text D.words = D.due := by
  unfold callsL Dr.due
  show callsA D.text 4 ++ D.words.map (ent · (lexRun D.text 4)) ++ [ent (tokAt D.text (lexRun D.text 4)) (lexRun D.text 5)] = _
  rw [callsA_is 4 (Nat.le_refl _), run_end.1, run_end.2, run_is 4 (Nat.le_refl _), List.append_assoc, List.map_append]
  rfl

theorem enc_small {bare all : Bool} : ∀ (w : List Nat) (k : Nat), (∀ c ∈ w, c < 256) → ∀ c ∈ enc bare all k w, c < 256
  | [], _, _, c, hc => nomatch hc
  | d :: w, k, h, c, hc => by
    rw [enc] at hc
    rcases List.mem_append.mp hc with hc | hc
    · rcases List.mem_append.mp hc with hc | hc
      · split at hc
        · rcases List.mem_cons.mp hc with rfl | hc
          · decide
          · cases hc
        · cases hc
      · rcases List.mem_cons.mp hc with rfl | hc
        · exact h _ List.mem_cons_self
        · cases hc
    · exact enc_small w (k + 1) (fun e he => h e (List.mem_cons_of_mem _ he)) c hc
theorem written_small {word : List Nat} {m wh : Nat} (hw : ∀ c ∈ word, c < 256) (hh : wh < 256) : ∀ c ∈ lawWritten word m [wh], c < 256 := by
  have he := enc_small (bare := bareB word m) (all := decide (m % 2 = 1)) word 0 hw
  intro c hc
  unfold lawWritten at hc
  rw [body_enc] at hc
  split at hc
  · rcases List.mem_append.mp hc with hc | hc
    · exact he c hc
    · rcases List.mem_cons.mp hc with rfl | hc
      · exact hh
      · cases hc
  · rcases List.mem_append.mp hc with hc | hc
    · rcases List.mem_append.mp hc with hc | hc
      · rcases List.mem_cons.mp hc with rfl | hc
        · decide
        · cases hc
      · exact he c hc
    · rcases List.mem_cons.mp hc with rfl | hc
      · decide
      · cases hc
theorem wr_small {D : Dr} {i : Nat} : ∀ c ∈ D.wr i, c < 256 := by
  have h0 : ∀ i, ∀ c ∈ D.wr0 i, c < 256 := fun i => written_small (fun c hc => lawWord_small hc) kind_ws.2
  match i with
  | 0 => exact h0 0
  | 1 => exact h0 1
  | 2 =>
    intro c hc
    have hc' : c ∈ D.last := hc
    unfold Dr.last at hc'
    split at hc'
    · exact h0 2 c hc'
    · rcases List.mem_append.mp hc' with q | q
      · exact h0 2 c (List.dropLast_subset _ q)
      · rw [(List.mem_replicate.mp q).2]; decide
  | n + 3 => intro c hc; cases hc
theorem part_small {D : Dr} {i : Nat} : ∀ c ∈ D.part i, c < 256 := fun c hc => by
  unfold Dr.part at hc
  rcases List.mem_append.mp hc with q | q
  · rw [(List.mem_replicate.mp q).2]; exact kind_ws.2
  · exact wr_small c q
theorem reg_lt {D : Dr} : ∀ i, i ≤ 4 → (D.upto i).foldl crcOf 4294967295 < 2 ^ 32
  | 0, _ => by show 4294967295 < 2 ^ 32; decide
  | i + 1, h => by
    rw [upto_succ (by omega), List.foldl_append]
    exact foldl_lt _ (reg_lt i (by omega)) part_small
theorem holdsAll (D : Dr) (_ : D.Ok) : D.Holds where
  due := due_is D
  counts := fun i hi => by
    rw [run_is i (by omega), run_is (i + 1) (by omega)]
    have hlt := reg_lt (D := D) i (by omega)
    show lawCounts ((D.upto i).foldl crcOf 4294967295) (lawBack ((D.upto (i + 1)).foldl crcOf 4294967295) (D.wr i)) (D.kind i) = if crcOf ((D.upto i).foldl crcOf 4294967295) (D.kind i) = (D.upto i).foldl crcOf 4294967295 then _ else _
    rw [upto_succ hi, List.foldl_append]
    generalize (D.upto i).foldl crcOf 4294967295 = a at *
    have e : (D.part i).foldl crcOf a = (D.wr i).foldl crcOf (stepsN a (D.kind i) (D.count i)) := by
      unfold Dr.part
      rw [List.foldl_append, stepsN_foldl]
    rw [e, lawBack_foldl _ (stepsN_lt hlt kind_ws.2 _) wr_small]
    exact counts_told hlt kind_ws.2 count_lt
end Mine
end

end
open PySem PySem.W PySem.W.X PySem.W.ZRun PyProof.Rows
set_option maxRecDepth 100000 in
set_option maxHeartbeats 8000000 in
theorem PySem.Challenge.cw_pk0026_02_holds : PySem.Challenge.rw_pk0026_02.Holds := by
  w_on; o_law; z_head; (case hw => w_witness2)
  k_fill
  intro w s₀ s₁ mg mb G y fa o pm cd doc dV kV ho hd hcd hD hmg hg args vals as L hpre hlay hrd hwl hlo
  z_open y L KX ZH ZN ZT
  refine Ground.open G ?_
  intro T B D TE TW
  wrow_args hpre hlay hrd hwl hlo
  obtain ⟨hat, hsz⟩ := script_at L
  have htk := script_toks L ZT
  rw [ZN] at hat hsz
  subst hat
  x_fa T KX hmg
  rename_i ns hs hlay0 hL1 hr1 hl2 as1 as2 vs as3 ra hI hr hcond hcond' hL w1 r0
  clear y hd hcd hD
  obtain ⟨xs, hpl⟩ := Mine.script_plain L
  have hpl' := Mine.plain_of_list hpl hL
  have hlen : ns.length ≤ 63 := by omega
  have hTab := tab_of (c := 83) (P := 79) (x := Str.ofString "_law_calls") (d := Mine.recD 7 (Mine.stmtPos (Mine.stmtAt Mine.theProg 7))) T KX (by kernel_rfl) (by kernel_rfl)
  have hfin := Mine.final02 (prog := PySem.Challenge.rw_pk0026_02.row.prog) (w := w) (ca := ⟨59, 58, 35, 42, 49, 56⟩) (c := 83) (PT := 79) (argA := 102) (fLaw := 101) T KX Mine.lookup_filter hTab.1 hTab.2
    (.of (j := 0) (by kernel_rfl)) (.of (j := 1) (by kernel_rfl)) (.of (j := 2) (by kernel_rfl)) (.of (j := 3) (by kernel_rfl)) (.of (j := 4) (by kernel_rfl)) (.of (j := 5) (by kernel_rfl)) (.of (j := 6) (by kernel_rfl))
    (fun fa o fd hm ho hd => law_code (P := 79) KX T.g (by kernel_rfl) hm ho hd) ?hbi (mg_of KX T.g (by kernel_rfl)) ?hcls hmg hpl' hI hlen Mine.holdsAll
  case hbi =>
    intro x hx
    simp only [List.mem_cons, List.not_mem_nil, or_false] at hx
    rcases hx with rfl | rfl | rfl | rfl | rfl | rfl | rfl | rfl | rfl <;> exact mg_none_of KX T.g (by kernel_rfl)
  case hcls =>
    refine {
      made := by kernel_rfl
      fi := by kernel_rfl
      ty := by kernel_rfl
      keep := by kernel_rfl
      cls := Mine.clsB_of (nm := Str.ofString "_netrclex") (q := Str.ofString "_netrclex") (bs := [.type "object"]) (sn := []) (sub := []) (ab := false) (col := none) (dd := none) (newId := "object.__new__")
        (by kernel_rfl) (by kernel_rfl) (by kernel_rfl) (by kernel_rfl) (by kernel_rfl) (by kernel_rfl) (by kernel_rfl) (by kernel_rfl) (by kernel_rfl) (by kernel_rfl) (by kernel_rfl) (by kernel_rfl) (by kernel_rfl) (by kernel_rfl) (by kernel_rfl) (by kernel_rfl) (by kernel_rfl) (by kernel_rfl) (by kernel_rfl) (by kernel_rfl)
      mI := .of (by kernel_rfl) (by kernel_rfl) (by kernel_rfl) (by kernel_rfl) (by kernel_rfl) (by kernel_rfl) (by kernel_rfl) (by kernel_rfl) (fun vals hv => match vals, hv with | [a, b], _ => by kernel_rfl)
      mR := .of (by kernel_rfl) (by kernel_rfl) (by kernel_rfl) (by kernel_rfl) (by kernel_rfl) (by kernel_rfl) (by kernel_rfl) (by kernel_rfl) (fun vals hv => match vals, hv with | [a], _ => by kernel_rfl)
      mG := .of (by kernel_rfl) (by kernel_rfl) (by kernel_rfl) (by kernel_rfl) (by kernel_rfl) (by kernel_rfl) (by kernel_rfl) (by kernel_rfl) (fun vals hv => match vals, hv with | [a], _ => by kernel_rfl)
      mP := .of (by kernel_rfl) (by kernel_rfl) (by kernel_rfl) (by kernel_rfl) (by kernel_rfl) (by kernel_rfl) (by kernel_rfl) (by kernel_rfl) (fun vals hv => match vals, hv with | [a, b], _ => by kernel_rfl) }
  refine wpAny_mono (Mine.wpAny_never hfin) (fun v s' q => ?_) fun _ _ q => q
  obtain ⟨rfl, q1, q2, q3, ps, q4⟩ := q
  refine ⟨.inl ⟨_, .bool true, [], rfl, fun _ => rfl, .bool true, by kernel_rfl, fun _ => ⟨List.nodup_nil, fun _ h => by cases h⟩⟩, ⟨fun b o e => ?_, fun b o e => ?_⟩, q2, .of_eq (q1.trans hg)⟩
  · by_cases hb : b = 79
    · subst hb
      rw [hTab.2] at e; cases e
      exact .inr (.inl ⟨((hTab.1.tab hTab.2).isCodeTable), rfl, #[], ps, rfl, by rw [Array.empty_append]; exact q4⟩)
    · exact .inl (q3 b o hb e)
  · by_cases hb : b = 79
    · subst hb; exact ⟨_, q4⟩
    · exact ⟨o, q3 b o hb e⟩
