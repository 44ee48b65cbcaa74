import PyProof.Rows.All
import Wide.All
import OpenK.AllK
import Wide.FinOn
import PySem.Challenge.RW_rt0075_01
set_option Elab.async false
noncomputable section
open PySem PySem.W PyProof.Rows
set_option Elab.async false
set_option linter.unusedVariables false
namespace Mine
theorem no {β : Type} {x : β} {P : Prop} (h : (none : Option β) = some x) : P := by cases h
theorem nob {P : Prop} (h : false = true) : P := by cases h
theorem an {a b : Bool} (h : (a && b) = true) : a = true ∧ b = true := Bool.and_eq_true_iff.mp h
theorem anyS {α : Type} {o : Option α} {p : α → Bool} (h : o.any p = true) : ∃ q, o = some q ∧ p q = true := by
  cases o with
  | none => exact nob h
  | some q => exact ⟨q, rfl, h⟩
theorem bdk {α β : Type} {o : Option α} {f : α → Option β} {b : β} {P : Prop} (h : o.bind f = some b) (k : ∀ a, o = some a → f a = some b → P) : P := by
  cases o with
  | none => exact no h
  | some a => exact k a rfl h
theorem mpk {α β : Type} {o : Option α} {f : α → β} {b : β} {P : β → Prop} (h : o.map f = some b) (k : ∀ a, o = some a → P (f a)) : P b := by
  cases o with
  | none => exact no h
  | some a => exact Option.some.inj h ▸ k a rfl
theorem fin {α β : Type} {P : α → β → Prop} {a c : α} {b d : β} (h : some (a, b) = some (c, d)) (k : P a b) : P c d := by cases h; exact k
theorem anyk {α : Type} {o : Option α} {p : α → Bool} {P : Prop} (h : o.any p = true) (k : ∀ q, o = some q → p q = true → P) : P := by
  cases o with
  | none => exact nob h
  | some q => exact k q rfl h
theorem ank {a b : Bool} {P : Prop} (h : (a && b) = true) (k : a = true → b = true → P) : P := k (an h).1 (an h).2
theorem gdk {α : Type} {p : Prop} [Decidable p] {a b : α} {P : α → Prop} (h : (if p then some a else none) = some b) (k : p → P a) : P b := by
  by_cases q : p
  · rw [if_pos q] at h; exact Option.some.inj h ▸ k q
  · rw [if_neg q] at h; exact no h
theorem ifk {α : Type} {p : Prop} [Decidable p] {a : Option α} {b : α} {P : Prop} (h : (if p then a else none) = some b) (k : p → a = some b → P) : P := by
  by_cases q : p
  · rw [if_pos q] at h; exact k q h
  · rw [if_neg q] at h; exact no h
theorem bd {α β : Type} {o : Option α} {f : α → Option β} {b : β} (h : o.bind f = some b) : ∃ a, o = some a ∧ f a = some b := Option.bind_eq_some_iff.mp h

noncomputable def defOf (n : Str) : Option (Arguments × List Stmt × Scope) := PySem.Challenge.pw_rt0075_01.main.body.findSome? fun s => match s with
  | .FunctionDef m ps b _ _ _ sc _ _ _ => if m == n then some (ps, b, sc) else none
  | _ => none
noncomputable def streamBody : List Stmt := match defOf (Str.ofString "_law_stream") with | some (_, b, _) => b | none => []
noncomputable def lamPos : Pos := match streamBody with | .Assign _ (.Lambda _ _ _ p) _ :: _ => p | _ => ⟨0, 0, 0, 0⟩
noncomputable def rdPos : Pos := match streamBody with | _ :: _ :: .FunctionDef _ _ _ _ _ _ _ _ _ p :: _ => p | _ => ⟨0, 0, 0, 0⟩
noncomputable def rdParams : Arguments := match streamBody with | _ :: _ :: .FunctionDef _ ps _ _ _ _ _ _ _ _ :: _ => ps | _ => default
noncomputable def rdBody : List Stmt := match streamBody with | _ :: _ :: .FunctionDef _ _ b _ _ _ _ _ _ _ :: _ => b | _ => []
noncomputable def rdScope : Scope := match streamBody with | _ :: _ :: .FunctionDef _ _ _ _ _ _ sc _ _ _ :: _ => sc | _ => default
noncomputable def rdQual : Str := Str.ofString "_law_stream.<locals>._law_read"
/-- the code object of _law_stream and its table, in the heap that the head leaves -/
noncomputable def codeC : Addr := 210
noncomputable def tabP : Addr := 206
end Mine
end
noncomputable section
open PySem PySem.W PyProof.Rows
set_option Elab.async false
set_option linter.unusedVariables false
set_option genSizeOf false
namespace Mine

/-- plain values -/
inductive PV where
  | none
  | bool (b : Bool)
  | int (i : Int)
  | str (x : Str)
  | bytes (a : Array UInt8)
  | tup (xs : List PV)
  | list (xs : List PV)
  | range (a b : Int)
  | ty (n : String)
  | strm (k : Nat) (o : Array UInt8)
noncomputable def PV.isS : PV → Bool
  | .strm _ _ => true
  | _ => false
/-- no stream among these -/
noncomputable def NoS (xs : List PV) : Prop := ∀ x ∈ xs, x.isS = false
theorem NoS.nil : NoS [] := fun _ h => absurd h List.not_mem_nil
theorem NoS.cons {x : PV} {xs : List PV} (h : x.isS = false) (t : NoS xs) : NoS (x :: xs) := fun y hy => by
  rcases List.mem_cons.mp hy with rfl | hy
  · exact h
  · exact t y hy
theorem NoS.app {xs ys : List PV} (h : NoS xs) (t : NoS ys) : NoS (xs ++ ys) := fun y hy => (List.mem_append.mp hy).elim (h y) (t y)
theorem NoS.take {xs : List PV} (h : NoS xs) (n : Nat) : NoS (xs.take n) := fun y hy => h y (List.mem_of_mem_take hy)
theorem NoS.drop {xs : List PV} (h : NoS xs) (n : Nat) : NoS (xs.drop n) := fun y hy => h y (List.mem_of_mem_drop hy)
theorem NoS.strs {α : Type} (f : α → Str) (l : List α) : NoS (l.map fun x => .str (f x)) := fun y hy => by obtain ⟨x, _, rfl⟩ := List.mem_map.mp hy; rfl
theorem NoS.ints {α : Type} (f : α → Int) (l : List α) : NoS (l.map fun x => .int (f x)) := fun y hy => by obtain ⟨x, _, rfl⟩ := List.mem_map.mp hy; rfl
noncomputable def noS (xs : List PV) : Bool := xs.all fun x => !x.isS
theorem noS_iff {xs : List PV} (h : noS xs = true) : NoS xs := fun x hx => by have := List.all_eq_true.mp h x hx; simpa using this

abbrev PH := Addr → Option Obj
abbrev listObj (vs : List Value) (n : Nat) : Obj := { cls := .type "list", dict := Option.none, data := .seq vs.toArray n, slots := #[] }
abbrev tupObj (vs : List Value) (n : Nat) : Obj := { cls := .type "tuple", dict := Option.none, data := .seq vs.toArray n, slots := #[] }

/-- what makes up a stream function -/
structure Sm where
  fd : FuncData
  D : Addr
  dobj : Obj
  g : Addr
  gd : FuncData
  cr : Addr
  oc : Obj
  cvs : Array Value
  ct : Tok
  c1 : Addr
  c2 : Addr
  o1 : Obj
  o2 : Obj
  t : Tok
  at' : Addr
/-- the stream function at f: what its own dict and the reader's closure hold -/
noncomputable def StrmAt (S : PH) (μ : List Addr) (f : Addr) (k : Nat) (o : Array UInt8) : Prop :=
  ∃ m : Sm, S f = some { cls := .type "function", dict := some m.D, data := .func m.fd, slots := #[] } ∧ S m.D = some m.dobj ∧ (∃ es ep, m.dobj.data = .dict es ep ∧ StrKeys es ∧ nsFind es (Str.ofString "read") = some (.ref m.g)) ∧
    S m.g = some { cls := .type "function", dict := Option.none, data := .func m.gd, slots := #[] } ∧
    (m.gd.body = .stmts rdBody ∧ m.gd.scope = rdScope ∧ m.gd.params = rdParams ∧ m.gd.globals = mainGlobals ∧ m.gd.builtins = builtinsNs ∧ m.gd.qualname = rdQual ∧ m.gd.code = .ref m.cr ∧ m.gd.defaults = .none ∧ m.gd.kwdefaults = .none) ∧
    (S m.cr = some m.oc ∧ m.oc.data = .fields m.cvs ∧ m.cvs[1]? = some (.str rdQual m.ct)) ∧
    (m.gd.closure.lookup (Str.ofString "octets") = some m.c1 ∧ m.gd.closure.lookup (Str.ofString "at") = some m.c2) ∧
    S m.c1 = some m.o1 ∧ m.o1.data = .cell (some (.bytes o m.t)) ∧ S m.c2 = some m.o2 ∧ m.o2.data = .cell (some (.ref m.at')) ∧ μ[k]? = some m.at'

noncomputable def IsLO (o : Obj) (vs : List Value) : Prop := o.cls = .type "list" ∧ ∃ n, o.data = .seq vs.toArray n
theorem IsLO.of (vs : List Value) (n : Nat) : IsLO (listObj vs n) vs := ⟨rfl, n, rfl⟩
mutual
inductive VR (S : PH) (μ : List Addr) : Value → PV → Prop
  | none : VR S μ .none .none
  | bool (b : Bool) : VR S μ (.bool b) (.bool b)
  | int (i : Int) (t : Tok) : VR S μ (.int i t) (.int i)
  | str (x : Str) (t : Tok) : VR S μ (.str x t) (.str x)
  | bytes (a : Array UInt8) (t : Tok) : VR S μ (.bytes a t) (.bytes a)
  | tup {a : Addr} {vs : List Value} {n : Nat} {xs : List PV} : S a = some (tupObj vs n) → VRs S μ vs xs → NoS xs → VR S μ (.ref a) (.tup xs)
  | list {a : Addr} {o : Obj} {vs : List Value} {xs : List PV} : S a = some o → IsLO o vs → VRs S μ vs xs → NoS xs → VR S μ (.ref a) (.list xs)
  | range {r : Addr} {a b : Int} {t u v : Tok} : S r = some { cls := .type "range", dict := Option.none, data := .fields #[.int a t, .int b u, .int 1 v], slots := #[] } → VR S μ (.ref r) (.range a b)
  | ty (n : String) : VR S μ (.type n) (.ty n)
  | strm {f : Addr} {k : Nat} {o : Array UInt8} : StrmAt S μ f k o → VR S μ (.ref f) (.strm k o)
inductive VRs (S : PH) (μ : List Addr) : List Value → List PV → Prop
  | nil : VRs S μ [] []
  | cons {v : Value} {x : PV} {vs : List Value} {xs : List PV} : VR S μ v x → VRs S μ vs xs → VRs S μ (v :: vs) (x :: xs)
end

noncomputable def Sub (S S' : PH) : Prop := ∀ a o, S a = some o → S' a = some o
theorem Sub.refl (S : PH) : Sub S S := fun _ _ e => e
theorem Sub.trans {S S' S'' : PH} (h : Sub S S') (h' : Sub S' S'') : Sub S S'' := fun a o e => h' a o (h a o e)
noncomputable def Pre (μ μ' : List Addr) : Prop := ∀ (k : Nat) (a : Addr), μ[k]? = some a → μ'[k]? = some a
theorem Pre.refl (μ : List Addr) : Pre μ μ := fun _ _ e => e
theorem Pre.trans {a b c : List Addr} (h : Pre a b) (h' : Pre b c) : Pre a c := fun k x e => h' k x (h k x e)
theorem Pre.app (μ ν : List Addr) : Pre μ (μ ++ ν) := fun k a e => by
  rw [List.getElem?_append_left (List.getElem?_eq_some_iff.mp e).1]; exact e

theorem StrmAt.mono {S S' : PH} {μ μ' : List Addr} {f k o} (hS : Sub S S') (hμ : Pre μ μ') (h : StrmAt S μ f k o) : StrmAt S' μ' f k o := by
  obtain ⟨m, h1, h2, h3, h4, h5, ⟨h6, h7⟩, h9, h10, h11, h12, h13, h14⟩ := h
  exact ⟨m, hS _ _ h1, hS _ _ h2, h3, hS _ _ h4, h5, ⟨hS _ _ h6, h7⟩, h9, hS _ _ h10, h11, hS _ _ h12, h13, hμ _ _ h14⟩

mutual
theorem VR.mono {S S' : PH} {μ μ' : List Addr} (hS : Sub S S') (hμ : Pre μ μ') {v : Value} {x : PV} (h : VR S μ v x) : VR S' μ' v x := by
  cases h with
  | none => exact .none
  | bool b => exact .bool b
  | int i t => exact .int i t
  | str x t => exact .str x t
  | bytes a t => exact .bytes a t
  | tup e h ns => exact .tup (hS _ _ e) (VRs.mono hS hμ h) ns
  | list e q h ns => exact .list (hS _ _ e) q (VRs.mono hS hμ h) ns
  | range e => exact .range (hS _ _ e)
  | ty n => exact .ty n
  | strm h => exact .strm (h.mono hS hμ)
theorem VRs.mono {S S' : PH} {μ μ' : List Addr} (hS : Sub S S') (hμ : Pre μ μ') {v : List Value} {x : List PV} (h : VRs S μ v x) : VRs S' μ' v x := by
  cases h with
  | nil => exact .nil
  | cons h t => exact .cons (VR.mono hS hμ h) (VRs.mono hS hμ t)
end

mutual
theorem VR.any {S : PH} {μ ν : List Addr} {v : Value} {x : PV} (h : VR S μ v x) (k : x.isS = false) : VR S ν v x := by
  cases h with
  | none => exact .none
  | bool b => exact .bool b
  | int i t => exact .int i t
  | str x t => exact .str x t
  | bytes a t => exact .bytes a t
  | tup e h ns => exact .tup e (VRs.any h ns) ns
  | list e q h ns => exact .list e q (VRs.any h ns) ns
  | range e => exact .range e
  | ty n => exact .ty n
  | strm h => exact nob k.symm
theorem VRs.any {S : PH} {μ ν : List Addr} {v : List Value} {x : List PV} (h : VRs S μ v x) (ns : NoS x) : VRs S ν v x := by
  cases h with
  | nil => exact .nil
  | cons h t => exact .cons (VR.any h (ns _ List.mem_cons_self)) (VRs.any t fun y hy => ns y (List.mem_cons_of_mem _ hy))
end

/-- what a related value looks like -/
noncomputable def Shp (S : PH) (μ : List Addr) (v : Value) (x : PV) : Prop := match x with
  | .none => v = .none
  | .bool b => v = .bool b
  | .int i => ∃ t, v = .int i t
  | .str x => ∃ t, v = .str x t
  | .bytes a => ∃ t, v = .bytes a t
  | .tup xs => ∃ a vs n, v = .ref a ∧ S a = some (tupObj vs n) ∧ VRs S μ vs xs ∧ NoS xs
  | .list xs => ∃ a o vs, v = .ref a ∧ S a = some o ∧ IsLO o vs ∧ VRs S μ vs xs ∧ NoS xs
  | .range a b => ∃ r t u w, v = .ref r ∧ S r = some { cls := .type "range", dict := Option.none, data := .fields #[.int a t, .int b u, .int 1 w], slots := #[] }
  | .ty n => v = .type n
  | .strm k o => ∃ f, v = .ref f ∧ StrmAt S μ f k o
theorem VR.sh {S : PH} {μ : List Addr} {v : Value} {x : PV} (h : VR S μ v x) : Shp S μ v x := by
  cases h with
  | none => exact rfl
  | bool => exact rfl
  | int _ t => exact ⟨t, rfl⟩
  | str _ t => exact ⟨t, rfl⟩
  | bytes _ t => exact ⟨t, rfl⟩
  | tup e h n => exact ⟨_, _, _, rfl, e, h, n⟩
  | list e q h n => exact ⟨_, _, _, rfl, e, q, h, n⟩
  | range e => exact ⟨_, _, _, _, rfl, e⟩
  | ty => exact rfl
  | strm h => exact ⟨_, rfl, h⟩
section
variable {S : PH} {μ : List Addr} {v u : Value} {P : Value → Prop}
theorem VR.intK {i : Int} (h : VR S μ v (.int i)) (k : ∀ t, P (.int i t)) : P v := by obtain ⟨t, rfl⟩ := h.sh; exact k t
theorem VR.strK {i : Str} (h : VR S μ v (.str i)) (k : ∀ t, P (.str i t)) : P v := by obtain ⟨t, rfl⟩ := h.sh; exact k t
theorem VR.listK {xs : List PV} (h : VR S μ v (.list xs)) (k : ∀ a o vs, S a = some o → IsLO o vs → VRs S μ vs xs → NoS xs → P (.ref a)) : P v := by obtain ⟨a, o, vs, rfl, h1, h2, h3, h4⟩ := h.sh; exact k a o vs h1 h2 h3 h4
theorem VR.int2 {P : Value → Value → Prop} {i j : Int} (h : VR S μ v (.int i)) (h' : VR S μ u (.int j)) (k : ∀ t t', P (.int i t) (.int j t')) : P v u := by obtain ⟨t, rfl⟩ := h.sh; obtain ⟨t', rfl⟩ := h'.sh; exact k t t'
theorem VR.str2 {P : Value → Value → Prop} {i j : Str} (h : VR S μ v (.str i)) (h' : VR S μ u (.str j)) (k : ∀ t t', P (.str i t) (.str j t')) : P v u := by obtain ⟨t, rfl⟩ := h.sh; obtain ⟨t', rfl⟩ := h'.sh; exact k t t'
end
noncomputable def Shps (S : PH) (μ : List Addr) (vs : List Value) (xs : List PV) : Prop := match xs with
  | [] => vs = []
  | x :: xs => ∃ v r, vs = v :: r ∧ VR S μ v x ∧ VRs S μ r xs
theorem VRs.sh {S : PH} {μ : List Addr} {vs : List Value} {xs : List PV} (h : VRs S μ vs xs) : Shps S μ vs xs := by
  cases h with
  | nil => exact rfl
  | cons p q => exact ⟨_, _, rfl, p, q⟩

theorem VRs.consK {S : PH} {μ : List Addr} {P : List Value → Prop} {vs : List Value} {x : PV} {xs : List PV} (h : VRs S μ vs (x :: xs)) (k : ∀ v r, VR S μ v x → VRs S μ r xs → P (v :: r)) : P vs := by
  obtain ⟨v, r, rfl, p, q⟩ := h.sh; exact k v r p q
theorem VRs.nilK {S : PH} {μ : List Addr} {vs : List Value} (h : VRs S μ vs []) : vs = [] := h.sh
section
variable {S : PH} {μ : List Addr}
theorem VRs.length : ∀ {xs vs}, VRs S μ vs xs → vs.length = xs.length
  | [], _, h => congrArg List.length h.nilK
  | _ :: _, _, h => by
    apply h.consK
    exact fun _ _ _ t => congrArg (· + 1) t.length
theorem VRs.get : ∀ {xs vs}, VRs S μ vs xs → ∀ {k : Nat} {x : PV}, xs[k]? = some x → ∃ v, vs[k]? = some v ∧ VR S μ v x
  | [], _, _, _, _, e => no e
  | y :: ys, _, h, k, x, e => by
    apply h.consK
    intro v r p t
    cases k with
    | zero => cases e; exact ⟨v, rfl, p⟩
    | succ k => exact t.get (k := k) e
theorem VRs.app : ∀ {xs vs}, VRs S μ vs xs → ∀ {ws ys}, VRs S μ ws ys → VRs S μ (vs ++ ws) (xs ++ ys)
  | [], _, h, ws, ys, h' => by rw [h.nilK]; exact h'
  | x :: xs, _, h, ws, ys, h' => by
    apply h.consK
    exact fun _ _ p t => .cons p (t.app h')
theorem VRs.take : ∀ {xs vs}, VRs S μ vs xs → ∀ n, VRs S μ (vs.take n) (xs.take n)
  | [], _, h, n => by rw [h.nilK, List.take_nil, List.take_nil]; exact .nil
  | x :: xs, _, h, n => by
    apply h.consK
    intro v r p t
    cases n with
    | zero => exact .nil
    | succ n => exact .cons p (t.take n)
theorem VRs.drop : ∀ {xs vs}, VRs S μ vs xs → ∀ n, VRs S μ (vs.drop n) (xs.drop n)
  | [], _, h, n => by rw [h.nilK, List.drop_nil, List.drop_nil]; exact .nil
  | x :: xs, _, h, n => by
    cases n with
    | zero => exact h
    | succ n =>
      apply h.consK (P := fun vs => VRs S μ (vs.drop (n + 1)) (xs.drop n))
      exact fun _ _ _ t => t.drop n
end

inductive MCell where
  | dead
  | lst (xs : List PV)
  | tab (b : Bool)
  | pos (i : Int)

/-- the table of the stream maker's code: empty, or with the two codes -/
noncomputable def TabOk (S : PH) (b : Bool) (ps : Array Value) : Prop := if b then TriplesOk ps.toList ∧ ∃ cl cr oc vs t, codeAmong lamPos ps.toList = some cl ∧ codeAmong rdPos ps.toList = some (.ref cr) ∧ S cr = some oc ∧ oc.data = .fields vs ∧ vs[1]? = some (.str rdQual t) else ps = #[]
theorem TabOk.mono {S S' : PH} {b : Bool} {ps : Array Value} (hS : Sub S S') (h : TabOk S b ps) : TabOk S' b ps := by
  cases b with
  | false => exact h
  | true =>
    obtain ⟨h1, cl, cr, oc, vs, t, h2, h3, h4, h5, h6⟩ := h
    exact ⟨h1, cl, cr, oc, vs, t, h2, h3, hS _ _ h4, h5, h6⟩

noncomputable def MR (S : PH) (μ : List Addr) (h : Heap) (a : Addr) : MCell → Prop
  | .dead => True
  | .lst xs => S a = none ∧ ∃ vs n, h.get? a = some (listObj vs n) ∧ VRs S μ vs xs ∧ NoS xs
  | .tab b => S a = none ∧ ∃ ps, h.get? a = some (tabObj ps) ∧ TabOk S b ps ∧ a = tabP
  | .pos i => S a = none ∧ ∃ t, h.IsList a #[.int i t]
noncomputable def Live (μ : List Addr) (mem : List MCell) (k : Nat) (a : Addr) : Prop := μ[k]? = some a ∧ ∃ c, mem[k]? = some c ∧ c ≠ .dead
noncomputable def IsLive (μ : List Addr) (mem : List MCell) (a : Addr) : Prop := ∃ k, Live μ mem k a

structure GR (base : Heap) (os : OsState) (S : PH) (μ : List Addr) (mem : List MCell) (s : Shared) : Prop where
  keepS : ∀ a o, S a = some o → s.heap.get? a = some o
  baseS : ∀ a o, base.get? a = some o → S a = some o
  len : μ.length = mem.length
  mutR : ∀ (k : Nat) (a : Addr) (c : MCell), μ[k]? = some a → mem[k]? = some c → MR S μ s.heap a c
  inj : ∀ j k a, Live μ mem j a → Live μ mem k a → j = k
  gens : s.gens = #[]
  os_ : s.os = os

noncomputable def SameU (o o' : Obj) : Prop := o' = o ∨ ((∃ es ep, o.data = .dict es ep) ∧ o'.data = o.data)
theorem SameU.refl (o : Obj) : SameU o o := .inl rfl
theorem SameU.trans {a b c : Obj} (h : SameU a b) (h' : SameU b c) : SameU a c := by
  rcases h with rfl | ⟨⟨es, ep, hd⟩, h2⟩
  · exact h'
  · rcases h' with rfl | ⟨_, h4⟩
    · exact .inr ⟨⟨es, ep, hd⟩, h2⟩
    · exact .inr ⟨⟨es, ep, hd⟩, h4.trans h2⟩

inductive Slot where
  | unset
  | val (v : PV)
  | bld (k : Nat)

structure St where
  loc : List Slot
  mem : List MCell

/-- a frame's names -/
structure FrS (env : Env) (h : Heap) (vals : Str → Option Value) : Prop where
  ns : ∃ m, h.Ns env.locals m ∧ ∀ x, env.kindOf x = some .local → m x = vals x
  cell : ∀ x c, env.kindOf x = some .cell → env.cells.lookup x = some c → h.IsCell c (vals x)

structure FC where
  base : Heap
  os : OsState
  env : Env
  names : List Str
  gs : List Str × List Str
  mg : Str → Option Value
  mb : Str → Option Value
  K : PH
noncomputable def FC.fa (c : FC) : List Addr := c.env.locals :: c.env.cells.map (·.2)

structure FC.Ok (c : FC) : Prop where
  kind : c.env.scope.kind = .function
  kinds : ∀ x ∈ c.names, c.env.kindOf x = some .local ∨ (c.env.kindOf x = some .cell ∧ (c.env.cells.lookup x).isSome = true)
  kl : ∀ x ∈ c.names, x ∉ c.gs.2 → c.env.kindOf x = some .local
  nodup : c.names.Nodup
  apart : c.env.cells.Pairwise fun x y => x.2 ≠ y.2
  off : ∀ p ∈ c.env.cells, p.2 ≠ c.env.locals
  cells : ∀ p ∈ c.env.cells, c.env.kindOf p.1 = some .cell ∧ c.env.cells.lookup p.1 = some p.2
  nodebug : ∀ x ∈ c.names, (x == ("__debug__" : Str)) = false
  ck : ∀ x ∈ c.gs.2, c.env.kindOf x = some .cell ∧ (c.env.cells.lookup x).isSome = true
  gk : ∀ x ∈ c.gs.1, c.env.kindOf x = some .globalImplicit ∧ (x == ("__debug__" : Str)) = false
  gns : c.base.Ns c.env.globals c.mg
  bns : c.base.Ns c.env.builtins c.mb

noncomputable def SlotR (S : PH) (μ : List Addr) (ov : Option Value) : Slot → Prop
  | .unset => True
  | .val x => ∃ v, ov = some v ∧ VR S μ v x
  | .bld k => ∃ a, μ[k]? = some a ∧ ov = some (.ref a)

structure R (c : FC) (S : PH) (μ : List Addr) (τ : St) (s : Shared) : Prop where
  g : GR c.base c.os S μ τ.mem s
  frm : ∃ vals, FrS c.env s.heap vals ∧ ∀ (i : Nat) (x : Str) (sl : Slot), c.names[i]? = some x → τ.loc[i]? = some sl → SlotR S μ (vals x) sl
  len : τ.loc.length = c.names.length
  keepK : ∀ a o, c.K a = some o → ∃ o', s.heap.get? a = some o' ∧ SameU o o'
  KS : ∀ a o, c.K a = some o → S a = none
  KM : ∀ a o, c.K a = some o → ¬ IsLive μ τ.mem a
  FK : ∀ a ∈ c.fa, c.K a = none
  FS : ∀ a ∈ c.fa, S a = none
  FM : ∀ a ∈ c.fa, ¬ IsLive μ τ.mem a

/-- heaps that only grow -/
noncomputable def Ext (h h' : Heap) : Prop := ∀ a o, h.get? a = some o → h'.get? a = some o
theorem Ext.refl (h : Heap) : Ext h h := fun _ _ e => e
theorem Ext.push (h : Heap) (o : Obj) : Ext h (h.push o) := fun _ _ e => Heap.get?_push_of_some o e
theorem Ext.trans {a b c : Heap} (h : Ext a b) (h' : Ext b c) : Ext a c := fun x o e => h' x o (h x o e)

theorem MR.keep {S S' : PH} {μ μ' : List Addr} {h h' : Heap} {a : Addr} {c : MCell} (m : MR S μ h a c) (hS : Sub S S') (hμ : Pre μ μ')
    (hn : c ≠ .dead → S a = none → S' a = none) (hk : c ≠ .dead → h'.get? a = h.get? a) : MR S' μ' h' a c := by
  cases c with
  | dead => trivial
  | lst xs =>
    obtain ⟨h1, vs, n, h2, h3, h4⟩ := m
    exact ⟨hn (fun e => by cases e) h1, vs, n, (hk (fun e => by cases e)).trans h2, h3.mono hS hμ, h4⟩
  | tab b =>
    obtain ⟨h1, ps, h2, h3, h4⟩ := m
    exact ⟨hn (fun e => by cases e) h1, ps, (hk (fun e => by cases e)).trans h2, h3.mono hS, h4⟩
  | pos i =>
    obtain ⟨h1, t, o, h2, h3⟩ := m
    exact ⟨hn (fun e => by cases e) h1, t, o, (hk (fun e => by cases e)).trans h2, h3⟩
theorem MR.here {S : PH} {μ : List Addr} {h : Heap} {a : Addr} {c : MCell} (m : MR S μ h a c) (hc : c ≠ .dead) : S a = none ∧ ∃ o, h.get? a = some o := by
  cases c with
  | dead => exact absurd rfl hc
  | lst xs => exact ⟨m.1, _, m.2.choose_spec.choose_spec.1⟩
  | tab b => exact ⟨m.1, _, m.2.choose_spec.1⟩
  | pos i => exact ⟨m.1, _, m.2.choose_spec.choose_spec.1⟩

section
variable {base : Heap} {os : OsState} {S S' : PH} {μ μ' : List Addr} {mem : List MCell} {s : Shared}
theorem GR.live (g : GR base os S μ mem s) {a : Addr} (h : IsLive μ mem a) : S a = none ∧ ∃ o, s.heap.get? a = some o := by
  obtain ⟨k, hk, c, hc, hn⟩ := h
  exact (g.mutR k a c hk hc).here hn
theorem GR.lt (g : GR base os S μ mem s) {a : Addr} (h : IsLive μ mem a) : a < s.heap.objs.size := Heap.lt_size (g.live h).2.choose_spec
theorem GR.ext (g : GR base os S μ mem s) {h' : Heap} {d : Drawn} {tk : Nat} (e : Ext s.heap h') : GR base os S μ mem ⟨h', s.gens, d, tk, s.os⟩ where
  keepS := fun a o h => e a o (g.keepS a o h)
  baseS := g.baseS
  len := g.len
  mutR := fun k a c h1 h2 => (g.mutR k a c h1 h2).keep (.refl _) (.refl _) (fun _ => id) fun hn => by
    obtain ⟨_, o, ho⟩ := (g.mutR k a c h1 h2).here hn
    rw [e _ _ ho, ho]
  inj := g.inj
  gens := g.gens
  os_ := g.os_

/-- one more frozen object -/
noncomputable def put (S : PH) (a : Addr) (o : Obj) : PH := fun b => if b = a then some o else S b
theorem put_at (S : PH) (a : Addr) (o : Obj) : put S a o a = some o := if_pos rfl
theorem put_ne (S : PH) {a b : Addr} (o : Obj) (h : b ≠ a) : put S a o b = S b := if_neg h
theorem Sub.put {a : Addr} {o : Obj} (h : ∀ o', S a = some o' → o' = o) : Sub S (put S a o) := fun b o' e => by
  by_cases q : b = a
  · subst q; rw [put_at, h _ e]
  · rw [put_ne _ _ q]; exact e
theorem GR.put (g : GR base os S μ mem s) {a : Addr} {o : Obj} (ho : s.heap.get? a = some o) (hl : ¬ IsLive μ mem a) : GR base os (put S a o) μ mem s where
  keepS := fun b o' e => by
    by_cases q : b = a
    · subst q; rw [put_at] at e; cases e; exact ho
    · rw [put_ne _ _ q] at e; exact g.keepS b o' e
  baseS := fun b o' e => Sub.put (fun o2 e2 => by have := g.keepS _ _ e2; rw [ho] at this; cases this; rfl) b o' (g.baseS b o' e)
  len := g.len
  mutR := fun k b c h1 h2 => (g.mutR k b c h1 h2).keep (Sub.put fun o2 e2 => by have := g.keepS _ _ e2; rw [ho] at this; cases this; rfl) (.refl _)
    (fun hn e => by rw [put_ne S o (fun (q : b = a) => hl ⟨k, by rw [← q]; exact h1, c, h2, hn⟩)]; exact e) (fun _ => rfl)
  inj := g.inj
  gens := g.gens
  os_ := g.os_
end

section
variable {c : FC} {S S' : PH} {μ μ' : List Addr} {τ : St} {s : Shared}
theorem FrS.ext {env : Env} {h h' : Heap} {vals} (f : FrS env h vals) (e : Ext h h') : FrS env h' vals :=
  ⟨let ⟨m, a, b⟩ := f.ns; ⟨m, a.keeps e, b⟩, fun x c h1 h2 => (f.cell x c h1 h2).keeps e⟩
theorem SlotR.mono {ov : Option Value} {sl : Slot} (hS : Sub S S') (hμ : Pre μ μ') (h : SlotR S μ ov sl) : SlotR S' μ' ov sl := by
  cases sl with
  | unset => trivial
  | val x => obtain ⟨v, e, hv⟩ := h; exact ⟨v, e, hv.mono hS hμ⟩
  | bld k => obtain ⟨a, e, hv⟩ := h; exact ⟨a, hμ _ _ e, hv⟩
theorem R.ext (r : R c S μ τ s) {h' : Heap} {d : Drawn} {tk : Nat} (e : Ext s.heap h') : R c S μ τ ⟨h', s.gens, d, tk, s.os⟩ where
  g := r.g.ext e
  frm := let ⟨vals, f, h⟩ := r.frm; ⟨vals, f.ext e, h⟩
  len := r.len
  keepK := fun a o h => let ⟨o', h1, h2⟩ := r.keepK a o h; ⟨o', e _ _ h1, h2⟩
  KS := r.KS
  KM := r.KM
  FK := r.FK
  FS := r.FS
  FM := r.FM
theorem R.put (r : R c S μ τ s) {a : Addr} {o : Obj} (ho : s.heap.get? a = some o) (hl : ¬ IsLive μ τ.mem a) (hK : c.K a = none) (hF : a ∉ c.fa) : R c (put S a o) μ τ s where
  g := r.g.put ho hl
  frm := let ⟨vals, f, h⟩ := r.frm; ⟨vals, f, fun i x sl h1 h2 => (h i x sl h1 h2).mono (Sub.put fun o2 e2 => by have := r.g.keepS _ _ e2; rw [ho] at this; cases this; rfl) (.refl _)⟩
  len := r.len
  keepK := r.keepK
  KS := fun b o' h => by rw [put_ne _ _ (fun q => by rw [q, hK] at h; cases h)]; exact r.KS b o' h
  KM := r.KM
  FK := r.FK
  FS := fun b hb => by rw [put_ne S o (fun (q : b = a) => hF (by rw [← q]; exact hb))]; exact r.FS b hb
  FM := r.FM
/-- where the frame stands -/
theorem R.faLt (r : R c S μ τ s) (ok : c.Ok) {a : Addr} (ha : a ∈ c.fa) : a < s.heap.objs.size := by
  obtain ⟨vals, f, _⟩ := r.frm
  rcases List.mem_cons.mp ha with rfl | ha
  · obtain ⟨m, hm, _⟩ := f.ns; exact hm.lt
  · obtain ⟨p, hp, rfl⟩ := List.mem_map.mp ha
    exact (f.cell p.1 p.2 (ok.cells p hp).1 (ok.cells p hp).2).lt
end
end Mine
end
noncomputable section
open PySem PySem.W PyProof.Rows
set_option Elab.async false
set_option linter.unusedVariables false
set_option genSizeOf false
namespace Mine

inductive BF where
  | ord | bytes | sorted | list | range1 | range2 | type | isinstance | issubclass
noncomputable def BF.name : BF → Str
  | .ord => "ord" | .bytes => "bytes" | .sorted => "sorted" | .list => "list" | .range1 => "range" | .range2 => "range" | .type => "type" | .isinstance => "isinstance" | .issubclass => "issubclass"
inductive MF where
  | startswith | endswith | rfind | rstrip | split | join | decode
noncomputable def MF.name : MF → Str
  | .startswith => "startswith" | .endswith => "endswith" | .rfind => "rfind" | .rstrip => "rstrip" | .split => "split" | .join => "join" | .decode => "decode"

/-- expressions -/
inductive X where
  | none
  | bool (b : Bool)
  | int (i : Int)
  | neg (i : Int)
  | str (cs : List Nat)
  | var (i : Nat)
  | gl (x : String)
  | bin (o : Operator) (a b : X)
  | cmp (o : CmpOp) (a b : X)
  | and_ (xs : List X)
  | or_ (xs : List X)
  | not_ (a : X)
  | ite (c a b : X)
  | tup (xs : List X)
  | lst (xs : List X)
  | sub (a i : X)
  | slcTo (a hi : X)
  | slcFrom (a lo : X)
  | slc (a lo hi : X)
  | len (a : X)
  | bf (f : BF) (xs : List X)
  | call (f : String) (xs : List X)
  | mf (f : MF) (o : X) (xs : List X)
  | read (o n : X)
  | compSub (it : X) (j : Int)
  | compOrd (it : X)
  | compAdd (i : Nat) (it : X)
  | any

noncomputable def strOf (cs : List Nat) : Str := ⟨cs.toArray⟩
noncomputable def nameAt (names : List Str) (i : Nat) (x : Str) : Bool := names[i]? == some x

noncomputable def scopeOk (scope : Scope) (x : Str) (free : List Str) : Bool :=
  scope.kind == .function && (x == ("__debug__" : Str)) == false && scope.names.lookup x == some .local && scope.names.all (fun y => y.2 == .local || y.2 == .globalImplicit || (y.2 == .free && free.contains y.1)) &&
    scope.names.all (fun y => y.2 != .local || scope.names.lookup y.1 == some .local) && !scope.isCoroutine

/-! one level of the syntax at a time -/
noncomputable def dName (e : Expr) : Option (Str × Pos) := by
  cases e with
  | Name x p => exact some (x, p)
  | _ => exact none
theorem dName_inv {e : Expr} {q : Str × Pos} (h : dName e = some q) : e = .Name q.1 q.2 := by
  cases e with
  | Name => cases h; rfl
  | _ => exact no h
noncomputable def dConst (e : Expr) : Option (Const × Nat × Pos) := by
  cases e with
  | Constant k n p => exact some (k, n, p)
  | _ => exact none
theorem dConst_inv {e : Expr} {q : Const × Nat × Pos} (h : dConst e = some q) : e = .Constant q.1 q.2.1 q.2.2 := by
  cases e with
  | Constant => cases h; rfl
  | _ => exact no h
noncomputable def dUn (e : Expr) : Option (UnaryOp × Expr × Pos) := by
  cases e with
  | UnaryOp o v p => exact some (o, v, p)
  | _ => exact none
theorem dUn_inv {e : Expr} {q : UnaryOp × Expr × Pos} (h : dUn e = some q) : e = .UnaryOp q.1 q.2.1 q.2.2 := by
  cases e with
  | UnaryOp => cases h; rfl
  | _ => exact no h
noncomputable def dBin (e : Expr) : Option (Expr × Operator × Expr × Pos) := by
  cases e with
  | BinOp l o r p => exact some (l, o, r, p)
  | _ => exact none
theorem dBin_inv {e : Expr} {q : Expr × Operator × Expr × Pos} (h : dBin e = some q) : e = .BinOp q.1 q.2.1 q.2.2.1 q.2.2.2 := by
  cases e with
  | BinOp => cases h; rfl
  | _ => exact no h
noncomputable def dCmp (e : Expr) : Option (Expr × List CmpOp × List Expr × Pos) := by
  cases e with
  | Compare l o r p => exact some (l, o, r, p)
  | _ => exact none
theorem dCmp_inv {e : Expr} {q : Expr × List CmpOp × List Expr × Pos} (h : dCmp e = some q) : e = .Compare q.1 q.2.1 q.2.2.1 q.2.2.2 := by
  cases e with
  | Compare => cases h; rfl
  | _ => exact no h
noncomputable def dBool (e : Expr) : Option (BoolOp × List Expr × Pos) := by
  cases e with
  | BoolOp o es p => exact some (o, es, p)
  | _ => exact none
theorem dBool_inv {e : Expr} {q : BoolOp × List Expr × Pos} (h : dBool e = some q) : e = .BoolOp q.1 q.2.1 q.2.2 := by
  cases e with
  | BoolOp => cases h; rfl
  | _ => exact no h
noncomputable def dIf (e : Expr) : Option (Expr × Expr × Expr × Pos) := by
  cases e with
  | IfExp t a b p => exact some (t, a, b, p)
  | _ => exact none
theorem dIf_inv {e : Expr} {q : Expr × Expr × Expr × Pos} (h : dIf e = some q) : e = .IfExp q.1 q.2.1 q.2.2.1 q.2.2.2 := by
  cases e with
  | IfExp => cases h; rfl
  | _ => exact no h
noncomputable def dTup (e : Expr) : Option (List Expr × Nat × Pos) := by
  cases e with
  | Tuple es k p => exact some (es, k, p)
  | _ => exact none
theorem dTup_inv {e : Expr} {q : List Expr × Nat × Pos} (h : dTup e = some q) : e = .Tuple q.1 q.2.1 q.2.2 := by
  cases e with
  | Tuple => cases h; rfl
  | _ => exact no h
noncomputable def dLst (e : Expr) : Option (List Expr × Pos) := by
  cases e with
  | List es p => exact some (es, p)
  | _ => exact none
theorem dLst_inv {e : Expr} {q : List Expr × Pos} (h : dLst e = some q) : e = .List q.1 q.2 := by
  cases e with
  | List => cases h; rfl
  | _ => exact no h
noncomputable def dSub (e : Expr) : Option (Expr × Expr × Pos) := by
  cases e with
  | Subscript v s p => exact some (v, s, p)
  | _ => exact none
theorem dSub_inv {e : Expr} {q : Expr × Expr × Pos} (h : dSub e = some q) : e = .Subscript q.1 q.2.1 q.2.2 := by
  cases e with
  | Subscript => cases h; rfl
  | _ => exact no h
noncomputable def dSlice (e : Expr) : Option (Option Expr × Option Expr × Option Expr × Pos) := by
  cases e with
  | Slice l u t p => exact some (l, u, t, p)
  | _ => exact none
theorem dSlice_inv {e : Expr} {q : Option Expr × Option Expr × Option Expr × Pos} (h : dSlice e = some q) : e = .Slice q.1 q.2.1 q.2.2.1 q.2.2.2 := by
  cases e with
  | Slice => cases h; rfl
  | _ => exact no h
noncomputable def dCall0 (e : Expr) : Option (Expr × List Expr × List Keyword × Pos) := by
  cases e with
  | Call f es kw p => exact some (f, es, kw, p)
  | _ => exact none
theorem dCall0_inv {e : Expr} {q : Expr × List Expr × List Keyword × Pos} (h : dCall0 e = some q) : e = .Call q.1 q.2.1 q.2.2.1 q.2.2.2 := by
  cases e with
  | Call => cases h; rfl
  | _ => exact no h
noncomputable def dAttr (e : Expr) : Option (Expr × Str × Pos) := by
  cases e with
  | Attribute v n p => exact some (v, n, p)
  | _ => exact none
theorem dAttr_inv {e : Expr} {q : Expr × Str × Pos} (h : dAttr e = some q) : e = .Attribute q.1 q.2.1 q.2.2 := by
  cases e with
  | Attribute => cases h; rfl
  | _ => exact no h
noncomputable def dComp (e : Expr) : Option (Expr × List Comprehension × Scope × Pos) := by
  cases e with
  | ListComp v g s p => exact some (v, g, s, p)
  | _ => exact none
theorem dComp_inv {e : Expr} {q : Expr × List Comprehension × Scope × Pos} (h : dComp e = some q) : e = .ListComp q.1 q.2.1 q.2.2.1 q.2.2.2 := by
  cases e with
  | ListComp => cases h; rfl
  | _ => exact no h
noncomputable def dAsg0 (e : Stmt) : Option (List Expr × Expr × Pos) := by
  cases e with
  | Assign ts v p => exact some (ts, v, p)
  | _ => exact none
theorem dAsg0_inv {e : Stmt} {q : List Expr × Expr × Pos} (h : dAsg0 e = some q) : e = .Assign q.1 q.2.1 q.2.2 := by
  cases e with
  | Assign => cases h; rfl
  | _ => exact no h
noncomputable def dAug (e : Stmt) : Option (Expr × Operator × Expr × Pos) := by
  cases e with
  | AugAssign t o v p => exact some (t, o, v, p)
  | _ => exact none
theorem dAug_inv {e : Stmt} {q : Expr × Operator × Expr × Pos} (h : dAug e = some q) : e = .AugAssign q.1 q.2.1 q.2.2.1 q.2.2.2 := by
  cases e with
  | AugAssign => cases h; rfl
  | _ => exact no h
noncomputable def dExpr (e : Stmt) : Option (Expr × Pos) := by
  cases e with
  | Expr v p => exact some (v, p)
  | _ => exact none
theorem dExpr_inv {e : Stmt} {q : Expr × Pos} (h : dExpr e = some q) : e = .Expr q.1 q.2 := by
  cases e with
  | Expr => cases h; rfl
  | _ => exact no h
noncomputable def dIfS (e : Stmt) : Option (Expr × List Stmt × List Stmt × Pos) := by
  cases e with
  | If x b o p => exact some (x, b, o, p)
  | _ => exact none
theorem dIfS_inv {e : Stmt} {q : Expr × List Stmt × List Stmt × Pos} (h : dIfS e = some q) : e = .If q.1 q.2.1 q.2.2.1 q.2.2.2 := by
  cases e with
  | If => cases h; rfl
  | _ => exact no h
noncomputable def dFor (e : Stmt) : Option (Expr × Expr × List Stmt × List Stmt × Pos) := by
  cases e with
  | For t e b o p => exact some (t, e, b, o, p)
  | _ => exact none
theorem dFor_inv {e : Stmt} {q : Expr × Expr × List Stmt × List Stmt × Pos} (h : dFor e = some q) : e = .For q.1 q.2.1 q.2.2.1 q.2.2.2.1 q.2.2.2.2 := by
  cases e with
  | For => cases h; rfl
  | _ => exact no h
noncomputable def dRet (e : Stmt) : Option (Option Expr × Pos) := by
  cases e with
  | Return v p => exact some (v, p)
  | _ => exact none
theorem dRet_inv {e : Stmt} {q : Option Expr × Pos} (h : dRet e = some q) : e = .Return q.1 q.2 := by
  cases e with
  | Return => cases h; rfl
  | _ => exact no h
noncomputable def dBrk (e : Stmt) : Option (Pos) := by
  cases e with
  | Break p => exact some p
  | _ => exact none
theorem dBrk_inv {e : Stmt} {q : Pos} (h : dBrk e = some q) : e = .Break q := by
  cases e with
  | Break => cases h; rfl
  | _ => exact no h
noncomputable def dCont (e : Stmt) : Option (Pos) := by
  cases e with
  | Continue p => exact some p
  | _ => exact none
theorem dCont_inv {e : Stmt} {q : Pos} (h : dCont e = some q) : e = .Continue q := by
  cases e with
  | Continue => cases h; rfl
  | _ => exact no h
noncomputable def dAssert (e : Stmt) : Option (Expr × Option Expr × Pos) := by
  cases e with
  | Assert v m p => exact some (v, m, p)
  | _ => exact none
theorem dAssert_inv {e : Stmt} {q : Expr × Option Expr × Pos} (h : dAssert e = some q) : e = .Assert q.1 q.2.1 q.2.2 := by
  cases e with
  | Assert => cases h; rfl
  | _ => exact no h
noncomputable def dTry (e : Stmt) : Option (List Stmt × List ExceptHandler × List Stmt × List Stmt × Pos) := by
  cases e with
  | Try b h o f p => exact some (b, h, o, f, p)
  | _ => exact none
theorem dTry_inv {e : Stmt} {q : List Stmt × List ExceptHandler × List Stmt × List Stmt × Pos} (h : dTry e = some q) : e = .Try q.1 q.2.1 q.2.2.1 q.2.2.2.1 q.2.2.2.2 := by
  cases e with
  | Try => cases h; rfl
  | _ => exact no h
noncomputable def dWhl (e : Stmt) : Option (Expr × List Stmt × List Stmt × Pos) := by
  cases e with
  | While c b o p => exact some (c, b, o, p)
  | _ => exact none
theorem dWhl_inv {e : Stmt} {q : Expr × List Stmt × List Stmt × Pos} (h : dWhl e = some q) : e = .While q.1 q.2.1 q.2.2.1 q.2.2.2 := by
  cases e with
  | While => cases h; rfl
  | _ => exact no h
noncomputable def isSlice (e : Expr) : Bool := (dSlice e).isSome
noncomputable def one {α : Type} (l : List α) : Option α := by
  cases l with
  | nil => exact none
  | cons a r => cases r with
    | nil => exact some a
    | cons => exact none
theorem one_inv {α : Type} {l : List α} {a : α} (h : one l = some a) : l = [a] := by
  cases l with
  | nil => exact no h
  | cons b r => cases r with
    | nil => cases h; rfl
    | cons => exact no h
noncomputable def two {α : Type} (l : List α) : Option (α × α) := by
  cases l with
  | nil => exact none
  | cons a r => exact (one r).map fun b => (a, b)
theorem two_inv {α : Type} {l : List α} {a b : α} (h : two l = some (a, b)) : l = [a, b] := by
  cases l with
  | nil => exact no h
  | cons c r =>
    obtain ⟨d, h1, h2⟩ := Option.map_eq_some_iff.mp h
    cases h2; rw [one_inv h1]
noncomputable def isK (k : Const) (e : Expr) : Bool := (dConst e).any fun q => q.1 == k
theorem isK_inv {k : Const} {e : Expr} (h : isK k e = true) : ∃ q : Nat × Pos, e = .Constant k q.1 q.2 := by
  obtain ⟨q, h1, h2⟩ := anyS h
  rw [dConst_inv h1, beq_iff_eq.mp h2]; exact ⟨q.2, rfl⟩
/-- a call by name, no keywords -/
noncomputable def dCall (e : Expr) : Option ((Str × Pos) × List Expr × Pos) := (dCall0 e).bind fun q => if q.2.2.1.isEmpty = true then (dName q.1).map fun n => (n, q.2.1, q.2.2.2) else none
theorem dCall_inv {e : Expr} {q : (Str × Pos) × List Expr × Pos} (h : dCall e = some q) : e = .Call (.Name q.1.1 q.1.2) q.2.1 [] q.2.2 := by
  obtain ⟨r, h1, h⟩ := bd h
  by_cases c : r.2.2.1.isEmpty = true
  · rw [if_pos c] at h
    obtain ⟨n, h2, h3⟩ := Option.map_eq_some_iff.mp h
    subst h3
    rw [dCall0_inv h1, dName_inv h2, List.isEmpty_iff.mp c]
  · rw [if_neg c] at h; exact no h
structure MCall where
  o : Expr
  n : Str
  ap : Pos
  es : List Expr
  p : Pos
/-- a call of a method, no keywords -/
noncomputable def dMeth (e : Expr) : Option MCall := (dCall0 e).bind fun q => if q.2.2.1.isEmpty = true then (dAttr q.1).map fun a => ⟨a.1, a.2.1, a.2.2, q.2.1, q.2.2.2⟩ else none
theorem dMeth_inv {e : Expr} {m : MCall} (h : dMeth e = some m) : e = .Call (.Attribute m.o m.n m.ap) m.es [] m.p := by
  obtain ⟨r, h1, h⟩ := bd h
  by_cases c : r.2.2.1.isEmpty = true
  · rw [if_pos c] at h
    obtain ⟨n, h2, h3⟩ := Option.map_eq_some_iff.mp h
    subst h3
    rw [dCall0_inv h1, dAttr_inv h2, List.isEmpty_iff.mp c]
  · rw [if_neg c] at h; exact no h
/-- one plain generator -/
noncomputable def dGen (l : List Comprehension) : Option ((Str × Pos) × Expr) := (one l).bind fun g => if g.ifs.isEmpty = true ∧ g.is_async = 0 then (dName g.target).map fun y => (y, g.iter) else none
theorem dGen_inv {l : List Comprehension} {q : (Str × Pos) × Expr} (h : dGen l = some q) : l = [⟨.Name q.1.1 q.1.2, q.2, [], 0⟩] := by
  obtain ⟨⟨t, i, f, n⟩, h1, h⟩ := bd h
  by_cases c : f.isEmpty = true ∧ n = 0
  · replace h : (if f.isEmpty = true ∧ n = 0 then (dName t).map fun y => (y, i) else none) = some q := h
    rw [if_pos c] at h
    obtain ⟨y, h2, h3⟩ := Option.map_eq_some_iff.mp h
    subst h3
    rw [one_inv h1, dName_inv h2, List.isEmpty_iff.mp c.1, c.2]
  · replace h : (if f.isEmpty = true ∧ n = 0 then (dName t).map fun y => (y, i) else none) = some q := h
    rw [if_neg c] at h; exact no h
noncomputable def isNm (e : Expr) : Bool := (dName e).isSome
noncomputable def isNmC (e : Expr) : Bool := (dName e).isSome || (dConst e).isSome
/-- what a comprehension holds -/
structure Cp where
  x : Str × Pos
  l : Str × Pos
  k : Nat × Pos
  p : Pos
  y : Pos
  s : Expr
  sc : Scope
  pos : Pos

mutual
noncomputable def X.Is (ns : List Str) (gs : List Str × List Str) : X → Expr → Bool
  | .none, e => isK .none e
  | .bool b, e => isK (.bool b) e
  | .int i, e => isK (.int i) e
  | .neg i, e => (dUn e).any fun q => q.1 == .USub && isK (.int i) q.2.1
  | .str cs, e => isK (.str (strOf cs)) e
  | .var i, e => (dName e).any fun q => nameAt ns i q.1
  | .gl n, e => (dName e).any fun q => q.1 == Str.ofString n && gs.1.contains q.1
  | .bin o a b, e => (dBin e).any fun q => q.2.1 == o && (a.Is ns gs q.1 && b.Is ns gs q.2.2.1)
  | .cmp o a b, e => (dCmp e).any fun q => q.2.1 == [o] && (a.Is ns gs q.1 && (one q.2.2.1).any fun r => b.Is ns gs r && behindInMarks o r == false)
  | .and_ xs, e => (dBool e).any fun q => q.1 == .And && X.Iss ns gs xs q.2.1
  | .or_ xs, e => (dBool e).any fun q => q.1 == .Or && X.Iss ns gs xs q.2.1
  | .not_ a, e => (dUn e).any fun q => q.1 == .Not && a.Is ns gs q.2.1
  | .ite c a b, e => (dIf e).any fun q => c.Is ns gs q.1 && (a.Is ns gs q.2.1 && b.Is ns gs q.2.2.1)
  | .tup xs, e => (dTup e).any fun q => X.Iss ns gs xs q.1
  | .lst xs, e => (dLst e).any fun q => X.Iss ns gs xs q.1
  | .sub a i, e => (dSub e).any fun q => !isSlice q.2.1 && (a.Is ns gs q.1 && i.Is ns gs q.2.1)
  | .slcTo a hi, e => (dSub e).any fun q => (dSlice q.2.1).any fun r => r.1.isNone && (r.2.2.1.isNone && (a.Is ns gs q.1 && r.2.1.any fun h => hi.Is ns gs h))
  | .slcFrom a lo, e => (dSub e).any fun q => (dSlice q.2.1).any fun r => r.2.1.isNone && (r.2.2.1.isNone && (a.Is ns gs q.1 && r.1.any fun h => lo.Is ns gs h))
  | .slc a lo hi, e => (dSub e).any fun q => (dSlice q.2.1).any fun r => r.2.2.1.isNone && (a.Is ns gs q.1 && r.1.any fun l => r.2.1.any fun h => lo.Is ns gs l && hi.Is ns gs h)
  | .len a, e => (dCall e).any fun q => q.1.1 == Str.ofString "len" && (gs.1.contains (Str.ofString "len") && (one q.2.1).any fun x => a.Is ns gs x)
  | .bf f xs, e => (dCall e).any fun q => q.1.1 == f.name && (gs.1.contains f.name && (X.Iss ns gs xs q.2.1 && !q.2.1.isEmpty))
  | .call f xs, e => (dCall e).any fun q => q.1.1 == Str.ofString f && (gs.1.contains (Str.ofString f) && (X.Iss ns gs xs q.2.1 && !q.2.1.isEmpty))
  | .mf f o xs, e => (dMeth e).any fun m => m.n == f.name && (o.Is ns gs m.o && (X.Iss ns gs xs m.es && (decide (m.es.length < 29) && (isNmC m.o && (m.ap.endLine == m.p.line && !m.es.isEmpty)))))
  | .read o k, e => (dMeth e).any fun m => m.n == Str.ofString "read" && (o.Is ns gs m.o && (isNm m.o && (m.ap.endLine == m.p.line && (one m.es).any fun x => k.Is ns gs x)))
  | .compSub it j, e => (dComp e).any fun q => (dGen q.2.1).any fun g => (dSub q.1).any fun v => (dName v.1).any fun x => x.1 == g.1.1 && (isK (.int j) v.2.1 && (it.Is ns gs g.2 && scopeOk q.2.2.1 x.1 []))
  | .compOrd it, e => (dComp e).any fun q => (dGen q.2.1).any fun g => (dCall q.1).any fun v => (one v.2.1).any fun y => (dName y).any fun x => v.1.1 == Str.ofString "ord" && (x.1 == g.1.1 && (it.Is ns gs g.2 && (scopeOk q.2.2.1 x.1 [] && q.2.2.1.names.lookup (Str.ofString "ord") == some .globalImplicit)))
  | .compAdd i it, e => (dComp e).any fun q => (dGen q.2.1).any fun g => (dBin q.1).any fun v => (dName v.1).any fun l => (dName v.2.2.1).any fun x => v.2.1 == .Add && (x.1 == g.1.1 && (nameAt ns i l.1 && (gs.2.contains l.1 && (l.1 != x.1 && (it.Is ns gs g.2 && (scopeOk q.2.2.1 x.1 [l.1] && q.2.2.1.names.lookup l.1 == some .free))))))
  | .any, _ => true
noncomputable def X.Iss (ns : List Str) (gs : List Str × List Str) : List X → List Expr → Bool
  | [], es => es.isEmpty
  | x :: xs, es => match es with | e :: r => x.Is ns gs e && X.Iss ns gs xs r | [] => false
end

section
variable {ns : List Str} {gs : List Str × List Str} {e : Expr}
theorem X.neg_k {P : Expr → Prop} {i : Int} (h : X.Is ns gs (.neg i) e = true) (k : ∀ (q : Nat × Pos) p, P (.UnaryOp .USub (.Constant (.int i) q.1 q.2) p)) : P e := by
  refine anyk h fun q h1 h => ?_
  obtain ⟨r, h2⟩ := isK_inv (an h).2
  rw [dUn_inv h1, beq_iff_eq.mp (an h).1, h2]; exact k r q.2.2
theorem X.var_k {P : Expr → Prop} {i : Nat} (h : X.Is ns gs (.var i) e = true) (k : ∀ q : Str × Pos, ns[i]? = some q.1 → P (.Name q.1 q.2)) : P e :=
  anyk h fun q h1 h => by rw [dName_inv h1]; exact k q (beq_iff_eq.mp h)
theorem X.gl_k {P : Expr → Prop} {n : String} (h : X.Is ns gs (.gl n) e = true) (k : ∀ p, gs.1.contains (Str.ofString n) = true → P (.Name (Str.ofString n) p)) : P e :=
  anyk h fun q h1 h => by
    have h2 := (an h).2
    rw [beq_iff_eq.mp (an h).1] at h2
    rw [dName_inv h1, beq_iff_eq.mp (an h).1]; exact k q.2 h2
theorem X.bin_k {P : Expr → Prop} {o : Operator} {a b : X} (h : X.Is ns gs (.bin o a b) e = true) (k : ∀ q : Expr × Operator × Expr × Pos, a.Is ns gs q.1 = true → b.Is ns gs q.2.2.1 = true → P (.BinOp q.1 o q.2.2.1 q.2.2.2)) : P e :=
  anyk h fun q h1 h => by rw [dBin_inv h1, beq_iff_eq.mp (an h).1]; exact ank (an h).2 (k q)
theorem X.cmp_k {P : Expr → Prop} {o : CmpOp} {a b : X} (h : X.Is ns gs (.cmp o a b) e = true) (k : ∀ l r p, a.Is ns gs l = true → b.Is ns gs r = true → behindInMarks o r = false → P (.Compare l [o] [r] p)) : P e := by
  refine anyk h fun q h1 h => anyk (an (an h).2).2 fun r h2 h3 => ?_
  rw [dCmp_inv h1, beq_iff_eq.mp (an h).1, one_inv h2]
  exact k _ _ _ (an (an h).2).1 (an h3).1 (beq_iff_eq.mp (an h3).2)
theorem X.cons_k {P : List Expr → Prop} {x : X} {xs : List X} {es : List Expr} (h : X.Iss ns gs (x :: xs) es = true) (k : ∀ e r, x.Is ns gs e = true → X.Iss ns gs xs r = true → P (e :: r)) : P es := by
  cases es with
  | nil => exact nob h
  | cons e r => exact ank h (k e r)
theorem X.and_k {P : Expr → Prop} {xs : List X} (h : X.Is ns gs (.and_ xs) e = true) (k : ∀ es p, X.Iss ns gs xs es = true → P (.BoolOp .And es p)) : P e :=
  anyk h fun q h1 h => by rw [dBool_inv h1, beq_iff_eq.mp (an h).1]; exact k _ _ (an h).2
theorem X.or_k {P : Expr → Prop} {xs : List X} (h : X.Is ns gs (.or_ xs) e = true) (k : ∀ es p, X.Iss ns gs xs es = true → P (.BoolOp .Or es p)) : P e :=
  anyk h fun q h1 h => by rw [dBool_inv h1, beq_iff_eq.mp (an h).1]; exact k _ _ (an h).2
theorem X.or2_k {P : Expr → Prop} {a b : X} (h : X.Is ns gs (.or_ [a, b]) e = true) (k : ∀ l r p, a.Is ns gs l = true → b.Is ns gs r = true → P (.BoolOp .Or [l, r] p)) : P e :=
  X.or_k h fun es p h => X.cons_k (P := fun es => P (.BoolOp .Or es p)) h fun l es h1 h => X.cons_k (P := fun es => P (.BoolOp .Or (l :: es) p)) h fun r es h2 h => by
    rw [List.isEmpty_iff.mp h]; exact k l r p h1 h2
theorem X.not_k {P : Expr → Prop} {a : X} (h : X.Is ns gs (.not_ a) e = true) (k : ∀ v p, a.Is ns gs v = true → P (.UnaryOp .Not v p)) : P e :=
  anyk h fun q h1 h => by rw [dUn_inv h1, beq_iff_eq.mp (an h).1]; exact k _ _ (an h).2
theorem X.ite_k {P : Expr → Prop} {a b d : X} (h : X.Is ns gs (.ite a b d) e = true) (k : ∀ t l r p, a.Is ns gs t = true → b.Is ns gs l = true → d.Is ns gs r = true → P (.IfExp t l r p)) : P e :=
  anyk h fun q h1 h => by rw [dIf_inv h1]; exact k _ _ _ _ (an h).1 (an (an h).2).1 (an (an h).2).2
theorem X.tup_k {P : Expr → Prop} {xs : List X} (h : X.Is ns gs (.tup xs) e = true) (k : ∀ es n p, X.Iss ns gs xs es = true → P (.Tuple es n p)) : P e :=
  anyk h fun q h1 h => by rw [dTup_inv h1]; exact k _ _ _ h
theorem X.lst_k {P : Expr → Prop} {xs : List X} (h : X.Is ns gs (.lst xs) e = true) (k : ∀ es p, X.Iss ns gs xs es = true → P (.List es p)) : P e :=
  anyk h fun q h1 h => by rw [dLst_inv h1]; exact k _ _ h
theorem X.sub_k {P : Expr → Prop} {a i : X} (h : X.Is ns gs (.sub a i) e = true) (k : ∀ v s p, isSlice s = false → a.Is ns gs v = true → i.Is ns gs s = true → P (.Subscript v s p)) : P e :=
  anyk h fun q h1 h => by rw [dSub_inv h1]; exact k _ _ _ ((Bool.not_eq_true' _).mp (an h).1) (an (an h).2).1 (an (an h).2).2
theorem X.slcTo_k {P : Expr → Prop} {a b : X} (h : X.Is ns gs (.slcTo a b) e = true) (k : ∀ v u p1 p2, a.Is ns gs v = true → b.Is ns gs u = true → P (.Subscript v (.Slice Option.none (some u) Option.none p1) p2)) : P e := by
  refine anyk h fun q h1 h => anyk h fun r h2 h => anyk (an (an (an h).2).2).2 fun u h3 h4 => ?_
  rw [dSub_inv h1, dSlice_inv h2, h3, Option.isNone_iff_eq_none.mp (an h).1, Option.isNone_iff_eq_none.mp (an (an h).2).1]
  exact k _ _ _ _ (an (an (an h).2).2).1 h4
theorem X.slcFrom_k {P : Expr → Prop} {a b : X} (h : X.Is ns gs (.slcFrom a b) e = true) (k : ∀ v u p1 p2, a.Is ns gs v = true → b.Is ns gs u = true → P (.Subscript v (.Slice (some u) Option.none Option.none p1) p2)) : P e := by
  refine anyk h fun q h1 h => anyk h fun r h2 h => anyk (an (an (an h).2).2).2 fun u h3 h4 => ?_
  rw [dSub_inv h1, dSlice_inv h2, h3, Option.isNone_iff_eq_none.mp (an h).1, Option.isNone_iff_eq_none.mp (an (an h).2).1]
  exact k _ _ _ _ (an (an (an h).2).2).1 h4
theorem X.slc_k {P : Expr → Prop} {a b d : X} (h : X.Is ns gs (.slc a b d) e = true) (k : ∀ v l u p1 p2, a.Is ns gs v = true → b.Is ns gs l = true → d.Is ns gs u = true → P (.Subscript v (.Slice (some l) (some u) Option.none p1) p2)) : P e := by
  refine anyk h fun q h1 h => anyk h fun r h2 h => anyk (an (an h).2).2 fun l h3 h4 => anyk h4 fun u h5 h6 => ?_
  rw [dSub_inv h1, dSlice_inv h2, h3, h5, Option.isNone_iff_eq_none.mp (an h).1]
  exact k _ _ _ _ _ (an (an h).2).1 (an h6).1 (an h6).2
theorem X.len_k {P : Expr → Prop} {a : X} (h : X.Is ns gs (.len a) e = true) (k : ∀ x p1 p2, gs.1.contains (Str.ofString "len") = true → a.Is ns gs x = true → P (.Call (.Name (Str.ofString "len") p1) [x] [] p2)) : P e := by
  refine anyk h fun q h1 h => anyk (an (an h).2).2 fun x h2 h3 => ?_
  rw [dCall_inv h1, beq_iff_eq.mp (an h).1, one_inv h2]
  exact k _ _ _ (an (an h).2).1 h3
theorem ne_nil {α : Type} {l : List α} (h : (!l.isEmpty) = true) : l ≠ [] := fun e => by rw [e] at h; exact nob h
theorem X.bf_k {P : Expr → Prop} {f : BF} {xs : List X} (h : X.Is ns gs (.bf f xs) e = true) (k : ∀ es p1 p2, gs.1.contains f.name = true → X.Iss ns gs xs es = true → es ≠ [] → P (.Call (.Name f.name p1) es [] p2)) : P e :=
  anyk h fun q h1 h => by rw [dCall_inv h1, beq_iff_eq.mp (an h).1]; exact k _ _ _ (an (an h).2).1 (an (an (an h).2).2).1 (ne_nil (an (an (an h).2).2).2)
theorem X.call_k {P : Expr → Prop} {f : String} {xs : List X} (h : X.Is ns gs (.call f xs) e = true) (k : ∀ es p1 p2, gs.1.contains (Str.ofString f) = true → X.Iss ns gs xs es = true → es ≠ [] → P (.Call (.Name (Str.ofString f) p1) es [] p2)) : P e :=
  anyk h fun q h1 h => by rw [dCall_inv h1, beq_iff_eq.mp (an h).1]; exact k _ _ _ (an (an h).2).1 (an (an (an h).2).2).1 (ne_nil (an (an (an h).2).2).2)
theorem X.mf_k {P : Expr → Prop} {f : MF} {o : X} {xs : List X} (h : X.Is ns gs (.mf f o xs) e = true) (k : ∀ m : MCall, o.Is ns gs m.o = true → X.Iss ns gs xs m.es = true → m.es.length < 29 → isNmC m.o = true → (m.ap.endLine == m.p.line) = true → m.es ≠ [] → P (.Call (.Attribute m.o f.name m.ap) m.es [] m.p)) : P e :=
  anyk h fun m h1 h => by
    rw [dMeth_inv h1, beq_iff_eq.mp (an h).1]
    have k2 := an (an (an h).2).2
    have k4 := an (an k2.2).2
    exact k m (an (an h).2).1 k2.1 (of_decide_eq_true (an k2.2).1) k4.1 (an k4.2).1 (ne_nil (an k4.2).2)
theorem X.read_k {P : Expr → Prop} {o d : X} (h : X.Is ns gs (.read o d) e = true) (k : ∀ (m : MCall) x, o.Is ns gs m.o = true → d.Is ns gs x = true → isNm m.o = true → (m.ap.endLine == m.p.line) = true → P (.Call (.Attribute m.o (Str.ofString "read") m.ap) [x] [] m.p)) : P e :=
  anyk h fun m h1 h => anyk (an (an (an (an h).2).2).2).2 fun x h2 h3 => by
    rw [dMeth_inv h1, beq_iff_eq.mp (an h).1, one_inv h2]
    exact k m x (an (an h).2).1 h3 (an (an (an h).2).2).1 (an (an (an (an h).2).2).2).1
theorem X.compSub_k {P : Expr → Prop} {it : X} {j : Int} (h : X.Is ns gs (.compSub it j) e = true) (k : ∀ c : Cp, it.Is ns gs c.s = true → scopeOk c.sc c.x.1 [] = true → P (.ListComp (.Subscript (.Name c.x.1 c.x.2) (.Constant (.int j) c.k.1 c.k.2) c.p) [⟨.Name c.x.1 c.y, c.s, [], 0⟩] c.sc c.pos)) : P e :=
  anyk h fun q h1 h => anyk h fun g h2 h => anyk h fun v h3 h => anyk h fun x h4 h => by
    obtain ⟨n, h5⟩ := isK_inv (an (an h).2).1
    rw [dComp_inv h1, dGen_inv h2, dSub_inv h3, dName_inv h4, h5, ← beq_iff_eq.mp (an h).1]
    exact ank (an (an h).2).2 (k ⟨x, x, n, v.2.2, g.1.2, g.2, q.2.2.1, q.2.2.2⟩)
theorem X.compOrd_k {P : Expr → Prop} {it : X} (h : X.Is ns gs (.compOrd it) e = true) (k : ∀ c : Cp, it.Is ns gs c.s = true → scopeOk c.sc c.x.1 [] = true → c.sc.names.lookup (Str.ofString "ord") = some .globalImplicit → P (.ListComp (.Call (.Name (Str.ofString "ord") c.l.2) [.Name c.x.1 c.x.2] [] c.p) [⟨.Name c.x.1 c.y, c.s, [], 0⟩] c.sc c.pos)) : P e :=
  anyk h fun q h1 h => anyk h fun g h2 h => anyk h fun v h3 h => anyk h fun y h4 h => anyk h fun x h5 h => by
    have k2 := an (an (an h).2).2
    rw [dComp_inv h1, dGen_inv h2, dCall_inv h3, one_inv h4, dName_inv h5, beq_iff_eq.mp (an h).1, ← beq_iff_eq.mp (an (an h).2).1]
    exact k ⟨x, v.1, (0, v.2.2), v.2.2, g.1.2, g.2, q.2.2.1, q.2.2.2⟩ k2.1 (an k2.2).1 (beq_iff_eq.mp (an k2.2).2)
theorem X.compAdd_k {P : Expr → Prop} {i : Nat} {it : X} (h : X.Is ns gs (.compAdd i it) e = true) (k : ∀ c : Cp, nameAt ns i c.l.1 = true → gs.2.contains c.l.1 = true → c.l.1 ≠ c.x.1 → it.Is ns gs c.s = true → scopeOk c.sc c.x.1 [c.l.1] = true → c.sc.names.lookup c.l.1 = some .free → P (.ListComp (.BinOp (.Name c.l.1 c.l.2) .Add (.Name c.x.1 c.x.2) c.p) [⟨.Name c.x.1 c.y, c.s, [], 0⟩] c.sc c.pos)) : P e :=
  anyk h fun q h1 h => anyk h fun g h2 h => anyk h fun v h3 h => anyk h fun l h4 h => anyk h fun x h5 h => by
    have k2 := an (an (an h).2).2
    have k4 := an (an k2.2).2
    rw [dComp_inv h1, dGen_inv h2, dBin_inv h3, dName_inv h4, dName_inv h5, beq_iff_eq.mp (an h).1, ← beq_iff_eq.mp (an (an h).2).1]
    exact k ⟨x, l, (0, v.2.2.2), v.2.2.2, g.1.2, g.2, q.2.2.1, q.2.2.2⟩ k2.1 (an k2.2).1 (bne_iff_ne.mp k4.1) (an k4.2).1 (an (an k4.2).2).1 (beq_iff_eq.mp (an (an k4.2).2).2)
end

/-- statements -/
inductive C where
  | assign (i : Nat) (e : X)
  | assignT (is : List Nat) (e : X)
  | aug (i : Nat) (o : Operator) (e : X)
  | app (i : Nat) (e : X)
  | pop (i : Nat)
  | ite (c : X) (t e : List C)
  | for_ (i : Nat) (it : X) (body : List C)
  | forT (is : List Nat) (it : X) (body orelse : List C)
  | forE (is : List Nat) (it : X) (body : List C)
  | ret (e : X)
  | brk
  | cont
  | assert (e : X)
  | try_ (body : List C)
  | tryw (i a : Nat) (body : List C) (j : Nat)
  | any

noncomputable def namesAre (ns : List Str) : List Nat → List Expr → Bool
  | [], es => es.isEmpty
  | i :: r, es => match es with | e :: es => (dName e).any fun x => nameAt ns i x.1 && namesAre ns r es | [] => false
theorem namesAre_cons {ns : List Str} {i : Nat} {is : List Nat} {es : List Expr} (h : namesAre ns (i :: is) es = true) : ∃ x p r, es = .Name x p :: r ∧ nameAt ns i x = true ∧ namesAre ns is r = true := by
  cases es with
  | nil => exact nob h
  | cons e r =>
    obtain ⟨q, h1, h⟩ := anyS h
    exact ⟨q.1, q.2, r, by rw [dName_inv h1], an h⟩

noncomputable def isCSub (e : X) : Bool := by
  cases e with
  | compSub => exact true
  | _ => exact false
noncomputable def asgFit (e : X) (v : Expr) : Bool := !(dComp v).isSome || isCSub e
noncomputable def isStar (v : Expr) : Bool := by
  cases v with
  | Starred => exact true
  | _ => exact false
noncomputable def swFit (gs : List Str × List Str) (p q : Str × Pos) (a b : Expr) : Bool :=
  !gs.2.contains p.1 && (!gs.2.contains q.1 && (p.2.line == q.2.line && (p.1 != q.1 && (!(foldedForSure 8 a && foldedForSure 8 b) && (!(constantsAlone 8 a && constantsAlone 8 b) && (!isStar a && !isStar b))))))
noncomputable def tupFit (gs : List Str × List Str) (es : List Expr) (v : Expr) : Bool := (dTup v).all fun vs => (two es).any fun e => (two vs.1).any fun v => (dName e.1).any fun p => (dName e.2).any fun q => swFit gs p q v.1 v.2
theorem tupFit_inv {gs : List Str × List Str} {es vs : List Expr} {k : Nat} {tp : Pos} (h : tupFit gs es (.Tuple vs k tp) = true) : ∃ p q a b, es = [.Name p.1 p.2, .Name q.1 q.2] ∧ vs = [a, b] ∧ swFit gs p q a b = true := by
  replace h : ((two es).any fun e => (two vs).any fun v => (dName e.1).any fun p => (dName e.2).any fun q => swFit gs p q v.1 v.2) = true := h
  obtain ⟨e, h1, h⟩ := anyS h
  obtain ⟨v, h2, h⟩ := anyS h
  obtain ⟨p, h3, h⟩ := anyS h
  obtain ⟨q, h4, h⟩ := anyS h
  exact ⟨p, q, v.1, v.2, by rw [two_inv h1, dName_inv h3, dName_inv h4], two_inv h2, h⟩

noncomputable def dAsg (s : Stmt) : Option (Expr × Expr × Pos) := (dAsg0 s).bind fun q => (one q.1).map fun t => (t, q.2)
theorem dAsg_inv {s : Stmt} {q : Expr × Expr × Pos} (h : dAsg s = some q) : s = .Assign [q.1] q.2.1 q.2.2 := by
  obtain ⟨r, h1, h⟩ := bd h
  obtain ⟨x, h2, h3⟩ := Option.map_eq_some_iff.mp h
  subst h3
  rw [dAsg0_inv h1, one_inv h2]
/-- a name's method called as a statement -/
noncomputable def dDo (s : Stmt) : Option ((Str × Pos) × MCall × Pos) := (dExpr s).bind fun v => (dMeth v.1).bind fun m => (dName m.o).map fun x => (x, m, v.2)
theorem dDo_inv {s : Stmt} {q : (Str × Pos) × MCall × Pos} (h : dDo s = some q) : s = .Expr (.Call (.Attribute (.Name q.1.1 q.1.2) q.2.1.n q.2.1.ap) q.2.1.es [] q.2.1.p) q.2.2 := by
  obtain ⟨v, h1, h⟩ := bd h
  obtain ⟨m, h2, h⟩ := bd h
  obtain ⟨x, h3, h4⟩ := Option.map_eq_some_iff.mp h
  subst h4
  rw [dExpr_inv h1, dMeth_inv h2, dName_inv h3]
/-- `while True:` -/
noncomputable def dLoop (s : Stmt) : Option (List Stmt × (Nat × Pos) × Pos) := (dWhl s).bind fun q => (dConst q.1).bind fun k => if q.2.2.1.isEmpty = true ∧ k.1 = .bool true then some (q.2.1, k.2, q.2.2.2) else none
theorem dLoop_inv {s : Stmt} {q : List Stmt × (Nat × Pos) × Pos} (h : dLoop s = some q) : s = .While (.Constant (.bool true) q.2.1.1 q.2.1.2) q.1 [] q.2.2 := by
  obtain ⟨r, h1, h⟩ := bd h
  obtain ⟨k, h2, h⟩ := bd h
  by_cases c : r.2.2.1.isEmpty = true ∧ k.1 = .bool true
  · rw [if_pos c] at h
    cases h
    rw [dWhl_inv h1, dConst_inv h2, List.isEmpty_iff.mp c.1, c.2]
  · rw [if_neg c] at h; exact no h
structure Asg where
  x : Str × Pos
  f : Str × Pos
  y : Str × Pos
  p : Pos
  q : Pos
/-- x = f(y) -/
noncomputable def dAsgC (s : Stmt) : Option Asg := (dAsg s).bind fun q => (dName q.1).bind fun x => (dCall q.2.1).bind fun r => (one r.2.1).bind fun e => (dName e).map fun y => ⟨x, r.1, y, r.2.2, q.2.2⟩
theorem dAsgC_inv {s : Stmt} {a : Asg} (h : dAsgC s = some a) : s = .Assign [.Name a.x.1 a.x.2] (.Call (.Name a.f.1 a.f.2) [.Name a.y.1 a.y.2] [] a.p) a.q := by
  obtain ⟨q, h1, h⟩ := bd h
  obtain ⟨x, h2, h⟩ := bd h
  obtain ⟨r, h3, h⟩ := bd h
  obtain ⟨e, h4, h⟩ := bd h
  obtain ⟨y, h5, h6⟩ := Option.map_eq_some_iff.mp h
  subst h6
  rw [dAsg_inv h1, dName_inv h2, dCall_inv h3, one_inv h4, dName_inv h5]
structure Hd where
  q : Str × Pos
  z : Str × Pos
  r : Pos
  p : Pos
noncomputable def hdT (h : ExceptHandler) : Option Expr × Option Str × List Stmt × Pos := by
  cases h with
  | ExceptHandler t n b p => exact (t, n, b, p)
/-- `except q: return z` -/
noncomputable def dHand (h : ExceptHandler) : Option Hd := if (hdT h).2.1 = none then (hdT h).1.bind fun t => (dName t).bind fun q => (one (hdT h).2.2.1).bind fun s => (dRet s).bind fun e => e.1.bind fun e1 => (dName e1).map fun z => ⟨q, z, e.2, (hdT h).2.2.2⟩ else none
theorem dHand_inv {h : ExceptHandler} {d : Hd} (k : dHand h = some d) : h = .ExceptHandler (some (.Name d.q.1 d.q.2)) none [.Return (some (.Name d.z.1 d.z.2)) d.r] d.p := by
  unfold dHand at k
  by_cases c : (hdT h).2.1 = none
  · rw [if_pos c] at k
    obtain ⟨t, h1, k⟩ := bd k
    obtain ⟨q, h2, k⟩ := bd k
    obtain ⟨s, h3, k⟩ := bd k
    obtain ⟨e, h4, k⟩ := bd k
    obtain ⟨e1, h5, k⟩ := bd k
    obtain ⟨z, h6, h7⟩ := Option.map_eq_some_iff.mp k
    subst h7
    have e : h = .ExceptHandler (hdT h).1 (hdT h).2.1 (hdT h).2.2.1 (hdT h).2.2.2 := by cases h; rfl
    rw [e, h1, c, one_inv h3, dRet_inv h4, h5, dName_inv h2, dName_inv h6]; rfl
  · rw [if_neg c] at k; exact no k
structure Tw where
  w : (Nat × Pos) × Pos
  a : Asg
  b : List Stmt
  h : Hd
  p : Pos
noncomputable def Tw.stmt (t : Tw) : Stmt := .Try [.While (.Constant (.bool true) t.w.1.1 t.w.1.2) (.Assign [.Name t.a.x.1 t.a.x.2] (.Call (.Name t.a.f.1 t.a.f.2) [.Name t.a.y.1 t.a.y.2] [] t.a.p) t.a.q :: t.b) [] t.w.2] [.ExceptHandler (some (.Name t.h.q.1 t.h.q.2)) none [.Return (some (.Name t.h.z.1 t.h.z.2)) t.h.r] t.h.p] [] [] t.p
noncomputable def hdOf {α : Type} (l : List α) : Option (α × List α) := by
  cases l with
  | nil => exact none
  | cons a r => exact some (a, r)
noncomputable def dTryw (s : Stmt) : Option Tw := (dTry s).bind fun t => if t.2.2.1.isEmpty = true ∧ t.2.2.2.1.isEmpty = true then (one t.1).bind fun w => (dLoop w).bind fun b => (hdOf b.1).bind fun r => (dAsgC r.1).bind fun g => (one t.2.1).bind fun h => (dHand h).map fun q => ⟨b.2, g, r.2, q, t.2.2.2.2⟩ else none
theorem dTryw_inv {s : Stmt} {t : Tw} (h : dTryw s = some t) : s = t.stmt := by
  obtain ⟨l, h1, h⟩ := bd h
  by_cases c : l.2.2.1.isEmpty = true ∧ l.2.2.2.1.isEmpty = true
  · rw [if_pos c] at h
    obtain ⟨w, h2, h⟩ := bd h
    obtain ⟨b, h3, h⟩ := bd h
    obtain ⟨r, h4, h⟩ := bd h
    obtain ⟨g, h5, h⟩ := bd h
    obtain ⟨hh, h6, h⟩ := bd h
    obtain ⟨q, h7, h8⟩ := Option.map_eq_some_iff.mp h
    subst h8
    have e4 : b.1 = r.1 :: r.2 := by
      generalize b.1 = bb at h4
      cases bb with
      | nil => exact no h4
      | cons => cases h4; rfl
    rw [dTry_inv h1, one_inv h2, dLoop_inv h3, e4, dAsgC_inv h5, one_inv h6, dHand_inv h7, List.isEmpty_iff.mp c.1, List.isEmpty_iff.mp c.2]; rfl
  · rw [if_neg c] at h; exact no h

mutual
noncomputable def C.Is (ns : List Str) (gs : List Str × List Str) : C → Stmt → Bool
  | .assign i e, s => (dAsg s).any fun q => (dName q.1).any fun x => nameAt ns i x.1 && (e.Is ns gs q.2.1 && asgFit e q.2.1)
  | .assignT is e, s => (dAsg s).any fun q => (dTup q.1).any fun es => namesAre ns is es.1 && (e.Is ns gs q.2.1 && (decide is.Nodup && tupFit gs es.1 q.2.1))
  | .aug i o e, s => (dAug s).any fun q => (dName q.1).any fun x => nameAt ns i x.1 && (q.2.1 == o && e.Is ns gs q.2.2.1)
  | .app i e, s => (dDo s).any fun q => nameAt ns i q.1.1 && (q.2.1.n == Str.ofString "append" && (q.2.1.ap.endLine == q.2.1.p.line && (one q.2.1.es).any fun v => e.Is ns gs v))
  | .pop i, s => (dDo s).any fun q => nameAt ns i q.1.1 && (q.2.1.n == Str.ofString "pop" && (q.2.1.ap.endLine == q.2.1.p.line && q.2.1.es.isEmpty))
  | .ite c t e, s => (dIfS s).any fun q => c.Is ns gs q.1 && (C.Iss ns gs t q.2.1 && C.Iss ns gs e q.2.2.1)
  | .for_ i it b, s => (dFor s).any fun l => (dName l.1).any fun x => nameAt ns i x.1 && (it.Is ns gs l.2.1 && (C.Iss ns gs b l.2.2.1 && l.2.2.2.1.isEmpty))
  | .forT is it b o, s => (dFor s).any fun l => (dTup l.1).any fun es => namesAre ns is es.1 && (it.Is ns gs l.2.1 && (C.Iss ns gs b l.2.2.1 && C.Iss ns gs o l.2.2.2.1))
  | .forE is it b, s => (dFor s).any fun l => (dTup l.1).any fun es => (dCall l.2.1).any fun q => (one q.2.1).any fun e => namesAre ns is es.1 && (q.1.1 == Str.ofString "enumerate" && (gs.1.contains (Str.ofString "enumerate") && (it.Is ns gs e && (C.Iss ns gs b l.2.2.1 && l.2.2.2.1.isEmpty))))
  | .ret e, s => (dRet s).any fun q => q.1.any fun v => e.Is ns gs v
  | .brk, s => (dBrk s).isSome
  | .cont, s => (dCont s).isSome
  | .assert e, s => (dAssert s).any fun q => q.2.1.isNone && e.Is ns gs q.1
  | .try_ b, s => (dTry s).any fun t => t.2.2.1.isEmpty && (t.2.2.2.1.isEmpty && ((hdOf t.2.1).isSome && C.Iss ns gs b t.1))
  | .tryw i a b j, s => (dTryw s).any fun t => nameAt ns i t.a.x.1 && (t.a.f.1 == Str.ofString "read_uint1" && (gs.1.contains t.a.f.1 && (nameAt ns a t.a.y.1 && (C.Iss ns gs b t.b && (t.h.q.1 == Str.ofString "ValueError" && (gs.1.contains t.h.q.1 && nameAt ns j t.h.z.1))))))
  | .any, _ => true
noncomputable def C.Iss (ns : List Str) (gs : List Str × List Str) : List C → List Stmt → Bool
  | [], ss => ss.isEmpty
  | c :: cs, ss => match ss with | s :: r => c.Is ns gs s && C.Iss ns gs cs r | [] => false
end

/-! ## the evaluator -/
abbrev lid : Nat := 1000000

noncomputable def truthV (v : PV) : Option Bool := match v with
  | .none => some false
  | .bool b => some b
  | .int i => some (i != 0)
  | .str x => if x.length ≤ lid then some (x.length != 0) else none
  | .bytes a => if a.size ≤ lid then some (a.size != 0) else none
  | .list xs => if xs.length ≤ lid then some (!xs.isEmpty) else none
  | _ => none

noncomputable def small (i : Int) : Bool := decide (-(2 ^ 40) < i) && decide (i < 2 ^ 40)

/-! one value at a time -/
noncomputable def intOf (v : PV) : Option Int := by
  cases v with
  | int i => exact some i
  | _ => exact none
noncomputable def sOf (v : PV) : Option Str := by
  cases v with
  | str x => exact some x
  | _ => exact none
noncomputable def lOf (v : PV) : Option (List PV) := by
  cases v with
  | list xs => exact some xs
  | _ => exact none
noncomputable def tuOf (v : PV) : Option (List PV) := by
  cases v with
  | tup xs => exact some xs
  | _ => exact none
noncomputable def byOf (v : PV) : Option (Array UInt8) := by
  cases v with
  | bytes a => exact some a
  | _ => exact none
noncomputable def rgOf (v : PV) : Option (Int × Int) := by
  cases v with
  | range a b => exact some (a, b)
  | _ => exact none
noncomputable def tyOf (v : PV) : Option String := by
  cases v with
  | ty n => exact some n
  | _ => exact none
section
variable {v : PV}
theorem intOf_inv {x : Int} (h : intOf v = some x) : v = .int x := by
  cases v with
  | int => cases h; rfl
  | _ => exact no h
theorem sOf_inv {x : Str} (h : sOf v = some x) : v = .str x := by
  cases v with
  | str => cases h; rfl
  | _ => exact no h
theorem lOf_inv {x : List PV} (h : lOf v = some x) : v = .list x := by
  cases v with
  | list => cases h; rfl
  | _ => exact no h
theorem tuOf_inv {x : List PV} (h : tuOf v = some x) : v = .tup x := by
  cases v with
  | tup => cases h; rfl
  | _ => exact no h
theorem byOf_inv {x : Array UInt8} (h : byOf v = some x) : v = .bytes x := by
  cases v with
  | bytes => cases h; rfl
  | _ => exact no h
theorem rgOf_inv {a b : Int} (h : rgOf v = some (a, b)) : v = .range a b := by
  cases v with
  | range => cases h; rfl
  | _ => exact no h
theorem tyOf_inv {x : String} (h : tyOf v = some x) : v = .ty x := by
  cases v with
  | ty => cases h; rfl
  | _ => exact no h
end
theorem gd_inv {α : Type} {p : Prop} [Decidable p] {a b : α} (h : (if p then some a else none) = some b) : p ∧ a = b := by
  by_cases q : p
  · rw [if_pos q] at h; exact ⟨q, Option.some.inj h⟩
  · rw [if_neg q] at h; cases h
noncomputable def tabOf (ms : List MCell) : Option (List MCell) := by
  cases ms with
  | nil => exact none
  | cons m r => cases m with
    | tab => exact some r
    | _ => exact none
theorem tabOf_inv {ms r : List MCell} (h : tabOf ms = some r) : ∃ b, ms = .tab b :: r := by
  cases ms with
  | nil => exact no h
  | cons m r => cases m with
    | tab b => cases h; exact ⟨b, rfl⟩
    | _ => exact no h
noncomputable def three {α : Type} (l : List α) : Option (α × α × α) := (hdOf l).bind fun p => (two p.2).map fun q => (p.1, q)
noncomputable def four {α : Type} (l : List α) : Option (α × α × α × α) := (hdOf l).bind fun p => (three p.2).map fun q => (p.1, q)
theorem hdOf_inv {α : Type} {l : List α} {q : α × List α} (h : hdOf l = some q) : l = q.1 :: q.2 := by
  cases l with
  | nil => exact no h
  | cons => cases h; rfl
theorem three_inv {α : Type} {l : List α} {q : α × α × α} (h : three l = some q) : l = [q.1, q.2.1, q.2.2] := by
  obtain ⟨p, h1, h⟩ := bd h
  obtain ⟨r, h2, h3⟩ := Option.map_eq_some_iff.mp h
  subst h3; rw [hdOf_inv h1, two_inv h2]
theorem four_inv {α : Type} {l : List α} {q : α × α × α × α} (h : four l = some q) : l = [q.1, q.2.1, q.2.2.1, q.2.2.2] := by
  obtain ⟨p, h1, h⟩ := bd h
  obtain ⟨r, h2, h3⟩ := Option.map_eq_some_iff.mp h
  subst h3; rw [hdOf_inv h1, three_inv h2]
noncomputable def oneS {α : Type} (xs : List PV) (f : Str → Option α) : Option α := (one xs).bind fun v => (sOf v).bind f
theorem oneS_inv {α : Type} {xs : List PV} {f : Str → Option α} {r : α} (h : oneS xs f = some r) : ∃ x, xs = [.str x] ∧ f x = some r := by
  obtain ⟨v, h1, h⟩ := bd h
  obtain ⟨x, h2, h⟩ := bd h
  exact ⟨x, by rw [one_inv h1, sOf_inv h2], h⟩
noncomputable def oneI {α : Type} (xs : List PV) (f : Int → Option α) : Option α := (one xs).bind fun v => (intOf v).bind f
theorem oneI_inv {α : Type} {xs : List PV} {f : Int → Option α} {r : α} (h : oneI xs f = some r) : ∃ x, xs = [.int x] ∧ f x = some r := by
  obtain ⟨v, h1, h⟩ := bd h
  obtain ⟨x, h2, h⟩ := bd h
  exact ⟨x, by rw [one_inv h1, intOf_inv h2], h⟩

noncomputable def i2 {α : Type} (a b : PV) (f : Int → Int → Option α) : Option α := (intOf a).bind fun x => (intOf b).bind fun y => f x y
theorem i2_inv {α : Type} {a b : PV} {f : Int → Int → Option α} {z : α} (h : i2 a b f = some z) : ∃ x y, a = .int x ∧ b = .int y ∧ f x y = some z := by
  obtain ⟨x, h1, h⟩ := bd h
  obtain ⟨y, h2, h⟩ := bd h
  exact ⟨x, y, intOf_inv h1, intOf_inv h2, h⟩

theorem i2k {α : Type} {a b : PV} {f : Int → Int → Option α} {z : α} {P : PV → PV → Prop} (h : i2 a b f = some z) (k : ∀ x y, f x y = some z → P (.int x) (.int y)) : P a b := by
  obtain ⟨x, y, rfl, rfl, h⟩ := i2_inv h; exact k x y h
theorem iK {v : PV} {x : Int} {P : PV → Prop} (h : intOf v = some x) (k : P (.int x)) : P v := intOf_inv h ▸ k
theorem sK {v : PV} {x : Str} {P : PV → Prop} (h : sOf v = some x) (k : P (.str x)) : P v := sOf_inv h ▸ k
theorem lK {v : PV} {x : List PV} {P : PV → Prop} (h : lOf v = some x) (k : P (.list x)) : P v := lOf_inv h ▸ k

noncomputable def binV (o : Operator) (a b : PV) : Option PV := match o with
  | .Add => match a with
    | .int x => (intOf b).map fun y => .int (x + y)
    | .str x => (sOf b).bind fun y => if x.length + y.length ≤ lid then some (.str (x ++ y)) else none
    | .list xs => (lOf b).bind fun ys => if xs.length + ys.length ≤ lid then some (.list (xs ++ ys)) else none
    | _ => none
  | .Sub => i2 a b fun a b => some (.int (a - b))
  | .Mult => match a with
    | .int x => (intOf b).bind fun y => if small x = true then some (.int (x * y)) else none
    | .str x => (intOf b).bind fun n => if x.length = 1 ∧ 0 ≤ n ∧ n ≤ lid then some (.str ⟨(List.replicate n.toNat (x.cps[0]?.getD 0)).toArray⟩) else none
    | _ => none
  | .FloorDiv => i2 a b fun a b => if b ≠ 0 ∧ small b = true then some (.int (a.fdiv b)) else none
  | .Mod => i2 a b fun a b => if b ≠ 0 then some (.int (a.fmod b)) else none
  | .BitAnd => i2 a b fun a b => some (.int (Builtin.bitAnd a b))
  | .BitXor => i2 a b fun a b => some (.int (Builtin.bitXor a b))
  | .Pow => i2 a b fun a n => if a = 8 ∧ 0 ≤ n ∧ n ≤ 20 then some (.int (a ^ n.toNat)) else none
  | _ => none

noncomputable def strsOf (l : List PV) : Option (List Str) := match l with
  | [] => some []
  | x :: r => (sOf x).bind fun s => (strsOf r).map (s :: ·)
noncomputable def intsOf (l : List PV) : Option (List Int) := match l with
  | [] => some []
  | x :: r => (intOf x).bind fun s => (intsOf r).map (s :: ·)

noncomputable def cmpV (o : CmpOp) (a b : PV) : Option Bool := match o with
  | .Eq => match a with
    | .int x => (intOf b).map fun y => x == y
    | .str x => (sOf b).map fun y => x == y
    | _ => none
  | .NotEq => match a with
    | .int x => (intOf b).map fun y => x != y
    | .str x => (sOf b).map fun y => x != y
    | .tup xs => (strsOf xs).bind fun as => (two as).bind fun p => (tuOf b).bind fun ys => (strsOf ys).bind fun bs => (two bs).map fun q => !(p.1 == q.1 && p.2 == q.2)
    | .list xs => (intsOf xs).bind fun as => (lOf b).bind fun ys => (intsOf ys).bind fun bs => if as.length ≤ lid ∧ bs.length ≤ lid then some (as != bs) else none
    | _ => none
  | .GtE => i2 a b fun x y => some (decide (x ≥ y))
  | .Is => match b with
    | .none => (match a with | .int _ => some false | .none => some true | _ => none)
    | _ => none
  | .In => (sOf a).bind fun x => (lOf b).bind fun ys => (strsOf ys).bind fun ss => if ss.length ≤ lid then some (ss.contains x) else none
  | .NotIn => (sOf a).bind fun x => match b with
    | .list ys => (strsOf ys).bind fun ss => if ss.length ≤ lid then some (!ss.contains x) else none
    | .str y => some (!(!(Builtin.Str.occurrences y x 0 y.length 1).isEmpty))
    | _ => none
  | _ => none

/-- an item at a place, counted from the end where the place is negative -/
noncomputable def itemV (a j : PV) : Option PV := (intOf j).bind fun i => match a with
  | .list xs => if xs.length ≤ lid then (if 0 ≤ i then xs[i.toNat]? else if -(xs.length : Int) ≤ i then xs[(xs.length + i).toNat]? else none) else none
  | .tup xs => if xs.length ≤ lid ∧ 0 ≤ i then xs[i.toNat]? else none
  | .str x => if 0 ≤ i ∧ x.length ≤ lid then (x.cps[i.toNat]?).map fun c => .str ⟨#[c]⟩ else none
  | .bytes a => if 0 ≤ i ∧ a.size ≤ lid then (a[i.toNat]?).map fun b => .int b.toNat else none
  | _ => none

/-- a[lo:hi], the ends 0 or more -/
noncomputable def cutV (a : PV) (lo hi : Option Int) : Option PV :=
  if (lo.all fun i => decide (0 ≤ i)) && (hi.all fun i => decide (0 ≤ i)) then
    match a with
    | .str x => if x.length ≤ lid then some (.str ⟨((x.cps.toList.drop (lo.getD 0).toNat).take ((hi.getD x.length).toNat - (lo.getD 0).toNat)).toArray⟩) else none
    | .list xs => if xs.length ≤ lid then some (.list ((xs.drop (lo.getD 0).toNat).take ((hi.getD xs.length).toNat - (lo.getD 0).toNat))) else none
    | _ => none
  else none

noncomputable def lenV (v : PV) : Option PV := match v with
  | .str x => if x.length ≤ lid then some (.int x.length) else none
  | .bytes a => if a.size ≤ lid then some (.int a.size) else none
  | .list xs => if xs.length ≤ lid then some (.int xs.length) else none
  | .tup xs => if xs.length ≤ lid then some (.int xs.length) else none
  | _ => none

noncomputable def bytesOf (is : List Int) : Option (Array UInt8) := if is.all (fun i => decide (0 ≤ i) && decide (i < 256)) then some (is.map fun i => UInt8.ofNat i.toNat).toArray else none

noncomputable def bfV (f : BF) (vs : List PV) : Option PV := match f with
  | .ord => (one vs).bind fun v => (sOf v).bind fun x => if x.length = 1 then some (.int (((x.cps[0]?.getD 0) : Nat) : Int)) else none
  | .bytes => (one vs).bind fun v => (lOf v).bind fun xs => (intsOf xs).bind fun is => if is.length ≤ lid then (bytesOf is).map .bytes else none
  | .sorted => (one vs).bind fun v => (lOf v).bind fun xs => (intsOf xs).bind fun is => if is.length ≤ 60 then some (.list ((is.mergeSort (fun a b => decide (a ≤ b))).map .int)) else none
  | .list => (one vs).bind fun v => (rgOf v).bind fun p => if small p.1 ∧ small p.2 ∧ p.2 - p.1 ≤ lid then some (.list ((List.range (p.2 - p.1).toNat).map fun (k : Nat) => .int (p.1 + (k : Int)))) else none
  | .range1 => (one vs).bind fun v => (intOf v).bind fun b => if small b then some (.range 0 b) else none
  | .range2 => (two vs).bind fun p => i2 p.1 p.2 fun a b => if small a ∧ small b then some (.range a b) else none
  | .type => (one vs).bind fun v => (sOf v).map fun _ => .ty "str"
  | .isinstance => (two vs).bind fun p => (sOf p.1).bind fun _ => (tyOf p.2).bind fun n => if n = "bytes" then some (.bool false) else none
  | .issubclass => (two vs).bind fun p => (tyOf p.1).bind fun t => (tuOf p.2).bind fun l => (two l).bind fun q => (tyOf q.1).bind fun a => (tyOf q.2).bind fun b => if t = "str" ∧ a = "str" ∧ b = "bytes" then some (.bool true) else none

noncomputable def s2 (x : PV) (vs : List PV) (g : Str → Str → Option PV) : Option PV := (sOf x).bind fun x => (one vs).bind fun v => (sOf v).bind fun y => g x y
theorem s2_inv {v : PV} {vs : List PV} {g : Str → Str → Option PV} {z : PV} (h : s2 v vs g = some z) : ∃ x y, v = .str x ∧ vs = [.str y] ∧ g x y = some z := by
  obtain ⟨x, h1, h⟩ := bd h
  obtain ⟨u, h2, h⟩ := bd h
  obtain ⟨y, h3, h⟩ := bd h
  exact ⟨x, y, sOf_inv h1, by rw [one_inv h2, sOf_inv h3], h⟩
noncomputable def mfV (f : MF) (x : PV) (vs : List PV) : Option PV := match f with
  | .startswith => s2 x vs fun x y => some (.bool (Txt.startswith x y))
  | .endswith => s2 x vs fun x y => some (.bool (Txt.endswith x y))
  | .rfind => s2 x vs fun x y => some (.int (Txt.rfind x y))
  | .rstrip => s2 x vs fun x y => if x.length ≤ lid then some (.str (Txt.rstripChars x y)) else none
  | .split => s2 x vs fun x y => if y.length = 1 ∧ x.length ≤ lid then some (.list ((Txt.split x y).map .str)) else none
  | .join => (sOf x).bind fun x => (one vs).bind fun v => (lOf v).bind fun ys => (strsOf ys).bind fun ss =>
    if x.length ≤ 1 ∧ ss.length ≤ 1000 ∧ ss.all (fun s => decide (s.length ≤ 1000)) then some (.str (Txt.join x ss)) else none
  | .decode => (byOf x).bind fun a => (one vs).bind fun v => (sOf v).bind fun y => if y == Str.ofString "latin-1" && decide (1 ≤ a.size ∧ a.size ≤ 3) then some (.str ⟨a.map fun b => b.toNat⟩) else none

inductive H where
  | val (v : PV)
  | bld (k : Nat)
noncomputable def deref (ms : List MCell) : H → Option PV
  | .val v => some v
  | .bld k => match ms[k]? with
    | some (.lst xs) => some (.list xs)
    | _ => none
noncomputable def peek (τ : St) (i : Nat) : Option H := match τ.loc[i]? with
  | some (.val v) => some (.val v)
  | some (.bld k) => some (.bld k)
  | _ => none
/-- a name's value; a list that is being built is frozen here -/
noncomputable def look (τ : St) (i : Nat) : Option (PV × St) := match τ.loc[i]? with
  | some (.val v) => some (v, τ)
  | some (.bld k) => match τ.mem[k]? with
    | some (.lst xs) => some (.list xs, ⟨τ.loc.set i (.val (.list xs)), τ.mem.set k .dead⟩)
    | _ => none
  | _ => none

abbrev Fns := String → Option (List PV → List MCell → Option (PV × List MCell))

noncomputable def stOf (v : PV) : Option (Nat × Array UInt8) := by
  cases v with
  | strm k o => exact some (k, o)
  | _ => exact none
theorem stOf_inv {v : PV} {k : Nat} {o : Array UInt8} (h : stOf v = some (k, o)) : v = .strm k o := by
  cases v with
  | strm => cases h; rfl
  | _ => exact no h
noncomputable def posAt (ms : List MCell) (k : Nat) : Option Int := match ms[k]? with | some (.pos p) => some p | _ => none
theorem posAt_inv {ms : List MCell} {k : Nat} {p : Int} (h : posAt ms k = some p) : ms[k]? = some (.pos p) := by
  unfold posAt at h
  split at h
  · cases h; assumption
  · cases h
noncomputable def oneT {α : Type} (xs : List PV) (f : Nat → Array UInt8 → Option α) : Option α := (one xs).bind fun v => (stOf v).bind fun q => f q.1 q.2
theorem oneT_inv {α : Type} {xs : List PV} {f : Nat → Array UInt8 → Option α} {r : α} (h : oneT xs f = some r) : ∃ k o, xs = [.strm k o] ∧ f k o = some r := by
  obtain ⟨v, h1, h⟩ := bd h
  obtain ⟨⟨k, o⟩, h2, h⟩ := bd h
  exact ⟨k, o, by rw [one_inv h1, stOf_inv h2], h⟩
theorem posAt_of {ms : List MCell} {k : Nat} {p : Int} (h : ms[k]? = some (.pos p)) : posAt ms k = some p := by unfold posAt; rw [h]
/-- f.read(n): the stream's place is the one int of its list -/
noncomputable def readV (ms : List MCell) (f j : PV) : Option (PV × List MCell) := (stOf f).bind fun q => (intOf j).bind fun n => (posAt ms q.1).bind fun p =>
  if 0 ≤ p ∧ 0 ≤ n ∧ q.2.size ≤ lid ∧ n ≤ lid ∧ p ≤ lid then
    some (.bytes (q.2.extract p.toNat (p + n).toNat), ms.set q.1 (.pos (p + (q.2.extract p.toNat (p + n).toNat).size)))
  else none

noncomputable def subsV (j : Int) : List PV → Option (List PV)
  | [] => some []
  | x :: r => (tuOf x).bind fun vs => (itemV (.tup vs) (.int j)).bind fun z => (sOf z).bind fun s => (subsV j r).map (.str s :: ·)
noncomputable def addsV (l : Str) : List PV → Option (List PV)
  | [] => some []
  | x :: r => (sOf x).bind fun x => if l.length + x.length ≤ lid then (addsV l r).map (.str (l ++ x) :: ·) else none

noncomputable def strAt (τ : St) (l : Nat) : Option Str := match τ.loc[l]? with | some (.val v) => sOf v | _ => none
theorem strAt_inv {τ : St} {l : Nat} {y : Str} (h : strAt τ l = some y) : τ.loc[l]? = some (.val (.str y)) := by
  unfold strAt at h
  split at h
  · rename_i q; rw [q, sOf_inv h]
  · cases h
noncomputable def varOf (a : X) : Option Nat := by
  cases a with
  | var i => exact some i
  | _ => exact none
theorem varOf_inv {a : X} {i : Nat} (h : varOf a = some i) : a = .var i := by
  cases a with
  | var => cases h; rfl
  | _ => exact no h
noncomputable def subjH (o : Option Nat) (τ : St) (r : Option (PV × St)) : Option (H × St) := match o with
  | some i => (peek τ i).map fun h => (h, τ)
  | none => r.map fun p => (.val p.1, p.2)

section
variable (Φ : Fns) (γ : String → Option PV)
mutual
noncomputable def ev : X → St → Option (PV × St)
  | .none, τ => some (.none, τ)
  | .bool b, τ => some (.bool b, τ)
  | .int i, τ => some (.int i, τ)
  | .neg i, τ => some (.int (-i), τ)
  | .str cs, τ => some (.str (strOf cs), τ)
  | .var i, τ => look τ i
  | .gl x, τ => (γ x).map fun v => (v, τ)
  | .bin o a b, τ => do
    let (x, τ1) ← ev a τ
    let (y, τ2) ← ev b τ1
    let z ← binV o x y
    some (z, τ2)
  | .cmp o a b, τ => do
    let (x, τ1) ← ev a τ
    let (y, τ2) ← ev b τ1
    let z ← cmpV o x y
    some (.bool z, τ2)
  | .and_ xs, τ => none
  | .or_ xs, τ => match xs with
    | [a, b] => (ev a τ).bind fun p => (truthV p.1).bind fun t => if t then some p else ev b p.2
    | _ => none
  | .not_ a, τ => none
  | .ite c a b, τ => do
    let (t, τ1) ← evT c τ
    if t then ev a τ1 else ev b τ1
  | .tup xs, τ => do
    let (vs, τ1) ← evs xs τ
    if vs.length ≤ lid ∧ noS vs = true then some (.tup vs, τ1) else none
  | .lst xs, τ => do
    let (vs, τ1) ← evs xs τ
    if vs.length ≤ lid ∧ noS vs = true then some (.list vs, τ1) else none
  | .sub a i, τ => do
    let (h, τ1) ← subjH (varOf a) τ (ev a τ)
    let (j, τ2) ← ev i τ1
    let x ← deref τ2.mem h
    let z ← itemV x j
    some (z, τ2)
  | .slcTo a hi, τ => do
    let (h, τ1) ← subjH (varOf a) τ (ev a τ)
    let (j, τ2) ← ev hi τ1
    let x ← deref τ2.mem h
    let n ← intOf j
    let z ← cutV x none (some n)
    some (z, τ2)
  | .slcFrom a lo, τ => do
    let (h, τ1) ← subjH (varOf a) τ (ev a τ)
    let (j, τ2) ← ev lo τ1
    let x ← deref τ2.mem h
    let n ← intOf j
    let z ← cutV x (some n) none
    some (z, τ2)
  | .slc a lo hi, τ => do
    let (h, τ1) ← subjH (varOf a) τ (ev a τ)
    let (j, τ2) ← ev lo τ1
    let (k, τ3) ← ev hi τ2
    let x ← deref τ3.mem h
    let n ← intOf j
    let m ← intOf k
    let z ← cutV x (some n) (some m)
    some (z, τ3)
  | .len a, τ => do
    let (h, τ1) ← subjH (varOf a) τ (ev a τ)
    let x ← deref τ1.mem h
    let z ← lenV x
    some (z, τ1)
  | .bf f xs, τ => do
    let (vs, τ1) ← evs xs τ
    let z ← bfV f vs
    some (z, τ1)
  | .call f xs, τ => do
    let g ← Φ f
    let (vs, τ1) ← evs xs τ
    let (z, ms) ← g vs τ1.mem
    some (z, ⟨τ1.loc, ms⟩)
  | .mf f o xs, τ => do
    let (x, τ1) ← ev o τ
    let (vs, τ2) ← evs xs τ1
    let z ← mfV f x vs
    some (z, τ2)
  | .read o n, τ => do
    let (x, τ1) ← ev o τ
    let (y, τ2) ← ev n τ1
    let (z, ms) ← readV τ2.mem x y
    some (z, ⟨τ2.loc, ms⟩)
  | .compSub it j, τ => (varOf it).bind fun i => (peek τ i).bind fun h => (deref τ.mem h).bind fun x => (lOf x).bind fun xs => if xs.length ≤ lid then (subsV j xs).map fun zs => (.list zs, τ) else none
  | .compOrd it, τ => (ev it τ).bind fun p => (sOf p.1).bind fun s => if s.length ≤ lid then some (.list (s.cps.toList.map fun (c : Nat) => .int (c : Int)), p.2) else none
  | .compAdd l it, τ => (varOf it).bind fun i => (peek τ i).bind fun h => (deref τ.mem h).bind fun x => (lOf x).bind fun xs => (strAt τ l).bind fun y => if xs.length ≤ lid then (addsV y xs).map fun zs => (.list zs, τ) else none
  | .any, _ => none
noncomputable def evs : List X → St → Option (List PV × St)
  | [], τ => some ([], τ)
  | x :: xs, τ => do
    let (v, τ1) ← ev x τ
    let (vs, τ2) ← evs xs τ1
    some (v :: vs, τ2)
/-- truth -/
noncomputable def evT : X → St → Option (Bool × St)
  | .not_ a, τ => (evT a τ).map fun p => (!p.1, p.2)
  | .and_ xs, τ => evAll xs τ
  | .or_ xs, τ => evAny xs τ
  | .cmp o a b, τ => do
    let (x, τ1) ← ev a τ
    let (y, τ2) ← ev b τ1
    let z ← cmpV o x y
    some (z, τ2)
  | .var i, τ => do
    let h ← peek τ i
    let x ← deref τ.mem h
    let t ← truthV x
    some (t, τ)
  | .bf f xs, τ => do
    let (vs, τ1) ← evs xs τ
    let z ← bfV f vs
    let t ← truthV z
    some (t, τ1)
  | .call f xs, τ => do
    let g ← Φ f
    let (vs, τ1) ← evs xs τ
    let (z, ms) ← g vs τ1.mem
    let t ← truthV z
    some (t, ⟨τ1.loc, ms⟩)
  | .mf f o xs, τ => do
    let (x, τ1) ← ev o τ
    let (vs, τ2) ← evs xs τ1
    let z ← mfV f x vs
    let t ← truthV z
    some (t, τ2)
  | _, _ => none
noncomputable def evAll : List X → St → Option (Bool × St)
  | [], τ => some (true, τ)
  | x :: xs, τ => do
    let (t, τ1) ← evT x τ
    if t then evAll xs τ1 else some (false, τ1)
noncomputable def evAny : List X → St → Option (Bool × St)
  | [], τ => some (false, τ)
  | x :: xs, τ => do
    let (t, τ1) ← evT x τ
    if t then some (true, τ1) else evAny xs τ1
end
end
end Mine
end
noncomputable section
open PySem PySem.W PyProof.Rows
set_option Elab.async false
set_option linter.unusedVariables false
set_option genSizeOf false
namespace Mine

inductive Fl where
  | next
  | brk
  | cont
  | ret (v : PV)

noncomputable def setV (i : Nat) (v : PV) (τ : St) : Option St := if i < τ.loc.length then some ⟨τ.loc.set i (.val v), τ.mem⟩ else none
noncomputable def setAll : List Nat → List PV → St → Option St
  | [], [], τ => some τ
  | i :: is, v :: vs, τ => (setV i v τ).bind (setAll is vs)
  | _, _, _ => none
noncomputable def setT (is : List Nat) : PV → St → Option St
  | .tup vs, τ => setAll is vs τ
  | _, _ => none
noncomputable def newB (i : Nat) (vs : List PV) (τ : St) : Option St := if i < τ.loc.length ∧ vs.length ≤ lid ∧ noS vs = true then some ⟨τ.loc.set i (.bld τ.mem.length), τ.mem ++ [.lst vs]⟩ else none

noncomputable def itemsV : PV → Option (List PV)
  | .list xs => if xs.length ≤ lid then some xs else none
  | .tup xs => if xs.length ≤ lid then some xs else none
  | .range a b => if small a ∧ small b ∧ b - a ≤ lid then some ((List.range (b - a).toNat).map fun (k : Nat) => .int (a + (k : Int))) else none
  | _ => none
noncomputable def numbered : Nat → List PV → List PV
  | _, [] => []
  | k, x :: r => .tup [.int k, x] :: numbered (k + 1) r
noncomputable def enumV : PV → Option (List PV)
  | .tup xs => if xs.length ≤ lid then some (numbered 0 xs) else none
  | _ => none

noncomputable def forL (bd : PV → St → Option St) (body els : St → Option (Fl × St)) : List PV → St → Option (Fl × St)
  | [], τ => els τ
  | v :: vs, τ => (bd v τ).bind fun τ1 => (body τ1).bind fun p => match p.1 with
    | .next => forL bd body els vs p.2
    | .cont => forL bd body els vs p.2
    | .brk => some (.next, p.2)
    | .ret w => some (.ret w, p.2)

noncomputable def bldAt (τ : St) (i : Nat) : Option Nat := match τ.loc[i]? with | some (.bld k) => some k | _ => none
theorem bldAt_inv {τ : St} {i k : Nat} (h : bldAt τ i = some k) : τ.loc[i]? = some (.bld k) := by
  unfold bldAt at h
  split at h
  · cases h; assumption
  · cases h
noncomputable def lstAt (ms : List MCell) (k : Nat) : Option (List PV) := match ms[k]? with | some (.lst xs) => some xs | _ => none
theorem lstAt_inv {ms : List MCell} {k : Nat} {xs : List PV} (h : lstAt ms k = some xs) : ms[k]? = some (.lst xs) := by
  unfold lstAt at h
  split at h
  · cases h; assumption
  · cases h
noncomputable def valAt (τ : St) (i : Nat) : Option PV := match τ.loc[i]? with | some (.val v) => some v | _ => none
theorem valAt_inv {τ : St} {i : Nat} {v : PV} (h : valAt τ i = some v) : τ.loc[i]? = some (.val v) := by
  unfold valAt at h
  split at h
  · cases h; assumption
  · cases h
noncomputable def augV (o : Operator) (i : Nat) (τ : St) (e : St → Option (PV × St)) : Option St := if o = .Add then (match bldAt τ i with
  | some k => (e τ).bind fun p => (lOf p.1).bind fun ys => (lstAt p.2.mem k).bind fun xs => if xs.length + ys.length ≤ lid ∧ i < p.2.loc.length then some ⟨p.2.loc.set i (.bld k), p.2.mem.set k (.lst (xs ++ ys))⟩ else none
  | none => (strAt τ i).bind fun x => (e τ).bind fun p => (sOf p.1).bind fun y => if x.length + y.length ≤ lid then setV i (.str (x ++ y)) p.2 else none)
  else none
noncomputable def appV (i : Nat) (τ : St) (e : St → Option (PV × St)) : Option St := (bldAt τ i).bind fun k => (lstAt τ.mem k).bind fun _ => (e τ).bind fun p => (lstAt p.2.mem k).bind fun xs =>
  if xs.length + 1 ≤ lid ∧ p.1.isS = false then some ⟨p.2.loc, p.2.mem.set k (.lst (xs ++ [p.1]))⟩ else none
noncomputable def popV (i : Nat) (τ : St) : Option St := (bldAt τ i).bind fun k => (lstAt τ.mem k).bind fun xs => (xs.getLast?).bind fun z => (sOf z).bind fun _ =>
  if xs.length ≤ lid then some ⟨τ.loc, τ.mem.set k (.lst xs.dropLast)⟩ else none

/-- the stream's end: read_uint1 raises there -/
noncomputable def endV (ms : List MCell) (v : PV) : Option (List MCell) := (readV ms v (.int 1)).bind fun q => (byOf q.1).bind fun a => if a.size = 0 then some q.2 else none
noncomputable def finV (a j : Nat) (τ : St) : Option (Fl × St) := (valAt τ a).bind fun v => (endV τ.mem v).bind fun ms => (look ⟨τ.loc, ms⟩ j).map fun p => (.ret p.1, p.2)
noncomputable def lstOf (e : X) : Option (List X) := match e with | .lst xs => some xs | _ => none
theorem lstOf_inv {e : X} {xs : List X} (h : lstOf e = some xs) : e = .lst xs := by
  unfold lstOf at h
  split at h
  · cases h; rfl
  · cases h
noncomputable def tryL (fin turn : St → Option (Fl × St)) : Nat → St → Option (Fl × St)
  | 0, _ => none
  | n + 1, τ => match fin τ with
    | some r => some r
    | none => (turn τ).bind fun p => match p.1 with
      | .next => tryL fin turn n p.2
      | .cont => tryL fin turn n p.2
      | _ => none

noncomputable def goOn (k : St → Option (Fl × St)) (p : Fl × St) : Option (Fl × St) := match p.1 with
  | .next => k p.2
  | .brk => some (.brk, p.2)
  | .cont => some (.cont, p.2)
  | .ret v => some (.ret v, p.2)
section
variable (Φ : Fns) (γ : String → Option PV)
mutual
noncomputable def ex : C → St → Option (Fl × St)
  | .assign i e, τ => match lstOf e with
    | some xs => (evs Φ γ xs τ).bind fun p => (newB i p.1 p.2).map fun τ2 => (.next, τ2)
    | none => (ev Φ γ e τ).bind fun p => (setV i p.1 p.2).map fun τ2 => (.next, τ2)
  | .assignT is e, τ => (ev Φ γ e τ).bind fun p => (setT is p.1 p.2).map fun τ2 => (.next, τ2)
  | .aug i o e, τ => (augV o i τ (ev Φ γ e)).map fun τ2 => (.next, τ2)
  | .app i e, τ => (appV i τ (ev Φ γ e)).map fun τ2 => (.next, τ2)
  | .pop i, τ => (popV i τ).map fun τ2 => (.next, τ2)
  | .ite c t e, τ => (evT Φ γ c τ).bind fun p => if p.1 then exs t p.2 else exs e p.2
  | .for_ i it b, τ => (ev Φ γ it τ).bind fun p => (itemsV p.1).bind fun vs => forL (setV i) (exs b) (fun τ => some (.next, τ)) vs p.2
  | .forT is it b o, τ => (ev Φ γ it τ).bind fun p => (itemsV p.1).bind fun vs => forL (setT is) (exs b) (exs o) vs p.2
  | .forE is it b, τ => (ev Φ γ it τ).bind fun p => (enumV p.1).bind fun vs => forL (setT is) (exs b) (fun τ => some (.next, τ)) vs p.2
  | .ret e, τ => (ev Φ γ e τ).map fun p => (.ret p.1, p.2)
  | .brk, τ => some (.brk, τ)
  | .cont, τ => some (.cont, τ)
  | .assert e, τ => (evT Φ γ e τ).bind fun p => if p.1 then some (.next, p.2) else none
  | .try_ b, τ => exs b τ
  | .tryw i a b j, τ => if (Φ "read_uint1").isSome = true then tryL (finV a j) (fun τ => (ev Φ γ (.call "read_uint1" [.var a]) τ).bind fun p => (setV i p.1 p.2).bind fun τ2 => exs b τ2) 100000 τ else none
  | .any, _ => none
noncomputable def exs : List C → St → Option (Fl × St)
  | [], τ => some (.next, τ)
  | c :: cs, τ => (ex c τ).bind fun p => goOn (exs cs) p
end
noncomputable def startSt (n : Nat) (args : List PV) (ms : List MCell) : St := ⟨args.map .val ++ List.replicate (n - args.length) .unset, ms⟩
noncomputable def runBody (n : Nat) (body : List C) (args : List PV) (ms : List MCell) : Option (PV × List MCell) :=
  (exs Φ γ body (startSt n args ms)).bind fun p => match p.1 with
    | .ret v => if v.isS then none else some (v, p.2.mem.take ms.length)
    | .next => some (.none, p.2.mem.take ms.length)
    | _ => none
end
end Mine
end
noncomputable section
open PySem
set_option linter.unusedVariables false
namespace Mine
noncomputable def n_fspath : List Str := ["path", "kind", "hook", "given"]
noncomputable def c_fspath : List C :=
  [.assign 1 (.bf .type [(.var 0)]),
  .ite (.bf .issubclass [(.var 1), (.tup [(.gl "str"), (.gl "bytes")])]) [.ret (.var 0)] [],
  .any,
  .any,
  .ite (.cmp .Is (.var 2) .none) [.any] [],
  .ite (.cmp .IsNot (.bf .type [(.var 2)]) (.bf .type [(.gl "_plain_name")])) [.any] [],
  .any,
  .ite (.bf .issubclass [(.bf .type [(.var 3)]), (.tup [(.gl "str"), (.gl "bytes")])]) [.ret (.var 3)] [],
  .any,
  .any]
noncomputable def n_get_sep : List Str := ["path"]
noncomputable def c_get_sep : List C :=
  [.ite (.bf .isinstance [(.var 0), (.gl "bytes")]) [.any] [.ret (.str [47])]]
noncomputable def n_join : List Str := ["a", "p", "sep", "path", "b"]
noncomputable def c_join : List C :=
  [.assign 0 (.call "fspath" [(.var 0)]),
  .assign 2 (.call "_get_sep" [(.var 0)]),
  .assign 3 (.var 0),
  .try_ [.for_ 4 (.var 1)
      [.assign 4 (.call "fspath" [(.var 4)]),
      .ite (.or_ [(.mf .startswith (.var 4) [(.var 2)]), (.not_ (.var 3))]) [.assign 3 (.var 4)] [.ite (.mf .endswith (.var 3) [(.var 2)]) [.aug 3 .Add (.var 4)] [.aug 3 .Add (.bin .Add (.var 2) (.var 4))]]]],
  .ret (.var 3)]
noncomputable def n_split : List Str := ["p", "sep", "i", "head", "tail"]
noncomputable def c_split : List C :=
  [.assign 0 (.call "fspath" [(.var 0)]),
  .assign 1 (.call "_get_sep" [(.var 0)]),
  .assign 2 (.bin .Add (.mf .rfind (.var 0) [(.var 1)]) (.int 1)),
  .assignT [3, 4] (.tup [(.slcTo (.var 0) (.var 2)), (.slcFrom (.var 0) (.var 2))]),
  .ite (.and_ [(.var 3), (.cmp .NotEq (.var 3) (.bin .Mult (.var 1) (.len (.var 3))))]) [.assign 3 (.mf .rstrip (.var 3) [(.var 1)])] [],
  .ret (.tup [(.var 3), (.var 4)])]
noncomputable def n_splitroot : List Str := ["p", "sep", "empty"]
noncomputable def c_splitroot : List C :=
  [.assign 0 (.call "fspath" [(.var 0)]),
  .ite (.bf .isinstance [(.var 0), (.gl "bytes")]) [.any,
    .any] [.assign 1 (.str [47]),
    .assign 2 (.str [])],
  .ite (.cmp .NotEq (.slcTo (.var 0) (.int 1)) (.var 1)) [.ret (.tup [(.var 2), (.var 2), (.var 0)])] [.ite (.or_ [(.cmp .NotEq (.slc (.var 0) (.int 1) (.int 2)) (.var 1)), (.cmp .Eq (.slc (.var 0) (.int 2) (.int 3)) (.var 1))]) [.ret (.tup [(.var 2), (.var 1), (.slcFrom (.var 0) (.int 1))])] [.ret (.tup [(.var 2), (.slcTo (.var 0) (.int 2)), (.slcFrom (.var 0) (.int 2))])]]]
noncomputable def n_normpath : List Str := ["path", "sep", "dot", "dotdot", "_", "initial_slashes", "comps", "new_comps", "comp"]
noncomputable def c_normpath : List C :=
  [.assign 0 (.call "fspath" [(.var 0)]),
  .ite (.bf .isinstance [(.var 0), (.gl "bytes")]) [.any,
    .any,
    .any] [.assign 1 (.str [47]),
    .assign 2 (.str [46]),
    .assign 3 (.str [46, 46])],
  .ite (.not_ (.var 0)) [.ret (.var 2)] [],
  .assignT [4, 5, 0] (.call "splitroot" [(.var 0)]),
  .assign 6 (.mf .split (.var 0) [(.var 1)]),
  .assign 7 (.lst []),
  .for_ 8 (.var 6)
    [.ite (.or_ [(.not_ (.var 8)), (.cmp .Eq (.var 8) (.var 2))]) [.cont] [],
    .ite (.or_ [(.cmp .NotEq (.var 8) (.var 3)), (.and_ [(.not_ (.var 5)), (.not_ (.var 7))]), (.and_ [(.var 7), (.cmp .Eq (.sub (.var 7) (.neg 1)) (.var 3))])]) [.app 7 (.var 8)] [.ite (.var 7) [.pop 7] []]],
  .assign 6 (.var 7),
  .assign 0 (.bin .Add (.var 5) (.mf .join (.var 1) [(.var 6)])),
  .ret (.or_ [(.var 0), (.var 2)])]
noncomputable def n_read_uint1 : List Str := ["f", "data"]
noncomputable def c_read_uint1 : List C :=
  [.assign 1 (.read (.var 0) (.int 1)),
  .ite (.var 1) [.ret (.sub (.var 1) (.int 0))] [],
  .any]
noncomputable def n_read_string1 : List Str := ["f", "n", "data"]
noncomputable def c_read_string1 : List C :=
  [.assign 1 (.call "read_uint1" [(.var 0)]),
  .assert (.cmp .GtE (.var 1) (.int 0)),
  .assign 2 (.read (.var 0) (.var 1)),
  .ite (.cmp .Eq (.len (.var 2)) (.var 1)) [.ret (.mf .decode (.var 2) [(.str [108, 97, 116, 105, 110, 45, 49])])] [],
  .any]
noncomputable def n_read_bytes1 : List Str := ["f", "n", "data"]
noncomputable def c_read_bytes1 : List C :=
  [.assign 1 (.call "read_uint1" [(.var 0)]),
  .assert (.cmp .GtE (.var 1) (.int 0)),
  .assign 2 (.read (.var 0) (.var 1)),
  .ite (.cmp .Eq (.len (.var 2)) (.var 1)) [.ret (.var 2)] [],
  .any]
noncomputable def n_S_IFMT : List Str := ["mode"]
noncomputable def c_S_IFMT : List C :=
  [.ret (.bin .BitAnd (.var 0) (.int 61440))]
noncomputable def n_filemode : List Str := ["mode", "perm", "index", "table", "bit", "char"]
noncomputable def c_filemode : List C :=
  [.assign 1 (.lst []),
  .forE [2, 3] (.gl "_filemode_table")
    [.forT [4, 5] (.var 3)
      [.ite (.cmp .Eq (.var 2) (.int 0)) [.ite (.cmp .Eq (.call "S_IFMT" [(.var 0)]) (.var 4)) [.app 1 (.var 5),
          .brk] []] [.ite (.cmp .Eq (.bin .BitAnd (.var 0) (.var 4)) (.var 4)) [.app 1 (.var 5),
          .brk] []]] [.ite (.cmp .Eq (.var 2) (.int 0)) [.app 1 (.str [63])] [.app 1 (.str [45])]]],
  .ret (.mf .join (.str []) [(.var 1)])]
noncomputable def n_law_tree : List Str := ["numbers", "tree", "folders", "x", "above", "name", "kind", "way"]
noncomputable def c_law_tree : List C :=
  [.assign 1 (.lst [(.tup [(.int 0), (.str []), (.int 16877), (.str [47])])]),
  .assign 2 (.lst [(.int 0)]),
  .for_ 3 (.var 0)
    [.assign 4 (.sub (.var 2) (.bin .Mod (.bin .FloorDiv (.var 3) (.int 24)) (.len (.var 2)))),
    .assign 5 (.sub (.tup [(.str [97]), (.str [98]), (.str [46, 46, 46]), (.str [46, 97])]) (.bin .Mod (.bin .FloorDiv (.var 3) (.int 6)) (.int 4))),
    .assign 6 (.sub (.tup [(.int 4), (.int 4), (.int 4), (.int 4), (.int 12), (.int 5)]) (.bin .Mod (.var 3) (.int 6))),
    .assign 7 (.bin .Add (.bin .Add (.ite (.cmp .Eq (.var 4) (.int 0)) (.str []) (.sub (.sub (.var 1) (.var 4)) (.int 3))) (.str [47])) (.var 5)),
    .ite (.cmp .In (.var 7) (.compSub (.var 1) 3)) [.cont] [],
    .ite (.cmp .Eq (.var 6) (.int 4)) [.app 2 (.len (.var 1))] [],
    .app 1 (.tup [(.var 4), (.var 5), (.bin .Add (.bin .Mult (.var 6) (.int 4096)) (.bin .BitXor (.int 493) (.bin .Mod (.bin .FloorDiv (.var 3) (.int 96)) (.int 4096)))), (.var 7)])],
  .ret (.tup [(.var 1), (.var 2)])]
noncomputable def n_law_image : List Str := ["tree", "image", "k", "owner", "block", "child", "name"]
noncomputable def c_law_image : List C :=
  [.assign 1 (.lst []),
  .for_ 2 (.bf .range1 [(.len (.var 0))])
    [.assign 3 (.ite (.cmp .Eq (.bin .FloorDiv (.sub (.sub (.var 0) (.var 2)) (.int 2)) (.int 4096)) (.int 4)) (.var 2) (.int 0)),
    .assign 4 (.lst [(.var 3), (.int 1), (.int 46), (.sub (.sub (.var 0) (.var 3)) (.int 0)), (.int 2), (.int 46), (.int 46)]),
    .for_ 5 (.bf .range2 [(.int 1), (.len (.var 0))])
      [.ite (.cmp .Eq (.sub (.sub (.var 0) (.var 5)) (.int 0)) (.var 3)) [.assign 6 (.sub (.sub (.var 0) (.var 5)) (.int 1)),
        .aug 4 .Add (.bin .Add (.lst [(.var 5), (.len (.var 6))]) (.compOrd (.var 6)))] []],
    .aug 1 .Add (.bin .Add (.lst [(.bin .Mod (.sub (.sub (.var 0) (.var 2)) (.int 2)) (.int 256)), (.bin .FloorDiv (.sub (.sub (.var 0) (.var 2)) (.int 2)) (.int 256)), (.len (.var 4))]) (.var 4))],
  .ret (.bf .bytes [(.var 1)])]
noncomputable def n_law_entries : List Str := ["stream", "entries", "number"]
noncomputable def c_law_entries : List C :=
  [.assign 1 (.lst []),
  .tryw 2 0 [.app 1 (.tup [(.call "read_string1" [(.var 0)]), (.var 2)])] 1]
noncomputable def n_law_disk : List Str := ["image", "stream", "disk", "low", "mode", "block"]
noncomputable def c_law_disk : List C :=
  [.assign 1 (.call "_law_stream" [(.var 0)]),
  .assign 2 (.lst []),
  .tryw 3 1 [.assign 4 (.bin .Add (.var 3) (.bin .Mult (.int 256) (.call "read_uint1" [(.var 1)]))),
    .assign 5 (.call "_law_stream" [(.call "read_bytes1" [(.var 1)])]),
    .app 2 (.tup [(.call "filemode" [(.var 4)]), (.call "_law_entries" [(.var 5)])])] 2]
noncomputable def n_law_climb : List Str := ["disk", "at", "way", "turn", "above", "told", "number"]
noncomputable def c_law_climb : List C :=
  [.assign 2 (.str []),
  .for_ 3 (.var 0)
    [.ite (.cmp .Eq (.var 1) (.int 0)) [.brk] [],
    .assign 4 (.int 0),
    .forT [5, 6] (.sub (.sub (.var 0) (.var 1)) (.int 1))
      [.ite (.cmp .Eq (.var 5) (.str [46, 46])) [.assign 4 (.var 6)] []] [],
    .forT [5, 6] (.sub (.sub (.var 0) (.var 4)) (.int 1))
      [.ite (.cmp .Eq (.var 6) (.var 1)) [.assign 2 (.bin .Add (.bin .Add (.str [47]) (.var 5)) (.var 2))] []] [],
    .assign 1 (.var 4)],
  .ret (.or_ [(.var 2), (.str [47])])]
noncomputable def n_law_step : List Str := ["disk", "at", "part", "row", "entries", "told", "number"]
noncomputable def c_law_step : List C :=
  [.assignT [3, 4] (.sub (.var 0) (.var 1)),
  .ite (.or_ [(.cmp .NotEq (.sub (.var 3) (.int 0)) (.str [100])), (.cmp .NotIn (.sub (.var 3) (.int 9)) (.str [120, 116]))]) [.ret .none] [],
  .forT [5, 6] (.var 4)
    [.ite (.cmp .Eq (.var 5) (.or_ [(.var 2), (.str [46])])) [.ret (.var 6)] []] [],
  .ret .none]
noncomputable def n_law_walk : List Str := ["disk", "tree", "folders", "x", "at", "base", "parts", "k", "ways", "first", "front", "lead", "goal", "mode"]
noncomputable def c_law_walk : List C :=
  [.assign 4 (.sub (.var 2) (.bin .Mod (.bin .Mod (.var 3) (.int 8)) (.len (.var 2)))),
  .assign 5 (.sub (.sub (.var 1) (.var 4)) (.int 3)),
  .assign 6 (.lst []),
  .for_ 7 (.bf .range2 [(.int 1), (.int 7)])
    [.app 6 (.sub (.tup [(.str [97]), (.str [98]), (.str [46, 46, 46]), (.str [46, 97]), (.str [46]), (.str [46, 46]), (.str []), (.str [46, 46])]) (.bin .Mod (.bin .FloorDiv (.var 3) (.bin .Pow (.int 8) (.var 7))) (.int 8)))],
  .assign 8 (.compSub (.var 1) 3),
  .assign 9 (.int 0),
  .ite (.cmp .Eq (.sub (.var 6) (.int 0)) (.str [])) [.assign 4 (.int 0),
    .assign 9 (.int 1)] [],
  .for_ 7 (.bf .range2 [(.var 9), (.int 6)])
    [.assign 10 (.mf .join (.str [47]) [(.slcTo (.var 6) (.bin .Add (.var 7) (.int 1)))]),
    .assign 11 (.ite (.and_ [(.cmp .Eq (.slcTo (.var 10) (.int 2)) (.str [47, 47])), (.cmp .NotEq (.slc (.var 10) (.int 2) (.int 3)) (.str [47]))]) (.str [47]) (.str [])),
    .assign 12 (.call "normpath" [(.call "join" [(.var 5), (.call "normpath" [(.var 10)])])]),
    .assign 13 (.sub (.sub (.var 1) (.var 4)) (.int 2)),
    .assign 4 (.call "_law_step" [(.var 0), (.var 4), (.sub (.var 6) (.var 7))]),
    .ite (.or_ [(.cmp .NotEq (.bin .FloorDiv (.var 13) (.int 4096)) (.int 4)), (.cmp .Eq (.bin .Mod (.var 13) (.int 2)) (.int 0))]) [.ret (.cmp .Is (.var 4) .none)] [],
    .ite (.cmp .Is (.var 4) .none) [.ret (.cmp .NotIn (.var 12) (.compAdd 11 (.var 8)))] [],
    .ite (.cmp .NotEq (.var 12) (.bin .Add (.var 11) (.sub (.var 8) (.var 4)))) [.ret (.bool false)] []],
  .ret (.bool true)]
noncomputable def n_law : List Str := ["script", "numbers", "tree", "folders", "disk", "found", "k", "way", "name", "number", "x"]
noncomputable def c_law : List C :=
  [.assign 1 (.slcTo (.var 0) (.int 4)),
  .assignT [2, 3] (.call "_law_tree" [(.bin .Add (.lst [(.int 50880), (.int 101796), (.int 11), (.int 51042)]) (.var 1))]),
  .assign 4 (.call "_law_disk" [(.call "_law_image" [(.var 2)])]),
  .ite (.cmp .NotEq (.len (.var 4)) (.len (.var 2))) [.ret (.bool false)] [],
  .assign 5 (.lst []),
  .for_ 6 (.var 3)
    [.assign 7 (.sub (.sub (.var 2) (.var 6)) (.int 3)),
    .ite (.cmp .NotEq (.call "_law_climb" [(.var 4), (.var 6)]) (.var 7)) [.ret (.bool false)] [],
    .forT [8, 9] (.slcFrom (.sub (.sub (.var 4) (.var 6)) (.int 1)) (.int 2))
      [.app 5 (.var 9),
      .ite (.or_ [(.cmp .NotEq (.call "join" [(.var 7), (.var 8)]) (.sub (.sub (.var 2) (.var 9)) (.int 3))), (.cmp .NotEq (.call "split" [(.sub (.sub (.var 2) (.var 9)) (.int 3))]) (.tup [(.var 7), (.var 8)]))]) [.ret (.bool false)] []] []],
  .ite (.cmp .NotEq (.bf .sorted [(.var 5)]) (.bf .list [(.bf .range2 [(.int 1), (.len (.var 2))])])) [.ret (.bool false)] [],
  .for_ 10 (.bin .Add (.lst [(.int 1951146), (.int 774577), (.int 328)]) (.var 1))
    [.ite (.not_ (.call "_law_walk" [(.var 4), (.var 2), (.var 3), (.var 10)])) [.ret (.bool false)] []],
  .ret (.bool true)]
end Mine
end
noncomputable section
open PySem PySem.W PyProof.Rows
set_option Elab.async false
set_option linter.unusedVariables false
namespace Mine

section
variable {c : FC} {S S' : PH} {μ μ' : List Addr} {τ : St} {s : Shared}
theorem freed_none {h : Heap} {a : Addr} (e : h.objs.size ≤ a) : h.get? a = none := by
  cases q : h.get? a with
  | none => rfl
  | some o => exact absurd (Heap.lt_size q) (Nat.not_lt.mpr e)
theorem R.K_lt (r : R c S μ τ s) {a : Addr} {o : Obj} (h : c.K a = some o) : a < s.heap.objs.size := let ⟨_, e, _⟩ := r.keepK a o h; Heap.lt_size e
theorem R.S_lt (r : R c S μ τ s) {a : Addr} {o : Obj} (h : S a = some o) : a < s.heap.objs.size := Heap.lt_size (r.g.keepS a o h)
theorem R.S_new (r : R c S μ τ s) : S s.heap.objs.size = none := by
  cases q : S s.heap.objs.size with
  | none => rfl
  | some o => exact absurd (r.S_lt q) (Nat.lt_irrefl _)
/-- a new object, frozen at once -/
theorem R.new (r : R c S μ τ s) (ok : c.Ok) (o : Obj) (hf : o.isFreed = false) (d : Drawn) (tk : Nat) :
    R c (Mine.put S s.heap.objs.size o) μ τ ⟨s.heap.push o, s.gens, d, tk, s.os⟩ ∧ Sub S (Mine.put S s.heap.objs.size o) := by
  have hS := r.S_new
  refine ⟨(r.ext (Ext.push s.heap o)).put (Heap.get?_push_size _ hf) (fun hl => Nat.lt_irrefl _ (r.g.lt hl)) ?_ (fun ha => Nat.lt_irrefl _ (r.faLt ok ha)), Sub.put fun o' e => by rw [hS] at e; cases e⟩
  cases q : c.K s.heap.objs.size with
  | none => rfl
  | some o => exact absurd (r.K_lt q) (Nat.lt_irrefl _)
end

/-- what holds behind an expression -/
noncomputable def K1 (c : FC) (S : PH) (μ : List Addr) (τ' : St) (x : PV) (Q : Value → Shared → Prop) : Prop :=
  ∀ v S' μ' s', Sub S S' → Pre μ μ' → R c S' μ' τ' s' → VR S' μ' v x → Q v s'
/-- the room that is left: frames and units -/
structure Room (A : Around) (n : Nat) : Prop where
  handled : A.handled = none
  depth : A.depth + n < recursionLimit
  units : A.units + 20 * n + 20 < cLine

section
variable {prog : Program} {w : World} {A : Around} {E : Value → Shared → Prop} {c : FC} {S : PH} {μ : List Addr} {τ : St} {s : Shared} {v u : Value} {x y z : PV} {Q : Value → Shared → Prop} {n : Nat}
theorem K1.here (k : K1 c S μ τ x Q) (r : R c S μ τ s) (h : VR S μ v x) {d : Drawn} {tk : Nat} : Q v ⟨s.heap, s.gens, d, tk, s.os⟩ :=
  k v S μ _ (.refl _) (.refl _) (r.ext (Ext.refl _)) h
theorem K1.int (k : K1 c S μ τ (.int i) Q) (r : R c S μ τ s) {t : Tok} {d : Drawn} {tk : Nat} : Q (.int i t) ⟨s.heap, s.gens, d, tk, s.os⟩ := k.here r (.int i t)
theorem K1.str (k : K1 c S μ τ (.str i) Q) (r : R c S μ τ s) {t : Tok} {d : Drawn} {tk : Nat} : Q (.str i t) ⟨s.heap, s.gens, d, tk, s.os⟩ := k.here r (.str i t)
theorem K1.bool (k : K1 c S μ τ (.bool i) Q) (r : R c S μ τ s) {d : Drawn} {tk : Nat} : Q (.bool i) ⟨s.heap, s.gens, d, tk, s.os⟩ := k.here r (.bool i)
theorem K1.listN (k : K1 c S μ τ (.list xs) Q) (r : R c S μ τ s) (ok : c.Ok) {vs : List Value} (h : VRs S μ vs xs) (ns : NoS xs) {n : Nat} {d : Drawn} {tk : Nat} :
    Q (.ref s.heap.objs.size) ⟨s.heap.push (listObj vs n), s.gens, d, tk, s.os⟩ := by
  obtain ⟨r', sb⟩ := r.new ok (listObj vs n) rfl d tk
  exact k _ _ μ _ sb (.refl _) r' (.list (put_at _ _ _) (IsLO.of _ _) (h.mono sb (.refl _)) ns)
theorem K1.tupN (k : K1 c S μ τ (.tup xs) Q) (r : R c S μ τ s) (ok : c.Ok) {vs : List Value} (h : VRs S μ vs xs) (ns : NoS xs) {n : Nat} {d : Drawn} {tk : Nat} :
    Q (.ref s.heap.objs.size) ⟨s.heap.push (tupObj vs n), s.gens, d, tk, s.os⟩ := by
  obtain ⟨r', sb⟩ := r.new ok (tupObj vs n) rfl d tk
  exact k _ _ μ _ sb (.refl _) r' (.tup (put_at _ _ _) (h.mono sb (.refl _)) ns)

theorem small_iff {i : Int} : small i = true ↔ -(2 ^ 40) < i ∧ i < 2 ^ 40 := by simp [small]
theorem small_bits {i : Int} (h : small i = true) : Builtin.Int.intBits i ≤ 64 := by
  obtain ⟨h1, h2⟩ := small_iff.mp h
  exact intBits_le_64 (by omega) (by omega)
theorem small_log {i : Int} (h : small i = true) : i.natAbs.log2 < 9000 := by
  obtain ⟨h1, h2⟩ := small_iff.mp h
  by_cases z : i.natAbs = 0
  · rw [z]; decide +kernel
  · have : i.natAbs.log2 < 40 := (Nat.log2_lt z).mpr (by omega)
    omega
theorem lid_line : lid ≤ sizeLine := by rw [sizeLine_eq]; decide

theorem rep_str (x : Str) (hx : x.length = 1) (n : Int) (h0 : 0 ≤ n) (hn : n ≤ lid) {t u : Tok} (k : ∀ t' tk, Q (.str ⟨(List.replicate n.toNat (x.cps[0]?.getD 0)).toArray⟩ t') { s with toks := tk }) :
    wpAny (model prog w) A (binaryOp .Mult (.str x t) (.int n u)) Q E s := by
  have hn : n ≤ 1000000 := hn
  obtain ⟨⟨cs⟩⟩ := x
  obtain ⟨c, rfl⟩ : ∃ c, cs = [c] := List.length_eq_one_iff.mp hx
  refine P.mul_str (by simp only [Bool.or_eq_false_iff, decide_eq_false_iff_not]; omega) (fun h1 _ => ?_) (fun h1 _ => ?_) ?_
  · have e : (Str.length ⟨([c] : List Nat).toArray⟩ : Int) = 1 := by simp [Str.length]
    rw [e]
    have h9 : 1 ≤ (2 ^ 63 - 1) / n := by
      rw [Int.le_ediv_iff_mul_le (by omega)]; omega
    omega
  · have e : Str.length ⟨([c] : List Nat).toArray⟩ = 1 := by simp [Str.length]
    rw [e, Nat.one_mul]
    unfold Builtin.Str.tooLong
    have := sizeLine_eq
    simp; omega
  · by_cases h1 : n < 1
    · rw [if_pos h1]
      have : n = 0 := by omega
      subst this
      exact ⟨by decide, k _ _⟩
    · rw [if_neg h1]
      by_cases h2 : n = 1
      · subst h2
        rw [if_pos (by simp)]
        exact k _ _
      · rw [if_neg (by simp [h2, Str.length])]
        have e : (List.replicate n.toNat ([c] : List Nat).toArray).foldl (· ++ ·) #[] = (List.replicate n.toNat c).toArray := by
          have : ∀ (m : Nat) (acc : Array Nat), (List.replicate m ([c] : List Nat).toArray).foldl (· ++ ·) acc = acc ++ (List.replicate m c).toArray := by
            intro m
            induction m with
            | zero => intro acc; simp
            | succ m ih => intro acc; rw [List.replicate_succ, List.foldl_cons, ih, List.replicate_succ]; apply Array.ext'; simp
          rw [this]; simp
        rw [e]
        refine ⟨?_, ?_⟩
        · show Str.length ⟨(List.replicate n.toNat c).toArray⟩ ≤ sizeLine
          have : Str.length ⟨(List.replicate n.toNat c).toArray⟩ = n.toNat := by simp [Str.length]
          rw [this, sizeLine_eq]; omega
        · have := k s.toks (s.toks + 1)
          simpa using this

theorem add_lo {a b : Addr} {o1 o2 : Obj} {vs ws : List Value} (ha : s.heap.get? a = some o1) (qa : IsLO o1 vs) (hb : s.heap.get? b = some o2) (qb : IsLO o2 ws)
    (k : Q (.ref s.heap.objs.size) { s with heap := s.heap.push (listObj (vs ++ ws) 0) }) (hz : vs.length + ws.length ≤ sizeLine) : wpAny (model prog w) A (binaryOp .Add (.ref a) (.ref b)) Q E s := by
  obtain ⟨c1, d1, dt1, sl1⟩ := o1
  obtain ⟨c2, d2, dt2, sl2⟩ := o2
  obtain ⟨h1, n1, h2⟩ := qa
  obtain ⟨h3, n2, h4⟩ := qb
  simp only at h1 h2 h3 h4
  subst h1 h2 h3 h4
  have e : vs.toArray ++ ws.toArray = (vs ++ ws).toArray := by simp
  refine concat_meets ⟨_, ha, rfl⟩ ⟨_, hb, rfl⟩ noFill_list_add seq_list_add PySem.F.slot_list_add PySem.F.entry_list_add (PySem.F.args_list_add_2 _ _) (list_addW a b vs.toArray ws.toArray n1 n2 d1 d2 sl1 sl2 (by simpa using hz)) ⟨ha, hb, ?_⟩
  rw [e]
  exact k

theorem K1.cast {x z : PV} (h : some x = some z) (k : K1 c S μ τ z Q) : K1 c S μ τ x Q := by cases h; exact k
/-- both operands are ints -/
theorem int_op {o : Operator} {f : Int → Int → Option PV} (hv : VR S μ v x) (hu : VR S μ u y) (h : i2 x y f = some z) (k : ∀ a b t t', f a b = some z → wpAny (model prog w) A (binaryOp o (.int a t) (.int b t')) Q E s) : wpAny (model prog w) A (binaryOp o v u) Q E s := by
  obtain ⟨a, b, rfl, rfl, h⟩ := i2_inv h
  obtain ⟨_, rfl⟩ := hv.sh; obtain ⟨_, rfl⟩ := hu.sh
  exact k a b _ _ h
theorem binV_ok {o : Operator} (ok : c.Ok) (r : R c S μ τ s) (hv : VR S μ v x) (hu : VR S μ u y) (h : binV o x y = some z) (k : K1 c S μ τ z Q) : wpAny (model prog w) A (binaryOp o v u) Q E s := by
  cases o with
  | Add =>
    cases x with
    | int a =>
      obtain ⟨b, h1, h2⟩ := Option.map_eq_some_iff.mp h
      rw [intOf_inv h1] at hu; subst h2
      apply VR.int2 hv hu
      exact fun t t' => PyProof.Rows.add_int (k.int r)
    | str a =>
      refine bdk h fun b h1 h2 => ifk h2 fun hz h2 => ?_
      rw [sOf_inv h1] at hu
      apply VR.str2 hv hu
      exact fun t t' => PyProof.Rows.add_str (fun _ _ => (k.cast h2).str r) (Nat.le_trans hz lid_line)
    | list a =>
      refine bdk h fun b h1 h2 => ifk h2 fun hz h2 => ?_
      rw [lOf_inv h1] at hu
      apply VR.listK hv
      intro a1 o1 v1 e1 q1 g1 n1
      apply VR.listK hu
      intro a2 o2 v2 e2 q2 g2 n2
      exact add_lo (r.g.keepS _ _ e1) q1 (r.g.keepS _ _ e2) q2 ((k.cast h2).listN r ok (g1.app g2) (n1.app n2)) (by rw [g1.length, g2.length]; exact Nat.le_trans hz lid_line)
    | _ => exact no h
  | Sub => exact int_op hv hu h fun a b _ _ h => PyProof.Rows.sub_int ((k.cast h).int r)
  | Mult =>
    cases x with
    | int a =>
      refine bdk h fun b h1 h2 => ifk h2 fun hz h2 => ?_
      rw [intOf_inv h1] at hu
      apply VR.int2 hv hu
      exact fun t t' => PyProof.Rows.mul_int ((k.cast h2).int r) (IntMulOk.of_left (small_bits hz))
    | str a =>
      refine bdk h fun b h1 h2 => ifk h2 fun hz h2 => ?_
      rw [intOf_inv h1] at hu
      apply VR.strK hv
      intro t
      apply VR.intK hu
      exact fun t' => rep_str _ hz.1 _ hz.2.1 hz.2.2 fun _ _ => (k.cast h2).str r
    | _ => exact no h
  | FloorDiv => exact int_op hv hu h fun a b _ _ h => ifk h fun hz h => PyProof.Rows.floordiv_int hz.1 ((k.cast h).int r) (.inl (PyProof.noPylong_of_log2 (small_log hz.2)))
  | Mod => exact int_op hv hu h fun a b _ _ h => ifk h fun hz h => PyProof.Rows.mod_int' hz ((k.cast h).int r)
  | BitAnd => exact int_op hv hu h fun a b _ _ h => PyProof.Rows.and_int ((k.cast h).int r)
  | BitXor => exact int_op hv hu h fun a b _ _ h => PyProof.Rows.xor_int ((k.cast h).int r)
  | Pow =>
    refine int_op hv hu h fun a b _ _ h => ifk h fun hz h => ?_
    obtain ⟨rfl, h0, h1⟩ := hz
    exact PyProof.Rows.pow_int h0 (by have : Builtin.Int.intBits 8 = 4 := by decide +kernel
                                      rw [this]; omega) ((k.cast h).int r)
  | _ => exact no h
end
end Mine
end
noncomputable section
open PySem PySem.W PyProof.Rows
set_option Elab.async false
set_option linter.unusedVariables false
namespace Mine

/-- a value that is only looked at: known by the frozen part, or a list that is being built -/
noncomputable def VH (S : PH) (μ : List Addr) (h : Heap) (v : Value) (x : PV) : Prop :=
  VR S μ v x ∨ ∃ a vs n xs, v = .ref a ∧ h.get? a = some (listObj vs n) ∧ VRs S μ vs xs ∧ NoS xs ∧ x = .list xs

section
variable {prog : Program} {w : World} {A : Around} {E : Value → Shared → Prop} {c : FC} {S : PH} {μ : List Addr} {τ : St} {s : Shared} {v u : Value} {x y z : PV} {Q : Value → Shared → Prop} {n : Nat}
theorem isList_of {h : Heap} {a : Addr} {o : Obj} {vs : List Value} (e : h.get? a = some o) (q : IsLO o vs) : h.IsList a vs.toArray := ⟨_, e, q⟩
theorem VH.list {xs : List PV} (h : VH S μ s.heap v (.list xs)) (r : R c S μ τ s) : ∃ a vs, v = .ref a ∧ s.heap.IsList a vs.toArray ∧ VRs S μ vs xs := by
  rcases h with h | ⟨a, vs, n, ys, e, h1, h2, h4, h3⟩
  · obtain ⟨_, _, _, rfl, e, q, h, _⟩ := h.sh; exact ⟨_, _, rfl, isList_of (r.g.keepS _ _ e) q, h⟩
  · cases h3; exact ⟨a, vs, e, isList_of h1 (IsLO.of _ _), h2⟩
theorem VH.noS {xs : List PV} (h : VH S μ s.heap v (.list xs)) : NoS xs := by
  rcases h with h | ⟨a, vs, n, ys, e, h1, h2, h4, h3⟩
  · obtain ⟨_, _, _, _, _, _, _, ns⟩ := h.sh; exact ns
  · cases h3; exact h4
theorem VH.plain (h : VH S μ s.heap v x) (hx : ∀ xs, x ≠ .list xs) : VR S μ v x := by
  rcases h with h | ⟨a, vs, n, ys, e, h1, h2, h4, h3⟩
  · exact h
  · exact absurd h3 (hx _)
theorem isTuple_of {h : Heap} {a : Addr} {vs : List Value} {n : Nat} (e : h.get? a = some (tupObj vs n)) : h.IsTuple a vs.toArray := ⟨_, e, rfl, n, rfl⟩

theorem truthV_ok {b : Bool} {Q : Bool → Shared → Prop} (r : R c S μ τ s) (hv : VH S μ s.heap v x) (h : truthV x = some b) (k : ∀ d tk, Q b ⟨s.heap, s.gens, d, tk, s.os⟩) : wpAny (model prog w) A (truthy v) Q E s := by
  cases x with
  | none => cases h; cases (hv.plain (fun _ e => by cases e)).sh; exact truthy_none (k _ _)
  | bool => cases h; cases (hv.plain (fun _ e => by cases e)).sh; exact wpAny_truthy_bool (k _ _)
  | int => cases h; obtain ⟨_, rfl⟩ := (hv.plain (fun _ e => by cases e)).sh; exact PyProof.Rows.truthy_int (k _ _)
  | str x =>
    obtain ⟨hz, rfl⟩ := gd_inv h
    obtain ⟨_, rfl⟩ := (hv.plain (fun _ e => by cases e)).sh
    have hz : x.length ≤ 1000000 := hz
    refine P.truthy_str (by omega) ?_
    have e : ((x.length : Int) != 0) = (x.length != 0) := by
      rw [Bool.eq_iff_iff]; simp only [bne_iff_ne, ne_eq]; omega
    rw [e]; exact k _ _
  | bytes a =>
    obtain ⟨hz, rfl⟩ := gd_inv h
    obtain ⟨_, rfl⟩ := (hv.plain (fun _ e => by cases e)).sh
    have hz : a.size ≤ 1000000 := hz
    refine truthy_bytes (by omega) ?_
    have e : ((a.size : Int) != 0) = (a.size != 0) := by
      rw [Bool.eq_iff_iff]; simp only [bne_iff_ne, ne_eq]; omega
    rw [e]; exact k _ _
  | list xs =>
    obtain ⟨hz, rfl⟩ := gd_inv h
    obtain ⟨a, vs, rfl, ho, hvs⟩ := hv.list r
    have hl := hvs.length
    have hz : xs.length ≤ 1000000 := hz
    refine wpAny_truthy_list ho (by rw [List.size_toArray]; omega) ?_
    have e : (!vs.toArray.isEmpty) = !xs.isEmpty := by
      cases hvs <;> rfl
    rw [e]; exact k _ _
  | _ => exact no h

/-! comparisons -/
theorem strsOf_are : ∀ {xs : List PV} {vs : List Value} {ss : List Str}, VRs S μ vs xs → strsOf xs = some ss → StrsAre vs ss
  | [], _, _, h, e => by cases e; rw [h.nilK]; exact .nil
  | x :: xs, _, _, h, e => by
    refine bdk e fun y h1 e => ?_
    obtain ⟨ss', e', e2⟩ := Option.map_eq_some_iff.mp e
    subst e2
    apply h.consK
    intro v r p t
    rw [sOf_inv h1] at p
    apply p.strK
    exact fun _ => .cons _ _ (strsOf_are t e')
theorem intsOf_are : ∀ {xs : List PV} {vs : List Value} {ns : List Int}, VRs S μ vs xs → intsOf xs = some ns → IntsAre vs ns
  | [], _, _, h, e => by cases e; rw [h.nilK]; exact .nil
  | x :: xs, _, _, h, e => by
    refine bdk e fun y h1 e => ?_
    obtain ⟨ss', e', e2⟩ := Option.map_eq_some_iff.mp e
    subst e2
    apply h.consK
    intro v r p t
    rw [intOf_inv h1] at p
    apply p.intK
    exact fun _ => .cons _ _ (intsOf_are t e')
theorem two_strs {vs : List Value} {a b : Str} (h : StrsAre vs [a, b]) : ∃ t u, vs = [.str a t, .str b u] := by
  cases h with | cons _ t h => cases h with | cons _ u h => cases h; exact ⟨t, u, rfl⟩

theorem ne_ints {a b : Addr} {vs ws : List Value} {as bs : List Int} (ha : s.heap.IsList a vs.toArray) (hb : s.heap.IsList b ws.toArray) (hv : IntsAre vs as) (hw : IntsAre ws bs) (hu : A.units < cLine)
    (k : Q (.bool (as != bs)) s) : wpAny (model prog w) A (compareOp .NotEq (.ref a) (.ref b)) Q E s := by
  show wpAny _ _ (richCompare .NotEq (.ref a) (.ref b)) Q E s
  have lv := hv.length
  have lw := hw.length
  by_cases hl : as.length = bs.length
  · have get : ∀ {us : List Value} {ns : List Int}, IntsAre us ns → ∀ j (h1 : j < us.length) (h2 : j < ns.length), ∃ t, us[j] = .int ns[j] t := by
      intro us ns hi
      induction hi with
      | nil => intro j h1; exact absurd h1 (Nat.not_lt_zero _)
      | cons n t h ih =>
        intro j h1 h2
        cases j with
        | zero => exact ⟨t, rfl⟩
        | succ j => exact ih j (by simpa using h1) (by simpa using h2)
    have key := SeqAt.RcNeAt.lists (A := A) (e := fun j => as[j]? == bs[j]?) ha hb (by simp [lv, lw, hl]) hu (fun j h1 h2 => by
      have h1' : j < vs.length := by simpa using h1
      have h2' : j < ws.length := by simpa using h2
      obtain ⟨t1, e1⟩ := get hv j h1' (by omega)
      obtain ⟨t2, e2⟩ := get hw j h2' (by omega)
      rw [show vs.toArray[j] = vs[j] from rfl, show ws.toArray[j] = ws[j] from rfl, e1, e2]
      have ee : (as[j]? == bs[j]?) = (as[j]'(by omega) == bs[j]'(by omega)) := by
        rw [List.getElem?_eq_getElem (by omega), List.getElem?_eq_getElem (by omega)]
        rfl
      rw [ee]
      exact (MeetsSeq.EqGives.int _ _ t1 t2).at _ _)
    have fin : (!(List.range vs.toArray.size).all fun j => as[j]? == bs[j]?) = (as != bs) := by
      rw [bne, Bool.eq_iff_iff]
      simp only [Bool.not_eq_true', List.all_eq_false, List.mem_range, beq_iff_eq]
      constructor
      · rintro ⟨j, hj, hne⟩
        rw [beq_eq_false_iff_ne]
        rintro rfl
        exact hne rfl
      · intro hne
        rw [beq_eq_false_iff_ne] at hne
        apply Classical.byContradiction
        intro hno
        apply hne
        apply List.ext_getElem hl
        intro i h1 h2
        have : as[i]? = bs[i]? := Classical.byContradiction fun q => hno ⟨i, by simp [lv]; omega, q⟩
        rw [List.getElem?_eq_getElem h1, List.getElem?_eq_getElem h2] at this
        exact Option.some.inj this
    exact key prog w E Q (by rw [fin]; exact k)
  · have e : (as != bs) = true := by
      rw [bne, Bool.not_eq_true', beq_eq_false_iff_ne]
      rintro rfl; exact hl rfl
    rw [e] at k
    exact SeqAt.RcNeAt.lists_lengths (A := A) ha hb (by simp [lv, lw, hl]) hu prog w E Q k

theorem ne_pair {a b : Addr} {x1 x2 y1 y2 : Str} {t1 t2 u1 u2 : Tok} (ha : s.heap.IsTuple a [Value.str x1 t1, Value.str x2 t2].toArray) (hb : s.heap.IsTuple b [Value.str y1 u1, Value.str y2 u2].toArray) (hu : A.units < cLine)
    (k : Q (.bool (!(x1 == y1 && x2 == y2))) s) : wpAny (model prog w) A (compareOp .NotEq (.ref a) (.ref b)) Q E s := by
  show wpAny _ _ (richCompare .NotEq (.ref a) (.ref b)) Q E s
  have key := SeqAt.RcNeAt.tuples (A := A) (e := fun j => if j = 0 then x1 == y1 else x2 == y2) ha hb hu (fun j h1 h2 => by
    have h1' : j < 2 := h1
    rcases (show j = 0 ∨ j = 1 by omega) with rfl | rfl
    · exact (eqGives_str x1 y1 t1 u1).at _ _
    · exact (eqGives_str x2 y2 t2 u2).at _ _)
  refine key prog w E Q ?_
  have : (!((List.range (min (#[Value.str x1 t1, Value.str x2 t2] : Array Value).size (#[Value.str y1 u1, Value.str y2 u2] : Array Value).size)).all (fun j => if j = 0 then x1 == y1 else x2 == y2) &&
      (#[Value.str x1 t1, Value.str x2 t2] : Array Value).size == (#[Value.str y1 u1, Value.str y2 u2] : Array Value).size)) = (!(x1 == y1 && x2 == y2)) := by
    simp [List.range, List.range.loop]
  rw [this]; exact k

theorem any_beq (x : Str) : ∀ l : List Str, l.any (· == x) = l.contains x
  | [] => rfl
  | y :: l => by
    rw [List.any_cons, any_beq x l, List.contains_cons]
    congr 1
    rw [BEq.comm]

theorem kB {b b' : Bool} (h : some b = some b') (k : ∀ d tk, Q (.bool b') ⟨s.heap, s.gens, d, tk, s.os⟩) : ∀ d tk, Q (.bool b) ⟨s.heap, s.gens, d, tk, s.os⟩ := by cases h; exact k
theorem cmpV_ok {o : CmpOp} {b : Bool} (hu : A.units < cLine) (r : R c S μ τ s) (hv : VR S μ v x) (hw : VR S μ u y) (h : cmpV o x y = some b) (k : ∀ d tk, Q (.bool b) ⟨s.heap, s.gens, d, tk, s.os⟩) : wpAny (model prog w) A (compareOp o v u) Q E s := by
  cases o with
  | Eq =>
    cases x with
    | int =>
      obtain ⟨b, h1, h2⟩ := Option.map_eq_some_iff.mp h
      rw [intOf_inv h1] at hw; subst h2
      apply VR.int2 hv hw
      exact fun t t' => PyProof.Rows.eq_int (k _ _)
    | str =>
      obtain ⟨b, h1, h2⟩ := Option.map_eq_some_iff.mp h
      rw [sOf_inv h1] at hw; subst h2
      apply VR.str2 hv hw
      exact fun t t' => PyProof.Rows.eq_str (k _ _)
    | _ => exact no h
  | NotEq =>
    cases x with
    | int =>
      obtain ⟨b, h1, h2⟩ := Option.map_eq_some_iff.mp h
      rw [intOf_inv h1] at hw; subst h2
      apply VR.int2 hv hw
      exact fun t t' => PyProof.Rows.ne_int (k _ _)
    | str =>
      obtain ⟨b, h1, h2⟩ := Option.map_eq_some_iff.mp h
      rw [sOf_inv h1] at hw; subst h2
      apply VR.str2 hv hw
      exact fun t t' => PyProof.Rows.ne_str (k _ _)
    | tup xs =>
      refine bdk h fun as h1 h => bdk h fun p h2 h => bdk h fun ys h3 h => bdk h fun bs h4 h => ?_
      obtain ⟨q, h5, h6⟩ := Option.map_eq_some_iff.mp h
      rw [two_inv h2] at h1; rw [two_inv h5] at h4; rw [tuOf_inv h3] at hw; subst h6
      obtain ⟨_, _, _, rfl, e1, g1, _⟩ := hv.sh
      obtain ⟨_, _, _, rfl, e2, g2, _⟩ := hw.sh
      obtain ⟨t1, t2, rfl⟩ := two_strs (strsOf_are g1 h1)
      obtain ⟨u1, u2, rfl⟩ := two_strs (strsOf_are g2 h4)
      exact ne_pair (isTuple_of (r.g.keepS _ _ e1)) (isTuple_of (r.g.keepS _ _ e2)) hu (k _ _)
    | list xs =>
      refine bdk h fun as ea h => bdk h fun ys h3 h => bdk h fun bs eb h => ifk h fun _ h => ?_
      rw [lOf_inv h3] at hw
      apply VR.listK hv
      intro a1 o1 v1 e1 q1 g1 n1
      apply VR.listK hw
      intro a2 o2 v2 e2 q2 g2 n2
      exact ne_ints (isList_of (r.g.keepS _ _ e1) q1) (isList_of (r.g.keepS _ _ e2) q2) (intsOf_are g1 ea) (intsOf_are g2 eb) hu (kB h k _ _)
    | _ => exact no h
  | GtE =>
    obtain ⟨a, b, rfl, rfl, h⟩ := i2_inv h
    apply VR.int2 hv hw
    exact fun t t' => P.ge_int (kB h k _ _)
  | Is =>
    cases y with
    | none =>
      cases x with
      | int =>
        apply VR.intK hv
        cases hw.sh
        exact fun t => is_none_ne (fun e => by cases e) (kB h k _ _)
      | none => cases hv.sh; cases hw.sh; exact is_none_none (kB h k _ _)
      | _ => exact no h
    | _ => exact no h
  | In =>
    refine bdk h fun a h1 h => bdk h fun ys h2 h => bdk h fun ss ea h => ifk h fun _ h => ?_
    rw [sOf_inv h1] at hv; rw [lOf_inv h2] at hw
    apply VR.strK hv
    intro t
    apply VR.listK hw
    intro a2 o2 v2 e2 q2 g2 n2
    exact in_list_strs (isList_of (r.g.keepS _ _ e2) q2) (strsOf_are g2 ea) (by rw [any_beq]; exact kB h k _ _)
  | NotIn =>
    refine bdk h fun a h1 h => ?_
    rw [sOf_inv h1] at hv
    apply VR.strK hv
    intro t
    cases y with
    | list ys =>
      refine bdk h fun ss ea h => ifk h fun _ h => ?_
      apply VR.listK hw
      intro a2 o2 v2 e2 q2 g2 n2
      exact notin_list_strs (isList_of (r.g.keepS _ _ e2) q2) (strsOf_are g2 ea) (by rw [any_beq]; exact kB h k _ _)
    | str =>
      apply VR.strK hw
      exact fun t' => notIn_str (kB h k _ _)
    | _ => exact no h
  | _ => exact no h
end
end Mine
end
noncomputable section
open PySem PySem.W PyProof.Rows
set_option Elab.async false
set_option linter.unusedVariables false
namespace Mine

theorem clip_nonneg {n : Nat} {i : Int} (h : 0 ≤ i) : clipAt n i = min i.toNat n := by
  obtain ⟨m, rfl⟩ := Int.eq_ofNat_of_zero_le h
  rw [clipAt_nat]; simp
theorem cut_list {α : Type} (l : List α) (a b : Nat) : (l.drop (min a l.length)).take (min b l.length - min a l.length) = (l.drop a).take (b - a) := by
  by_cases ha : a ≤ l.length
  · rw [Nat.min_eq_left ha]
    by_cases hb : b ≤ l.length
    · rw [Nat.min_eq_left hb]
    · rw [Nat.min_eq_right (show l.length ≤ b by omega)]
      rw [List.take_of_length_le (by rw [List.length_drop]; exact Nat.le_refl _), List.take_of_length_le (by rw [List.length_drop]; omega)]
  · rw [Nat.min_eq_right (show l.length ≤ a by omega), List.drop_length, List.drop_eq_nil_of_le (show l.length ≤ a by omega)]
    simp
theorem cut_plain {α : Type} (l : List α) (n : Nat) (hn : l.length = n) (lo hi : Option Int) (h1 : (lo.all fun i => decide (0 ≤ i)) = true) (h2 : (hi.all fun i => decide (0 ≤ i)) = true) :
    (l.drop (lo.elim 0 (clipAt n))).take (hi.elim n (clipAt n) - lo.elim 0 (clipAt n)) = (l.drop (lo.getD 0).toNat).take ((hi.getD n).toNat - (lo.getD 0).toNat) := by
  have e1 : lo.elim 0 (clipAt n) = min (lo.getD 0).toNat l.length := by
    cases lo with
    | none => simp
    | some i => simp at h1; simp [clip_nonneg h1, hn]
  have e2 : hi.elim n (clipAt n) = min (hi.getD n).toNat l.length := by
    cases hi with
    | none => simp [hn]
    | some i => simp at h2; simp [clip_nonneg h2, hn]
  rw [e1, e2, cut_list]

theorem str_slice (x : Str) (lo hi : Option Int) (h1 : (lo.all fun i => decide (0 ≤ i)) = true) (h2 : (hi.all fun i => decide (0 ≤ i)) = true) :
    (Builtin.Str.strSliceIndices lo hi 1 x.length).filterMap (x.cps[·]?) = (x.cps.toList.drop (lo.getD 0).toNat).take ((hi.getD x.length).toNat - (lo.getD 0).toNat) := by
  have e : Builtin.Str.strSliceIndices lo hi 1 x.length = sliceRange (sliceBounds lo hi none x.length).1 (sliceBounds lo hi none x.length).2.1 (sliceBounds lo hi none x.length).2.2 := by
    cases lo <;> cases hi <;> rfl
  rw [e, sliceBounds_plain]
  simp only [sliceRange_one, pick_run]
  exact cut_plain x.cps.toList x.length (by simp [Str.length]) lo hi h1 h2

theorem str_slice_len (x : Str) (lo hi : Option Int) (h1 : (lo.all fun i => decide (0 ≤ i)) = true) (h2 : (hi.all fun i => decide (0 ≤ i)) = true) :
    (Builtin.Str.strSliceIndices lo hi 1 x.length).length = ((x.cps.toList.drop (lo.getD 0).toNat).take ((hi.getD x.length).toNat - (lo.getD 0).toNat)).length := by
  rw [← str_slice x lo hi h1 h2]
  have e : Builtin.Str.strSliceIndices lo hi 1 x.length = sliceRange (sliceBounds lo hi none x.length).1 (sliceBounds lo hi none x.length).2.1 (sliceBounds lo hi none x.length).2.2 := by
    cases lo <;> cases hi <;> rfl
  rw [e, sliceBounds_plain]
  simp only [sliceRange_one, pick_run]
  simp only [List.length_map, List.length_range, List.length_take, List.length_drop, Array.length_toList]
  have hcl : ∀ i : Int, clipAt x.length i ≤ x.length := fun i => by
    have := clipAt_cast x.length i
    omega
  have hb2 : hi.elim x.length (clipAt x.length) ≤ x.length := by
    cases hi with
    | none => exact Nat.le_refl _
    | some q => exact hcl _
  have hxs : x.cps.size = x.length := rfl
  omega

section
variable {prog : Program} {w : World} {A : Around} {E : Value → Shared → Prop} {c : FC} {S : PH} {μ : List Addr} {τ : St} {s : Shared} {v u : Value} {x y z : PV} {Q : Value → Shared → Prop} {n : Nat} {value slice : Expr}

theorem itemV_ok (r : R c S μ τ s) (hv : VH S μ s.heap v x) (hu : VR S μ u y) (h : itemV x y = some z) (k : K1 c S μ τ z Q)
    (hs : ∀ o i, subscripted slice false o i = operate [o, i] (getItem o i)) : wpAny (model prog w) A (subscriptTail value slice v u) Q E s := by
  obtain ⟨i, hi0, h'⟩ := bd h
  cases intOf_inv hi0
  clear h hi0
  obtain ⟨_, rfl⟩ := hu.sh
  have L : lid = 1000000 := rfl
  cases x with
  | list xs =>
    obtain ⟨a, vs, rfl, hl, hvs⟩ := hv.list r
    have hlen := hvs.length
    replace h' : (if xs.length ≤ lid then (if 0 ≤ i then xs[i.toNat]? else if -(xs.length : Int) ≤ i then xs[(xs.length + i).toNat]? else none) else none) = some z := h'
    by_cases hz : xs.length ≤ lid
    · rw [if_pos hz] at h'
      by_cases hi : 0 ≤ i
      · rw [if_pos hi] at h'
        obtain ⟨v, e, hv'⟩ := hvs.get h'
        have hlt : i.toNat < vs.length := (List.getElem?_eq_some_iff.mp e).1
        exact tail_any hl.typeIs slot_list_getitem.lookup (wpAny_getItem_list hl hi (by omega) (by simpa using e) (k.here r hv')) (hs _ _)
      · rw [if_neg hi] at h'
        by_cases hj : -(xs.length : Int) ≤ i
        · rw [if_pos hj] at h'
          obtain ⟨v, e, hv'⟩ := hvs.get h'
          exact tail_any hl.typeIs slot_list_getitem.lookup (wpAny_getItem_list_neg hl (by omega) (by rw [List.size_toArray, hlen]; omega) (by omega)
            (by rw [List.size_toArray, hlen, Int.add_comm]; simpa using e) (k.here r hv')) (hs _ _)
        · rw [if_neg hj] at h'; cases h'
    · rw [if_neg hz] at h'; cases h'
  | tup xs =>
    obtain ⟨_, _, _, rfl, e, hvs, _⟩ := (hv.plain (fun _ e => by cases e)).sh
    have hlen := hvs.length
    replace h' : (if xs.length ≤ lid ∧ 0 ≤ i then xs[i.toNat]? else none) = some z := h'
    by_cases hz : xs.length ≤ lid ∧ 0 ≤ i
    · rw [if_pos hz] at h'
      obtain ⟨hz1, hi⟩ := hz
      obtain ⟨v, e2, hv'⟩ := hvs.get h'
      have hlt : i.toNat < _ := (List.getElem?_eq_some_iff.mp e2).1
      have ht := isTuple_of (r.g.keepS _ _ e)
      have hn : ¬ i < 0 := Int.not_lt.mpr hi
      exact tail_any (Heap.IsTuple.typeIs ht) slot_tuple_getitem.lookup (PyProof.Rows.getItem_tuple ht (by omega) (by omega) (j := i.toNat)
        (by simp only [seqIndex?, hn, if_false, List.size_toArray]; rw [if_pos]; simp; omega) (by simpa using e2) (k.here r hv')) (hs _ _)
    · rw [if_neg hz] at h'; cases h'
  | str xs =>
    obtain ⟨_, rfl⟩ := (hv.plain (fun _ e => by cases e)).sh
    replace h' : (if 0 ≤ i ∧ xs.length ≤ lid then (xs.cps[i.toNat]?).map fun c => PV.str ⟨#[c]⟩ else none) = some z := h'
    by_cases hz : 0 ≤ i ∧ xs.length ≤ lid
    · rw [if_pos hz] at h'
      obtain ⟨hi, hz1⟩ := hz
      obtain ⟨ch, e, e2⟩ := Option.map_eq_some_iff.mp h'
      subst e2
      have hlt : i.toNat < xs.cps.size := (Array.getElem?_eq_some_iff.mp e).1
      have hn : ¬ i < 0 := Int.not_lt.mpr hi
      have hlt' : i < xs.length := by unfold Str.length; omega
      refine tail_any (typeIs_str _ _ _) slot_str_getitem.lookup (PyProof.Rows.getItem_str (c := ch) ?_ ?_ (k.str r)) (hs _ _)
      · simp only [Bool.or_eq_false_iff, decide_eq_false_iff_not]; omega
      · simp only [seqIndex?, hn, if_false]
        rw [if_pos (by simp; omega)]
        exact e
    · rw [if_neg hz] at h'; cases h'
  | bytes b =>
    obtain ⟨_, rfl⟩ := (hv.plain (fun _ e => by cases e)).sh
    replace h' : (if 0 ≤ i ∧ b.size ≤ lid then (b[i.toNat]?).map fun b => PV.int b.toNat else none) = some z := h'
    by_cases hz : 0 ≤ i ∧ b.size ≤ lid
    · rw [if_pos hz] at h'
      obtain ⟨l⟩ := b
      have hz1 : l.length ≤ 1000000 := hz.2
      obtain ⟨ch, e, e2⟩ := Option.map_eq_some_iff.mp h'
      subst e2
      have e : l[i.toNat]? = some ch := by simpa using e
      have hlt := (List.getElem?_eq_some_iff.mp e).1
      have hi := hz.1
      refine tail_any (typeIs_bytes _ _ _) FB.slot_bytes_getitem.lookup (getItem_bytes (by omega) hi (by omega) ?_) (hs _ _)
      have : l.getD i.toNat 0 = ch := by simp [List.getD, e]
      rw [this]; exact k.int r
    · rw [if_neg hz] at h'; cases h'
  | _ => exact no h'

theorem item_tup {ps : List PV} {j : Int} {z : PV} (h : itemV (.tup ps) (.int j) = some z) : (ps.length ≤ lid ∧ 0 ≤ j) ∧ ps[j.toNat]? = some z := by
  replace h : (if ps.length ≤ lid ∧ 0 ≤ j then ps[j.toNat]? else none) = some z := h
  by_cases hz : ps.length ≤ lid ∧ 0 ≤ j
  · rw [if_pos hz] at h; exact ⟨hz, h⟩
  · rw [if_neg hz] at h; cases h

theorem part_of {v : Value} {o : Option Int} (h : IsPart v o) : ∃ p : Option (Int × Tok), v = partValue p ∧ p.map (·.1) = o := by
  cases h with
  | none => exact ⟨Option.none, rfl, rfl⟩
  | int i t => exact ⟨some (i, t), rfl, rfl⟩

theorem cutV_ok {lo hi : Option Int} {vl vu : Value} {p : Pos} {l1 l2 : Option PySem.Expr} (ok : c.Ok) (r : R c S μ τ s) (hv : VH S μ s.heap v x) (hl : IsPart vl lo) (hh : IsPart vu hi) (h : cutV x lo hi = some z) (k : K1 c S μ τ z Q) :
    wpAny (model prog w) A (subscriptTail value (.Slice l1 l2 Option.none p) v (.ref s.heap.objs.size)) Q E { s with heap := s.heap.push { cls := .type "slice", data := .fields #[vl, vu, .none] } } := by
  have r' : R c S μ τ { s with heap := s.heap.push { cls := .type "slice", data := .fields #[vl, vu, .none] } } := r.ext (Ext.push _ _)
  unfold cutV at h
  by_cases hb : ((lo.all fun i => decide (0 ≤ i)) && (hi.all fun i => decide (0 ≤ i))) = true
  · rw [if_pos hb] at h
    obtain ⟨h1, h2⟩ := Bool.and_eq_true_iff.mp hb
    cases x with
    | str x =>
      obtain ⟨hz, rfl⟩ := gd_inv h
      obtain ⟨_, rfl⟩ := (hv.plain (fun _ e => by cases e)).sh
      obtain ⟨p1, rfl, q1⟩ := part_of hl
      obtain ⟨p2, rfl, q2⟩ := part_of hh
      refine tail_any (T := "str") (typeIs_str _ _ _) slot_str_getitem.lookup (wpAny_getItem_str_slice (l := p1) (u := p2) (st := Option.none) ⟨_, Heap.get?_push_size _ rfl, rfl, rfl⟩ rfl ?_) rfl
      have hp : slicePicked x p1 p2 Option.none = Builtin.Str.strSliceIndices lo hi 1 x.length := by
        unfold slicePicked
        rw [q1, q2]; rfl
      unfold sliceMade
      rw [hp]
      have e := str_slice x lo hi h1 h2
      have elen := str_slice_len x lo hi h1 h2
      have hle : ((x.cps.toList.drop (lo.getD 0).toNat).take ((hi.getD x.length).toNat - (lo.getD 0).toNat)).Sublist x.cps.toList :=
          (List.take_sublist _ _).trans (List.drop_sublist _ _)
      by_cases hw : ((((Option.none : Option (Int × Tok)).map (·.1)).getD 1 == 1 && (Builtin.Str.strSliceIndices lo hi 1 x.length).length == x.length) = true)
      · rw [if_pos hw]
        have hlen : (Builtin.Str.strSliceIndices lo hi 1 x.length).length = x.length := beq_iff_eq.mp (Bool.and_eq_true_iff.mp hw).2
        have e3 := hle.eq_of_length (by rw [← elen, hlen]; exact Array.length_toList.symm)
        rw [e3] at k
        exact k.str r'
      · rw [if_neg hw, e]
        refine ⟨?_, k.str r'⟩
        have h4 := hle.length_le
        rw [Array.length_toList] at h4
        exact Nat.le_trans (Nat.le_of_eq List.size_toArray) (Nat.le_trans h4 (Nat.le_trans hz lid_line))
    | list xs =>
      obtain ⟨hz, rfl⟩ := gd_inv h
      have hns := hv.noS
      obtain ⟨a, vs, rfl, hli, hvs⟩ := hv.list r
      have hlen := hvs.length
      refine tail_any (hli.push _).typeIs slot_list_getitem.lookup (wpAny_getItem_list_slice (hli.push _) (Heap.IsSliceOf.new ..) hl hh .none (by simp) ?_ (by rw [List.size_toArray, hlen]; exact Nat.le_trans hz lid_line)) rfl
      rw [slicePick_plain]
      have e := cut_plain vs vs.length rfl lo hi h1 h2
      rw [show (vs.toArray.size) = vs.length from List.size_toArray, show vs.toArray.toList = vs from rfl, e, hlen]
      exact k.listN r' ok ((hvs.drop _).take _) ((hns.drop _).take _)
    | _ => exact no h
  · rw [if_neg hb] at h; cases h

theorem lenV_ok (r : R c S μ τ s) (hv : VH S μ s.heap v x) (h : lenV x = some z) (k : K1 c S μ τ z Q) : wpAny (model prog w) A (call (.builtin "len") [v]) Q E s := by
  cases x with
  | str x =>
    obtain ⟨hz, rfl⟩ := gd_inv h
    obtain ⟨_, rfl⟩ := (hv.plain (fun _ e => by cases e)).sh
    have hz : x.length ≤ 1000000 := hz
    exact PyProof.Rows.len_str (by omega) (k.int r)
  | bytes x =>
    obtain ⟨hz, rfl⟩ := gd_inv h
    obtain ⟨_, rfl⟩ := (hv.plain (fun _ e => by cases e)).sh
    have hz : x.size ≤ 1000000 := hz
    exact len_bytes (by omega) (k.int r)
  | list xs =>
    obtain ⟨hz, rfl⟩ := gd_inv h
    have hz : xs.length ≤ 1000000 := hz
    obtain ⟨a, vs, rfl, hli, hvs⟩ := hv.list r
    have hlen := hvs.length
    refine PyProof.Rows.len_list hli (by rw [List.size_toArray]; omega) ?_
    rw [List.size_toArray, hlen]; exact k.int r
  | tup xs =>
    obtain ⟨hz, rfl⟩ := gd_inv h
    have hz : xs.length ≤ 1000000 := hz
    obtain ⟨_, _, _, rfl, e, hvs, _⟩ := (hv.plain (fun _ e => by cases e)).sh
    have hlen := hvs.length
    refine P.len_tuple (r.g.keepS _ _ e) (by rw [List.size_toArray]; omega) ?_
    rw [List.size_toArray, hlen]; exact k.int r
  | _ => exact no h
end
end Mine
end
noncomputable section
open PySem PySem.W PyProof.Rows
set_option Elab.async false
set_option linter.unusedVariables false
set_option maxRecDepth 100000
namespace Mine

section
variable {prog : Program} {w : World} {A : Around} {E : Value → Shared → Prop}
theorem kind_nested : builtinKind "issubclass.nested" = none := by decide +kernel
theorem plain_nested : plainId "issubclass.nested" = true := by decide +kernel
theorem args_nested (a b c : Value) : argsOk "issubclass.nested" ⟨[a, b, c], []⟩ := by unfold argsOk; kernel_rfl
theorem str_type : typeOf (.type "str") = pure (.type "type") := by kernel_rfl
theorem str_self : isSubtype (.type "str") (.type "str") = pure true := by rw [isSubtype_type]; kernel_rfl
theorem nested_str {k : Value} {dep : Int} {tk : Tok} {s : Shared} {Q : Fin → Shared → Prop} (hk : k = .int dep tk) (hq : Q (.done (.ret (.bool true))) s) :
    wpAny (model prog w) A (Builtin.«issubclass.nested» ⟨[.type "str", .type "str", k], []⟩) Q E s := by
  subst hk
  have hm := str_type
  have hself := str_self
  repeat (any_goals (first | assumption | (rw [if_pos hm]) | (rw [hself]) | wp_step))
theorem nested_tuple {tp : Addr} {rest : List Value} {items : Array Value} {n : Nat} {tk : Tok} {s : Shared} {Q : Fin → Shared → Prop} (hi : items.toList = .type "str" :: rest) (htp : s.heap.get? tp = some { cls := .type "tuple", dict := none, data := .seq items n, slots := #[] }) (hq : ∀ tk', Q (.done (.ret (.bool true))) { s with toks := tk' }) :
    wpAny (model prog w) A (Builtin.«issubclass.nested» ⟨[.type "str", .ref tp, .int 0 tk], []⟩) Q E s := by
  obtain ⟨h, g, d, t, os⟩ := s
  have hT2 : (⟨h, g, d, t, os⟩ : Shared).TypeIs (.ref tp) "tuple" := ⟨_, htp, rfl⟩
  have f1 := F.isi_sub_tuple
  repeat (any_goals (first | assumption | wp_step))
  refine wpAny_arrayLoop ?_
  simp only [Option.getD_some]
  rw [hi, List.forIn_cons]
  refine wpAny_bind (wpAny_bind (call_function_meets kind_nested plain_nested F.entry_issubclass_nested (args_nested _ _ _) (S := fun _ R s => R (.ok (.ret (.bool true))) s) (fun _ _ _ _ _ hs => nested_str rfl hs) ?_))
  show wpAny _ _ (truthy (.bool true) >>= _) _ _ _
  refine wpAny_bind (m := truthy (.bool true)) (wpAny_pure ?_)
  refine wpAny_bind (wpAny_pure (wpAny_pure (wpAny_pure ?_)))
  repeat (any_goals (first | assumption | wp_step))
  exact hq _
theorem call_issub {tp : Addr} {rest : List Value} {n : Nat} {s : Shared} {Q : Value → Shared → Prop} (htp : s.heap.get? tp = some (tupObj (.type "str" :: rest) n)) (hq : ∀ tk', Q (.bool true) { s with toks := tk' }) :
    wpAny (model prog w) A (call (.builtin "issubclass") [.type "str", .ref tp]) Q E s :=
  call_issubclass (S := fun _ R s => s.heap.get? tp = some (tupObj (.type "str" :: rest) n) ∧ ∀ tk', R (.ok (.ret (.bool true))) { s with toks := tk' }) (fun _ _ _ _ _ hs => issubclass_outer (nested_tuple (rest := rest) rfl hs.1 hs.2)) ⟨htp, hq⟩

theorem bytesOf_eq : ∀ {is : List Int} {a : Array UInt8}, bytesOf is = some a → (∀ n ∈ is, 0 ≤ n ∧ n < 256) ∧ byteArr is = a := by
  intro is a h
  unfold bytesOf at h
  split at h
  · rename_i hz; cases h
    refine ⟨fun n hn => ?_, ?_⟩
    · have := List.all_eq_true.mp hz n hn
      simpa using this
    · rfl
  · cases h
theorem sorted_unique : ∀ {l l' : List Int}, l.Perm l' → l.Pairwise (· ≤ ·) → l'.Pairwise (· ≤ ·) → l = l'
  | [], l', hp, _, _ => hp.nil_eq
  | a :: r, [], hp, _, _ => absurd hp.symm.nil_eq nofun
  | a :: r, b :: r', hp, h1, h2 => by
    obtain ⟨ha, hr⟩ := List.pairwise_cons.mp h1
    obtain ⟨hb, hr'⟩ := List.pairwise_cons.mp h2
    have e : a = b := by
      have m1 : a ∈ b :: r' := hp.subset (List.mem_cons_self)
      have m2 : b ∈ a :: r := hp.symm.subset (List.mem_cons_self)
      rcases List.mem_cons.mp m1 with e | m1
      · exact e
      · rcases List.mem_cons.mp m2 with e | m2
        · exact e.symm
        · have := hb _ m1; have := ha _ m2; omega
    subst e
    rw [sorted_unique hp.cons_inv hr hr']
theorem call_type_str {x : Str} {t : Tok} {s : Shared} {Q : Value → Shared → Prop} (hq : Q (.type "str") s) : wpAny (model prog w) A (call (.type "type") [.str x t]) Q E s := call_type_of (typeIs_str _ _ _) (by decide) hq
theorem call_type_bytes {x : Array UInt8} {t : Tok} {s : Shared} {Q : Value → Shared → Prop} (hq : Q (.type "bytes") s) : wpAny (model prog w) A (call (.type "type") [.bytes x t]) Q E s := call_type_of (typeIs_bytes _ _ _) (by decide) hq
theorem call_type_int {x : Int} {t : Tok} {s : Shared} {Q : Value → Shared → Prop} (hq : Q (.type "int") s) : wpAny (model prog w) A (call (.type "type") [.int x t]) Q E s := call_type_of (typeIs_int _ _ _) (by decide) hq
theorem sub_bytes_str : isSubtype (.type "str") (.type "bytes") = pure false := by rw [isSubtype_type]; kernel_rfl
theorem sub_bytes_bytes : isSubtype (.type "bytes") (.type "bytes") = pure true := by rw [isSubtype_type]; kernel_rfl
theorem sub_bytes_int : isSubtype (.type "int") (.type "bytes") = pure false := by rw [isSubtype_type]; kernel_rfl
theorem ty_bytes : typeOf (.type "bytes") = pure (.type "type") := by kernel_rfl
end

noncomputable def BF.val : BF → Value
  | .ord => .builtin "ord" | .bytes => .type "bytes" | .sorted => .builtin "sorted" | .list => .type "list" | .range1 => .type "range" | .range2 => .type "range"
  | .type => .type "type" | .isinstance => .builtin "isinstance" | .issubclass => .builtin "issubclass"

section
variable {prog : Program} {w : World} {A : Around} {E : Value → Shared → Prop} {c : FC} {S : PH} {μ : List Addr} {τ : St} {s : Shared} {v u : Value} {x y z : PV} {Q : Value → Shared → Prop} {n : Nat}

theorem one_v {vs : List Value} {x : PV} (h : VRs S μ vs [x]) : ∃ v, vs = [v] ∧ VR S μ v x := by
  obtain ⟨v, r, rfl, h1, h2⟩ := h.sh
  cases h2.sh; exact ⟨v, rfl, h1⟩
theorem two_v {vs : List Value} {x y : PV} (h : VRs S μ vs [x, y]) : ∃ v u, vs = [v, u] ∧ VR S μ v x ∧ VR S μ u y := by
  obtain ⟨v, r, rfl, h1, h2⟩ := h.sh
  obtain ⟨u, rfl, h3⟩ := one_v h2
  exact ⟨v, u, rfl, h1, h3⟩
/-- the one list among the arguments -/
theorem one_list {P : List Value → Prop} {vs : List Value} {l : List PV} {x : PV} {xs : List PV} (hv : VRs S μ vs l) (h1 : one l = some x) (h2 : lOf x = some xs) (k : ∀ a o ws, S a = some o → IsLO o ws → VRs S μ ws xs → P [.ref a]) : P vs := by
  rw [one_inv h1, lOf_inv h2] at hv
  obtain ⟨v, rfl, hx⟩ := one_v hv
  obtain ⟨a, o, ws, rfl, e, q, g, _⟩ := hx.sh
  exact k a o ws e q g
theorem one_str {P : List Value → Prop} {vs : List Value} {l : List PV} {x : PV} {y : Str} (hv : VRs S μ vs l) (h1 : one l = some x) (h2 : sOf x = some y) (k : ∀ t, P [.str y t]) : P vs := by
  rw [one_inv h1, sOf_inv h2] at hv
  obtain ⟨v, rfl, hx⟩ := one_v hv
  obtain ⟨t, rfl⟩ := hx.sh
  exact k t
theorem ints_vr : ∀ {vs : List Value} {ns : List Int}, IntsAre vs ns → VRs S μ vs (ns.map .int)
  | _, _, .nil => .nil
  | _, _, .cons n t h => .cons (.int n t) (ints_vr h)

theorem items_go : ∀ (l : List Value) (i : Nat) (a : Int), (∀ j v, l[j]? = some v → ∃ t, v = Value.int (a + ((i + j : Nat) : Int)) t) → VRs S μ l ((List.range' i l.length).map fun (k : Nat) => PV.int (a + (k : Int)))
  | [], _, _, _ => .nil
  | v :: l, i, a, h => by
    obtain ⟨t, rfl⟩ := h 0 v rfl
    rw [List.length_cons, List.range'_succ, List.map_cons]
    exact .cons (.int _ _) (items_go l (i + 1) a fun j v e => by
      obtain ⟨t, e2⟩ := h (j + 1) v (by simpa using e)
      exact ⟨t, by rw [e2]; congr 3; omega⟩)
theorem items_vr {a : Int} {n : Nat} {acc : Array Value} (h : ItemsOf (fun i v => ∃ t, v = Value.int (a + i * 1) t) acc n) : VRs S μ acc.toList ((List.range n).map fun (k : Nat) => PV.int (a + (k : Int))) := by
  obtain ⟨h1, h2⟩ := h
  have := items_go (S := S) (μ := μ) acc.toList 0 a (fun j v e => by
    obtain ⟨t, e2⟩ := h2 j v (by simpa using e)
    exact ⟨t, by rw [e2]; simp⟩)
  rw [Array.length_toList, h1, ← List.range_eq_range'] at this
  exact this

theorem range_small {a b : Int} (ha : small a = true) (hb : small b = true) : Builtin.Range.small a b 1 = true := by
  obtain ⟨h1, h2⟩ := small_iff.mp ha
  obtain ⟨h3, h4⟩ := small_iff.mp hb
  have hs : Builtin.Range.rangeSize a b 1 = if a < b then b - a else 0 := by
    simp only [Builtin.Range.rangeSize]
    split <;> simp_all <;> omega
  unfold Builtin.Range.small
  rw [hs]
  simp only [Builtin.Range.rangeFitsLong, Bool.and_eq_true, Bool.or_eq_true, decide_eq_true_eq, beq_iff_eq]
  split <;> (refine ⟨⟨⟨⟨?_, ?_⟩, ?_⟩, ?_⟩, ?_⟩ <;> first | omega | (constructor <;> omega) | (simp; omega))

theorem K1.put {o : Obj} {D : Addr} {h' : Heap} {d : Drawn} {tk : Nat} (k : K1 c S μ τ z Q) (r : R c S μ τ ⟨h', s.gens, d, tk, s.os⟩) (hS : S D = Option.none) (he : h'.get? D = some o) (n1 : ¬ IsLive μ τ.mem D) (n2 : c.K D = Option.none) (n3 : D ∉ c.fa)
    (hv : VR (Mine.put S D o) μ (.ref D) z) : Q (.ref D) ⟨h', s.gens, d, tk, s.os⟩ :=
  k _ _ μ _ (Sub.put fun o' e => by rw [hS] at e; cases e) (.refl _) (r.put he n1 n2 n3) hv
theorem sorted_at {la : Addr} {lo : Obj} {ws : List Value} {xs : List PV} {is : List Int} (ok : c.Ok) (r : R c S μ τ s) (e : S la = some lo) (q : IsLO lo ws) (hvs : VRs S μ ws xs) (ei : intsOf xs = some is) (hz : is.length ≤ 60) (k : K1 c S μ τ (.list ((is.mergeSort (fun a b => decide (a ≤ b))).map .int)) Q) :
    wpAny (model prog w) A (call (.builtin "sorted") [.ref la]) Q E s := by
  have hi := intsOf_are hvs ei
  refine sorted_ints (isList_of (r.g.keepS _ _ e) q) hi (by rw [hi.length]; omega) fun out ns' a1 a2 a3 => ?_
  obtain ⟨ee, he⟩ := sortedAll_at s.heap ws out
  have hns : ns' = is.mergeSort (fun a b => decide (a ≤ b)) := by
    refine sorted_unique (a2.trans (List.mergeSort_perm _ _).symm) a3 ?_
    have := List.pairwise_mergeSort (le := fun a b : Int => decide (a ≤ b)) (fun a b c => by simp; omega) (fun a b => by simp; omega) is
    exact this.imp (by simp)
  have hn : S (s.heap.objs.size + 1) = Option.none := by
    cases q2 : S (s.heap.objs.size + 1) with
    | none => rfl
    | some o => exact absurd (r.S_lt q2) (Nat.not_lt.mpr (Nat.le_succ _))
  have hK : c.K (s.heap.objs.size + 1) = Option.none := by
    cases q2 : c.K (s.heap.objs.size + 1) with
    | none => rfl
    | some o => exact absurd (r.K_lt q2) (Nat.not_lt.mpr (Nat.le_succ _))
  exact k.put (r.ext (fun b o hb => sortedAll_old hb)) hn he (fun hl => absurd (r.g.lt hl) (Nat.not_lt.mpr (Nat.le_succ _))) hK (fun ha => absurd (r.faLt ok ha) (Nat.not_lt.mpr (Nat.le_succ _)))
    (.list (put_at _ _ _) (vs := out.toList) ⟨rfl, ee, rfl⟩ (hns ▸ ints_vr a1) (NoS.ints _ _))
theorem range_len {a b : Int} : Builtin.Range.rangeSize a b 1 = ((b - a).toNat : Int) := by
  have : Builtin.Range.rangeSize a b 1 = if a < b then b - a else 0 := by
    simp only [Builtin.Range.rangeSize]
    split <;> simp_all <;> omega
  rw [this]; split <;> omega
theorem list_at {ra : Addr} {a b : Int} {t1 t2 t3 : Tok} (rm : Room A n) (ok : c.Ok) (r : R c S μ τ s) (e : S ra = some { cls := .type "range", dict := Option.none, data := .fields #[.int a t1, .int b t2, .int 1 t3], slots := #[] }) (hz : small a = true ∧ small b = true ∧ b - a ≤ lid)
    (k : K1 c S μ τ (.list ((List.range (b - a).toNat).map fun (k : Nat) => .int (a + (k : Int)))) Q) : wpAny (model prog w) A (call (.type "list") [.ref ra]) Q E s := by
  obtain ⟨h3, h4, h5⟩ := hz
  have h5 : b - a ≤ 1000000 := h5
  refine call_list_range (n := (b - a).toNat) rm.handled (r.g.keepS _ _ e) (range_small h3 h4) range_len (by omega) fun h' tk acc' c' hk hg hi => ?_
  have hK : c.K s.heap.objs.size = Option.none := by
    cases q2 : c.K s.heap.objs.size with
    | none => rfl
    | some o => exact absurd (r.K_lt q2) (Nat.lt_irrefl _)
  exact k.put (r.ext hk) r.S_new hg (fun hl => Nat.lt_irrefl _ (r.g.lt hl)) hK (fun ha => Nat.lt_irrefl _ (r.faLt ok ha)) (.list (put_at _ _ _) (vs := acc'.toList) ⟨rfl, c', rfl⟩ (items_vr hi) (NoS.ints _ _))
theorem bfV_ok {f : BF} {vs : List Value} {xs : List PV} (rm : Room A n) (ok : c.Ok) (r : R c S μ τ s) (hv : VRs S μ vs xs) (h : bfV f xs = some z) (k : K1 c S μ τ z Q) : wpAny (model prog w) A (call f.val vs) Q E s := by
  cases f with
  | ord =>
    refine bdk h fun y h1 h => bdk h fun x h2 h => ifk h fun hz h => ?_
    apply one_str hv h1 h2
    intro t
    refine ord_of_one hz ?_
    have := (k.cast h).int r (t := s.toks) (d := s.drawn) (tk := s.toks + 1)
    rw [Array.getD_eq_getD_getElem?]; exact this
  | bytes =>
    refine bdk h fun y h1 h => bdk h fun x h2 h => bdk h fun is ei h => ifk h fun hz h => ?_
    apply one_list hv h1 h2
    intro la lo ws e q hvs
    obtain ⟨a, ea, h⟩ := Option.map_eq_some_iff.mp h
    obtain ⟨hb, ea⟩ := bytesOf_eq ea
    subst h ea
    have hi := intsOf_are hvs ei
    refine call_bytes_ints (isList_of (r.g.keepS _ _ e) q) hi hb ?_ rm.handled fun h' t tk hk => ?_
    · rw [hi.length]; exact Nat.le_trans hz lid_line
    · exact k _ S μ _ (.refl _) (.refl _) (r.ext hk) (.bytes _ _)
  | sorted =>
    refine bdk h fun y h1 h => bdk h fun x h2 h => bdk h fun is ei h => ifk h fun hz h => ?_
    apply one_list hv h1 h2
    intro la lo ws e q hvs
    exact sorted_at ok r e q hvs ei hz (k.cast h)
  | list =>
    refine bdk h fun y h1 h => bdk h fun x h2 h => ifk h fun hz h => ?_
    rw [one_inv h1, rgOf_inv h2] at hv
    obtain ⟨v, rfl, hx⟩ := one_v hv
    obtain ⟨ra, t1, t2, t3, rfl, e⟩ := hx.sh
    exact list_at rm ok r e hz (k.cast h)
  | range1 =>
    refine bdk h fun y h1 h => bdk h fun b h2 h => ifk h fun hz h => ?_
    rw [one_inv h1, intOf_inv h2] at hv
    obtain ⟨v, rfl, hx⟩ := one_v hv
    obtain ⟨t, rfl⟩ := hx.sh
    refine call_range_1 ?_
    obtain ⟨r', sb⟩ := r.new ok { cls := .type "range", data := .fields #[.int 0 s.toks, .int b t, .int 1 (s.toks + 1)] } rfl s.drawn (s.toks + 1 + 1)
    exact (k.cast h) _ _ μ _ sb (.refl _) r' (.range (put_at _ _ _))
  | range2 =>
    refine bdk h fun p h1 h => ?_
    obtain ⟨a, b, h2, h3, h⟩ := i2_inv h
    refine ifk h fun hz h => ?_
    rw [two_inv h1, h2, h3] at hv
    obtain ⟨v, u, rfl, hx, hu⟩ := two_v hv
    obtain ⟨t1, rfl⟩ := hx.sh; obtain ⟨t2, rfl⟩ := hu.sh
    refine call_range_2 ?_
    obtain ⟨r', sb⟩ := r.new ok { cls := .type "range", data := .fields #[.int a t1, .int b t2, .int 1 s.toks] } rfl s.drawn (s.toks + 1)
    exact (k.cast h) _ _ μ _ sb (.refl _) r' (.range (put_at _ _ _))
  | type =>
    refine bdk h fun y h1 h => ?_
    obtain ⟨x, h2, h⟩ := Option.map_eq_some_iff.mp h
    subst h
    apply one_str hv h1 h2
    exact fun t => call_type_str (k.here r (.ty _))
  | isinstance =>
    refine bdk h fun p h1 h => bdk h fun a h2 h => bdk h fun b h3 h => ifk h fun hz h => ?_
    rw [two_inv h1, sOf_inv h2, tyOf_inv h3, hz] at hv
    obtain ⟨v, u, rfl, hx, hu⟩ := two_v hv
    obtain ⟨t1, rfl⟩ := hx.sh; cases hu.sh
    exact IsiPair.str_bytes ((k.cast h).bool r)
  | issubclass =>
    refine bdk h fun p h1 h => bdk h fun a h2 h => bdk h fun l h3 h => bdk h fun q h4 h => bdk h fun b1 h5 h => bdk h fun b2 h6 h => ifk h fun hz h => ?_
    rw [two_inv h1, tyOf_inv h2, tuOf_inv h3, two_inv h4, tyOf_inv h5, tyOf_inv h6, hz.1, hz.2.1, hz.2.2] at hv
    obtain ⟨v, u, rfl, hx, hu⟩ := two_v hv
    cases hx.sh
    obtain ⟨_, _, _, rfl, e, hvs, _⟩ := hu.sh
    obtain ⟨v1, v2, rfl, h1, h2⟩ := two_v hvs
    cases h1.sh
    exact call_issub (r.g.keepS _ _ e) fun _ => (k.cast h).bool r
end
end Mine
end
noncomputable section
open PySem PySem.W PyProof.Rows
open PySem.Builtin
set_option Elab.async false
set_option linter.unusedVariables false
set_option maxRecDepth 100000
namespace Mine

noncomputable def MF.id : MF → String
  | .startswith => "str.startswith" | .endswith => "str.endswith" | .rfind => "str.rfind" | .rstrip => "str.rstrip" | .split => "str.split" | .join => "str.join" | .decode => "bytes.decode"

section
variable {b : Array UInt8} {t : Tok} {x : Str} {n : Nat}
theorem latin_road {id : String} : _codecs.decodeRoad id b (Str.ofString "latin-1") none [] = (_codecs.runDecoder id _codecs.latin1Decoder none true b 0 [] >>= fun r => mkStr ⟨r.1⟩) := by kernel_rfl
theorem latin_text {t1 t2 : Tok} {d : Str} (hd : ∀ id, _codecs.runDecoder id _codecs.latin1Decoder none true b 0 [] = pure (x.cps, n)) :
    Meets («_codecs.decode.text» ⟨[.bytes b t, .str (Str.ofString "latin-1") t1, .none, .str d t2], []⟩) (fun _ R s => x.length ≤ sizeLine ∧ R (.ok (.ret (.str x s.toks))) { s with toks := s.toks + 1 }) := by
  refine .of_wp fun prog w A R s hS => ?_
  obtain ⟨hsz, h⟩ := hS
  show wpAny _ _ (Bytes.bytesLike _ (.bytes b t) >>= fun r => _) _ _ s
  refine wpAny_bind (wpAny_of_eq KBd.like_eq ?_)
  refine wpAny_bind (wpAny_of_eq KBd.held_eq ?_)
  show wpAny _ _ (_codecs.decodeRoad _ b (Str.ofString "latin-1") none [] >>= fun v => _) _ _ s
  rw [latin_road, hd]
  refine wpAny_bind (wpAny_bind (wpAny_pure ?_))
  exact wpAny_mkStr (wpAny_pure ⟨_, rfl, h⟩) hsz
theorem latin_entry {c : UInt8} {cs : List UInt8} {u : Tok} : «bytes.decode» ⟨[.bytes (c :: cs).toArray t, .str (Str.ofString "latin-1") u], []⟩ = (mkStr (Str.ofString "utf-8") >>= fun _ => mkStr (Str.ofString "latin-1") >>= fun e => mkStr (Str.ofString "bytes.decode") >>= fun d =>
    call (.builtin "_codecs.decode.text") [.bytes (c :: cs).toArray t, e, .none, d] >>= fun v => ret v) := by kernel_rfl
theorem latin_meets {c : UInt8} {cs : List UInt8} {u : Tok} (hd : ∀ id, _codecs.runDecoder id _codecs.latin1Decoder none true (c :: cs).toArray 0 [] = pure (x.cps, n)) :
    Meets («bytes.decode» ⟨[.bytes (c :: cs).toArray t, .str (Str.ofString "latin-1") u], []⟩) (fun _ R s => x.length ≤ sizeLine ∧ ∀ t' k, R (.ok (.ret (.str x t'))) { s with toks := k }) := by
  refine .of_wp fun prog w A R s hS => ?_
  obtain ⟨hsz, h⟩ := hS
  rw [latin_entry]
  refine wpAny_bind (wpAny_mkStr ?_ (by decide))
  refine wpAny_bind (wpAny_mkStr ?_ (by decide))
  refine wpAny_bind (wpAny_mkStr ?_ (by decide))
  exact wpAny_bind (call_function_meets KBd.kind_text KBd.plain_text KBd.entry_text (KBd.args_text _ _ _ _) (latin_text hd) ⟨hsz, wpAny_pure ⟨_, rfl, h _ _⟩⟩)
theorem latin1_1 (a : UInt8) (id : String) : _codecs.runDecoder id _codecs.latin1Decoder none true #[a] 0 [] = pure (#[a.toNat], 1) := by kernel_rfl
theorem latin1_2 (a b : UInt8) (id : String) : _codecs.runDecoder id _codecs.latin1Decoder none true #[a, b] 0 [] = pure (#[a.toNat, b.toNat], 2) := by kernel_rfl
theorem latin1_3 (a b c : UInt8) (id : String) : _codecs.runDecoder id _codecs.latin1Decoder none true #[a, b, c] 0 [] = pure (#[a.toNat, b.toNat, c.toNat], 3) := by kernel_rfl
end

section
variable {prog : Program} {w : World} {A : Around} {E : Value → Shared → Prop} {c : FC} {S : PH} {μ : List Addr} {τ : St} {s : Shared} {v u : Value} {x y z : PV} {Q : Value → Shared → Prop} {n : Nat}

theorem latin_call {b : Array UInt8} {t u : Tok} (h1 : 1 ≤ b.size) (h3 : b.size ≤ 3) (k : ∀ t' tk, Q (.str ⟨b.map fun c => c.toNat⟩ t') { s with toks := tk }) :
    wpAny (model prog w) A (call (.builtin "bytes.decode") [.bytes b t, .str (Str.ofString "latin-1") u]) Q E s := by
  have args : argsOk "bytes.decode" ⟨[.bytes b t, .str (Str.ofString "latin-1") u], []⟩ := by unfold argsOk; kernel_rfl
  obtain ⟨l⟩ := b
  match l, h1, h3 with
  | [a], _, _ => exact call_meets FB.slot_bytes_decode (typeIs_bytes _ _ _) FB.entry_bytes_decode args (latin_meets (x := ⟨#[a.toNat]⟩) (latin1_1 a)) ⟨by rw [sizeLine_eq]; simp [Str.length], fun t' tk => by simpa using k t' tk⟩
  | [a, b], _, _ => exact call_meets FB.slot_bytes_decode (typeIs_bytes _ _ _) FB.entry_bytes_decode args (latin_meets (x := ⟨#[a.toNat, b.toNat]⟩) (latin1_2 a b)) ⟨by rw [sizeLine_eq]; simp [Str.length], fun t' tk => by simpa using k t' tk⟩
  | [a, b, c], _, _ => exact call_meets FB.slot_bytes_decode (typeIs_bytes _ _ _) FB.entry_bytes_decode args (latin_meets (x := ⟨#[a.toNat, b.toNat, c.toNat]⟩) (latin1_3 a b c)) ⟨by rw [sizeLine_eq]; simp [Str.length], fun t' tk => by simpa using k t' tk⟩
  | [], h, _ => exact absurd h (by simp)
  | _ :: _ :: _ :: _ :: _, _, h => exact absurd h (by simp)

theorem strs_vr : ∀ (tk : Nat) (l : List Str), VRs S μ (strsFrom tk l) (l.map .str)
  | _, [] => .nil
  | tk, x :: l => .cons (.str x tk) (strs_vr (tk + 1) l)

theorem parts_len (x : Str) (y : Str) : (Builtin.Str.partsBetween x (Builtin.Str.occurrences x y 0 x.length (x.length + 1)) y.length).length ≤ x.length + 2 := by
  have := StrLaws.occ_length_le x y 0 x.length (x.length + 1)
  unfold Builtin.Str.partsBetween
  simp only [List.length_map, List.length_zip, List.length_cons, List.length_append, List.length_nil]
  omega

theorem are_values : ∀ {vs : List Value} {ss : List Str}, StrsAre vs ss → ∃ l, vs = strValues l ∧ l.map (·.1) = ss
  | _, _, .nil => ⟨[], rfl, rfl⟩
  | _, _, .cons y t h => let ⟨l, e1, e2⟩ := are_values h; ⟨(y, t) :: l, by rw [e1]; rfl, by rw [List.map_cons, e2]⟩

theorem sum_len : ∀ (l : List Str), (∀ s ∈ l, s.length ≤ 1000) → (l.map (·.length)).sum ≤ 1000 * l.length
  | [], _ => by simp
  | x :: l, h => by
    have h1 := h x (.head _)
    have h2 := sum_len l fun s hs => h s (.tail _ hs)
    simp only [List.map_cons, List.sum_cons, List.length_cons]
    omega

theorem split_ok {x y : Str} {t u : Tok} (ok : c.Ok) (r : R c S μ τ s) (hz : y.length = 1 ∧ x.length ≤ lid) (k : K1 c S μ τ (.list ((Txt.split x y).map .str)) Q) :
    wpAny (model prog w) A (call (.builtin "str.split") [.str x t, .str y u]) Q E s := by
  have hy : (y.length == 0) = false := by rw [hz.1]; rfl
  have hx : x.length ≤ 1000000 := hz.2
  have hl := sizeLine_eq
  cases h1 : (decide (x.length < y.length) || decide (Builtin.Str.strKind x < Builtin.Str.strKind y))
  · cases hf : (Builtin.Str.occurrences x y 0 x.length (x.length + 1)).isEmpty
    · refine call_meets F.slot_str_split (typeIs_str _ _ _) F.entry_str_split (F.args_str_split_2 _ _) (meets_str_split_sep x y _ _ h1 hy hf (by omega) (by have := parts_len x y; omega)) ?_
      have e : Txt.split x y = Builtin.Str.partsBetween x (Builtin.Str.occurrences x y 0 x.length (x.length + 1)) y.length := by
        unfold Txt.split; rw [h1, hf]; rfl
      rw [e] at k
      exact k.listN r ok (strs_vr _ _) (NoS.strs _ _)
    · have e : Txt.split x y = [x] := by
        unfold Txt.split; rw [h1, hf]; rfl
      rw [e] at k
      exact call_meets F.slot_str_split (typeIs_str _ _ _) F.entry_str_split (F.args_str_split_2 _ _) (meets_str_split_not_found x y _ _ h1 hy hf) (k.listN r ok (.cons (.str _ _) .nil) (.cons rfl .nil))
  · have e : Txt.split x y = [x] := by
      unfold Txt.split; rw [h1]; rfl
    rw [e] at k
    exact call_meets F.slot_str_split (typeIs_str _ _ _) F.entry_str_split (F.args_str_split_2 _ _) (meets_str_split_cannot_occur x y _ _ h1) (k.listN r ok (.cons (.str _ _) .nil) (.cons rfl .nil))

theorem s2_op {id : String} {vs : List Value} {xs : List PV} {g : Str → Str → Option PV} (hv : VR S μ v x) (hvs : VRs S μ vs xs) (h : s2 x xs g = some z) (k : ∀ a b t u, g a b = some z → wpAny (model prog w) A (call (.builtin id) [.str a t, .str b u]) Q E s) : wpAny (model prog w) A (call (.builtin id) (v :: vs)) Q E s := by
  obtain ⟨a, b, rfl, rfl, h⟩ := s2_inv h
  obtain ⟨t, rfl⟩ := hv.sh
  apply one_str (P := fun vs => wpAny (model prog w) A (call (.builtin id) (.str a t :: vs)) Q E s) hvs rfl rfl
  exact fun u => k a b t u h
theorem mfV_ok {f : MF} {vs : List Value} {xs : List PV} (rm : Room A n) (ok : c.Ok) (r : R c S μ τ s) (hv : VR S μ v x) (hvs : VRs S μ vs xs) (h : mfV f x xs = some z) (k : K1 c S μ τ z Q) :
    wpAny (model prog w) A (call (.builtin f.id) (v :: vs)) Q E s := by
  cases f with
  | join =>
    refine bdk h fun a h1 h => bdk h fun b h2 h => bdk h fun ys h3 h => bdk h fun ss es h => ifk h fun hz h => ?_
    rw [sOf_inv h1] at hv
    obtain ⟨t, rfl⟩ := hv.sh
    apply one_list (P := fun vs => wpAny (model prog w) A (call (.builtin "str.join") (.str a t :: vs)) Q E s) hvs h2 h3
    intro la lo ws e q hws
    obtain ⟨l, rfl, rfl⟩ := are_values (strsOf_are hws es)
    have hs := sum_len (l.map (·.1)) (fun s hs => of_decide_eq_true (List.all_eq_true.mp hz.2.2 s hs))
    have g1 := hz.1; have g2 := hz.2.1
    exact SC.join (isList_of (r.g.keepS _ _ e) q) rfl (joinOk_of_weight (by omega) (by omega)) fun _ _ => (k.cast h).str r
  | decode =>
    refine bdk h fun a h1 h => bdk h fun b h2 h => bdk h fun y h3 h => ifk h fun hz hf => ?_
    rw [byOf_inv h1] at hv
    obtain ⟨t, rfl⟩ := hv.sh
    apply one_str (P := fun vs => wpAny (model prog w) A (call (.builtin "bytes.decode") (.bytes a t :: vs)) Q E s) hvs h2 h3
    intro u
    have q3 := of_decide_eq_true (an hz).2
    cases eq_of_beq (an hz).1
    exact latin_call q3.1 q3.2 fun _ _ => (k.cast hf).str r
  | startswith => exact s2_op hv hvs h fun a b _ _ h => SC.startswith ((k.cast h).bool r)
  | endswith => exact s2_op hv hvs h fun a b _ _ h => SC.endswith ((k.cast h).bool r)
  | rfind => exact s2_op hv hvs h fun a b _ _ h => SC.rfind ((k.cast h).int r)
  | rstrip => exact s2_op hv hvs h fun a b _ _ h => ifk h fun hz h => SC.rstripChars (fun _ _ => (k.cast h).str r) (Nat.le_trans hz lid_line)
  | split => exact s2_op hv hvs h fun a b _ _ h => ifk h fun hz h => split_ok ok r hz (k.cast h)
end
end Mine
end
noncomputable section
open PySem PySem.W PyProof.Rows PySem.Calls
set_option Elab.async false
set_option linter.unusedVariables false
set_option maxRecDepth 100000
namespace Mine

section
variable {M : Model} {prog : Program} {w : World} {A : Around} {c : FC} {S S' : PH} {μ μ' : List Addr} {τ : St} {s : Shared}

theorem live_ne {mem : List MCell} {a b : Addr} (h : ¬ IsLive μ mem b) (k : IsLive μ mem a) : a ≠ b := fun q => h (q ▸ k)

/-- one address of the frame's own changes -/
theorem R.frame (r : R c S μ τ s) {a : Addr} (ha : a ∈ c.fa) {h' : Heap} (hs : Heap.SameBut a s.heap h') {loc : List Slot} {vals : Str → Option Value} (hf : FrS c.env h' vals)
    (hl : ∀ (i : Nat) (x : Str) (sl : Slot), c.names[i]? = some x → loc[i]? = some sl → SlotR S μ (vals x) sl) (hn : loc.length = c.names.length) {d : Drawn} {tk : Nat} :
    R c S μ ⟨loc, τ.mem⟩ ⟨h', s.gens, d, tk, s.os⟩ where
  g := {
    keepS := fun b o e => (hs.2 b fun q => by have := r.FS a ha; rw [← q, e] at this; cases this).trans (r.g.keepS b o e)
    baseS := r.g.baseS
    len := r.g.len
    mutR := fun k b cl h1 h2 => (r.g.mutR k b cl h1 h2).keep (.refl _) (.refl _) (fun _ => id) fun hn => hs.2 b (live_ne (r.FM a ha) ⟨k, h1, cl, h2, hn⟩)
    inj := r.g.inj
    gens := r.g.gens
    os_ := r.g.os_ }
  frm := ⟨vals, hf, hl⟩
  len := hn
  keepK := fun b o e => let ⟨o', h1, h2⟩ := r.keepK b o e; ⟨o', (hs.2 b fun q => by have := r.FK a ha; rw [← q, e] at this; cases this).trans h1, h2⟩
  KS := r.KS
  KM := r.KM
  FK := r.FK
  FS := r.FS
  FM := r.FM

theorem nodup_at {α : Type} {l : List α} (h : l.Nodup) {i j : Nat} {x : α} (hi : l[i]? = some x) (hj : l[j]? = some x) : i = j := by
  obtain ⟨h1, e1⟩ := List.getElem?_eq_some_iff.mp hi
  obtain ⟨h2, e2⟩ := List.getElem?_eq_some_iff.mp hj
  have hp := List.pairwise_iff_getElem.mp h
  rcases Nat.lt_trichotomy i j with q | q | q
  · exact absurd (e1.trans e2.symm) (hp i j h1 h2 q)
  · exact q
  · exact absurd (e2.trans e1.symm) (hp j i h2 h1 q)

theorem mem_names {i : Nat} {x : Str} (h : c.names[i]? = some x) : x ∈ c.names := List.mem_of_getElem? h

variable {E : Value → Shared → Prop}
theorem load_ok (ok : c.Ok) (r : R c S μ τ s) {i : Nat} {x : Str} {v : Value} (hx : c.names[i]? = some x) {vals} (hf : FrS c.env s.heap vals) (hv : vals x = some v) {Q : Value → Shared → Prop} (h : Q v s) :
    wpAny M A (loadName c.env x) Q E s := by
  rcases ok.kinds x (mem_names hx) with hk | ⟨hk, hc⟩
  · obtain ⟨m, hm, e⟩ := hf.ns
    exact wpAny_loadName_local ok.kind hk hm ((e x hk).trans hv) h
  · obtain ⟨a, ha⟩ := Option.isSome_iff_exists.mp hc
    exact wpAny_loadName_cell ok.kind hk ha (hv ▸ hf.cell x a hk ha) h
theorem name_ok (ok : c.Ok) (r : R c S μ τ s) {i : Nat} {x : Str} {v : Value} {pos : Pos} (hx : c.names[i]? = some x) {vals} (hf : FrS c.env s.heap vals) (hv : vals x = some v) {Q : Value → Shared → Prop} (h : Q v s) :
    wpAny M A (eval (.Name x pos) c.env) Q E s := wpAny_Name (load_ok ok r hx hf hv h) (ok.nodebug x (mem_names hx))

theorem store_ok (ok : c.Ok) (r : R c S μ τ s) {i : Nat} {x : Str} {v : Value} {sl : Slot} (hx : c.names[i]? = some x) (hs : SlotR S μ (some v) sl) {Q : Unit → Shared → Prop}
    (h : ∀ s', R c S μ ⟨τ.loc.set i sl, τ.mem⟩ s' → Q () s') : wpAny M A (storeName c.env x v) Q E s := by
  obtain ⟨vals, hf, hl⟩ := r.frm
  have hloc : ∀ (j : Nat) (y : Str) (sl' : Slot), c.names[j]? = some y → (τ.loc.set i sl)[j]? = some sl' → SlotR S μ (if y = x then some v else vals y) sl' := fun j y sl' hy e => by
    by_cases q : y = x
    · rw [if_pos q]
      have : j = i := nodup_at ok.nodup (q ▸ hy) hx
      subst this
      rw [List.getElem?_set_self (by rw [r.len]; exact (List.getElem?_eq_some_iff.mp hx).1)] at e
      cases e; exact hs
    · rw [if_neg q]
      have : i ≠ j := fun e2 => q (by rw [e2, hy] at hx; cases hx; rfl)
      rw [List.getElem?_set_ne this] at e
      exact hl j y sl' hy e
  have hlen : (τ.loc.set i sl).length = c.names.length := by rw [List.length_set]; exact r.len
  rcases ok.kinds x (mem_names hx) with hk | ⟨hk, hc⟩
  · obtain ⟨m, hm, e⟩ := hf.ns
    refine wpAny_storeName_local hk hm (fun h' hn hsb => h _ (r.frame (List.mem_cons_self ..) hsb (vals := fun y => if y = x then some v else vals y) ⟨⟨_, hn, fun y hy => ?_⟩, fun y a hy ha => ?_⟩ hloc hlen)) (by rw [ok.kind]; rfl)
    · by_cases q : y = x
      · simp [q]
      · simp only [q, if_false]; exact e y hy
    · have hne : y ≠ x := fun q => by rw [q, hk] at hy; cases hy
      simp only [hne, if_false]
      exact (hf.cell y a hy ha).sameBut hsb (ok.off _ (mem_of_lookup ha))
  · obtain ⟨a, ha⟩ := Option.isSome_iff_exists.mp hc
    have hmem := mem_of_lookup ha
    have hfa : a ∈ c.fa := List.mem_cons_of_mem _ (List.mem_map_of_mem (f := (·.2)) hmem)
    refine wpAny_storeName_cell ok.kind hk ha (hf.cell x a hk ha) (fun h' hn hsb => h _ (by
      have := r.frame hfa hsb (vals := fun y => if y = x then some v else vals y) (loc := τ.loc.set i sl) (d := s.drawn) (tk := s.toks) ⟨?_, fun y b hy hb => ?_⟩ hloc hlen
      · exact this
      · obtain ⟨m, hm, e⟩ := hf.ns
        refine ⟨m, hm.sameBut hsb (Ne.symm (ok.off _ hmem)), fun y hy => ?_⟩
        have hne : y ≠ x := fun q => by rw [q, hk] at hy; cases hy
        simp only [hne, if_false]; exact e y hy
      · by_cases q : y = x
        · subst q
          rw [ha] at hb; cases hb
          simpa using hn
        · simp only [q, if_false]
          refine (hf.cell y b hy hb).sameBut hsb fun e2 => q ?_
          exact name_of_addr ok.apart (mem_of_lookup hb) (e2 ▸ hmem)))

/-! freezing a list that was being built -/
theorem live_kill {mem : List MCell} {j k : Nat} {a : Addr} (h : Live μ (mem.set k .dead) j a) : j ≠ k ∧ Live μ mem j a := by
  obtain ⟨h1, cl, h2, h3⟩ := h
  have hne : j ≠ k := by
    rintro rfl
    by_cases q : j < mem.length
    · rw [List.getElem?_set_self q] at h2; cases h2; exact h3 rfl
    · rw [List.getElem?_eq_none (by rw [List.length_set]; omega)] at h2; cases h2
  rw [List.getElem?_set_ne (Ne.symm hne)] at h2
  exact ⟨hne, h1, cl, h2, h3⟩
theorem kill_live {mem : List MCell} {k : Nat} {a : Addr} (h : IsLive μ (mem.set k .dead) a) : IsLive μ mem a := let ⟨j, hj⟩ := h; ⟨j, (live_kill hj).2⟩
theorem GR.kill {base : Heap} {os : OsState} {mem : List MCell} (g : GR base os S μ mem s) (k : Nat) : GR base os S μ (mem.set k .dead) s where
  keepS := g.keepS
  baseS := g.baseS
  len := by rw [List.length_set]; exact g.len
  mutR := fun j a cl h1 h2 => by
    by_cases q : j = k
    · subst q
      by_cases q2 : j < mem.length
      · rw [List.getElem?_set_self q2] at h2; cases h2; trivial
      · rw [List.getElem?_eq_none (by rw [List.length_set]; omega)] at h2; cases h2
    · rw [List.getElem?_set_ne (Ne.symm q)] at h2; exact g.mutR j a cl h1 h2
  inj := fun i j a h1 h2 => g.inj i j a (live_kill h1).2 (live_kill h2).2
  gens := g.gens
  os_ := g.os_
theorem R.kill (r : R c S μ τ s) (k : Nat) : R c S μ ⟨τ.loc, τ.mem.set k .dead⟩ s where
  g := r.g.kill k
  frm := r.frm
  len := r.len
  keepK := r.keepK
  KS := r.KS
  KM := fun a o h hl => r.KM a o h (kill_live hl)
  FK := r.FK
  FS := r.FS
  FM := fun a h hl => r.FM a h (kill_live hl)
theorem R.relabel (r : R c S μ τ s) (ok : c.Ok) {i : Nat} {x : Str} {sl : Slot} (hx : c.names[i]? = some x) (h : ∀ vals, FrS c.env s.heap vals → (∀ sl', τ.loc[i]? = some sl' → SlotR S μ (vals x) sl') → SlotR S μ (vals x) sl) :
    R c S μ ⟨τ.loc.set i sl, τ.mem⟩ s where
  g := r.g
  frm := by
    obtain ⟨vals, hf, hl⟩ := r.frm
    refine ⟨vals, hf, fun j y sl' hy e => ?_⟩
    by_cases q : i = j
    · subst q
      rw [hx] at hy; cases hy
      rw [List.getElem?_set_self (by rw [r.len]; exact (List.getElem?_eq_some_iff.mp hx).1)] at e
      cases e
      exact h vals hf fun sl' e' => hl i x sl' hx e'
    · rw [List.getElem?_set_ne q] at e
      exact hl j y sl' hy e
  len := by show (τ.loc.set i sl).length = _; rw [List.length_set]; exact r.len
  keepK := r.keepK
  KS := r.KS
  KM := r.KM
  FK := r.FK
  FS := r.FS
  FM := r.FM

/-- a name's slot and what it bears -/
theorem R.slot (r : R c S μ τ s) {i : Nat} {x : Str} {sl : Slot} (hx : c.names[i]? = some x) (hs : τ.loc[i]? = some sl) : ∃ vals, FrS c.env s.heap vals ∧ SlotR S μ (vals x) sl := by
  obtain ⟨vals, hf, hl⟩ := r.frm
  exact ⟨vals, hf, hl i x sl hx hs⟩

theorem look_ok (ok : c.Ok) (r : R c S μ τ s) {i : Nat} {x : Str} {pos : Pos} {y : PV} {τ' : St} (hx : c.names[i]? = some x) (h : look τ i = some (y, τ')) {Q : Value → Shared → Prop} (k : K1 c S μ τ' y Q) :
    wpAny M A (eval (.Name x pos) c.env) Q E s := by
  unfold look at h
  split at h
  · rename_i v hs; cases h
    obtain ⟨vals, hf, u, hu, hv⟩ := r.slot hx hs
    exact name_ok ok r hx hf hu (k u S μ s (.refl _) (.refl _) r hv)
  · rename_i j hs
    split at h
    · rename_i xs hm; cases h
      obtain ⟨vals, hf, a, ha, hu⟩ := r.slot hx hs
      obtain ⟨hS, vs, n, ho, hvs, hns⟩ := r.g.mutR j a _ ha hm
      have hlive : Live μ τ.mem j a := ⟨ha, _, hm, fun e => by cases e⟩
      have hnl : ¬ IsLive μ (τ.mem.set j .dead) a := fun ⟨i', hi'⟩ => (live_kill hi').1 (r.g.inj i' j a (live_kill hi').2 hlive)
      have sb : Sub S (Mine.put S a (listObj vs n)) := Sub.put fun o' e => by rw [hS] at e; cases e
      have hK : c.K a = none := by
        cases q : c.K a with
        | none => rfl
        | some o => exact absurd ⟨j, hlive⟩ (r.KM a o q)
      have hF : a ∉ c.fa := fun hm2 => r.FM a hm2 ⟨j, hlive⟩
      have r2 := ((r.kill j).put ho hnl hK hF).relabel ok (sl := .val (.list xs)) hx fun vals' hf' hsl => by
        obtain ⟨a', ha', hu'⟩ := hsl _ hs
        rw [ha] at ha'; cases ha'
        exact ⟨.ref a, hu', .list (put_at _ _ _) (IsLO.of _ _) (hvs.mono sb (.refl _)) hns⟩
      exact name_ok ok r hx hf hu (k (.ref a) _ μ s sb (.refl _) r2 (.list (put_at _ _ _) (IsLO.of _ _) (hvs.mono sb (.refl _)) hns))
    · cases h
  · cases h

/-- a value that is only looked at -/
noncomputable def HV (S : PH) (μ : List Addr) (v : Value) : H → Prop
  | .val x => VR S μ v x
  | .bld k => ∃ a, μ[k]? = some a ∧ v = .ref a
theorem HV.mono {v : Value} {h : H} (hS : Sub S S') (hμ : Pre μ μ') (hv : HV S μ v h) : HV S' μ' v h := by
  cases h with
  | val x => exact VR.mono hS hμ hv
  | bld k => obtain ⟨a, e, q⟩ := hv; exact ⟨a, hμ _ _ e, q⟩
theorem HV.deref {v : Value} {h : H} {x : PV} (r : R c S μ τ s) (hv : HV S μ v h) (e : Mine.deref τ.mem h = some x) : VH S μ s.heap v x := by
  cases h with
  | val y => cases e; exact .inl hv
  | bld k =>
    obtain ⟨a, ha, rfl⟩ := hv
    simp only [Mine.deref] at e
    split at e
    · rename_i xs hm; cases e
      obtain ⟨hS, vs, n, ho, hvs, hns⟩ := r.g.mutR k a _ ha hm
      exact .inr ⟨a, vs, n, xs, rfl, ho, hvs, hns, rfl⟩
    · cases e
theorem peek_ok (ok : c.Ok) (r : R c S μ τ s) {i : Nat} {x : Str} {pos : Pos} {h : H} (hx : c.names[i]? = some x) (e : peek τ i = some h) {Q : Value → Shared → Prop} (k : ∀ v, HV S μ v h → Q v s) :
    wpAny M A (eval (.Name x pos) c.env) Q E s := by
  unfold peek at e
  split at e
  · rename_i v hs; cases e
    obtain ⟨vals, hf, u, hu, hv⟩ := r.slot hx hs
    exact name_ok ok r hx hf hu (k u hv)
  · rename_i j hs; cases e
    obtain ⟨vals, hf, a, ha, hu⟩ := r.slot hx hs
    exact name_ok ok r hx hf hu (k (.ref a) ⟨a, ha, rfl⟩)
  · cases e

/-- a global's or a built-in's name -/
noncomputable def Known (c : FC) (x : Str) (v : Value) : Prop := c.mg x = some v ∨ (c.mg x = none ∧ c.mb x = some v)
theorem R.base (r : R c S μ τ s) : Ext c.base s.heap := fun a o e => r.g.keepS a o (r.g.baseS a o e)
theorem global_ok (ok : c.Ok) (r : R c S μ τ s) {x : Str} {v : Value} {pos : Pos} (hx : x ∈ c.gs.1) (hv : Known c x v) {Q : Value → Shared → Prop} (h : Q v s) : wpAny M A (eval (.Name x pos) c.env) Q E s := by
  obtain ⟨hk, hd⟩ := ok.gk x hx
  refine Name_function_global ok.kind hk ?_ hd
  rcases hv with e | ⟨e1, e2⟩
  · exact loadGlobal_global (ok.gns.keeps r.base) e h
  · exact loadGlobal_builtin (ok.gns.keeps r.base) e1 (ok.bns.keeps r.base) e2 h
end
end Mine
end
noncomputable section
open PySem PySem.W PyProof.Rows PySem.Calls
set_option Elab.async false
set_option linter.unusedVariables false
set_option maxRecDepth 100000
namespace Mine

noncomputable def Kept (S : PH) (μ : List Addr) (mem : List MCell) (h : Heap) (S' : PH) (μ' : List Addr) (mem' : List MCell) (h' : Heap) : Prop :=
  ∀ a o, h.get? a = some o → S a = none → ¬ IsLive μ mem a → (∃ o', h'.get? a = some o' ∧ SameU o o') ∧ S' a = none ∧ ¬ IsLive μ' mem' a

/-- a frame's object: nobody's, a dict -/
noncomputable def FrIn (S : PH) (μ : List Addr) (mem : List MCell) (h : Heap) (env : Env) : Prop := env.scope.kind ≠ .module ∧ ∃ L o, env.frame = some L ∧ h.get? L = some o ∧ (∃ es ep, o.data = .dict es ep) ∧ S L = none ∧ ¬ IsLive μ mem L
noncomputable def Stk (A : Around) (S : PH) (μ : List Addr) (mem : List MCell) (h : Heap) : Prop := ∃ l, A.frames = some l ∧ ∀ env ∈ l, FrIn S μ mem h env
noncomputable def Fram (A : Around) (c : FC) : Prop := ∃ outer, A.frames = some (c.env :: outer) ∧ c.env.frame = some c.env.locals ∧ ∀ env ∈ outer, env.scope.kind ≠ .module ∧ ∃ L o, env.frame = some L ∧ c.K L = some o ∧ ∃ es ep, o.data = .dict es ep
theorem R.frIn {c : FC} {S : PH} {μ : List Addr} {τ : St} {s : Shared} (r : R c S μ τ s) (ok : c.Ok) (hf : c.env.frame = some c.env.locals) : FrIn S μ τ.mem s.heap c.env := by
  obtain ⟨vals, ⟨⟨m, ⟨o, es, ep, ho, hd, _⟩, _⟩, _⟩, _⟩ := r.frm
  exact ⟨by rw [ok.kind]; decide, _, o, hf, ho, ⟨es, ep, hd⟩, r.FS _ (List.mem_cons_self ..), r.FM _ (List.mem_cons_self ..)⟩
theorem R.stk {A : Around} {c : FC} {S : PH} {μ : List Addr} {τ : St} {s : Shared} (r : R c S μ τ s) (ok : c.Ok) (f : Fram A c) : Stk A S μ τ.mem s.heap := by
  obtain ⟨outer, hA, hf, ho⟩ := f
  refine ⟨_, hA, fun env he => ?_⟩
  rcases List.mem_cons.mp he with rfl | he
  · exact r.frIn ok hf
  · obtain ⟨hk, L, o, hL, hK, es, ep, hd⟩ := ho env he
    obtain ⟨o', h1, h2⟩ := r.keepK L o hK
    refine ⟨hk, L, o', hL, h1, ⟨es, ep, ?_⟩, r.KS L o hK, r.KM L o hK⟩
    rcases h2 with rfl | ⟨_, h2⟩
    · exact hd
    · exact h2.trans hd

/-- what was there, and is nobody's -/
noncomputable def Old (S : PH) (μ : List Addr) (mem : List MCell) (h : Heap) (a : Addr) : Prop := (∃ o, h.get? a = some o) ∧ S a = none ∧ ¬ IsLive μ mem a
/-- an exception of class ValueError that has left its frame; it is none of the old things -/
noncomputable def Air (old : Addr → Prop) (S : PH) (μ : List Addr) (mem : List MCell) (h : Heap) (e : Addr) : Prop := ∃ oe vs T oT ts a0, h.get? e = some oe ∧ oe.cls = .type "ValueError" ∧ oe.data = .fields vs ∧ vs[0]? = some a0 ∧ vs[1]? = some (.ref T) ∧ T ≠ e ∧
  h.get? T = some oT ∧ oT.data = .fields ts ∧ ts[3]? = some .none ∧ (S e = none ∧ ¬ IsLive μ mem e ∧ ¬ old e) ∧ (S T = none ∧ ¬ IsLive μ mem T ∧ ¬ old T)
/-- a call of f that raises ValueError -/
noncomputable def RaiseOk (prog : Program) (w : World) (base : Heap) (os : OsState) (n : Nat) (a : Addr) (g : List PV → List MCell → Option (List MCell)) : Prop :=
  ∀ A S μ mem s vs xs mem' (Q : Value → Shared → Prop) (E : Value → Shared → Prop), Room A n → Stk A S μ mem s.heap → GR base os S μ mem s → VRs S μ vs xs → g xs mem = some mem' →
    (∀ e S' μ' s', Sub S S' → Pre μ μ' → GR base os S' μ' mem' s' → Kept S μ mem s.heap S' μ' mem' s'.heap → Air (Old S μ mem s.heap) S' μ' mem' s'.heap e → E (.ref e) s') →
    wpAny (model prog w) A (call (.ref a) vs) Q E s
noncomputable def endG (xs : List PV) (ms : List MCell) : Option (List MCell) := (one xs).bind fun v => endV ms v
/-- what a call of f does -/
noncomputable def CallOk (prog : Program) (w : World) (base : Heap) (os : OsState) (n : Nat) (a : Addr) (g : List PV → List MCell → Option (PV × List MCell)) : Prop :=
  ∀ A S μ mem s vs xs z mem' (Q : Value → Shared → Prop) (E : Value → Shared → Prop), Room A n → Stk A S μ mem s.heap → GR base os S μ mem s → VRs S μ vs xs → g xs mem = some (z, mem') →
    (∀ v S' μ' s', Sub S S' → Pre μ μ' → GR base os S' μ' mem' s' → Kept S μ mem s.heap S' μ' mem' s'.heap → VR S' μ' v z → Q v s') →
    wpAny (model prog w) A (call (.ref a) vs) Q E s

/-- f.read of a stream -/
noncomputable def ReadOk (prog : Program) (w : World) (base : Heap) (os : OsState) (n : Nat) : Prop :=
  ∀ A S μ mem s f k o, Room A n → GR base os S μ mem s → StrmAt S μ f k o → ∃ g, (∃ go gd, S g = some go ∧ go.data = .func gd) ∧
    (∀ pl (Q : Value × List Value → Shared → Prop) (E : Value → Shared → Prop), (∀ tk, Q (.ref g, []) { s with toks := tk }) → wpAny (model prog w) A (getMethod (.ref f) (Str.ofString "read") pl) Q E s) ∧
    (∀ S' μ' mem' s' u y z mem'' (Q : Value → Shared → Prop) (E : Value → Shared → Prop), Sub S S' → Pre μ μ' → GR base os S' μ' mem' s' → VR S' μ' u y → readV mem' (.strm k o) y = some (z, mem'') →
      (∀ v S'' μ'' s'', Sub S' S'' → Pre μ' μ'' → GR base os S'' μ'' mem'' s'' → Kept S' μ' mem' s'.heap S'' μ'' mem'' s''.heap → VR S'' μ'' v z → Q v s'') →
      wpAny (model prog w) A (call (.ref g) [u]) Q E s')

noncomputable def blist : List (Str × Value) := [("len", .builtin "len"), ("ord", .builtin "ord"), ("bytes", .type "bytes"), ("sorted", .builtin "sorted"), ("list", .type "list"), ("range", .type "range"), ("type", .type "type"),
  ("isinstance", .builtin "isinstance"), ("issubclass", .builtin "issubclass"), ("enumerate", .type "enumerate"), ("ValueError", .type "ValueError")]

structure Lib (prog : Program) (w : World) (A : Around) (c : FC) (n : Nat) (Φ : Fns) (γ : String → Option PV) : Prop where
  ok : c.Ok
  blt : ∀ p ∈ blist, Known c p.1 p.2
  fns : ∀ f g, Φ f = some g → ∃ a o fd, Known c (Str.ofString f) (.ref a) ∧ c.base.get? a = some o ∧ o.data = .func fd ∧ CallOk prog w c.base c.os n a g
  tab : ∀ x y, γ x = some y → ∃ v, Known c (Str.ofString x) v ∧ ∀ S μ, (∀ a o, c.base.get? a = some o → S a = some o) → VR S μ v y
  rd : ReadOk prog w c.base c.os n
  fr : Fram A c
  rz : ∀ g, Φ "read_uint1" = some g → ∃ a o fd, Known c (Str.ofString "read_uint1") (.ref a) ∧ c.base.get? a = some o ∧ o.data = .func fd ∧ RaiseOk prog w c.base c.os n a endG

section
variable (prog : Program) (w : World) (A : Around) (c : FC)
noncomputable def Ev (t : Sem Value) (τ : St) (y : PV) (τ' : St) : Prop := ∀ S μ s (Q : Value → Shared → Prop) (E : Value → Shared → Prop), R c S μ τ s → K1 c S μ τ' y Q → wpAny (model prog w) A t Q E s
noncomputable def KH (S : PH) (μ : List Addr) (τ' : St) (h : H) (Q : Value → Shared → Prop) : Prop := ∀ v S' μ' s', Sub S S' → Pre μ μ' → R c S' μ' τ' s' → HV S' μ' v h → Q v s'
noncomputable def EvH (t : Sem Value) (τ : St) (h : H) (τ' : St) : Prop := ∀ S μ s (Q : Value → Shared → Prop) (E : Value → Shared → Prop), R c S μ τ s → KH c S μ τ' h Q → wpAny (model prog w) A t Q E s
noncomputable def KL (S : PH) (μ : List Addr) (τ' : St) (ys : List PV) (Q : List Value → Shared → Prop) : Prop := ∀ vs S' μ' s', Sub S S' → Pre μ μ' → R c S' μ' τ' s' → VRs S' μ' vs ys → Q vs s'
noncomputable def Evs (t : Sem (List Value)) (τ : St) (ys : List PV) (τ' : St) : Prop := ∀ S μ s (Q : List Value → Shared → Prop) (E : Value → Shared → Prop), R c S μ τ s → KL c S μ τ' ys Q → wpAny (model prog w) A t Q E s
noncomputable def KT (S : PH) (μ : List Addr) (τ' : St) (b : Bool) (Q : Bool → Shared → Prop) : Prop := ∀ S' μ' s', Sub S S' → Pre μ μ' → R c S' μ' τ' s' → Q b s'
noncomputable def EvT (t : Sem Bool) (τ : St) (b : Bool) (τ' : St) : Prop := ∀ S μ s (Q : Bool → Shared → Prop) (E : Value → Shared → Prop), R c S μ τ s → KT c S μ τ' b Q → wpAny (model prog w) A t Q E s
end

section
variable {prog : Program} {w : World} {A : Around} {c : FC} {S S' : PH} {μ μ' : List Addr} {τ τ1 τ2 τ3 τ' : St} {s : Shared} {n : Nat} {Φ : Fns} {γ : String → Option PV}
theorem K1.mono {y : PV} {Q : Value → Shared → Prop} (k : K1 c S μ τ y Q) (hS : Sub S S') (hμ : Pre μ μ') : K1 c S' μ' τ y Q := fun v S2 μ2 s h1 h2 r hv => k v S2 μ2 s (hS.trans h1) (hμ.trans h2) r hv
theorem KT.mono {y : Bool} {Q : Bool → Shared → Prop} (k : KT c S μ τ y Q) (hS : Sub S S') (hμ : Pre μ μ') : KT c S' μ' τ y Q := fun S2 μ2 s h1 h2 r => k S2 μ2 s (hS.trans h1) (hμ.trans h2) r
theorem KL.mono {y : List PV} {Q : List Value → Shared → Prop} (k : KL c S μ τ y Q) (hS : Sub S S') (hμ : Pre μ μ') : KL c S' μ' τ y Q := fun v S2 μ2 s h1 h2 r hv => k v S2 μ2 s (hS.trans h1) (hμ.trans h2) r hv

theorem ev_const {t : Sem Value} {y : PV} (h : ∀ s (Q : Value → Shared → Prop) (E : Value → Shared → Prop), (∀ v tk, (∀ S μ, VR S μ v y) → Q v ⟨s.heap, s.gens, s.drawn, tk, s.os⟩) → wpAny (model prog w) A t Q E s) : Ev prog w A c t τ y τ :=
  fun S μ s Q E r k => h s Q E fun v tk hv => k v S μ _ (.refl _) (.refl _) (r.ext (Ext.refl _)) (hv S μ)

theorem ev_bin (ok : c.Ok) {l r : PySem.Expr} {o : Operator} {pos : Pos} {x y z : PV} (ha : Ev prog w A c (eval l c.env) τ x τ1) (hb : Ev prog w A c (eval r c.env) τ1 y τ2) (hz : binV o x y = some z) :
    Ev prog w A c (eval (.BinOp l o r pos) c.env) τ z τ2 := fun S μ s Q E r0 k => by
  refine wpAny_BinOp (ha S μ s _ E r0 fun v S1 μ1 s1 h1 h2 r1 hv => hb S1 μ1 s1 _ E r1 fun u S2 μ2 s2 h3 h4 r2 hu => ?_)
  exact binV_ok ok r2 (hv.mono h3 h4) hu hz (k.mono (h1.trans h3) (h2.trans h4))

theorem ev_cmp (rm : Room A n) {l r : PySem.Expr} {o : CmpOp} {pos : Pos} {x y : PV} {b : Bool} (ha : Ev prog w A c (eval l c.env) τ x τ1) (hb : Ev prog w A c (eval r c.env) τ1 y τ2) (hz : cmpV o x y = some b) (hm : behindInMarks o r = false) :
    Ev prog w A c (eval (.Compare l [o] [r] pos) c.env) τ (.bool b) τ2 := fun S μ s Q E r0 k => by
  refine wpAny_Compare1 (ha S μ s _ E r0 fun v S1 μ1 s1 h1 h2 r1 hv => hb S1 μ1 s1 _ E r1 fun u S2 μ2 s2 h3 h4 r2 hu => ?_) hm
  exact cmpV_ok (by have := rm.units; omega) r2 (hv.mono h3 h4) hu hz fun d tk => (k.mono (h1.trans h3) (h2.trans h4)).bool r2

theorem evT_cmp (rm : Room A n) {l r : PySem.Expr} {o : CmpOp} {pos : Pos} {x y : PV} {b : Bool} {whole : Sem Value} (ha : Ev prog w A c (eval l c.env) τ x τ1) (hb : Ev prog w A c (eval r c.env) τ1 y τ2) (hz : cmpV o x y = some b) (hm : behindInMarks o r = false) :
    EvT prog w A c (isTrue (.Compare l [o] [r] pos) c.env whole) τ b τ2 := fun S μ s Q E r0 k => by
  refine wpAny_isTrue_Compare1 (ha S μ s _ E r0 fun v S1 μ1 s1 h1 h2 r1 hv => hb S1 μ1 s1 _ E r1 fun u S2 μ2 s2 h3 h4 r2 hu => ?_) hm
  exact cmpV_ok (by have := rm.units; omega) r2 (hv.mono h3 h4) hu hz fun d tk => wpAny_truthy_bool (k S2 μ2 _ (h1.trans h3) (h2.trans h4) (r2.ext (Ext.refl _)))

/-- truth of a plain expression's value -/
theorem evT_plain {e : PySem.Expr} {x : PV} {b : Bool} (ha : Ev prog w A c (eval e c.env) τ x τ1) (hz : truthV x = some b) (he : isTrue e c.env (eval e c.env) = (do let v ← eval e c.env; standAt e.pos; holding [v] (truthy v))) :
    EvT prog w A c (isTrue e c.env (eval e c.env)) τ b τ1 := fun S μ s Q E r0 k => by
  refine isTrue_plain (ha S μ s _ E r0 fun v S1 μ1 s1 h1 h2 r1 hv => ?_) he
  exact truthV_ok r1 (.inl hv) hz fun d tk => k S1 μ1 _ h1 h2 (r1.ext (Ext.refl _))
theorem evT_peek {e : PySem.Expr} {h : H} {x : PV} {b : Bool} (ha : EvH prog w A c (eval e c.env) τ h τ1) (hd : deref τ1.mem h = some x) (hz : truthV x = some b) (he : isTrue e c.env (eval e c.env) = (do let v ← eval e c.env; standAt e.pos; holding [v] (truthy v))) :
    EvT prog w A c (isTrue e c.env (eval e c.env)) τ b τ1 := fun S μ s Q E r0 k => by
  refine isTrue_plain (ha S μ s _ E r0 fun v S1 μ1 s1 h1 h2 r1 hv => ?_) he
  exact truthV_ok r1 (hv.deref r1 hd) hz fun d tk => k S1 μ1 _ h1 h2 (r1.ext (Ext.refl _))

theorem evT_not {x : PySem.Expr} {pos : Pos} {b : Bool} {whole : Sem Value} (h : EvT prog w A c (isTrue x c.env (eval x c.env)) τ b τ1) : EvT prog w A c (isTrue (.UnaryOp .Not x pos) c.env whole) τ (!b) τ1 :=
  fun S μ s Q E r0 k => isTrue_not (h S μ s _ E r0 fun S1 μ1 s1 h1 h2 r1 => k S1 μ1 s1 h1 h2 r1)

theorem ev_ite {t a b : PySem.Expr} {pos : Pos} {q : Bool} {y : PV} (ht : EvT prog w A c (isTrue t c.env (eval t c.env)) τ q τ1) (ha : q = true → Ev prog w A c (eval a c.env) τ1 y τ2) (hb : q = false → Ev prog w A c (eval b c.env) τ1 y τ2) :
    Ev prog w A c (eval (.IfExp t a b pos) c.env) τ y τ2 := fun S μ s Q E r0 k => by
  refine IfExp_ (ht S μ s _ E r0 fun S1 μ1 s1 h1 h2 r1 => ?_)
  cases q with
  | true => simp only [if_true]; exact ha rfl S1 μ1 s1 Q E r1 (k.mono h1 h2)
  | false => simp only [Bool.false_eq_true, if_false]; exact hb rfl S1 μ1 s1 Q E r1 (k.mono h1 h2)

theorem ev_or {a b : PySem.Expr} {pos : Pos} {x y : PV} {q : Bool} (ha : Ev prog w A c (eval a c.env) τ x τ1) (hq : truthV x = some q) (h1 : q = true → y = x ∧ τ2 = τ1) (h2 : q = false → Ev prog w A c (eval b c.env) τ1 y τ2) :
    Ev prog w A c (eval (.BoolOp .Or [a, b] pos) c.env) τ y τ2 := fun S μ s Q E r0 k => by
  refine BoolOp_or (ha S μ s _ E r0 fun v S1 μ1 s1 g1 g2 r1 hv => ?_)
  refine truthV_ok r1 (.inl hv) hq fun d tk => ?_
  cases q with
  | true =>
    simp only [if_true]
    obtain ⟨rfl, rfl⟩ := h1 rfl
    exact k v S1 μ1 _ g1 g2 (r1.ext (Ext.refl _)) hv
  | false =>
    simp only [Bool.false_eq_true, if_false]
    exact BoolOp_one (h2 rfl S1 μ1 _ Q E (r1.ext (Ext.refl _)) (k.mono g1 g2))

theorem ev_tup {es : List PySem.Expr} {kk : Nat} {pos : Pos} {ys : List PV} (ok : c.Ok) (h : Evs prog w A c (spliced (backTo pos (starEach es c.env))) τ ys τ1) (hn : ys.length ≤ lid) (ns : NoS ys) :
    Ev prog w A c (eval (.Tuple es kk pos) c.env) τ (.tup ys) τ1 := fun S μ s Q E r0 k =>
  wpAny_Tuple_spliced (h S μ s _ E r0 fun vs S1 μ1 s1 h1 h2 r1 hv => ⟨by rw [hv.length]; exact Nat.le_trans hn lid_line, (k.mono h1 h2).tupN r1 ok hv ns⟩)
theorem ev_lst {es : List PySem.Expr} {pos : Pos} {ys : List PV} (ok : c.Ok) (h : Evs prog w A c (spliced (backTo pos (starEach es c.env))) τ ys τ1) (hn : ys.length ≤ lid) (ns : NoS ys) :
    Ev prog w A c (eval (.List es pos) c.env) τ (.list ys) τ1 := fun S μ s Q E r0 k =>
  wpAny_List_spliced (h S μ s _ E r0 fun vs S1 μ1 s1 h1 h2 r1 hv => ⟨by rw [hv.length]; exact Nat.le_trans hn lid_line, (k.mono h1 h2).listN r1 ok hv ns⟩)

theorem ev_sub {a i : PySem.Expr} {pos : Pos} {h : H} {x j z : PV} (ha : EvH prog w A c (eval a c.env) τ h τ1) (hi : Ev prog w A c (eval i c.env) τ1 j τ2) (hd : deref τ2.mem h = some x) (hz : itemV x j = some z)
    (hs : ∀ o k, subscripted i false o k = operate [o, k] (getItem o k)) : Ev prog w A c (eval (.Subscript a i pos) c.env) τ z τ2 := fun S μ s Q E r0 k => by
  refine Subscript_ (ha S μ s _ E r0 fun v S1 μ1 s1 h1 h2 r1 hv => hi S1 μ1 s1 _ E r1 fun u S2 μ2 s2 h3 h4 r2 hu => ?_)
  exact itemV_ok r2 ((hv.mono h3 h4).deref r2 hd) hu hz (k.mono (h1.trans h3) (h2.trans h4)) hs

theorem ev_slcTo {a l : PySem.Expr} {p pos : Pos} {h : H} {x z : PV} {m : Int} (ok : c.Ok) (ha : EvH prog w A c (eval a c.env) τ h τ1) (hi : Ev prog w A c (eval l c.env) τ1 (.int m) τ2) (hd : deref τ2.mem h = some x) (hz : cutV x none (some m) = some z) :
    Ev prog w A c (eval (.Subscript a (.Slice none (some l) none p) pos) c.env) τ z τ2 := fun S μ s Q E r0 k => by
  refine Subscript_ (ha S μ s _ E r0 fun v S1 μ1 s1 h1 h2 r1 hv => ?_)
  refine wpAny_Slice ?_
  rw [evalPart_none, evalPart_some]
  refine wpAny_pure (hi S1 μ1 s1 _ E r1 fun u S2 μ2 s2 h3 h4 r2 hu => ?_)
  obtain ⟨_, rfl⟩ := hu.sh
  exact wpAny_pure (cutV_ok ok r2 ((hv.mono h3 h4).deref r2 hd) .none (.int _ _) hz (k.mono (h1.trans h3) (h2.trans h4)))
theorem ev_slcFrom {a l : PySem.Expr} {p pos : Pos} {h : H} {x z : PV} {m : Int} (ok : c.Ok) (ha : EvH prog w A c (eval a c.env) τ h τ1) (hi : Ev prog w A c (eval l c.env) τ1 (.int m) τ2) (hd : deref τ2.mem h = some x) (hz : cutV x (some m) none = some z) :
    Ev prog w A c (eval (.Subscript a (.Slice (some l) none none p) pos) c.env) τ z τ2 := fun S μ s Q E r0 k => by
  refine Subscript_ (ha S μ s _ E r0 fun v S1 μ1 s1 h1 h2 r1 hv => ?_)
  refine wpAny_Slice ?_
  rw [evalPart_none, evalPart_some]
  refine hi S1 μ1 s1 _ E r1 fun u S2 μ2 s2 h3 h4 r2 hu => ?_
  obtain ⟨_, rfl⟩ := hu.sh
  refine wpAny_pure ?_
  exact wpAny_pure (cutV_ok ok r2 ((hv.mono h3 h4).deref r2 hd) (.int _ _) .none hz (k.mono (h1.trans h3) (h2.trans h4)))
theorem ev_slc {a l u : PySem.Expr} {p pos : Pos} {h : H} {x z : PV} {m m' : Int} (ok : c.Ok) (ha : EvH prog w A c (eval a c.env) τ h τ1) (hi : Ev prog w A c (eval l c.env) τ1 (.int m) τ2) (hj : Ev prog w A c (eval u c.env) τ2 (.int m') τ3)
    (hd : deref τ3.mem h = some x) (hz : cutV x (some m) (some m') = some z) : Ev prog w A c (eval (.Subscript a (.Slice (some l) (some u) none p) pos) c.env) τ z τ3 := fun S μ s Q E r0 k => by
  refine Subscript_ (ha S μ s _ E r0 fun v S1 μ1 s1 h1 h2 r1 hv => ?_)
  refine wpAny_Slice ?_
  rw [evalPart_none, evalPart_some, evalPart_some]
  refine hi S1 μ1 s1 _ E r1 fun u S2 μ2 s2 h3 h4 r2 hu => hj S2 μ2 s2 _ E r2 fun u' S3 μ3 s3 h5 h6 r3 hu' => ?_
  obtain ⟨_, rfl⟩ := hu.sh; obtain ⟨_, rfl⟩ := hu'.sh
  exact wpAny_pure (cutV_ok ok r3 ((hv.mono (h3.trans h5) (h4.trans h6)).deref r3 hd) (.int _ _) (.int _ _) hz (k.mono (h1.trans (h3.trans h5)) (h2.trans (h4.trans h6))))
end
end Mine
end
noncomputable section
open PySem PySem.W PyProof.Rows PySem.Calls
set_option Elab.async false
set_option linter.unusedVariables false
set_option maxRecDepth 100000
namespace Mine

section
variable {prog : Program} {w : World} {A : Around} {c : FC} {S S' : PH} {μ μ' : List Addr} {τ τ1 τ2 τ3 τ' : St} {s : Shared} {n : Nat} {Φ : Fns} {γ : String → Option PV}

/-- the frame behind a call -/
theorem R.after (r : R c S μ τ s) (ok : c.Ok) {s' : Shared} {mem' : List MCell} (hS : Sub S S') (hμ : Pre μ μ') (g : GR c.base c.os S' μ' mem' s') (kp : Kept S μ τ.mem s.heap S' μ' mem' s'.heap) : R c S' μ' ⟨τ.loc, mem'⟩ s' := by
  obtain ⟨vals, hf, hl⟩ := r.frm
  have fa : ∀ a ∈ c.fa, ∀ o, s.heap.get? a = some o → (∃ o', s'.heap.get? a = some o' ∧ SameU o o') ∧ S' a = none ∧ ¬ IsLive μ' mem' a := fun a ha o ho => kp a o ho (r.FS a ha) (r.FM a ha)
  have fo : ∀ a ∈ c.fa, ∃ o, s.heap.get? a = some o := fun a ha => by
    rcases List.mem_cons.mp ha with rfl | ha'
    · obtain ⟨m, ⟨o, _, _, ho, _⟩, _⟩ := hf.ns; exact ⟨o, ho⟩
    · obtain ⟨p, hp, rfl⟩ := List.mem_map.mp ha'
      obtain ⟨o, ho, _⟩ := hf.cell p.1 p.2 (ok.cells p hp).1 (ok.cells p hp).2
      exact ⟨o, ho⟩
  refine ⟨g, ⟨vals, ⟨?_, ?_⟩, fun i x sl h1 h2 => (hl i x sl h1 h2).mono hS hμ⟩, r.len, ?_, ?_, ?_, r.FK, ?_, ?_⟩
  · obtain ⟨m, ⟨o, es, ep, ho, hd, h3, h4⟩, hm⟩ := hf.ns
    obtain ⟨⟨o', ho', hs⟩, _⟩ := fa _ (List.mem_cons_self ..) o ho
    refine ⟨m, ⟨o', es, ep, ho', ?_, h3, h4⟩, hm⟩
    rcases hs with rfl | ⟨_, e⟩
    · exact hd
    · exact e.trans hd
  · intro x a hk ha
    obtain ⟨o, ho, hd⟩ := hf.cell x a hk ha
    obtain ⟨⟨o', ho', hs⟩, _⟩ := fa a (List.mem_cons_of_mem _ (List.mem_map_of_mem (f := (·.2)) (mem_of_lookup ha))) o ho
    refine ⟨o', ho', ?_⟩
    rcases hs with rfl | ⟨_, e⟩
    · exact hd
    · exact e.trans hd
  · intro a o hK
    obtain ⟨o1, h1, h2⟩ := r.keepK a o hK
    obtain ⟨⟨o', h3, h4⟩, _⟩ := kp a o1 h1 (r.KS a o hK) (r.KM a o hK)
    exact ⟨o', h3, h2.trans h4⟩
  · intro a o hK
    obtain ⟨o1, h1, h2⟩ := r.keepK a o hK
    exact (kp a o1 h1 (r.KS a o hK) (r.KM a o hK)).2.1
  · intro a o hK
    obtain ⟨o1, h1, h2⟩ := r.keepK a o hK
    exact (kp a o1 h1 (r.KS a o hK) (r.KM a o hK)).2.2
  · intro a ha; obtain ⟨o, ho⟩ := fo a ha; exact (fa a ha o ho).2.1
  · intro a ha; obtain ⟨o, ho⟩ := fo a ha; exact (fa a ha o ho).2.2

/-! arguments -/
theorem X.noStar {ns : List Str} {gs : List Str × List Str} {x : X} {v : PySem.Expr} {p : Pos} (h : X.Is ns gs x (.Starred v p) = true) : x = .any := by cases x <;> first | rfl | exact nob h
theorem X.noSet {ns : List Str} {gs : List Str × List Str} {x : X} {v : List PySem.Expr} {k : Nat} {p : Pos} (h : X.Is ns gs x (.Set v k p) = true) : x = .any := by cases x <;> first | rfl | exact nob h
theorem star_cons {ns : List Str} {gs : List Str × List Str} {x : X} {e : PySem.Expr} {rest : List PySem.Expr} {env : Env} (h : X.Is ns gs x e = true) (hx : x ≠ .any) : starEach (e :: rest) env = (false, eval e env) :: starEach rest env := by
  cases e with
  | Starred => exact absurd (X.noStar h) hx
  | _ => rfl
noncomputable def Plain (es : List PySem.Expr) (env : Env) : Prop := ∀ pos, (backTo pos (starEach es env)).any (·.1) = false
theorem Plain.nil {env : Env} : Plain [] env := fun _ => rfl
theorem Plain.cons {e : PySem.Expr} {rest : List PySem.Expr} {env : Env} (he : starEach (e :: rest) env = (false, eval e env) :: starEach rest env) (h : Plain rest env) : Plain (e :: rest) env := fun pos => by
  rw [he]; show (false || (backTo pos (starEach rest env)).any (·.1)) = false; rw [h pos]; rfl

theorem evs_nil {pos : Pos} : Evs prog w A c (spliced (backTo pos (starEach [] c.env))) τ [] τ := fun S μ s Q E r k => spliced_none (k [] S μ s (.refl _) (.refl _) r .nil)
theorem evs_cons {pos : Pos} {e : PySem.Expr} {rest : List PySem.Expr} {y : PV} {ys : List PV} (he : starEach (e :: rest) c.env = (false, eval e c.env) :: starEach rest c.env)
    (h1 : Ev prog w A c (eval e c.env) τ y τ1) (h2 : Evs prog w A c (spliced (backTo pos (starEach rest c.env))) τ1 ys τ2) :
    Evs prog w A c (spliced (backTo pos (starEach (e :: rest) c.env))) τ (y :: ys) τ2 := fun S μ s Q E r k => by
  refine spliced_more (h1 S μ s _ E r fun v S1 μ1 s1 g1 g2 r1 hv => h2 S1 μ1 s1 _ E r1 fun vs S2 μ2 s2 g3 g4 r2 hvs => ?_) he
  exact k _ S2 μ2 s2 (g1.trans g3) (g2.trans g4) r2 (.cons (hv.mono g3 g4) hvs)

noncomputable def subj (Φ : Fns) (γ : String → Option PV) (a : X) (τ : St) : Option (H × St) := subjH (varOf a) τ (ev Φ γ a τ)
theorem ev_subj (ok : c.Ok) {a : X} {e : PySem.Expr} {h : H} (hq : subj Φ γ a τ = some (h, τ1)) (hi : X.Is c.names c.gs a e = true)
    (hv : ∀ y τ', ev Φ γ a τ = some (y, τ') → Ev prog w A c (eval e c.env) τ y τ') : EvH prog w A c (eval e c.env) τ h τ1 := by
  unfold subj at hq
  cases hvo : varOf a with
  | none =>
    rw [hvo] at hq
    obtain ⟨⟨y, τ'⟩, h1, h2⟩ := Option.map_eq_some_iff.mp hq
    cases h2
    exact fun S μ s Q E r k => hv y τ' h1 S μ s Q E r fun v S1 μ1 s1 g1 g2 r1 hv => k v S1 μ1 s1 g1 g2 r1 hv
  | some i =>
    rw [hvo] at hq
    obtain ⟨h1, h2, h3⟩ := Option.map_eq_some_iff.mp hq
    cases h3; cases varOf_inv hvo
    apply X.var_k hi
    intro q hx
    exact fun S μ s Q E r k => peek_ok ok r hx h2 fun v hv => k v S μ s (.refl _) (.refl _) r hv

theorem ev_len (Lb : Lib prog w A c n Φ γ) {f : Str} {a : PySem.Expr} {p pos : Pos} {h : H} {x z : PV} (hf : f = Str.ofString "len") (hg : f ∈ c.gs.1) (hs : starEach [a] c.env = [(false, eval a c.env)]) (ha : EvH prog w A c (eval a c.env) τ h τ1)
    (hd : deref τ1.mem h = some x) (hz : lenV x = some z) : Ev prog w A c (eval (.Call (.Name f p) [a] [] pos) c.env) τ z τ1 := fun S μ s Q E r k => by
  subst hf
  refine Call_Name1 (global_ok Lb.ok r hg (Lb.blt ("len", .builtin "len") (List.mem_of_getElem? (i := 0) rfl)) ?_) hs
  refine callWith_builtin rfl (evalArgs_plain (spliced_cons (ha S μ s _ E r fun v S1 μ1 s1 g1 g2 r1 hv => spliced_nil ?_)))
  exact lenV_ok r1 (hv.deref r1 hd) hz (k.mono g1 g2)

theorem callArgs {f : Value} {es : List PySem.Expr} {pos : Pos} {s : Shared} {e : PySem.Expr} {rest : List PySem.Expr} (hes : es = e :: rest) (he : starEach (e :: rest) c.env = (false, eval e c.env) :: starEach rest c.env) {Q : Args → Shared → Prop} {E : Value → Shared → Prop}
    (h : wpAny (model prog w) A (spliced (backTo pos (starEach es c.env))) (fun vs s' => Q ⟨vs, []⟩ s') E s) : wpAny (model prog w) A (evalArgs f true (backTo pos (starEach es c.env)) []) Q E s := by
  subst hes
  rw [he] at h ⊢
  exact evalArgs_plain h

theorem blt_mem (f : BF) : (f.name, f.val) ∈ blist := by
  cases f
  · exact List.mem_of_getElem? (i := 1) rfl
  · exact List.mem_of_getElem? (i := 2) rfl
  · exact List.mem_of_getElem? (i := 3) rfl
  · exact List.mem_of_getElem? (i := 4) rfl
  · exact List.mem_of_getElem? (i := 5) rfl
  · exact List.mem_of_getElem? (i := 5) rfl
  · exact List.mem_of_getElem? (i := 6) rfl
  · exact List.mem_of_getElem? (i := 7) rfl
  · exact List.mem_of_getElem? (i := 8) rfl
theorem bf_kind (f : BF) : (∃ i, f.val = .builtin i) ∨ (∃ T, f.val = .type T) := by
  cases f
  · exact .inl ⟨_, rfl⟩
  · exact .inr ⟨_, rfl⟩
  · exact .inl ⟨_, rfl⟩
  · exact .inr ⟨_, rfl⟩
  · exact .inr ⟨_, rfl⟩
  · exact .inr ⟨_, rfl⟩
  · exact .inr ⟨_, rfl⟩
  · exact .inl ⟨_, rfl⟩
  · exact .inl ⟨_, rfl⟩
theorem ev_bf (Lb : Lib prog w A c n Φ γ) (rm : Room A n) {f : BF} {es : List PySem.Expr} {x : Str} {p pos : Pos} {ys : List PV} {z : PV} (hx : x = f.name) (hg : x ∈ c.gs.1) (hp : Plain es c.env)
    (hst : ∀ e rest, es = e :: rest → starEach (e :: rest) c.env = (false, eval e c.env) :: starEach rest c.env) (hes : es ≠ [])
    (ha : Evs prog w A c (spliced (backTo pos (starEach es c.env))) τ ys τ1) (hz : bfV f ys = some z) : Ev prog w A c (eval (.Call (.Name x p) es [] pos) c.env) τ z τ1 := fun S μ s Q E r k => by
  subst hx
  have hk : Known c f.name f.val := Lb.blt _ (blt_mem f)
  refine Call_Name rfl (global_ok Lb.ok r hg hk ?_)
  obtain ⟨e, rest, rfl⟩ : ∃ e rest, es = e :: rest := by cases es with | nil => exact absurd rfl hes | cons e rest => exact ⟨e, rest, rfl⟩
  have body : wpAny (model prog w) A (evalArgs f.val true (backTo pos (starEach (e :: rest) c.env)) []) (fun a s₁ => wpAny (model prog w) A (call f.val ([] ++ a.pos) a.kw) Q E s₁) E s :=
    callArgs rfl (hst e rest rfl) (ha S μ s _ E r fun vs S1 μ1 s1 g1 g2 r1 hvs => bfV_ok rm Lb.ok r1 hvs hz (k.mono g1 g2))
  rcases bf_kind f with ⟨i, hi⟩ | ⟨i, hi⟩
  · rw [hi] at body ⊢; exact callWith_builtin (hp pos) body
  · rw [hi] at body ⊢; exact PySem.callWith_type (hp pos) body

theorem ev_call (Lb : Lib prog w A c n Φ γ) (rm : Room A n) {f : String} {es : List PySem.Expr} {x : Str} {p pos : Pos} {ys : List PV} {z : PV} {g : List PV → List MCell → Option (PV × List MCell)} {ms : List MCell} (hx : x = Str.ofString f) (hg : x ∈ c.gs.1)
    (hst : ∀ e rest, es = e :: rest → starEach (e :: rest) c.env = (false, eval e c.env) :: starEach rest c.env) (hes : es ≠ []) (hf : Φ f = some g)
    (ha : Evs prog w A c (spliced (backTo pos (starEach es c.env))) τ ys τ1) (hz : g ys τ1.mem = some (z, ms)) : Ev prog w A c (eval (.Call (.Name x p) es [] pos) c.env) τ z ⟨τ1.loc, ms⟩ := fun S μ s Q E r k => by
  subst hx
  obtain ⟨a, o, fd, hkn, ho, hfd, hc⟩ := Lb.fns f g hf
  refine Call_Name rfl (global_ok Lb.ok r hg hkn ?_)
  obtain ⟨e, rest, rfl⟩ : ∃ e rest, es = e :: rest := by cases es with | nil => exact absurd rfl hes | cons e rest => exact ⟨e, rest, rfl⟩
  refine callWith_function (o := o) (fd := fd) (callArgs rfl (hst e rest rfl) (ha S μ s _ E r fun vs S1 μ1 s1 g1 g2 r1 hvs => ?_))
  refine ⟨⟨r1.base _ _ ho, hfd⟩, ?_⟩
  refine hc A S1 μ1 τ1.mem s1 vs ys z ms _ E rm (r1.stk Lb.ok Lb.fr) r1.g hvs hz fun v S2 μ2 s2 g3 g4 gr kp hv => ?_
  exact k v S2 μ2 s2 (g1.trans g3) (g2.trans g4) (r1.after Lb.ok g3 g4 gr kp) hv

theorem mfV_head {f : MF} {y : PV} {ys : List PV} {z : PV} (h : mfV f y ys = some z) : (f = .decode ∧ ∃ x, y = .bytes x) ∨ (f ≠ .decode ∧ ∃ x, y = .str x) := by
  cases f with
  | decode => obtain ⟨a, h1, h⟩ := bd h; exact .inl ⟨rfl, a, byOf_inv h1⟩
  | join => obtain ⟨a, h1, h⟩ := bd h; exact .inr ⟨(fun e => by cases e), a, sOf_inv h1⟩
  | startswith => obtain ⟨a, b, h1, h2, h⟩ := s2_inv h; exact .inr ⟨(fun e => by cases e), a, h1⟩
  | endswith => obtain ⟨a, b, h1, h2, h⟩ := s2_inv h; exact .inr ⟨(fun e => by cases e), a, h1⟩
  | rfind => obtain ⟨a, b, h1, h2, h⟩ := s2_inv h; exact .inr ⟨(fun e => by cases e), a, h1⟩
  | rstrip => obtain ⟨a, b, h1, h2, h⟩ := s2_inv h; exact .inr ⟨(fun e => by cases e), a, h1⟩
  | split => obtain ⟨a, b, h1, h2, h⟩ := s2_inv h; exact .inr ⟨(fun e => by cases e), a, h1⟩
theorem ev_mf (Lb : Lib prog w A c n Φ γ) (rm : Room A n) {f : MF} {o : PySem.Expr} {es : List PySem.Expr} {x : Str} {ap pos : Pos} {y : PV} {ys : List PV} {z : PV} (hx : x = f.name) (hp : Plain es c.env)
    (hst : ∀ e rest, es = e :: rest → starEach (e :: rest) c.env = (false, eval e c.env) :: starEach rest c.env) (hes : es ≠ []) (hn : es.length < 29) (hb : attributeBase o x c.env (eval o c.env) = eval o c.env) (hl : (ap.endLine == pos.line) = true)
    (ho : Ev prog w A c (eval o c.env) τ y τ1) (ha : Evs prog w A c (spliced (backTo pos (starEach es c.env))) τ1 ys τ2) (hz : mfV f y ys = some z) : Ev prog w A c (eval (.Call (.Attribute o x ap) es [] pos) c.env) τ z τ2 := fun S μ s Q E r k => by
  subst hx
  refine wpAny_Call_method_lateS hb ?_ hl (ho S μ s _ E r fun v S1 μ1 s1 g1 g2 r1 hv => ?_)
  · have h1 := hp pos
    rw [Bool.and_eq_true, Bool.and_eq_true]
    refine ⟨⟨?_, rfl⟩, ?_⟩
    · rw [List.all_eq_true]; intro q hq; have := List.any_eq_false.mp h1 q hq; simpa using this
    · simp; omega
  obtain ⟨e, rest, rfl⟩ : ∃ e rest, es = e :: rest := by cases es with | nil => exact absurd rfl hes | cons e rest => exact ⟨e, rest, rfl⟩
  have body : wpAny (model prog w) A (callWith pos (.builtin f.id) [v] (backTo pos (starEach (e :: rest) c.env)) []) Q E s1 :=
    callWith_builtin (hp pos) (callArgs rfl (hst e rest rfl) (ha S1 μ1 s1 _ E r1 fun vs S2 μ2 s2 g3 g4 r2 hvs =>
      mfV_ok rm Lb.ok r2 (hv.mono g3 g4) hvs hz (k.mono (g1.trans g3) (g2.trans g4))))
  rcases mfV_head hz with ⟨rfl, x, rfl⟩ | ⟨q, x, rfl⟩
  · obtain ⟨t, rfl⟩ := hv.sh
    exact ⟨"bytes", "bytes.decode", FB.plainAttrs_bytes, FB.slot_bytes_decode, FB.type_bytes_decode, typeIs_bytes _ _ _, (fun _ e => by cases e), body⟩
  · obtain ⟨t, rfl⟩ := hv.sh
    cases f with
    | decode => exact absurd rfl q
    | startswith => exact ⟨"str", _, F.plainAttrs_str, F.slot_str_startswith, F.type_str_startswith, typeIs_str _ _ _, (fun _ e => by cases e), body⟩
    | endswith => exact ⟨"str", _, F.plainAttrs_str, F.slot_str_endswith, F.type_str_endswith, typeIs_str _ _ _, (fun _ e => by cases e), body⟩
    | rfind => exact ⟨"str", _, F.plainAttrs_str, F.slot_str_rfind, F.type_str_rfind, typeIs_str _ _ _, (fun _ e => by cases e), body⟩
    | rstrip => exact ⟨"str", _, F.plainAttrs_str, F.slot_str_rstrip, F.type_str_rstrip, typeIs_str _ _ _, (fun _ e => by cases e), body⟩
    | split => exact ⟨"str", _, F.plainAttrs_str, F.slot_str_split, F.type_str_split, typeIs_str _ _ _, (fun _ e => by cases e), body⟩
    | join => exact ⟨"str", _, F.plainAttrs_str, F.slot_str_join, F.type_str_join, typeIs_str _ _ _, (fun _ e => by cases e), body⟩

theorem ev_read (Lb : Lib prog w A c n Φ γ) (rm : Room A n) {o e : PySem.Expr} {x : Str} {ap pos : Pos} {y j z : PV} {ms : List MCell} (hx : x = Str.ofString "read")
    (hst : starEach [e] c.env = [(false, eval e c.env)]) (hb : attributeBase o x c.env (eval o c.env) = eval o c.env) (hl : (ap.endLine == pos.line) = true)
    (ho : Ev prog w A c (eval o c.env) τ y τ1) (ha : Ev prog w A c (eval e c.env) τ1 j τ2) (hz : readV τ2.mem y j = some (z, ms)) : Ev prog w A c (eval (.Call (.Attribute o x ap) [e] [] pos) c.env) τ z ⟨τ2.loc, ms⟩ := fun S μ s Q E r k => by
  subst hx
  rw [arm_eval_Call, hb]
  refine wpAny_bind (ho S μ s _ E r fun v S1 μ1 s1 g1 g2 r1 hv => ?_)
  obtain ⟨⟨kk, oo⟩, hst0, _⟩ := bd hz
  cases stOf_inv hst0
  obtain ⟨f, rfl, hst'⟩ := hv.sh
  obtain ⟨g, ⟨go, gd, hgo, hgd⟩, hget, hcall⟩ := Lb.rd A S1 μ1 τ1.mem s1 f kk oo rm r1.g hst'
  refine wpAny_bind (wpAny_standAt ?_)
  have hfew : methodCallForm ([e].length + ([] : List Keyword).length) (backTo pos (starEach [e] c.env)) (backToKw pos (keywordEach [] c.env)) = true := by rw [hst]; rfl
  have hpos : methodCallPos true o c.env ap pos = pure pos := by unfold methodCallPos; rw [hl]; rfl
  unfold methodCall
  rw [hfew]
  refine wpAny_bind (wpAny_holding ?_)
  refine hget _ _ _ fun tk => ?_
  refine wpAny_bind (wpAny_of_eq hpos ?_)
  refine callWith_function (o := go) (fd := gd) ?_
  rw [hst]
  refine evalArgs_plain (spliced_cons (ha S1 μ1 _ _ E (r1.ext (Ext.refl _)) fun u S2 μ2 s2 g3 g4 r2 hu => spliced_nil ?_))
  refine ⟨⟨r2.g.keepS _ _ (g3 _ _ hgo), hgd⟩, ?_⟩
  refine hcall S2 μ2 τ2.mem s2 u j z ms _ E g3 g4 r2.g hu hz fun v' S3 μ3 s3 g5 g6 gr kp hv' => ?_
  exact k v' S3 μ3 s3 (g1.trans (g3.trans g5)) (g2.trans (g4.trans g6)) (r2.after Lb.ok g5 g6 gr kp) hv'

theorem ev_gl (Lb : Lib prog w A c n Φ γ) {x : Str} {pos : Pos} {q : String} {y : PV} (hx : x = Str.ofString q) (hg : x ∈ c.gs.1) (h : γ q = some y) : Ev prog w A c (eval (.Name x pos) c.env) τ y τ := fun S μ s Q E r k => by
  subst hx
  obtain ⟨v, hv, hr⟩ := Lb.tab q y h
  exact global_ok Lb.ok r hg hv (k v S μ s (.refl _) (.refl _) r (hr S μ r.g.baseS))
end
end Mine
end
noncomputable section
open PySem PySem.W PyProof.Rows PySem.Calls
set_option Elab.async false
set_option linter.unusedVariables false
set_option maxRecDepth 100000
namespace Mine

structure ScopeFit (scope : Scope) (x : Str) (free : List Str) : Prop where
  kind : scope.kind = .function
  nd : (x == ("__debug__" : Str)) = false
  here : scope.names.lookup x = some .local
  free : ∀ y ∈ scope.names, y.2 = .free → y.1 ∈ free
  cell : ∀ y ∈ scope.names, y.2 ≠ .cell
  loc : ∀ y ∈ scope.names, y.2 = .local → scope.names.lookup y.1 = some .local
theorem scopeOk_fit {scope : Scope} {x : Str} {free : List Str} (h : scopeOk scope x free = true) : ScopeFit scope x free := by
  unfold scopeOk at h
  simp only [Bool.and_eq_true, beq_iff_eq, List.all_eq_true, Bool.or_eq_true, bne_iff_ne, ne_eq] at h
  obtain ⟨⟨⟨⟨⟨h1, h0⟩, h2⟩, h3⟩, h4⟩, h5⟩ := h
  refine ⟨h1, h0, h2, fun y hy e => ?_, fun y hy e => ?_, fun y hy e => ?_⟩
  · rcases h3 y hy with (q | q) | q
    · rw [q] at e; cases e
    · rw [q] at e; cases e
    · simpa using q.2
  · rcases h3 y hy with (q | q) | q
    · rw [q] at e; cases e
    · rw [q] at e; cases e
    · rw [q.1] at e; cases e
  · rcases h4 y hy with q | q
    · exact absurd e q
    · exact q

section
variable {prog : Program} {w : World} {A : Around} {c : FC} {S S' : PH} {μ μ' : List Addr} {τ τ1 τ2 τ3 τ' : St} {s : Shared} {n : Nat} {Φ : Fns} {γ : String → Option PV}

theorem none_ext {h h' : Heap} (e : Ext h h') {a : Addr} (q : h'.get? a = none) : h.get? a = none := by
  cases k : h.get? a with
  | none => rfl
  | some o => rw [e a o k] at q; cases q

/-- a new object that the heap already holds, frozen -/
theorem R.fresh (r : R c S μ τ s) (ok : c.Ok) {h' : Heap} (e : Ext s.heap h') {D : Addr} {o : Obj} (hD : s.heap.get? D = none) (ho : h'.get? D = some o) {d : Drawn} {tk : Nat} :
    R c (Mine.put S D o) μ τ ⟨h', s.gens, d, tk, s.os⟩ ∧ Sub S (Mine.put S D o) := by
  have hS : S D = none := by
    cases q : S D with
    | none => rfl
    | some o => rw [r.g.keepS _ _ q] at hD; cases hD
  refine ⟨(r.ext e).put ho (fun hl => ?_) ?_ (fun hF => ?_), Sub.put fun o' q => by rw [hS] at q; cases q⟩
  · obtain ⟨_, o, q⟩ := r.g.live hl; rw [hD] at q; cases q
  · cases q : c.K D with
    | none => rfl
    | some o => obtain ⟨o', q, _⟩ := r.keepK _ _ q; rw [hD] at q; cases q
  · obtain ⟨vals, hf, _⟩ := r.frm
    rcases List.mem_cons.mp hF with rfl | ha
    · obtain ⟨m, ⟨o, _, _, q, _⟩, _⟩ := hf.ns; rw [hD] at q; cases q
    · obtain ⟨p, hp, rfl⟩ := List.mem_map.mp ha
      obtain ⟨o, q, _⟩ := hf.cell p.1 p.2 (ok.cells p hp).1 (ok.cells p hp).2
      rw [hD] at q; cases q

theorem K1.listP {xs : List PV} {Q : Value → Shared → Prop} (k : K1 c S μ τ (.list xs) Q) (r : R c S μ τ s) (ok : c.Ok) {h' : Heap} (e : Ext s.heap h') {D : Addr} {ys : Array Value} (hD : s.heap.get? D = none) (ho : h'.PlainList D ys)
    (hv : VRs S μ ys.toList xs) (ns : NoS xs) {d : Drawn} {tk : Nat} : Q (.ref D) ⟨h', s.gens, d, tk, s.os⟩ := by
  obtain ⟨n, ho⟩ := ho
  obtain ⟨r', sb⟩ := r.fresh ok e hD ho (d := d) (tk := tk)
  exact k _ _ μ _ sb (.refl _) r' (.list (put_at _ _ _) ⟨rfl, n, by simp⟩ (hv.mono sb (.refl _)) ns)

theorem keeps_of_iter {h h' : Heap} {o : Obj} (hk : ∀ b q, b ∉ [h.objs.size] → (h.push o).get? b = some q → h'.get? b = some q) : Ext h h' := fun a q e =>
  hk a q (fun hm => by have h1 := List.mem_singleton.mp hm; have h2 := Heap.lt_size e; rw [h1] at h2; exact Nat.lt_irrefl _ h2) (Ext.push h o a q e)

theorem subs_elt {scope : Scope} {x : Str} {free : List Str} (f : ScopeFit scope x free) {C : Addr} {m : Str → Option Value} {env : Env} {s : Shared} (hn : s.heap.Ns C m) {v : Value} (hm : m x = some v) {a : Addr} {vs : List Value} {k : Nat}
    (ho : s.heap.get? a = some (tupObj vs k)) (he : v = .ref a) {ps : List PV} (hvs : VRs S μ vs ps) {j : Int} {q : Str} (hz : itemV (.tup ps) (.int j) = some (.str q)) {p1 p2 p3 : Pos} {kd : Nat} {E' : Value → Shared → Prop} :
    wpAny (model prog w) A (eval (.Subscript (.Name x p1) (.Constant (.int j) kd p2) p3) (compEnv scope C env)) (fun y s₄ => vs[j.toNat]? = some y ∧ Keeps s s₄) E' s := by
  subst he
  refine Subscript_ (wpAny_Name (wpAny_loadName_local (env := compEnv scope C env) f.kind f.here hn hm ?_) f.nd)
  refine wpAny_Constant_int ?_
  obtain ⟨⟨hc1, hc2⟩, hz⟩ := item_tup hz
  have hlen := hvs.length
  have hc1 : ps.length ≤ 1000000 := hc1
  obtain ⟨v, e2, hv'⟩ := hvs.get hz
  obtain ⟨t, rfl⟩ := hv'.sh
  have hlt : j.toNat < _ := (List.getElem?_eq_some_iff.mp e2).1
  have ht := isTuple_of ho
  have hn : ¬ j < 0 := Int.not_lt.mpr hc2
  refine tail_any (Heap.IsTuple.typeIs ht) slot_tuple_getitem.lookup (PyProof.Rows.getItem_tuple ht (by omega) (by omega) (j := j.toNat)
      (by simp only [seqIndex?, hn, if_false, List.size_toArray]; rw [if_pos]; simp; omega) (by simpa using e2) ?_) rfl
  exact ⟨e2, s.heap, _, rfl, fun _ _ e => e⟩

theorem subs_at {j : Int} : ∀ {xs zs : List PV}, subsV j xs = some zs → zs.length = xs.length ∧ NoS zs ∧ ∀ {i : Nat} {x : PV}, xs[i]? = some x → ∃ ps q, x = .tup ps ∧ itemV (.tup ps) (.int j) = some (.str q) ∧ zs[i]? = some (.str q)
  | [], zs, h => by cases h; exact ⟨rfl, .nil, fun e => no e⟩
  | y :: r, zs, h => by
    obtain ⟨vs, h1, h⟩ := bd h
    obtain ⟨z, h2, h⟩ := bd h
    obtain ⟨s, h3, h⟩ := bd h
    obtain ⟨ws, hw, e⟩ := Option.map_eq_some_iff.mp h
    subst e; cases tuOf_inv h1; cases sOf_inv h3
    obtain ⟨k1, k2, k3⟩ := subs_at hw
    refine ⟨congrArg (· + 1) k1, .cons rfl k2, fun {i x} e => ?_⟩
    cases i with
    | zero => cases e; exact ⟨vs, s, rfl, h2, rfl⟩
    | succ i => exact k3 (i := i) e

/-- pairs, place by place -/
theorem Paired.at {α β : Type} {F : α → β → Prop} : ∀ {l : List α} {l' : List β}, Paired F l l' → l.length = l'.length ∧ ∀ (i : Nat) (a : α) (b : β), l[i]? = some a → l'[i]? = some b → F a b
  | _, _, .nil => ⟨rfl, fun i a b h => by simp at h⟩
  | _, _, .cons h t => by
    obtain ⟨h1, h2⟩ := Paired.at t
    refine ⟨congrArg (· + 1) h1, fun i a b ha hb => ?_⟩
    cases i with
    | zero => simp at ha hb; subst ha hb; exact h
    | succ i => exact h2 i a b (by simpa using ha) (by simpa using hb)
theorem VRs.of_at : ∀ {vs : List Value} {xs : List PV}, vs.length = xs.length → (∀ (i : Nat) v x, vs[i]? = some v → xs[i]? = some x → VR S μ v x) → VRs S μ vs xs
  | [], [], _, _ => .nil
  | [], _ :: _, h, _ => by cases h
  | _ :: _, [], h, _ => by cases h
  | v :: vs, x :: xs, h, k => .cons (k 0 v x rfl rfl) (VRs.of_at (Nat.succ.inj h) fun i v x hv hx => k (i + 1) v x hv hx)
theorem VRs.at : ∀ {xs : List PV} {vs : List Value}, VRs S μ vs xs → ∀ {i : Nat} {v : Value} {x : PV}, vs[i]? = some v → xs[i]? = some x → VR S μ v x
  | [], _, _, _, _, _, _, h => no h
  | y :: ys, _, h, i, v, x, e, e' => by
    revert e
    apply h.consK
    intro u r p t e
    cases i with
    | zero => cases e; cases e'; exact p
    | succ i => exact t.at (i := i) e e'

noncomputable def sF (S : PH) (j : Int) (v u : Value) : Prop := ∀ a ws k, v = .ref a → S a = some (tupObj ws k) → ws[j.toNat]? = some u
theorem subs_done {j : Int} {vs ws : List Value} {us : Array Value} {xs zs : List PV} (hz : subsV j xs = some zs) (hvs : VRs S μ vs xs) (hl : ws.length = vs.length) (hP : ∀ (i : Nat) v, ws[i]? = some v → vs.toArray[i]? = some v)
    (hF : Paired (sF S j) (ws.filter fun _ => true) us.toList) : VRs S μ us.toList zs := by
  rw [List.filter_eq_self.mpr (fun _ _ => rfl)] at hF
  obtain ⟨h1, h2⟩ := Paired.at hF
  have h3 := hvs.length
  refine VRs.of_at (by rw [← h1, hl, h3, (subs_at hz).1]) fun i u z hu hz' => ?_
  have hi : i < ws.length := by rw [h1]; exact (List.getElem?_eq_some_iff.mp hu).1
  obtain ⟨x, hx⟩ : ∃ x, xs[i]? = some x := ⟨_, List.getElem?_eq_getElem (by omega)⟩
  obtain ⟨ps, q, rfl, h4, h5⟩ := (subs_at hz).2.2 hx
  have hw : ws[i]? = some ws[i] := List.getElem?_eq_getElem hi
  have hv := hvs.at (i := i) (by simpa using hP i _ hw) hx
  rw [h5] at hz'; cases hz'
  generalize hgv : ws[i] = v at *
  obtain ⟨_, _, _, rfl, e1, e2, _⟩ := hv.sh
  exact e2.at (h2 i _ u hw hu _ _ _ rfl e1) (item_tup h4).2

theorem subs_quiet {scope : Scope} {x : Str} {free : List Str} (f : ScopeFit scope x free) {env : Env} {s : Shared} {o : Obj} (r : R c S μ τ s) {vs : List Value} {xs zs : List PV} {j : Int} (hz : subsV j xs = some zs) (hvs : VRs S μ vs xs)
    {p1 p2 p3 : Pos} {kd : Nat} {d : Drawn} {tk : Nat} {g : Array GenState} {oo : OsState} : QuietOn prog w A env scope x [] (.Subscript (.Name x p1) (.Constant (.int j) kd p2) p3) [s.heap.objs.size] (fun i v => vs.toArray[i]? = some v) (fun _ => true) (sF S j)
      ⟨s.heap.push o, g, d, tk, oo⟩ where
  tests := fun C i v s₃ m₃ E' hP hn hm hk htk => wpAny_pure ⟨rfl, s₃.heap, _, rfl, fun _ _ e => e⟩
  elt := fun C i v s₃ m₃ E' hP _ hn hm hk htk => by
    have hP : vs[i]? = some v := by simpa using hP
    have hi : i < xs.length := by rw [← hvs.length]; exact (List.getElem?_eq_some_iff.mp hP).1
    have hx : xs[i]? = some xs[i] := List.getElem?_eq_getElem hi
    obtain ⟨ps, q, e, h4, h5⟩ := (subs_at hz).2.2 hx
    have hv := hvs.at hP hx
    rw [e] at hv
    have ext := keeps_of_iter hk
    obtain ⟨a, ws, k, rfl, h1, h2, _⟩ := hv.sh
    refine wpAny_mono (subs_elt f hn hm (ext _ _ (r.g.keepS _ _ h1)) rfl h2 h4) (fun y s₄ hy => ⟨fun a' ws' k' e1 e2 => ?_, hy.2⟩) fun _ _ e => e
    cases e1
    rw [h1] at e2
    have e2 := Option.some.inj e2
    have : ws = ws' := by
      have := congrArg Obj.data e2
      simp only [Data.seq.injEq] at this
      simpa using this.1
    exact this ▸ hy.1

theorem pyIter_go (rm : Room A n) (r : R c S μ τ s) {a : Addr} {vs : List Value} {Q : Value → Shared → Prop} {E : Value → Shared → Prop} (hL : s.heap.IsList a vs.toArray) (hl : vs.length ≤ lid)
    (h : ∀ I (fp wr : List Addr) n P St, Walks prog w A I fp wr n P St → I = s.heap.objs.size → wr = [s.heap.objs.size] → n = vs.length → P = (fun (i : Nat) v => vs.toArray[i]? = some v) → ∀ o, St 0 (s.heap.push o) → (∀ b ∈ fp, b < (s.heap.push o).objs.size) → n ≤ sizeLine →
      Q (.ref I) ⟨s.heap.push o, s.gens, s.drawn, s.toks, s.os⟩) : wpAny (model prog w) A (pyIter (.ref a)) Q E s := by
  refine wpAny_pyIter_list hL ?_
  have hlt : a < s.heap.objs.size := Heap.lt_size hL.choose_spec.1
  refine h _ _ _ _ _ _ (Walks.list rm.handled _ a (fun e => Nat.lt_irrefl _ (e ▸ hlt)) vs.toArray) rfl rfl (by simp) rfl _ ⟨⟨_, Heap.get?_push_size _ rfl, rfl, rfl⟩, hL.at fun o e => Ext.push _ _ _ _ e⟩ ?_ (by have := lid_line; simp; omega)
  intro b hb
  simp only [List.mem_cons, List.not_mem_nil, or_false] at hb
  have hp : ∀ o, (s.heap.push o).objs.size = s.heap.objs.size + 1 := fun o => by simp
  rw [hp]
  rcases hb with e | e
  · rw [e]; exact Nat.lt_succ_self _
  · rw [e]; exact Nat.lt_succ_of_lt hlt

theorem ev_compSub (Lb : Lib prog w A c n Φ γ) (rm : Room A n) {nm x : Str} {scope : Scope} {j : Int} {i : Nat} {p0 p1 p2 p3 px pos : Pos} {kd : Nat} {h : H} {xs zs : List PV} (f : ScopeFit scope x [])
    (hnm : c.names[i]? = some nm) (hp : peek τ i = some h) (hd : deref τ.mem h = some (.list xs)) (hl : xs.length ≤ lid) (hz : subsV j xs = some zs) :
    Ev prog w A c (eval (.ListComp (.Subscript (.Name x p1) (.Constant (.int j) kd p2) p3) [⟨.Name x px, .Name nm p0, [], 0⟩] scope pos) c.env) τ (.list zs) τ := fun S μ s Q E r k => by
  refine wpAny_ListComp_walk (fun _ => true) (sF S j) (fun y hy e => by have := f.free y hy e; simp at this) f.cell f.kind f.loc f.here (peek_ok Lb.ok r hnm hp fun v hv => ?_)
  obtain ⟨a, vs, rfl, hL, hvs⟩ := (hv.deref r hd).list r
  refine pyIter_go rm r hL (by rw [hvs.length]; exact hl) fun I fp wr n P St W e1 e2 e3 e4 o h1 h2 h3 => ?_
  subst e1 e2 e3 e4
  refine ⟨_, _, _, _, _, _, rfl, W, h3, h1, h2, subs_quiet f r hz hvs, ?_⟩
  intro D h' tk ys ws hD hIs hPl hlen hP hF hk
  have ext := keeps_of_iter hk
  exact k.listP r Lb.ok ext (none_ext (Ext.push _ _) hD) hPl (subs_done hz hvs hlen hP hF) (subs_at hz).2.1

/-! signs -/
theorem ords_elt (Lb : Lib prog w A c n Φ γ) {scope : Scope} {x : Str} {free : List Str} (f : ScopeFit scope x free) {C : Addr} {m : Str → Option Value} {s : Shared} (hb : Ext c.base s.heap) (hn : s.heap.Ns C m) {v : Value} (hm : m x = some v)
    {g : Str} (hg : g = Str.ofString "ord") (hgl : scope.names.lookup g = some .globalImplicit) {p1 p2 p3 : Pos} {E' : Value → Shared → Prop} {ch : Nat} {t : Tok} (hv : v = .str ⟨#[ch]⟩ t) :
    wpAny (model prog w) A (eval (.Call (.Name g p1) [.Name x p2] [] p3) (compEnv scope C c.env)) (fun y s₄ => (∃ t, y = .int ch t) ∧ Keeps s s₄) E' s := by
  subst hg hv
  have hk : Known c (Str.ofString "ord") (.builtin "ord") := Lb.blt _ (List.mem_of_getElem? (i := 1) rfl)
  refine Call_Name1 (Name_function_global (env := compEnv scope C c.env) f.kind hgl ?_) rfl
  have fin : wpAny (model prog w) A (callWith p3 (.builtin "ord") [] [(false, eval (.Name x p2) (compEnv scope C c.env))] []) (fun y s₄ => (∃ t, y = .int ch t) ∧ Keeps s s₄) E' s := by
    refine callWith_builtin rfl (evalArgs_plain (spliced_cons (wpAny_Name (wpAny_loadName_local (env := compEnv scope C c.env) f.kind f.here hn hm (spliced_nil ?_)) f.nd)))
    exact ord_of_one rfl ⟨⟨_, rfl⟩, s.heap, _, rfl, fun _ _ e => e⟩
  rcases hk with e | ⟨e1, e2⟩
  · exact loadGlobal_global (env := compEnv scope C c.env) (Lb.ok.gns.keeps hb) e fin
  · exact loadGlobal_builtin (env := compEnv scope C c.env) (Lb.ok.gns.keeps hb) e1 (Lb.ok.bns.keeps hb) e2 fin

noncomputable def oF (v u : Value) : Prop := ∀ ch t, v = .str ⟨#[ch]⟩ t → ∃ t, u = .int (ch : Nat) t
theorem ev_compOrd (Lb : Lib prog w A c n Φ γ) (rm : Room A n) {it : PySem.Expr} {x g : Str} {scope : Scope} {p1 p2 p3 px pos : Pos} {y : Str} (f : ScopeFit scope x []) (hg : g = Str.ofString "ord") (hgl : scope.names.lookup g = some .globalImplicit)
    (ha : Ev prog w A c (eval it c.env) τ (.str y) τ1) (hfs : ∀ v, foldedSetIterable it c.env v = pure v) (hl : y.length ≤ lid) :
    Ev prog w A c (eval (.ListComp (.Call (.Name g p1) [.Name x p2] [] p3) [⟨.Name x px, it, [], 0⟩] scope pos) c.env) τ (.list (y.cps.toList.map fun (c : Nat) => .int (c : Int))) τ1 := fun S μ s Q E r k => by
  refine wpAny_ListComp_walk (fun _ => true) oF (fun y hy e => by have := f.free y hy e; simp at this) f.cell f.kind f.loc f.here (ha S μ s _ E r fun v S1 μ1 s1 g1 g2 r1 hv => ?_) hfs
  obtain ⟨t, rfl⟩ := hv.sh
  refine wpAny_pyIter_str fun o St W h0 => ?_
  refine ⟨_, _, _, _, _, _, rfl, W A rm.handled, ?_, h0, ?_, ⟨?_, ?_⟩, ?_⟩
  · have := lid_line; unfold Str.length at hl; omega
  · intro b hb; simp only [List.mem_singleton] at hb; subst hb; simp
  · intro C i v s₃ m₃ E' hP hn hm hk htk; exact wpAny_pure ⟨rfl, s₃.heap, _, rfl, fun _ _ e => e⟩
  · intro C i v s₃ m₃ E' hP _ hn hm hk htk
    obtain ⟨ch, t', hc, rfl⟩ := hP
    have ext := keeps_of_iter hk
    refine wpAny_mono (ords_elt Lb f (r1.base.trans ext) hn hm hg hgl rfl) (fun y s₄ hy => ⟨fun ch' t'' e => ?_, hy.2⟩) fun _ _ e => e
    cases e; exact hy.1
  · intro D h' tk ys ws hD hIs hPl hlen hP hF hk
    have ext := keeps_of_iter hk
    refine (k.mono g1 g2).listP r1 Lb.ok ext (none_ext (Ext.push _ _) hD) hPl ?_ (NoS.ints _ _)
    rw [List.filter_eq_self.mpr (fun _ _ => rfl)] at hF
    obtain ⟨h1, h2⟩ := Paired.at hF
    refine VRs.of_at (by rw [← h1, hlen]; simp) fun i u z hu hz' => ?_
    have hi : i < ws.length := by rw [h1]; exact (List.getElem?_eq_some_iff.mp hu).1
    have hw : ws[i]? = some ws[i] := List.getElem?_eq_getElem hi
    obtain ⟨ch, t', hc, e⟩ := hP i _ hw
    obtain ⟨t2, rfl⟩ := h2 i _ u hw hu ch t' e
    rw [List.getElem?_map, Array.getElem?_toList, hc] at hz'
    cases hz'
    exact .int _ _
end
end Mine
end
noncomputable section
open PySem PySem.W PyProof.Rows PySem.Calls
set_option Elab.async false
set_option linter.unusedVariables false
set_option maxRecDepth 100000
namespace Mine

section
variable {prog : Program} {w : World} {A : Around} {c : FC} {S S' : PH} {μ μ' : List Addr} {τ τ1 τ2 τ3 τ' : St} {s : Shared} {n : Nat} {Φ : Fns} {γ : String → Option PV}

theorem lookup_relabel_free {env : Env} (he : env.scope.kind = .function) : ∀ {names : List (Str × NameKind)} {x : Str}, env.kindOf x = some .cell → names.lookup x = some .free →
    (names.map fun (n, k) => if (k == NameKind.free && env.scope.kind == .function && env.kindOf n == some .cell) then (n, NameKind.cell) else (n, k)).lookup x = some .cell
  | [], _, _, h => by simp at h
  | (n, k) :: r, x, hk, h => by
    have ih := @lookup_relabel_free env he r x hk
    show List.lookup x ((if (k == NameKind.free && env.scope.kind == .function && env.kindOf n == some .cell) = true then (n, NameKind.cell) else (n, k)) :: _) = _
    cases hx : x == n with
    | true =>
      have e : x = n := by simpa using hx
      subst e
      simp only [List.lookup_cons, hx] at h
      cases h
      simp [he, hk, List.lookup_cons]
    | false =>
      simp only [List.lookup_cons, hx] at h
      by_cases hc : (k == NameKind.free && env.scope.kind == .function && env.kindOf n == some .cell) = true
      · rw [if_pos hc]; simp only [List.lookup_cons, hx]; exact ih h
      · rw [if_neg hc]; simp only [List.lookup_cons, hx]; exact ih h

theorem closure_go {env : Env} {l : Str} {a : Addr} (ha : env.cells.lookup l = some a) : ∀ (names : List (Str × NameKind)) (acc : List (Str × Addr)), (∀ y ∈ names, y.2 = .free → y.1 = l) → (∀ p ∈ acc, p = (l, a)) →
    ∃ r, (forIn names acc fun (p : Str × NameKind) (cs : List (Str × Addr)) => (if p.2 == .free then do let q ← cellOf env p.1; pure (ForInStep.yield ((p.1, q) :: cs)) else pure (ForInStep.yield cs) : Sem _)) = pure r ∧ (∀ p ∈ r, p = (l, a)) ∧
      (acc ≠ [] ∨ (∃ y ∈ names, y.2 = .free) → r ≠ [])
  | [], acc, _, h => ⟨acc, rfl, h, fun q => by rcases q with q | ⟨y, hy, _⟩; exact q; simp at hy⟩
  | (m, k) :: rest, acc, hn, h => by
    rw [List.forIn_cons]
    by_cases hk : k = .free
    · have e : m = l := hn _ List.mem_cons_self hk
      subst hk e
      obtain ⟨r, h1, h2, h3⟩ := closure_go ha rest ((m, a) :: acc) (fun y hy => hn y (List.mem_cons_of_mem _ hy)) (fun p hp => by
        rcases List.mem_cons.mp hp with e | hp
        · exact e
        · exact h p hp)
      refine ⟨r, ?_, h2, fun _ => h3 (.inl (by simp))⟩
      have : cellOf env m = pure a := by unfold cellOf; rw [ha]
      simp only [beq_self_eq_true, if_true, this, pure_bind]
      exact h1
    · obtain ⟨r, h1, h2, h3⟩ := closure_go ha rest acc (fun y hy => hn y (List.mem_cons_of_mem _ hy)) h
      refine ⟨r, ?_, h2, fun q => h3 ?_⟩
      · have : (k == NameKind.free) = false := by simpa using hk
        simp only [this, Bool.false_eq_true, if_false, pure_bind]
        exact h1
      · rcases q with q | ⟨y, hy, hf⟩
        · exact .inl q
        · rcases List.mem_cons.mp hy with e | hy
          · subst e; exact absurd hf hk
          · exact .inr ⟨y, hy, hf⟩

theorem closure_one {scope : Scope} {x l : Str} {a : Addr} {env : Env} (f : ScopeFit scope x [l]) (hl : scope.names.lookup l = some .free) (ha : env.cells.lookup l = some a) : ∃ cl, closureFor scope env = pure cl ∧ cl.lookup l = some a := by
  obtain ⟨r, h1, h2, h3⟩ := closure_go ha scope.names [] (fun y hy e => by have := f.free y hy e; simpa using this) (fun p hp => by simp at hp)
  refine ⟨r, ?_, ?_⟩
  · unfold closureFor
    have : (forIn scope.names ([] : List (Str × Addr)) fun (p : Str × NameKind) (cs : List (Str × Addr)) => (do
        if (p.2 == .free) = true then do let q ← cellOf env p.1; pure (ForInStep.yield ((p.1, q) :: cs)) else pure (ForInStep.yield cs) : Sem _)) = pure r := h1
    simp only [this, pure_bind]
  · have hne : r ≠ [] := h3 (.inr ⟨(l, .free), mem_of_lookup hl, rfl⟩)
    cases r with
    | nil => exact absurd rfl hne
    | cons p r => rw [h2 p List.mem_cons_self]; simp

theorem adds_at {l : Str} : ∀ {xs zs : List PV}, addsV l xs = some zs → zs.length = xs.length ∧ NoS zs ∧ ∀ {i : Nat} {x : PV}, xs[i]? = some x → ∃ z, x = .str z ∧ l.length + z.length ≤ lid ∧ zs[i]? = some (.str (l ++ z))
  | [], zs, h => by cases h; exact ⟨rfl, .nil, fun e => no e⟩
  | y :: r, zs, h => by
    obtain ⟨z, h1, h⟩ := bd h
    by_cases hq : l.length + z.length ≤ lid
    · rw [if_pos hq] at h
      obtain ⟨ws, hw, e⟩ := Option.map_eq_some_iff.mp h
      subst e; cases sOf_inv h1
      obtain ⟨k1, k2, k3⟩ := adds_at hw
      refine ⟨congrArg (· + 1) k1, .cons rfl k2, fun {i x} e => ?_⟩
      cases i with
      | zero => cases e; exact ⟨z, rfl, hq, rfl⟩
      | succ i => exact k3 (i := i) e
    · rw [if_neg hq] at h; cases h
noncomputable def aF (y : Str) (v u : Value) : Prop := ∀ z t, v = .str z t → ∃ t, u = .str (y ++ z) t
theorem ev_compAdd (Lb : Lib prog w A c n Φ γ) (rm : Room A n) {nm x l : Str} {scope : Scope} {i k : Nat} {p0 p1 p2 p3 px pos : Pos} {h : H} {xs zs : List PV} {y : Str} (f : ScopeFit scope x [l]) (hl : scope.names.lookup l = some .free)
    (hck : l ∈ c.gs.2) (hlx : l ≠ x) (hnl : c.names[k]? = some l) (hs : τ.loc[k]? = some (.val (.str y)))
    (hnm : c.names[i]? = some nm) (hp : peek τ i = some h) (hd : deref τ.mem h = some (.list xs)) (hln : xs.length ≤ lid) (hz : addsV y xs = some zs) :
    Ev prog w A c (eval (.ListComp (.BinOp (.Name l p1) .Add (.Name x p2) p3) [⟨.Name x px, .Name nm p0, [], 0⟩] scope pos) c.env) τ (.list zs) τ := fun S μ s Q E r kk => by
  obtain ⟨hkl, hsome⟩ := Lb.ok.ck l hck
  obtain ⟨ad, had⟩ := Option.isSome_iff_exists.mp hsome
  obtain ⟨cl, hcl, hlk⟩ := closure_one f hl had
  obtain ⟨vals, hf, u, hu, huv⟩ := r.slot hnl hs
  obtain ⟨tl, rfl⟩ := huv.sh
  have hcell := hf.cell l ad hkl had
  rw [hu] at hcell
  refine wpAny_ListComp_free (fun _ => true) (aF y) hcl f.cell f.kind f.loc f.here (peek_ok Lb.ok r hnm hp fun v hv => ?_)
  obtain ⟨a, vs, rfl, hL, hvs⟩ := (hv.deref r hd).list r
  refine pyIter_go rm r hL (by rw [hvs.length]; exact hln) fun I fp wr n P St W e1 e2 e3 e4 o h1 h2 h3 => ?_
  subst e1 e2 e3 e4
  refine ⟨_, _, _, _, _, _, rfl, W, h3, h1, h2, ⟨?_, ?_⟩, ?_⟩
  · intro C i v s₃ m₃ E' _ hP hn hm hk htk; exact wpAny_pure ⟨rfl, s₃.heap, _, rfl, fun _ _ e => e⟩
  · intro C i v s₃ m₃ E' _ hP _ hn hm hk htk
    have ext := keeps_of_iter hk
    have hP : vs[i]? = some v := by simpa using hP
    have hi : i < xs.length := by rw [← hvs.length]; exact (List.getElem?_eq_some_iff.mp hP).1
    have hx : xs[i]? = some xs[i] := List.getElem?_eq_getElem hi
    obtain ⟨z, e, h4, h5⟩ := (adds_at hz).2.2 hx
    have hv := hvs.at hP hx
    rw [e] at hv
    obtain ⟨tz, rfl⟩ := hv.sh
    have h4 : y.length + z.length ≤ 1000000 := h4
    have h6 := sizeLine_eq
    refine wpAny_BinOp (wpAny_Name (wpAny_loadName_cell (env := compEnvC scope cl C c.env) (c := ad) f.kind (lookup_relabel_free Lb.ok.kind hkl hl) hlk (hcell.keeps ext) ?_) (Lb.ok.nodebug l (mem_names hnl)))
    refine wpAny_Name (wpAny_loadName_local (env := compEnvC scope cl C c.env) f.kind (lookup_relabel_local f.here) hn hm ?_) f.nd
    exact PyProof.Rows.add_str (fun t' tk' => ⟨fun z' t'' e' => by cases e'; exact ⟨_, rfl⟩, s₃.heap, _, rfl, fun _ _ e => e⟩) (by omega)
  · intro D h' tk ys ws hD hIs hPl hlen hP hF hk
    have ext := keeps_of_iter hk
    refine kk.listP r Lb.ok ext (none_ext (Ext.push _ _) hD) hPl ?_ (adds_at hz).2.1
    rw [List.filter_eq_self.mpr (fun _ _ => rfl)] at hF
    obtain ⟨h1, h2⟩ := Paired.at hF
    have h6 := hvs.length
    refine VRs.of_at (by rw [← h1, hlen, h6, (adds_at hz).1]) fun i u z hu hz' => ?_
    have hi : i < ws.length := by rw [h1]; exact (List.getElem?_eq_some_iff.mp hu).1
    have hw : ws[i]? = some ws[i] := List.getElem?_eq_getElem hi
    have hwv := hP i _ hw
    obtain ⟨x', hx'⟩ : ∃ x, xs[i]? = some x := ⟨_, List.getElem?_eq_getElem (by omega)⟩
    obtain ⟨z', rfl, h4, h5⟩ := (adds_at hz).2.2 hx'
    have hv := hvs.at (i := i) (by simpa using hwv) hx'
    rw [h5] at hz'; cases hz'
    generalize hgv : ws[i] = v at *
    obtain ⟨t2, rfl⟩ := hv.sh
    obtain ⟨t3, rfl⟩ := h2 i _ u hw hu z' t2 rfl
    exact .str _ _

theorem ev_neg {m : Int} {kd : Nat} {p1 p2 : Pos} : Ev prog w A c (eval (.UnaryOp .USub (.Constant (.int m) kd p1) p2) c.env) τ (.int (-m)) τ := fun S μ s Q E r k =>
  UnaryOp_ (wpAny_Constant_int (PyProof.Rows.neg_int (k.here r (.int _ _))))
theorem ev_none {kd : Nat} {p1 : Pos} : Ev prog w A c (eval (.Constant .none kd p1) c.env) τ .none τ := fun S μ s Q E r k => wpAny_Constant_none (k.here r .none)
theorem ev_bool {b : Bool} {kd : Nat} {p1 : Pos} : Ev prog w A c (eval (.Constant (.bool b) kd p1) c.env) τ (.bool b) τ := fun S μ s Q E r k => wpAny_Constant_bool (k.here r (.bool b))
theorem ev_int {m : Int} {kd : Nat} {p1 : Pos} : Ev prog w A c (eval (.Constant (.int m) kd p1) c.env) τ (.int m) τ := fun S μ s Q E r k => wpAny_Constant_int (k.here r (.int _ _))
theorem ev_str {m : Str} {kd : Nat} {p1 : Pos} : Ev prog w A c (eval (.Constant (.str m) kd p1) c.env) τ (.str m) τ := fun S μ s Q E r k => wpAny_Constant_str (k.here r (.str _ _))
end
end Mine
end
noncomputable section
open PySem PySem.W PyProof.Rows PySem.Calls
set_option Elab.async false
set_option linter.unusedVariables false
set_option maxRecDepth 100000
namespace Mine

section
variable {prog : Program} {w : World} {A : Around} {c : FC} {S S' : PH} {μ μ' : List Addr} {τ τ1 τ2 τ3 τ' : St} {s : Shared} {n : Nat} {Φ : Fns} {γ : String → Option PV}

theorem finm {α β : Type} {P : α → β → Prop} {a c : α} {b d : β} (h : (a, b) = (c, d)) (k : P a b) : P c d := by cases h; exact k
theorem ev_any {x : X} {y : PV} (h : ev Φ γ x τ = some (y, τ')) : x ≠ .any := by rintro rfl; exact no h
theorem evs_star : ∀ (xs : List X) (es : List PySem.Expr) (τ : St) (ys : List PV) (τ' : St), X.Iss c.names c.gs xs es = true → evs Φ γ xs τ = some (ys, τ') →
    Plain es c.env ∧ (∀ e rest, es = e :: rest → starEach (e :: rest) c.env = (false, eval e c.env) :: starEach rest c.env)
  | [], [], τ, ys, τ', _, _ => ⟨.nil, fun _ _ e => (by cases e)⟩
  | [], e :: es, τ, ys, τ', hi, h => nob hi
  | x :: xs, [], τ, ys, τ', hi, h => nob hi
  | x :: xs, e :: es, τ, ys, τ', hi, h => by
    obtain ⟨hi1, hi2⟩ := Bool.and_eq_true_iff.mp hi
    obtain ⟨p, h1, h⟩ := bd h
    obtain ⟨q, h2, h3⟩ := bd h
    have st := star_cons (rest := es) (env := c.env) hi1 (ev_any h1)
    refine ⟨.cons st (evs_star xs es _ _ _ hi2 h2).1, fun e' r' e2 => ?_⟩
    cases e2; exact st

theorem folded_ok {ns : List Str} {gs : List Str × List Str} {x : X} {e : PySem.Expr} {env : Env} (h : X.Is ns gs x e = true) (hx : x ≠ .any) : ∀ v, foldedSetIterable e env v = pure v := by
  cases e with
  | Set => exact absurd (X.noSet h) hx
  | _ => intro _; rfl
theorem attr_ok {v : PySem.Expr} {x : Str} {env : Env} {whole : Sem Value} (h : isNmC v = true) : attributeBase v x env whole = whole := by
  rcases Bool.or_eq_true_iff.mp h with h | h
  · obtain ⟨q, h⟩ := Option.isSome_iff_exists.mp h
    rw [dName_inv h]; rfl
  · obtain ⟨q, h⟩ := Option.isSome_iff_exists.mp h
    rw [dConst_inv h]; rfl
theorem nm_nmC {v : PySem.Expr} (h : isNm v = true) : isNmC v = true := Bool.or_eq_true_iff.mpr (.inl h)
theorem at_of {ns : List Str} {i : Nat} {x : Str} (h : nameAt ns i x = true) : ns[i]? = some x := beq_iff_eq.mp h
theorem in_of {gs : List Str} {x : Str} (h : gs.contains x = true) : x ∈ gs := List.contains_iff_mem.mp h
theorem sub_plain {sl : PySem.Expr} (h : isSlice sl = false) : ∀ o k, subscripted sl false o k = operate [o, k] (getItem o k) := by
  cases sl with
  | Slice => exact nob h.symm
  | _ => intro _ _; rfl
theorem evT_and {e : PySem.Expr} {r : List PySem.Expr} {pos : Pos} {whole : Sem Value} {p : Bool × St} {b : Bool} (h : EvT prog w A c (isTrue e c.env (eval e c.env)) τ p.1 p.2) (k1 : p.1 = true → EvT prog w A c (isTrue (.BoolOp .And r pos) c.env whole) p.2 b τ') (k2 : p.1 = false → (false, p.2) = (b, τ')) :
    EvT prog w A c (isTrue (.BoolOp .And (e :: r) pos) c.env whole) τ b τ' := by
  intro S μ s Q E r k
  obtain ⟨t, τ1⟩ := p
  refine isTrue_and (h S μ s _ E r fun S1 μ1 s1 g1 g2 r1 => ?_)
  cases t with
  | true => exact k1 rfl S1 μ1 s1 Q E r1 (k.mono g1 g2)
  | false => cases k2 rfl; exact k S1 μ1 s1 g1 g2 r1
theorem evT_or {e : PySem.Expr} {r : List PySem.Expr} {pos : Pos} {whole : Sem Value} {p : Bool × St} {b : Bool} (h : EvT prog w A c (isTrue e c.env (eval e c.env)) τ p.1 p.2) (k1 : p.1 = false → EvT prog w A c (isTrue (.BoolOp .Or r pos) c.env whole) p.2 b τ') (k2 : p.1 = true → (true, p.2) = (b, τ')) :
    EvT prog w A c (isTrue (.BoolOp .Or (e :: r) pos) c.env whole) τ b τ' := by
  intro S μ s Q E r k
  obtain ⟨t, τ1⟩ := p
  refine isTrue_or (h S μ s _ E r fun S1 μ1 s1 g1 g2 r1 => ?_)
  cases t with
  | false => exact k1 rfl S1 μ1 s1 Q E r1 (k.mono g1 g2)
  | true => cases k2 rfl; exact k S1 μ1 s1 g1 g2 r1

mutual
theorem ev_ok (Lb : Lib prog w A c n Φ γ) (rm : Room A n) : ∀ (x : X) (e : PySem.Expr) (τ : St) (y : PV) (τ' : St), X.Is c.names c.gs x e = true → ev Φ γ x τ = some (y, τ') → Ev prog w A c (eval e c.env) τ y τ'
  | .none, e, τ, y, τ', hi, h => by
    apply fin h
    obtain ⟨_, rfl⟩ := isK_inv hi
    exact ev_none
  | .bool b, e, τ, y, τ', hi, h => by
    apply fin h
    obtain ⟨_, rfl⟩ := isK_inv hi
    exact ev_bool
  | .int b, e, τ, y, τ', hi, h => by
    apply fin h
    obtain ⟨_, rfl⟩ := isK_inv hi
    exact ev_int
  | .neg b, e, τ, y, τ', hi, h => by
    apply fin h
    apply X.neg_k hi
    intro _ _
    exact ev_neg
  | .str b, e, τ, y, τ', hi, h => by
    apply fin h
    obtain ⟨_, rfl⟩ := isK_inv hi
    exact ev_str
  | .var i, e, τ, y, τ', hi, h => by
    apply X.var_k hi
    intro q hx
    exact fun S μ s Q E r k => look_ok Lb.ok r hx h k
  | .gl q, e, τ, y, τ', hi, h => by
    apply X.gl_k hi
    intro p hx
    obtain ⟨v, h1, h2⟩ := Option.map_eq_some_iff.mp h
    apply finm h2
    exact ev_gl Lb rfl (in_of hx) h1
  | .bin o a b, e, τ, y, τ', hi, h => by
    apply X.bin_k hi
    intro q hi1 hi2
    refine bdk h fun p1 h1 h => bdk h fun p2 h2 h => bdk h fun z h3 h4 => ?_
    apply fin h4
    exact ev_bin Lb.ok (ev_ok Lb rm a _ _ _ _ hi1 h1) (ev_ok Lb rm b _ _ _ _ hi2 h2) h3
  | .cmp o a b, e, τ, y, τ', hi, h => by
    apply X.cmp_k hi
    intro l r p hi1 hi2 hi3
    refine bdk h fun p1 h1 h => bdk h fun p2 h2 h => bdk h fun z h3 h4 => ?_
    apply fin h4
    exact ev_cmp rm (ev_ok Lb rm a _ _ _ _ hi1 h1) (ev_ok Lb rm b _ _ _ _ hi2 h2) h3 hi3
  | .and_ xs, e, τ, y, τ', hi, h => no h
  | .or_ [], e, τ, y, τ', hi, h => no h
  | .or_ [_], e, τ, y, τ', hi, h => no h
  | .or_ (_ :: _ :: _ :: _), e, τ, y, τ', hi, h => no h
  | .or_ [a, b], e, τ, y, τ', hi, h => by
    apply X.or2_k hi
    intro l r p hi1 hi2
    refine bdk h fun p1 h1 h => bdk h fun t h2 h3 => ?_
    exact ev_or (ev_ok Lb rm a _ _ _ _ hi1 h1) h2 (fun q => by subst q; cases h3; exact ⟨rfl, rfl⟩) (fun q => ev_ok Lb rm b _ _ _ _ hi2 (by subst q; exact h3))
  | .not_ a, e, τ, y, τ', hi, h => no h
  | .ite q a b, e, τ, y, τ', hi, h => by
    apply X.ite_k hi
    intro t l r p hi1 hi2 hi3
    refine bdk h fun p1 h1 h2 => ?_
    exact ev_ite (evT_ok Lb rm q _ _ _ _ hi1 h1) (fun q => ev_ok Lb rm a _ _ _ _ hi2 ((if_pos q).symm.trans h2)) (fun q => ev_ok Lb rm b _ _ _ _ hi3 ((if_neg (fun e => Bool.noConfusion (q.symm.trans e))).symm.trans h2))
  | .tup xs, e, τ, y, τ', hi, h => by
    apply X.tup_k hi
    intro es n p hi1
    refine bdk h fun p1 h1 h2 => ifk h2 fun hn h3 => ?_
    apply fin h3
    exact ev_tup Lb.ok (evs_ok Lb rm xs _ _ _ _ hi1 h1 _) hn.1 (noS_iff hn.2)
  | .lst xs, e, τ, y, τ', hi, h => by
    apply X.lst_k hi
    intro es p hi1
    refine bdk h fun p1 h1 h2 => ifk h2 fun hn h3 => ?_
    apply fin h3
    exact ev_lst Lb.ok (evs_ok Lb rm xs _ _ _ _ hi1 h1 _) hn.1 (noS_iff hn.2)
  | .sub a i, e, τ, y, τ', hi, h => by
    apply X.sub_k hi
    intro v s p hns hi1 hi2
    refine bdk h fun p1 h1 h => bdk h fun p2 h2 h => bdk h fun x h3 h => bdk h fun z h4 h5 => ?_
    apply fin h5
    exact ev_sub (ev_subj Lb.ok h1 hi1 fun y τ' hy => ev_ok Lb rm a _ _ _ _ hi1 hy) (ev_ok Lb rm i _ _ _ _ hi2 h2) h3 h4 (sub_plain hns)
  | .slcTo a l, e, τ, y, τ', hi, h => by
    apply X.slcTo_k hi
    intro v u _ _ hi1 hi2
    refine bdk h fun p1 h1 h => bdk h fun p2 h2 h => bdk h fun x h3 h => bdk h fun m h4 h => bdk h fun z h5 h6 => ?_
    apply fin h6
    exact ev_slcTo Lb.ok (ev_subj Lb.ok h1 hi1 fun y τ' hy => ev_ok Lb rm a _ _ _ _ hi1 hy) (intOf_inv h4 ▸ ev_ok Lb rm l _ _ _ _ hi2 h2) h3 h5
  | .slcFrom a l, e, τ, y, τ', hi, h => by
    apply X.slcFrom_k hi
    intro v u _ _ hi1 hi2
    refine bdk h fun p1 h1 h => bdk h fun p2 h2 h => bdk h fun x h3 h => bdk h fun m h4 h => bdk h fun z h5 h6 => ?_
    apply fin h6
    exact ev_slcFrom Lb.ok (ev_subj Lb.ok h1 hi1 fun y τ' hy => ev_ok Lb rm a _ _ _ _ hi1 hy) (intOf_inv h4 ▸ ev_ok Lb rm l _ _ _ _ hi2 h2) h3 h5
  | .slc a l u, e, τ, y, τ', hi, h => by
    apply X.slc_k hi
    intro v q1 q2 _ _ hi1 hi2 hi3
    refine bdk h fun p1 h1 h => bdk h fun p2 h2 h => bdk h fun p3 h2' h => bdk h fun x h3 h => bdk h fun m h4 h => bdk h fun m' h4' h => bdk h fun z h5 h6 => ?_
    apply fin h6
    exact ev_slc Lb.ok (ev_subj Lb.ok h1 hi1 fun y τ' hy => ev_ok Lb rm a _ _ _ _ hi1 hy) (intOf_inv h4 ▸ ev_ok Lb rm l _ _ _ _ hi2 h2) (intOf_inv h4' ▸ ev_ok Lb rm u _ _ _ _ hi3 h2') h3 h5
  | .len a, e, τ, y, τ', hi, h => by
    apply X.len_k hi
    intro x _ _ hg hi1
    refine bdk h fun p1 h1 h => bdk h fun x h3 h => bdk h fun z h5 h6 => ?_
    apply fin h6
    exact ev_len Lb rfl (in_of hg) (star_cons hi1 (by rintro rfl; exact no h1)) (ev_subj Lb.ok h1 hi1 fun y τ' hy => ev_ok Lb rm a _ _ _ _ hi1 hy) h3 h5
  | .bf f xs, e, τ, y, τ', hi, h => by
    apply X.bf_k hi
    intro es _ _ hg hi1 hne
    refine bdk h fun p1 h1 h => bdk h fun z h5 h6 => ?_
    apply fin h6
    exact ev_bf Lb rm rfl (in_of hg) (evs_star xs _ _ _ _ hi1 h1).1 (evs_star xs _ _ _ _ hi1 h1).2 hne (evs_ok Lb rm xs _ _ _ _ hi1 h1 _) h5
  | .call f xs, e, τ, y, τ', hi, h => by
    apply X.call_k hi
    intro es _ _ hg hi1 hne
    refine bdk h fun g h1 h => bdk h fun p1 h2 h => bdk h fun z h5 h6 => ?_
    apply fin h6
    exact ev_call Lb rm rfl (in_of hg) (evs_star xs _ _ _ _ hi1 h2).2 hne h1 (evs_ok Lb rm xs _ _ _ _ hi1 h2 _) h5
  | .mf f o xs, e, τ, y, τ', hi, h => by
    apply X.mf_k hi
    intro m hi1 hi2 hn hc hl hne
    refine bdk h fun p1 h1 h => bdk h fun p2 h2 h => bdk h fun z h5 h6 => ?_
    apply fin h6
    exact ev_mf Lb rm rfl (evs_star xs _ _ _ _ hi2 h2).1 (evs_star xs _ _ _ _ hi2 h2).2 hne hn (attr_ok hc) hl (ev_ok Lb rm o _ _ _ _ hi1 h1) (evs_ok Lb rm xs _ _ _ _ hi2 h2 _) h5
  | .read o k, e, τ, y, τ', hi, h => by
    apply X.read_k hi
    intro m x hi1 hi2 hc hl
    refine bdk h fun p1 h1 h => bdk h fun p2 h2 h => bdk h fun z h5 h6 => ?_
    apply fin h6
    exact ev_read Lb rm rfl (star_cons hi2 (ev_any h2)) (attr_ok (nm_nmC hc)) hl (ev_ok Lb rm o _ _ _ _ hi1 h1) (ev_ok Lb rm k _ _ _ _ hi2 h2) h5
  | .compSub it j, e, τ, y, τ', hi, h => by
    apply X.compSub_k hi
    intro cp hi1 hs
    refine bdk h fun i h0 h => bdk h fun hh h1 h => bdk h fun x h2 h => bdk h fun xs h3 h => ifk h fun hq h => ?_
    obtain ⟨zs, h4, h5⟩ := Option.map_eq_some_iff.mp h
    cases varOf_inv h0
    rw [lOf_inv h3] at h2
    apply finm h5
    apply X.var_k (P := fun e => Ev prog w A c (eval (.ListComp (.Subscript (.Name cp.x.1 cp.x.2) (.Constant (.int j) cp.k.1 cp.k.2) cp.p) [⟨.Name cp.x.1 cp.y, e, [], 0⟩] cp.sc cp.pos) c.env) τ (.list zs) τ) hi1
    intro nm hx
    exact ev_compSub Lb rm (scopeOk_fit hs) hx h1 h2 hq h4
  | .compOrd it, e, τ, y, τ', hi, h => by
    apply X.compOrd_k hi
    intro cp hi1 hs hg
    refine bdk h fun p1 h1 h => bdk h fun q h2 h => ifk h fun hq h3 => ?_
    apply fin h3
    exact ev_compOrd Lb rm (scopeOk_fit hs) rfl hg (sOf_inv h2 ▸ ev_ok Lb rm it _ _ _ _ hi1 h1) (folded_ok hi1 (ev_any h1)) hq
  | .compAdd l it, e, τ, y, τ', hi, h => by
    apply X.compAdd_k hi
    intro cp hl hc hne hi1 hs hfr
    refine bdk h fun i h0 h => bdk h fun hh h1 h => bdk h fun x h2 h => bdk h fun xs h3 h => bdk h fun q h6 h => ifk h fun hq h => ?_
    obtain ⟨zs, h4, h5⟩ := Option.map_eq_some_iff.mp h
    cases varOf_inv h0
    rw [lOf_inv h3] at h2
    apply finm h5
    apply X.var_k (P := fun e => Ev prog w A c (eval (.ListComp (.BinOp (.Name cp.l.1 cp.l.2) .Add (.Name cp.x.1 cp.x.2) cp.p) [⟨.Name cp.x.1 cp.y, e, [], 0⟩] cp.sc cp.pos) c.env) τ (.list zs) τ) hi1
    intro nm hx
    exact ev_compAdd Lb rm (scopeOk_fit hs) hfr (in_of hc) hne (at_of hl) (strAt_inv h6) hx h1 h2 hq h4
  | .any, e, τ, y, τ', hi, h => no h
theorem evs_ok (Lb : Lib prog w A c n Φ γ) (rm : Room A n) : ∀ (xs : List X) (es : List PySem.Expr) (τ : St) (ys : List PV) (τ' : St), X.Iss c.names c.gs xs es = true → evs Φ γ xs τ = some (ys, τ') → ∀ pos, Evs prog w A c (spliced (backTo pos (starEach es c.env))) τ ys τ'
  | [], es, τ, ys, τ', hi, h, pos => by
    apply fin h
    cases List.isEmpty_iff.mp hi
    exact evs_nil
  | x :: xs, es, τ, ys, τ', hi, h, pos => by
    apply X.cons_k hi
    intro e r hi1 hi2
    refine bdk h fun p1 h1 h => bdk h fun p2 h2 h3 => ?_
    apply fin h3
    exact evs_cons (star_cons hi1 (ev_any h1)) (ev_ok Lb rm x _ _ _ _ hi1 h1) (evs_ok Lb rm xs _ _ _ _ hi2 h2 pos)
theorem evT_ok (Lb : Lib prog w A c n Φ γ) (rm : Room A n) : ∀ (x : X) (e : PySem.Expr) (τ : St) (b : Bool) (τ' : St), X.Is c.names c.gs x e = true → evT Φ γ x τ = some (b, τ') → EvT prog w A c (isTrue e c.env (eval e c.env)) τ b τ'
  | .not_ a, e, τ, b, τ', hi, h => by
    apply X.not_k hi
    intro v p hi1
    obtain ⟨t, h1, h2⟩ := Option.map_eq_some_iff.mp h
    apply finm h2
    exact evT_not (evT_ok Lb rm a _ _ _ _ hi1 h1)
  | .and_ xs, e, τ, b, τ', hi, h => by
    apply X.and_k hi
    intro es p hi1
    exact evAll_ok Lb rm xs _ _ _ _ hi1 h _ _
  | .or_ xs, e, τ, b, τ', hi, h => by
    apply X.or_k hi
    intro es p hi1
    exact evAny_ok Lb rm xs _ _ _ _ hi1 h _ _
  | .cmp o a b', e, τ, b, τ', hi, h => by
    apply X.cmp_k hi
    intro l r p hi1 hi2 hi3
    refine bdk h fun p1 h1 h => bdk h fun p2 h2 h => bdk h fun z h3 h4 => ?_
    apply fin h4
    exact evT_cmp rm (ev_ok Lb rm a _ _ _ _ hi1 h1) (ev_ok Lb rm b' _ _ _ _ hi2 h2) h3 hi3
  | .var i, e, τ, b, τ', hi, h => by
    apply X.var_k hi
    intro q hx
    refine bdk h fun hh h1 h => bdk h fun x h2 h => bdk h fun t h3 h4 => ?_
    apply fin h4
    exact evT_peek (fun S μ s Q E r k => peek_ok Lb.ok r hx h1 fun v hv => k v S μ s (.refl _) (.refl _) r hv) h2 h3 rfl
  | .bf f xs, e, τ, b, τ', hi, h => by
    apply X.bf_k hi
    intro es _ _ hg hi1 hne
    refine bdk h fun p1 h1 h => bdk h fun z h5 h => bdk h fun t h6 h7 => ?_
    apply fin h7
    exact evT_plain (ev_bf Lb rm rfl (in_of hg) (evs_star xs _ _ _ _ hi1 h1).1 (evs_star xs _ _ _ _ hi1 h1).2 hne (evs_ok Lb rm xs _ _ _ _ hi1 h1 _) h5) h6 rfl
  | .call f xs, e, τ, b, τ', hi, h => by
    apply X.call_k hi
    intro es _ _ hg hi1 hne
    refine bdk h fun g h1 h => bdk h fun p1 h2 h => bdk h fun z h5 h => bdk h fun t h6 h7 => ?_
    apply fin h7
    exact evT_plain (ev_call Lb rm rfl (in_of hg) (evs_star xs _ _ _ _ hi1 h2).2 hne h1 (evs_ok Lb rm xs _ _ _ _ hi1 h2 _) h5) h6 rfl
  | .mf f o xs, e, τ, b, τ', hi, h => by
    apply X.mf_k hi
    intro m hi1 hi2 hn hc hl hne
    refine bdk h fun p1 h1 h => bdk h fun p2 h2 h => bdk h fun z h5 h => bdk h fun t h6 h7 => ?_
    apply fin h7
    exact evT_plain (ev_mf Lb rm rfl (evs_star xs _ _ _ _ hi2 h2).1 (evs_star xs _ _ _ _ hi2 h2).2 hne hn (attr_ok hc) hl (ev_ok Lb rm o _ _ _ _ hi1 h1) (evs_ok Lb rm xs _ _ _ _ hi2 h2 _) h5) h6 rfl
  | .none, e, τ, b, τ', hi, h => no h
  | .bool _, e, τ, b, τ', hi, h => no h
  | .int _, e, τ, b, τ', hi, h => no h
  | .neg _, e, τ, b, τ', hi, h => no h
  | .str _, e, τ, b, τ', hi, h => no h
  | .gl _, e, τ, b, τ', hi, h => no h
  | .bin _ _ _, e, τ, b, τ', hi, h => no h
  | .ite _ _ _, e, τ, b, τ', hi, h => no h
  | .tup _, e, τ, b, τ', hi, h => no h
  | .lst _, e, τ, b, τ', hi, h => no h
  | .sub _ _, e, τ, b, τ', hi, h => no h
  | .slcTo _ _, e, τ, b, τ', hi, h => no h
  | .slcFrom _ _, e, τ, b, τ', hi, h => no h
  | .slc _ _ _, e, τ, b, τ', hi, h => no h
  | .len _, e, τ, b, τ', hi, h => no h
  | .read _ _, e, τ, b, τ', hi, h => no h
  | .compSub _ _, e, τ, b, τ', hi, h => no h
  | .compOrd _, e, τ, b, τ', hi, h => no h
  | .compAdd _ _, e, τ, b, τ', hi, h => no h
  | .any, e, τ, b, τ', hi, h => no h
theorem evAll_ok (Lb : Lib prog w A c n Φ γ) (rm : Room A n) : ∀ (xs : List X) (es : List PySem.Expr) (τ : St) (b : Bool) (τ' : St), X.Iss c.names c.gs xs es = true → evAll Φ γ xs τ = some (b, τ') → ∀ pos whole, EvT prog w A c (isTrue (.BoolOp .And es pos) c.env whole) τ b τ'
  | [], es, τ, b, τ', hi, h, pos, whole => by
    apply fin h
    cases List.isEmpty_iff.mp hi
    exact fun S μ s Q E r k => isTrue_and_nil (k S μ s (.refl _) (.refl _) r)
  | x :: xs, es, τ, b, τ', hi, h, pos, whole => by
    apply X.cons_k hi
    intro e r hi1 hi2
    refine bdk h fun p1 h1 h2 => ?_
    exact evT_and (evT_ok Lb rm x _ _ _ _ hi1 h1) (fun q => evAll_ok Lb rm xs _ _ _ _ hi2 ((if_pos q).symm.trans h2) pos whole) (fun q => Option.some.inj ((if_neg (fun e => Bool.noConfusion (q.symm.trans e))).symm.trans h2))
theorem evAny_ok (Lb : Lib prog w A c n Φ γ) (rm : Room A n) : ∀ (xs : List X) (es : List PySem.Expr) (τ : St) (b : Bool) (τ' : St), X.Iss c.names c.gs xs es = true → evAny Φ γ xs τ = some (b, τ') → ∀ pos whole, EvT prog w A c (isTrue (.BoolOp .Or es pos) c.env whole) τ b τ'
  | [], es, τ, b, τ', hi, h, pos, whole => by
    apply fin h
    cases List.isEmpty_iff.mp hi
    exact fun S μ s Q E r k => isTrue_or_nil (k S μ s (.refl _) (.refl _) r)
  | x :: xs, es, τ, b, τ', hi, h, pos, whole => by
    apply X.cons_k hi
    intro e r hi1 hi2
    refine bdk h fun p1 h1 h2 => ?_
    exact evT_or (evT_ok Lb rm x _ _ _ _ hi1 h1) (fun q => evAny_ok Lb rm xs _ _ _ _ hi2 ((if_neg (fun e => Bool.noConfusion (q.symm.trans e))).symm.trans h2) pos whole) (fun q => Option.some.inj ((if_pos q).symm.trans h2))
end
end
end Mine
end
noncomputable section
open PySem PySem.W PyProof.Rows PySem.Calls
set_option Elab.async false
set_option linter.unusedVariables false
set_option maxRecDepth 100000
namespace Mine

section
variable {prog : Program} {w : World} {A : Around} {c : FC} {S S' : PH} {μ μ' : List Addr} {τ τ1 τ2 τ3 τ' : St} {s : Shared} {n : Nat} {Φ : Fns} {γ : String → Option PV}

theorem FrS.sameBut {env : Env} {h h' : Heap} {vals} {a : Addr} (f : FrS env h vals) (hs : Heap.SameBut a h h') (h1 : a ≠ env.locals) (h2 : ∀ p ∈ env.cells, p.2 ≠ a) : FrS env h' vals :=
  ⟨let ⟨m, x, y⟩ := f.ns; ⟨m, x.sameBut hs (Ne.symm h1), y⟩, fun x k hx hk => (f.cell x k hx hk).sameBut hs (h2 _ (mem_of_lookup hk))⟩

/-- a new list, open to change -/
theorem R.newB (r : R c S μ τ s) (ok : c.Ok) {vs : List Value} {xs : List PV} (hv : VRs S μ vs xs) (ns : NoS xs) (m : Nat) {d : Drawn} {tk : Nat} :
    R c S (μ ++ [s.heap.objs.size]) ⟨τ.loc, τ.mem ++ [.lst xs]⟩ ⟨s.heap.push (listObj vs m), s.gens, d, tk, s.os⟩ := by
  have hS := r.S_new
  have hp : Pre μ (μ ++ [s.heap.objs.size]) := .app _ _
  have e : Ext s.heap (s.heap.push (listObj vs m)) := Ext.push _ _
  have live : ∀ {a}, IsLive (μ ++ [s.heap.objs.size]) (τ.mem ++ [.lst xs]) a → IsLive μ τ.mem a ∨ a = s.heap.objs.size := fun {a} ⟨k, h1, cl, h2, h3⟩ => by
    by_cases q : k < μ.length
    · rw [List.getElem?_append_left q] at h1
      rw [List.getElem?_append_left (by rw [← r.g.len]; exact q)] at h2
      exact .inl ⟨k, h1, cl, h2, h3⟩
    · rw [List.getElem?_append_right (by omega)] at h1
      have : k - μ.length = 0 := by have := (List.getElem?_eq_some_iff.mp h1).1; simp at this; omega
      rw [this] at h1; simp at h1; exact .inr h1.symm
  refine ⟨⟨fun a o q => e _ _ (r.g.keepS a o q), r.g.baseS, by simp [r.g.len], ?_, ?_, r.g.gens, r.g.os_⟩, ?_, r.len, ?_, r.KS, ?_, r.FK, r.FS, ?_⟩
  · intro k a cl h1 h2
    by_cases q : k < μ.length
    · rw [List.getElem?_append_left q] at h1
      rw [List.getElem?_append_left (by rw [← r.g.len]; exact q)] at h2
      refine (r.g.mutR k a cl h1 h2).keep (.refl _) hp (fun _ => id) fun hn => ?_
      obtain ⟨_, o, ho⟩ := (r.g.mutR k a cl h1 h2).here hn
      exact (e _ _ ho).trans ho.symm
    · rw [List.getElem?_append_right (by omega)] at h1
      rw [List.getElem?_append_right (by rw [← r.g.len]; omega)] at h2
      have : k - μ.length = 0 := by have := (List.getElem?_eq_some_iff.mp h1).1; simp at this; omega
      rw [this] at h1; rw [← r.g.len, this] at h2
      simp at h1 h2; subst h1 h2
      exact ⟨hS, vs, m, Heap.get?_push_size _ rfl, hv.mono (.refl _) hp, ns⟩
  · intro j k a h1 h2
    obtain ⟨p1, c1, q1, n1⟩ := h1
    obtain ⟨p2, c2, q2, n2⟩ := h2
    have key : ∀ {j a cl}, (μ ++ [s.heap.objs.size])[j]? = some a → (τ.mem ++ [MCell.lst xs])[j]? = some cl → cl ≠ .dead → (j < μ.length ∧ Live μ τ.mem j a) ∨ (j = μ.length ∧ a = s.heap.objs.size) := fun {j a cl} h1 h2 h3 => by
      by_cases q : j < μ.length
      · rw [List.getElem?_append_left q] at h1
        rw [List.getElem?_append_left (by rw [← r.g.len]; exact q)] at h2
        exact .inl ⟨q, h1, cl, h2, h3⟩
      · rw [List.getElem?_append_right (by omega)] at h1
        have : j - μ.length = 0 := by have := (List.getElem?_eq_some_iff.mp h1).1; simp at this; omega
        rw [this] at h1; simp at h1; exact .inr ⟨by omega, h1.symm⟩
    rcases key p1 q1 n1 with ⟨_, l1⟩ | ⟨e1, l1⟩ <;> rcases key p2 q2 n2 with ⟨_, l2⟩ | ⟨e2, l2⟩
    · exact r.g.inj j k a l1 l2
    · exact absurd (l2 ▸ r.g.lt ⟨j, l1⟩) (Nat.lt_irrefl _)
    · exact absurd (l1 ▸ r.g.lt ⟨k, l2⟩) (Nat.lt_irrefl _)
    · omega
  · obtain ⟨vals, hf, hl⟩ := r.frm
    exact ⟨vals, hf.ext e, fun i x sl h1 h2 => (hl i x sl h1 h2).mono (.refl _) hp⟩
  · exact fun a o q => let ⟨o', h1, h2⟩ := r.keepK a o q; ⟨o', e _ _ h1, h2⟩
  · intro a o q hl
    rcases live hl with h | h
    · exact r.KM a o q h
    · exact Nat.lt_irrefl _ (h ▸ r.K_lt q)
  · intro a q hl
    rcases live hl with h | h
    · exact r.FM a q h
    · exact Nat.lt_irrefl _ (h ▸ r.faLt ok q)

/-- a list that is open to change, changed -/
theorem R.mutL (r : R c S μ τ s) {k : Nat} {a : Addr} {xs xs' : List PV} (ha : μ[k]? = some a) (hm : τ.mem[k]? = some (.lst xs)) {h' : Heap} (hs : Heap.SameBut a s.heap h') {vs : List Value} {m : Nat} (ho : h'.get? a = some (listObj vs m))
    (hv : VRs S μ vs xs') (ns : NoS xs') {d : Drawn} {tk : Nat} : R c S μ ⟨τ.loc, τ.mem.set k (.lst xs')⟩ ⟨h', s.gens, d, tk, s.os⟩ := by
  have hlive : Live μ τ.mem k a := ⟨ha, _, hm, fun e => by cases e⟩
  have hSa : S a = none := (r.g.live ⟨k, hlive⟩).1
  have hk : k < τ.mem.length := (List.getElem?_eq_some_iff.mp hm).1
  have back : ∀ {j b}, Live μ (τ.mem.set k (.lst xs')) j b → Live μ τ.mem j b := fun {j b} ⟨h1, cl, h2, h3⟩ => by
    by_cases q : j = k
    · subst q; exact ⟨h1, _, hm, fun e => by cases e⟩
    · rw [List.getElem?_set_ne (Ne.symm q)] at h2; exact ⟨h1, cl, h2, h3⟩
  have hFa : a ∉ c.fa := fun q => r.FM a q ⟨k, hlive⟩
  refine ⟨⟨fun b o q => (hs.2 b fun e => by rw [e, hSa] at q; cases q).trans (r.g.keepS b o q), r.g.baseS, by rw [List.length_set]; exact r.g.len, ?_, fun i j b h1 h2 => r.g.inj i j b (back h1) (back h2), r.g.gens, r.g.os_⟩, ?_, r.len, ?_, r.KS, ?_, r.FK, r.FS, ?_⟩
  · intro j b cl h1 h2
    by_cases q : j = k
    · subst q
      rw [ha] at h1; cases h1
      rw [List.getElem?_set_self hk] at h2; cases h2
      exact ⟨hSa, vs, m, ho, hv, ns⟩
    · rw [List.getElem?_set_ne (Ne.symm q)] at h2
      refine (r.g.mutR j b cl h1 h2).keep (.refl _) (.refl _) (fun _ => id) fun hn => hs.2 b fun e => ?_
      subst e
      exact q (r.g.inj j k b ⟨h1, cl, h2, hn⟩ hlive)
  · obtain ⟨vals, hf, hl⟩ := r.frm
    refine ⟨vals, hf.sameBut hs (fun e => hFa (e ▸ List.mem_cons_self ..)) (fun p hp e => hFa (e ▸ List.mem_cons_of_mem _ (List.mem_map_of_mem (f := (·.2)) hp))), hl⟩
  · exact fun b o q => let ⟨o', h1, h2⟩ := r.keepK b o q; ⟨o', (hs.2 b fun e => r.KM b o q (e ▸ ⟨k, hlive⟩)).trans h1, h2⟩
  · exact fun b o q ⟨j, hl⟩ => r.KM b o q ⟨j, back hl⟩
  · exact fun b q ⟨j, hl⟩ => r.FM b q ⟨j, back hl⟩

/-! `+=` of lists -/
theorem list_iaddW (l : Addr) (items : Array Value) (n : Nat) (b : Addr) (items2 : Array Value) (n2 : Nat) (dd2 : Option Addr) (sl2 : Array (Option Value)) (hs0 : ¬(!items.isEmpty && Builtin.List.listTooLong (items.size + items2.size)) = true) (hs1 : items.size ≤ sizeLine) (hs2 : items.size + items2.size ≤ sizeLine + 1) :
    Meets (Builtin.«list.__iadd__» ⟨[.ref l, .ref b], []⟩) (fun _ R s => s.heap.get? l = some { cls := .type "list", dict := none, data := .seq items n, slots := #[] } ∧ s.heap.get? b = some { cls := .type "list", dict := dd2, data := .seq items2 n2, slots := sl2 } ∧ R (.ok (.ret (Value.ref l))) { s with heap := s.heap.update l (Obj.mapSeq fun x => x ++ items2), toks := s.toks }) :=
  .of_wp fun prog w A R s h => by
    obtain ⟨hp, g, d, tk, os⟩ := s; obtain ⟨hl, hb, h⟩ := h; have f1 := AutoSeq1.idx_int; have f2 := AutoSeq1.sub_tuple_tuple; have f3 := AutoSeq1.sub_list_list; have f4 := AutoSeq1.sub_tuple_list; have f5 := AutoSeq1.sub_list_tuple;
    have hz' : (items ++ items2).size ≤ sizeLine + 1 := by rw [Array.size_append]; exact hs2
    wp_walk using (wpAny_updateSeq hl rfl (hz := hs1) (_hz' := hz')), wpAny_loadPart' hl, wpAny_loadPart' hb; exact ⟨_, rfl, h⟩

theorem iadd_lo {E : Value → Shared → Prop} {a b : Addr} {o2 : Obj} {vs ws : List Value} {m : Nat} {Q : Value → Shared → Prop} (ha : s.heap.get? a = some (listObj vs m)) (hb : s.heap.get? b = some o2) (qb : IsLO o2 ws) (hz : vs.length + ws.length ≤ lid)
    (k : ∀ h' m', Heap.SameBut a s.heap h' → h'.get? a = some (listObj (vs ++ ws) m') → Q (.ref a) { s with heap := h' }) : wpAny (model prog w) A (inplaceOp .Add (.ref a) (.ref b)) Q E s := by
  have hz : vs.length + ws.length ≤ 1000000 := hz
  have h6 := sizeLine_eq
  obtain ⟨c2, d2, dt2, sl2⟩ := o2
  obtain ⟨h3, n2, h4⟩ := qb
  simp only at h3 h4
  subst h3 h4
  have hta : s.TypeIs (.ref a) "list" := ⟨_, ha, rfl⟩
  have htb : s.TypeIs (.ref b) "list" := ⟨_, hb, rfl⟩
  have hsi : seqSlot? (.type "list") (dunderI "add") = pure (some (.builtin "list.__iadd__")) := PySem.seqSlot_of F.slot_list_iadd.lookup (by decide +kernel)
  have hfi : fillsInplaceSlot (.type "list") "add" (Operator.Add == .Add) = pure false := by
    unfold fillsInplaceSlot
    show (typeLookup (.type "list") (dunderI "add") >>= fun fi => pure (fi.isSome && !isSeqSlot fi)) = pure false
    rw [F.slot_list_iadd.lookup, pure_bind]
    have : isSeqSlot (some (.builtin "list.__iadd__")) = true := by decide +kernel
    rw [this]; rfl
  unfold inplaceOp
  refine wpAny_holding ?_
  refine wpAny_bind (wpAny_typeOf hta (wpAny_bind (wpAny_of_eq hfi ?_)))
  show wpAny _ A (if false = true then _ else _) Q E s
  rw [if_neg Bool.false_ne_true]
  refine wpAny_bind (PySem.wpAny_binaryOp1_none (nm := "add") hta htb noFill_list_add ?_)
  refine wpAny_bind (wpAny_of_eq hsi ?_)
  refine wpAny_bind (wpAny_rule ?_)
  refine call_meets F.slot_list_iadd hta F.entry_list_iadd (F.args_list_iadd_2 _ _) (list_iaddW a vs.toArray m b ws.toArray n2 d2 sl2 (by simp [Builtin.List.listTooLong]; intro _; omega) (by simp; omega) (by simp; omega)) ⟨ha, hb, ?_⟩
  obtain ⟨m', e⟩ : ∃ m', Obj.mapSeq (fun x => x ++ ws.toArray) (listObj vs m) = listObj (vs ++ ws) m' :=
    ⟨if (vs.toArray ++ ws.toArray).size == vs.toArray.size then m else m + 1, by
      have e : vs.toArray ++ ws.toArray = (vs ++ ws).toArray := List.append_toArray ..
      exact congrArg (fun q => ({ cls := .type "list", dict := Option.none, data := .seq q (if (vs.toArray ++ ws.toArray).size == vs.toArray.size then m else m + 1), slots := #[] } : Obj)) e⟩
  refine k _ m' (Heap.SameBut.update ..) ?_
  rw [Heap.get?_update_self _ ha (by rw [e]; rfl), e]

/-! names bound -/
theorem setV_eq {i : Nat} {x : PV} (h : setV i x τ = some τ') : τ' = ⟨τ.loc.set i (.val x), τ.mem⟩ := by
  unfold setV at h; split at h <;> cases h; rfl
theorem bind_one {E : Value → Shared → Prop} (ok : c.Ok) (r : R c S μ τ s) {i : Nat} {nm : Str} {pos : Pos} {v : Value} {x : PV} (hn : c.names[i]? = some nm) (hv : VR S μ v x) (h : setV i x τ = some τ') {Q : Unit → Shared → Prop} (k : ∀ s', R c S μ τ' s' → Q () s') :
    wpAny (model prog w) A (assign (.Name nm pos) c.env v) Q E s := by
  cases setV_eq h
  exact wpAny_assign_Name (store_ok (sl := .val x) ok r hn ⟨v, rfl, hv⟩ fun s' r' => k s' r')
theorem bind_all {E : Value → Shared → Prop} (ok : c.Ok) : ∀ {is : List Nat} {es : List PySem.Expr} {vs : List Value} {xs : List PV} {τ : St} {s : Shared}, namesAre c.names is es = true → R c S μ τ s → VRs S μ vs xs → setAll is xs τ = some τ' → ∀ {Q : Unit → Shared → Prop}, (∀ s', R c S μ τ' s' → Q () s') →
    wpAny (model prog w) A (assignInOrder ((assignEach es c.env).map (·.2)) vs) Q E s
  | [], es, vs, xs, τ, s, hn, r, hv, h, Q, k => by
    cases List.isEmpty_iff.mp hn
    cases xs with
    | nil => cases hv.sh; cases h; exact wpAny_pure (k s r)
    | cons => exact no h
  | i :: is, es, vs, xs, τ, s, hn, r, hv, h, Q, k => by
    obtain ⟨x, p, es, rfl, hn1, hn2⟩ := namesAre_cons hn
    cases xs with
    | nil => exact no h
    | cons y ys =>
      obtain ⟨v, vs, rfl, h1, h2⟩ := hv.sh
      obtain ⟨τ1, h3, h4⟩ := bd h
      exact wpAny_bind (wpAny_holding (bind_one ok r (beq_iff_eq.mp hn1) h1 h3 fun s' r' => bind_all ok hn2 r' h2 h4 k))
theorem names_each {ns : List Str} {env : Env} : ∀ {is : List Nat} {es : List PySem.Expr}, namesAre ns is es = true → (assignEach es env).length = is.length ∧ (assignEach es env).findIdx? (·.1) = none
  | [], es, h => by
    cases List.isEmpty_iff.mp h; exact ⟨rfl, rfl⟩
  | i :: is, es, h => by
    obtain ⟨x, p, es, rfl, hn1, hn2⟩ := namesAre_cons h
    obtain ⟨h1, h2⟩ := names_each (env := env) hn2
    refine ⟨congrArg (· + 1) h1, ?_⟩
    show List.findIdx? (·.1) ((false, _) :: assignEach _ env) = none
    rw [List.findIdx?_cons, h2]; rfl
theorem setAll_len : ∀ {is : List Nat} {xs : List PV} {τ : St}, setAll is xs τ = some τ' → is.length = xs.length
  | [], [], _, _ => rfl
  | [], _ :: _, _, h => no h
  | _ :: _, [], _, h => no h
  | i :: is, x :: xs, τ, h => by
    obtain ⟨τ1, _, h4⟩ := bd h
    exact congrArg (· + 1) (setAll_len h4)
theorem size_ext {h h' : Heap} (e : Heap.ExtBut h.objs.size h h') : Ext h h' := fun a o q => e a o (Nat.ne_of_lt (Heap.lt_size q)) q
theorem bind_tup {E : Value → Shared → Prop} (ok : c.Ok) (rm : Room A n) (r : R c S μ τ s) {is : List Nat} {es : List PySem.Expr} {kk : Nat} {pos : Pos} {v : Value} {x : PV} (hn : namesAre c.names is es = true) (hv : VR S μ v x) (h : setT is x τ = some τ')
    {Q : Unit → Shared → Prop} (k : ∀ s', R c S μ τ' s' → Q () s') : wpAny (model prog w) A (assign (.Tuple es kk pos) c.env v) Q E s := by
  cases x with
  | tup xs =>
    obtain ⟨_, _, _, rfl, e, h2, _⟩ := hv.sh
    obtain ⟨k1, k2⟩ := names_each (env := c.env) hn
    have hl := setAll_len h
    refine wpAny_assign_Tuple rm.handled (isTuple_of (r.g.keepS _ _ e)) (by rw [k1, hl, ← h2.length]; exact (List.size_toArray).symm) k2 fun h' hx => ?_
    exact bind_all ok hn (r.ext (size_ext hx)) h2 h k
  | _ => exact no h

theorem fm2 {α β : Type} {f : α → Option β} {a b : α} {x y : β} (h1 : f a = some x) (h2 : f b = some y) : [a, b].filterMap f = [x, y] := by
  rw [List.filterMap_cons_some h1, List.filterMap_cons_some h2]; rfl
theorem any_star (l : List PySem.Expr) : (l.any fun | .Starred .. => true | _ => false) = l.any isStar := congrArg l.any (funext fun e => by cases e <;> rfl)
theorem swapped_eq {env : Env} (hk : env.scope.kind = .function) {p q : Str × Pos} {tp vp : Pos} {a b : PySem.Expr} {k1 k2 : Nat} (hx : env.kindOf p.1 = some .local) (hy : env.kindOf q.1 = some .local)
    (hl : p.2.line = q.2.line) (hne : p.1 ≠ q.1) (h5 : (foldedForSure 8 a && foldedForSure 8 b) = false) (h6 : (constantsAlone 8 a && constantsAlone 8 b) = false) (h7 : isStar a = false) (h8 : isStar b = false) :
    swappedStores [.Tuple [.Name p.1 p.2, .Name q.1 q.2] k1 tp] (.Tuple [a, b] k2 vp) env = pure (some [p.1, q.1]) := by
  have hb : env.blockKind = .function := by unfold Env.blockKind; rw [hk]; rfl
  have st : ([a, b].any fun | .Starred .. => true | _ => false) = false := by
    refine (any_star [a, b]).trans ?_
    show (isStar a || (isStar b || false)) = false
    rw [h7, h8]; rfl
  have he : [p.1, q.1].eraseDups = [p.1, q.1] := by
    have : (q.1 == p.1) = false := beq_eq_false_iff_ne.mpr (Ne.symm hne)
    rw [List.eraseDups_cons, List.filter_cons, this]; rfl
  have hnm : [PySem.Expr.Name p.1 p.2, PySem.Expr.Name q.1 q.2].filterMap (fun
    | .Name id pos => if env.kindOf id == some .local && pos.line == p.2.line then some id else none
    | _ => none) = [p.1, q.1] := by
    have k1 : (if env.kindOf p.1 == some .local && p.2.line == p.2.line then some p.1 else none) = some p.1 := by rw [hx, beq_self_eq_true p.2.line]; rfl
    have k2 : (if env.kindOf q.1 == some .local && q.2.line == p.2.line then some q.1 else none) = some q.1 := by rw [hy, hl, beq_self_eq_true q.2.line]; rfl
    exact fm2 k1 k2
  unfold swappedStores
  refine (if_neg ?_).trans ?_
  · rw [hb]; exact Bool.false_ne_true
  refine (if_neg (fun hh => Bool.false_ne_true (st.symm.trans hh))).trans ?_
  show (if ((_ : List Str).length != 2 || _) = true then _ else _) = _
  erw [hnm]
  refine (if_neg ?_).trans ?_
  · rw [he]; exact Bool.false_ne_true
  refine (if_neg ?_).trans ?_
  · intro hh; rw [← Bool.and_true (foldedForSure 8 b), ] at h5; exact Bool.false_ne_true (h5.symm.trans hh)
  refine (if_neg ?_).trans rfl
  intro hh; rw [← Bool.and_true (constantsAlone 8 b)] at h6; exact Bool.false_ne_true (h6.symm.trans hh)

theorem bind_swap {E : Value → Shared → Prop} (ok : c.Ok) (rm : Room A n) (r : R c S μ τ s) {i j : Nat} (hij : i ≠ j) {x y : Str} {v : Value} {z : PV} (hx : c.names[i]? = some x) (hy : c.names[j]? = some y) (hv : VR S μ v z) (h : setT [i, j] z τ = some τ')
    {Q : Unit → Shared → Prop} (k : ∀ s', R c S μ τ' s' → Q () s') : wpAny (model prog w) A (unpackItems v [x, y].length none) (fun items s₂ => wpAny (model prog w) A (assignInOrder ([x, y].reverse.map fun n => bindName c.env n) items.reverse) Q E s₂) E s := by
  cases z with
  | tup zs =>
    obtain ⟨a, vs, m, rfl, e, h2, _⟩ := hv.sh
    obtain ⟨z1, z2, rfl⟩ : ∃ z1 z2, zs = [z1, z2] := by
      have hl := setAll_len h
      cases zs with
      | nil => cases hl
      | cons z1 t => cases t with
        | nil => cases hl
        | cons z2 t => cases t with
          | nil => exact ⟨z1, z2, rfl⟩
          | cons => cases hl
    obtain ⟨v1, v2, rfl, h3, h4⟩ := two_v h2
    obtain ⟨τ1, h5, h⟩ := bd h
    obtain ⟨τ2, h6, h7⟩ := bd h
    cases h7
    have e5 := setV_eq h5
    have e6 := setV_eq h6
    subst e5
    refine wpAny_mono (wpAny_unpackItems_tuple (items := #[v1, v2]) rm.handled (isTuple_of (r.g.keepS _ _ e)) fun h' hx' => ?_) (fun _ _ h => h) fun _ _ h => h
    have r' := r.ext (size_ext hx') (d := s.drawn) (tk := s.toks)
    refine wpAny_bind (wpAny_holding (wpAny_bindName (store_ok (sl := .val z2) ok r' hy ⟨v2, rfl, h4⟩ fun s1 r1 => ?_)))
    refine wpAny_bind (wpAny_holding (wpAny_bindName (store_ok (sl := .val z1) ok r1 hx ⟨v1, rfl, h3⟩ fun s2 r2 => wpAny_pure (k s2 ?_))))
    rw [e6]
    show R c S μ ⟨(τ.loc.set i (.val z1)).set j (.val z2), τ.mem⟩ s2
    rw [List.set_comm _ _ hij]
    exact r2
  | _ => exact no h

/-! lists changed in place -/
theorem app_ok {E : Value → Shared → Prop} (ok : c.Ok) (rm : Room A n) (r : R c S μ τ s) {i : Nat} {nm at' : Str} {e : PySem.Expr} {p1 p2 p3 p4 : Pos} (hn : c.names[i]? = some nm) (hat : at' = Str.ofString "append") (hl : (p2.endLine == p3.line) = true)
    (hst : starEach [e] c.env = [(false, eval e c.env)]) {f : St → Option (PV × St)} (he : ∀ y τ1, f τ = some (y, τ1) → Ev prog w A c (eval e c.env) τ y τ1) (h : appV i τ f = some τ') {Q : Flow → Shared → Prop}
    (k : ∀ S' μ' s', Sub S S' → Pre μ μ' → R c S' μ' τ' s' → Q .next s') : wpAny (model prog w) A (exec (.Expr (.Call (.Attribute (.Name nm p1) at' p2) [e] [] p3) p4) c.env) Q E s := by
  subst hat
  have hi : interactive c.env = false := by unfold interactive; rw [ok.kind]; rfl
  obtain ⟨kk, hs, h⟩ := bd h
  obtain ⟨xs0, hm0, h⟩ := bd h
  obtain ⟨⟨y, τ1⟩, h1, h⟩ := bd h
  obtain ⟨xs, hm, h⟩ := bd h
  obtain ⟨hz, h⟩ := gd_inv h
  subst h
  have hz1 : xs.length + 1 ≤ 1000000 := hz.1
  have h6 := sizeLine_eq
  obtain ⟨vals, hf, a, ha, hu⟩ := r.slot hn (bldAt_inv hs)
  obtain ⟨hS0, vs0, m0, ho0, hv0, hns0⟩ := r.g.mutR kk a _ ha (lstAt_inv hm0)
  refine wpAny_Expr ?_ hi rfl
  refine wpAny_Call_method_lateS rfl (by rw [hst]; rfl) hl (name_ok ok r hn hf hu ?_)
  rw [hst]
  refine ⟨"list", "list.append", F.plainAttrs_list, F.slot_list_append, F.type_list_append, ⟨_, ho0, rfl⟩, fun b e => ⟨_, by cases e; exact ho0, rfl⟩, ?_⟩
  refine callWith_builtin rfl (evalArgs_plain (spliced_cons (he y τ1 h1 S μ s _ E r fun v S1 μ1 s1 g1 g2 r1 hv => spliced_nil ?_)))
  have ha1 := g2 _ _ ha
  obtain ⟨hS1, vs1, m1, ho1, hv1, hns1⟩ := r1.g.mutR kk a _ ha1 (lstAt_inv hm)
  have hlen := hv1.length
  refine wpAny_list_append_plain ⟨_, ho1⟩ (fun h' hp hs' => ?_) (by rw [List.size_toArray]; omega)
  obtain ⟨m2, hp⟩ := hp
  refine k S1 μ1 _ g1 g2 (r1.mutL ha1 (lstAt_inv hm) hs' (vs := vs1 ++ [v]) (m := m2) (by rw [hp]; simp) (hv1.app (.cons hv .nil)) (hns1.app (.cons hz.2 .nil)))

theorem getLast_at {α : Type} {l : List α} {x : α} (h : l.getLast? = some x) : l[l.length - 1]? = some x := by rw [← List.getLast?_eq_getElem?]; exact h
theorem pop_ok {E : Value → Shared → Prop} (ok : c.Ok) (rm : Room A n) (r : R c S μ τ s) {i : Nat} {nm at' : Str} {p1 p2 p3 p4 : Pos} (hn : c.names[i]? = some nm) (hat : at' = Str.ofString "pop") (hl : (p2.endLine == p3.line) = true)
    (h : popV i τ = some τ') {Q : Flow → Shared → Prop} (k : ∀ s', R c S μ τ' s' → Q .next s') : wpAny (model prog w) A (exec (.Expr (.Call (.Attribute (.Name nm p1) at' p2) [] [] p3) p4) c.env) Q E s := by
  subst hat
  have hi : interactive c.env = false := by unfold interactive; rw [ok.kind]; rfl
  obtain ⟨kk, hs, h⟩ := bd h
  obtain ⟨xs, hm, h⟩ := bd h
  obtain ⟨z, hlast, h⟩ := bd h
  obtain ⟨q, hzs, h⟩ := bd h
  obtain ⟨hz, h⟩ := gd_inv h
  subst h; cases sOf_inv hzs
  have hz : xs.length ≤ 1000000 := hz
  have h6 := sizeLine_eq
  obtain ⟨vals, hf, a, ha, hu⟩ := r.slot hn (bldAt_inv hs)
  obtain ⟨hS0, vs, m0, ho0, hv0, hns0⟩ := r.g.mutR kk a _ ha (lstAt_inv hm)
  have hlen := hv0.length
  obtain ⟨v, hv1, hv2⟩ := hv0.get (getLast_at hlast)
  obtain ⟨tq, rfl⟩ := hv2.sh
  rw [← hlen] at hv1
  refine wpAny_Expr ?_ hi rfl
  refine wpAny_Call_method_lateS rfl rfl hl (name_ok ok r hn hf hu ?_)
  refine ⟨"list", "list.pop", F.plainAttrs_list, F.slot_list_pop, F.type_list_pop, ⟨_, ho0, rfl⟩, fun b e => ⟨_, by cases e; exact ho0, rfl⟩, ?_⟩
  have hsz : vs.toArray.size = vs.length := List.size_toArray
  refine P.pop_list (items := vs.toArray) (n := m0) ho0 (y := .str q tq) (by rw [hsz]; simpa using hv1) ?_ (by rw [hsz]; omega)
  have e1 : vs.toArray.eraseIdxIfInBounds (vs.toArray.size - 1) = vs.dropLast.toArray := by
    simp
  obtain ⟨m', e⟩ : ∃ m', Obj.mapSeq (fun x => x.eraseIdxIfInBounds (vs.toArray.size - 1)) (listObj vs m0) = listObj vs.dropLast m' :=
    ⟨_, congrArg (fun q => ({ cls := .type "list", dict := Option.none, data := .seq q (if (vs.toArray.eraseIdxIfInBounds (vs.toArray.size - 1)).size == vs.toArray.size then m0 else m0 + 1), slots := #[] } : Obj)) e1⟩
  have hd : vs.dropLast = vs.take (vs.length - 1) := List.dropLast_eq_take
  refine k _ (r.mutL ha (lstAt_inv hm) (Heap.SameBut.update ..) (vs := vs.dropLast) (m := m') (by rw [Heap.get?_update_self _ ho0 (by rw [e]; rfl), e]) ?_ (by rw [List.dropLast_eq_take]; exact hns0.take _))
  rw [List.dropLast_eq_take, List.dropLast_eq_take, hlen]
  exact hv0.take _

/-- `x += e` -/
theorem aug_ok {E : Value → Shared → Prop} (ok : c.Ok) (rm : Room A n) (r : R c S μ τ s) {o : Operator} {i : Nat} {nm : Str} {e : PySem.Expr} {p1 p4 : Pos} (hn : c.names[i]? = some nm)
    {f : St → Option (PV × St)} (he : ∀ y τ1, f τ = some (y, τ1) → Ev prog w A c (eval e c.env) τ y τ1) (h : augV o i τ f = some τ') {Q : Flow → Shared → Prop}
    (k : ∀ S' μ' s', Sub S S' → Pre μ μ' → R c S' μ' τ' s' → Q .next s') : wpAny (model prog w) A (exec (.AugAssign (.Name nm p1) o e p4) c.env) Q E s := by
  unfold augV at h
  by_cases ho : o = .Add
  · subst ho
    rw [if_pos rfl] at h
    cases hs : bldAt τ i with
    | none =>
      rw [hs] at h
      obtain ⟨x, hsx, h⟩ := bd h
      obtain ⟨⟨y, τ1⟩, h1, h⟩ := bd h
      obtain ⟨y', hy, h⟩ := bd h
      have hy : y = _ := sOf_inv hy
      subst hy
      by_cases hz : x.length + y'.length ≤ lid
      · replace h : (if x.length + y'.length ≤ lid then setV i (.str (x ++ y')) τ1 else none) = some τ' := h
        rw [if_pos hz] at h
        have h6 := lid_line
        cases setV_eq h
        obtain ⟨vals, hf, u, hu, huv⟩ := r.slot hn (strAt_inv hsx)
        obtain ⟨tx, rfl⟩ := huv.sh
        refine wpAny_AugAssign_Name (load_ok ok r hn hf hu (he _ τ1 h1 S μ s _ E r fun v S1 μ1 s1 g1 g2 r1 hv => ?_))
        obtain ⟨ty, rfl⟩ := hv.sh
        refine SB.iadd (fun t' tk => ?_) (Nat.le_trans hz h6)
        have r2 : R c S1 μ1 τ1 { s1 with toks := tk } := r1.ext (Ext.refl _)
        exact store_ok (sl := .val (.str (x ++ y'))) ok r2 hn ⟨_, rfl, .str _ _⟩ fun s' r' => k S1 μ1 s' g1 g2 r'
      · replace h : (if x.length + y'.length ≤ lid then setV i (.str (x ++ y')) τ1 else none) = some τ' := h
        rw [if_neg hz] at h; cases h
    | some kk =>
      rw [hs] at h
      obtain ⟨⟨y, τ1⟩, h1, h⟩ := bd h
      obtain ⟨ys, hy, h⟩ := bd h
      obtain ⟨xs, hm, h⟩ := bd h
      obtain ⟨hz, h⟩ := gd_inv h
      have hy : y = _ := lOf_inv hy
      subst h hy
      obtain ⟨vals, hf, a, ha, hu⟩ := r.slot hn (bldAt_inv hs)
      refine wpAny_AugAssign_Name (load_ok ok r hn hf hu (he _ τ1 h1 S μ s _ E r fun v S1 μ1 s1 g1 g2 r1 hv => ?_))
      have ha1 := g2 _ _ ha
      obtain ⟨hS1, vs1, m1, ho1, hv1, hns1⟩ := r1.g.mutR kk a _ ha1 (lstAt_inv hm)
      obtain ⟨b, o2, ws, rfl, e2, q2, hws, hns2⟩ := hv.sh
      refine iadd_lo ho1 (r1.g.keepS _ _ e2) q2 (by rw [hv1.length, hws.length]; exact hz.1) fun h' m' hs' ho' => ?_
      have r2 := r1.mutL ha1 (lstAt_inv hm) hs' ho' (hv1.app hws) (hns1.app hns2) (d := s1.drawn) (tk := s1.toks)
      exact store_ok (sl := .bld kk) ok r2 hn ⟨a, ha1, rfl⟩ fun s' r' => k S1 μ1 s' g1 g2 r'
  · rw [if_neg ho] at h; cases h
end
end Mine
end
noncomputable section
open PySem PySem.W PyProof.Rows PySem.Calls
set_option Elab.async false
set_option linter.unusedVariables false
set_option maxRecDepth 100000
namespace Mine

noncomputable def FlR (S : PH) (μ : List Addr) : Fl → Flow → Prop
  | .next, f => f = .next
  | .brk, f => f = .brk
  | .cont, f => f = .cont
  | .ret x, f => ∃ v, f = .ret v ∧ VR S μ v x
noncomputable def KX (c : FC) (S : PH) (μ : List Addr) (τ' : St) (fl : Fl) (Q : Flow → Shared → Prop) : Prop := ∀ f S' μ' s', Sub S S' → Pre μ μ' → R c S' μ' τ' s' → FlR S' μ' fl f → Q f s'
noncomputable def Ex (prog : Program) (w : World) (A : Around) (c : FC) (t : Sem Flow) (τ : St) (fl : Fl) (τ' : St) : Prop := ∀ S μ s (Q : Flow → Shared → Prop) (E : Value → Shared → Prop), R c S μ τ s → KX c S μ τ' fl Q → wpAny (model prog w) A t Q E s

/-- addresses of nobody else -/
noncomputable def Priv (c : FC) (S : PH) (μ : List Addr) (mem : List MCell) (ps : List Addr) : Prop := ∀ a ∈ ps, S a = none ∧ ¬ IsLive μ mem a ∧ c.K a = none ∧ a ∉ c.fa

section
variable {prog : Program} {w : World} {A : Around} {c : FC} {S S' : PH} {μ μ' : List Addr} {τ τ1 τ2 τ3 τ' : St} {s : Shared} {n : Nat} {Φ : Fns} {γ : String → Option PV}

theorem KX.mono {fl : Fl} {Q : Flow → Shared → Prop} (k : KX c S μ τ fl Q) (hS : Sub S S') (hμ : Pre μ μ') : KX c S' μ' τ fl Q := fun f S2 μ2 s h1 h2 r hv => k f S2 μ2 s (hS.trans h1) (hμ.trans h2) r hv

theorem FrS.keeps {env : Env} {h h' : Heap} {vals} (f : FrS env h vals) (e : ∀ a ∈ env.locals :: env.cells.map (·.2), ∀ o, h.get? a = some o → h'.get? a = some o) : FrS env h' vals :=
  ⟨let ⟨m, ⟨o, es, ep, ho, x⟩, y⟩ := f.ns; ⟨m, ⟨o, es, ep, e _ (List.mem_cons_self ..) o ho, x⟩, y⟩,
    fun x k hx hk => let ⟨o, ho, z⟩ := f.cell x k hx hk; ⟨o, e k (List.mem_cons_of_mem _ (List.mem_map_of_mem (f := (·.2)) (mem_of_lookup hk))) o ho, z⟩⟩

theorem R.extBut (r : R c S μ τ s) {ps : List Addr} (hp : Priv c S μ τ.mem ps) {h' : Heap} (hk : ∀ b o, b ∉ ps → s.heap.get? b = some o → h'.get? b = some o) {d : Drawn} {tk : Nat} : R c S μ τ ⟨h', s.gens, d, tk, s.os⟩ where
  g := {
    keepS := fun b o e => hk b o (fun q => by rw [(hp b q).1] at e; cases e) (r.g.keepS b o e)
    baseS := r.g.baseS
    len := r.g.len
    mutR := fun k b cl h1 h2 => (r.g.mutR k b cl h1 h2).keep (.refl _) (.refl _) (fun _ => id) fun hn => by
      obtain ⟨_, o, ho⟩ := (r.g.mutR k b cl h1 h2).here hn
      rw [ho, hk b o (fun q => (hp b q).2.1 ⟨k, h1, cl, h2, hn⟩) ho]
    inj := r.g.inj
    gens := r.g.gens
    os_ := r.g.os_ }
  frm := let ⟨vals, f, h⟩ := r.frm; ⟨vals, f.keeps fun a ha o ho => hk a o (fun q => (hp a q).2.2.2 ha) ho, h⟩
  len := r.len
  keepK := fun b o e => let ⟨o', h1, h2⟩ := r.keepK b o e; ⟨o', hk b o' (fun q => by rw [(hp b q).2.2.1] at e; cases e) h1, h2⟩
  KS := r.KS
  KM := r.KM
  FK := r.FK
  FS := r.FS
  FM := r.FM

open Classical in
noncomputable def withK (c : FC) (ps : List Addr) (h : Heap) : FC := { c with K := fun a => if a ∈ ps then h.get? a else c.K a }
theorem R.addK (r : R c S μ τ s) {ps : List Addr} (hp : Priv c S μ τ.mem ps) : R (withK c ps s.heap) S μ τ s where
  g := r.g
  frm := r.frm
  len := r.len
  keepK := fun a o e => by
    by_cases q : a ∈ ps
    · simp only [withK, q, if_true] at e; exact ⟨o, e, .refl o⟩
    · simp only [withK, q, if_false] at e; exact r.keepK a o e
  KS := fun a o e => by
    by_cases q : a ∈ ps
    · exact (hp a q).1
    · simp only [withK, q, if_false] at e; exact r.KS a o e
  KM := fun a o e => by
    by_cases q : a ∈ ps
    · exact (hp a q).2.1
    · simp only [withK, q, if_false] at e; exact r.KM a o e
  FK := fun a ha => by
    by_cases q : a ∈ ps
    · exact absurd ha (hp a q).2.2.2
    · simp only [withK, q, if_false]; exact r.FK a ha
  FS := r.FS
  FM := r.FM
theorem R.dropK {ps : List Addr} {h : Heap} (hp : ∀ a ∈ ps, c.K a = none ∧ a ∉ c.fa) (he : ∀ a ∈ ps, ∃ o, h.get? a = some o) (r : R (withK c ps h) S μ τ s) : R c S μ τ s ∧ Priv c S μ τ.mem ps ∧ ∀ a ∈ ps, ∀ o, h.get? a = some o → ∃ o', s.heap.get? a = some o' ∧ SameU o o' := by
  have kk : ∀ a ∈ ps, ∀ o, h.get? a = some o → (withK c ps h).K a = some o := fun a ha o ho => by simp only [withK, ha, if_true]; exact ho
  have k2 : ∀ a o, c.K a = some o → (withK c ps h).K a = some o := fun a o e => by
    by_cases q : a ∈ ps
    · rw [(hp a q).1] at e; cases e
    · simp only [withK, q, if_false]; exact e
  refine ⟨⟨r.g, r.frm, r.len, fun a o e => r.keepK a o (k2 a o e), fun a o e => r.KS a o (k2 a o e), fun a o e => r.KM a o (k2 a o e), fun a ha => ?_, r.FS, r.FM⟩, fun a ha => ?_, fun a ha o ho => r.keepK a o (kk a ha o ho)⟩
  · by_cases q : a ∈ ps
    · exact (hp a q).1
    · have := r.FK a ha; simp only [withK, q, if_false] at this; exact this
  · obtain ⟨o, ho⟩ := he a ha
    exact ⟨r.KS a o (kk a ha o ho), r.KM a o (kk a ha o ho), (hp a ha).1, (hp a ha).2⟩

/-- an iterator that a for-loop draws from -/
structure LoopIt (prog : Program) (w : World) (A : Around) (target : PySem.Expr) (it : Value) (ps : List Addr) (xs : List PV) (μ₀ : List Addr) (J : Nat → PH → Heap → Prop) : Prop where
  step : ∀ (c : FC) i S μ τ s (x : PV) (Q : Value → Shared → Prop) (E : Value → Shared → Prop), c.Ok → R c S μ τ s → Pre μ₀ μ → Priv c S μ τ.mem ps → J i S s.heap → xs[i]? = some x →
    (∀ v S' s', Sub S S' → R c S' μ τ s' → Priv c S' μ τ.mem ps → J (i + 1) S' s'.heap → VR S' μ v x → Q v s') →
    wpAny (model prog w) A (pyNext it) (fun r s₁ => ∃ v, r = some v ∧ wpAny (model prog w) A (letOwnedTupleGo target it v) (fun _ s₂ => Q v s₂) E s₁) E s
  stop : ∀ (c : FC) S μ τ s (Q : Option Value → Shared → Prop) (E : Value → Shared → Prop), R c S μ τ s → Priv c S μ τ.mem ps → J xs.length S s.heap → (∀ s', R c S μ τ s' → Q none s') → wpAny (model prog w) A (pyNext it) Q E s
  keep : ∀ i S S' h h', J i S h → Sub S S' → (∀ a ∈ ps, ∀ o, h.get? a = some o → h'.get? a = some o) → (∀ a o, S' a = some o → h'.get? a = some o) → J i S' h'
  data : ∀ i S h, J i S h → ∀ a ∈ ps, ∃ o, h.get? a = some o ∧ ∀ es ep, o.data ≠ .dict es ep

/-- what holds ahead of a turn -/
structure LAt (c : FC) (xs : List PV) (ps : List Addr) (J : Nat → PH → Heap → Prop) (S : PH) (μ : List Addr) (bd : PV → St → Option St) (fb fe : St → Option (Fl × St)) (fl : Fl) (τ' : St) (m : Nat) (s : Shared) (i : Nat) (S₁ : PH) (μ₁ : List Addr) (τ₁ : St) : Prop where
  em : m = xs.length - i
  hi : i ≤ xs.length
  hS : Sub S S₁
  hμ : Pre μ μ₁
  r : R c S₁ μ₁ τ₁ s
  hp : Priv c S₁ μ₁ τ₁.mem ps
  hJ : J i S₁ s.heap
  hF : forL bd fb fe (xs.drop i) τ₁ = some (fl, τ')
theorem loop_ok {target : PySem.Expr} {it : Value} {ps : List Addr} {xs : List PV} {μ₀ : List Addr} {J : Nat → PH → Heap → Prop} (Li : LoopIt prog w A target it ps xs μ₀ J) (ok : c.Ok) {body orelse : List Stmt}
    {bd : PV → St → Option St} (hbd : ∀ x τ τ', bd x τ = some τ' → ∀ K v S μ s (Q : Unit → Shared → Prop) (E : Value → Shared → Prop), R { c with K := K } S μ τ s → VR S μ v x → (∀ s', R { c with K := K } S μ τ' s' → Q () s') → wpAny (model prog w) A (assign target c.env v) Q E s)
    {fb : St → Option (Fl × St)} (hb : ∀ τ fl τ', fb τ = some (fl, τ') → ∀ K, Sub c.K K → Ex prog w A { c with K := K } (execs body c.env) τ fl τ')
    {fe : St → Option (Fl × St)} (he : ∀ τ fl τ', fe τ = some (fl, τ') → Ex prog w A c (execs orelse c.env) τ fl τ')
    {i : Nat} {fl : Fl} (hi : i ≤ xs.length) (hF : forL bd fb fe (xs.drop i) τ = some (fl, τ')) (r : R c S μ τ s) (hp : Priv c S μ τ.mem ps) (hJ : J i S s.heap) (hμ : Pre μ₀ μ) {Q : Flow → Shared → Prop} (k : KX c S μ τ' fl Q)
    {Rs : Result → Shared → Prop} (hR : ∀ f s', Q f s' → Rs (.ok f) s') : codeAny (model prog w) A (.forLoop target it body orelse c.env) Rs s := by
  refine codeAny_forLoop_any (fun m s => ∃ i S₁ μ₁ τ₁, LAt c xs ps J S μ bd fb fe fl τ' m s i S₁ μ₁ τ₁) ?_ (xs.length - i) ⟨i, S, μ, τ, ⟨rfl, hi, .refl _, .refl _, r, hp, hJ, hF⟩⟩
  rintro m s ⟨i, S1, μ1, τ₁, ⟨rfl, hi, hS, hμ1, r1, hp1, hJ1, hF1⟩⟩
  by_cases hlt : i < xs.length
  · have hx : xs[i]? = some xs[i] := List.getElem?_eq_getElem hlt
    have hdrop : xs.drop i = xs[i] :: xs.drop (i + 1) := List.drop_eq_getElem_cons hlt
    rw [hdrop] at hF1
    obtain ⟨τ2, hb1, hF1⟩ := Option.bind_eq_some_iff.mp hF1
    obtain ⟨⟨fl2, τ3⟩, hb2, hb3⟩ := Option.bind_eq_some_iff.mp hF1
    have key : wpAny (model prog w) A (pyNext it) (fun r s₁ => ∃ v, r = some v ∧ wpAny (model prog w) A (letOwnedTupleGo target it v) (fun _ s₂ => wpAny (model prog w) A (assign target c.env v) (fun _ s₂ => wpAny (model prog w) A (execs body c.env) (fun f s₃ => match f with
            | .next | .cont => ∃ m, m < xs.length - i ∧ ∃ i S₁ μ₁ τ₁, LAt c xs ps J S μ bd fb fe fl τ' m s₃ i S₁ μ₁ τ₁
            | .brk => Rs (.ok .next) s₃
            | .ret v => Rs (.ok (.ret v)) s₃) (notedBy (model prog w) A c.env fun e s' => Rs (.error e) s') s₂) (notedBy (model prog w) A c.env fun e s' => Rs (.error e) s') s₂) (notedBy (model prog w) A c.env fun e s' => Rs (.error e) s') s₁) (notedBy (model prog w) A c.env fun e s' => Rs (.error e) s') s := by
      refine Li.step c i S1 μ1 τ₁ s xs[i] _ _ ok r1 (hμ.trans hμ1) hp1 hJ1 hx fun v S2 s2 hS2 r2 hp2 hJ2 hv => ?_
      refine hbd _ _ _ hb1 (withK c ps s2.heap).K v S2 μ1 s2 _ _ (r2.addK hp2) hv fun s3 r3 => ?_
      have hsub : Sub c.K (withK c ps s2.heap).K := fun a o e => by
        by_cases q : a ∈ ps
        · rw [(hp2 a q).2.2.1] at e; cases e
        · simp only [withK, q, if_false]; exact e
      refine hb _ _ _ hb2 (withK c ps s2.heap).K hsub S2 μ1 s3 _ _ r3 fun f S4 μ4 s4 g1 g2 r4 hf => ?_
      have hob : ∀ a ∈ ps, ∃ o, s2.heap.get? a = some o := fun a ha => let ⟨o, h, _⟩ := Li.data _ _ _ hJ2 a ha; ⟨o, h⟩
      obtain ⟨r5, hp5, hk5⟩ := R.dropK (fun a ha => ⟨(hp2 a ha).2.2.1, (hp2 a ha).2.2.2⟩) hob r4
      have hJ5 : J (i + 1) S4 s4.heap := Li.keep _ _ _ _ _ hJ2 g1 (fun a ha o ho => by
        obtain ⟨o', h1, h2⟩ := hk5 a ha o ho
        obtain ⟨o2, h3, h4⟩ := Li.data _ _ _ hJ2 a ha
        rw [ho] at h3; cases h3
        rcases h2 with rfl | ⟨⟨es, ep, hd⟩, _⟩
        · exact h1
        · exact absurd hd (h4 es ep)) fun a o e => r5.g.keepS a o e
      cases fl2 with
      | next =>
        cases hf
        exact ⟨xs.length - (i + 1), by omega, i + 1, S4, μ4, τ3, ⟨rfl, hlt, hS.trans (hS2.trans g1), hμ1.trans g2, r5, hp5, hJ5, hb3⟩⟩
      | cont =>
        cases hf
        exact ⟨xs.length - (i + 1), by omega, i + 1, S4, μ4, τ3, ⟨rfl, hlt, hS.trans (hS2.trans g1), hμ1.trans g2, r5, hp5, hJ5, hb3⟩⟩
      | brk =>
        cases hf; cases hb3
        exact hR _ _ (k .next S4 μ4 s4 (hS.trans (hS2.trans g1)) (hμ1.trans g2) r5 rfl)
      | ret z =>
        obtain ⟨u, rfl, hu⟩ := hf; cases hb3
        exact hR _ _ (k (.ret u) S4 μ4 s4 (hS.trans (hS2.trans g1)) (hμ1.trans g2) r5 ⟨u, rfl, hu⟩)
    refine wpAny_mono key (fun r s₁ h => ?_) fun _ _ e => e
    obtain ⟨v, rfl, h⟩ := h
    exact h
  · have hin : i = xs.length := by omega
    subst hin
    rw [List.drop_length] at hF1
    refine Li.stop c S1 μ1 τ₁ s _ _ r1 hp1 hJ1 fun s' r' => ?_
    exact he _ _ _ hF1 S1 μ1 s' _ _ r' fun f S2 μ2 s2 g1 g2 r2 hf => hR f s2 (k f S2 μ2 s2 (hS.trans g1) (hμ1.trans g2) r2 hf)
end
end Mine
end
noncomputable section
open PySem PySem.W PyProof.Rows PySem.Calls
set_option Elab.async false
set_option linter.unusedVariables false
set_option maxRecDepth 100000
namespace Mine

section
variable {prog : Program} {w : World} {A : Around} {c : FC} {S S' S₀ : PH} {μ μ' μ₀ : List Addr} {τ τ1 τ2 τ3 τ' : St} {s : Shared} {n : Nat} {Φ : Fns} {γ : String → Option PV}

noncomputable def ownNames : List String := ["enumerate", "zip", "dict_itemiterator", "dict_reverseitemiterator", "odict_iterator", "itertools.zip_longest", "itertools.pairwise"]
theorem letgo_plain {E : Value → Shared → Prop} {target : PySem.Expr} {I : Addr} {v : Value} {o : Obj} {N : String} {vs : Array Value} {Q : Unit → Shared → Prop} (ho : s.heap.get? I = some o) (hc : o.cls = .type N) (hd : o.data = .fields vs) (hn : ownNames.contains N = false) (hQ : Q () s) :
    wpAny (model prog w) A (letOwnedTupleGo target (.ref I) v) Q E s := by
  have plain : wpAny (model prog w) A (pure ()) Q E s := wpAny_pure hQ
  have road : ∀ a, wpAny (model prog w) A (do
      let o ← load I
      match o.cls, o.data with
      | .type n, .fields vs =>
        if ["enumerate", "zip", "dict_itemiterator", "dict_reverseitemiterator", "odict_iterator", "itertools.zip_longest", "itertools.pairwise"].contains n && vs[0]? == some (rawInt a) then
          rule "for.unpacks-the-owned-tuple"
          updateField I 0 .none
      | _, _ => pure ()) Q E s := fun a => by
    refine wpAny_bind (wpAny_load ho ?_)
    rw [hc, hd]
    show wpAny _ A (if (ownNames.contains N && vs[0]? == some (rawInt a)) = true then _ else _) Q E s
    rw [hn, Bool.false_and, if_neg Bool.false_ne_true]
    exact plain
  unfold letOwnedTupleGo
  split
  · cases v <;> first | exact plain | exact road _
  · cases v <;> first | exact plain | exact road _
  · exact plain

theorem LoopIt.of_walks {target : PySem.Expr} {I : Addr} {fp : List Addr} {P : Nat → Value → Prop} {St : Nat → Heap → Prop} {xs : List PV} {N : String} (W : Walks prog w A I fp [I] n P St) (hn : xs.length = n)
    (hP : ∀ i v x, P i v → xs[i]? = some x → VR S₀ μ₀ v x) (hfp : ∀ b ∈ fp, b = I ∨ ∃ o, S₀ b = some o) (hdat : ∀ i h, St i h → ∃ o vs, h.get? I = some o ∧ o.cls = .type N ∧ o.data = .fields vs) (hN : ownNames.contains N = false) :
    LoopIt prog w A target (.ref I) [I] xs μ₀ (fun i S h => Sub S₀ S ∧ St i h ∧ ∀ a o, S a = some o → h.get? a = some o) where
  step := fun c i S μ τ s x Q E ok r hμ hp hJ hx k => by
    obtain ⟨hS, hst, hSh⟩ := hJ
    refine W.item i s _ E (by rw [← hn]; exact (List.getElem?_eq_some_iff.mp hx).1) hst fun v h' tk hPv hst' hk => ⟨v, rfl, ?_⟩
    obtain ⟨o, vs, ho, hc, hd⟩ := hdat _ _ hst'
    have r' : R c S μ τ { s with heap := h', toks := tk } := r.extBut hp hk
    exact letgo_plain ho hc hd hN (k v S _ (.refl _) r' hp ⟨hS, hst', fun a o e => r'.g.keepS a o e⟩ ((hP i v x hPv hx).mono hS hμ))
  stop := fun c S μ τ s Q E r hp hJ k => by
    obtain ⟨hS, hst, hSh⟩ := hJ
    exact W.done s Q E (hn ▸ hst) fun h' tk hk => k _ (r.extBut hp hk)
  keep := fun i S S' h h' hJ hSS hk hS' => by
    obtain ⟨hS, hst, hSh⟩ := hJ
    refine ⟨hS.trans hSS, W.frame i h h' hst fun b hb o e => ?_, hS'⟩
    rcases hfp b hb with rfl | ⟨o', e'⟩
    · exact hk b (by simp) o e
    · have e1 := hSh b o' (hS _ _ e')
      rw [e] at e1; cases e1
      exact hS' b o (hSS _ _ (hS _ _ e'))
  data := fun i S h hJ a ha => by
    simp only [List.mem_singleton] at ha
    subst ha
    obtain ⟨o, vs, ho, hc, hd⟩ := hdat _ _ hJ.2.1
    exact ⟨o, ho, fun es ep e => by rw [hd] at e; cases e⟩

theorem priv_new (r : R c S μ τ s) (ok : c.Ok) {d : Drawn} {tk : Nat} : Priv c S μ τ.mem [s.heap.objs.size] := fun a ha => by
  simp only [List.mem_singleton] at ha
  subst ha
  refine ⟨r.S_new, fun hl => Nat.lt_irrefl _ (r.g.lt hl), ?_, fun hF => Nat.lt_irrefl _ (r.faLt ok hF)⟩
  cases q : c.K s.heap.objs.size with
  | none => rfl
  | some o => exact absurd (r.K_lt q) (Nat.lt_irrefl _)

theorem ints_at {a : Int} {m i : Nat} {x : PV} (h : ((List.range m).map fun (k : Nat) => PV.int (a + (k : Int)))[i]? = some x) : x = .int (a + (i : Int)) := by
  rw [List.getElem?_map] at h
  obtain ⟨k, h1, h2⟩ := Option.map_eq_some_iff.mp h
  rw [List.getElem?_range (by have := (List.getElem?_eq_some_iff.mp h1).1; simpa using this)] at h1
  cases h1; exact h2.symm

/-- iterating over a value -/
theorem iter_ok {E : Value → Shared → Prop} (ok : c.Ok) (rm : Room A n) (r : R c S μ τ s) {v : Value} {x : PV} {xs : List PV} (hv : VR S μ v x) (hx : itemsV x = some xs) (target : PySem.Expr) {Q : Value → Shared → Prop}
    (k : ∀ it ps J s', LoopIt prog w A target it ps xs μ J → R c S μ τ s' → Priv c S μ τ.mem ps → J 0 S s'.heap → Q it s') : wpAny (model prog w) A (pyIter v) Q E s := by
  have L := lid_line
  cases x with
  | list ys =>
    obtain ⟨hz, rfl⟩ := gd_inv hx
    · obtain ⟨a, o, vs, rfl, e, q, hvs, _⟩ := hv.sh
      have hL := isList_of (r.g.keepS _ _ e) q
      have hlt : a < s.heap.objs.size := r.S_lt e
      refine wpAny_pyIter_list hL (k _ _ _ _ (LoopIt.of_walks (S₀ := S) (N := "list_iterator") (Walks.list rm.handled s.heap.objs.size a (fun e => Nat.lt_irrefl _ (e ▸ hlt)) vs.toArray) (by simp [hvs.length])
        (fun i v x hP hx => hvs.at (by simpa using hP) hx) (fun b hb => ?_) (fun i h st => ?_) (by decide)) (r.ext (Ext.push _ _)) (priv_new r ok (d := s.drawn) (tk := s.toks)) ⟨.refl _, ⟨⟨_, Heap.get?_push_size _ rfl, rfl, rfl⟩, hL.at fun o e => Ext.push _ _ _ _ e⟩, fun b o e => Ext.push _ _ _ _ (r.g.keepS b o e)⟩)
      · simp only [List.mem_cons, List.not_mem_nil, or_false] at hb
        rcases hb with h | h
        · exact .inl h
        · exact .inr ⟨o, h ▸ e⟩
      · obtain ⟨⟨o, ho, hc, hd⟩, _⟩ := st
        exact ⟨o, _, ho, hc, hd⟩
  | tup ys =>
    obtain ⟨hz, rfl⟩ := gd_inv hx
    · obtain ⟨a, vs, m, rfl, e, hvs, _⟩ := hv.sh
      have hL := isTuple_of (r.g.keepS _ _ e)
      have hlt : a < s.heap.objs.size := r.S_lt e
      refine wpAny_pyIter_tuple hL (k _ _ _ _ (LoopIt.of_walks (S₀ := S) (N := "tuple_iterator") (Walks.tuple rm.handled s.heap.objs.size a (fun e => Nat.lt_irrefl _ (e ▸ hlt)) vs.toArray) (by simp [hvs.length])
        (fun i v x hP hx => hvs.at (by simpa using hP) hx) (fun b hb => ?_) (fun i h st => ?_) (by decide)) (r.ext (Ext.push _ _)) (priv_new r ok (d := s.drawn) (tk := s.toks)) ⟨.refl _, ⟨⟨_, Heap.get?_push_size _ rfl, rfl, rfl⟩, hL.push _⟩, fun b o e => Ext.push _ _ _ _ (r.g.keepS b o e)⟩)
      · simp only [List.mem_cons, List.not_mem_nil, or_false] at hb
        rcases hb with h | h
        · exact .inl h
        · exact .inr ⟨_, h ▸ e⟩
      · obtain ⟨⟨o, ho, hc, hd⟩, _⟩ := st
        exact ⟨o, _, ho, hc, hd⟩
  | range a b =>
    obtain ⟨⟨h1, h2, h3⟩, rfl⟩ := gd_inv hx
    · obtain ⟨ra, t, u, v, rfl, e⟩ := hv.sh
      have hsz : Builtin.Range.rangeSize a b 1 = ((b - a).toNat : Int) := by
        simp only [Builtin.Range.rangeSize]
        split <;> simp_all <;> omega
      refine wpAny_pyIter_range (r.g.keepS _ _ e) (range_small h1 h2) (k _ _ _ _ (LoopIt.of_walks (S₀ := S) (N := "range_iterator") (Walks.range rm.handled s.heap.objs.size a 1 (b - a).toNat) (by simp)
        (fun i v x hP hx => ?_) (fun b hb => .inl (by simpa using hb)) (fun i h st => ⟨_, _, st, rfl, rfl⟩) (by decide)) (r.ext (Ext.push _ _)) (priv_new r ok (d := s.drawn) (tk := s.toks)) ⟨.refl _, ?_, fun b o e => Ext.push _ _ _ _ (r.g.keepS b o e)⟩)
      · obtain ⟨t, rfl⟩ := hP
        rw [ints_at hx, Int.mul_one]
        exact .int _ _
      · have := Heap.get?_push_size s.heap (o := { cls := .type "range_iterator", data := .fields #[rawInt a, rawInt (Builtin.Range.rangeSize a b 1), rawInt 1] }) rfl
        rw [hsz] at this
        show IsRangeIter _ _ (a + ((0 : Nat) : Int) * 1) (((b - a).toNat : Int) - ((0 : Nat) : Int)) 1
        rw [show a + ((0 : Nat) : Int) * 1 = a by simp, show ((b - a).toNat : Int) - ((0 : Nat) : Int) = ((b - a).toNat : Int) by simp]
        rw [hsz]
        exact this
  | _ => exact no hx
end
end Mine
end
noncomputable section
open PySem PySem.W PyProof.Rows PySem.Calls
open AutoSeq1 (wpAny_loadPart')
set_option Elab.async false
set_option linter.unusedVariables false
set_option maxRecDepth 100000
namespace Mine

/-- an enumerate over a tuple -/
theorem meets_enum_tup (l : Addr) (vs : List Value) (n : Nat) :
    Meets (Builtin.«enumerate.__new__» ⟨[.type "enumerate", .ref l], []⟩) (fun _ R s => s.heap.get? l = some (tupObj vs n) ∧
      R (.ok (.ret (.ref (s.heap.push { cls := .type "tuple_iterator", data := .fields #[.ref l, .int 0 0] }).objs.size)))
        { s with heap := (s.heap.push { cls := .type "tuple_iterator", data := .fields #[.ref l, .int 0 0] }).push { cls := .type "enumerate", data := .fields #[.none, .bool false, .ref s.heap.objs.size, rawInt 0, .none, .none] } }) :=
  .of_wp fun prog w A R s h => by
    obtain ⟨hp, g, d, tk, os⟩ := s; obtain ⟨hl, h⟩ := h
    have hsub := sub_enumerate
    have hL : Heap.IsTuple (Shared.heap ⟨hp, g, d, tk, os⟩) l vs.toArray := ⟨_, hl, rfl, n, rfl⟩
    wp_walk using wpAny_loadPart' hl
    refine wpAny_stack_any fun st => wpAny_pure ?_
    split
    · rename_i c _ _ _ _ _
      cases (c == Value.type "enumerate")
      · wp_walk using wpAny_loadPart' hl, wpAny_pyIter_tuple hL
        exact ⟨_, rfl, h⟩
      · wp_walk using wpAny_loadPart' hl, wpAny_pyIter_tuple hL
        exact ⟨_, rfl, h⟩
    · wp_walk using wpAny_loadPart' hl, wpAny_pyIter_tuple hL
      exact ⟨_, rfl, h⟩

section
variable {prog : Program} {w : World} {A : Around} {E : Value → Shared → Prop} {s : Shared}

theorem call_enum_tup {l : Addr} {vs : List Value} {n : Nat} {Q : Value → Shared → Prop} (hl : s.heap.get? l = some (tupObj vs n))
    (h : ∀ h', IsEnum h' (s.heap.objs.size + 1) s.heap.objs.size 0 .none → h'.IsTupleIter s.heap.objs.size l 0 → Ext s.heap h' → Q (.ref (s.heap.objs.size + 1)) { s with heap := h' }) :
    wpAny (model prog w) A (call (.type "enumerate") [.ref l]) Q E s := by
  refine callType_new F.called_enumerate (by decide) (F.typeCall_enumerate_1 _) (F.newCall_enumerate_1 _) (fun obj => F.args_object_init_2 obj _) F.entry_enumerate_new (meets_enum_tup l vs n) ⟨hl, ?_⟩
  have hz : (s.heap.push { cls := .type "tuple_iterator", data := .fields #[.ref l, .int 0 0] }).objs.size = s.heap.objs.size + 1 := Heap.size_push ..
  have he := Heap.get?_push_size (s.heap.push { cls := .type "tuple_iterator", data := .fields #[.ref l, .int 0 0] })
      (o := { cls := .type "enumerate", data := .fields #[.none, .bool false, .ref s.heap.objs.size, rawInt 0, .none, .none] }) rfl
  rw [hz] at he
  show _ ∧ _
  rw [hz]
  exact ⟨⟨_, he, rfl⟩, h _ he ⟨_, Ext.push _ _ _ _ (Heap.get?_push_size _ rfl), rfl, rfl⟩ ((Ext.push _ _).trans (Ext.push _ _))⟩

theorem next_tup {it l : Addr} {i : Nat} {vs : List Value} {x : Value} {Q : Value → Shared → Prop} (hit : s.heap.IsTupleIter it l i) (hl : s.heap.IsTuple l vs.toArray) (hx : vs.toArray[i]? = some x)
    (hQ : ∀ h', h'.IsTupleIter it l (i + 1) → Heap.SameBut it s.heap h' → Q x { s with heap := h' }) : wpAny (model prog w) A (Builtin.SmallTypes.nextOf (.ref it)) Q E s := by
  obtain ⟨o, ho, hc, hd⟩ := id hit
  obtain ⟨ol, hol, _, nl, hdl⟩ := hl
  unfold Builtin.SmallTypes.nextOf
  refine wpAny_bind (wpAny_callSpecial?_slot (name := Str.ofString "__next__") hit.typeIs F.slot_tuple_iterator_next
    (wpAny_call_entry F.slot_tuple_iterator_next hit.typeIs F.entry_tuple_iterator_next ?_ (F.args_tuple_iterator_next_1 _)))
  show wpAny _ _ (field (.ref it) 0 >>= _) _ _ s
  refine wpAny_bind (wpAny_field ho hd (x := .ref l) rfl ?_)
  show wpAny _ _ (if (Value.ref l == Value.none) = true then _ else _) _ _ s
  rw [if_neg (show ¬ ((Value.ref l == Value.none) = true) from Bool.false_ne_true)]
  show wpAny _ _ (field (.ref it) 1 >>= _) _ _ s
  refine wpAny_bind (wpAny_field ho hd (x := .int i 0) rfl ?_)
  show wpAny _ _ (seqItems? (.ref l) >>= _) _ _ s
  refine wpAny_bind (wpAny_seqItems hol hdl ?_)
  simp only [Int.toNat_natCast, hx]
  refine wpAny_bind (wpAny_setField ho hd (by simp) (wpAny_pure ⟨x, rfl, wpAny_pure (hQ _ ?_ (Heap.SameBut.update ..))⟩))
  exact ⟨_, Heap.get?_update_self _ ho (Obj.isFreed_of_fields (Obj.data_mapFields hd _)), (Obj.cls_mapFields ..).trans hc, by
    rw [Obj.data_mapFields hd]; simp [rawInt]⟩

theorem end_tup {it l : Addr} {i : Nat} {vs : List Value} {Q : Value → Shared → Prop} (hh : A.handled = none) (hit : s.heap.IsTupleIter it l i) (hl : s.heap.IsTuple l vs.toArray) (hx : vs.toArray[i]? = none)
    (hE : ∀ h' e, Heap.ExtBut it s.heap h' → (∃ o, h'.get? e = some o ∧ o.cls = .type "StopIteration") → E (.ref e) { s with heap := h' }) : wpAny (model prog w) A (Builtin.SmallTypes.nextOf (.ref it)) Q E s := by
  obtain ⟨o, ho, hc, hd⟩ := id hit
  obtain ⟨ol, hol, _, nl, hdl⟩ := hl
  unfold Builtin.SmallTypes.nextOf
  refine wpAny_bind (wpAny_callSpecial?_slot (name := Str.ofString "__next__") hit.typeIs F.slot_tuple_iterator_next
    (wpAny_call_entry F.slot_tuple_iterator_next hit.typeIs F.entry_tuple_iterator_next ?_ (F.args_tuple_iterator_next_1 _)))
  show wpAny _ _ (field (.ref it) 0 >>= _) _ _ s
  refine wpAny_bind (wpAny_field ho hd (x := .ref l) rfl ?_)
  show wpAny _ _ (if (Value.ref l == Value.none) = true then _ else _) _ _ s
  rw [if_neg (show ¬ ((Value.ref l == Value.none) = true) from Bool.false_ne_true)]
  show wpAny _ _ (field (.ref it) 1 >>= _) _ _ s
  refine wpAny_bind (wpAny_field ho hd (x := .int i 0) rfl ?_)
  show wpAny _ _ (seqItems? (.ref l) >>= _) _ _ s
  refine wpAny_bind (wpAny_seqItems hol hdl ?_)
  simp only [Int.toNat_natCast, hx]
  refine wpAny_bind (wpAny_rule (wpAny_bind (wpAny_setField ho hd (by simp) ?_)))
  show wpAny _ _ (newExc (.type "StopIteration") [] >>= _) _ _ _
  refine wpAny_bind ?_
  simp only [newExc, newTuple]
  refine wpAny_bind (wpAny_newObj_type ?_ (by size_fits))
  refine wpAny_bind (m := firstArgMember _ _) (wpAny_of_eq (a := Value.none) (by first | rfl | (simp only [firstArgMember]; rfl)) ?_)
  refine wpAny_newObj_type ?_ (by size_fits)
  simp only [raiseNew]
  refine wpAny_bind (wpAny_handled ?_)
  first | rw [show A.in1.handled = none from hh] | rw [hh]
  refine wpAny_bind (wpAny_pure (wpAny_throw ?_))
  exact hE _ _ (((Heap.SameBut.update ..).extBut.push _).push _) ⟨_, Heap.get?_push_size _ rfl, rfl⟩

/-- the state of an enumerate and of the iterator below it -/
noncomputable def EnumAt (h : Heap) (e it l : Addr) (i : Nat) : Prop := (∃ old, IsEnum h e it i old) ∧ h.IsTupleIter it l i

theorem enum_step {e it l : Addr} {i : Nat} {vs : List Value} {x : Value} {elts : List PySem.Expr} {kk : Nat} {pos : Pos} {Q : Value → Shared → Prop} (he : EnumAt s.heap e it l i) (hl : s.heap.IsTuple l vs.toArray) (hx : vs.toArray[i]? = some x) (hne : e ≠ it) (hle : l ≠ e) (hli : l ≠ it)
    (hQ : ∀ h' T t tk, s.heap.get? T = none → h'.get? T = some (tupObj [.int i t, x] 0) → EnumAt h' e it l (i + 1) → (∀ b o, b ∉ [e, it] → s.heap.get? b = some o → h'.get? b = some o) → Q (.ref T) { s with heap := h', toks := tk }) :
    wpAny (model prog w) A (pyNext (.ref e)) (fun r s₁ => ∃ v, r = some v ∧ wpAny (model prog w) A (letOwnedTupleGo (.Tuple elts kk pos) (.ref e) v) (fun _ s₂ => Q v s₂) E s₁) E s := by
  obtain ⟨⟨old, he⟩, hit⟩ := he
  have hT : s.TypeIs (.ref e) "enumerate" := ⟨_, he, rfl⟩
  unfold pyNext
  refine wpAny_bind (wpAny_attempt (wpAny_callSpecial?_slot (name := Str.ofString "__next__") hT F.slot_enumerate_next
    (wpAny_call_entry F.slot_enumerate_next hT F.entry_enumerate_next ?_ (F.args_enumerate_next_1 _))))
  obtain ⟨hp, g, d, tk, os⟩ := s
  show wpAny _ _ (field (.ref e) 2 >>= _) _ _ _
  refine wpAny_bind (wpAny_field he rfl (x := .ref it) rfl ?_)
  refine wpAny_bind (next_tup hit hl hx fun h₁ hit₁ hs₁ => ?_)
  replace hs₁ : Heap.SameBut it hp h₁ := hs₁
  have he₁ : IsEnum h₁ e it i old := (hs₁.2 e hne).trans he
  show wpAny _ _ (field (.ref e) 3 >>= _) _ _ ⟨h₁, g, d, tk, os⟩
  refine wpAny_bind (wpAny_field he₁ rfl (x := rawInt i) rfl ?_)
  show wpAny _ _ (field (.ref e) 4 >>= _) _ _ ⟨h₁, g, d, tk, os⟩
  refine wpAny_bind (wpAny_field he₁ rfl (x := .none) rfl ?_)
  show wpAny _ _ (mkInt i >>= _) _ _ ⟨h₁, g, d, tk, os⟩
  refine wpAny_bind (wpAny_mkInt ?_)
  show wpAny _ _ (setField (.ref e) 3 (rawInt ((i : Int) + 1)) >>= _) _ _ ⟨h₁, g, d, tk + 1, os⟩
  refine wpAny_bind (wpAny_setField_rec he₁ (by simp) fun h₂ he₂ hs₂ => ?_)
  replace hs₂ : Heap.SameBut e h₁ h₂ := hs₂
  replace he₂ : IsEnum h₂ e it ((i : Int) + 1) old := he₂
  show wpAny _ _ (setField (.ref e) 4 .none >>= _) _ _ ⟨h₂, g, d, tk + 1, os⟩
  refine wpAny_bind (wpAny_setField_rec he₂ (by simp) fun h₃ he₃ hs₃ => ?_)
  replace hs₃ : Heap.SameBut e h₂ h₃ := hs₃
  replace he₃ : IsEnum h₃ e it ((i : Int) + 1) old := he₃
  show wpAny _ _ (newTuple [.int i tk, x] >>= _) _ _ ⟨h₃, g, d, tk + 1, os⟩
  refine wpAny_bind (wpAny_newTuple ?_)
  have hsz : h₃.objs.size = hp.objs.size := by rw [hs₃.1, hs₂.1, hs₁.1]
  have hel : e < hp.objs.size := Heap.lt_size he
  obtain ⟨h₄, hh₄⟩ : ∃ h₄, h₃.push (tupObj [.int i tk, x] 0) = h₄ := ⟨_, rfl⟩
  have he₄ : IsEnum h₄ e it ((i : Int) + 1) old := by rw [← hh₄]; exact Heap.get?_push_of_some _ he₃
  have ht₄ : h₄.get? hp.objs.size = some (tupObj [.int i tk, x] 0) := by rw [← hh₄, ← hsz]; exact Heap.get?_push_size _ rfl
  have hk₃ : ∀ b o, b ∉ [e, it] → hp.get? b = some o → h₃.get? b = some o := fun b o hb q => by
    simp only [List.mem_cons, List.not_mem_nil, or_false, not_or] at hb
    exact hs₃.extBut b o hb.1 (hs₂.extBut b o hb.1 (hs₁.extBut b o hb.2 q))
  have hk₄ : ∀ b o, b ∉ [e, it] → hp.get? b = some o → h₄.get? b = some o := fun b o hb q => by rw [← hh₄]; exact Ext.push _ _ _ _ (hk₃ b o hb q)
  have hit₄ : h₄.IsTupleIter it l (i + 1) := by
    rw [← hh₄]
    obtain ⟨o, ho, q⟩ := (hit₁.extBut hs₂.extBut (Ne.symm hne)).extBut hs₃.extBut (Ne.symm hne)
    exact ⟨o, Ext.push _ _ _ _ ho, q⟩
  show wpAny _ _ (Builtin.SmallTypes.ownedTupleIsFree (.ref e) >>= _) _ _ ⟨h₃.push (tupObj [.int i tk, x] 0), g, d, tk + 1, os⟩
  rw [hsz, hh₄]
  refine wpAny_bind ?_
  unfold Builtin.SmallTypes.ownedTupleIsFree
  refine wpAny_bind (wpAny_field he₄ rfl (x := .none) rfl (wpAny_pure ?_))
  simp only [if_true]
  refine wpAny_bind (wpAny_rule ?_)
  refine wpAny_bind (wpAny_field he₄ rfl (x := old) rfl ?_)
  refine wpAny_bind (wpAny_setField_rec he₄ (by simp) fun h₅ he₅ hs₅ => ?_)
  replace hs₅ : Heap.SameBut e h₄ h₅ := hs₅
  replace he₅ : IsEnum h₅ e it ((i : Int) + 1) x := he₅
  show wpAny _ _ (Builtin.SmallTypes.ownedTupleHandOut (.ref e) (.ref hp.objs.size) >>= _) _ _ ⟨h₅, g, d, tk + 1, os⟩
  refine wpAny_bind ?_
  unfold Builtin.SmallTypes.ownedTupleHandOut
  refine wpAny_bind (wpAny_setField_rec he₅ (by simp) fun h₆ he₆ hs₆ => ?_)
  replace hs₆ : Heap.SameBut e h₅ h₆ := hs₆
  replace he₆ : IsEnumOut h₆ e it ((i : Int) + 1) x hp.objs.size := he₆
  refine wpAny_setField_rec he₆ (by simp) fun h₇ he₇ hs₇ => ?_
  replace hs₇ : Heap.SameBut e h₆ h₇ := hs₇
  replace he₇ : IsEnumOut h₇ e it ((i : Int) + 1) x hp.objs.size := he₇
  refine wpAny_bind (wpAny_letGo (wpAny_pure ⟨_, rfl, wpAny_pure ⟨_, rfl, wpAny_letOwnedTupleGo_enum he₇ fun h₈ he₈ hs₈ => ?_⟩⟩))
  replace hs₈ : Heap.SameBut e h₇ h₈ := hs₈
  have up : ∀ b o, b ≠ e → h₄.get? b = some o → h₈.get? b = some o := fun b o hb q => hs₈.extBut b o hb (hs₇.extBut b o hb (hs₆.extBut b o hb (hs₅.extBut b o hb q)))
  refine hQ h₈ hp.objs.size tk (tk + 1) (freed_none (Nat.le_refl _)) (up _ _ (Nat.ne_of_gt hel) ht₄) ⟨⟨x, ?_⟩, ?_⟩ fun b o hb q => up b o (fun e' => hb (by simp [e'])) (hk₄ b o hb q)
  · have : ((i + 1 : Nat) : Int) = (i : Int) + 1 := by push_cast; rfl
    rw [this]; exact he₈
  · obtain ⟨o, ho, q⟩ := hit₄; exact ⟨o, up it o (Ne.symm hne) ho, q⟩

theorem enum_stop {e it l : Addr} {i : Nat} {vs : List Value} {Q : Option Value → Shared → Prop} (hh : A.handled = none) (he : EnumAt s.heap e it l i) (hl : s.heap.IsTuple l vs.toArray) (hx : vs.toArray[i]? = none)
    (hQ : ∀ h', Heap.ExtBut it s.heap h' → Q none { s with heap := h' }) : wpAny (model prog w) A (pyNext (.ref e)) Q E s := by
  obtain ⟨⟨old, he⟩, hit⟩ := he
  have hT : s.TypeIs (.ref e) "enumerate" := ⟨_, he, rfl⟩
  unfold pyNext
  refine wpAny_bind (wpAny_attempt (wpAny_callSpecial?_slot (name := Str.ofString "__next__") hT F.slot_enumerate_next
    (wpAny_call_entry F.slot_enumerate_next hT F.entry_enumerate_next ?_ (F.args_enumerate_next_1 _))))
  show wpAny _ _ (field (.ref e) 2 >>= _) _ _ _
  refine wpAny_bind (wpAny_field he rfl (x := .ref it) rfl ?_)
  refine wpAny_bind (end_tup hh hit hl hx fun h' x he' hx' => ?_)
  obtain ⟨o, ho, hc⟩ := hx'
  refine wpAny_bind (wpAny_isInstance (T := "StopIteration") (b := true) ⟨o, ho, hc⟩ isSubtype_stop ?_)
  exact wpAny_pure (hQ _ he')
end
end Mine
end
noncomputable section
open PySem PySem.W PyProof.Rows PySem.Calls
set_option Elab.async false
set_option linter.unusedVariables false
set_option maxRecDepth 100000
namespace Mine

section
variable {prog : Program} {w : World} {A : Around} {c : FC} {S S' S₀ : PH} {μ μ' μ₀ : List Addr} {τ τ1 τ2 τ3 τ' : St} {s : Shared} {n : Nat} {Φ : Fns} {γ : String → Option PV}

theorem R.freshP (r : R c S μ τ s) (ok : c.Ok) {ps : List Addr} (hp : Priv c S μ τ.mem ps) {h' : Heap} (hk : ∀ b o, b ∉ ps → s.heap.get? b = some o → h'.get? b = some o) {D : Addr} {o : Obj} (hD : s.heap.get? D = none) (ho : h'.get? D = some o) {d : Drawn} {tk : Nat} :
    R c (Mine.put S D o) μ τ ⟨h', s.gens, d, tk, s.os⟩ ∧ Sub S (Mine.put S D o) := by
  have hS : S D = none := by
    cases q : S D with
    | none => rfl
    | some o => rw [r.g.keepS _ _ q] at hD; cases hD
  refine ⟨(r.extBut hp hk).put ho (fun hl => ?_) ?_ (fun hF => ?_), Sub.put fun o' q => by rw [hS] at q; cases q⟩
  · obtain ⟨_, o, q⟩ := r.g.live hl; rw [hD] at q; cases q
  · cases q : c.K D with
    | none => rfl
    | some o => obtain ⟨o', q, _⟩ := r.keepK _ _ q; rw [hD] at q; cases q
  · obtain ⟨vals, hf, _⟩ := r.frm
    rcases List.mem_cons.mp hF with rfl | ha
    · obtain ⟨m, ⟨o, _, _, q, _⟩, _⟩ := hf.ns; rw [hD] at q; cases q
    · obtain ⟨p, hp, rfl⟩ := List.mem_map.mp ha
      obtain ⟨o, q, _⟩ := hf.cell p.1 p.2 (ok.cells p hp).1 (ok.cells p hp).2
      rw [hD] at q; cases q

theorem numbered_at : ∀ (k : Nat) (ys : List PV) (i : Nat) (z : PV), (numbered k ys)[i]? = some z → ∃ y, ys[i]? = some y ∧ z = .tup [.int ((k + i : Nat) : Int), y]
  | _, [], i, z, h => by simp [numbered] at h
  | k, y :: ys, 0, z, h => by simp [numbered] at h; exact ⟨y, rfl, h.symm⟩
  | k, y :: ys, i + 1, z, h => by
    simp only [numbered, List.getElem?_cons_succ] at h
    obtain ⟨y', h1, h2⟩ := numbered_at (k + 1) ys i z h
    exact ⟨y', by simpa using h1, by rw [h2, show k + 1 + i = k + (i + 1) by omega]⟩
theorem numbered_len : ∀ (k : Nat) (ys : List PV), (numbered k ys).length = ys.length
  | _, [] => rfl
  | k, y :: ys => congrArg (· + 1) (numbered_len (k + 1) ys)

theorem LoopIt.enum {es : List PySem.Expr} {kk : Nat} {pos : Pos} {e it l : Addr} {vs : List Value} {m : Nat} {ys : List PV} (rm : Room A n) (hl : S₀ l = some (tupObj vs m)) (hv : VRs S₀ μ₀ vs ys) (hns : NoS ys) (hne : e ≠ it) (hle : l ≠ e) (hli : l ≠ it) :
    LoopIt prog w A (.Tuple es kk pos) (.ref e) [e, it] (numbered 0 ys) μ₀ (fun i S h => Sub S₀ S ∧ EnumAt h e it l i ∧ ∀ a o, S a = some o → h.get? a = some o) where
  step := fun c i S μ τ s x Q E ok r hμ hp hJ hx k => by
    obtain ⟨hS, hst, hSh⟩ := hJ
    obtain ⟨y, h1, rfl⟩ := numbered_at 0 ys i x hx
    rw [Nat.zero_add] at k
    have hiy := (List.getElem?_eq_some_iff.mp h1).1
    obtain ⟨v0, hvi⟩ : ∃ v0, vs[i]? = some v0 := ⟨_, List.getElem?_eq_getElem (by rw [hv.length]; exact hiy)⟩
    have hvr := hv.at hvi h1
    refine enum_step hst (isTuple_of (hSh _ _ (hS _ _ hl))) (x := v0) (by simpa using hvi) hne hle hli fun h' T t tk hT ho hst' hk => ?_
    obtain ⟨r', sb⟩ := r.freshP ok hp hk hT ho (d := s.drawn) (tk := tk)
    refine k (.ref T) _ _ sb r' (fun a ha => ?_) ⟨hS.trans sb, hst', fun a o q => r'.g.keepS a o q⟩ (.tup (put_at _ _ _) (.cons (.int _ _) (.cons ((hvr.mono hS hμ).mono sb (.refl _)) .nil)) (.cons rfl (.cons (hns y (List.mem_of_getElem? h1)) .nil)))
    obtain ⟨q1, q2, q3, q4⟩ := hp a ha
    refine ⟨?_, q2, q3, q4⟩
    rw [put_ne]
    · exact q1
    · rintro rfl
      simp only [List.mem_cons, List.not_mem_nil, or_false] at ha
      rcases ha with rfl | rfl
      · obtain ⟨⟨_, q⟩, _⟩ := hst; (have q' : s.heap.get? _ = some _ := q); rw [hT] at q'; cases q'
      · obtain ⟨_, ⟨_, q, _⟩⟩ := hst; rw [hT] at q; cases q
  stop := fun c S μ τ s Q E r hp hJ k => by
    obtain ⟨hS, hst, hSh⟩ := hJ
    rw [numbered_len] at hst
    refine enum_stop rm.handled hst (isTuple_of (hSh _ _ (hS _ _ hl))) (by simp [hv.length]) fun h' hk => k _ (r.extBut hp fun b o hb q => hk b o (fun q2 => hb (by simp [q2])) q)
  keep := fun i S S' h h' hJ hSS hk hS' => by
    obtain ⟨hS, ⟨⟨old, q1⟩, ⟨o, q2, q3⟩⟩, hSh⟩ := hJ
    exact ⟨hS.trans hSS, ⟨⟨old, hk e (by simp) _ q1⟩, ⟨o, hk it (by simp) o q2, q3⟩⟩, hS'⟩
  data := fun i S h hJ a ha => by
    obtain ⟨hS, ⟨⟨old, q1⟩, ⟨o, q2, q3, q4⟩⟩, hSh⟩ := hJ
    simp only [List.mem_cons, List.not_mem_nil, or_false] at ha
    rcases ha with rfl | rfl
    · exact ⟨_, q1, fun _ _ e => by cases e⟩
    · exact ⟨o, q2, fun es ep q => by rw [q4] at q; cases q⟩

theorem Lib.withK (Lb : Lib prog w A c n Φ γ) (K : PH) (hK : Sub c.K K) : Lib prog w A { c with K := K } n Φ γ where
  ok := { kind := Lb.ok.kind, kinds := Lb.ok.kinds, kl := Lb.ok.kl, nodup := Lb.ok.nodup, apart := Lb.ok.apart, off := Lb.ok.off, cells := Lb.ok.cells, nodebug := Lb.ok.nodebug, ck := Lb.ok.ck, gk := Lb.ok.gk, gns := Lb.ok.gns, bns := Lb.ok.bns }
  blt := Lb.blt
  fns := Lb.fns
  tab := Lb.tab
  rd := Lb.rd
  fr := let ⟨outer, h1, h2, h3⟩ := Lb.fr; ⟨outer, h1, h2, fun env he => let ⟨k1, L, o, k2, k3, k4⟩ := h3 env he; ⟨k1, L, o, k2, hK _ _ k3, k4⟩⟩
  rz := Lb.rz

theorem okK (ok : c.Ok) (K : PH) : FC.Ok { c with K := K } := { kind := ok.kind, kinds := ok.kinds, kl := ok.kl, nodup := ok.nodup, apart := ok.apart, off := ok.off, cells := ok.cells, nodebug := ok.nodebug, ck := ok.ck, gk := ok.gk, gns := ok.gns, bns := ok.bns }
/-- the frame's own dict, written inside a rule of the library -/
theorem R.frameX (r : R c S μ τ s) {a : Addr} (ha : a ∈ c.fa) {h' : Heap} (hs : ∀ b o, b ≠ a → s.heap.get? b = some o → h'.get? b = some o) {loc : List Slot} {vals : Str → Option Value} (hf : FrS c.env h' vals)
    (hl : ∀ (i : Nat) (x : Str) (sl : Slot), c.names[i]? = some x → loc[i]? = some sl → SlotR S μ (vals x) sl) (hn : loc.length = c.names.length) {d : Drawn} {tk : Nat} :
    R c S μ ⟨loc, τ.mem⟩ ⟨h', s.gens, d, tk, s.os⟩ where
  g := {
    keepS := fun b o e => hs b o (fun q => by have := r.FS a ha; rw [← q, e] at this; cases this) (r.g.keepS b o e)
    baseS := r.g.baseS
    len := r.g.len
    mutR := fun k b cl h1 h2 => (r.g.mutR k b cl h1 h2).keep (.refl _) (.refl _) (fun _ => id) fun hn => by
      obtain ⟨_, o, ho⟩ := (r.g.mutR k b cl h1 h2).here hn
      rw [ho, hs b o (live_ne (r.FM a ha) ⟨k, h1, cl, h2, hn⟩) ho]
    inj := r.g.inj
    gens := r.g.gens
    os_ := r.g.os_ }
  frm := ⟨vals, hf, hl⟩
  len := hn
  keepK := fun b o e => let ⟨o', h1, h2⟩ := r.keepK b o e; ⟨o', hs b o' (fun q => by have := r.FK a ha; rw [← q, e] at this; cases this) h1, h2⟩
  KS := r.KS
  KM := r.KM
  FK := r.FK
  FS := r.FS
  FM := r.FM

theorem ns_unique {h : Heap} {a : Addr} {m m' : Str → Option Value} (x : h.Ns a m) (y : h.Ns a m') (z : Str) : m z = m' z := by
  obtain ⟨o, es, ep, ho, hd, _, hf⟩ := x
  obtain ⟨o', es', ep', ho', hd', _, hf'⟩ := y
  rw [ho] at ho'; cases ho'
  rw [hd] at hd'; cases hd'
  exact (hf z).symm.trans (hf' z)
theorem newAddr (r : R c S μ τ s) (ok : c.Ok) {D : Addr} (hD : s.heap.get? D = none) : S D = none ∧ ¬ IsLive μ τ.mem D ∧ c.K D = none ∧ D ∉ c.fa := by
  refine ⟨?_, fun hl => ?_, ?_, fun hF => ?_⟩
  · cases q : S D with
    | none => rfl
    | some o => rw [r.g.keepS _ _ q] at hD; cases hD
  · obtain ⟨_, o, q⟩ := r.g.live hl; rw [hD] at q; cases q
  · cases q : c.K D with
    | none => rfl
    | some o => obtain ⟨o', q, _⟩ := r.keepK _ _ q; rw [hD] at q; cases q
  · obtain ⟨vals, hf, _⟩ := r.frm
    rcases List.mem_cons.mp hF with rfl | ha
    · obtain ⟨m, ⟨o, _, _, q, _⟩, _⟩ := hf.ns; rw [hD] at q; cases q
    · obtain ⟨p, hp, rfl⟩ := List.mem_map.mp ha
      obtain ⟨o, q, _⟩ := hf.cell p.1 p.2 (ok.cells p hp).1 (ok.cells p hp).2
      rw [hD] at q; cases q

theorem assign_ok (Lb : Lib prog w A c n Φ γ) {i : Nat} {nm : Str} {v : PySem.Expr} {p pos : Pos} {y : PV} (hn : c.names[i]? = some nm) (hs : swapsWith v (some (.Name nm p)) pos.line c.env = pure false) (he : Ev prog w A c (eval v c.env) τ y τ1) (h : setV i y τ1 = some τ') :
    Ex prog w A c (exec (.Assign [.Name nm p] v pos) c.env) τ .next τ' := fun S μ s Q E r k => by
  cases setV_eq h
  exact wpAny_Assign_Name (he S μ s _ E r fun u S1 μ1 s1 g1 g2 r1 hu => store_ok (sl := .val y) Lb.ok r1 hn ⟨u, rfl, hu⟩ fun s' r' => k .next S1 μ1 s' g1 g2 r' rfl) hs

theorem assign_lst (Lb : Lib prog w A c n Φ γ) {i : Nat} {nm : Str} {es : List PySem.Expr} {p pos p2 : Pos} {ys : List PV} (hn : c.names[i]? = some nm) (he : Evs prog w A c (spliced (backTo p2 (starEach es c.env))) τ ys τ1) (h : newB i ys τ1 = some τ') :
    Ex prog w A c (exec (.Assign [.Name nm p] (.List es p2) pos) c.env) τ .next τ' := fun S μ s Q E r k => by
  obtain ⟨hz, rfl⟩ := gd_inv h
  · refine wpAny_Assign_Name (wpAny_List_spliced (he S μ s _ E r fun vs S1 μ1 s1 g1 g2 r1 hvs => ⟨by rw [hvs.length]; exact Nat.le_trans hz.2.1 lid_line, ?_⟩))
    have r2 := r1.newB Lb.ok hvs (noS_iff hz.2.2) 0 (d := s1.drawn) (tk := s1.toks)
    refine store_ok (sl := .bld τ1.mem.length) Lb.ok r2 hn ⟨s1.heap.objs.size, ?_, rfl⟩ fun s' r' => k .next S1 _ s' g1 (g2.trans (.app _ _)) r' rfl
    rw [← r1.g.len, List.getElem?_append_right (Nat.le_refl _)]; simp

theorem assign_compSub (Lb : Lib prog w A c n Φ γ) (rm : Room A n) {nm x y : Str} {scope : Scope} {j : Int} {i t : Nat} {p0 p1 p2 p3 px py pos spos : Pos} {kd : Nat} {h : H} {xs zs : List PV} (f : ScopeFit scope x [])
    (hnm : c.names[i]? = some nm) (hp : peek τ i = some h) (hd : deref τ.mem h = some (.list xs)) (hl : xs.length ≤ lid) (hz : subsV j xs = some zs) (hy : c.names[t]? = some y) (hset : setV t (.list zs) τ = some τ') :
    Ex prog w A c (exec (.Assign [.Name y py] (.ListComp (.Subscript (.Name x p1) (.Constant (.int j) kd p2) p3) [⟨.Name x px, .Name nm p0, [], 0⟩] scope pos) spos) c.env) τ .next τ' := by
  obtain ⟨b, hb, hloc⟩ : ∃ b, swapsWith (.ListComp (.Subscript (.Name x p1) (.Constant (.int j) kd p2) p3) [⟨.Name x px, .Name nm p0, [], 0⟩] scope pos) (some (.Name y py)) spos.line c.env = pure b ∧ (b = true → c.env.kindOf y = some .local) := by
    refine ⟨_, rfl, fun h => ?_⟩
    simp only [Bool.and_eq_true, beq_iff_eq] at h
    exact h.1.1.2
  cases b with
  | false => exact assign_ok Lb hy hb (ev_compSub Lb rm f hnm hp hd hl hz) hset
  | true =>
    intro S μ s Q E r k
    have hky := hloc rfl
    cases setV_eq hset
    refine wpAny_Assign_ListComp_walk (fun _ => true) (sF S j) hb (fun y hy e => by have := f.free y hy e; simp at this) f.cell f.kind f.loc f.here hky (by rw [Lb.ok.kind]; rfl) (peek_ok Lb.ok r hnm hp fun v hv => ?_)
    obtain ⟨a, vs, rfl, hL, hvs⟩ := (hv.deref r hd).list r
    obtain ⟨vals, hf, hsl⟩ := r.frm
    obtain ⟨m, hm, hmv⟩ := hf.ns
    refine pyIter_go rm r hL (by rw [hvs.length]; exact hl) fun I fp wr n P St W e1 e2 e3 e4 o h1 h2 h3 => ?_
    subst e1 e2 e3 e4
    have hlt : c.env.locals < s.heap.objs.size := hm.lt
    refine ⟨_, _, _, _, _, _, m, rfl, W, h3, h1, h2, fun q => by have q := List.mem_singleton.mp q; rw [q] at hlt; exact Nat.lt_irrefl _ hlt, hm.keeps (Ext.push _ _), subs_quiet f r hz hvs, ?_⟩
    intro D h' tk us ws hD hIs hPl hlen hP hF hns hk
    have hD0 : s.heap.get? D = none := none_ext (Ext.push _ _) hD
    have ext : ∀ b q, b ≠ c.env.locals → s.heap.get? b = some q → h'.get? b = some q := fun b q hb e => hk b q hb (fun q2 => by have q2 := List.mem_singleton.mp q2; have h8 := Heap.lt_size e; rw [q2] at h8; exact Nat.lt_irrefl _ h8) (Ext.push _ _ _ _ e)
    have hvr := subs_done hz hvs hlen hP hF
    obtain ⟨mD, hPl⟩ := hPl
    obtain ⟨n1, n2, n3, n4⟩ := newAddr r Lb.ok hD0
    have sb : Sub S (Mine.put S D (listObj us.toList mD)) := Sub.put fun o' q => by rw [n1] at q; cases q
    have hlst : VR (Mine.put S D (listObj us.toList mD)) μ (.ref D) (.list zs) := .list (put_at _ _ _) (IsLO.of _ _) (hvr.mono sb (.refl _)) (subs_at hz).2.1
    have hcl : ∀ (z : Str), c.env.kindOf z = some .cell → z ≠ y := fun z hz q => by rw [q, hky] at hz; cases hz
    have r0 : R c S μ ⟨τ.loc.set t .unset, τ.mem⟩ ⟨h', s.gens, s.drawn, tk, s.os⟩ := by
      refine r.frameX (a := c.env.locals) (List.mem_cons_self ..) ext (vals := fun z => if z = y then some (.ref D) else vals z) ⟨⟨_, hns, fun z hz => ?_⟩, fun z a hz ha => ?_⟩ (fun j z sl' hz e => ?_) (by rw [List.length_set]; exact r.len)
      · by_cases q : z = y
        · simp [q]
        · simp only [q, if_false]; exact hmv z hz
      · simp only [hcl z hz, if_false]
        obtain ⟨o, ho, hd⟩ := hf.cell z a hz ha
        exact ⟨o, ext a o (Lb.ok.off _ (mem_of_lookup ha)) ho, hd⟩
      · by_cases q : t = j
        · subst q
          rw [List.getElem?_set_self (by rw [r.len]; exact (List.getElem?_eq_some_iff.mp hy).1)] at e
          cases e; trivial
        · rw [List.getElem?_set_ne q] at e
          have hzy : z ≠ y := fun q2 => q (nodup_at Lb.ok.nodup hy (q2 ▸ hz))
          simp only [hzy, if_false]
          exact hsl j z sl' hz e
    have r1 := r0.put (o := listObj us.toList mD) (a := D) (by rw [hPl]) n2 n3 n4
    have r2 := r1.relabel Lb.ok (sl := .val (.list zs)) hy fun vals' hf' _ => ?_
    · rw [List.set_set] at r2
      exact k .next _ μ _ sb (.refl _) r2 rfl
    · obtain ⟨m2, hm2, hmv2⟩ := hf'.ns
      have e1 := hmv2 y hky
      have e2 : m2 y = some (.ref D) := by
        have := ns_unique hm2 hns y
        simpa using this
      exact ⟨.ref D, e1.symm.trans e2, hlst⟩
end
end Mine
end
noncomputable section
open PySem PySem.W PyProof.Rows PySem.Calls
set_option Elab.async false
set_option linter.unusedVariables false
set_option maxRecDepth 100000
namespace Mine

/-- outside X nothing changes, and in X slots alone -/
structure Upd (X : List Addr) (h h' : Heap) : Prop where
  same : ∀ a o, a ∉ X → h.get? a = some o → h'.get? a = some o
  slots : h.UpToSlots h'

theorem GR.upd {base : Heap} {os : OsState} {S : PH} {μ : List Addr} {mem : List MCell} {s : Shared} (g : GR base os S μ mem s) {X : List Addr} {h' : Heap} (hX : ∀ a ∈ X, S a = none ∧ ¬ IsLive μ mem a) (u : Upd X s.heap h') {d : Drawn} {tk : Nat} : GR base os S μ mem ⟨h', s.gens, d, tk, s.os⟩ where
  keepS := fun a o e => u.same a o (fun hm => by rw [(hX a hm).1] at e; cases e) (g.keepS a o e)
  baseS := g.baseS
  len := g.len
  mutR := fun k a cl h1 h2 => (g.mutR k a cl h1 h2).keep (.refl _) (.refl _) (fun _ => id) fun hn => by
    obtain ⟨_, o, ho⟩ := (g.mutR k a cl h1 h2).here hn
    rw [ho, u.same a o (fun hm => (hX a hm).2 ⟨k, h1, cl, h2, hn⟩) ho]
  inj := g.inj
  gens := g.gens
  os_ := g.os_

theorem R.upd {c : FC} {S : PH} {μ : List Addr} {τ : St} {s : Shared} (r : R c S μ τ s) {X : List Addr} {h' : Heap} (hX : ∀ a ∈ X, S a = none ∧ ¬ IsLive μ τ.mem a ∧ ((∃ o, s.heap.get? a = some o ∧ ∃ es ep, o.data = .dict es ep) ∨ c.K a = none)) (u : Upd X s.heap h') {d : Drawn} {tk : Nat} : R c S μ τ ⟨h', s.gens, d, tk, s.os⟩ where
  g := r.g.upd (fun a ha => ⟨(hX a ha).1, (hX a ha).2.1⟩) u
  frm := by
    obtain ⟨vals, f, h⟩ := r.frm
    refine ⟨vals, ⟨?_, fun x k hx hk => ?_⟩, h⟩
    · obtain ⟨m, a, b⟩ := f.ns; exact ⟨m, Heap.UpToSlots.ns u.slots a, b⟩
    · obtain ⟨o, ho, hd⟩ := f.cell x k hx hk
      obtain ⟨sl, e⟩ := u.slots k o ho (fun vs q => by rw [hd] at q; cases q)
      exact ⟨_, e, hd⟩
  len := r.len
  keepK := fun a o e => by
    obtain ⟨o', h1, h2⟩ := r.keepK a o e
    by_cases hm : a ∈ X
    · rcases (hX a hm).2.2 with ⟨o2, h3, es, ep, hd⟩ | hK
      · rw [h1] at h3; cases h3
        obtain ⟨sl, e2⟩ := u.slots a o' h1 (fun vs q => by rw [hd] at q; cases q)
        exact ⟨_, e2, h2.trans (.inr ⟨⟨es, ep, hd⟩, rfl⟩)⟩
      · rw [hK] at e; cases e
    · exact ⟨o', u.same a o' hm h1, h2⟩
  KS := r.KS
  KM := r.KM
  FK := r.FK
  FS := r.FS
  FM := r.FM

theorem funFr {S : PH} {μ : List Addr} {mem : List MCell} {h B : Heap} : ∀ {l : List Env}, (∀ env ∈ l, FrIn S μ mem h env) → (∀ L ∈ l.filterMap (·.frame), B.get? L = none) → h.FunFrames B l
  | [], _, _ => trivial
  | env :: l, hf, hB => by
    obtain ⟨hk, L, o, hL, ho, ⟨es, ep, hd⟩, _⟩ := hf env (List.mem_cons_self ..)
    have e : (env :: l).filterMap (·.frame) = L :: l.filterMap (·.frame) := by rw [List.filterMap_cons, hL]
    refine ⟨hk, ⟨L, o, hL, hB L (by rw [e]; exact List.mem_cons_self ..), ho, fun vs q => by rw [hd] at q; cases q⟩, funFr (fun v hv => hf v (List.mem_cons_of_mem _ hv)) fun a ha => hB a (by rw [e]; exact List.mem_cons_of_mem _ ha)⟩
theorem frIn_mem {S : PH} {μ : List Addr} {mem : List MCell} {h : Heap} : ∀ {l : List Env}, (∀ env ∈ l, FrIn S μ mem h env) → ∀ a ∈ l.filterMap (·.frame), S a = none ∧ ¬ IsLive μ mem a ∧ ∃ o, h.get? a = some o ∧ ∃ es ep, o.data = .dict es ep := fun {l} hf a ha => by
  obtain ⟨env, he, hL⟩ := List.mem_filterMap.mp ha
  obtain ⟨_, L, o, hL', ho, hd, hS, hl⟩ := hf env he
  rw [hL] at hL'; cases hL'
  exact ⟨hS, hl, o, ho, hd⟩

section
variable {prog : Program} {w : World} {A : Around} {c : FC} {S S' : PH} {μ μ' : List Addr} {τ τ1 τ2 τ3 τ' : St} {s : Shared} {n : Nat} {Φ : Fns} {γ : String → Option PV}

theorem catch_ok (Lb : Lib prog w A c n Φ γ) (r : R c S μ τ s) {old : Addr → Prop} {e : Addr} (hair : Air old S μ τ.mem s.heap e) (hK0 : ∀ a o, c.K a = some o → old a) {j : Nat} {q z : Str} {np p2 p3 pos : Pos} {y : PV}
    (hq : q = Str.ofString "ValueError") (hg : q ∈ c.gs.1) (hz : c.names[j]? = some z) (hl : look τ j = some (y, τ')) {Q : Flow → Shared → Prop} {E : Value → Shared → Prop} (k : KX c S μ τ' (.ret y) Q) :
    wpAny (model prog w) A (noteFrame (.ref e) c.env) (fun _ s₂ => wpAny (model prog w) A (setFlight (.ref e) none) (fun _ s₃ =>
      wpAny (model prog w) A (handleBy (.ref e) c.env [.ExceptHandler (some (.Name q np)) none [.Return (some (.Name z p2)) p3] pos]) Q E s₃) E s₂) E s := by
  subst hq
  obtain ⟨oe, vs, T, oT, ts, a0, he, hcls, hd, hv0, hv1, hTe, hT, hdT, h3, ⟨e1, e2, e3⟩, t1, t2, t3⟩ := hair
  obtain ⟨outer, hA, hf, ho⟩ := Lb.fr
  have stk : ∀ env ∈ c.env :: outer, FrIn S μ τ.mem s.heap env := by
    obtain ⟨l, h1, h2⟩ := r.stk Lb.ok Lb.fr
    rw [hA] at h1; cases h1; exact h2
  have fm := frIn_mem stk
  generalize hX : (c.env :: outer).filterMap (·.frame) = X at fm
  have inX : ∀ a ∈ X, (TI.gone s.heap (e :: T :: X)).get? a = none := fun a ha => TI.gone_none (List.mem_cons_of_mem _ (List.mem_cons_of_mem _ ha))
  have fl : Heap.FlyingW (TI.gone s.heap (e :: T :: X)) (c.env :: outer) e (.type "ValueError") a0 s.heap :=
    ⟨fun b o q => (TI.gone_some q).2, TI.gone_none (List.mem_cons_self ..), funFr stk (fun L hL => inX L (hX ▸ hL)), oe, vs, T, oT, ts, he, ⟨hcls, hv0⟩, hd, hv1, TI.gone_none (List.mem_cons_of_mem _ (List.mem_cons_self ..)), hTe, hT, hdT, h3⟩
  have up : ∀ {h'}, Heap.StaysIn (TI.gone s.heap (e :: T :: X)) h' → s.heap.UpToSlots h' → Upd (e :: T :: X) s.heap h' := fun h1 h2 => ⟨fun a o hn ho => h1 a o ((TI.gone_get hn).trans ho), h2⟩
  have kn : ∀ a, ¬ old a → c.K a = none := fun a ha => by
    cases q : c.K a with
    | none => rfl
    | some o => exact absurd (hK0 a o q) ha
  have Xok : ∀ a ∈ e :: T :: X, S a = none ∧ ¬ IsLive μ τ.mem a ∧ ((∃ o, s.heap.get? a = some o ∧ ∃ es ep, o.data = .dict es ep) ∨ c.K a = none) := fun a ha => by
    rcases List.mem_cons.mp ha with rfl | ha
    · exact ⟨e1, e2, .inr (kn _ e3)⟩
    · rcases List.mem_cons.mp ha with rfl | ha
      · exact ⟨t1, t2, .inr (kn _ t3)⟩
      · exact ⟨(fm a ha).1, (fm a ha).2.1, .inl (fm a ha).2.2⟩
  refine wpAny_looks_onW hA hf fl fun h4 held4 u4 => ?_
  refine wpAny_landsW held4 fun h5 fl5 u5 => ?_
  have r5 : R c S μ τ ⟨h5, s.gens, s.drawn, s.toks, s.os⟩ := r.upd Xok (up fl5.1 (u4.trans u5))
  refine wpAny_handleBy_builtin (X := "ValueError") (T := "ValueError") (b := true) PySem.F.isExc_ValueError PySem.F.notTuple_ValueError (by rw [isSubtype_type]; kernel_rfl) ?_
  refine global_ok Lb.ok r5 hg (Lb.blt ("ValueError", .type "ValueError") (List.mem_of_getElem? (i := 10) rfl)) ?_
  obtain ⟨ob, hob, hobc⟩ := fl5.there
  refine ⟨rfl, ⟨ob, hob, hobc⟩, ?_⟩
  rw [if_pos rfl]
  refine lands_againW fl5 fun h6 fl6 u6 => ?_
  have r6 : R c S μ τ ⟨h6, s.gens, s.drawn, s.toks, s.os⟩ := r.upd Xok (up fl6.1 ((u4.trans u5).trans u6))
  exact wpAny_execs_cons (wpAny_Return_some (look_ok Lb.ok r6 hz hl fun v S1 μ1 s1 g1 g2 r1 hv => k (.ret v) S1 μ1 s1 g1 g2 r1 ⟨v, rfl, hv⟩))

/-- the loop that ends where the stream ends -/
theorem tryLoop (Lb : Lib prog w A c n Φ γ) (rm : Room A n) {i a j : Nat} {x f y q z : Str} {kd : Nat} {pc px pf py pp pas np p2 p3 pos : Pos} {rest : List Stmt} {bd : St → Option (Fl × St)}
    (hx : c.names[i]? = some x) (hf : f = Str.ofString "read_uint1") (hfg : f ∈ c.gs.1) (hy : c.names[a]? = some y) (hq : q = Str.ofString "ValueError") (hg : q ∈ c.gs.1) (hz : c.names[j]? = some z) {gr : List PV → List MCell → Option (PV × List MCell)} (hΦ : Φ "read_uint1" = some gr)
    (ha : ∀ τ v τ1 τ2, ev Φ γ (.call "read_uint1" [.var a]) τ = some (v, τ1) → setV i v τ1 = some τ2 → Ex prog w A c (exec (.Assign [.Name x px] (.Call (.Name f pf) [.Name y py] [] pp) pas) c.env) τ .next τ2)
    (hb : ∀ τ fl τ', bd τ = some (fl, τ') → Ex prog w A c (execs rest c.env) τ fl τ') {fl : Fl} {Q : Flow → Shared → Prop} {E : Value → Shared → Prop} {Qw : Flow → Shared → Prop} :
    ∀ (k : Nat) (τ : St) (S : PH) (μ : List Addr) (s : Shared) (m : Nat), tryL (finV a j) (fun τ => (ev Φ γ (.call "read_uint1" [.var a]) τ).bind fun p => (setV i p.1 p.2).bind fun τ2 => bd τ2) k τ = some (fl, τ') → R c S μ τ s → KX c S μ τ' fl Q →
      WhlRest prog w A (fun e s₁ => wpAny (model prog w) A (noteFrame e c.env) (fun _ s₂ => wpAny (model prog w) A (setFlight e none) (fun _ s₃ => wpAny (model prog w) A (handleBy e c.env [.ExceptHandler (some (.Name q np)) none [.Return (some (.Name z p2)) p3] pos]) Q E s₃) E s₂) E s₁)
        c.env (.Constant (.bool true) kd pc) (.Assign [.Name x px] (.Call (.Name f pf) [.Name y py] [] pp) pas :: rest) [] Qw m s
  | 0, τ, S, μ, s, m, h, r, kx => by simp [tryL] at h
  | k + 1, τ, S, μ, s, m, h, r, kx => by
    refine whl_turn (k := m) PassesOwn.looking ?_
    refine isTrue_plain (wpAny_Constant_bool ?_) rfl
    refine wpAny_truthy_bool (WhlIf.yes rfl ?_)
    refine wpAny_execs_cons ?_
    replace h : (match finV a j τ with
      | some r => some r
      | none => ((ev Φ γ (.call "read_uint1" [.var a]) τ).bind fun p => (setV i p.1 p.2).bind fun τ2 => bd τ2).bind fun p => match p.1 with
        | .next => tryL (finV a j) (fun τ => (ev Φ γ (.call "read_uint1" [.var a]) τ).bind fun p => (setV i p.1 p.2).bind fun τ2 => bd τ2) k p.2
        | .cont => tryL (finV a j) (fun τ => (ev Φ γ (.call "read_uint1" [.var a]) τ).bind fun p => (setV i p.1 p.2).bind fun τ2 => bd τ2) k p.2
        | _ => none) = some (fl, τ') := h
    cases hfin : finV a j τ with
    | some res =>
      rw [hfin] at h
      cases h
      · obtain ⟨v, hv, hfin⟩ := Option.bind_eq_some_iff.mp hfin
        obtain ⟨ms, h1, h2⟩ := Option.bind_eq_some_iff.mp hfin
        obtain ⟨⟨yv, τe⟩, h3, h4⟩ := Option.map_eq_some_iff.mp h2
        cases h4
        refine wpAny_Assign_Name ?_ rfl
        obtain ⟨ad, o, fd, hkn, ho, hfd, hc⟩ := Lb.rz gr hΦ
        subst hf
        refine Call_Name rfl (global_ok Lb.ok r hfg hkn ?_)
        refine callWith_function (o := o) (fd := fd) (evalArgs_plain (spliced_cons (look_ok Lb.ok r hy (y := v) (τ' := τ) (by unfold look; rw [valAt_inv hv]) fun u S1 μ1 s1 g1 g2 r1 hu => spliced_nil ?_)))
        refine ⟨⟨r1.base _ _ ho, hfd⟩, ?_⟩
        refine hc A S1 μ1 τ.mem s1 [u] [v] ms _ _ rm (r1.stk Lb.ok Lb.fr) r1.g (.cons hu .nil) h1 fun e S2 μ2 s2 g3 g4 gr2 kp air => ?_
        have r2 := r1.after Lb.ok g3 g4 gr2 kp
        exact catch_ok Lb r2 air (fun b o hK => let ⟨o', h, _⟩ := r1.keepK b o hK; ⟨⟨o', h⟩, r1.KS b o hK, r1.KM b o hK⟩) hq hg hz h3 (kx.mono (g1.trans g3) (g2.trans g4))
    | none =>
      rw [hfin] at h
      obtain ⟨⟨fl1, τ1⟩, h, h4⟩ := Option.bind_eq_some_iff.mp h
      obtain ⟨⟨v, τ2⟩, h1, h⟩ := Option.bind_eq_some_iff.mp h
      obtain ⟨τ3, h2, h3⟩ := Option.bind_eq_some_iff.mp h
      refine ha _ _ _ _ h1 h2 S μ s _ _ r fun f1 S1 μ1 s1 g1 g2 r1 hf1 => ?_
      cases hf1
      refine hb _ _ _ h3 S1 μ1 s1 _ _ r1 fun f2 S2 μ2 s2 g3 g4 r2 hf2 => ?_
      have kx2 := kx.mono (g1.trans g3) (g2.trans g4)
      cases fl1 with
      | next => cases hf2; exact tryLoop Lb rm hx hf hfg hy hq hg hz hΦ ha hb k τ1 S2 μ2 s2 m h4 r2 kx2
      | cont => cases hf2; exact tryLoop Lb rm hx hf hfg hy hq hg hz hΦ ha hb k τ1 S2 μ2 s2 m h4 r2 kx2
      | brk => cases h4
      | ret v => cases h4
end
end Mine
end
noncomputable section
open PySem PySem.W PyProof.Rows PySem.Calls
set_option Elab.async false
set_option linter.unusedVariables false
set_option maxRecDepth 100000
namespace Mine

section
variable {prog : Program} {w : World} {A : Around} {n : Nat} {Φ : Fns} {γ : String → Option PV}

theorem X.noComp2 {ns : List Str} {gs : List Str × List Str} {x : X} {v : PySem.Expr} {g : List Comprehension} {sc : Scope} {p : Pos} (h : X.Is ns gs x (.SetComp v g sc p) = true) : x = .any := by cases x <;> first | rfl | exact nob h
theorem X.noComp3 {ns : List Str} {gs : List Str × List Str} {x : X} {v w : PySem.Expr} {g : List Comprehension} {sc : Scope} {p : Pos} (h : X.Is ns gs x (.DictComp v w g sc p) = true) : x = .any := by cases x <;> first | rfl | exact nob h
theorem swaps_plain {ns : List Str} {gs : List Str × List Str} {x : X} {v : PySem.Expr} {nm : Str} {p : Pos} {ln : Nat} {env : Env} (h : X.Is ns gs x v = true) (hx : x ≠ .any) (hv : asgFit x v = true) (hc : isCSub x = false) :
    swapsWith v (some (.Name nm p)) ln env = pure false := by
  cases v with
  | ListComp =>
    replace hv : (false || isCSub x) = true := hv
    rw [hc] at hv; exact nob hv
  | SetComp => exact absurd (X.noComp2 h) hx
  | DictComp => exact absurd (X.noComp3 h) hx
  | _ => rfl
theorem swaps_tuple {v : PySem.Expr} {es : List PySem.Expr} {k : Nat} {p : Pos} {ln : Nat} {env : Env} : swapsWithSole [.Tuple es k p] v ln env = pure false := by
  cases v <;> rfl

theorem for_ok {c : FC} {τ τ1 τ' : St} {fl : Fl} (Lb : Lib prog w A c n Φ γ) (rm : Room A n) {target it : PySem.Expr} {body orelse : List Stmt} {pos : Pos} {x : PV} {xs : List PV}
    {bd : PV → St → Option St} (hbd : ∀ x τ τ', bd x τ = some τ' → ∀ K v S μ s (Q : Unit → Shared → Prop) (E : Value → Shared → Prop), R { c with K := K } S μ τ s → VR S μ v x → (∀ s', R { c with K := K } S μ τ' s' → Q () s') → wpAny (model prog w) A (assign target c.env v) Q E s)
    {fb : St → Option (Fl × St)} (hb : ∀ τ fl τ', fb τ = some (fl, τ') → ∀ K, Sub c.K K → Ex prog w A { c with K := K } (execs body c.env) τ fl τ')
    {fe : St → Option (Fl × St)} (he : ∀ τ fl τ', fe τ = some (fl, τ') → Ex prog w A c (execs orelse c.env) τ fl τ')
    (hit : Ev prog w A c (eval it c.env) τ x τ1) (hx : itemsV x = some xs) (hfs : ∀ v, foldedSetIterable it c.env v = pure v) (hF : forL bd fb fe xs τ1 = some (fl, τ')) :
    Ex prog w A c (exec (.For target it body orelse pos) c.env) τ fl τ' := fun S μ s Q E r k => by
  refine wpAny_For (hit S μ s _ E r fun v S1 μ1 s1 g1 g2 r1 hv => ?_) hfs
  refine iter_ok Lb.ok rm r1 hv hx target fun itv ps J s2 Li r2 hp hJ => ?_
  exact loop_ok Li Lb.ok hbd hb he (i := 0) (Nat.zero_le _) (by simpa using hF) r2 hp hJ (.refl _) (k.mono g1 g2) fun f s' q => q

theorem forE_ok {c : FC} {τ τ1 τ' : St} {fl : Fl} (Lb : Lib prog w A c n Φ γ) (rm : Room A n) {es : List PySem.Expr} {kk : Nat} {tp : Pos} {f : Str} {it : PySem.Expr} {body : List Stmt} {p1 p2 pos : Pos} {x : PV} {xs : List PV}
    (hf : f = Str.ofString "enumerate") (hg : f ∈ c.gs.1) (hst : starEach [it] c.env = [(false, eval it c.env)])
    {bd : PV → St → Option St} (hbd : ∀ x τ τ', bd x τ = some τ' → ∀ K v S μ s (Q : Unit → Shared → Prop) (E : Value → Shared → Prop), R { c with K := K } S μ τ s → VR S μ v x → (∀ s', R { c with K := K } S μ τ' s' → Q () s') → wpAny (model prog w) A (assign (.Tuple es kk tp) c.env v) Q E s)
    {fb : St → Option (Fl × St)} (hb : ∀ τ fl τ', fb τ = some (fl, τ') → ∀ K, Sub c.K K → Ex prog w A { c with K := K } (execs body c.env) τ fl τ')
    (hit : Ev prog w A c (eval it c.env) τ x τ1) (hx : enumV x = some xs) (hF : forL bd fb (fun τ => some (.next, τ)) xs τ1 = some (fl, τ')) :
    Ex prog w A c (exec (.For (.Tuple es kk tp) (.Call (.Name f p1) [it] [] p2) body [] pos) c.env) τ fl τ' := fun S μ s Q E r k => by
  subst hf
  cases x with
  | tup ys =>
    obtain ⟨hx, e⟩ := gd_inv hx
    subst e
    · refine wpAny_For (Call_Name1 (global_ok Lb.ok r hg (Lb.blt ("enumerate", .type "enumerate") (List.mem_of_getElem? (i := 9) rfl)) ?_) hst) (fun _ => rfl)
      refine PySem.callWith_type rfl (evalArgs_plain (spliced_cons (hit S μ s _ E r fun v S1 μ1 s1 g1 g2 r1 hv => spliced_nil ?_)))
      obtain ⟨l, vs, m, rfl, e, hvs, hns⟩ := hv.sh
      have hlt : l < s1.heap.objs.size := r1.S_lt e
      refine call_enum_tup (r1.g.keepS _ _ e) fun h' he hi ext => ?_
      refine wpAny_pyIter_enum he ?_
      have r2 := r1.ext ext (d := s1.drawn) (tk := s1.toks)
      have hp : Priv c S1 μ1 τ1.mem [s1.heap.objs.size + 1, s1.heap.objs.size] := fun a ha => by
        have hD : s1.heap.get? a = none := by
          simp only [List.mem_cons, List.not_mem_nil, or_false] at ha
          rcases ha with rfl | rfl
          · exact freed_none (Nat.le_succ _)
          · exact freed_none (Nat.le_refl _)
        exact newAddr r1 Lb.ok hD
      have Li := LoopIt.enum (prog := prog) (w := w) (A := A) (es := es) (kk := kk) (pos := tp) rm e hvs hns (e := s1.heap.objs.size + 1) (it := s1.heap.objs.size) (Nat.succ_ne_self _) (Nat.ne_of_lt (Nat.lt_succ_of_lt hlt)) (Nat.ne_of_lt hlt)
      exact loop_ok Li Lb.ok hbd hb (fe := fun τ => some (.next, τ)) (fun τ fl τ' q => by cases q; exact fun S μ s Q E r k => wpAny_execs_nil (k .next S μ s (.refl _) (.refl _) r rfl)) (i := 0) (Nat.zero_le _) (by simpa using hF) r2 hp
        ⟨.refl _, ⟨⟨_, he⟩, hi⟩, fun a o q => r2.g.keepS a o q⟩ (.refl _) (k.mono g1 g2) fun f s' q => q
  | _ => exact no hx

theorem nil_ok {c : FC} : ∀ τ fl τ', (fun τ => some (Fl.next, τ)) τ = some (fl, τ') → Ex prog w A c (execs [] c.env) τ fl τ' := fun τ fl τ' q => by
  cases q; exact fun S μ s Q E r k => wpAny_execs_nil (k .next S μ s (.refl _) (.refl _) r rfl)

theorem names_two {ns : List Str} {is : List Nat} {x y : Str} {p q : Pos} (h : namesAre ns is [.Name x p, .Name y q] = true) : ∃ i j, is = [i, j] ∧ ns[i]? = some x ∧ ns[j]? = some y := by
  cases is with
  | nil => exact nob h
  | cons i is =>
    obtain ⟨_, _, _, e, h1, h2⟩ := namesAre_cons h
    cases e
    cases is with
    | nil => exact nob h2
    | cons j is =>
      obtain ⟨_, _, _, e, h3, h4⟩ := namesAre_cons h2
      cases e
      cases is with
      | nil => exact ⟨i, j, rfl, at_of h1, at_of h3⟩
      | cons => exact nob h4

theorem assignT_ok {c : FC} {τ τ1 τ' : St} (Lb : Lib prog w A c n Φ γ) (rm : Room A n) {is : List Nat} {es : List PySem.Expr} {kk : Nat} {tp pos : Pos} {v : PySem.Expr} {y : PV} (hn : namesAre c.names is es = true) (hd : is.Nodup) (hfit : tupFit c.gs es v = true)
    (he : Ev prog w A c (eval v c.env) τ y τ1) (h : setT is y τ1 = some τ') : Ex prog w A c (exec (.Assign [.Tuple es kk tp] v pos) c.env) τ .next τ' := fun S μ s Q E r k => by
  have plain : swappedStores [.Tuple es kk tp] v c.env = pure none → wpAny (model prog w) A (exec (.Assign [.Tuple es kk tp] v pos) c.env) Q E s := fun hs =>
    Assign_Tuple (he S μ s _ E r fun u S1 μ1 s1 g1 g2 r1 hu => bind_tup Lb.ok rm r1 hn hu h fun s' r' => k .next S1 μ1 s' g1 g2 r' rfl) swaps_tuple hs
  cases v with
  | Tuple vs k2 vp =>
    obtain ⟨p, q, a, b, rfl, rfl, hf⟩ := tupFit_inv hfit
    obtain ⟨i, j, rfl, h1, h2⟩ := names_two hn
    have hij : i ≠ j := fun e => (List.nodup_cons.mp hd).1 (e ▸ List.mem_singleton.mpr rfl)
    obtain ⟨f1, hf⟩ := Bool.and_eq_true_iff.mp hf
    obtain ⟨f2, hf⟩ := Bool.and_eq_true_iff.mp hf
    obtain ⟨f3, hf⟩ := Bool.and_eq_true_iff.mp hf
    obtain ⟨f4, hf⟩ := Bool.and_eq_true_iff.mp hf
    obtain ⟨f5, hf⟩ := Bool.and_eq_true_iff.mp hf
    obtain ⟨f6, hf⟩ := Bool.and_eq_true_iff.mp hf
    obtain ⟨f7, f8⟩ := Bool.and_eq_true_iff.mp hf
    have nk : ∀ x, (!c.gs.2.contains x) = true → x ∉ c.gs.2 := fun x hx hm => by rw [List.contains_iff_mem.mpr hm] at hx; cases hx
    have kx : c.env.kindOf p.1 = some .local := Lb.ok.kl _ (mem_names h1) (nk _ f1)
    have ky : c.env.kindOf q.1 = some .local := Lb.ok.kl _ (mem_names h2) (nk _ f2)
    refine Assign_Tuple_swapped (names := [p.1, q.1]) (he S μ s _ E r fun u S1 μ1 s1 g1 g2 r1 hu => ?_) swaps_tuple
      (swapped_eq Lb.ok.kind kx ky (beq_iff_eq.mp f3) (bne_iff_ne.mp f4) ((Bool.not_eq_true' _).mp f5) ((Bool.not_eq_true' _).mp f6) ((Bool.not_eq_true' _).mp f7) ((Bool.not_eq_true' _).mp f8))
    exact bind_swap Lb.ok rm r1 hij h1 h2 hu h fun s' r' => k .next S1 μ1 s' g1 g2 r' rfl
  | _ => exact plain rfl

theorem X.call1_is {ns : List Str} {gs : List Str × List Str} {fn : String} {f y : Str} {a : Nat} {p1 p2 p3 : Pos} (h2 : f = Str.ofString fn) (h3 : gs.1.contains f = true) (h4 : nameAt ns a y = true) :
    X.Is ns gs (.call fn [.var a]) (.Call (.Name f p1) [.Name y p2] [] p3) = true := by
  subst h2
  show (Str.ofString fn == Str.ofString fn && (gs.1.contains (Str.ofString fn) && ((nameAt ns a y && true) && true))) = true
  rw [beq_self_eq_true (Str.ofString fn), h3, h4]; rfl
/-! one statement, read back -/
section
variable {ns : List Str} {gs : List Str × List Str} {s : Stmt}
theorem C.assign_k {P : Stmt → Prop} {i : Nat} {e : X} (h : C.Is ns gs (.assign i e) s = true) (k : ∀ x p v p2, ns[i]? = some x → e.Is ns gs v = true → asgFit e v = true → P (.Assign [.Name x p] v p2)) : P s :=
  anyk h fun q h1 h => anyk h fun x h2 h => by
    rw [dAsg_inv h1, dName_inv h2]; exact k _ _ _ _ (at_of (an h).1) (an (an h).2).1 (an (an h).2).2
theorem C.assignT_k {P : Stmt → Prop} {is : List Nat} {e : X} (h : C.Is ns gs (.assignT is e) s = true) (k : ∀ es n p v p2, namesAre ns is es = true → e.Is ns gs v = true → is.Nodup → tupFit gs es v = true → P (.Assign [.Tuple es n p] v p2)) : P s :=
  anyk h fun q h1 h => anyk h fun x h2 h => by
    rw [dAsg_inv h1, dTup_inv h2]; exact k _ _ _ _ _ (an h).1 (an (an h).2).1 (of_decide_eq_true (an (an (an h).2).2).1) (an (an (an h).2).2).2
theorem C.aug_k {P : Stmt → Prop} {i : Nat} {o : Operator} {e : X} (h : C.Is ns gs (.aug i o e) s = true) (k : ∀ x p v p2, ns[i]? = some x → e.Is ns gs v = true → P (.AugAssign (.Name x p) o v p2)) : P s :=
  anyk h fun q h1 h => anyk h fun x h2 h => by
    rw [dAug_inv h1, dName_inv h2, beq_iff_eq.mp (an (an h).2).1]; exact k _ _ _ _ (at_of (an h).1) (an (an h).2).2
theorem C.app_k {P : Stmt → Prop} {i : Nat} {e : X} (h : C.Is ns gs (.app i e) s = true) (k : ∀ x p1 ap v p p2, ns[i]? = some x → (ap.endLine == p.line) = true → e.Is ns gs v = true → P (.Expr (.Call (.Attribute (.Name x p1) (Str.ofString "append") ap) [v] [] p) p2)) : P s :=
  anyk h fun q h1 h => anyk (an (an (an h).2).2).2 fun v h2 h3 => by
    rw [dDo_inv h1, beq_iff_eq.mp (an (an h).2).1, one_inv h2]; exact k _ _ _ _ _ _ (at_of (an h).1) (an (an (an h).2).2).1 h3
theorem C.pop_k {P : Stmt → Prop} {i : Nat} (h : C.Is ns gs (.pop i) s = true) (k : ∀ x p1 ap p p2, ns[i]? = some x → (ap.endLine == p.line) = true → P (.Expr (.Call (.Attribute (.Name x p1) (Str.ofString "pop") ap) [] [] p) p2)) : P s :=
  anyk h fun q h1 h => by
    rw [dDo_inv h1, beq_iff_eq.mp (an (an h).2).1, List.isEmpty_iff.mp (an (an (an h).2).2).2]; exact k _ _ _ _ _ (at_of (an h).1) (an (an (an h).2).2).1
theorem C.ite_k {P : Stmt → Prop} {q : X} {t e : List C} (h : C.Is ns gs (.ite q t e) s = true) (k : ∀ x b o p, q.Is ns gs x = true → C.Iss ns gs t b = true → C.Iss ns gs e o = true → P (.If x b o p)) : P s :=
  anyk h fun q h1 h => by rw [dIfS_inv h1]; exact k _ _ _ _ (an h).1 (an (an h).2).1 (an (an h).2).2
theorem C.for_k {P : Stmt → Prop} {i : Nat} {it : X} {b : List C} (h : C.Is ns gs (.for_ i it b) s = true) (k : ∀ x p e bd p2, ns[i]? = some x → it.Is ns gs e = true → C.Iss ns gs b bd = true → P (.For (.Name x p) e bd [] p2)) : P s :=
  anyk h fun l h1 h => anyk h fun x h2 h => by
    rw [dFor_inv h1, dName_inv h2, List.isEmpty_iff.mp (an (an (an h).2).2).2]; exact k _ _ _ _ _ (at_of (an h).1) (an (an h).2).1 (an (an (an h).2).2).1
theorem C.forT_k {P : Stmt → Prop} {is : List Nat} {it : X} {b o : List C} (h : C.Is ns gs (.forT is it b o) s = true) (k : ∀ es n p e bd els p2, namesAre ns is es = true → it.Is ns gs e = true → C.Iss ns gs b bd = true → C.Iss ns gs o els = true → P (.For (.Tuple es n p) e bd els p2)) : P s :=
  anyk h fun l h1 h => anyk h fun x h2 h => by
    rw [dFor_inv h1, dTup_inv h2]; exact k _ _ _ _ _ _ _ (an h).1 (an (an h).2).1 (an (an (an h).2).2).1 (an (an (an h).2).2).2
theorem C.forE_k {P : Stmt → Prop} {is : List Nat} {it : X} {b : List C} (h : C.Is ns gs (.forE is it b) s = true) (k : ∀ es n p p1 e p3 bd p2, namesAre ns is es = true → gs.1.contains (Str.ofString "enumerate") = true → it.Is ns gs e = true → C.Iss ns gs b bd = true → P (.For (.Tuple es n p) (.Call (.Name (Str.ofString "enumerate") p1) [e] [] p3) bd [] p2)) : P s :=
  anyk h fun l h1 h => anyk h fun x h2 h => anyk h fun f h3 h => anyk h fun e h4 h => by
    have k2 := an (an (an h).2).2
    have k3 := an k2.2
    rw [dFor_inv h1, dTup_inv h2, dCall_inv h3, one_inv h4, beq_iff_eq.mp (an (an h).2).1, List.isEmpty_iff.mp (an k3.2).2]
    exact k _ _ _ _ _ _ _ _ (an h).1 k2.1 k3.1 (an k3.2).1
theorem C.ret_k {P : Stmt → Prop} {e : X} (h : C.Is ns gs (.ret e) s = true) (k : ∀ v p, e.Is ns gs v = true → P (.Return (some v) p)) : P s :=
  anyk h fun q h1 h => anyk h fun v h2 h => by rw [dRet_inv h1, h2]; exact k _ _ h
theorem C.assert_k {P : Stmt → Prop} {e : X} (h : C.Is ns gs (.assert e) s = true) (k : ∀ v p, e.Is ns gs v = true → P (.Assert v none p)) : P s :=
  anyk h fun q h1 h => by rw [dAssert_inv h1, Option.isNone_iff_eq_none.mp (an h).1]; exact k _ _ (an h).2
theorem C.try_k {P : Stmt → Prop} {b : List C} (h : C.Is ns gs (.try_ b) s = true) (k : ∀ bd h hs p, C.Iss ns gs b bd = true → P (.Try bd (h :: hs) [] [] p)) : P s :=
  anyk h fun t h1 h => by
    have k2 := an (an (an h).2).2
    obtain ⟨r, h2⟩ := Option.isSome_iff_exists.mp k2.1
    rw [dTry_inv h1, hdOf_inv h2, List.isEmpty_iff.mp (an h).1, List.isEmpty_iff.mp (an (an h).2).1]; exact k _ _ _ _ k2.2
theorem C.tryw_k {P : Stmt → Prop} {i a j : Nat} {b : List C} (h : C.Is ns gs (.tryw i a b j) s = true) (k : ∀ t : Tw, ns[i]? = some t.a.x.1 → t.a.f.1 = Str.ofString "read_uint1" → gs.1.contains t.a.f.1 = true → nameAt ns a t.a.y.1 = true → C.Iss ns gs b t.b = true → t.h.q.1 = Str.ofString "ValueError" → t.h.q.1 ∈ gs.1 → ns[j]? = some t.h.z.1 → P t.stmt) : P s :=
  anyk h fun t h1 h => by
    have k2 := an (an (an h).2).2
    have k4 := an (an k2.2).2
    have k6 := an (an k4.2).2
    rw [dTryw_inv h1]
    exact k t (at_of (an h).1) (beq_iff_eq.mp (an (an h).2).1) k2.1 (an k2.2).1 k4.1 (beq_iff_eq.mp (an k4.2).1) (in_of k6.1) (at_of k6.2)
theorem C.cons_k {P : List Stmt → Prop} {x : C} {xs : List C} {es : List Stmt} (h : C.Iss ns gs (x :: xs) es = true) (k : ∀ e r, x.Is ns gs e = true → C.Iss ns gs xs r = true → P (e :: r)) : P es := by
  cases es with
  | nil => exact nob h
  | cons e r => exact ank h (k e r)
end

theorem isCSub_k {P : X → Prop} {e : X} (h : isCSub e = true) (k : ∀ it j, P (.compSub it j)) : P e := by
  cases e with
  | compSub it j => exact k it j
  | _ => exact nob h
theorem asg_sub (rm : Room A n) {i : Nat} {it : X} {j : Int} {c : FC} (Lb : Lib prog w A c n Φ γ) {x : Str} {p p2 : Pos} {v : PySem.Expr} {y : PV} {τ τ1 τ2 : St} (h1 : c.names[i]? = some x) (h2 : X.Is c.names c.gs (.compSub it j) v = true) (h4 : ev Φ γ (.compSub it j) τ = some (y, τ1)) (h6 : setV i y τ1 = some τ2) :
    Ex prog w A c (exec (.Assign [.Name x p] v p2) c.env) τ .next τ2 := by
  apply X.compSub_k h2
  intro cp hi1 hs
  refine bdk h4 fun i' g0 h4 => bdk h4 fun hh g1 h4 => bdk h4 fun z g2 h4 => bdk h4 fun xs g3 h4 => ifk h4 fun hq h4 => ?_
  obtain ⟨zs, g4, g5⟩ := Option.map_eq_some_iff.mp h4
  cases g5; cases varOf_inv g0
  rw [lOf_inv g3] at g2
  apply X.var_k (P := fun e => Ex prog w A c (exec (.Assign [.Name x p] (.ListComp (.Subscript (.Name cp.x.1 cp.x.2) (.Constant (.int j) cp.k.1 cp.k.2) cp.p) [⟨.Name cp.x.1 cp.y, e, [], 0⟩] cp.sc cp.pos) p2) c.env) τ .next τ2) hi1
  intro nm hx
  exact assign_compSub Lb rm (scopeOk_fit hs) hx g1 g2 hq g4 h1 h6
/-- `x = e` -/
theorem asg_ok (rm : Room A n) {i : Nat} {e : X} {c : FC} (Lb : Lib prog w A c n Φ γ) {st : Stmt} {τ τ' : St} {fl : Fl} (hi : C.Is c.names c.gs (.assign i e) st = true) (h : ex Φ γ (.assign i e) τ = some (fl, τ')) : Ex prog w A c (exec st c.env) τ fl τ' := by
  apply C.assign_k hi
  intro x1 p1 v1 p2 h1 h2 h3
  replace h : (match lstOf e with
    | some xs => (evs Φ γ xs τ).bind fun p => (newB i p.1 p.2).map fun τ2 => (Fl.next, τ2)
    | none => (ev Φ γ e τ).bind fun p => (setV i p.1 p.2).map fun τ2 => (Fl.next, τ2)) = some (fl, τ') := h
  cases hl : lstOf e with
  | some xs =>
    rw [hl] at h
    cases lstOf_inv hl
    refine bdk h fun p h4 h5 => ?_
    obtain ⟨τ2, h6, h7⟩ := Option.map_eq_some_iff.mp h5
    apply finm h7
    apply X.lst_k (P := fun v => Ex prog w A c (exec (.Assign [.Name x1 p1] v p2) c.env) τ .next τ2) h2
    intro es q h2
    exact assign_lst Lb h1 (evs_ok Lb rm xs _ _ _ _ h2 h4 _) h6
  | none =>
    rw [hl] at h
    refine bdk h fun p h4 h5 => ?_
    obtain ⟨τ2, h6, h7⟩ := Option.map_eq_some_iff.mp h5
    apply finm h7
    cases hc : isCSub e with
    | false => exact assign_ok Lb h1 (swaps_plain h2 (ev_any h4) h3 hc) (ev_ok Lb rm e _ _ _ _ h2 h4) h6
    | true =>
      obtain ⟨y, τ1⟩ := p
      clear h hl h3 hi h5 h7
      revert h2 h4
      exact isCSub_k (P := fun e => X.Is c.names c.gs e v1 = true → ev Φ γ e τ = some (y, τ1) → Ex prog w A c (exec (.Assign [.Name x1 p1] v1 p2) c.env) τ .next τ2) hc fun it j h2 h4 => asg_sub rm Lb h1 h2 h4 h6

theorem ex_rest {c : FC} {st : Stmt} {rest : List Stmt} {cs : List C} {τ τ' : St} {p : Fl × St} {fl : Fl} (e1 : Ex prog w A c (exec st c.env) τ p.1 p.2) (h2 : goOn (exs Φ γ cs) p = some (fl, τ')) (k : exs Φ γ cs p.2 = some (fl, τ') → Ex prog w A c (execs rest c.env) p.2 fl τ') : Ex prog w A c (execs (st :: rest) c.env) τ fl τ' := by
  obtain ⟨fl1, τ1⟩ := p
  intro S μ s Q E r kk
  refine wpAny_execs_cons (e1 S μ s _ E r fun f S1 μ1 s1 g1 g2 r1 hf => ?_)
  cases fl1 with
  | next => cases hf; exact k h2 S1 μ1 s1 Q E r1 (kk.mono g1 g2)
  | brk => cases hf; cases h2; exact kk .brk S1 μ1 s1 g1 g2 r1 rfl
  | cont => cases hf; cases h2; exact kk .cont S1 μ1 s1 g1 g2 r1 rfl
  | ret z => obtain ⟨v, rfl, hv⟩ := hf; cases h2; exact kk (.ret v) S1 μ1 s1 g1 g2 r1 ⟨v, rfl, hv⟩
theorem ex_if {c : FC} {x : PySem.Expr} {b o : List Stmt} {pos : Pos} {τ τ' : St} {p : Bool × St} {fl : Fl} (hT : EvT prog w A c (isTrue x c.env (eval x c.env)) τ p.1 p.2) (k1 : p.1 = true → Ex prog w A c (execs b c.env) p.2 fl τ') (k2 : p.1 = false → Ex prog w A c (execs o c.env) p.2 fl τ') : Ex prog w A c (exec (.If x b o pos) c.env) τ fl τ' := by
  obtain ⟨t, τ1⟩ := p
  intro S μ s Q E r k
  refine wpAny_If (hT S μ s _ E r fun S1 μ1 s1 g1 g2 r1 => ?_)
  cases t with
  | true => exact k1 rfl S1 μ1 s1 Q E r1 (k.mono g1 g2)
  | false => exact k2 rfl S1 μ1 s1 Q E r1 (k.mono g1 g2)
theorem app_any {i : Nat} {τ τ2 : St} {e : X} (h : appV i τ (ev Φ γ e) = some τ2) : e ≠ .any := by
  rintro rfl
  exact bdk h fun _ _ h => bdk h fun _ _ h => no h
theorem ex_tryw (rm : Room A n) {c : FC} (Lb : Lib prog w A c n Φ γ) {i a j : Nat} {b : List C} {t : Tw} {τ τ' : St} {fl : Fl} (h1 : c.names[i]? = some t.a.x.1) (h2 : t.a.f.1 = Str.ofString "read_uint1") (h3 : c.gs.1.contains t.a.f.1 = true) (h4 : nameAt c.names a t.a.y.1 = true) (h6 : t.h.q.1 = Str.ofString "ValueError") (h7 : t.h.q.1 ∈ c.gs.1) (h8 : c.names[j]? = some t.h.z.1)
    (hb : ∀ τ fl τ', exs Φ γ b τ = some (fl, τ') → Ex prog w A c (execs t.b c.env) τ fl τ') (h : ex Φ γ (.tryw i a b j) τ = some (fl, τ')) : Ex prog w A c (exec t.stmt c.env) τ fl τ' := by
  refine ifk h fun hΦ h => ?_
  obtain ⟨gr, hΦ⟩ := Option.isSome_iff_exists.mp hΦ
  intro S μ s Q E r k
  refine wpAny_Try_except (wpAny_execs_cons (whl_start 0 ?_))
  exact tryLoop Lb rm h1 h2 (in_of h3) (at_of h4) h6 h7 h8 hΦ (fun τ v τ1 τ2 e1 e2 => assign_ok Lb h1 rfl
    (ev_ok Lb rm (.call "read_uint1" [.var a]) _ _ _ _ (X.call1_is h2 h3 h4) e1) e2) hb _ τ S μ s 0 h r k
theorem ex_try {c : FC} {b : List Stmt} {hd : ExceptHandler} {hs : List ExceptHandler} {p : Pos} {τ τ' : St} {fl : Fl} (hb : Ex prog w A c (execs b c.env) τ fl τ') : Ex prog w A c (exec (.Try b (hd :: hs) [] [] p) c.env) τ fl τ' := by
  intro S μ s Q E r k
  refine wpAny_Try_except (hb S μ s _ _ r fun f S1 μ1 s1 g1 g2 r1 hf => ?_)
  have hq := k f S1 μ1 s1 g1 g2 r1 hf
  cases f with
  | next => exact wpAny_execs_nil hq
  | _ => exact hq

mutual
theorem ex_ok (rm : Room A n) : ∀ (x : C) (c : FC) (Lb : Lib prog w A c n Φ γ) (st : Stmt) (τ : St) (fl : Fl) (τ' : St), C.Is c.names c.gs x st = true → ex Φ γ x τ = some (fl, τ') → Ex prog w A c (exec st c.env) τ fl τ'
  | .assign i e, c, Lb, st, τ, fl, τ', hi, h => asg_ok rm Lb hi h
  | .assignT is e, c, Lb, st, τ, fl, τ', hi, h => by
    apply C.assignT_k hi
    intro es k p v p2 h1 h2 h3 h4
    refine bdk h fun q h5 h6 => ?_
    obtain ⟨τ2, h7, h8⟩ := Option.map_eq_some_iff.mp h6
    apply finm h8
    exact assignT_ok Lb rm h1 h3 h4 (ev_ok Lb rm e _ _ _ _ h2 h5) h7
  | .aug i o e, c, Lb, st, τ, fl, τ', hi, h => by
    apply C.aug_k hi
    intro x p v p2 h1 h2
    obtain ⟨τ2, h7, h8⟩ := Option.map_eq_some_iff.mp h
    apply finm h8
    exact fun S μ s Q E r k => aug_ok Lb.ok rm r h1 (fun y τ1 hy => ev_ok Lb rm e _ _ _ _ h2 hy) h7 fun S' μ' s' g1 g2 r' => k .next S' μ' s' g1 g2 r' rfl
  | .app i e, c, Lb, st, τ, fl, τ', hi, h => by
    apply C.app_k hi
    intro x p1 ap v p p2 h1 h4 h3
    obtain ⟨τ2, h7, h8⟩ := Option.map_eq_some_iff.mp h
    apply finm h8
    exact fun S μ s Q E r k => app_ok Lb.ok rm r h1 rfl h4 (star_cons h3 (app_any h7)) (fun y τ1 hy => ev_ok Lb rm e _ _ _ _ h3 hy) h7 fun S' μ' s' g1 g2 r' => k .next S' μ' s' g1 g2 r' rfl
  | .pop i, c, Lb, st, τ, fl, τ', hi, h => by
    apply C.pop_k hi
    intro x p1 ap p p2 h1 h4
    obtain ⟨τ2, h7, h8⟩ := Option.map_eq_some_iff.mp h
    apply finm h8
    exact fun S μ s Q E r k => pop_ok Lb.ok rm r h1 rfl h4 h7 fun s' r' => k .next S μ s' (.refl _) (.refl _) r' rfl
  | .ite q t e, c, Lb, st, τ, fl, τ', hi, h => by
    apply C.ite_k hi
    intro x b o p hi1 hi2 hi3
    refine bdk h fun q h1 h2 => ?_
    exact ex_if (evT_ok Lb rm _ _ _ _ _ hi1 h1) (fun q => exs_ok rm t c Lb _ _ _ _ hi2 ((if_pos q).symm.trans h2)) (fun q => exs_ok rm e c Lb _ _ _ _ hi3 ((if_neg (fun e => Bool.noConfusion (q.symm.trans e))).symm.trans h2))
  | .for_ i it b, c, Lb, st, τ, fl, τ', hi, h => by
    apply C.for_k hi
    intro x p e bd p2 h1 h2 h3
    refine bdk h fun q h5 h => bdk h fun xs h6 h7 => ?_
    exact for_ok Lb rm (bd := setV i) (fun x τ τ' hs K v S μ s Q E r hv kk => bind_one (okK Lb.ok K) r h1 hv hs kk)
      (fun τ fl τ' hb K hK => exs_ok rm b { c with K := K } (Lb.withK K hK) _ _ _ _ h3 hb) nil_ok (ev_ok Lb rm it _ _ _ _ h2 h5) h6 (folded_ok h2 (ev_any h5)) h7
  | .forT is it b o, c, Lb, st, τ, fl, τ', hi, h => by
    apply C.forT_k hi
    intro es n p e bd els p2 h1 h2 h3 h4
    refine bdk h fun q h7 h => bdk h fun xs h8 h9 => ?_
    exact for_ok Lb rm (bd := setT is) (fun x τ τ' hs K v S μ s Q E r hv kk => bind_tup (okK Lb.ok K) rm r h1 hv hs kk)
      (fun τ fl τ' hb K hK => exs_ok rm b { c with K := K } (Lb.withK K hK) _ _ _ _ h3 hb) (fun τ fl τ' hb => exs_ok rm o c Lb _ _ _ _ h4 hb) (ev_ok Lb rm it _ _ _ _ h2 h7) h8 (folded_ok h2 (ev_any h7)) h9
  | .forE is it b, c, Lb, st, τ, fl, τ', hi, h => by
    apply C.forE_k hi
    intro es n p p1 e p3 bd p2 h1 h3 h4 h5
    refine bdk h fun q h7 h => bdk h fun xs h8 h9 => ?_
    exact forE_ok Lb rm rfl (in_of h3) (star_cons h4 (ev_any h7)) (bd := setT is) (fun x τ τ' hs K v S μ s Q E r hv kk => bind_tup (okK Lb.ok K) rm r h1 hv hs kk)
      (fun τ fl τ' hb K hK => exs_ok rm b { c with K := K } (Lb.withK K hK) _ _ _ _ h5 hb) (ev_ok Lb rm it _ _ _ _ h4 h7) h8 h9
  | .ret e, c, Lb, st, τ, fl, τ', hi, h => by
    apply C.ret_k hi
    intro v p hi
    obtain ⟨q, h1, h2⟩ := Option.map_eq_some_iff.mp h
    apply finm h2
    exact fun S μ s Q E r k => wpAny_Return_some (ev_ok Lb rm e _ _ _ _ hi h1 S μ s _ E r fun v S1 μ1 s1 g1 g2 r1 hv => k (.ret v) S1 μ1 s1 g1 g2 r1 ⟨v, rfl, hv⟩)
  | .brk, c, Lb, st, τ, fl, τ', hi, h => by
    obtain ⟨p, hp⟩ := Option.isSome_iff_exists.mp hi
    rw [dBrk_inv hp]
    apply fin h
    exact fun S μ s Q E r k => wpAny_Break (k .brk S μ s (.refl _) (.refl _) r rfl)
  | .cont, c, Lb, st, τ, fl, τ', hi, h => by
    obtain ⟨p, hp⟩ := Option.isSome_iff_exists.mp hi
    rw [dCont_inv hp]
    apply fin h
    exact fun S μ s Q E r k => wpAny_Continue (k .cont S μ s (.refl _) (.refl _) r rfl)
  | .assert e, c, Lb, st, τ, fl, τ', hi, h => by
    apply C.assert_k hi
    intro v p hi
    refine bdk h fun q h1 h2 => ifk h2 fun hq h2 => ?_
    apply fin h2
    exact fun S μ s Q E r k => wpAny_Assert_holds (evT_ok Lb rm e _ _ _ _ hi h1 S μ s _ E r fun S1 μ1 s1 g1 g2 r1 => ⟨hq, k .next S1 μ1 s1 g1 g2 r1 rfl⟩)
  | .try_ b, c, Lb, st, τ, fl, τ', hi, h => by
    apply C.try_k hi
    intro bd hd hs p hi
    exact ex_try (exs_ok rm b c Lb _ _ _ _ hi h)
  | .tryw i a b j, c, Lb, st, τ, fl, τ', hi, h => by
    apply C.tryw_k hi
    intro t h1 h2 h3 h4 h5 h6 h7 h8
    exact ex_tryw rm Lb h1 h2 h3 h4 h6 h7 h8 (fun τ fl τ' h => exs_ok rm b c Lb _ _ _ _ h5 h) h
  | .any, c, Lb, st, τ, fl, τ', hi, h => no h
theorem exs_ok (rm : Room A n) : ∀ (xs : List C) (c : FC) (Lb : Lib prog w A c n Φ γ) (sts : List Stmt) (τ : St) (fl : Fl) (τ' : St), C.Iss c.names c.gs xs sts = true → exs Φ γ xs τ = some (fl, τ') → Ex prog w A c (execs sts c.env) τ fl τ'
  | [], c, Lb, sts, τ, fl, τ', hi, h => by
    apply fin h
    cases List.isEmpty_iff.mp hi
    exact fun S μ s Q E r k => wpAny_execs_nil (k .next S μ s (.refl _) (.refl _) r rfl)
  | x :: xs, c, Lb, sts, τ, fl, τ', hi, h => by
    apply C.cons_k hi
    intro e r hi1 hi2
    refine bdk h fun p h1 h2 => ?_
    exact ex_rest (ex_ok rm x c Lb _ _ _ _ hi1 h1) h2 (exs_ok rm xs c Lb _ _ _ _ hi2)
end
end
end Mine
end
noncomputable section
open PySem PySem.W PyProof.Rows PySem.Calls
set_option Elab.async false
set_option linter.unusedVariables false
set_option maxRecDepth 100000
namespace Mine

noncomputable def scopeFits (sc : Scope) (ns : List Str) (gs : List Str × List Str) : Bool :=
  (sc.kind == .function && !sc.isCoroutine && !sc.isGenerator) &&
  (ns.all fun x => sc.names.lookup x == some .local || (sc.names.lookup x == some .cell && gs.2.contains x)) &&
  (ns.all fun x => gs.2.contains x || sc.names.lookup x == some .local) &&
  (decide ns.Nodup && ns.all fun x => !(x == ("__debug__" : Str))) &&
  (gs.2.all fun x => sc.names.lookup x == some .cell) &&
  (gs.1.all fun x => sc.names.lookup x == some .globalImplicit && !(x == ("__debug__" : Str))) &&
  decide (sc.names.map (·.1)).Nodup

theorem lookup_nodup {α : Type} : ∀ {l : List (Str × α)} {x : Str} {k : α}, (l.map (·.1)).Nodup → (x, k) ∈ l → l.lookup x = some k
  | (y, j) :: r, x, k, h, hm => by
    obtain ⟨h1, h2⟩ := List.nodup_cons.mp h
    rcases List.mem_cons.mp hm with e | hm
    · cases e; simp
    · have hne : x ≠ y := fun e => h1 (List.mem_map.mpr ⟨(x, k), hm, e⟩)
      have hb : (x == y) = false := by simpa using hne
      rw [List.lookup_cons, hb]; exact lookup_nodup h2 hm
theorem cells_keys : ∀ (names : List (Str × NameKind)) (n : Nat) (acc : List (Str × Addr)), (names.map (·.1)).Nodup → (acc.map (·.1)).Nodup → (∀ p ∈ acc, p.1 ∉ names.map (·.1)) → ((cellsFrom n names acc).map (·.1)).Nodup
  | [], n, acc, _, h, _ => h
  | (x, k) :: r, n, acc, h, ha, hd => by
    obtain ⟨h1, h2⟩ := List.nodup_cons.mp h
    unfold cellsFrom
    split
    · refine cells_keys r _ _ h2 (List.nodup_cons.mpr ⟨fun hm => ?_, ha⟩) fun p hp => ?_
      · obtain ⟨p, hp, e⟩ := List.mem_map.mp hm
        exact hd p hp (by rw [e]; exact List.mem_cons_self)
      · rcases List.mem_cons.mp hp with rfl | hp
        · exact h1
        · exact fun hm => hd p hp (List.mem_cons_of_mem _ hm)
    · exact cells_keys r _ _ h2 ha fun p hp hm => hd p hp (List.mem_cons_of_mem _ hm)
theorem cells_mem : ∀ (names : List (Str × NameKind)) (n : Nat) (acc : List (Str × Addr)) (p : Str × Addr), p ∈ cellsFrom n names acc → p ∈ acc ∨ (p.1, NameKind.cell) ∈ names
  | [], n, acc, p, h => .inl h
  | (x, k) :: r, n, acc, p, h => by
    unfold cellsFrom at h
    split at h
    · rename_i hk
      have hk : k = .cell := by simpa using hk
      rcases cells_mem r _ _ p h with h | h
      · rcases List.mem_cons.mp h with rfl | h
        · exact .inr (by rw [hk]; exact List.mem_cons_self)
        · exact .inl h
      · exact .inr (List.mem_cons_of_mem _ h)
    · rcases cells_mem r _ _ p h with h | h
      · exact .inl h
      · exact .inr (List.mem_cons_of_mem _ h)
theorem cells_has : ∀ (names : List (Str × NameKind)) (n : Nat) (acc : List (Str × Addr)) (x : Str), ((x, NameKind.cell) ∈ names ∨ ∃ a, (x, a) ∈ acc) → ∃ a, (x, a) ∈ cellsFrom n names acc
  | [], n, acc, x, h => by
    rcases h with h | h
    · simp at h
    · exact h
  | (y, k) :: r, n, acc, x, h => by
    unfold cellsFrom
    split
    · rename_i hk
      have hk : k = .cell := by simpa using hk
      refine cells_has r _ _ x ?_
      rcases h with h | ⟨a, h⟩
      · rcases List.mem_cons.mp h with e | h
        · cases e; exact .inr ⟨n, List.mem_cons_self⟩
        · exact .inl h
      · exact .inr ⟨a, List.mem_cons_of_mem _ h⟩
    · rename_i hk
      refine cells_has r _ _ x ?_
      rcases h with h | h
      · rcases List.mem_cons.mp h with e | h
        · cases e; simp at hk
        · exact .inl h
      · exact .inr h

theorem bindL_out (ko : Str → Option NameKind) : ∀ (bs : List (Str × Value)) (m : Str → Option Value) (x : Str), x ∉ bs.map (·.1) → bindL ko bs m x = m x
  | [], m, x, _ => rfl
  | (y, v) :: r, m, x, h => by
    simp only [List.map_cons, List.mem_cons, not_or] at h
    unfold bindL
    rw [bindL_out ko r _ x h.2]
    split
    · simp [h.1]
    · rfl
theorem bindC_out (ko : Str → Option NameKind) : ∀ (bs : List (Str × Value)) (m : Str → Option Value) (x : Str), x ∉ bs.map (·.1) → bindC ko bs m x = m x
  | [], m, x, _ => rfl
  | (y, v) :: r, m, x, h => by
    simp only [List.map_cons, List.mem_cons, not_or] at h
    unfold bindC
    rw [bindC_out ko r _ x h.2]
    split
    · rfl
    · simp [h.1]
theorem bind_at (ko : Str → Option NameKind) : ∀ (bs : List (Str × Value)) (m m' : Str → Option Value) (x : Str) (v : Value), (bs.map (·.1)).Nodup → (x, v) ∈ bs → (if ko x = some .local then bindL ko bs m x else bindC ko bs m' x) = some v
  | (y, u) :: r, m, m', x, v, h, hm => by
    obtain ⟨h1, h2⟩ := List.nodup_cons.mp h
    unfold bindL bindC
    rcases List.mem_cons.mp hm with e | hm
    · cases e
      rw [bindL_out ko r _ _ h1, bindC_out ko r _ _ h1]
      by_cases q : ko y = some .local <;> simp [q]
    · exact bind_at ko r _ _ x v h2 hm

structure FnAt0 (base : Heap) (a : Addr) (fd : FuncData) (body : List Stmt) (np : Nat) (ns : List Str) (gs : List Str × List Str) (mg mb : Str → Option Value) : Prop where
  obj : ∃ o, base.get? a = some o ∧ o.data = .func fd
  lim : base.NoLimit
  code : base.CodeRec fd.code fd.qualname
  hbody : fd.body = .stmts body
  clo : fd.closure = []
  fits : scopeFits fd.scope ns gs = true
  np_le : np ≤ ns.length
  gns : base.Ns fd.globals mg
  bns : base.Ns fd.builtins mb
structure FnAt (base : Heap) (a : Addr) (fd : FuncData) (body : List Stmt) (np : Nat) (ns : List Str) (gs : List Str × List Str) (mg mb : Str → Option Value) : Prop extends FnAt0 base a fd body np ns gs mg mb where
  bind : ∀ vals : List Value, vals.length = np → bindArgs fd ⟨vals, []⟩ = pure ((ns.take np).zip vals)

noncomputable def fcOf (base : Heap) (os : OsState) (fd : FuncData) (a L : Addr) (ns : List Str) (gs : List Str × List Str) (mg mb : Str → Option Value) (K : PH) : FC := ⟨base, os, callEnvC fd L a, ns, gs, mg, mb, K⟩

section
variable {prog : Program} {w : World} {base : Heap} {os : OsState} {a : Addr} {fd : FuncData} {body : List Stmt} {np : Nat} {ns : List Str} {gs : List Str × List Str} {mg mb : Str → Option Value} {n : Nat} {Φ : Fns} {γ : String → Option PV}

structure Fits (sc : Scope) (ns : List Str) (gs : List Str × List Str) : Prop where
  kind : sc.kind = .function
  co : sc.isCoroutine = false
  gen : sc.isGenerator = false
  k1 : ∀ x ∈ ns, sc.names.lookup x = some .local ∨ (sc.names.lookup x = some .cell ∧ x ∈ gs.2)
  k2 : ∀ x ∈ ns, x ∉ gs.2 → sc.names.lookup x = some .local
  nd : ns.Nodup
  db : ∀ x ∈ ns, (x == ("__debug__" : Str)) = false
  k3 : ∀ x ∈ gs.2, sc.names.lookup x = some .cell
  k4 : ∀ x ∈ gs.1, sc.names.lookup x = some .globalImplicit ∧ (x == ("__debug__" : Str)) = false
  keys : (sc.names.map (·.1)).Nodup
theorem fits_of {sc : Scope} (h : scopeFits sc ns gs = true) : Fits sc ns gs := by
  unfold scopeFits at h
  simp only [Bool.and_eq_true, beq_iff_eq, List.all_eq_true, Bool.or_eq_true, Bool.not_eq_true', decide_eq_true_eq, List.contains_iff_mem] at h
  obtain ⟨⟨⟨⟨⟨⟨⟨⟨h1, h2⟩, h3⟩, h4⟩, h5⟩, h6, h7⟩, h8⟩, h9⟩, h10⟩ := h
  exact ⟨h1, h2, h3, h4, fun x hx hn => (h5 x hx).resolve_left hn, h6, h7, h8, h9, h10⟩

theorem callEnv_kind (L : Addr) (x : Str) : (callEnvC fd L a).kindOf x = fd.scope.names.lookup x := rfl
theorem cells_ok (f : Fits fd.scope ns gs) (L : Addr) : (∀ p ∈ cellsFrom (L + 1) fd.scope.names [], fd.scope.names.lookup p.1 = some .cell ∧ (cellsFrom (L + 1) fd.scope.names []).lookup p.1 = some p.2) ∧
    ∀ x, fd.scope.names.lookup x = some .cell → ((cellsFrom (L + 1) fd.scope.names []).lookup x).isSome = true := by
  have hk := cells_keys fd.scope.names (L + 1) [] f.keys List.nodup_nil (fun p hp => by simp at hp)
  refine ⟨fun p hp => ⟨?_, lookup_nodup hk hp⟩, fun x hx => ?_⟩
  · rcases cells_mem _ _ _ p hp with h | h
    · simp at h
    · exact lookup_nodup f.keys h
  · obtain ⟨q, hq⟩ := cells_has fd.scope.names (L + 1) [] x (.inl (mem_of_lookup hx))
    rw [lookup_nodup hk hq]; rfl

theorem fc_ok (F : FnAt0 base a fd body np ns gs mg mb) {L : Addr} (K : PH) (hap : (cellsFrom (L + 1) fd.scope.names []).Pairwise fun x y => x.2 ≠ y.2) (hab : ∀ n c, (n, c) ∈ cellsFrom (L + 1) fd.scope.names [] → L < c) : (fcOf base os fd a L ns gs mg mb K).Ok := by
  have f := fits_of F.fits
  obtain ⟨c1, c2⟩ := cells_ok f L
  exact {
    kind := f.kind
    kinds := fun x hx => (f.k1 x hx).imp id fun h => ⟨h.1, c2 x h.1⟩
    kl := f.k2
    nodup := f.nd
    apart := hap
    off := fun p hp e => Nat.lt_irrefl _ (e ▸ hab p.1 p.2 hp)
    cells := c1
    nodebug := f.db
    ck := fun x hx => ⟨f.k3 x hx, c2 x (f.k3 x hx)⟩
    gk := f.k4
    gns := F.gns
    bns := F.bns }

noncomputable def retV (f : Flow) : Value := match f with | .ret v => v | _ => .none
noncomputable def gRun (Φ : Fns) (γ : String → Option PV) (np nl : Nat) (cs : List C) (xs : List PV) (ms : List MCell) : Option (PV × List MCell) := if xs.length = np then runBody Φ γ nl cs xs ms else none

open Classical in
theorem fn_in (F : FnAt0 base a fd body np ns gs mg mb) {A : Around} {S : PH} {μ : List Addr} {mem : List MCell} {s : Shared} {vs : List Value} {xs : List PV}
    (gr : GR base os S μ mem s) (stk : Stk A S μ mem s.heap) (hv : VRs S μ vs xs) (hlen : xs.length = np) {s₁ : Shared}
    (X : InCallC s (callEnvC fd s.heap.objs.size a).locals (bindL (callEnvC fd s.heap.objs.size a).kindOf ((ns.take np).zip vs) fun _ => none) (callEnvC fd s.heap.objs.size a).cells (bindC (callEnvC fd s.heap.objs.size a).kindOf ((ns.take np).zip vs) fun _ => none) s₁) :
    ∃ K : PH, (fcOf base os fd a s.heap.objs.size ns gs mg mb K).Ok ∧ Fram (A.deeper (callEnvC fd s.heap.objs.size a)) (fcOf base os fd a s.heap.objs.size ns gs mg mb K) ∧ R (fcOf base os fd a s.heap.objs.size ns gs mg mb K) S μ (startSt ns.length xs mem) s₁ ∧ (∀ b o, K b = some o → s.heap.get? b = some o) ∧
      ∀ S' μ' τ' s', Pre μ μ' → R (fcOf base os fd a s.heap.objs.size ns gs mg mb K) S' μ' τ' s' → GR base os S' μ (τ'.mem.take mem.length) s' ∧ Kept S μ mem s.heap S' μ (τ'.mem.take mem.length) s'.heap := by
  have ext : Ext base s.heap := fun b o e => gr.keepS _ _ (gr.baseS _ _ e)
  have f := fits_of F.fits
  have hvl : vs.length = np := hv.length.trans hlen
  have hkeys : (((ns.take np).zip vs).map (·.1)) = ns.take np := by
    rw [List.map_fst_zip]; rw [List.length_take, hvl]; omega
  obtain ⟨⟨h₁, tk, rfl⟩, hns, hkeep, _⟩ := X.toInCall
  obtain ⟨K, hK⟩ : ∃ K : PH, K = fun b => if S b = none ∧ ¬ IsLive μ mem b then s.heap.get? b else none := ⟨_, rfl⟩
  have ok := fc_ok (os := os) F K X.apart X.above
  have Kat : ∀ b o, K b = some o → S b = none ∧ ¬ IsLive μ mem b ∧ s.heap.get? b = some o := fun b o e => by
    rw [hK] at e
    simp only at e
    split at e
    · rename_i q; exact ⟨q.1, q.2, e⟩
    · cases e
  have frm : Fram (A.deeper (callEnvC fd s.heap.objs.size a)) (fcOf base os fd a s.heap.objs.size ns gs mg mb K) := by
    obtain ⟨l, hA, hl⟩ := stk
    refine ⟨l, Around.frames_deeper hA, rfl, fun env he => ?_⟩
    obtain ⟨hk, L, o, hL, ho, hd, hS, hli⟩ := hl env he
    refine ⟨hk, L, o, hL, ?_, hd⟩
    show K L = some o
    rw [hK]; simp only [hS, hli, not_false_eq_true, and_self, if_true]; exact ho
  have r0 : R (fcOf base os fd a s.heap.objs.size ns gs mg mb K) S μ (startSt ns.length xs mem) { s with heap := h₁, toks := tk } := by
    have fa : ∀ b ∈ (fcOf base os fd a s.heap.objs.size ns gs mg mb K).fa, s.heap.objs.size ≤ b := fun b hb => by
      rcases List.mem_cons.mp hb with rfl | hb
      · exact Nat.le_refl _
      · obtain ⟨p, hp, rfl⟩ := List.mem_map.mp hb
        exact Nat.le_of_lt (X.above p.1 p.2 hp)
    refine ⟨gr.ext hkeep, ⟨fun x => if fd.scope.names.lookup x = some .local then bindL (callEnvC fd s.heap.objs.size a).kindOf ((ns.take np).zip vs) (fun _ => none) x else bindC (callEnvC fd s.heap.objs.size a).kindOf ((ns.take np).zip vs) (fun _ => none) x, ⟨⟨_, hns, fun x hx => ?_⟩, fun x c hx hc => ?_⟩, ?_⟩, ?_, fun b o e => ?_, fun b o e => (Kat b o e).1, fun b o e => (Kat b o e).2.1, fun b hb => ?_, fun b hb => ?_, fun b hb hl => ?_⟩
    · have hx : fd.scope.names.lookup x = some .local := hx
      simp [hx]
    · have hx' : fd.scope.names.lookup x = some .cell := hx
      have := X.cell x c hc
      simpa [hx'] using this
    · intro i x sl hi hsl
      show SlotR S μ _ sl
      have hi : ns[i]? = some x := hi
      have hsl : (xs.map Slot.val ++ List.replicate (ns.length - xs.length) Slot.unset)[i]? = some sl := hsl
      by_cases hlt : i < xs.length
      · rw [List.getElem?_append_left (by simpa using hlt), List.getElem?_map] at hsl
        obtain ⟨y, hy, rfl⟩ := Option.map_eq_some_iff.mp hsl
        obtain ⟨v, hv1, hv2⟩ := hv.get hy
        refine ⟨v, ?_, hv2⟩
        refine bind_at (callEnvC fd s.heap.objs.size a).kindOf _ _ _ x v (by rw [hkeys]; exact f.nd.sublist (List.take_sublist _ _)) ?_
        refine List.mem_of_getElem? (i := i) ?_
        rw [List.getElem?_zip_eq_some]
        exact ⟨by rw [List.getElem?_take_of_lt (by omega)]; exact hi, hv1⟩
      · rw [List.getElem?_append_right (by simpa using hlt)] at hsl
        have := List.mem_of_getElem? hsl
        rw [List.mem_replicate] at this
        rw [this.2]; trivial
    · show (xs.map Slot.val ++ List.replicate (ns.length - xs.length) Slot.unset).length = ns.length
      have := F.np_le
      simp; omega
    · exact ⟨o, hkeep b o (Kat b o e).2.2, .refl o⟩
    · cases q : (fcOf base os fd a s.heap.objs.size ns gs mg mb K).K b with
      | none => rfl
      | some o => exact absurd (Heap.lt_size (Kat b o q).2.2) (Nat.not_lt.mpr (fa b hb))
    · cases q : S b with
      | none => rfl
      | some o => exact absurd (Heap.lt_size (gr.keepS b o q)) (Nat.not_lt.mpr (fa b hb))
    · exact absurd (gr.lt hl) (Nat.not_lt.mpr (fa b hb))
  refine ⟨K, ok, frm, r0, fun b o e => (Kat b o e).2.2, fun S' μ' τ' s' g2 r' => ?_⟩
  have hle : mem.length ≤ τ'.mem.length := by
    rw [← gr.len, ← r'.g.len]
    by_cases q : μ.length = 0
    · omega
    · have := g2 (μ.length - 1) (μ[μ.length - 1]'(by omega)) (List.getElem?_eq_getElem (by omega))
      have := (List.getElem?_eq_some_iff.mp this).1
      omega
  have up : ∀ {j b}, Live μ (τ'.mem.take mem.length) j b → Live μ' τ'.mem j b := fun {j b} ⟨h1, cl, h2, h3⟩ => by
    refine ⟨g2 _ _ h1, cl, ?_, h3⟩
    have := (List.getElem?_eq_some_iff.mp h2).1
    rw [List.getElem?_take_of_lt (by rw [List.length_take] at this; omega)] at h2
    exact h2
  refine ⟨⟨r'.g.keepS, r'.g.baseS, ?_, ?_, ?_, r'.g.gens, r'.g.os_⟩, ?_⟩
  · rw [List.length_take, gr.len]; omega
  · intro j b cl h1 h2
    have hlt := (List.getElem?_eq_some_iff.mp h2).1
    rw [List.getElem?_take_of_lt (by rw [List.length_take] at hlt; omega)] at h2
    have m := r'.g.mutR j b cl (g2 _ _ h1) h2
    cases cl with
    | dead => trivial
    | lst ys => obtain ⟨m1, ws, q, m2, m3, m4⟩ := m; exact ⟨m1, ws, q, m2, m3.any m4, m4⟩
    | tab t => exact m
    | pos i => exact m
  · exact fun i j b h1 h2 => r'.g.inj i j b (up h1) (up h2)
  · intro b ob hb1 hb2 hb3
    have hKb : K b = some ob := by rw [hK]; simp only [hb2, hb3, not_false_eq_true, and_self, if_true]; exact hb1
    exact ⟨r'.keepK b ob hKb, r'.KS b ob hKb, fun ⟨j, hl⟩ => r'.KM b ob hKb ⟨j, up hl⟩⟩

theorem Room.down {A : Around} {env : Env} (rm : Room A (n + 1)) : Room (A.deeper env) n := ⟨rm.handled, by have := rm.depth; show A.depth + 1 + n < _; omega, by have := rm.units; show A.units + 3 + 20 * n + 20 < _; omega⟩

theorem fn_core (F : FnAt0 base a fd body np ns gs mg mb) {cs : List C} (hcs : C.Iss ns gs cs body = true) (hL : ∀ A L K, (fcOf base os fd a L ns gs mg mb K).Ok → Fram A (fcOf base os fd a L ns gs mg mb K) → Lib prog w A (fcOf base os fd a L ns gs mg mb K) n Φ γ) {A : Around} {S : PH} {μ : List Addr} {mem : List MCell} {s : Shared} {vs : List Value} {xs : List PV} {z : PV} {mem' : List MCell}
    {P : Flow → Shared → Prop} {P2 : Value → Shared → Prop} (rm : Room A (n + 1)) (stk : Stk A S μ mem s.heap) (gr : GR base os S μ mem s) (hv : VRs S μ vs xs) (hlen : xs.length = np) (hg : runBody Φ γ ns.length cs xs mem = some (z, mem'))
    (k : ∀ f S' μ' s', Sub S S' → Pre μ μ' → GR base os S' μ' mem' s' → Kept S μ mem s.heap S' μ' mem' s'.heap → VR S' μ' (retV f) z → P f s') {s₁ : Shared}
    (X : InCallC s (callEnvC fd s.heap.objs.size a).locals (bindL (callEnvC fd s.heap.objs.size a).kindOf ((ns.take np).zip vs) fun _ => none) (callEnvC fd s.heap.objs.size a).cells (bindC (callEnvC fd s.heap.objs.size a).kindOf ((ns.take np).zip vs) fun _ => none) s₁) :
    wpAny (model prog w) (A.deeper (callEnvC fd s.heap.objs.size a)) (execs body (callEnvC fd s.heap.objs.size a)) P P2 s₁ := by
  obtain ⟨K, ok, frm, r0, _, out⟩ := fn_in F gr stk hv hlen X
  unfold runBody at hg
  simp only [Option.bind_eq_some_iff] at hg
  obtain ⟨⟨fl, τ'⟩, hrun, hg⟩ := hg
  have hex := exs_ok rm.down cs _ (hL _ _ K ok frm) body _ _ _ hcs hrun
  refine hex S μ _ _ _ r0 fun fw S' μ' s' g1 g2 r' hf => ?_
  have hz : z.isS = false ∧ mem' = τ'.mem.take mem.length ∧ VR S' μ' (retV fw) z := by
    cases fl with
    | next => cases hf; cases hg; exact ⟨rfl, rfl, .none⟩
    | ret y =>
      obtain ⟨v, rfl, hv'⟩ := hf
      simp only at hg
      split at hg
      · cases hg
      · rename_i hs; cases hg; exact ⟨by simpa using hs, rfl, hv'⟩
    | brk => cases hg
    | cont => cases hg
  obtain ⟨hz1, rfl, hz3⟩ := hz
  obtain ⟨q1, q2⟩ := out S' μ' τ' s' g2 r'
  exact k fw S' μ s' g1 (.refl _) q1 q2 (hz3.any hz1)

theorem fn_ok (F : FnAt base a fd body np ns gs mg mb) {cs : List C} (hcs : C.Iss ns gs cs body = true) (hL : ∀ A L K, (fcOf base os fd a L ns gs mg mb K).Ok → Fram A (fcOf base os fd a L ns gs mg mb K) → Lib prog w A (fcOf base os fd a L ns gs mg mb K) n Φ γ) :
    CallOk prog w base os (n + 1) a (gRun Φ γ np ns.length cs) := by
  intro A S μ mem s vs xs z mem' Q E rm stk gr hv hg k
  have ext : Ext base s.heap := fun b o e => gr.keepS _ _ (gr.baseS _ _ e)
  have f := fits_of F.fits
  obtain ⟨o, ho, hfd⟩ := F.obj
  unfold gRun at hg
  split at hg
  · rename_i hlen
    have hvl : vs.length = np := hv.length.trans hlen
    have hkeys : (((ns.take np).zip vs).map (·.1)) = ns.take np := by
      rw [List.map_fst_zip]; rw [List.length_take, hvl]; omega
    refine wpAny_call (codeAny_call_cells (body := body) (binds := (ns.take np).zip vs) (by have := rm.depth; omega) (ext _ _ ho) hfd (let ⟨mc, x, y⟩ := F.lim; ⟨mc, x.keeps ext, y⟩) (F.code.keeps ext) F.hbody (F.bind vs hvl) F.clo ?_ (fun s₁ X => ?_) f.co f.gen f.kind)
    · intro x hx
      have hx' : x.1 ∈ ns := by
        have h0 : x.1 ∈ ((ns.take np).zip vs).map (·.1) := List.mem_map_of_mem (f := fun q : Str × Value => q.1) hx
        rw [hkeys] at h0
        exact List.mem_of_mem_take h0
      exact (f.k1 _ hx').imp id fun h => ⟨h.1, (cells_ok f _).2 _ h.1⟩
    · exact fn_core F.toFnAt0 hcs hL rm stk gr hv hlen hg (fun f S' μ' s' g1 g2 g3 g4 g5 => k (retV f) S' μ' s' g1 g2 g3 g4 g5) X
  · cases hg

noncomputable def gVa (Φ : Fns) (γ : String → Option PV) (nl : Nat) (cs : List C) (xs : List PV) (ms : List MCell) : Option (PV × List MCell) := (two xs).bind fun q => if q.2.isS then none else runBody Φ γ nl cs [q.1, .tup [q.2]] ms
/-- a def with one name and a starred rest, called with two -/
theorem fn_ok_va (F : FnAt0 base a fd body 2 ns gs mg mb) (hb : ∀ (v u : Value) (s : Shared) (Q : List (Str × Value) → Shared → Prop) (E : Value → Shared → Prop) (A : Around), Q ((ns.take 2).zip [v, .ref s.heap.objs.size]) { s with heap := s.heap.push (tupObj [u] 0) } → wpAny (model prog w) A (bindArgs fd ⟨[v, u], []⟩) Q E s)
    {cs : List C} (hcs : C.Iss ns gs cs body = true) (hL : ∀ A L K, (fcOf base os fd a L ns gs mg mb K).Ok → Fram A (fcOf base os fd a L ns gs mg mb K) → Lib prog w A (fcOf base os fd a L ns gs mg mb K) n Φ γ) : CallOk prog w base os (n + 1) a (gVa Φ γ ns.length cs) := by
  intro A S μ mem s vs xs z mem' Q E rm stk gr hv hg k
  have ext : Ext base s.heap := fun b o e => gr.keepS _ _ (gr.baseS _ _ e)
  have f := fits_of F.fits
  obtain ⟨o, ho, hfd⟩ := F.obj
  refine bdk hg fun q h1 hg => ?_
  by_cases hy : q.2.isS = true
  · rw [if_pos hy] at hg; exact no hg
  rw [if_neg hy] at hg
  obtain ⟨x, y⟩ := q
  rw [two_inv h1] at hv
  obtain ⟨v, u, rfl, hv1, hu1⟩ := two_v hv
  have hS : S s.heap.objs.size = none := by
    cases q : S s.heap.objs.size with
    | none => rfl
    | some o => exact absurd (Heap.lt_size (gr.keepS _ _ q)) (Nat.lt_irrefl _)
  have sb : Sub S (Mine.put S s.heap.objs.size (tupObj [u] 0)) := Sub.put fun o' e => by rw [hS] at e; cases e
  have gr2 : GR base os (Mine.put S s.heap.objs.size (tupObj [u] 0)) μ mem { s with heap := s.heap.push (tupObj [u] 0) } := (gr.ext (Ext.push _ _)).put (Heap.get?_push_size _ rfl) fun hl => Nat.lt_irrefl _ (gr.lt hl)
  have stk2 : Stk A (Mine.put S s.heap.objs.size (tupObj [u] 0)) μ mem (s.heap.push (tupObj [u] 0)) := by
    obtain ⟨l, h1, h2⟩ := stk
    refine ⟨l, h1, fun env he => ?_⟩
    obtain ⟨hk, L, o, hL, ho, hd, hS', hli⟩ := h2 env he
    exact ⟨hk, L, o, hL, Ext.push _ _ _ _ ho, hd, by rw [put_ne _ _ (Nat.ne_of_lt (Heap.lt_size ho))]; exact hS', hli⟩
  have hv2 : VRs (Mine.put S s.heap.objs.size (tupObj [u] 0)) μ [v, .ref s.heap.objs.size] [x, .tup [y]] := .cons (hv1.mono sb (.refl _)) (.cons (.tup (put_at _ _ _) (.cons (hu1.mono sb (.refl _)) .nil) (.cons (by simpa using hy) .nil)) .nil)
  have e2 : Ext base (s.heap.push (tupObj [u] 0)) := ext.trans (Ext.push _ _)
  have hkeys : (((ns.take 2).zip [v, Value.ref s.heap.objs.size]).map (·.1)) = ns.take 2 := by
    rw [List.map_fst_zip]; rw [List.length_take]; simp; omega
  refine wpAny_call (codeAny_call_function (by have := rm.depth; omega) (ext _ _ ho) hfd f.co f.gen F.hbody (F.code.keeps ext) (hb v u s _ _ _ ?_))
  rw [F.clo]
  refine wpAny_newFunctionEnv_cells f.kind (fun p hp => ?_) fun env he s' X => ?_
  · have hx' : p.1 ∈ ns := by
      have h0 : p.1 ∈ ((ns.take 2).zip [v, Value.ref s.heap.objs.size]).map (·.1) := List.mem_map_of_mem (f := fun q : Str × Value => q.1) hp
      rw [hkeys] at h0
      exact List.mem_of_mem_take h0
    exact (f.k1 _ hx').imp id fun h => ⟨h.1, (cells_ok f _).2 _ h.1⟩
  · subst he
    refine ⟨let ⟨mc, a1, a2⟩ := F.lim; ⟨mc, (a1.keeps e2).keeps X.toInCall.keep, a2⟩, codeAny_func ?_⟩
    refine fn_core F hcs hL rm stk2 gr2 hv2 rfl hg (fun f S' μ' s' g1 g2 g3 g4 g5 => k (retV f) S' μ' s' (sb.trans g1) g2 g3 (fun b ob h1 h2 h3 => ?_) g5) X
    have hne : b ≠ s.heap.objs.size := Nat.ne_of_lt (Heap.lt_size h1)
    exact g4 b ob (Ext.push _ _ _ _ h1) (by rw [put_ne _ _ hne]; exact h2) h3

theorem CallOk.mono {g g' : List PV → List MCell → Option (PV × List MCell)} (h : CallOk prog w base os n a g) (hg : ∀ xs ms r, g' xs ms = some r → g xs ms = some r) : CallOk prog w base os n a g' :=
  fun A S μ mem s vs xs z mem' Q E rm stk gr hv e k => h A S μ mem s vs xs z mem' Q E rm stk gr hv (hg _ _ _ e) k
theorem Room.le {A : Around} {m : Nat} (r : Room A m) (h : n ≤ m) : Room A n := ⟨r.handled, by have := r.depth; omega, by have := r.units; omega⟩
theorem CallOk.le {m : Nat} {g : List PV → List MCell → Option (PV × List MCell)} (h : CallOk prog w base os n a g) (hm : n ≤ m) : CallOk prog w base os m a g :=
  fun A S μ mem s vs xs z mem' Q E rm stk gr hv e k => h A S μ mem s vs xs z mem' Q E (rm.le hm) stk gr hv e k
end
end Mine
end
noncomputable section
open PySem PySem.W PyProof.Rows PySem.Calls
set_option Elab.async false
set_option linter.unusedVariables false
set_option maxRecDepth 100000
namespace Mine
section
variable {prog : Program} {w : World} {base : Heap} {os : OsState} {a : Addr} {fd : FuncData} {body : List Stmt} {np : Nat} {ns : List Str} {gs : List Str × List Str} {mg mb : Str → Option Value} {n : Nat} {Φ : Fns} {γ : String → Option PV}

/-- a def of three statements whose last one raises ValueError -/
theorem fn_raise (F : FnAt base a fd body np ns gs mg mb) {c1 c2 : C} {st1 st2 : Stmt} {q m : Str} {kd : Nat} {p1 p2 p3 p4 : Pos} (hbody : body = [st1, st2, .Raise (some (.Call (.Name q p1) [.Constant (.str m) kd p2] [] p3)) none p4])
    (hc1 : C.Is ns gs c1 st1 = true) (hc2 : C.Is ns gs c2 st2 = true) (hq : q = Str.ofString "ValueError") (hgq : q ∈ gs.1)
    (hL : ∀ A L K, (fcOf base os fd a L ns gs mg mb K).Ok → Fram A (fcOf base os fd a L ns gs mg mb K) → Lib prog w A (fcOf base os fd a L ns gs mg mb K) n Φ γ) {g : List PV → List MCell → Option (List MCell)}
    (hg : ∀ xs ms ms', g xs ms = some ms' → xs.length = np ∧ ∃ τ1 τ2, ex Φ γ c1 (startSt ns.length xs ms) = some (.next, τ1) ∧ ex Φ γ c2 τ1 = some (.next, τ2) ∧ τ2.mem.take ms.length = ms') : RaiseOk prog w base os (n + 1) a g := by
  intro A S μ mem s vs xs mem' Q E rm stk gr hv hgx k
  have ext : Ext base s.heap := fun b o e => gr.keepS _ _ (gr.baseS _ _ e)
  have f := fits_of F.fits
  obtain ⟨o, ho, hfd⟩ := F.obj
  obtain ⟨hlen, τ1, τ2, hr1, hr2, rfl⟩ := hg _ _ _ hgx
  have hvl : vs.length = np := hv.length.trans hlen
  have hkeys : (((ns.take np).zip vs).map (·.1)) = ns.take np := by
    rw [List.map_fst_zip]; rw [List.length_take, hvl]; omega
  refine wpAny_call (codeAny_call_cells (body := body) (binds := (ns.take np).zip vs) (by have := rm.depth; omega) (ext _ _ ho) hfd (let ⟨mc, x, y⟩ := F.lim; ⟨mc, x.keeps ext, y⟩) (F.code.keeps ext) F.hbody (F.bind vs hvl) F.clo ?_ (fun s₁ X => ?_) f.co f.gen f.kind)
  · intro x hx
    have hx' : x.1 ∈ ns := by
      have h0 : x.1 ∈ ((ns.take np).zip vs).map (·.1) := List.mem_map_of_mem (f := fun q : Str × Value => q.1) hx
      rw [hkeys] at h0
      exact List.mem_of_mem_take h0
    exact (f.k1 _ hx').imp id fun h => ⟨h.1, (cells_ok f _).2 _ h.1⟩
  obtain ⟨K, ok, frm, r0, hKs, out⟩ := fn_in (os := os) F.toFnAt0 gr stk hv hlen X
  have Lb := hL _ _ K ok frm
  subst hbody
  refine wpAny_execs_cons (ex_ok rm.down c1 _ Lb st1 _ _ _ hc1 hr1 S μ _ _ _ r0 fun fw S1 μ1 s1 g1 g2 r1 hf => ?_)
  cases hf
  refine wpAny_execs_cons (ex_ok rm.down c2 _ Lb st2 _ _ _ hc2 hr2 S1 μ1 _ _ _ r1 fun fw S2 μ2 s2 g3 g4 r2 hf => ?_)
  cases hf
  subst hq
  refine wpAny_execs_cons (wpAny_Raise_call PySem.F.excCall_ValueError PySem.F.excRaise_ValueError rm.down.handled rfl (global_ok ok r2 hgq (Lb.blt ("ValueError", .type "ValueError") (List.mem_of_getElem? (i := 10) rfl)) ⟨rfl, ?_⟩))
  refine evalArgs_plain (spliced_cons ?_)
  show wpAny _ _ (eval (.Constant (.str m) kd p2) _) _ _ _
  refine wpAny_Constant_str ?_
  refine spliced_nil ⟨rfl, by show 1 ≤ sizeLine; rw [sizeLine_eq]; decide, fun h' e hm => ?_⟩
  obtain ⟨outer, hA, hfe, _⟩ := frm
  have stk2 : ∀ env ∈ (callEnvC fd s.heap.objs.size a) :: outer, FrIn S2 μ2 τ2.mem s2.heap env := by
    obtain ⟨l, h1, h2⟩ := r2.stk ok Lb.fr
    rw [hA] at h1; cases h1; exact h2
  have fm := frIn_mem stk2
  generalize hX : ((callEnvC fd s.heap.objs.size a) :: outer).filterMap (·.frame) = X at fm
  obtain ⟨t, het, _, _⟩ := hm.there
  have stay : Heap.StaysIn (TI.gone s2.heap X) h' := fun b o q => hm.keeps b o (TI.gone_some q).2
  have none2 : ∀ b, s2.heap.get? b = none → (TI.gone s2.heap X).get? b = none := fun b hb => by
    cases q : (TI.gone s2.heap X).get? b with
    | none => rfl
    | some o' => have := (TI.gone_some q).2; rw [hb] at this; cases this
  have ff : h'.FunFrames (TI.gone s2.heap X) ((callEnvC fd s.heap.objs.size a) :: outer) :=
    (funFr (B := TI.gone s2.heap X) stk2 fun L hL => TI.gone_none (hX ▸ hL)).of_keeps fun b o hb _ => ⟨o, hm.keeps b o hb, rfl⟩
  refine wpAny_leaving_firstW hA ff hfe het stay (none2 e hm.new) rfl rfl rfl fun h'' left => ?_
  obtain ⟨l1, l2, ⟨oe, vs', T, oT, ts, k1, ⟨k2, k2'⟩, k3, k4, k5, k6, k7, k8, k9⟩, l4⟩ := left
  have upd : Upd X s2.heap h'' := ⟨fun b o hn hb => l1 b o ((TI.gone_get hn).trans hb), (Heap.UpToSlots.of_keeps hm.keeps).trans l4⟩
  have Xok : ∀ b ∈ X, S2 b = none ∧ ¬ IsLive μ2 τ2.mem b ∧ ((∃ o, s2.heap.get? b = some o ∧ ∃ es ep, o.data = .dict es ep) ∨ (fcOf base os fd a s.heap.objs.size ns gs mg mb K).K b = none) := fun b hb => ⟨(fm b hb).1, (fm b hb).2.1, .inl (fm b hb).2.2⟩
  obtain ⟨q1, q2⟩ := out S2 μ2 τ2 ⟨h'', s2.gens, s2.drawn, _, s2.os⟩ (g2.trans g4) (r2.upd Xok upd)
  obtain ⟨q3, q4⟩ := out S2 μ2 τ2 s2 (g2.trans g4) r2
  have T2 : s2.heap.get? T = none := by
    by_cases hT : T ∈ X
    · obtain ⟨o', h1, es, ep, hd⟩ := (fm T hT).2.2
      obtain ⟨sl, h2⟩ := upd.slots T o' h1 fun vs q => by rw [hd] at q; cases q
      rw [k7] at h2; cases h2
      rw [hd] at k8; cases k8
    · cases q : s2.heap.get? T with
      | none => rfl
      | some o' => rw [TI.gone_get hT, q] at k5; cases k5
  have nobody : ∀ b, s2.heap.get? b = none → S2 b = none ∧ ¬ IsLive μ (τ2.mem.take mem.length) b ∧ ¬ Old S μ mem s.heap b := fun b hb => by
    refine ⟨?_, fun ⟨j, h1, cl, h2, h3⟩ => ?_, fun ⟨⟨o', h1⟩, h2, h3⟩ => ?_⟩
    · cases q : S2 b with
      | none => rfl
      | some o' => have := r2.g.keepS b o' q; rw [hb] at this; cases this
    · obtain ⟨_, o', h4⟩ := (q3.mutR j b cl h1 h2).here h3
      rw [hb] at h4; cases h4
    · obtain ⟨⟨o2, h4, _⟩, _⟩ := q4 b o' h1 h2 h3
      rw [hb] at h4; cases h4
  exact k e S2 μ _ (g1.trans g3) (.refl _) q1 q2 ⟨oe, vs', T, oT, ts, _, k1, k2, k3, k2', k4, k6, k7, k8, k9, nobody e hm.new, nobody T T2⟩
end
end Mine
end
noncomputable section
open PySem PySem.W PyProof.Rows PySem.Calls Builtin Builtin.ObjectAttr
set_option Elab.async false
set_option linter.unusedVariables false
set_option maxRecDepth 100000
namespace Mine
theorem fn_read_none : typeLookup (.type "function") (Str.ofString "read") = pure none := by rw [typeLookup_type, builtinLookup_eq_fast]; kernel_rfl
theorem fn_sub_object : isSubtype (.type "function") (.type "object") = pure true := by rw [isSubtype_type]; kernel_rfl
theorem fn_slot_set : PySem.Slot "function" "__setattr__" "object.__setattr__" := .of (owner := "object") (n := "__setattr__") (by rw [typeLookup_type, builtinLookup_eq_fast]; kernel_rfl) (by decide +kernel) (by decide +kernel) (by decide +kernel) (by first | exact .inl (by decide +kernel) | exact .inr (by decide +kernel)) fn_sub_object
theorem fn_slot_get : PySem.Slot "function" "__getattribute__" "object.__getattribute__" := .of (owner := "object") (n := "__getattribute__") (by rw [typeLookup_type, builtinLookup_eq_fast]; kernel_rfl) (by decide +kernel) (by decide +kernel) (by decide +kernel) (by first | exact .inl (by decide +kernel) | exact .inr (by decide +kernel)) fn_sub_object
theorem fn_no_getattr : typeLookup (.type "function") "__getattr__" = pure none := by rw [typeLookup_type, builtinLookup_eq_fast]; kernel_rfl
theorem fn_mro : mroOf (.type "function") = pure [.type "function", .type "object"] := by kernel_rfl
theorem fn_set_args (a b c : Value) : argsOk "object.__setattr__" ⟨[a, b, c], []⟩ := by unfold argsOk; kernel_rfl
theorem fn_get_args (a b : Value) : argsOk "object.__getattribute__" ⟨[a, b], []⟩ := by unfold argsOk; kernel_rfl
theorem fn_set_entry : entryFor table "object.__setattr__" = some Builtin.«object.__setattr__» := entryFor_of_fast (by kernel_rfl)
theorem fn_get_entry : entryFor table "object.__getattribute__" = some Builtin.«object.__getattribute__» := entryFor_of_fast (by kernel_rfl)
theorem fn_pass (self : Value) : refuseLoop self "__setattr__" [.type "function", .type "object"] = pure () := by kernel_rfl

section
variable {prog : Program} {w : World} {A : Around} {E : Value → Shared → Prop} {h : Heap} {g : Array GenState} {d : Drawn} {t : Nat} {os : OsState}
abbrev fnObj (dd : Option Addr) (fd : FuncData) : Obj := { cls := .type "function", dict := dd, data := .func fd, slots := #[] }
theorem fn_store {f : Addr} {fd : FuncData} {v : Value} {tk : Tok} {Q : Fin → Shared → Prop} (hf : h.get? f = some (fnObj none fd))
    (hq : ∀ h' tk' D dobj, h.get? D = none → h'.get? f = some (fnObj (some D) fd) → h'.get? D = some dobj → (∃ es ep, dobj.data = .dict es ep ∧ StrKeys es ∧ nsFind es (Str.ofString "read") = some v) →
      (∀ b o, b ≠ f → h.get? b = some o → h'.get? b = some o) → Q (.done (.ret .none)) ⟨h', g, d, tk', os⟩) :
    wpAny (model prog w) A (Builtin.«object.__setattr__» ⟨[.ref f, .str (Str.ofString "read") tk, v], []⟩) Q E ⟨h, g, d, t, os⟩ := by
  have hT : (⟨h, g, d, t, os⟩ : Shared).TypeIs (.ref f) "function" := ⟨_, hf, rfl⟩
  have hpass := fn_pass (.ref f)
  have hm := fn_mro
  have hn := fn_read_none
  have hx₁ : (h.push { cls := .type "dict", data := .dict #[] }).get? f = some (fnObj none fd) := Heap.get?_push_of_some _ hf
  have hxs : f ≠ h.objs.size := Nat.ne_of_lt (Heap.lt_size hf)
  have hgd : ((h.push { cls := .type "dict", data := .dict #[] }).update f fun o => { cls := o.cls, dict := some h.objs.size, data := o.data, slots := o.slots }).get? h.objs.size
      = some { cls := .type "dict", data := .dict #[] } := (Heap.get?_update_ne _ _ _ _ hxs.symm).trans (Heap.get?_push_at rfl rfl)
  have hgf : ((h.push { cls := .type "dict", data := .dict #[] }).update f fun o => { cls := o.cls, dict := some h.objs.size, data := o.data, slots := o.slots }).get? f = some (fnObj (some h.objs.size) fd) :=
    Heap.get?_update_self _ hx₁ rfl
  have hnd : ((h.push { cls := .type "dict", data := .dict #[] }).update f fun o => { cls := o.cls, dict := some h.objs.size, data := o.data, slots := o.slots }).Ns h.objs.size (fun _ => none) :=
    ⟨_, #[], _, hgd, rfl, fun e he => absurd he (by simp), fun _ => rfl⟩
  have fin : ∀ (P : Unit → Shared → Prop), (∀ h', h'.Ns1 h.objs.size (fun y => if y = Str.ofString "read" then some v else none) → Heap.SameBut h.objs.size ((h.push { cls := .type "dict", data := .dict #[] }).update f fun o => { cls := o.cls, dict := some h.objs.size, data := o.data, slots := o.slots }) h' → ∀ tk', P () ⟨h', g, d, tk', os⟩) →
      wpAny (model prog w) A (nsSet h.objs.size (Str.ofString "read") v) P E ⟨(h.push { cls := .type "dict", data := .dict #[] }).update f fun o => { cls := o.cls, dict := some h.objs.size, data := o.data, slots := o.slots }, g, d, t, os⟩ := fun P hP => wpAny_nsSet1 (Heap.Ns1.of_empty hnd) fun h' hn' hs => hP h' hn' hs _
  unfold Builtin.«object.__setattr__»
  repeat (first | rw [refuse_eq] | rw [hpass] | rw [hm] | rw [hn] | (with_reducible refine wpAny_bind (wpAny_typeOf hT ?_)) | (with_reducible refine wpAny_loadPart_at hf ?_) | (with_reducible refine fin _ fun h' hn' hs tk' => ?_) | wp_step)
  obtain ⟨oD, esD, epD, hoD, hdD, hcD⟩ := hn'.count (Within.cons (Str.ofString "read") v Within.nil)
  have hpl : oD.data.pastItsLine = none := by rw [hdD]; exact pastItsLine_dict (Nat.le_trans hcD (by rw [List.length_cons, List.length_nil, sizeLine_eq]; omega))
  refine wpAny_loadPart_at hoD ?_
  rw [hpl]
  repeat wp_step
  obtain ⟨o', es, ep, e1, e2, e3, eu, e4⟩ := hn'
  refine hq h' tk' h.objs.size o' (Heap.get?_none_of_le (Nat.le_refl _)) ((hs.2 f hxs).trans hgf) e1 ⟨es, ep, e2, e3, by rw [e4]; simp⟩ fun b o hb e => ?_
  exact (hs.2 b (Nat.ne_of_lt (Heap.lt_size e))).trans ((Heap.get?_update_ne _ _ _ _ hb).trans (Heap.get?_push_of_some _ e))

theorem fn_setattr {f : Addr} {fd : FuncData} {v : Value} {Q : Unit → Shared → Prop} (hf : h.get? f = some (fnObj none fd))
    (hq : ∀ h' tk' D dobj, h.get? D = none → h'.get? f = some (fnObj (some D) fd) → h'.get? D = some dobj → (∃ es ep, dobj.data = .dict es ep ∧ StrKeys es ∧ nsFind es (Str.ofString "read") = some v) →
      (∀ b o, b ≠ f → h.get? b = some o → h'.get? b = some o) → Q () ⟨h', g, d, tk', os⟩) :
    wpAny (model prog w) A (setAttr (.ref f) (Str.ofString "read") v) Q E ⟨h, g, d, t, os⟩ := by
  have hT : ∀ t', (⟨h, g, d, t', os⟩ : Shared).TypeIs (.ref f) "function" := fun t' => ⟨_, hf, rfl⟩
  unfold setAttr
  refine wpAny_bind (wpAny_mkText ?_)
  refine wpAny_bind (wpAny_callSpecial?_slot (name := Str.ofString "__setattr__") (hT _) fn_slot_set (wpAny_call_entry fn_slot_set (hT _) fn_set_entry ?_ (fn_set_args _ _ _)))
  refine wpAny_mono (fn_store (Q := fun fin s' => ∃ v', fin = .done (.ret v') ∧ Q () s') hf fun h' tk' D dobj a1 a2 a3 a4 a5 => ⟨_, rfl, hq h' tk' D dobj a1 a2 a3 a4 a5⟩) (fun fin s' h1 => ?_) fun _ _ x => x
  obtain ⟨v', e, q⟩ := h1
  exact ⟨v', e, wpAny_pure q⟩

theorem fn_get {f D : Addr} {fd : FuncData} {v : Value} {dobj : Obj} {tk : Tok} {Q : PySem.Fin → Shared → Prop} (hf : h.get? f = some (fnObj (some D) fd)) (hD : h.get? D = some dobj) (hd : ∃ es ep, dobj.data = .dict es ep ∧ StrKeys es ∧ nsFind es (Str.ofString "read") = some v)
    (hq : Q (.done (.ret v)) ⟨h, g, d, t, os⟩) :
    wpAny (model prog w) A (Builtin.«object.__getattribute__» ⟨[.ref f, .str (Str.ofString "read") tk], []⟩) Q E ⟨h, g, d, t, os⟩ := by
  have hT : (⟨h, g, d, t, os⟩ : Shared).TypeIs (.ref f) "function" := ⟨_, hf, rfl⟩
  have hm := fn_mro
  have hn := fn_read_none
  obtain ⟨es, ep, e2, e3, e4⟩ := hd
  have hns : h.Ns D (nsFind es) := ⟨dobj, es, ep, hD, e2, e3, fun _ => rfl⟩
  have fin : ∀ t' (P : Option Value → Shared → Prop), P (some v) ⟨h, g, d, t', os⟩ → wpAny (model prog w) A (nsGet D (Str.ofString "read")) P E ⟨h, g, d, t', os⟩ := fun t' P hP => wpAny_nsGet hns (by rw [e4]; exact hP)
  unfold Builtin.«object.__getattribute__»
  repeat (first | rw [hm] | rw [hn] | (with_reducible refine wpAny_bind (wpAny_typeOf hT ?_)) | (with_reducible refine wpAny_loadPart_at hf ?_) | (with_reducible refine fin _ _ ?_) | wp_step)
  exact hq

theorem fn_getAttr {f D gg : Addr} {fd : FuncData} {dobj : Obj} {Q : Value → Shared → Prop} (hf : h.get? f = some (fnObj (some D) fd)) (hD : h.get? D = some dobj) (hd : ∃ es ep, dobj.data = .dict es ep ∧ StrKeys es ∧ nsFind es (Str.ofString "read") = some (.ref gg))
    {b : Bool} (hq : ∀ tk, Q (.ref gg) ⟨h, g, d, tk, os⟩) : wpAny (model prog w) A (getAttr (.ref f) (Str.ofString "read") b) Q E ⟨h, g, d, t, os⟩ := by
  have hT : ∀ t', (⟨h, g, d, t', os⟩ : Shared).TypeIs (.ref f) "function" := fun t' => ⟨_, hf, rfl⟩
  have hl := fn_slot_get.lookup
  unfold getAttr
  refine wpAny_bind (wpAny_mkText ?_)
  unfold getAttrBy
  refine wpAny_holding (wpAny_bind (wpAny_typeOf (hT _) ?_))
  rw [hl]
  refine wpAny_bind (wpAny_pure ?_)
  show wpAny _ A (getAttrByItsOwn (.ref f) (.str (Str.ofString "read") t) (.type "function") (.builtin "object.__getattribute__") true b) Q E _
  unfold getAttrByItsOwn
  refine wpAny_bind (wpAny_pure (wpAny_bind (wpAny_attempt (wpAny_holding ?_))))
  have hc : callGetattribute (.ref f) (.str (Str.ofString "read") t) (.builtin "object.__getattribute__") b = boundAndCalled (.builtin "object.__getattribute__") (.ref f) (.str (Str.ofString "read") t) := by
    unfold callGetattribute onTheHeap
    simp
  rw [hc]
  unfold boundAndCalled
  rw [fn_slot_get.bind]
  refine wpAny_bind (wpAny_pure ?_)
  refine wpAny_call_entry fn_slot_get (hT _) fn_get_entry ?_ (fn_get_args _ _)
  exact fn_get hf hD hd ⟨_, rfl, wpAny_pure (hq _)⟩

theorem fn_getMethod {f D gg : Addr} {fd : FuncData} {dobj : Obj} {Q : Value × List Value → Shared → Prop} (hf : h.get? f = some (fnObj (some D) fd)) (hD : h.get? D = some dobj) (hd : ∃ es ep, dobj.data = .dict es ep ∧ StrKeys es ∧ nsFind es (Str.ofString "read") = some (.ref gg))
    {pl : Sem Bool} (hq : ∀ tk, Q (.ref gg, []) ⟨h, g, d, tk, os⟩) : wpAny (model prog w) A (getMethod (.ref f) (Str.ofString "read") pl) Q E ⟨h, g, d, t, os⟩ := by
  have hT : ∀ t', (⟨h, g, d, t', os⟩ : Shared).TypeIs (.ref f) "function" := fun t' => ⟨_, hf, rfl⟩
  have hcn : (Manifest.canonical "object.__getattribute__" != "object.__getattribute__") = false := by decide +kernel
  unfold getMethod
  refine wpAny_bind (wpAny_specialOf (hT _) fn_slot_get.lookup ?_)
  simp only
  rw [if_neg (by rw [hcn]; decide)]
  refine wpAny_bind (wpAny_specialOf (hT _) fn_no_getattr ?_)
  rw [if_neg (by decide)]
  refine wpAny_bind (wpAny_specialOf (hT _) fn_read_none ?_)
  exact wpAny_bind (fn_getAttr hf hD hd fun tk => wpAny_pure (hq tk))
end
end Mine
end
noncomputable section
open PySem PySem.W PyProof.Rows PySem.Calls
set_option Elab.async false
set_option linter.unusedVariables false
set_option maxRecDepth 100000
namespace Mine

structure RB where
  p1 : Pos
  p2 : Pos
  p3 : Pos
  p4 : Pos
  p5 : Pos
  p6 : Pos
  p7 : Pos
  p8 : Pos
  p9 : Pos
  p10 : Pos
  p11 : Pos
  p12 : Pos
  p13 : Pos
  p14 : Pos
  p15 : Pos
  p16 : Pos
  p17 : Pos
  p18 : Pos
  p19 : Pos
  p20 : Pos
  p21 : Pos
  p22 : Pos
  k1 : Nat
  k2 : Nat
  k3 : Nat
theorem rd_body : ∃ B : RB, rdBody = [.Assign [.Name (Str.ofString "piece") B.p1] (.Subscript (.Name (Str.ofString "octets") B.p2) (.Slice (some (.Subscript (.Name (Str.ofString "at") B.p3) (.Constant (.int 0) B.k1 B.p4) B.p5)) (some (.BinOp (.Subscript (.Name (Str.ofString "at") B.p6) (.Constant (.int 0) B.k2 B.p7) B.p8) .Add (.Name (Str.ofString "count") B.p9) B.p10)) Option.none B.p11) B.p12) B.p13,
     .AugAssign (.Subscript (.Name (Str.ofString "at") B.p14) (.Constant (.int 0) B.k3 B.p15) B.p16) .Add (.Call (.Name (Str.ofString "len") B.p17) [.Name (Str.ofString "piece") B.p18] [] B.p19) B.p20, .Return (some (.Name (Str.ofString "piece") B.p21)) B.p22] :=
  ⟨⟨_, _, _, _, _, _, _, _, _, _, _, _, _, _, _, _, _, _, _, _, _, _, _, _, _⟩, rfl⟩
noncomputable def rdScopeFits (sc : Scope) : Bool := sc.kind == .function && !sc.isCoroutine && !sc.isGenerator && sc.names.lookup (Str.ofString "octets") == some .free && sc.names.lookup (Str.ofString "at") == some .free && sc.names.lookup (Str.ofString "count") == some .local &&
  sc.names.lookup (Str.ofString "piece") == some .local && sc.names.lookup (Str.ofString "len") == some .globalImplicit && sc.names.all (fun y => y.2 != .cell)
theorem rd_scope : rdScopeFits rdScope = true := by decide +kernel
theorem picked_extract (b : Array UInt8) {p n : Int} (hp : 0 ≤ p) (hn : 0 ≤ n) : KBy.picked b (some p) (some (p + n)) = b.extract p.toNat (p + n).toNat := by
  rw [KBc.picked_eq]
  have := cut_plain b.toList b.size (by simp) (some p) (some (p + n)) (by simpa using hp) (by simp; omega)
  simp only [Option.elim_some] at this ⊢
  rw [this]
  apply Array.ext'
  simp [Array.toList_extract, List.extract_eq_drop_take]

section
variable {prog : Program} {w : World} {A : Around} {E : Value → Shared → Prop} {base : Heap} {os : OsState} {S S' : PH} {μ μ' : List Addr} {mem : List MCell} {s : Shared} {n : Nat} {mg mb : Str → Option Value}
theorem GR.mutX (g : GR base os S μ mem s) {k : Nat} {a : Addr} {c0 c1 : MCell} (ha : μ[k]? = some a) (hm : mem[k]? = some c0) (h0 : c0 ≠ .dead) {h' : Heap} (hk : ∀ b o, b ≠ a → s.heap.get? b = some o → h'.get? b = some o) (hc : MR S μ h' a c1) {d : Drawn} {tk : Nat} :
    GR base os S μ (mem.set k c1) ⟨h', s.gens, d, tk, s.os⟩ := by
  have hlive : Live μ mem k a := ⟨ha, _, hm, h0⟩
  have hSa : S a = none := (g.live ⟨k, hlive⟩).1
  have hkl : k < mem.length := (List.getElem?_eq_some_iff.mp hm).1
  have back : ∀ {j b}, Live μ (mem.set k c1) j b → Live μ mem j b := fun {j b} ⟨h1, cl, h2, h3⟩ => by
    by_cases q : j = k
    · subst q; exact ⟨h1, _, hm, h0⟩
    · rw [List.getElem?_set_ne (Ne.symm q)] at h2; exact ⟨h1, cl, h2, h3⟩
  refine ⟨fun b o q => hk b o (fun e => by rw [e, hSa] at q; cases q) (g.keepS b o q), g.baseS, by rw [List.length_set]; exact g.len, ?_, fun i j b h1 h2 => g.inj i j b (back h1) (back h2), g.gens, g.os_⟩
  intro j b cl h1 h2
  by_cases q : j = k
  · subst q
    rw [ha] at h1; cases h1
    rw [List.getElem?_set_self hkl] at h2; cases h2
    exact hc
  · rw [List.getElem?_set_ne (Ne.symm q)] at h2
    refine (g.mutR j b cl h1 h2).keep (.refl _) (.refl _) (fun _ => id) fun hn => ?_
    obtain ⟨_, o, ho⟩ := (g.mutR j b cl h1 h2).here hn
    rw [ho]
    exact hk b o (fun e => q (g.inj j k b ⟨h1, cl, h2, hn⟩ (e ▸ hlive))) ho

theorem read_call (hgn : base.Ns mainGlobals mg) (hbn : base.Ns builtinsNs mb) (hnl : base.NoLimit) (l1 : mg (Str.ofString "len") = none) (l2 : mb (Str.ofString "len") = some (.builtin "len"))
    {gd : FuncData} {g cr : Addr} {oc : Obj} {cvs : Array Value} {ct : Tok} {c1 c2 : Addr} {o1 o2 : Obj} {t : Tok} {at' : Addr} {o : Array UInt8} {k : Nat} {u z : PV} {mem' : List MCell} {v : Value}
    (rm : Room A (n + 1)) (gr : GR base os S μ mem s) (hg : S g = some { cls := .type "function", dict := Option.none, data := .func gd, slots := #[] })
    (hgd : gd.body = .stmts rdBody ∧ gd.scope = rdScope ∧ gd.params = rdParams ∧ gd.globals = mainGlobals ∧ gd.builtins = builtinsNs ∧ gd.qualname = rdQual ∧ gd.code = .ref cr ∧ gd.defaults = .none ∧ gd.kwdefaults = .none)
    (hcr : S cr = some oc ∧ oc.data = .fields cvs ∧ cvs[1]? = some (.str rdQual ct))
    (hcl : gd.closure.lookup (Str.ofString "octets") = some c1 ∧ gd.closure.lookup (Str.ofString "at") = some c2) (hc1 : S c1 = some o1) (hd1 : o1.data = .cell (some (.bytes o t))) (hc2 : S c2 = some o2) (hd2 : o2.data = .cell (some (.ref at')))
    (hat : μ[k]? = some at') (hu : VR S μ v u) (hz : readV mem (.strm k o) u = some (z, mem')) {Q : Value → Shared → Prop}
    (kk : ∀ v s', GR base os S μ mem' s' → Kept S μ mem s.heap S μ mem' s'.heap → VR S μ v z → Q v s') : wpAny (model prog w) A (call (.ref g) [v]) Q E s := by
  have L6 := sizeLine_eq
  obtain ⟨b1, b2, b3, b4, b5, b6, b7, b8, b9⟩ := hgd
  have sc := rd_scope
  simp only [rdScopeFits, Bool.and_eq_true, beq_iff_eq, Bool.not_eq_true', List.all_eq_true, bne_iff_ne, ne_eq] at sc
  obtain ⟨⟨⟨⟨⟨⟨⟨⟨s1, s2⟩, s3⟩, s4⟩, s5⟩, s6⟩, s7⟩, s8⟩, s9⟩ := sc
  -- the argument and the place
  obtain ⟨p, nn, rfl, hm, hp, hn, ho, hnl', hpl, rfl, rfl⟩ : ∃ p nn, u = .int nn ∧ mem[k]? = some (.pos p) ∧ 0 ≤ p ∧ 0 ≤ nn ∧ o.size ≤ 1000000 ∧ nn ≤ 1000000 ∧ p ≤ 1000000 ∧ z = .bytes (o.extract p.toNat (p + nn).toNat) ∧
      mem' = mem.set k (.pos (p + (o.extract p.toNat (p + nn).toNat).size)) := by
    obtain ⟨⟨k', o'⟩, h1, hz⟩ := Option.bind_eq_some_iff.mp hz
    obtain ⟨nn, h2, hz⟩ := Option.bind_eq_some_iff.mp hz
    obtain ⟨p, h3, hz⟩ := Option.bind_eq_some_iff.mp hz
    obtain ⟨hc, hz⟩ := gd_inv hz
    cases stOf_inv h1; cases hz
    exact ⟨p, nn, intOf_inv h2, posAt_inv h3, hc.1, hc.2.1, hc.2.2.1, hc.2.2.2.1, hc.2.2.2.2, rfl, rfl⟩
  obtain ⟨tu, rfl⟩ := hu.sh
  obtain ⟨hSat, tp, hL⟩ := gr.mutR k at' _ hat hm
  have hbase : Ext base s.heap := fun b o e => gr.keepS _ _ (gr.baseS _ _ e)
  have hbind : bindArgs gd ⟨[.int nn tu], []⟩ = pure [(Str.ofString "count", .int nn tu)] := by
    unfold bindArgs
    rw [b3, b8, b9]
    kernel_rfl
  refine wpAny_call (codeAny_call_function (by have := rm.depth; omega) (gr.keepS _ _ hg) rfl (by rw [b2]; exact s2) (by rw [b2]; exact s3) b1 (by rw [b7, b6]; exact ⟨cr, oc, cvs, ct, rfl, gr.keepS _ _ hcr.1, hcr.2⟩) ?_)
  rw [hbind]
  refine wpAny_pure ?_
  rw [b2, b4, b5]
  refine wpAny_newFunctionEnv (fun x hx => s9 x hx) (fun x hx => by simp only [List.mem_singleton] at hx; subst hx; exact s6) (fun h1 hns hsb => ?_) s1
  have k1 : Ext s.heap h1 := fun b q e => (hsb.2 b (Nat.ne_of_lt (Heap.lt_size e))).trans (Ext.push _ _ b q e)
  refine ⟨let ⟨mc, x, y⟩ := hnl; ⟨mc, x.keeps (hbase.trans k1), y⟩, codeAny_func ?_⟩
  generalize henv : newEnv rdScope s.heap.objs.size mainGlobals gd.closure (gd.qualname ++ ".<locals>.") (some g) gd.code none builtinsNs = env
  have ek : env.scope.kind = .function := by rw [← henv]; exact s1
  have eo : env.kindOf (Str.ofString "octets") = some .free := by rw [← henv]; exact s4
  have ea : env.kindOf (Str.ofString "at") = some .free := by rw [← henv]; exact s5
  have ec : env.kindOf (Str.ofString "count") = some .local := by rw [← henv]; exact s6
  have ep : env.kindOf (Str.ofString "piece") = some .local := by rw [← henv]; exact s7
  have el : env.kindOf (Str.ofString "len") = some .globalImplicit := by rw [← henv]; exact s8
  have e1 : env.cells.lookup (Str.ofString "octets") = some c1 := by rw [← henv]; exact hcl.1
  have e2 : env.cells.lookup (Str.ofString "at") = some c2 := by rw [← henv]; exact hcl.2
  have eL : env.locals = s.heap.objs.size := by rw [← henv]; rfl
  have eg : env.globals = mainGlobals := by rw [← henv]; rfl
  have eb : env.builtins = builtinsNs := by rw [← henv]; rfl
  obtain ⟨B, heq⟩ := rd_body
  rw [heq]
  have cO : ∀ {h' : Heap}, Ext s.heap h' → h'.IsCell c1 (some (.bytes o t)) := fun e => ⟨o1, e _ _ (gr.keepS _ _ hc1), hd1⟩
  have cA : ∀ {h' : Heap}, Ext s.heap h' → h'.IsCell c2 (some (.ref at')) := fun e => ⟨o2, e _ _ (gr.keepS _ _ hc2), hd2⟩
  have hns1 : h1.Ns env.locals (fun x => ([(Str.ofString "count", Value.int nn tu)] : List (Str × Value)).reverse.lookup x) := by rw [eL]; exact hns
  have hLd : ∀ {h' : Heap}, Ext s.heap h' → h'.IsList at' #[.int p tp] := fun e => hL.at fun o q => e _ _ q
  have item : ∀ {st : Shared} {px pc ps : Pos} {kd : Nat} {Q' : Value → Shared → Prop} {E' : Value → Shared → Prop} {B : Around}, Ext s.heap st.heap → (∀ tk', Q' (.int p tp) ⟨st.heap, st.gens, st.drawn, tk', st.os⟩) →
      wpAny (model prog w) B (eval (.Subscript (.Name (Str.ofString "at") px) (.Constant (.int 0) kd pc) ps) env) Q' E' st := fun e hq => by
    refine Subscript_ (wpAny_Name (wpAny_loadName_free ek ea e2 (cA e) (wpAny_Constant_int ?_)))
    exact tail_any (hLd e).typeIs slot_list_getitem.lookup (wpAny_getItem_list (hLd e) (by decide) (by decide) rfl (hq _)) rfl
  refine wpAny_execs_cons (wpAny_Assign_Name ?_)
  refine Subscript_ (wpAny_Name (wpAny_loadName_free ek eo e1 (cO k1) ?_))
  refine wpAny_Slice ?_
  rw [evalPart_some, evalPart_some]
  refine item k1 fun tk1 => ?_
  refine wpAny_BinOp (item k1 fun tk2 => ?_)
  refine wpAny_Name (wpAny_loadName_local ek ec hns1 (by rfl) ?_)
  refine PyProof.Rows.add_int ?_
  rw [evalPart_none]
  refine wpAny_pure ?_
  have hsz : (KBy.picked o (some p) (some (p + nn))).size ≤ sizeLine := by
    have := KBc.size_picked_le o (some p) (some (p + nn))
    omega
  refine tail_any (typeIs_bytes _ _ _) FB.slot_bytes_getitem.lookup (getItem_meets (typeIs_bytes _ _ _) (by decide) FB.slot_bytes_getitem FB.entry_bytes_getitem (FB.args_bytes_getitem_2 _ _) (KBc.meets_slice2 o t _ (.int p _) (.int (p + nn) _))
    ⟨Heap.IsSliceOf.new _ _ _ _, hsz, fun t' tk3 => ?_⟩) rfl
  rw [picked_extract o hp hn]
  have k2 : ∀ ob, Ext s.heap (h1.push ob) := fun ob => k1.trans (Ext.push _ _)
  show wpAny _ _ (storeName env (Str.ofString "piece") _) _ _ _
  refine wpAny_storeName_local ep (hns1.keeps (Ext.push _ _)) (fun h2 hns2 hs2 => ?_) (by rw [ek]; rfl)
  have lt1 : s.heap.objs.size ≤ env.locals := by rw [eL]; exact Nat.le_refl _
  have k3 : Ext s.heap h2 := fun b q e => (hs2.2 b (fun e2 => by rw [e2] at e; exact absurd (Heap.lt_size e) (Nat.not_lt.mpr lt1))).trans (k2 _ b q e)
  refine wpAny_execs_cons (wpAny_AugAssign_SubscriptAny ?_)
  refine wpAny_Name (wpAny_loadName_free ek ea e2 (cA k3) (wpAny_Constant_int ?_))
  refine wpAny_getItem_list (hLd k3) (by decide) (by decide) rfl ?_
  have ext : (o.extract p.toNat (p + nn).toNat).size ≤ 1000000 := by simp; omega
  refine Call_Name1 (Name_function_global (env := env) ek el (loadGlobal_builtin (env := env) (by rw [eg]; exact hgn.keeps (hbase.trans k3)) l1 (by rw [eb]; exact hbn.keeps (hbase.trans k3)) l2 ?_)) rfl
  refine callWith_builtin rfl (evalArgs_plain (spliced_cons (wpAny_Name (wpAny_loadName_local ek ep hns2 (if_pos rfl) (spliced_nil ?_)))))
  refine len_bytes (by omega) ?_
  refine PyProof.Rows.iadd_int ?_
  refine wpAny_setItem_list (hLd k3) (by decide) (by decide) (by simp) (fun h3 hL3 hs3 => ?_)
  have k4 : ∀ b q, b ≠ at' → s.heap.get? b = some q → h3.get? b = some q := fun b q hb e => (hs3.2 b hb).trans (k3 b q e)
  have lta : at' < s.heap.objs.size := Heap.lt_size hL.choose_spec.1
  have hns3 := hns2.sameBut hs3 (fun e => by rw [← e] at lta; exact absurd lta (Nat.not_lt.mpr lt1))
  refine wpAny_execs_cons (wpAny_Return_some (wpAny_Name (wpAny_loadName_local ek ep hns3 (if_pos rfl) ?_)))
  have hlive : IsLive μ mem at' := ⟨k, hat, _, hm, fun e => by cases e⟩
  refine kk _ _ (gr.mutX (c1 := .pos _) hat hm (fun e => by cases e) k4 ⟨hSat, _, hL3⟩) (fun b ob hb1 hb2 hb3 => ⟨⟨ob, k4 b ob (fun e => hb3 (e ▸ hlive)) hb1, .refl ob⟩, hb2, fun ⟨j, q1, cl, q2, q3⟩ => hb3 ?_⟩) (.bytes _ _)
  by_cases q : j = k
  · subst q; rw [hat] at q1; cases q1; exact hlive
  · rw [List.getElem?_set_ne (Ne.symm q)] at q2; exact ⟨j, q1, cl, q2, q3⟩

theorem readOk_of (hgn : base.Ns mainGlobals mg) (hbn : base.Ns builtinsNs mb) (hnl : base.NoLimit) (l1 : mg (Str.ofString "len") = none) (l2 : mb (Str.ofString "len") = some (.builtin "len")) : ReadOk prog w base os (n + 1) := by
  intro A S μ mem s f k o rm gr hst
  obtain ⟨m, h1, h2, h3, h4, h5, h6, h7, h⟩ := hst
  refine ⟨m.g, ⟨_, m.gd, h4, rfl⟩, fun pl Q E hq => ?_, fun S' μ' mem' s' u y z mem'' Q E hS hμ gr' hu hz kk => ?_⟩
  · obtain ⟨hp, gg, d, tk, oss⟩ := s
    exact fn_getMethod (gr.keepS _ _ h1) (gr.keepS _ _ h2) h3 hq
  · exact read_call hgn hbn hnl l1 l2 rm gr' (hS _ _ h4) h5 ⟨hS _ _ h6.1, h6.2⟩ h7 (hS _ _ h.1) h.2.1 (hS _ _ h.2.2.1) h.2.2.2.1 (hμ _ _ h.2.2.2.2) hu hz fun v s'' g1 g2 g3 => kk v S' μ' s'' (.refl _) (.refl _) g1 g2 g3
end
end Mine
end
noncomputable section
open PySem PySem.W PyProof.Rows PySem.Calls
set_option Elab.async false
set_option linter.unusedVariables false
set_option maxRecDepth 100000
namespace Mine

structure SB where
  p1 : Pos
  ps : Arguments
  sc : Scope
  p2 : Pos
  p3 : Pos
  p4 : Pos
  k1 : Nat
  p5 : Pos
  p6 : Pos
  p7 : Pos
  p8 : Pos
  p9 : Pos
  p10 : Pos
  p11 : Pos
  p12 : Pos
  p13 : Pos
  kb : Nat
theorem stream_body : ∃ B : SB, streamBody = [.Assign [.Name (Str.ofString "stream") B.p1] (.Lambda B.ps (.Constant .none B.kb B.p2) B.sc lamPos) B.p3, .Assign [.Name (Str.ofString "at") B.p4] (.List [.Constant (.int 0) B.k1 B.p5] B.p6) B.p7,
      .FunctionDef (Str.ofString "_law_read") rdParams rdBody [] Option.none [] rdScope Option.none (Str.ofString "_law_read") rdPos,
      .Assign [.Attribute (.Name (Str.ofString "stream") B.p8) (Str.ofString "read") B.p9] (.Name (Str.ofString "_law_read") B.p10) B.p11, .Return (some (.Name (Str.ofString "stream") B.p12)) B.p13] ∧ B.sc.names = [] ∧ B.ps.defaults = [] ∧ B.ps.kw_defaults = [] :=
  ⟨⟨_, _, _, _, _, _, _, _, _, _, _, _, _, _, _, _, _⟩, rfl, rfl, rfl, rfl⟩
theorem rd_names : rdScope.names = [(Str.ofString "count", .local), (Str.ofString "piece", .local), (Str.ofString "at", .free), (Str.ofString "octets", .free), (Str.ofString "len", .globalImplicit)] := by decide +kernel
theorem pos_apart : (lamPos.line == rdPos.line) = false := by decide +kernel
theorem rd_nodef : rdParams.defaults = [] ∧ rdParams.kw_defaults = [] := by
  have : (rdParams.defaults.isEmpty && rdParams.kw_defaults.isEmpty) = true := by decide +kernel
  simpa using this
theorem rd_noann (env : Env) : annTrees rdParams Option.none env = [] := by kernel_rfl
theorem lam_rd (x : Value) : codeAmong rdPos [rawInt lamPos.line, rawInt lamPos.col, x] = Option.none := by
  have h : lamPos.line ≠ rdPos.line := by simpa using pos_apart
  simp [codeAmong, rawInt]
  intro hh; exact absurd (by exact_mod_cast hh) h
theorem codeAmong_app {p : Pos} {c : Value} (l r : List Value) (h : codeAmong p l = some c) : codeAmong p (l ++ r) = some c := by
  fun_induction codeAmong p l with
  | case1 a t b u x rest hc => simp only [List.cons_append, codeAmong]; rw [if_pos hc]; exact h
  | case2 a t b u x rest hc ih => simp only [List.cons_append, codeAmong]; rw [if_neg hc]; exact ih h
  | case3 => cases h
theorem rd_closure {env : Env} {c1 c2 : Addr} (h1 : env.cells.lookup (Str.ofString "octets") = some c1) (h2 : env.cells.lookup (Str.ofString "at") = some c2) :
    closureFor rdScope env = pure [(Str.ofString "octets", c1), (Str.ofString "at", c2)] := by
  unfold closureFor
  rw [rd_names]
  have e1 : cellOf env (Str.ofString "octets") = pure c1 := by unfold cellOf; rw [h1]
  have e2 : cellOf env (Str.ofString "at") = pure c2 := by unfold cellOf; rw [h2]
  simp only [List.forIn_cons, List.forIn_nil, e1, e2, pure_bind]
  rfl

section
variable {prog : Program} {w : World} {A : Around} {E : Value → Shared → Prop} {base : Heap} {S : PH} {s : Shared} {mg : Str → Option Value}

/-- the table between the two functions -/
noncomputable def Mid (S : PH) (b : Bool) (ps : Array Value) : Prop := TriplesOk ps.toList ∧ (∃ cl, codeAmong lamPos ps.toList = some cl) ∧
  if b then ∃ cr oc vs t, codeAmong rdPos ps.toList = some (.ref cr) ∧ S cr = some oc ∧ oc.data = .fields vs ∧ vs[1]? = some (.str rdQual t) else codeAmong rdPos ps.toList = Option.none

theorem make_lam {params : Arguments} {body : PySem.Expr} {scope : Scope} {env : Env} {qual : Str} {ps : Array Value} {b : Bool} {fl : Nat} (hsc : scope.names = []) (hge : env.globals = mainGlobals) (hg : s.heap.Ns mainGlobals mg) (hcode : env.code = .ref codeC)
    (C : CodeHd s.heap codeC tabP) (hP : s.heap.get? tabP = some (tabObj ps)) (ht : TabOk S b ps) (hb : s.heap.BuiltinsAt mg tabP) {Q : Value → Shared → Prop}
    (h : ∀ f fd h' tk ps', s.heap.objs.size ≤ f → (∀ x o, x ≠ tabP → s.heap.get? x = some o → h'.get? x = some o) → h'.get? f = some (fnObj Option.none fd) → h'.get? tabP = some (tabObj ps') → Mid S b ps' → Q (.ref f) { s with heap := h', toks := tk }) :
    wpAny (model prog w) A (makeFunction "<lambda>" qual params (.expr body) scope env [] [] [] lamPos fl) Q E s := by
  have hgP : mainGlobals ≠ tabP := by
    obtain ⟨o, es, ep, e, hd, _⟩ := hg
    intro q; rw [q, hP] at e; cases e; cases hd
  have hcl : closureFor scope env = pure [] := by unfold closureFor; rw [hsc]; rfl
  have hPlt := Heap.lt_size hP
  cases b with
  | false =>
    have ht : ps = #[] := ht
    subst ht
    refine kla_makeFunction hcl hge hg hcode C hP trivial rfl hgP hb fun c' ctv h' tk hx h1 h2 h3 h4 => ?_
    refine h _ _ _ tk _ (Nat.le_of_lt (Nat.lt_of_le_of_lt h1 h2)) (fun x o q e => Ext.push _ _ _ _ (hx x o q e)) (Heap.get?_push_size _ rfl) (Ext.push _ _ _ _ h4) ⟨?_, ⟨.ref c', ?_⟩, ?_⟩
    · exact TriplesOk_snoc _ _ _ [] trivial
    · exact codeAmong_snoc [] trivial rfl
    · exact lam_rd _
  | true =>
    obtain ⟨h1, cl, cr, oc, vs, t, h2, h3, h4, h5, h6⟩ := ht
    refine kla_makeFunctionHit hcl hge hg hcode C hP h1 h2 hb fun ctv h' tk hk hsz => ?_
    exact h _ _ _ tk ps hsz (fun x o q e => Ext.push _ _ _ _ (hk x o e)) (Heap.get?_push_size _ rfl) (Ext.push _ _ _ _ (hk _ _ hP)) ⟨h1, ⟨cl, h2⟩, cr, oc, vs, t, h3, h4, h5, h6⟩

theorem make_rd {env : Env} {ps : Array Value} {b : Bool} {fl : Nat} {c1 c2 : Addr} (e1 : env.cells.lookup (Str.ofString "octets") = some c1) (e2 : env.cells.lookup (Str.ofString "at") = some c2) (hge : env.globals = mainGlobals) (hg : s.heap.Ns mainGlobals mg) (hcode : env.code = .ref codeC)
    (C : CodeHd s.heap codeC tabP) (hP : s.heap.get? tabP = some (tabObj ps)) (ht : Mid S b ps) (hS : ∀ a o, S a = some o → s.heap.get? a = some o) (hSt : S tabP = Option.none) (hb : s.heap.BuiltinsAt mg tabP) {Q : Value → Shared → Prop}
    (h : ∀ g gd h' tk ps' cr oc vs t, s.heap.objs.size ≤ g → (∀ x o, x ≠ tabP → s.heap.get? x = some o → h'.get? x = some o) → h'.get? g = some (fnObj Option.none gd) → h'.get? tabP = some (tabObj ps') →
      (gd.body = .stmts rdBody ∧ gd.scope = rdScope ∧ gd.params = rdParams ∧ gd.globals = mainGlobals ∧ gd.builtins = builtinsNs ∧ gd.qualname = rdQual ∧ gd.code = .ref cr ∧ gd.defaults = .none ∧ gd.kwdefaults = .none) →
      (gd.closure.lookup (Str.ofString "octets") = some c1 ∧ gd.closure.lookup (Str.ofString "at") = some c2) →
      TriplesOk ps'.toList → (∃ cl, codeAmong lamPos ps'.toList = some cl) → codeAmong rdPos ps'.toList = some (.ref cr) → h'.get? cr = some oc → oc.data = .fields vs → vs[1]? = some (.str rdQual t) → cr ≠ g → cr ≠ tabP → (S cr = some oc ∨ s.heap.objs.size ≤ cr) → Q (.ref g) { s with heap := h', toks := tk }) :
    wpAny (model prog w) A (makeFunction (Str.ofString "_law_read") rdQual rdParams (.stmts rdBody) rdScope env [] [] [] rdPos fl) Q E s := by
  have hgP : mainGlobals ≠ tabP := by
    obtain ⟨o, es, ep, e, hd, _⟩ := hg
    intro q; rw [q, hP] at e; cases e; cases hd
  have hcl := rd_closure e1 e2
  obtain ⟨h1, ⟨cl, h2⟩, h3⟩ := ht
  cases b with
  | false =>
    have h3 : codeAmong rdPos ps.toList = Option.none := h3
    refine makeFunction_K hcl hge hg hcode C hP h1 h3 hgP hb fun c' ctv doc h' tk hx g1 g2 g3 g4 => ?_
    obtain ⟨c2', oc, vs, t, e, q1, q2, q3⟩ := g3
    cases e
    have hPlt := Heap.lt_size hP
    refine h _ _ _ tk _ c' oc vs t (Nat.le_of_lt (Nat.lt_of_le_of_lt g1 g2)) (fun x o q e => Ext.push _ _ _ _ (hx x o q e)) (Heap.get?_push_size _ rfl) (Ext.push _ _ _ _ g4) ⟨rfl, rfl, rfl, rfl, rfl, rfl, rfl, rfl, rfl⟩ ⟨rfl, rfl⟩ ?_ ⟨cl, ?_⟩ ?_ (Ext.push _ _ _ _ q1) q2 q3 (Nat.ne_of_lt g2) (fun e => by rw [e] at g1; exact absurd hPlt (Nat.not_lt.mpr g1)) (.inr g1)
    · rw [Array.toList_append]; exact TriplesOk_snoc _ _ _ _ h1
    · rw [Array.toList_append]; exact codeAmong_app _ _ h2
    · rw [Array.toList_append]; exact codeAmong_snoc _ h1 h3
  | true =>
    obtain ⟨cr, oc, vs, t, q0, q1, q2, q3⟩ := h3
    refine makeFunction_hit hcl hge hg hcode C hP h1 q0 hb fun ctv doc h' tk hk hsz => ?_
    have hcr := hS _ _ q1
    refine h _ _ _ tk ps cr oc vs t hsz (fun x o q e => Ext.push _ _ _ _ (hk x o e)) (Heap.get?_push_size _ rfl) (Ext.push _ _ _ _ (hk _ _ hP)) ⟨rfl, rfl, rfl, rfl, rfl, rfl, rfl, rfl, rfl⟩ ⟨rfl, rfl⟩ h1 ⟨cl, h2⟩ q0 (Ext.push _ _ _ _ (hk _ _ hcr)) q2 q3 (Nat.ne_of_lt (Heap.lt_size (hk _ _ hcr))) (fun e => by rw [e, hSt] at q1; cases q1) (.inl q1)
end
end Mine
end
noncomputable section
open PySem PySem.W PyProof.Rows PySem.Calls
set_option Elab.async false
set_option linter.unusedVariables false
set_option maxRecDepth 100000
namespace Mine

noncomputable def gStream (xs : List PV) (ms : List MCell) : Option (PV × List MCell) := (one xs).bind fun v => (byOf v).bind fun o => (tabOf ms).bind fun r => some (.strm (r.length + 1) o, .tab true :: (r ++ [.pos 0]))
noncomputable def nStream : List Str := [Str.ofString "octets", Str.ofString "stream", Str.ofString "at", Str.ofString "_law_read"]
noncomputable def gsStream : List Str × List Str := ([], [Str.ofString "octets", Str.ofString "at"])

section
variable {prog : Program} {w : World} {base : Heap} {os : OsState} {a : Addr} {fd : FuncData} {mg mb : Str → Option Value} {n : Nat}

theorem FnAt.gns_main {body : List Stmt} {np : Nat} {ns : List Str} {gs : List Str × List Str} (F : FnAt base a fd body np ns gs mg mb) (hgl : fd.globals = mainGlobals) {h : Heap} (e : Ext base h) : h.Ns mainGlobals mg := by
  have := F.gns; rw [hgl] at this; exact this.keeps e

theorem stream_call (F : FnAt base a fd streamBody 1 nStream gsStream mg mb) (hgl : fd.globals = mainGlobals) (hcd : fd.code = .ref codeC) (hq : fd.qualname = Str.ofString "_law_stream") (C : CodeHd base codeC tabP) (hb : base.BuiltinsAt mg tabP) :
    CallOk prog w base os (n + 1) a gStream := by
  intro A S μ mem s vs xs z mem' Q E rm _ gr hv hg k
  obtain ⟨o, b, r, rfl, rfl, rfl, rfl⟩ : ∃ o b r, xs = [.bytes o] ∧ mem = .tab b :: r ∧ z = .strm (r.length + 1) o ∧ mem' = .tab true :: (r ++ [.pos 0]) := by
    refine bdk hg fun v h1 hg => bdk hg fun o h2 hg => bdk hg fun r h3 hg => ?_
    obtain ⟨b, h3⟩ := tabOf_inv h3
    exact ⟨o, b, r, by rw [one_inv h1, byOf_inv h2], h3, (Prod.mk.inj (Option.some.inj hg)).1.symm, (Prod.mk.inj (Option.some.inj hg)).2.symm⟩
  obtain ⟨v, rfl, hv1⟩ := one_v hv
  obtain ⟨tv, rfl⟩ := hv1.sh
  have hlen := gr.len
  obtain ⟨P0, hP0⟩ : ∃ P0, μ[0]? = some P0 := ⟨_, List.getElem?_eq_getElem (by rw [hlen]; simp)⟩
  obtain ⟨hSP, ps, hPs, hT, rfl⟩ := gr.mutR 0 P0 (.tab b) hP0 rfl
  have ext : Ext base s.heap := fun b o e => gr.keepS _ _ (gr.baseS _ _ e)
  have f := fits_of F.fits
  obtain ⟨ob, hob, hfd⟩ := F.obj
  have hkO : fd.scope.names.lookup (Str.ofString "octets") = some .cell := f.k3 _ (by simp [gsStream])
  have hkA : fd.scope.names.lookup (Str.ofString "at") = some .cell := f.k3 _ (by simp [gsStream])
  have hkS : fd.scope.names.lookup (Str.ofString "stream") = some .local := f.k2 _ (by simp [nStream]) (by decide +kernel)
  have hkR : fd.scope.names.lookup (Str.ofString "_law_read") = some .local := f.k2 _ (by simp [nStream]) (by decide +kernel)
  refine wpAny_call (codeAny_call_cells (body := streamBody) (binds := [(Str.ofString "octets", .bytes o tv)]) (by have := rm.depth; omega) (ext _ _ hob) hfd (let ⟨mc, x, y⟩ := F.lim; ⟨mc, x.keeps ext, y⟩) (F.code.keeps ext) F.hbody (F.bind [.bytes o tv] rfl) F.clo ?_ (fun s₁ X => ?_) f.co f.gen f.kind)
  · intro x hx
    simp only [List.mem_singleton] at hx
    subst hx
    exact .inr ⟨hkO, (cells_ok f _).2 _ hkO⟩
  obtain ⟨⟨h1, tk, rfl⟩, hns, hkeep, _⟩ := X.toInCall
  obtain ⟨cO, hcO⟩ := Option.isSome_iff_exists.mp ((cells_ok f s.heap.objs.size).2 _ hkO)
  obtain ⟨cA, hcA⟩ := Option.isSome_iff_exists.mp ((cells_ok f s.heap.objs.size).2 _ hkA)
  have ltO : s.heap.objs.size < cO := X.above _ _ (mem_of_lookup hcO)
  have ltA : s.heap.objs.size < cA := X.above _ _ (mem_of_lookup hcA)
  have hOA : cO ≠ cA := fun e => by
    have := name_of_addr X.apart (mem_of_lookup hcO) (e ▸ mem_of_lookup hcA)
    revert this; decide +kernel
  have icO := X.cell _ _ hcO
  have icA := X.cell _ _ hcA
  have ltP : tabP < s.heap.objs.size := Heap.lt_size hPs
  have bO : bindC (callEnvC fd s.heap.objs.size a).kindOf [(Str.ofString "octets", .bytes o tv)] (fun _ => Option.none) (Str.ofString "octets") = some (.bytes o tv) := by
    have h := bind_at (callEnvC fd s.heap.objs.size a).kindOf [(Str.ofString "octets", .bytes o tv)] (fun _ => Option.none) (fun _ => Option.none) (Str.ofString "octets") (.bytes o tv) (by simp) (by simp)
    rw [if_neg (by rw [callEnv_kind, hkO]; decide)] at h
    exact h
  generalize henv : callEnvC fd s.heap.objs.size a = env at hns X ⊢
  have ek : env.scope.kind = .function := by rw [← henv]; exact f.kind
  have eS : env.kindOf (Str.ofString "stream") = some .local := by rw [← henv]; exact hkS
  have eR : env.kindOf (Str.ofString "_law_read") = some .local := by rw [← henv]; exact hkR
  have eO : env.kindOf (Str.ofString "octets") = some .cell := by rw [← henv]; exact hkO
  have eA : env.kindOf (Str.ofString "at") = some .cell := by rw [← henv]; exact hkA
  have e1 : env.cells.lookup (Str.ofString "octets") = some cO := by rw [← henv]; exact hcO
  have e2 : env.cells.lookup (Str.ofString "at") = some cA := by rw [← henv]; exact hcA
  have eL : env.locals = s.heap.objs.size := by rw [← henv]; rfl
  have eg : env.globals = mainGlobals := by rw [← henv]; exact hgl
  have ec : env.code = .ref codeC := by rw [← henv]; exact hcd
  have eq : env.qual = fd.qualname ++ ".<locals>." := by rw [← henv]; rfl
  have hp : (env.scope.kind == .class || (env.scope.kind == .module && env.locals != env.globals)) = false := by rw [ek]; rfl
  have bP : base.get? tabP = none := by
    cases q : base.get? tabP with
    | none => rfl
    | some o => have := gr.baseS _ _ q; rw [hSP] at this; cases this
  have fromB : ∀ {h' : Heap}, (∀ x q, x ≠ tabP → s.heap.get? x = some q → h'.get? x = some q) → Ext base h' := fun e b q hb => e b q (fun e2 => by rw [e2, bP] at hb; cases hb) (ext _ _ hb)
  obtain ⟨B, heq, f10, f11, f12⟩ := stream_body
  rw [heq]
  have hns1 := hns
  rw [eL] at hns1
  have neLP : s.heap.objs.size ≠ tabP := fun e => by rw [e] at ltP; exact Nat.lt_irrefl _ ltP
  have h1O : h1.get? cO = some icO.choose := icO.choose_spec.1
  -- stream = lambda: None
  refine wpAny_execs_cons (wpAny_Assign_Name (kla_eval (by rw [defaultsOf_eq, f11, f12]; rfl) ?_))
  have b1 : Ext base h1 := ext.trans hkeep
  refine make_lam (s := ⟨h1, s.gens, s.drawn, tk, s.os⟩) (S := S) (b := b) (ps := ps) f10 eg (F.gns_main hgl b1) ec (C.keeps b1) (hkeep _ _ hPs) hT (hb.keeps b1) fun ff fd' h2 tk2 ps2 hf1 hk2 hf2 hP2 hM => ?_
  have lt1 : s.heap.objs.size < h1.objs.size := hns1.lt
  have ltAh : cA < h1.objs.size := icA.lt
  have ltOh : cO < h1.objs.size := icO.lt
  have nOP : cO ≠ tabP := fun e => by rw [e] at ltO; exact absurd ltP (Nat.not_lt.mpr (Nat.le_of_lt ltO))
  have nAP : cA ≠ tabP := fun e => by rw [e] at ltA; exact absurd ltP (Nat.not_lt.mpr (Nat.le_of_lt ltA))
  have hf1 : h1.objs.size ≤ ff := hf1
  have nfP : ff ≠ tabP := fun e => by rw [e] at hf1; exact absurd (Nat.lt_trans ltP lt1) (Nat.not_lt.mpr hf1)
  have nfL : ff ≠ s.heap.objs.size := fun e => by rw [e] at hf1; exact absurd lt1 (Nat.not_lt.mpr hf1)
  have nfO : ff ≠ cO := fun e => by rw [e] at hf1; exact absurd ltOh (Nat.not_lt.mpr hf1)
  have nfA : ff ≠ cA := fun e => by rw [e] at hf1; exact absurd ltAh (Nat.not_lt.mpr hf1)
  have hk2 : ∀ x o, x ≠ tabP → h1.get? x = some o → h2.get? x = some o := hk2
  have hns2 := hns1.at' (h' := h2) fun o e => hk2 _ o neLP e
  refine wpAny_storeName_local eS (by rw [eL]; exact hns2) (fun h3 hns3 hs3 => ?_) hp
  rw [eL] at hns3 hs3
  have hk3 : ∀ x q, x ≠ tabP → s.heap.get? x = some q → h3.get? x = some q := fun x q hx e => (hs3.2 x (Nat.ne_of_lt (Heap.lt_size e))).trans (hk2 x q hx (hkeep x q e))
  have hf3 : h3.get? ff = some (fnObj Option.none fd') := (hs3.2 ff nfL).trans hf2
  have hP3 : h3.get? tabP = some (tabObj ps2) := (hs3.2 _ (Ne.symm neLP)).trans hP2
  have icO3 : h3.IsCell cO (some (.bytes o tv)) := by
    obtain ⟨q, q1, q2⟩ := icO
    refine ⟨q, (hs3.2 cO (Nat.ne_of_gt ltO)).trans (hk2 _ _ nOP q1), q2.trans ?_⟩
    rw [bO]
  obtain ⟨va, icA3⟩ : ∃ va, h3.IsCell cA va := by
    obtain ⟨q, q1, q2⟩ := icA
    exact ⟨_, q, (hs3.2 cA (Nat.ne_of_gt ltA)).trans (hk2 _ _ nAP q1), q2⟩
  -- at = [0]
  refine wpAny_execs_cons (wpAny_Assign_Name (wpAny_List_spliced (spliced_more (wpAny_Constant_int (spliced_none ⟨by show 1 ≤ sizeLine; rw [sizeLine_eq]; decide, ?_⟩)))))
  have lt3 : s.heap.objs.size < h3.objs.size := hns3.lt
  have hla := freed_none (h := h3) (Nat.le_refl _)
  generalize hla' : h3.objs.size = la at *
  have nl : ∀ {x : Addr} {q : Obj}, h3.get? x = some q → la ≠ x := fun e q => by rw [← q] at e; rw [hla] at e; cases e
  refine wpAny_storeName_cell ek eA e2 (icA3.keeps (Ext.push _ _)) (fun h4 icA4 hs4 => ?_)
  have nlA : la ≠ cA := by obtain ⟨q, q1, _⟩ := icA3; exact nl q1
  have nlO : la ≠ cO := by obtain ⟨q, q1, _⟩ := icO3; exact nl q1
  have nlf : la ≠ ff := nl hf3
  have nlP : la ≠ tabP := nl hP3
  have nlL : la ≠ s.heap.objs.size := Nat.ne_of_gt lt3
  have hk4 : ∀ x q, x ≠ tabP → s.heap.get? x = some q → h4.get? x = some q := fun x q hx e => (hs4.2 x (Nat.ne_of_lt (Nat.lt_trans (Heap.lt_size e) ltA))).trans (Ext.push _ _ _ _ (hk3 x q hx e))
  have hf4 : h4.get? ff = some (fnObj Option.none fd') := (hs4.2 ff nfA).trans (Ext.push _ _ _ _ hf3)
  have hP4 : h4.get? tabP = some (tabObj ps2) := (hs4.2 _ (Ne.symm nAP)).trans (Ext.push _ _ _ _ hP3)
  have icO4 : h4.IsCell cO (some (.bytes o tv)) := (icO3.keeps (Ext.push _ _)).sameBut hs4 hOA
  obtain ⟨tl, hl4⟩ : ∃ tl, h4.IsList la #[.int 0 tl] := ⟨_, _, (hs4.2 la nlA).trans (by rw [← hla']; exact Heap.get?_push_size _ rfl), rfl, _, rfl⟩
  have hns4 : h4.Ns s.heap.objs.size _ := (hns3.keeps (Ext.push _ _)).sameBut hs4 (Nat.ne_of_lt ltA)
  have gr4 : ∀ x q, S x = some q → h4.get? x = some q := fun x q e => hk4 x q (fun e2 => by rw [e2, hSP] at e; cases e) (gr.keepS x q e)
  -- def _law_read
  have hqn : qualnameIn env (Str.ofString "_law_read") (Str.ofString "_law_read") = rdQual := by
    unfold qualnameIn
    rw [eR, eq, hq]
    kernel_rfl
  refine wpAny_execs_cons (nestDef_K rd_nodef.1 rd_nodef.2 (rd_noann env) ?_)
  rw [hqn]
  refine make_rd (s := ⟨h4, s.gens, s.drawn, _, s.os⟩) (S := S) (b := b) (ps := ps2) e1 e2 eg (F.gns_main hgl (fromB hk4)) ec (C.keeps (fromB hk4)) hP4 hM gr4 hSP (hb.keeps (fromB hk4)) fun g gd h5 tk5 ps5 cr oc cvs ct hg1 hk5 hg5 hP5 hgd hcl hT1 hT2 hT3 hcr hcr1 hcr2 ncg ncP hcn => ?_
  have hg1 : h4.objs.size ≤ g := hg1
  have hk5 : ∀ x o, x ≠ tabP → h4.get? x = some o → h5.get? x = some o := hk5
  have ng : ∀ {x : Addr} {q : Obj}, h4.get? x = some q → x ≠ g := fun e q => by rw [q] at e; exact absurd (Heap.lt_size e) (Nat.not_lt.mpr hg1)
  have ngL : s.heap.objs.size ≠ g := by obtain ⟨q, _, _, q1, _⟩ := hns4; exact ng q1
  refine wpAny_storeName_local eR (by rw [eL]; exact hns4.at' (h' := h5) fun o e => hk5 _ o neLP e) (fun h6 hns6 hs6 => ?_) hp
  rw [eL] at hns6 hs6
  have hk6 : ∀ x q, x ≠ tabP → s.heap.get? x = some q → h6.get? x = some q := fun x q hx e => (hs6.2 x (Nat.ne_of_lt (Heap.lt_size e))).trans (hk5 x q hx (hk4 x q hx e))
  have hf6 : h6.get? ff = some (fnObj Option.none fd') := (hs6.2 ff nfL).trans (hk5 _ _ nfP hf4)
  have hP6 : h6.get? tabP = some (tabObj ps5) := (hs6.2 _ (Ne.symm neLP)).trans hP5
  have hg6 : h6.get? g = some (fnObj Option.none gd) := (hs6.2 g (Ne.symm ngL)).trans hg5
  -- stream.read = _law_read
  refine wpAny_execs_cons (wpAny_Assign_stores (wpAny_Name (wpAny_loadName_local ek eR (by rw [eL]; exact hns6) (if_pos rfl) ?_)) rfl rfl)
  have neSR : Str.ofString "stream" ≠ Str.ofString "_law_read" := by decide +kernel
  have hns6s : h6.Ns s.heap.objs.size _ := hns6
  show wpAny _ _ (assignAll (.ref g) [assign (.Attribute (.Name (Str.ofString "stream") B.p8) (Str.ofString "read") B.p9) env]) _ _ _
  unfold assignAll
  refine wpAny_bind (wpAny_holding (wpAny_Name (wpAny_loadName_local ek eS (by rw [eL]; exact hns6) ((if_neg neSR).trans (if_pos rfl)) ?_)))
  refine wpAny_bind (wpAny_standAt (wpAny_bind (wpAny_holding ?_)))
  refine fn_setattr hf6 fun h7 tk7 D dobj hD0 hf7 hD7 hdd hk7 => ?_
  have hk7 : ∀ x o, x ≠ ff → h6.get? x = some o → h7.get? x = some o := hk7
  have hns7 : h7.Ns s.heap.objs.size _ := hns6.at' fun o e => hk7 _ o (Ne.symm nfL) e
  refine PyProof.Rows.wpAny_releaseD ?_
  -- return stream
  refine wpAny_execs_cons (wpAny_Return_some (wpAny_Name (wpAny_loadName_local ek eS (by rw [eL]; exact hns7) ((if_neg neSR).trans (if_pos rfl)) ?_)))
  have hk7s : ∀ x q, x ≠ tabP → s.heap.get? x = some q → h7.get? x = some q := fun x q hx e => hk7 x q (fun e2 => by rw [e2] at e; exact absurd (Nat.lt_trans (Heap.lt_size e) lt1) (Nat.not_lt.mpr hf1)) (hk6 x q hx e)
  have nfg : ff ≠ g := ng hf4
  have hg7 : h7.get? g = some (fnObj Option.none gd) := hk7 _ _ (Ne.symm nfg) hg6
  have hP7 : h7.get? tabP = some (tabObj ps5) := hk7 _ _ (Ne.symm nfP) hP6
  obtain ⟨obO, qO1, qO2⟩ := icO4
  obtain ⟨obA, qA1, qA2⟩ := icA4
  have hO7 : h7.get? cO = some obO := hk7 _ _ (Ne.symm nfO) ((hs6.2 cO (Nat.ne_of_gt ltO)).trans (hk5 _ _ nOP qO1))
  have hA7 : h7.get? cA = some obA := hk7 _ _ (Ne.symm nfA) ((hs6.2 cA (Nat.ne_of_gt ltA)).trans (hk5 _ _ nAP qA1))
  have hl7 : h7.IsList la #[.int 0 tl] := by
    obtain ⟨q, q1, q2⟩ := hl4
    exact ⟨q, hk7 _ _ nlf ((hs6.2 la nlL).trans (hk5 _ _ nlP q1)), q2⟩
  have ncL : cr ≠ s.heap.objs.size := fun e => by
    obtain ⟨q, es, ep, q1, q2, _⟩ := hns4.at' (h' := h5) (fun o e => hk5 _ o neLP e)
    rw [← e, hcr] at q1; cases q1; rw [hcr1] at q2; cases q2
  have ncf : cr ≠ ff := fun e => by
    have q1 := hk5 _ _ nfP hf4
    rw [← e, hcr] at q1; cases q1; cases hcr1
  have hcr7 : h7.get? cr = some oc := hk7 _ _ ncf ((hs6.2 cr ncL).trans hcr)
  have sizeOf : ∀ {x : Addr} {q : Obj}, s.heap.get? x = some q → x < s.heap.objs.size := fun e => Heap.lt_size e
  have nDs : ∀ {x : Addr} {q : Obj}, h6.get? x = some q → x ≠ D := fun e q => by rw [q, hD0] at e; cases e
  have old : ∀ {x : Addr} {q : Obj}, s.heap.get? x = some q → x ≠ tabP → x ≠ ff ∧ x ≠ D ∧ x ≠ g ∧ x ≠ cO ∧ x ≠ cA := fun {x q} e hx =>
    ⟨fun e2 => by rw [e2] at e; exact absurd (Nat.lt_trans (Heap.lt_size e) lt1) (Nat.not_lt.mpr hf1), nDs (hk6 x q hx e), ng (hk4 x q hx e), Nat.ne_of_lt (Nat.lt_trans (Heap.lt_size e) ltO), Nat.ne_of_lt (Nat.lt_trans (Heap.lt_size e) ltA)⟩
  have newcr : ∀ {x : Addr} {q : Obj}, s.heap.get? x = some q → S x = Option.none → x ≠ cr := fun {x q} e hS e2 => by
    rcases hcn with h | h
    · rw [← e2, hS] at h; cases h
    · have h : h4.objs.size ≤ cr := h
      have := hns4.lt
      have h9 := Heap.lt_size e
      rw [e2] at h9
      exact absurd (Nat.lt_trans h9 this) (Nat.not_lt.mpr h)
  obtain ⟨S', hS'⟩ : ∃ S' : PH, S' = fun x => if x = ff ∨ x = D ∨ x = g ∨ x = cO ∨ x = cA ∨ x = cr then h7.get? x else S x := ⟨_, rfl⟩
  have Sin : ∀ x, (x = ff ∨ x = D ∨ x = g ∨ x = cO ∨ x = cA ∨ x = cr) → S' x = h7.get? x := fun x hx => by rw [hS']; exact if_pos hx
  have Sout : ∀ x, ¬ (x = ff ∨ x = D ∨ x = g ∨ x = cO ∨ x = cA ∨ x = cr) → S' x = S x := fun x hx => by rw [hS']; exact if_neg hx
  have Skeep : ∀ x q, S x = some q → h7.get? x = some q := fun x q e => hk7s x q (fun e2 => by rw [e2, hSP] at e; cases e) (gr.keepS x q e)
  have sub : Sub S S' := fun x q e => by
    by_cases hx : x = ff ∨ x = D ∨ x = g ∨ x = cO ∨ x = cA ∨ x = cr
    · rw [Sin x hx]; exact Skeep x q e
    · rw [Sout x hx]; exact e
  have nPs : ¬ (tabP = ff ∨ tabP = D ∨ tabP = g ∨ tabP = cO ∨ tabP = cA ∨ tabP = cr) := fun e => by
    rcases e with e | e | e | e | e | e
    · exact nfP e.symm
    · exact nDs hP6 e
    · exact ng hP4 e
    · exact nOP e.symm
    · exact nAP e.symm
    · exact ncP e.symm
  have hl6 : ∃ q, h6.get? la = some q ∧ q.data ≠ oc.data := by
    obtain ⟨q, q1, _, m, q2⟩ := hl4
    exact ⟨q, (hs6.2 la nlL).trans (hk5 _ _ nlP q1), by rw [q2, hcr1]; exact fun e => by cases e⟩
  obtain ⟨obl, hl61, hl62⟩ := hl6
  have nls : ¬ (la = ff ∨ la = D ∨ la = g ∨ la = cO ∨ la = cA ∨ la = cr) := fun e => by
    rcases e with e | e | e | e | e | e
    · exact nlf e
    · exact nDs hl61 e
    · obtain ⟨q, q1, _⟩ := hl4; exact ng q1 e
    · exact nlO e
    · exact nlA e
    · have := (hs6.2 cr ncL).trans hcr
      rw [← e, hl61] at this; cases this; exact hl62 rfl
  have hSla : S la = Option.none := by
    cases q : S la with
    | none => rfl
    | some ob => exact absurd (Nat.lt_trans (Heap.lt_size (gr.keepS _ _ q)) lt3) (Nat.lt_irrefl _)
  have oldS : ∀ {x : Addr} {q : Obj}, s.heap.get? x = some q → x ≠ tabP → S x = Option.none → S' x = Option.none := fun {x q} e hx hS => by
    obtain ⟨n1, n2, n3, n4, n5⟩ := old e hx
    rw [Sout x (fun h => by
      rcases h with h | h | h | h | h | h
      · exact n1 h
      · exact n2 h
      · exact n3 h
      · exact n4 h
      · exact n5 h
      · exact newcr e hS h)]
    exact hS
  have liveP : IsLive μ (.tab b :: r) tabP := ⟨0, hP0, .tab b, rfl, fun e => by cases e⟩
  have hpre : Pre μ (μ ++ [la]) := .app _ _
  -- places of the new memory
  have place : ∀ {j : Nat} {x : Addr} {cl : MCell}, (μ ++ [la])[j]? = some x → (MCell.tab true :: (r ++ [MCell.pos 0]))[j]? = some cl → (j = 0 ∧ x = tabP ∧ cl = .tab true) ∨ (0 < j ∧ j < μ.length ∧ μ[j]? = some x ∧ (MCell.tab b :: r)[j]? = some cl) ∨ (j = μ.length ∧ x = la ∧ cl = .pos 0) := fun {j x cl} h1 h2 => by
    have hl2 : μ.length = r.length + 1 := by rw [hlen]; rfl
    by_cases q : j < μ.length
    · rw [List.getElem?_append_left q] at h1
      cases j with
      | zero => rw [hP0] at h1; cases h1; cases h2; exact .inl ⟨rfl, rfl, rfl⟩
      | succ j =>
        rw [List.getElem?_cons_succ, List.getElem?_append_left (by omega)] at h2
        exact .inr (.inl ⟨Nat.succ_pos _, q, h1, by rw [List.getElem?_cons_succ]; exact h2⟩)
    · rw [List.getElem?_append_right (by omega)] at h1
      have : j - μ.length = 0 := by have := (List.getElem?_eq_some_iff.mp h1).1; simp at this; omega
      rw [this] at h1; simp at h1
      have hj : j = r.length + 1 := by omega
      subst hj
      rw [List.getElem?_cons_succ, List.getElem?_append_right (Nat.le_refl _)] at h2
      simp at h2
      exact .inr (.inr ⟨by omega, h1.symm, h2.symm⟩)
  have toOld : ∀ {x : Addr}, IsLive (μ ++ [la]) (MCell.tab true :: (r ++ [MCell.pos 0])) x → IsLive μ (.tab b :: r) x ∨ x = la := fun {x} ⟨j, h1, cl, h2, h3⟩ => by
    rcases place h1 h2 with ⟨_, rfl, _⟩ | ⟨_, _, h4, h5⟩ | ⟨_, h4, _⟩
    · exact .inl liveP
    · exact .inl ⟨j, h4, cl, h5, h3⟩
    · exact .inr h4
  refine k (.ref ff) S' (μ ++ [la]) _ sub hpre ⟨fun x q e => ?_, fun x q e => sub x q (gr.baseS x q e), by simp [hlen], ?_, ?_, gr.gens, gr.os_⟩ ?_ ?_
  · by_cases hx : x = ff ∨ x = D ∨ x = g ∨ x = cO ∨ x = cA ∨ x = cr
    · rw [Sin x hx] at e; exact e
    · rw [Sout x hx] at e; exact Skeep x q e
  · intro j x cl h1 h2
    rcases place h1 h2 with ⟨_, rfl, rfl⟩ | ⟨hj, _, h3, h4⟩ | ⟨_, rfl, rfl⟩
    · exact ⟨by rw [Sout _ nPs]; exact hSP, ps5, hP7, ⟨hT1, let ⟨cl, h⟩ := hT2; ⟨cl, cr, oc, cvs, ct, h, hT3, (Sin cr (by simp)).trans hcr7, hcr1, hcr2⟩⟩, rfl⟩
    · have m := gr.mutR j x cl h3 h4
      by_cases hd : cl = .dead
      · subst hd; trivial
      · obtain ⟨m1, q, m2⟩ := m.here hd
        have hxP : x ≠ tabP := fun e => by
          have := gr.inj j 0 tabP ⟨e ▸ h3, cl, h4, hd⟩ ⟨hP0, .tab b, rfl, fun e => by cases e⟩
          omega
        exact m.keep sub hpre (fun _ _ => oldS m2 hxP m1) fun _ => (hk7s x q hxP m2).trans m2.symm
    · exact ⟨by rw [Sout _ nls]; exact hSla, tl, hl7⟩
  · intro i j x ⟨p1, c1, q1, n1⟩ ⟨p2, c2, q2, n2⟩
    have lax : ∀ {j : Nat} {cl : MCell}, j < μ.length → μ[j]? = some la → (MCell.tab b :: r)[j]? = some cl → cl ≠ .dead → False := fun {j cl} _ h1 h2 h3 => by
      exact absurd (Nat.lt_trans (gr.lt ⟨j, h1, cl, h2, h3⟩) lt3) (Nat.lt_irrefl _)
    rcases place p1 q1 with ⟨rfl, rfl, rfl⟩ | ⟨_, a2, a3, a4⟩ | ⟨a1, rfl, rfl⟩ <;> rcases place p2 q2 with ⟨rfl, b2, b3⟩ | ⟨_, b2, b3, b4⟩ | ⟨b1, b2, b3⟩
    · rfl
    · exact gr.inj 0 j tabP ⟨hP0, .tab b, rfl, fun e => by cases e⟩ ⟨b3, c2, b4, n2⟩
    · exact absurd b2.symm nlP
    · subst b2; exact gr.inj i 0 tabP ⟨a3, c1, a4, n1⟩ ⟨hP0, .tab b, rfl, fun e => by cases e⟩
    · exact gr.inj i j x ⟨a3, c1, a4, n1⟩ ⟨b3, c2, b4, n2⟩
    · subst b2; exact (lax a2 a3 a4 n1).elim
    · exact absurd b2 nlP
    · exact (lax b2 b3 b4 n2).elim
    · omega
  · intro x ob' h1 h2 h3
    have hxP : x ≠ tabP := fun e => h3 (e ▸ liveP)
    refine ⟨⟨ob', hk7s x ob' hxP h1, .refl _⟩, oldS h1 hxP h2, fun hl => ?_⟩
    rcases toOld hl with h | h
    · exact h3 h
    · rw [h] at h1; exact absurd (Nat.lt_trans (Heap.lt_size h1) lt3) (Nat.lt_irrefl _)
  · refine .strm ⟨⟨fd', D, dobj, g, gd, cr, oc, cvs, ct, cO, cA, obO, obA, tv, la⟩, (Sin ff (by simp)).trans hf7, (Sin D (by simp)).trans hD7, hdd, (Sin g (by simp)).trans hg7, hgd, ⟨(Sin cr (by simp)).trans hcr7, hcr1, hcr2⟩, hcl, (Sin cO (by simp)).trans hO7, qO2, (Sin cA (by simp)).trans hA7, qA2, ?_⟩
    have hl2 : μ.length = r.length + 1 := by rw [hlen]; rfl
    rw [← hl2, List.getElem?_append_right (Nat.le_refl _)]; simp
end
end Mine
end
noncomputable section
open PySem PySem.W PyProof.Rows PySem.Calls
set_option Elab.async false
set_option linter.unusedVariables false
set_option maxRecDepth 100000
namespace Mine
theorem zip_lookup : ∀ {ns : List Str} {vals : List Value}, ns.Nodup → vals.length = ns.length → ∀ n ∈ ns, ∃ v, (ns.zip vals).lookup n = some v
  | [], _, _, _, n, h => by cases h
  | a :: ns, [], _, hl, _, _ => by simp at hl
  | a :: ns, v :: vals, hd, hl, n, h => by
    rw [List.zip_cons_cons, List.lookup_cons]
    by_cases e : n = a
    · subst e; exact ⟨v, by simp⟩
    · have e' : (n == a) = false := by simpa using e
      rw [e']
      exact zip_lookup (List.nodup_cons.mp hd).2 (by simpa using hl) n ((List.mem_cons.mp h).resolve_left e)
theorem zip_binds : ∀ {ns : List Str} {vals : List Value} (l : List (Str × Value)), ns.Nodup → vals.length = ns.length → (∀ n v, (n, v) ∈ ns.zip vals → l.lookup n = some v) → ns.filterMap (fun n => (l.lookup n).map fun x => (n, x)) = ns.zip vals
  | [], _, _, _, _, _ => by simp
  | a :: ns, [], _, _, hl, _ => by simp at hl
  | a :: ns, v :: vals, l, hd, hl, h => by
    have h1 := h a v (by simp)
    rw [List.filterMap_cons, h1]
    simp only [Option.map_some, List.zip_cons_cons, List.cons.injEq, true_and]
    exact zip_binds l (List.nodup_cons.mp hd).2 (by simpa using hl) fun n x q => h n x (by simp [q])
theorem zip_mem : ∀ {ns : List Str} {vals : List Value}, ns.Nodup → ∀ n v, (n, v) ∈ ns.zip vals → (ns.zip vals).lookup n = some v
  | [], _, _, _, _, h => by simp at h
  | a :: ns, [], _, _, _, h => by simp at h
  | a :: ns, x :: vals, hd, n, v, h => by
    rw [List.zip_cons_cons] at h ⊢
    rw [List.lookup_cons]
    rcases List.mem_cons.mp h with e | e
    · cases e; simp
    · have hn : n ≠ a := fun q => (List.nodup_cons.mp hd).1 (q ▸ (List.of_mem_zip e).1)
      have e' : (n == a) = false := by simpa using hn
      rw [e']; exact zip_mem (List.nodup_cons.mp hd).2 n v e
noncomputable def isNone' (v : Value) : Bool := by
  cases v with
  | none => exact true
  | _ => exact false
theorem isNone_inv {v : Value} (h : isNone' v = true) : v = .none := by
  cases v with
  | none => rfl
  | _ => exact nob h
noncomputable def parOk (fd : FuncData) (ns : List Str) : Bool :=
  fd.params.posonlyargs.isEmpty && fd.params.kwonlyargs.isEmpty && fd.params.kwarg.isNone && fd.params.vararg.isNone && (fd.params.args.map (·.arg) == ns) && decide ns.Nodup && isNone' fd.defaults
theorem bind_go {ps : Arguments} {q1 q2 : Str} {bo : FuncBody} {sc : Scope} {g b : Addr} {cl : List (Str × Addr)} {k1 k2 k3 k4 k5 : Value} {an : Option Addr} {as : List Arg} {vals : List Value}
    (h1 : ps.posonlyargs = []) (h2 : ps.kwonlyargs = []) (h3 : ps.kwarg = Option.none) (h4 : ps.vararg = Option.none) (h5 : ps.args = as) (hl : vals.length = (as.map (·.arg)).length)
    (hm : ((as.map (·.arg)).take (as.map (·.arg)).length).filter (fun n => (List.lookup n ((as.map (·.arg)).zip vals)).isNone) = [])
    (hz : (as.map (·.arg)).filterMap (fun n => (((as.map (·.arg)).zip vals).lookup n).map fun x => (n, x)) = (as.map (·.arg)).zip vals) :
    bindArgs ⟨q1, q2, ps, bo, sc, g, cl, .none, k1, k2, k3, an, k4, k5, b⟩ ⟨vals, []⟩ = pure ((as.map (·.arg)).zip vals) := by
  obtain ⟨p1, p2, p3, p4, p5, p6, p7⟩ := ps
  simp only at h1 h2 h3 h4 h5
  subst h1 h2 h3 h4 h5
  have hd : ∀ (l : List Str) (k : Nat), l.zip (([] : List Value).drop k) = [] := fun l k => by rw [List.drop_nil]; exact List.zip_nil_right
  unfold bindArgs
  refine (if_neg ?_).trans ?_
  · show ¬ ((decide (vals.length > (p2.map (·.arg)).length)) && true) = true
    rw [hl]; simp
  refine (if_neg ?_).trans ?_
  · intro hh
    replace hh : (!(((p2.map (·.arg)).take ((p2.map (·.arg)).length - (List.drop (([] : List Value).length - (p2.map (·.arg)).length) ([] : List Value)).length)).filter (fun n => (List.lookup n ((p2.map (·.arg)).zip vals)).isNone)).isEmpty) = true := hh
    rw [List.drop_nil, List.length_nil, Nat.sub_zero, hm] at hh
    exact nob hh
  show (forIn (((p2.map (·.arg)).drop ((p2.map (·.arg)).length - (List.drop (([] : List Value).length - (p2.map (·.arg)).length) ([] : List Value)).length)).zip (([] : List Value).drop (([] : List Value).length - (p2.map (·.arg)).length))) ((p2.map (·.arg)).zip vals) _ >>= _) = _
  rw [hd]
  have hz' : (p2.map (fun a : Arg => a.arg) ++ ([] : List Str)).filterMap (fun n => (((p2.map (fun a : Arg => a.arg)).zip vals).lookup n).map fun x => (n, x)) = (p2.map (fun a : Arg => a.arg)).zip vals := by rw [List.append_nil]; exact hz
  refine Eq.trans ?_ (congrArg pure hz')
  rfl
theorem bind_plain {fd : FuncData} {ns : List Str} {vals : List Value} (h : parOk fd ns = true) (hl : vals.length = ns.length) : bindArgs fd ⟨vals, []⟩ = pure (ns.zip vals) := by
  unfold parOk at h
  have k1 := an h
  have k2 := an k1.1
  have k3 := an k2.1
  have k4 := an k3.1
  have k5 := an k4.1
  have k6 := an k5.1
  have h6 := of_decide_eq_true k2.2
  have h5 := beq_iff_eq.mp k3.2
  obtain ⟨q1, q2, ps, bo, sc, g, cl, df, k1', k2', k3', an', k4', k5', b⟩ := fd
  have h8 : df = .none := isNone_inv k1.2
  subst h8
  have hm : List.filter (fun n => (List.lookup n (ns.zip vals)).isNone) (List.take ns.length ns) = [] := by
    rw [List.take_length, List.filter_eq_nil_iff]
    intro n hn
    obtain ⟨v, e⟩ := zip_lookup h6 hl n hn
    rw [e]; exact Bool.false_ne_true
  have hz := zip_binds (ns.zip vals) h6 hl (zip_mem h6)
  replace h5 : ps.args.map (·.arg) = ns := h5
  subst h5
  exact bind_go (List.isEmpty_iff.mp k6.1) (List.isEmpty_iff.mp k6.2) (Option.isNone_iff_eq_none.mp k5.2) (Option.isNone_iff_eq_none.mp k4.2) rfl hl hm hz
noncomputable def parVa (fd : FuncData) (x y : Str) : Bool :=
  fd.params.posonlyargs.isEmpty && fd.params.kwonlyargs.isEmpty && fd.params.kwarg.isNone && (fd.params.vararg.map (·.arg) == some y) && (fd.params.args.map (·.arg) == [x]) && isNone' fd.defaults
theorem args_eq {p : Arguments} {a b d : List Arg} {c e : Option Arg} (h1 : p.posonlyargs = a) (h2 : p.args = b) (h3 : p.vararg = c) (h4 : p.kwonlyargs = d) (h5 : p.kwarg = e) : p = ⟨a, b, c, d, p.kw_defaults, e, p.defaults⟩ := by
  cases p; subst h1 h2 h3 h4 h5; rfl
theorem fd_eq {fd : FuncData} {ps : Arguments} (h : fd.params = ps) (h8 : fd.defaults = .none) : fd = ⟨fd.name, fd.qualname, ps, fd.body, fd.scope, fd.globals, fd.closure, .none, fd.kwdefaults, fd.doc, fd.pyModule, fd.annotations, fd.code, fd.closureTuple, fd.builtins⟩ := by
  subst h; rw [← h8]
theorem va_go {q1 q2 : Str} {bo : FuncBody} {sc : Scope} {g b : Addr} {cl : List (Str × Addr)} {k1 k2 k3 k4 k5 : Value} {an : Option Addr} {a0 a : Arg} {kd : List (Option PySem.Expr)} {ds : List PySem.Expr} (v u : Value) :
    bindArgs ⟨q1, q2, ⟨[], [a0], some a, [], kd, Option.none, ds⟩, bo, sc, g, cl, .none, k1, k2, k3, an, k4, k5, b⟩ ⟨[v, u], []⟩ = (do let t ← newTuple [u]; pure [(a0.arg, v), (a.arg, t)]) := by
  have hlk : List.lookup a0.arg [(a0.arg, v)] = some v := by rw [List.lookup_cons, beq_self_eq_true a0.arg]
  have hz : [a0.arg].filterMap (fun n => (List.lookup n [(a0.arg, v)]).map fun x => (n, x)) = [(a0.arg, v)] := by
    rw [List.filterMap_cons, hlk]; rfl
  unfold bindArgs
  refine (if_neg ?_).trans ?_
  · intro hh
    replace hh : (!([a0.arg].filter fun n => (List.lookup n [(a0.arg, v)]).isNone).isEmpty) = true := hh
    rw [List.filter_cons, hlk] at hh
    exact nob hh
  show (newTuple [u] >>= fun t => pure ([a0.arg].filterMap (fun n => (List.lookup n [(a0.arg, v)]).map fun x => (n, x)) ++ [(a.arg, t)])) = _
  rw [hz]; rfl
theorem bind_va {fd : FuncData} {x y : Str} (v u : Value) (h : parVa fd x y = true) : bindArgs fd ⟨[v, u], []⟩ = (do let t ← newTuple [u]; pure [(x, v), (y, t)]) := by
  unfold parVa at h
  have k1 := an h
  have k2 := an k1.1
  have k3 := an k2.1
  have k4 := an k3.1
  have k5 := an k4.1
  obtain ⟨a, h4, e4⟩ := Option.map_eq_some_iff.mp (beq_iff_eq.mp k3.2)
  obtain ⟨a0, h5, e5⟩ : ∃ a0, fd.params.args = [a0] ∧ a0.arg = x := by
    have h5 := beq_iff_eq.mp k2.2
    cases hp : fd.params.args with
    | nil => rw [hp] at h5; cases h5
    | cons a0 r =>
      rw [hp] at h5
      obtain ⟨e1, e2⟩ := List.cons.inj h5
      exact ⟨a0, by rw [List.map_eq_nil_iff.mp e2], e1⟩
  rw [fd_eq (args_eq (List.isEmpty_iff.mp k5.1) h5 h4 (List.isEmpty_iff.mp k5.2) (Option.isNone_iff_eq_none.mp k4.2)) (isNone_inv k1.2), ← e4, ← e5]
  exact va_go v u
end Mine
end
noncomputable section
open PySem PySem.W PyProof.Rows PySem.Calls
set_option Elab.async false
set_option linter.unusedVariables false
set_option maxRecDepth 100000
namespace Mine

noncomputable def fdIn (K : Frag) (f : Str) : Option (Addr × FuncData) := match nsIn K mainGlobals f with
  | some (some (.ref a)) => match K.lookup a with
    | some ⟨_, _, .func fd, _⟩ => some (a, fd)
    | _ => none
  | _ => none
noncomputable def stmtsOf (fd : FuncData) : List Stmt := match fd.body with
  | .stmts b => b
  | _ => []
noncomputable def isStmts (fd : FuncData) : Bool := match fd.body with
  | .stmts _ => true
  | _ => false
noncomputable def fnCheck (K : Frag) (f : Str) (np : Nat) (ns : List Str) (gs : List Str × List Str) : Bool := match fdIn K f with
  | some (_, fd) => scopeFits fd.scope ns gs && codeIn K fd.code fd.qualname && fd.closure.isEmpty && decide (np ≤ ns.length) && fd.globals == mainGlobals && fd.builtins == builtinsNs && isStmts fd
  | none => false
noncomputable def bodyIn (K : Frag) (f : Str) : List Stmt := match fdIn K f with
  | some (_, fd) => stmtsOf fd
  | none => []

theorem fn_at0 {K : Frag} {f : Str} {np : Nat} {ns : List Str} {gs : List Str × List Str} {h : Heap} {mg mb : Str → Option Value} (X : K.In h) (G : h.Ns mainGlobals mg) (B : h.Ns builtinsNs mb) (NL : h.NoLimit) (hc : fnCheck K f np ns gs = true) :
    ∃ a fd, fdIn K f = some (a, fd) ∧ mg f = some (.ref a) ∧ FnAt0 h a fd (bodyIn K f) np ns gs mg mb ∧ fd.globals = mainGlobals := by
  unfold fnCheck at hc
  split at hc
  · rename_i a fd heq
    simp only [Bool.and_eq_true, beq_iff_eq, decide_eq_true_eq, List.isEmpty_iff] at hc
    obtain ⟨⟨⟨⟨⟨⟨c1, c2⟩, c3⟩, c4⟩, c5⟩, c6⟩, c7⟩ := hc
    have hb : bodyIn K f = stmtsOf fd := by unfold bodyIn; rw [heq]
    have hst : fd.body = .stmts (stmtsOf fd) := by
      unfold isStmts at c7
      unfold stmtsOf
      split at c7
      · rename_i b e; rw [e]
      · cases c7
    have heq' := heq
    unfold fdIn at heq'
    split at heq'
    · rename_i a' hn
      split at heq'
      · rename_i hl
        cases heq'
        exact ⟨a, fd, heq, mg_of X G hn, ⟨⟨_, X _ _ hl, rfl⟩, NL, codeRec_of X c2, hb ▸ hst, c3, c1, c4, by rw [c5]; exact G, by rw [c6]; exact B⟩, c5⟩
      · cases heq'
    · cases heq'
  · cases hc

noncomputable def gsIn (K : Frag) (f : Str) : List Str × List Str := match fdIn K f with
  | some (_, fd) => (fd.scope.names.filterMap (fun y => if y.2 == .globalImplicit then some y.1 else none), fd.scope.names.filterMap (fun y => if y.2 == .cell then some y.1 else none))
  | none => ([], [])
noncomputable def fdGet (K : Frag) (f : Str) : FuncData := match fdIn K f with
  | some p => p.2
  | none => default
theorem fdGet_eq {K : Frag} {f : Str} {a : Addr} {fd : FuncData} (h : fdIn K f = some (a, fd)) : fdGet K f = fd := by unfold fdGet; rw [h]

noncomputable def isTup (o : Obj) : Bool := (match o.cls with | .type n => n == "tuple" | _ => false) && o.dict.isNone && o.slots.isEmpty
noncomputable def seqOf (o : Obj) : Option (List Value) := match o.data with
  | .seq vs _ => some vs.toList
  | _ => none
mutual
/-- a constant of tuples, ints and strings, read off the heap -/
noncomputable def pvIn (K : Frag) : Nat → Value → Option PV
  | 0, _ => none
  | n + 1, v => match v with
    | .int i _ => some (.int i)
    | .str x _ => some (.str x)
    | .ref a => match K.lookup a with
      | some o => if isTup o then (seqOf o).bind fun vs => (pvsIn K n vs).map .tup else none
      | none => none
    | _ => none
noncomputable def pvsIn (K : Frag) : Nat → List Value → Option (List PV)
  | 0, _ => none
  | _, [] => some []
  | n + 1, v :: vs => (pvIn K n v).bind fun x => (pvsIn K n vs).map (x :: ·)
end
theorem isTup_obj {o : Obj} {vs : List Value} (h : isTup o = true) (hs : seqOf o = some vs) : ∃ n, o = tupObj vs n := by
  obtain ⟨c, d, dt, sl⟩ := o
  unfold isTup at h
  simp only [Bool.and_eq_true, Option.isNone_iff_eq_none, Array.isEmpty_iff] at h
  obtain ⟨⟨h1, h2⟩, h3⟩ := h
  subst h2 h3
  unfold seqOf at hs
  split at hs
  · rename_i ws n e
    cases hs
    simp only at e
    subst e
    cases c with
    | type nn =>
      simp only [beq_iff_eq] at h1
      subst h1
      exact ⟨n, by simp⟩
    | _ => simp at h1
  · cases hs
mutual
theorem pvIn_ok {K : Frag} {S : PH} {μ : List Addr} (hK : ∀ a o, K.lookup a = some o → S a = some o) : ∀ (n : Nat) (v : Value) (x : PV), pvIn K n v = some x → VR S μ v x ∧ x.isS = false
  | 0, v, x, h => by simp [pvIn] at h
  | n + 1, v, x, h => by
    cases v with
    | int i t => simp [pvIn] at h; subst h; exact ⟨.int i t, rfl⟩
    | str y t => simp [pvIn] at h; subst h; exact ⟨.str y t, rfl⟩
    | ref a =>
      simp only [pvIn] at h
      split at h
      · rename_i o ho
        split at h
        · rename_i ht
          simp only [Option.bind_eq_some_iff] at h
          obtain ⟨vs, h1, h2⟩ := h
          obtain ⟨xs, h3, h4⟩ := Option.map_eq_some_iff.mp h2
          subst h4
          obtain ⟨m, e⟩ := isTup_obj ht h1
          obtain ⟨q1, q2⟩ := pvsIn_ok hK n vs xs h3
          exact ⟨.tup (by rw [← e]; exact hK a o ho) q1 q2, rfl⟩
        · cases h
      · cases h
    | _ => simp [pvIn] at h
theorem pvsIn_ok {K : Frag} {S : PH} {μ : List Addr} (hK : ∀ a o, K.lookup a = some o → S a = some o) : ∀ (n : Nat) (vs : List Value) (xs : List PV), pvsIn K n vs = some xs → VRs S μ vs xs ∧ NoS xs
  | 0, vs, xs, h => by simp [pvsIn] at h
  | n + 1, [], xs, h => by simp [pvsIn] at h; subst h; exact ⟨.nil, .nil⟩
  | n + 1, v :: vs, xs, h => by
    simp only [pvsIn, Option.bind_eq_some_iff] at h
    obtain ⟨x, h1, h2⟩ := h
    obtain ⟨ys, h3, rfl⟩ := Option.map_eq_some_iff.mp h2
    obtain ⟨a1, a2⟩ := pvIn_ok hK n v x h1
    obtain ⟨b1, b2⟩ := pvsIn_ok hK n vs ys h3
    exact ⟨.cons a1 b1, .cons a2 b2⟩
end

noncomputable def ch (c : Nat) : PV := .str ⟨#[c]⟩
noncomputable def row (i : Int) (c : Nat) : PV := .tup [.int i, ch c]
/-- the table of filemode -/
noncomputable def modeTab : PV := .tup [
  .tup [row 40960 108, row 49152 115, row 32768 45, row 24576 98, row 16384 100, row 8192 99, row 4096 112],
  .tup [row 256 114], .tup [row 128 119], .tup [row 2112 115, row 2048 83, row 64 120],
  .tup [row 32 114], .tup [row 16 119], .tup [row 1032 115, row 1024 83, row 8 120],
  .tup [row 4 114], .tup [row 2 119], .tup [row 513 116, row 512 84, row 1 120]]

/-! ## what is looked at behind the top -/
noncomputable def fnTab : List (Str × Nat × List Str × List C) := [(Str.ofString "fspath", 1, n_fspath, c_fspath), (Str.ofString "_get_sep", 1, n_get_sep, c_get_sep), (Str.ofString "join", 2, n_join, c_join), (Str.ofString "split", 1, n_split, c_split), (Str.ofString "splitroot", 1, n_splitroot, c_splitroot), (Str.ofString "normpath", 1, n_normpath, c_normpath), (Str.ofString "read_uint1", 1, n_read_uint1, c_read_uint1), (Str.ofString "read_string1", 1, n_read_string1, c_read_string1), (Str.ofString "read_bytes1", 1, n_read_bytes1, c_read_bytes1), (Str.ofString "S_IFMT", 1, n_S_IFMT, c_S_IFMT), (Str.ofString "filemode", 1, n_filemode, c_filemode), (Str.ofString "_law_tree", 1, n_law_tree, c_law_tree), (Str.ofString "_law_image", 1, n_law_image, c_law_image), (Str.ofString "_law_entries", 1, n_law_entries, c_law_entries), (Str.ofString "_law_disk", 1, n_law_disk, c_law_disk), (Str.ofString "_law_climb", 2, n_law_climb, c_law_climb), (Str.ofString "_law_step", 3, n_law_step, c_law_step), (Str.ofString "_law_walk", 4, n_law_walk, c_law_walk)]
noncomputable def okIn (K : Frag) (e : Str × Nat × List Str × List C) : Bool := fnCheck K e.1 e.2.1 e.2.2.1 (gsIn K e.1) && C.Iss e.2.2.1 (gsIn K e.1) e.2.2.2 (bodyIn K e.1) && (parOk (fdGet K e.1) (e.2.2.1.take e.2.1) || e.1 == Str.ofString "join")
noncomputable def dRaise (s : Stmt) : Option (Option PySem.Expr × Option PySem.Expr × Pos) := by
  cases s with
  | Raise a b p => exact some (a, b, p)
  | _ => exact none
theorem dRaise_inv {s : Stmt} {q : Option PySem.Expr × Option PySem.Expr × Pos} (h : dRaise s = some q) : s = .Raise q.1 q.2.1 q.2.2 := by
  cases s with
  | Raise => cases h; rfl
  | _ => exact no h
noncomputable def cStr (k : Const) : Option Str := by
  cases k with
  | str x => exact some x
  | _ => exact none
theorem cStr_inv {k : Const} {x : Str} (h : cStr k = some x) : k = .str x := by
  cases k with
  | str => cases h; rfl
  | _ => exact no h
noncomputable def rFit (gs : List Str × List Str) (body : List Stmt) : Bool := (three body).any fun t => (dRaise t.2.2).any fun r => r.2.1.isNone && r.1.any fun e => (dCall e).any fun c => (one c.2.1).any fun m => (dConst m).any fun k => (cStr k.1).isSome && (c.1.1 == Str.ofString "ValueError" && gs.1.contains c.1.1)
theorem rFit_k {P : List Stmt → Prop} {gs : List Str × List Str} {body : List Stmt} (h : rFit gs body = true) (k : ∀ s1 s2 q m kd p1 p2 p3 p4, q = Str.ofString "ValueError" → gs.1.contains q = true → P [s1, s2, .Raise (some (.Call (.Name q p1) [.Constant (.str m) kd p2] [] p3)) none p4]) : P body :=
  anyk h fun t h1 h => anyk h fun r h2 h => anyk (an h).2 fun e h3 h4 => anyk h4 fun c h5 h6 => anyk h6 fun m h7 h8 => anyk h8 fun kk h9 h10 => by
    obtain ⟨x, h11⟩ := Option.isSome_iff_exists.mp (an h10).1
    rw [three_inv h1, dRaise_inv h2, h3, dCall_inv h5, one_inv h7, dConst_inv h9, cStr_inv h11, Option.isNone_iff_eq_none.mp (an h).1]
    exact k _ _ _ _ _ _ _ _ _ (beq_iff_eq.mp (an (an h10).2).1) (an (an h10).2).2
noncomputable def noneIn (K : Frag) (x : Str) : Bool := match nsIn K mainGlobals x with
  | some none => true
  | _ => false
noncomputable def streamIn (K : Frag) : Bool := let fd := fdGet K (Str.ofString "_law_stream")
  fnCheck K (Str.ofString "_law_stream") 1 nStream gsStream && parOk fd (nStream.take 1) && fd.code == .ref codeC && fd.qualname == Str.ofString "_law_stream"
noncomputable def checkAll (K : Frag) : Bool := fnTab.all (okIn K) && streamIn K && parVa (fdGet K (Str.ofString "join")) (Str.ofString "a") (Str.ofString "p") && rFit (gsIn K (Str.ofString "read_uint1")) (bodyIn K (Str.ofString "read_uint1")) &&
  blist.all (fun p => noneIn K p.1) && noneIn K (Str.ofString "str") && noneIn K (Str.ofString "bytes") && noTabs K && codeHdIn K codeC tabP
noncomputable def modeIn (K : Frag) : Option PV := match nsIn K mainGlobals (Str.ofString "_filemode_table") with
  | some (some v) => pvIn K 40 v
  | _ => none
/-- the objects looked at -/
noncomputable def addrs : List Addr := [2, 3, 15, 17, 18, 20, 21, 22, 24, 25, 27, 28, 29, 36, 38, 39, 41, 42, 43, 44, 45, 48, 55, 57, 58, 60, 61, 62, 64, 65, 67, 68, 69, 71, 72, 74, 75, 76, 77, 78, 81, 83, 84, 86, 87, 88, 90, 91, 93, 94, 95, 97, 98, 100, 101, 102, 104, 105, 107, 108, 109, 111, 112, 114, 115, 116, 118, 119, 121, 122, 123, 125, 126, 128, 129, 130, 132, 133, 135, 136, 137, 139, 140, 142, 143, 144, 146, 147, 149, 150, 151, 153, 154, 156, 157, 158, 160, 161, 163, 164, 165, 166, 167, 168, 169, 170, 171, 172, 173, 174, 175, 176, 177, 178, 179, 180, 181, 182, 183, 184, 185, 186, 187, 188, 189, 190, 191, 192, 193, 194, 195, 196, 197, 198, 200, 201, 203, 204, 205, 207, 208, 210, 211, 212, 215, 216, 217, 220, 221, 222, 224, 225, 227, 228, 229, 231, 232, 234, 235, 236, 238, 239, 241, 242, 243, 245, 246, 248, 249, 250, 253, 254, 255, 257, 258, 260, 261]
noncomputable def fragOfH (h : Heap) : Frag := addrs.filterMap fun a => (h.get? a).map fun o => (a, o)
theorem fragOfH_in (h : Heap) : (fragOfH h).In h := fun a o e => by
  obtain ⟨b, _, h2⟩ := List.mem_filterMap.mp (mem_of_lookupK e)
  obtain ⟨o', h3, h4⟩ := Option.map_eq_some_iff.mp h2
  cases h4; exact h3
/-- the facts that the law's proof leans on -/
structure Seen (K : Frag) : Prop where
  all : checkAll K = true
  tab : modeIn K = some modeTab
  stream : bodyIn K (Str.ofString "_law_stream") = streamBody
noncomputable def lookHk : Hook where
  α := Bool × Option PV × List Stmt × Option Obj
  obs := fun s => let K := fragOfH s.heap
    (checkAll K, modeIn K, bodyIn K (Str.ofString "_law_stream"), s.heap.get? tabP)
  val := fun _ => (true, some modeTab, streamBody, some (tabObj #[]))
  says := fun _ h => (∃ K : Frag, K.In h ∧ Seen K) ∧ h.get? tabP = some (tabObj #[])
  of := fun w s e => by
    obtain ⟨e1, e⟩ := Prod.mk.inj e
    obtain ⟨e2, e⟩ := Prod.mk.inj e
    obtain ⟨e3, e4⟩ := Prod.mk.inj e
    exact ⟨⟨_, fragOfH_in s.heap, e1, e2, e3⟩, e4⟩
  keeps := fun w h h' ⟨⟨K, X, S⟩, e⟩ k => ⟨⟨K, X.keeps k, S⟩, k _ _ e⟩
end Mine
end
noncomputable section
open PySem PySem.W PyProof.Rows
set_option Elab.async false
set_option maxRecDepth 100000
set_option maxHeartbeats 80000000
namespace Mine
noncomputable def keepL : List Nat := [0, 2, 4, 6, 7, 9, 11, 13, 14, 15, 16, 17, 19, 20, 21, 23, 24, 25, 26, 27, 28, 29, 30, 31, 32, 33, 34, 35, 36, 37, 38, 39, 40, 41, 42, 43, 44, 46, 47, 48, 49, 50, 51, 52, 53, 54]
noncomputable def vw : Program := view PySem.Challenge.pw_rt0075_01 keepL
noncomputable def lvL : List (Str × WData) := []
theorem left : LeftO PySem.Challenge.rw_rt0075_01.row.prog vw [Str.ofString "_filemode_table"] (fun s => xlAt vw lvL s && recOk (RowW.records PySem.Challenge.rw_rt0075_01.row.toRowW) s) (Hook.obs lookHk) (Hook.val lookHk) 3502 := by
  intro w
  kernel_rfl
end Mine
end
noncomputable section
open PySem PySem.W PyProof.Rows PySem.Calls
set_option Elab.async false
set_option linter.unusedVariables false
set_option maxRecDepth 100000
namespace Mine

/-- the law's start heap -/
structure Start (h : Heap) (K : Frag) (mg mb : Str → Option Value) : Prop where
  X : K.In h
  S : Seen K
  G : h.Ns mainGlobals mg
  B : h.Ns builtinsNs mb
  NL : h.NoLimit
  boot : ∀ x : Str, x ≠ "__name__" → mb x = bootBuiltins x
  code : CodeHd h codeC tabP
  bm : h.BuiltinsAt mg tabP

noncomputable def γ0 : String → Option PV := fun x => if x = "_filemode_table" then some modeTab else if x = "str" then some (.ty "str") else if x = "bytes" then some (.ty "bytes") else none

section
variable {prog : Program} {w : World} {h : Heap} {os : OsState} {K : Frag} {mg mb : Str → Option Value} {n : Nat} {Φ : Fns}

/-- the looks, one by one -/
structure Parts (K : Frag) : Prop where
  fns : ∀ e ∈ fnTab, okIn K e = true
  stream : streamIn K = true
  joins : parVa (fdGet K (Str.ofString "join")) (Str.ofString "a") (Str.ofString "p") = true
  raises : rFit (gsIn K (Str.ofString "read_uint1")) (bodyIn K (Str.ofString "read_uint1")) = true
  blt : ∀ p ∈ blist, noneIn K p.1 = true
  str : noneIn K (Str.ofString "str") = true
  bytes : noneIn K (Str.ofString "bytes") = true
  tabs : noTabs K = true
  code : codeHdIn K codeC tabP = true
theorem Seen.parts (S : Seen K) : Parts K := by
  have h := S.all
  unfold checkAll at h
  obtain ⟨h, a9⟩ := Bool.and_eq_true_iff.mp h
  obtain ⟨h, a8⟩ := Bool.and_eq_true_iff.mp h
  obtain ⟨h, a7⟩ := Bool.and_eq_true_iff.mp h
  obtain ⟨h, a6⟩ := Bool.and_eq_true_iff.mp h
  obtain ⟨h, a5⟩ := Bool.and_eq_true_iff.mp h
  obtain ⟨h, a4⟩ := Bool.and_eq_true_iff.mp h
  obtain ⟨h, a3⟩ := Bool.and_eq_true_iff.mp h
  obtain ⟨a1, a2⟩ := Bool.and_eq_true_iff.mp h
  exact ⟨fun e he => List.all_eq_true.mp a1 e he, a2, a3, a4, fun p hp => List.all_eq_true.mp a5 p hp, a6, a7, a8, a9⟩
theorem none_of {x : Str} (X : K.In h) (G : h.Ns mainGlobals mg) (e : noneIn K x = true) : mg x = none := by
  unfold noneIn at e
  split at e
  · rename_i q; exact mg_none_of X G q
  · cases e
theorem blt_boot : blist.map (fun p => bootBuiltins p.1) = blist.map (fun p => some p.2) := by kernel_rfl
theorem ty_boot : bootBuiltins (Str.ofString "str") = some (.type "str") ∧ bootBuiltins (Str.ofString "bytes") = some (.type "bytes") := ⟨by kernel_rfl, by kernel_rfl⟩
theorem Start.blt (T : Start h K mg mb) : ∀ p ∈ blist, mg p.1 = none ∧ mb p.1 = some p.2 := by
  intro p hp
  obtain ⟨i, hi⟩ := List.mem_iff_getElem?.mp hp
  have e2 := congrArg (fun l : List (Option Value) => l[i]?) blt_boot
  simp only [List.getElem?_map, hi, Option.map_some, Option.some.injEq] at e2
  refine ⟨none_of T.X T.G (T.S.parts.blt p hp), ?_⟩
  rw [T.boot p.1 (fun e => ?_)]
  · exact e2
  · have hn : blist.all (fun q => q.1 != ("__name__" : Str)) = true := by decide +kernel
    have := List.all_eq_true.mp hn p hp
    rw [e] at this; simp at this

theorem Start.ty (T : Start h K mg mb) {x : String} {N : String} (hx : x = "str" ∧ N = "str" ∨ x = "bytes" ∧ N = "bytes") : mg (Str.ofString x) = none ∧ mb (Str.ofString x) = some (.type N) := by
  rcases hx with ⟨rfl, rfl⟩ | ⟨rfl, rfl⟩
  · exact ⟨none_of T.X T.G T.S.parts.str, (T.boot _ (by decide +kernel)).trans ty_boot.1⟩
  · exact ⟨none_of T.X T.G T.S.parts.bytes, (T.boot _ (by decide +kernel)).trans ty_boot.2⟩

theorem lib_of (T : Start h K mg mb) (hΦ : ∀ f g, Φ f = some g → ∃ a o fd, mg (Str.ofString f) = some (.ref a) ∧ h.get? a = some o ∧ o.data = .func fd ∧ CallOk prog w h os (n + 1) a g) (hR : ∀ g, Φ "read_uint1" = some g → ∃ a o fd, mg (Str.ofString "read_uint1") = some (.ref a) ∧ h.get? a = some o ∧ o.data = .func fd ∧ RaiseOk prog w h os (n + 1) a endG) {A : Around} {c : FC} (ok : c.Ok) (fr : Fram A c) (e1 : c.base = h) (e2 : c.os = os) (e3 : c.mg = mg) (e4 : c.mb = mb) :
    Lib prog w A c (n + 1) Φ γ0 := by
  subst e1 e2 e3 e4
  refine ⟨ok, fun p hp => .inr (T.blt p hp), fun f g hf => ?_, fun x y hx => ?_, ?_, fr, fun g hg => ?_⟩
  · obtain ⟨a, o, fd, q1, q2, q3, q4⟩ := hΦ f g hf
    exact ⟨a, o, fd, .inl q1, q2, q3, q4⟩
  · unfold γ0 at hx
    split at hx
    · rename_i hn; cases hx; subst hn
      have ht := T.S.tab
      unfold modeIn at ht
      split at ht
      · rename_i v hv
        exact ⟨v, .inl (mg_of T.X T.G hv), fun S μ hS => (pvIn_ok (fun a o q => hS a o (T.X a o q)) _ _ _ ht).1⟩
      · cases ht
    · split at hx
      · rename_i hn; cases hx; exact ⟨.type "str", .inr (T.ty (.inl ⟨hn, rfl⟩)), fun S μ hS => .ty _⟩
      · split at hx
        · rename_i hn; cases hx; exact ⟨.type "bytes", .inr (T.ty (.inr ⟨hn, rfl⟩)), fun S μ hS => .ty _⟩
        · cases hx
  · have hl := T.blt ("len", .builtin "len") (List.mem_of_getElem? (i := 0) rfl)
    exact readOk_of T.G T.B T.NL hl.1 hl.2
  · obtain ⟨a, o, fd, q1, q2, q3, q4⟩ := hR g hg
    exact ⟨a, o, fd, .inl q1, q2, q3, q4⟩
end
end Mine
end
noncomputable section
open PySem PySem.W PyProof.Rows PySem.Calls
set_option Elab.async false
set_option linter.unusedVariables false
set_option maxRecDepth 100000
namespace Mine

/-- a def of the program, and what a call of it does -/
noncomputable def Has (prog : Program) (w : World) (h : Heap) (os : OsState) (mg : Str → Option Value) (n : Nat) (f : Str) (g : List PV → List MCell → Option (PV × List MCell)) : Prop :=
  ∃ a o fd, mg f = some (.ref a) ∧ h.get? a = some o ∧ o.data = .func fd ∧ CallOk prog w h os n a g
/-- read_uint1 raises at the stream's end -/
noncomputable def HasR (prog : Program) (w : World) (h : Heap) (os : OsState) (mg : Str → Option Value) (n : Nat) : Prop := ∃ a o fd, mg (Str.ofString "read_uint1") = some (.ref a) ∧ h.get? a = some o ∧ o.data = .func fd ∧ RaiseOk prog w h os n a endG
noncomputable def AllHas (prog : Program) (w : World) (h : Heap) (os : OsState) (mg : Str → Option Value) (n : Nat) (Φ : Fns) : Prop := (∀ f g, Φ f = some g → Has prog w h os mg n (Str.ofString f) g) ∧ ∀ g, Φ "read_uint1" = some g → HasR prog w h os mg n

section
variable {prog : Program} {w : World} {h : Heap} {os : OsState} {K : Frag} {mg mb : Str → Option Value} {n : Nat} {Φ : Fns}
theorem Has.le {f : Str} {g : List PV → List MCell → Option (PV × List MCell)} (x : Has prog w h os mg n f g) {m : Nat} (hm : n ≤ m) : Has prog w h os mg m f g := let ⟨a, o, fd, q1, q2, q3, q4⟩ := x; ⟨a, o, fd, q1, q2, q3, q4.le hm⟩
theorem Has.mono {f : Str} {g g' : List PV → List MCell → Option (PV × List MCell)} (x : Has prog w h os mg n f g) (hg : ∀ xs ms r, g' xs ms = some r → g xs ms = some r) : Has prog w h os mg n f g' := let ⟨a, o, fd, q1, q2, q3, q4⟩ := x; ⟨a, o, fd, q1, q2, q3, q4.mono hg⟩

theorem def_ok (T : Start h K mg mb) {f : Str} {np : Nat} {ns : List Str} {cs : List C} (he : (f, np, ns, cs) ∈ fnTab) (hj : f ≠ Str.ofString "join") (hΦ : AllHas prog w h os mg (n + 1) Φ) : Has prog w h os mg (n + 2) f (gRun Φ γ0 np ns.length cs) := by
  have hp := T.S.parts.fns _ he
  unfold okIn at hp
  simp only [Bool.and_eq_true, Bool.or_eq_true, beq_iff_eq] at hp
  obtain ⟨⟨hc, hi⟩, hb⟩ := hp
  obtain ⟨a, fd, h1, h2, h3, h4⟩ := fn_at0 T.X T.G T.B T.NL hc
  obtain ⟨o, ho, hfd⟩ := h3.obj
  have hn : np ≤ ns.length := h3.np_le
  exact ⟨a, o, fd, h2, ho, hfd, fn_ok (os := os) ⟨h3, fun vals hv => bind_plain (fdGet_eq h1 ▸ hb.resolve_right hj) (by rw [hv, List.length_take]; omega)⟩ hi fun A L K ok fr => lib_of T hΦ.1 hΦ.2 ok fr rfl rfl rfl rfl⟩
theorem va_ok (T : Start h K mg mb) {f : Str} {ns : List Str} {cs : List C} (hc : fnCheck K f 2 ns (gsIn K f) = true) (hi : C.Iss ns (gsIn K f) cs (bodyIn K f) = true)
    (hb : ∀ (v u : Value) (s : Shared) (Q : List (Str × Value) → Shared → Prop) (E : Value → Shared → Prop) (A : Around), Q ((ns.take 2).zip [v, .ref s.heap.objs.size]) { s with heap := s.heap.push (tupObj [u] 0) } → wpAny (model prog w) A (bindArgs (fdGet K f) ⟨[v, u], []⟩) Q E s)
    (hΦ : AllHas prog w h os mg (n + 1) Φ) : Has prog w h os mg (n + 2) f (gVa Φ γ0 ns.length cs) := by
  obtain ⟨a, fd, h1, h2, h3, h4⟩ := fn_at0 T.X T.G T.B T.NL hc
  obtain ⟨o, ho, hfd⟩ := h3.obj
  have e := fdGet_eq h1
  exact ⟨a, o, fd, h2, ho, hfd, fn_ok_va (os := os) h3 (fun v u s Q E A hq => e ▸ hb v u s Q E A hq) hi fun A L K ok fr => lib_of T hΦ.1 hΦ.2 ok fr rfl rfl rfl rfl⟩
end
/-- what fspath answers -/
noncomputable def gFspath (xs : List PV) (ms : List MCell) : Option (PV × List MCell) := oneS xs fun x => some (.str x, ms)
theorem fspath_spec {Φ : Fns} : ∀ xs ms r, gFspath xs ms = some r → gRun Φ γ0 1 n_fspath.length c_fspath xs ms = some r := by
  intro xs ms r h
  obtain ⟨x, rfl, h⟩ := oneS_inv h
  have e : gRun Φ γ0 1 n_fspath.length c_fspath [.str x] ms = some (.str x, ms.take ms.length) := by kernel_rfl
  rw [e, List.take_length]; exact h
end Mine
end
noncomputable section
open PySem PySem.W PyProof.Rows PySem.Calls
set_option Elab.async false
set_option linter.unusedVariables false
set_option maxRecDepth 100000
namespace Mine
section
variable {prog : Program} {w : World} {h : Heap} {os : OsState} {K : Frag} {mg mb : Str → Option Value} {n : Nat} {Φ : Fns}
theorem join_ok (T : Start h K mg mb) (hΦ : AllHas prog w h os mg (n + 1) Φ) : Has prog w h os mg (n + 2) (Str.ofString "join") (gVa Φ γ0 n_join.length c_join) := by
  have hp := T.S.parts.fns _ (List.mem_of_getElem? (i := 2) rfl)
  have hj := T.S.parts.joins
  have e : n_join.take 2 = [Str.ofString "a", Str.ofString "p"] := by kernel_rfl
  unfold okIn at hp
  obtain ⟨hp, _⟩ := Bool.and_eq_true_iff.mp hp
  obtain ⟨hc, hi⟩ := Bool.and_eq_true_iff.mp hp
  refine va_ok T hc hi (fun v u s Q E A hq => ?_) hΦ
  show wpAny _ A (bindArgs (fdGet K (Str.ofString "join")) _) Q E s
  rw [bind_va v u hj]
  rw [e] at hq
  exact wpAny_bind (wpAny_newTuple (wpAny_pure hq))
end
end Mine
end
noncomputable section
open PySem PySem.W PyProof.Rows PySem.Calls
set_option Elab.async false
set_option linter.unusedVariables false
set_option maxRecDepth 100000
namespace Mine
noncomputable def slash : Str := ⟨#[47]⟩
noncomputable def gSep (xs : List PV) (ms : List MCell) : Option (PV × List MCell) := oneS xs fun _ => some (.str slash, ms)
theorem sep_spec {Φ : Fns} : ∀ xs ms r, gSep xs ms = some r → gRun Φ γ0 1 n_get_sep.length c_get_sep xs ms = some r := by
  intro xs ms r h
  obtain ⟨x, rfl, h⟩ := oneS_inv h
  have e : gRun Φ γ0 1 n_get_sep.length c_get_sep [.str x] ms = some (.str slash, ms.take ms.length) := by kernel_rfl
  rw [e, List.take_length]; exact h
noncomputable def gIfmt (xs : List PV) (ms : List MCell) : Option (PV × List MCell) := oneI xs fun i => some (.int (Builtin.bitAnd i 61440), ms)
theorem ifmt_spec {Φ : Fns} : ∀ xs ms r, gIfmt xs ms = some r → gRun Φ γ0 1 n_S_IFMT.length c_S_IFMT xs ms = some r := by
  intro xs ms r h
  obtain ⟨x, rfl, h⟩ := oneI_inv h
  have e : gRun Φ γ0 1 n_S_IFMT.length c_S_IFMT [.int x] ms = some (.int (Builtin.bitAnd x 61440), ms.take ms.length) := by kernel_rfl
  rw [e, List.take_length]; exact h
end Mine
end
noncomputable section
open PySem PySem.W PyProof.Rows PySem.Calls
set_option Elab.async false
set_option linter.unusedVariables false
set_option linter.unusedSimpArgs false
set_option maxRecDepth 100000
namespace Mine
/-! rules of the evaluator, one for each construct -/
theorem ltl {n : Nat} {l : List Slot} (h : Nat.ble (n + 1) l.length = true) : n < l.length := Nat.le_of_ble_eq_true h
theorem bnd {α β : Type} {o : Option α} {f : α → Option β} {a : α} {b : β} (h : o = some a) (k : f a = some b) : o.bind f = some b := by rw [h]; exact k
theorem mpd {α β : Type} {o : Option α} {f : α → β} {a : α} {b : β} (h : o = some a) (k : f a = b) : o.map f = some b := by rw [h, ← k]; rfl
theorem gd {α : Type} {p : Prop} [Decidable p] {a : α} (h : p) : (if p then some a else none) = some a := if_pos h
section
variable {Φ : Fns} {γ : String → Option PV} {τ τ1 τ2 τ3 : St}
theorem qvar {i : Nat} {v : PV} (h : τ.loc[i]? = some (.val v)) : ev Φ γ (.var i) τ = some (v, τ) := by
  show look τ i = _
  unfold look; rw [h]
theorem qfreeze {i k : Nat} {xs : List PV} (h : τ.loc[i]? = some (.bld k)) (hm : τ.mem[k]? = some (.lst xs)) : ev Φ γ (.var i) τ = some (.list xs, ⟨τ.loc.set i (.val (.list xs)), τ.mem.set k .dead⟩) := by
  show look τ i = _
  unfold look; rw [h]; dsimp only; rw [hm]
theorem qpeek {i : Nat} {v : PV} (h : τ.loc[i]? = some (.val v)) : peek τ i = some (.val v) := by unfold peek; rw [h]
theorem qpeekb {i k : Nat} (h : τ.loc[i]? = some (.bld k)) : peek τ i = some (.bld k) := by unfold peek; rw [h]
theorem qderef {ms : List MCell} {k : Nat} {xs : List PV} (hm : ms[k]? = some (.lst xs)) : deref ms (.bld k) = some (.list xs) := by show (match ms[k]? with | some (.lst xs) => some (PV.list xs) | _ => none) = _; rw [hm]
theorem qsubj {i : Nat} {v : PV} (h : τ.loc[i]? = some (.val v)) : subj Φ γ (.var i) τ = some (.val v, τ) := mpd (qpeek h) rfl
theorem qsubjb {i k : Nat} (h : τ.loc[i]? = some (.bld k)) : subj Φ γ (.var i) τ = some (.bld k, τ) := mpd (qpeekb h) rfl
theorem qsubjx {a : X} {x : PV} (ha : ev Φ γ a τ = some (x, τ1)) (hn : varOf a = none) : subj Φ γ a τ = some (.val x, τ1) := by
  unfold subj; rw [hn]; exact mpd ha rfl
theorem qint {i : Int} : ev Φ γ (.int i) τ = some (.int i, τ) := rfl
theorem qneg {i : Int} : ev Φ γ (.neg i) τ = some (.int (-i), τ) := rfl
theorem qstr {cs : List Nat} : ev Φ γ (.str cs) τ = some (.str (strOf cs), τ) := rfl
theorem qnone : ev Φ γ .none τ = some (.none, τ) := rfl
theorem qgl {q : String} {v : PV} (h : γ q = some v) : ev Φ γ (.gl q) τ = some (v, τ) := mpd h rfl
theorem qbin {o : Operator} {a b : X} {x y z : PV} (ha : ev Φ γ a τ = some (x, τ1)) (hb : ev Φ γ b τ1 = some (y, τ2)) (hz : binV o x y = some z) : ev Φ γ (.bin o a b) τ = some (z, τ2) := bnd ha (bnd hb (bnd hz rfl))
theorem qcmp {o : CmpOp} {a b : X} {x y : PV} {z : Bool} (ha : ev Φ γ a τ = some (x, τ1)) (hb : ev Φ γ b τ1 = some (y, τ2)) (hz : cmpV o x y = some z) : ev Φ γ (.cmp o a b) τ = some (.bool z, τ2) := bnd ha (bnd hb (bnd hz rfl))
theorem qcmpT {o : CmpOp} {a b : X} {x y : PV} {z : Bool} (ha : ev Φ γ a τ = some (x, τ1)) (hb : ev Φ γ b τ1 = some (y, τ2)) (hz : cmpV o x y = some z) : evT Φ γ (.cmp o a b) τ = some (z, τ2) := bnd ha (bnd hb (bnd hz rfl))
theorem qvarT {i : Nat} {v : PV} {t : Bool} (h : τ.loc[i]? = some (.val v)) (ht : truthV v = some t) : evT Φ γ (.var i) τ = some (t, τ) := bnd (qpeek h) (bnd rfl (bnd ht rfl))
theorem qvarTb {i k : Nat} {xs : List PV} {t : Bool} (h : τ.loc[i]? = some (.bld k)) (hm : τ.mem[k]? = some (.lst xs)) (ht : truthV (.list xs) = some t) : evT Φ γ (.var i) τ = some (t, τ) := bnd (qpeekb h) (bnd (qderef hm) (bnd ht rfl))
theorem qnotT {a : X} {t : Bool} (h : evT Φ γ a τ = some (t, τ1)) : evT Φ γ (.not_ a) τ = some (!t, τ1) := mpd h rfl
theorem qand2 {a b : X} {t : Bool} (ha : evT Φ γ a τ = some (true, τ1)) (hb : evT Φ γ b τ1 = some (t, τ2)) : evT Φ γ (.and_ [a, b]) τ = some (t, τ2) := bnd ha (bnd hb (by cases t <;> rfl))
theorem qand2f {a b : X} (ha : evT Φ γ a τ = some (false, τ1)) : evT Φ γ (.and_ [a, b]) τ = some (false, τ1) := bnd ha rfl
theorem qor2 {a b : X} {t : Bool} (ha : evT Φ γ a τ = some (false, τ1)) (hb : evT Φ γ b τ1 = some (t, τ2)) : evT Φ γ (.or_ [a, b]) τ = some (t, τ2) := bnd ha (bnd hb (by cases t <;> rfl))
theorem qor2t {a b : X} (ha : evT Φ γ a τ = some (true, τ1)) : evT Φ γ (.or_ [a, b]) τ = some (true, τ1) := bnd ha rfl
theorem qor3 {a b c : X} {t : Bool} (ha : evT Φ γ a τ = some (false, τ1)) (hb : evT Φ γ (.or_ [b, c]) τ1 = some (t, τ2)) : evT Φ γ (.or_ [a, b, c]) τ = some (t, τ2) := bnd ha hb
theorem qor3t {a b c : X} (ha : evT Φ γ a τ = some (true, τ1)) : evT Φ γ (.or_ [a, b, c]) τ = some (true, τ1) := bnd ha rfl
theorem qmf1 {f : MF} {o a : X} {x y z : PV} (ho : ev Φ γ o τ = some (x, τ1)) (ha : ev Φ γ a τ1 = some (y, τ2)) (hz : mfV f x [y] = some z) : ev Φ γ (.mf f o [a]) τ = some (z, τ2) := bnd ho (bnd (bnd ha rfl) (bnd hz rfl))
theorem qmf1T {f : MF} {o a : X} {x y z : PV} {t : Bool} (ho : ev Φ γ o τ = some (x, τ1)) (ha : ev Φ γ a τ1 = some (y, τ2)) (hz : mfV f x [y] = some z) (ht : truthV z = some t) : evT Φ γ (.mf f o [a]) τ = some (t, τ2) := bnd ho (bnd (bnd ha rfl) (bnd hz (bnd ht rfl)))
theorem qbf1 {f : BF} {a : X} {y z : PV} (ha : ev Φ γ a τ = some (y, τ1)) (hz : bfV f [y] = some z) : ev Φ γ (.bf f [a]) τ = some (z, τ1) := bnd (bnd ha rfl) (bnd hz rfl)
theorem qbf2 {f : BF} {a b : X} {x y z : PV} (ha : ev Φ γ a τ = some (x, τ1)) (hb : ev Φ γ b τ1 = some (y, τ2)) (hz : bfV f [x, y] = some z) : ev Φ γ (.bf f [a, b]) τ = some (z, τ2) := bnd (bnd ha (bnd (bnd hb rfl) rfl)) (bnd hz rfl)
theorem qbf2T {f : BF} {a b : X} {x y z : PV} {t : Bool} (ha : ev Φ γ a τ = some (x, τ1)) (hb : ev Φ γ b τ1 = some (y, τ2)) (hz : bfV f [x, y] = some z) (ht : truthV z = some t) : evT Φ γ (.bf f [a, b]) τ = some (t, τ2) := bnd (bnd ha (bnd (bnd hb rfl) rfl)) (bnd hz (bnd ht rfl))
theorem qcall1 {f : String} {g : List PV → List MCell → Option (PV × List MCell)} {a : X} {x z : PV} {ms : List MCell} (hf : Φ f = some g) (ha : ev Φ γ a τ = some (x, τ1)) (hz : g [x] τ1.mem = some (z, ms)) : ev Φ γ (.call f [a]) τ = some (z, ⟨τ1.loc, ms⟩) := bnd hf (bnd (bnd ha rfl) (bnd hz rfl))
theorem qcall2 {f : String} {g : List PV → List MCell → Option (PV × List MCell)} {a b : X} {x y z : PV} {ms : List MCell} (hf : Φ f = some g) (ha : ev Φ γ a τ = some (x, τ1)) (hb : ev Φ γ b τ1 = some (y, τ2)) (hz : g [x, y] τ2.mem = some (z, ms)) : ev Φ γ (.call f [a, b]) τ = some (z, ⟨τ2.loc, ms⟩) := bnd hf (bnd (bnd ha (bnd (bnd hb rfl) rfl)) (bnd hz rfl))
theorem qcall3 {f : String} {g : List PV → List MCell → Option (PV × List MCell)} {a b c : X} {x y u z : PV} {ms : List MCell} (hf : Φ f = some g) (ha : ev Φ γ a τ = some (x, τ1)) (hb : ev Φ γ b τ1 = some (y, τ2)) (hc : ev Φ γ c τ2 = some (u, τ3)) (hz : g [x, y, u] τ3.mem = some (z, ms)) : ev Φ γ (.call f [a, b, c]) τ = some (z, ⟨τ3.loc, ms⟩) := bnd hf (bnd (bnd ha (bnd (bnd hb (bnd (bnd hc rfl) rfl)) rfl)) (bnd hz rfl))
theorem qread {o n : X} {x y z : PV} {ms : List MCell} (ho : ev Φ γ o τ = some (x, τ1)) (hn : ev Φ γ n τ1 = some (y, τ2)) (hz : readV τ2.mem x y = some (z, ms)) : ev Φ γ (.read o n) τ = some (z, ⟨τ2.loc, ms⟩) := bnd ho (bnd hn (bnd hz rfl))
theorem qlen {i : Nat} {x z : PV} (h : τ.loc[i]? = some (.val x)) (hz : lenV x = some z) : ev Φ γ (.len (.var i)) τ = some (z, τ) := bnd (qsubj (Φ := Φ) (γ := γ) h) (bnd rfl (bnd hz rfl))
theorem qlenb {i k : Nat} {xs : List PV} {z : PV} (h : τ.loc[i]? = some (.bld k)) (hm : τ.mem[k]? = some (.lst xs)) (hz : lenV (.list xs) = some z) : ev Φ γ (.len (.var i)) τ = some (z, τ) := bnd (qsubjb (Φ := Φ) (γ := γ) h) (bnd (qderef hm) (bnd hz rfl))
/-- an item of a name's value -/
theorem qsub {i : Nat} {j : X} {x y z : PV} (h : τ.loc[i]? = some (.val x)) (hj : ev Φ γ j τ = some (y, τ1)) (hz : itemV x y = some z) : ev Φ γ (.sub (.var i) j) τ = some (z, τ1) := bnd (qsubj (Φ := Φ) (γ := γ) h) (bnd hj (bnd rfl (bnd hz rfl)))
/-- an item of a list that is being built -/
theorem qsubb {i k : Nat} {j : X} {xs : List PV} {y z : PV} (h : τ.loc[i]? = some (.bld k)) (hj : ev Φ γ j τ = some (y, τ1)) (hm : τ1.mem[k]? = some (.lst xs)) (hz : itemV (.list xs) y = some z) : ev Φ γ (.sub (.var i) j) τ = some (z, τ1) := bnd (qsubjb (Φ := Φ) (γ := γ) h) (bnd hj (bnd (qderef hm) (bnd hz rfl)))
/-- an item of any other expression's value -/
theorem qsubx {a j : X} {x y z : PV} (ha : ev Φ γ a τ = some (x, τ1)) (hj : ev Φ γ j τ1 = some (y, τ2)) (hz : itemV x y = some z) (hn : varOf a = none) : ev Φ γ (.sub a j) τ = some (z, τ2) := bnd (qsubjx ha hn) (bnd hj (bnd rfl (bnd hz rfl)))
theorem qslcTo {i : Nat} {j : X} {x z : PV} {n : Int} (h : τ.loc[i]? = some (.val x)) (hj : ev Φ γ j τ = some (.int n, τ1)) (hz : cutV x none (some n) = some z) : ev Φ γ (.slcTo (.var i) j) τ = some (z, τ1) := bnd (qsubj (Φ := Φ) (γ := γ) h) (bnd hj (bnd rfl (bnd rfl (bnd hz rfl))))
theorem qslcFrom {i : Nat} {j : X} {x z : PV} {n : Int} (h : τ.loc[i]? = some (.val x)) (hj : ev Φ γ j τ = some (.int n, τ1)) (hz : cutV x (some n) none = some z) : ev Φ γ (.slcFrom (.var i) j) τ = some (z, τ1) := bnd (qsubj (Φ := Φ) (γ := γ) h) (bnd hj (bnd rfl (bnd rfl (bnd hz rfl))))
theorem qslc {i : Nat} {j k : X} {x z : PV} {n m : Int} (h : τ.loc[i]? = some (.val x)) (hj : ev Φ γ j τ = some (.int n, τ1)) (hk : ev Φ γ k τ1 = some (.int m, τ2)) (hz : cutV x (some n) (some m) = some z) : ev Φ γ (.slc (.var i) j k) τ = some (z, τ2) := bnd (qsubj (Φ := Φ) (γ := γ) h) (bnd hj (bnd hk (bnd rfl (bnd rfl (bnd rfl (bnd hz rfl))))))
theorem qslcTob {i k : Nat} {j : X} {xs : List PV} {z : PV} {n : Int} (h : τ.loc[i]? = some (.bld k)) (hj : ev Φ γ j τ = some (.int n, τ1)) (hm : τ1.mem[k]? = some (.lst xs)) (hz : cutV (.list xs) none (some n) = some z) : ev Φ γ (.slcTo (.var i) j) τ = some (z, τ1) := bnd (qsubjb (Φ := Φ) (γ := γ) h) (bnd hj (bnd (qderef hm) (bnd rfl (bnd hz rfl))))
theorem qslcFromx {a j : X} {x z : PV} {n : Int} (ha : ev Φ γ a τ = some (x, τ1)) (hj : ev Φ γ j τ1 = some (.int n, τ2)) (hz : cutV x (some n) none = some z) (hn : varOf a = none) : ev Φ γ (.slcFrom a j) τ = some (z, τ2) := bnd (qsubjx ha hn) (bnd hj (bnd rfl (bnd rfl (bnd hz rfl))))
theorem qitet {c a b : X} {x : PV} (hc : evT Φ γ c τ = some (true, τ1)) (ha : ev Φ γ a τ1 = some (x, τ2)) : ev Φ γ (.ite c a b) τ = some (x, τ2) := bnd hc ha
theorem qitef {c a b : X} {x : PV} (hc : evT Φ γ c τ = some (false, τ1)) (ha : ev Φ γ b τ1 = some (x, τ2)) : ev Φ γ (.ite c a b) τ = some (x, τ2) := bnd hc ha
theorem qtup {xs : List X} {vs : List PV} (h : evs Φ γ xs τ = some (vs, τ1)) (hl : vs.length ≤ lid) (hn : noS vs = true) : ev Φ γ (.tup xs) τ = some (.tup vs, τ1) := bnd h (gd ⟨hl, hn⟩)
theorem qlst {xs : List X} {vs : List PV} (h : evs Φ γ xs τ = some (vs, τ1)) (hl : vs.length ≤ lid) (hn : noS vs = true) : ev Φ γ (.lst xs) τ = some (.list vs, τ1) := bnd h (gd ⟨hl, hn⟩)
theorem qnil : evs Φ γ [] τ = some ([], τ) := rfl
theorem qcons {x : X} {xs : List X} {v : PV} {vs : List PV} (h : ev Φ γ x τ = some (v, τ1)) (ht : evs Φ γ xs τ1 = some (vs, τ2)) : evs Φ γ (x :: xs) τ = some (v :: vs, τ2) := bnd h (bnd ht rfl)
theorem qor_t {a b : X} {x : PV} (ha : ev Φ γ a τ = some (x, τ1)) (ht : truthV x = some true) : ev Φ γ (.or_ [a, b]) τ = some (x, τ1) := bnd ha (bnd ht rfl)
theorem qor_f {a b : X} {x y : PV} (ha : ev Φ γ a τ = some (x, τ1)) (ht : truthV x = some false) (hb : ev Φ γ b τ1 = some (y, τ2)) : ev Φ γ (.or_ [a, b]) τ = some (y, τ2) := bnd ha (bnd ht hb)

/-! statements -/
theorem sset {i : Nat} {v : PV} (hi : i < τ.loc.length) : setV i v τ = some ⟨τ.loc.set i (.val v), τ.mem⟩ := if_pos hi
theorem sasg {i : Nat} {e : X} {v : PV} (h : ev Φ γ e τ = some (v, τ1)) (hi : i < τ1.loc.length) (he : lstOf e = none) : ex Φ γ (.assign i e) τ = some (.next, ⟨τ1.loc.set i (.val v), τ1.mem⟩) := by
  show (match lstOf e with
    | some xs => (evs Φ γ xs τ).bind fun p => (newB i p.1 p.2).map fun τ2 => (Fl.next, τ2)
    | none => (ev Φ γ e τ).bind fun p => (setV i p.1 p.2).map fun τ2 => (Fl.next, τ2)) = _
  rw [he]; exact bnd h (mpd (sset hi) rfl)
theorem sstr {i : Nat} {cs : List Nat} (hi : i < τ.loc.length) : ex Φ γ (.assign i (.str cs)) τ = some (.next, ⟨τ.loc.set i (.val (.str (strOf cs))), τ.mem⟩) := sasg rfl hi rfl
theorem snew {i : Nat} {xs : List X} {vs : List PV} (h : evs Φ γ xs τ = some (vs, τ1)) (hi : i < τ1.loc.length) (hl : vs.length ≤ lid) (hn : noS vs = true) : ex Φ γ (.assign i (.lst xs)) τ = some (.next, ⟨τ1.loc.set i (.bld τ1.mem.length), τ1.mem ++ [.lst vs]⟩) := bnd h (mpd (gd ⟨hi, hl, hn⟩) rfl)
theorem sasgT {is : List Nat} {e : X} {v : PV} (h : ev Φ γ e τ = some (v, τ1)) (hs : setT is v τ1 = some τ2) : ex Φ γ (.assignT is e) τ = some (.next, τ2) := bnd h (mpd hs rfl)
theorem sret {e : X} {v : PV} (h : ev Φ γ e τ = some (v, τ1)) : ex Φ γ (.ret e) τ = some (.ret v, τ1) := mpd h rfl
theorem sassert {e : X} (h : evT Φ γ e τ = some (true, τ1)) : ex Φ γ (.assert e) τ = some (.next, τ1) := bnd h rfl
theorem stry {b : List C} {r : Fl × St} (h : exs Φ γ b τ = some r) : ex Φ γ (.try_ b) τ = some r := h
theorem mul_str (x : Str) (n : Int) : binV .Mult (.str x) (.int n) = if x.length = 1 ∧ 0 ≤ n ∧ n ≤ lid then some (.str ⟨(List.replicate n.toNat (x.cps[0]?.getD 0)).toArray⟩) else none := rfl
theorem tryL_fin {fin turn : St → Option (Fl × St)} {n : Nat} {r : Fl × St} (h : fin τ = some r) : tryL fin turn (n + 1) τ = some r := by
  show (match fin τ with | some r => some r | none => _) = _
  rw [h]
theorem tryL_turn {fin turn : St → Option (Fl × St)} {n : Nat} (h : fin τ = none) (k : turn τ = some (.next, τ1)) : tryL fin turn (n + 1) τ = tryL fin turn n τ1 := by
  show (match fin τ with | some r => some r | none => (turn τ).bind _) = _
  rw [h, k]; rfl
theorem bind_of {α β : Type} {o : Option α} {f : α → Option β} {a : α} (h : o = some a) : o.bind f = f a := by rw [h]; rfl
theorem ex_ite_t {c : X} {a b : List C} (h : evT Φ γ c τ = some (true, τ1)) : ex Φ γ (.ite c a b) τ = exs Φ γ a τ1 := (bind_of h : ((evT Φ γ c τ).bind fun p => if p.1 then exs Φ γ a p.2 else exs Φ γ b p.2) = _)
theorem ex_ite_f {c : X} {a b : List C} (h : evT Φ γ c τ = some (false, τ1)) : ex Φ γ (.ite c a b) τ = exs Φ γ b τ1 := (bind_of h : ((evT Φ γ c τ).bind fun p => if p.1 then exs Φ γ a p.2 else exs Φ γ b p.2) = _)
theorem exs_nil : exs Φ γ [] τ = some (.next, τ) := rfl
theorem exs_cons {c : C} {cs : List C} {r : Fl × St} (h : ex Φ γ c τ = some r) : exs Φ γ (c :: cs) τ = goOn (exs Φ γ cs) r := bind_of (f := goOn (exs Φ γ cs)) h
theorem exs_next {c : C} {cs : List C} (h : ex Φ γ c τ = some (.next, τ1)) : exs Φ γ (c :: cs) τ = exs Φ γ cs τ1 := exs_cons h
theorem exs_ret {c : C} {cs : List C} {v : PV} (h : ex Φ γ c τ = some (.ret v, τ1)) : exs Φ γ (c :: cs) τ = some (.ret v, τ1) := exs_cons h
theorem exs_one {c : C} {r : Fl × St} (h : ex Φ γ c τ = some r) : exs Φ γ [c] τ = some r := by
  rw [exs_cons h]
  obtain ⟨fl, τ'⟩ := r
  cases fl <;> rfl
theorem exs_sing {c : C} : exs Φ γ [c] τ = ex Φ γ c τ := by
  cases h : ex Φ γ c τ with
  | none => show (ex Φ γ c τ).bind _ = _; rw [h]; rfl
  | some r => exact exs_one h
theorem exs_stop {c : C} {cs : List C} {fl : Fl} (h : ex Φ γ c τ = some (fl, τ1)) (hf : fl ≠ .next) : exs Φ γ (c :: cs) τ = some (fl, τ1) := by
  rw [exs_cons h]
  cases fl <;> first | (exact absurd rfl hf) | rfl
theorem run_ret {np n : Nat} {cs : List C} {xs : List PV} {ms : List MCell} {v : PV} (hn : xs.length = np) (h : exs Φ γ cs (startSt n xs ms) = some (.ret v, τ)) (hv : v.isS = false) : gRun Φ γ np n cs xs ms = some (v, τ.mem.take ms.length) := by
  unfold gRun; rw [if_pos hn]
  refine bnd (f := fun p => match p.1 with
    | .ret v => if v.isS then none else some (v, p.2.mem.take ms.length)
    | .next => some (.none, p.2.mem.take ms.length)
    | _ => none) h ?_
  show (if v.isS = true then none else _) = _
  rw [hv]; rfl
theorem qbldAt {i k : Nat} (h : τ.loc[i]? = some (.bld k)) : bldAt τ i = some k := by unfold bldAt; rw [h]
theorem qbldAt0 {i : Nat} {v : PV} (h : τ.loc[i]? = some (.val v)) : bldAt τ i = none := by unfold bldAt; rw [h]
theorem qstrAt {i : Nat} {x : Str} (h : τ.loc[i]? = some (.val (.str x))) : strAt τ i = some x := by unfold strAt; rw [h]; rfl
theorem qlstAt {ms : List MCell} {k : Nat} {xs : List PV} (h : ms[k]? = some (.lst xs)) : lstAt ms k = some xs := by unfold lstAt; rw [h]
theorem saugs {i : Nat} {e : X} {x y : Str} (h : τ.loc[i]? = some (.val (.str x))) (he : ev Φ γ e τ = some (.str y, τ1)) (hl : x.length + y.length ≤ lid) (hi : i < τ1.loc.length) :
    ex Φ γ (.aug i .Add e) τ = some (.next, ⟨τ1.loc.set i (.val (.str (x ++ y))), τ1.mem⟩) := by
  refine mpd ?_ rfl
  unfold augV
  rw [if_pos rfl, qbldAt0 h]
  exact bnd (qstrAt h) (bnd he (bnd rfl ((if_pos hl).trans (sset hi))))
theorem saugb {i k : Nat} {e : X} {xs ys : List PV} (h : τ.loc[i]? = some (.bld k)) (he : ev Φ γ e τ = some (.list ys, τ1)) (hm : τ1.mem[k]? = some (.lst xs)) (hl : xs.length + ys.length ≤ lid) (hi : i < τ1.loc.length) :
    ex Φ γ (.aug i .Add e) τ = some (.next, ⟨τ1.loc.set i (.bld k), τ1.mem.set k (.lst (xs ++ ys))⟩) := by
  refine mpd ?_ rfl
  unfold augV
  rw [if_pos rfl, qbldAt h]
  exact bnd he (bnd rfl (bnd (qlstAt hm) (gd ⟨hl, hi⟩)))
theorem sapp {i k : Nat} {e : X} {xs ys : List PV} {v : PV} (h : τ.loc[i]? = some (.bld k)) (hm0 : τ.mem[k]? = some (.lst ys)) (he : ev Φ γ e τ = some (v, τ1)) (hm : τ1.mem[k]? = some (.lst xs)) (hl : xs.length + 1 ≤ lid) (hv : v.isS = false) :
    ex Φ γ (.app i e) τ = some (.next, ⟨τ1.loc, τ1.mem.set k (.lst (xs ++ [v]))⟩) := mpd (bnd (qbldAt h) (bnd (qlstAt hm0) (bnd he (bnd (qlstAt hm) (gd ⟨hl, hv⟩))))) rfl
theorem spop {i k : Nat} {xs : List PV} {x : Str} (h : τ.loc[i]? = some (.bld k)) (hm : τ.mem[k]? = some (.lst xs)) (hx : xs.getLast? = some (.str x)) (hl : xs.length ≤ lid) :
    ex Φ γ (.pop i) τ = some (.next, ⟨τ.loc, τ.mem.set k (.lst xs.dropLast)⟩) := mpd (bnd (qbldAt h) (bnd (qlstAt hm) (bnd hx (bnd rfl (gd hl))))) rfl
theorem ex_for {i : Nat} {it : X} {b : List C} {y : PV} {vs : List PV} {r : Fl × St} (h1 : ev Φ γ it τ = some (y, τ1)) (h2 : itemsV y = some vs) (h3 : forL (setV i) (exs Φ γ b) (fun τ => some (.next, τ)) vs τ1 = some r) : ex Φ γ (.for_ i it b) τ = some r := bnd h1 (bnd h2 h3)
theorem ex_forT {is : List Nat} {it : X} {b o : List C} {y : PV} {vs : List PV} {r : Fl × St} (h1 : ev Φ γ it τ = some (y, τ1)) (h2 : itemsV y = some vs) (h3 : forL (setT is) (exs Φ γ b) (exs Φ γ o) vs τ1 = some r) : ex Φ γ (.forT is it b o) τ = some r := bnd h1 (bnd h2 h3)
theorem ex_forE {is : List Nat} {it : X} {b : List C} {y : PV} {vs : List PV} {r : Fl × St} (h1 : ev Φ γ it τ = some (y, τ1)) (h2 : enumV y = some vs) (h3 : forL (setT is) (exs Φ γ b) (fun τ => some (.next, τ)) vs τ1 = some r) : ex Φ γ (.forE is it b) τ = some r := bnd h1 (bnd h2 h3)
end
theorem forL_next {bd : PV → St → Option St} {body els : St → Option (Fl × St)} {v : PV} {vs : List PV} {τ τ1 τ2 : St} (h1 : bd v τ = some τ1) (h2 : body τ1 = some (.next, τ2)) : forL bd body els (v :: vs) τ = forL bd body els vs τ2 := by
  show ((bd v τ).bind _) = _
  rw [h1]; show ((body τ1).bind _) = _
  rw [h2]; rfl
theorem forL_cont {bd : PV → St → Option St} {body els : St → Option (Fl × St)} {v : PV} {vs : List PV} {τ τ1 τ2 : St} (h1 : bd v τ = some τ1) (h2 : body τ1 = some (.cont, τ2)) : forL bd body els (v :: vs) τ = forL bd body els vs τ2 := by
  show ((bd v τ).bind _) = _
  rw [h1]; show ((body τ1).bind _) = _
  rw [h2]; rfl
theorem forL_brk {bd : PV → St → Option St} {body els : St → Option (Fl × St)} {v : PV} {vs : List PV} {τ τ1 τ2 : St} (h1 : bd v τ = some τ1) (h2 : body τ1 = some (.brk, τ2)) : forL bd body els (v :: vs) τ = some (.next, τ2) := bnd h1 (bnd h2 rfl)
theorem forL_ret {bd : PV → St → Option St} {body els : St → Option (Fl × St)} {v w : PV} {vs : List PV} {τ τ1 τ2 : St} (h1 : bd v τ = some τ1) (h2 : body τ1 = some (.ret w, τ2)) : forL bd body els (v :: vs) τ = some (.ret w, τ2) := bnd h1 (bnd h2 rfl)
theorem forL_nil {bd : PV → St → Option St} {body els : St → Option (Fl × St)} {τ : St} : forL bd body els [] τ = els τ := rfl
/-- a loop by its invariant: I i τ ahead of turn i; P fl τ at the end -/
theorem forL_inv {bd : PV → St → Option St} {body els : St → Option (Fl × St)} (I : Nat → St → Prop) (P : Fl → St → Prop) : ∀ (vs : List PV) (i : Nat) (τ : St), I i τ →
    (∀ j x τ, vs[j]? = some x → I (i + j) τ → ∃ τ1 fl τ2, bd x τ = some τ1 ∧ body τ1 = some (fl, τ2) ∧ ((fl = .next ∨ fl = .cont) ∧ I (i + j + 1) τ2 ∨ fl = .brk ∧ P .next τ2 ∨ ∃ w, fl = .ret w ∧ P (.ret w) τ2)) →
    (∀ τ, I (i + vs.length) τ → ∃ fl τ', els τ = some (fl, τ') ∧ P fl τ') → ∃ fl τ', forL bd body els vs τ = some (fl, τ') ∧ P fl τ'
  | [], i, τ, h, _, he => he τ h
  | x :: vs, i, τ, h, hs, he => by
    obtain ⟨τ1, fl, τ2, h1, h2, h3⟩ := hs 0 x τ rfl h
    rcases h3 with ⟨h3, h4⟩ | ⟨rfl, h4⟩ | ⟨w, rfl, h4⟩
    · have e : forL bd body els (x :: vs) τ = forL bd body els vs τ2 := by
        rcases h3 with rfl | rfl
        · exact forL_next h1 h2
        · exact forL_cont h1 h2
      rw [e]
      refine forL_inv I P vs (i + 1) τ2 h4 (fun j y τ hj hI => ?_) fun τ hI => ?_
      · have := hs (j + 1) y τ (by simpa using hj) (by rw [show i + (j + 1) = i + 1 + j by omega]; exact hI)
        rw [show i + (j + 1) = i + 1 + j by omega] at this; exact this
      · exact he τ (by rw [show i + (x :: vs).length = i + 1 + vs.length by simp; omega]; exact hI)
    · exact ⟨_, _, forL_brk h1 h2, h4⟩
    · exact ⟨_, _, forL_ret h1 h2, h4⟩
end Mine
end
noncomputable section
open PySem PySem.W PyProof.Rows PySem.Calls
set_option Elab.async false
set_option linter.unusedVariables false
set_option maxRecDepth 100000
namespace Mine
noncomputable def Φ1 : Fns := fun f => if f = "fspath" then some gFspath else if f = "_get_sep" then some gSep else none
/-- the first n signs -/
noncomputable def cutS (x : Str) (a b : Nat) : Str := ⟨((x.cps.toList.drop a).take (b - a)).toArray⟩
noncomputable def fromS (x : Str) (a : Nat) : Str := ⟨(x.cps.toList.drop a).toArray⟩
noncomputable def emptyS : Str := ⟨#[]⟩
/-- what splitroot answers -/
noncomputable def rootS (x : Str) : Str × Str := if cutS x 0 1 != slash then (emptyS, x) else if cutS x 1 2 != slash || cutS x 2 3 == slash then (slash, fromS x 1) else (cutS x 0 2, fromS x 2)
noncomputable def gRoot (xs : List PV) (ms : List MCell) : Option (PV × List MCell) := oneS xs fun x => if x.length ≤ lid then some (.tup [.str emptyS, .str (rootS x).1, .str (rootS x).2], ms) else none
theorem cutV_str {x : Str} (hx : x.length ≤ lid) (a b : Nat) : cutV (.str x) (some (a : Int)) (some (b : Int)) = some (.str (cutS x a b)) := by
  simp [cutV, hx, cutS]

theorem cutV_from {x : Str} (hx : x.length ≤ lid) (a : Nat) : cutV (.str x) (some (a : Int)) none = some (.str (fromS x a)) := by
  have e : (x.cps.toList.drop a).take (x.length - a) = x.cps.toList.drop a := List.take_of_length_le (by simp [Str.length])
  simp [cutV, hx, fromS, e]
theorem cutV_to {x : Str} (hx : x.length ≤ lid) (b : Nat) : cutV (.str x) none (some (b : Int)) = some (.str (cutS x 0 b)) := by
  simp [cutV, hx, cutS]
theorem isin_f {x : Str} : bfV .isinstance [.str x, .ty "bytes"] = some (.bool false) := rfl
theorem ne_str {x y : Str} : cmpV .NotEq (.str x) (.str y) = some (x != y) := rfl
theorem eq_str' {x y : Str} : cmpV .Eq (.str x) (.str y) = some (x == y) := rfl
theorem root_spec : ∀ xs ms r, gRoot xs ms = some r → gRun Φ1 γ0 1 n_splitroot.length c_splitroot xs ms = some r := by
  intro xs ms r h
  obtain ⟨x, rfl, h⟩ := oneS_inv h
  obtain ⟨hx, e⟩ := gd_inv h
  subst e
  have c1 : cutV (.str x) none (some 1) = some (.str (cutS x 0 1)) := cutV_to hx 1
  have c4 : cutV (.str x) none (some 2) = some (.str (cutS x 0 2)) := cutV_to hx 2
  have c5 : cutV (.str x) (some 1) none = some (.str (fromS x 1)) := cutV_from hx 1
  have c6 : cutV (.str x) (some 2) none = some (.str (fromS x 2)) := cutV_from hx 2
  have c2 : cutV (.str x) (some 1) (some 2) = some (.str (cutS x 1 2)) := cutV_str hx 1 2
  have c3 : cutV (.str x) (some 2) (some 3) = some (.str (cutS x 2 3)) := cutV_str hx 2 3
  have e1 : ex Φ1 γ0 (.assign 0 (.call "fspath" [.var 0])) (startSt 3 [.str x] ms) = some (.next, ⟨[.val (.str x), .unset, .unset], ms⟩) := sasg (qcall1 rfl (qvar rfl) rfl) (by exact (by decide : 0 < 3)) rfl
  have e2 : ex Φ1 γ0 (.ite (.bf .isinstance [.var 0, .gl "bytes"]) [.any, .any] [.assign 1 (.str [47]), .assign 2 (.str [])]) ⟨[.val (.str x), .unset, .unset], ms⟩ = some (.next, ⟨[.val (.str x), .val (.str slash), .val (.str emptyS)], ms⟩) :=
    (ex_ite_f (qbf2T (qvar rfl) (qgl rfl) isin_f rfl)).trans ((exs_next (sasg (τ1 := ⟨[.val (.str x), .unset, .unset], ms⟩) rfl (by exact (by decide : 1 < 3)) rfl)).trans (exs_one (sasg (τ1 := ⟨[.val (.str x), .val (.str slash), .unset], ms⟩) rfl (by exact (by decide : 2 < 3)) rfl)))
  have l3 : ∀ a b c : PV, [a, b, c].length ≤ lid := fun _ _ _ => (by decide : 3 ≤ lid)
  show gRun Φ1 γ0 1 3 c_splitroot [.str x] ms = _
  refine (run_ret (τ := ⟨[.val (.str x), .val (.str slash), .val (.str emptyS)], ms⟩) (v := .tup [.str emptyS, .str (rootS x).1, .str (rootS x).2]) rfl ((exs_next e1).trans ((exs_next e2).trans (exs_one ?_))) rfl).trans (by rw [List.take_length])
  unfold rootS
  cases q1 : cutS x 0 1 != slash with
  | true => exact (ex_ite_t (qcmpT (qslcTo rfl rfl c1) (qvar rfl) (ne_str.trans (congrArg some q1)))).trans (exs_one (sret (qtup (qcons (qvar rfl) (qcons (qvar rfl) (qcons (qvar rfl) qnil))) (l3 _ _ _) rfl)))
  | false =>
    rw [if_neg Bool.false_ne_true]
    refine (ex_ite_f (qcmpT (qslcTo rfl rfl c1) (qvar rfl) (ne_str.trans (congrArg some q1)))).trans (exs_one ?_)
    have fin1 : exs Φ1 γ0 [.ret (.tup [.var 2, .var 1, .slcFrom (.var 0) (.int 1)])] ⟨[.val (.str x), .val (.str slash), .val (.str emptyS)], ms⟩ = some (.ret (.tup [.str emptyS, .str slash, .str (fromS x 1)]), ⟨[.val (.str x), .val (.str slash), .val (.str emptyS)], ms⟩) :=
      exs_one (sret (qtup (qcons (qvar rfl) (qcons (qvar rfl) (qcons (qslcFrom rfl rfl c5) qnil))) (l3 _ _ _) rfl))
    cases q2 : cutS x 1 2 != slash with
    | true => exact (ex_ite_t (qor2t (qcmpT (qslc rfl rfl rfl c2) (qvar rfl) (ne_str.trans (congrArg some q2))))).trans fin1
    | false =>
      cases q3 : cutS x 2 3 == slash with
      | true => exact (ex_ite_t (qor2 (qcmpT (qslc rfl rfl rfl c2) (qvar rfl) (ne_str.trans (congrArg some q2))) (qcmpT (qslc rfl rfl rfl c3) (qvar rfl) (eq_str'.trans (congrArg some q3))))).trans fin1
      | false => exact (ex_ite_f (qor2 (qcmpT (qslc rfl rfl rfl c2) (qvar rfl) (ne_str.trans (congrArg some q2))) (qcmpT (qslc rfl rfl rfl c3) (qvar rfl) (eq_str'.trans (congrArg some q3))))).trans (exs_one (sret (qtup (qcons (qvar rfl) (qcons (qslcTo rfl rfl c4) (qcons (qslcFrom rfl rfl c6) qnil))) (l3 _ _ _) rfl)))
end Mine
end
noncomputable section
set_option linter.unusedVariables false
namespace Mine
/-! the plain law, 1: paths as lists of numbers -/
noncomputable def joinS : List (List Nat) → List Nat
  | [] => []
  | [x] => x
  | x :: y :: r => x ++ 47 :: joinS (y :: r)
noncomputable def Free (x : List Nat) : Prop := 47 ∉ x
theorem joinS_cons (x : List Nat) {r : List (List Nat)} (h : r ≠ []) : joinS (x :: r) = x ++ 47 :: joinS r := by
  cases r with
  | nil => exact absurd rfl h
  | cons y r => rfl
theorem joinS_app : ∀ {a b : List (List Nat)}, a ≠ [] → b ≠ [] → joinS (a ++ b) = joinS a ++ 47 :: joinS b
  | [], b, h, _ => absurd rfl h
  | [x], b, _, h => joinS_cons x h
  | x :: y :: r, b, _, h => by
    have ih := joinS_app (a := y :: r) (b := b) (by simp) h
    rw [List.cons_append, joinS_cons x (by simp), ih, joinS_cons x (by simp)]; simp
theorem cut_eq : ∀ {x y s t : List Nat}, Free x → Free y → x ++ 47 :: s = y ++ 47 :: t → x = y ∧ s = t
  | [], [], s, t, _, _, h => ⟨rfl, by simpa using h⟩
  | [], b :: y, s, t, _, hy, h => by
    simp only [List.nil_append, List.cons_append, List.cons.injEq] at h
    exact absurd (List.mem_cons.mpr (.inl h.1)) hy
  | a :: x, [], s, t, hx, _, h => by
    simp only [List.nil_append, List.cons_append, List.cons.injEq] at h
    exact absurd (List.mem_cons.mpr (.inl h.1.symm)) hx
  | a :: x, b :: y, s, t, hx, hy, h => by
    simp only [List.cons_append, List.cons.injEq] at h
    obtain ⟨h1, h2⟩ := h
    obtain ⟨rfl, h3⟩ := cut_eq (fun m => hx (List.mem_cons_of_mem _ m)) (fun m => hy (List.mem_cons_of_mem _ m)) h2
    exact ⟨by rw [h1], h3⟩
theorem joinS_inj : ∀ {a b : List (List Nat)}, a ≠ [] → b ≠ [] → (∀ x ∈ a, Free x) → (∀ x ∈ b, Free x) → joinS a = joinS b → a = b
  | [], _, h, _, _, _, _ => absurd rfl h
  | _, [], _, h, _, _, _ => absurd rfl h
  | [x], [y], _, _, _, _, h => by simpa [joinS] using h
  | [x], y :: z :: r, _, _, hx, _, h => by
    exfalso
    simp only [joinS] at h
    exact hx x (List.mem_cons_self ..) (by rw [h]; simp)
  | x :: z :: r, [y], _, _, _, hy, h => by
    exfalso
    simp only [joinS] at h
    exact hy y (List.mem_cons_self ..) (by rw [← h]; simp)
  | x :: u :: r, y :: v :: q, _, _, hx, hy, h => by
    rw [joinS_cons x (by simp), joinS_cons y (by simp)] at h
    obtain ⟨rfl, h2⟩ := cut_eq (hx x (List.mem_cons_self ..)) (hy y (List.mem_cons_self ..)) h
    rw [joinS_inj (by simp) (by simp) (fun z hz => hx z (List.mem_cons_of_mem _ hz)) (fun z hz => hy z (List.mem_cons_of_mem _ hz)) h2]
noncomputable def splitL : List Nat → List (List Nat)
  | [] => [[]]
  | c :: r => if c = 47 then [] :: splitL r else match splitL r with
    | [] => [[c]]
    | p :: q => (c :: p) :: q
theorem splitL_ne : ∀ x, splitL x ≠ []
  | [] => by simp [splitL]
  | c :: r => by
    unfold splitL
    split
    · simp
    · split <;> simp
theorem splitL_free : ∀ x, ∀ p ∈ splitL x, Free p
  | [], p, h => by simp [splitL] at h; subst h; simp [Free]
  | c :: r, p, h => by
    unfold splitL at h
    split at h
    · rcases List.mem_cons.mp h with rfl | h
      · simp [Free]
      · exact splitL_free r p h
    · rename_i hc
      have ih := splitL_free r
      split at h
      · simp at h; subst h; simp [Free]; exact fun e => hc e.symm
      · rename_i p' q e
        rw [e] at ih
        rcases List.mem_cons.mp h with rfl | h
        · have := ih p' (List.mem_cons_self ..)
          intro hm
          rcases List.mem_cons.mp hm with e | hm
          · exact hc e.symm
          · exact this hm
        · exact ih p (List.mem_cons_of_mem _ h)
theorem joinS_splitL : ∀ x, joinS (splitL x) = x
  | [] => rfl
  | c :: r => by
    have ih := joinS_splitL r
    unfold splitL
    split
    · rename_i hc
      rw [joinS_cons _ (splitL_ne r), ih, hc]; rfl
    · split
      · rename_i e; exact absurd e (splitL_ne r)
      · rename_i p q e
        rw [e] at ih
        rw [← ih]
        cases q with
        | nil => rfl
        | cons z q => rfl
theorem splitL_joinS {cs : List (List Nat)} (h : cs ≠ []) (hf : ∀ c ∈ cs, Free c) : splitL (joinS cs) = cs :=
  joinS_inj (splitL_ne _) h (splitL_free _) hf (joinS_splitL _)

noncomputable def dd : List Nat := [46, 46]
noncomputable def stepN (ab : Bool) (s : List (List Nat)) (c : List Nat) : List (List Nat) :=
  if c = [] ∨ c = [46] then s else if c ≠ dd ∨ (ab = false ∧ s = []) ∨ s.getLast? = some dd then s ++ [c] else s.dropLast
noncomputable def stepT (s : List (List Nat)) (c : List Nat) : List (List Nat) := if c = [] ∨ c = [46] then s else if c = dd then s.dropLast else s ++ [c]
noncomputable def rootL (x : List Nat) : List Nat × List Nat := if x.take 1 ≠ [47] then ([], x) else if (x.drop 1).take 1 ≠ [47] ∨ (x.drop 2).take 1 = [47] then ([47], x.drop 1) else (x.take 2, x.drop 2)
noncomputable def orDot (x : List Nat) : List Nat := if x = [] then [46] else x
noncomputable def normL (x : List Nat) : List Nat := if x = [] then [46] else orDot ((rootL x).1 ++ joinS ((splitL (rootL x).2).foldl (stepN (decide ((rootL x).1 ≠ []))) []))
noncomputable def joinP (a b : List Nat) : List Nat := if b.take 1 = [47] ∨ a = [] then b else if a.getLast? = some 47 then a ++ b else a ++ 47 :: b
noncomputable def wayOf (cs : List (List Nat)) : List Nat := 47 :: joinS cs

/-- a name of a node -/
noncomputable def Nm (c : List Nat) : Prop := c ≠ [] ∧ Free c ∧ c ≠ [46] ∧ c ≠ dd
theorem stepT_nm {s : List (List Nat)} {c : List Nat} (hs : ∀ x ∈ s, Nm x) (hc : Free c) : ∀ x ∈ stepT s c, Nm x := by
  unfold stepT
  split
  · exact hs
  · rename_i h
    split
    · exact fun x hx => hs x ((List.dropLast_sublist _).subset hx)
    · rename_i h2
      intro x hx
      rcases List.mem_append.mp hx with hx | hx
      · exact hs x hx
      · rw [List.mem_singleton.mp hx]
        exact ⟨fun e => h (.inl e), hc, fun e => h (.inr e), h2⟩
theorem foldT_nm : ∀ {P s : List (List Nat)}, (∀ x ∈ s, Nm x) → (∀ x ∈ P, Free x) → ∀ x ∈ P.foldl stepT s, Nm x
  | [], s, hs, _ => hs
  | c :: P, s, hs, hP => foldT_nm (P := P) (stepT_nm hs (hP c (List.mem_cons_self ..))) fun x hx => hP x (List.mem_cons_of_mem _ hx)
theorem last_mem {α : Type} {s : List α} {x : α} (h : s.getLast? = some x) : x ∈ s := List.mem_of_getLast? h
theorem stepN_true {s : List (List Nat)} {c : List Nat} (hs : ∀ x ∈ s, Nm x) : stepN true s c = stepT s c := by
  unfold stepN stepT
  split
  · rfl
  · by_cases h : c = dd
    · have : ¬ s.getLast? = some dd := fun e => (hs _ (last_mem e)).2.2.2 rfl
      simp [h, this]
    · simp [h]
theorem foldN_true : ∀ {P s : List (List Nat)}, (∀ x ∈ s, Nm x) → (∀ x ∈ P, Free x) → P.foldl (stepN true) s = P.foldl stepT s
  | [], s, _, _ => rfl
  | c :: P, s, hs, hP => by
    rw [List.foldl_cons, List.foldl_cons, stepN_true hs]
    exact foldN_true (stepT_nm hs (hP c (List.mem_cons_self ..))) fun x hx => hP x (List.mem_cons_of_mem _ hx)
theorem foldT_names : ∀ {P s : List (List Nat)}, (∀ x ∈ P, Nm x) → P.foldl stepT s = s ++ P
  | [], s, _ => by simp
  | c :: P, s, hP => by
    have hc := hP c (List.mem_cons_self ..)
    have : stepT s c = s ++ [c] := by simp [stepT, hc.1, hc.2.2.1, hc.2.2.2]
    rw [List.foldl_cons, this, foldT_names fun x hx => hP x (List.mem_cons_of_mem _ hx)]; simp
noncomputable def Good (R : List (List Nat)) : Prop := ∀ x ∈ R, x ≠ [] ∧ x ≠ [46]
theorem stepN_good {ab : Bool} {R : List (List Nat)} {c : List Nat} (hR : Good R) : Good (stepN ab R c) := by
  unfold stepN
  split
  · exact hR
  · rename_i h
    split
    · intro x hx
      rcases List.mem_append.mp hx with hx | hx
      · exact hR x hx
      · rw [List.mem_singleton.mp hx]; exact ⟨fun e => h (.inl e), fun e => h (.inr e)⟩
    · exact fun x hx => hR x ((List.dropLast_sublist _).subset hx)
theorem foldN_good {ab : Bool} : ∀ {P R : List (List Nat)}, Good R → Good (P.foldl (stepN ab) R)
  | [], R, h => h
  | c :: P, R, h => foldN_good (P := P) (stepN_good h)
theorem stepN_free {ab : Bool} {R : List (List Nat)} {c : List Nat} (hR : ∀ x ∈ R, Free x) (hc : Free c) : ∀ x ∈ stepN ab R c, Free x := by
  unfold stepN
  split
  · exact hR
  · split
    · intro x hx
      rcases List.mem_append.mp hx with hx | hx
      · exact hR x hx
      · rw [List.mem_singleton.mp hx]; exact hc
    · exact fun x hx => hR x ((List.dropLast_sublist _).subset hx)
theorem foldN_free {ab : Bool} : ∀ {P R : List (List Nat)}, (∀ x ∈ R, Free x) → (∀ x ∈ P, Free x) → ∀ x ∈ P.foldl (stepN ab) R, Free x
  | [], R, h, _ => h
  | c :: P, R, h, hP => foldN_free (P := P) (stepN_free h (hP c (List.mem_cons_self ..))) fun x hx => hP x (List.mem_cons_of_mem _ hx)
theorem step_through {s R : List (List Nat)} {c : List Nat} (hR : Good R) : (stepN false R c).foldl stepT s = stepT (R.foldl stepT s) c := by
  unfold stepN
  split
  · rename_i h; simp [stepT, h]
  · rename_i h
    split
    · rw [List.foldl_append]; rfl
    · rename_i h2
      simp only [ne_eq, true_and, not_or, Decidable.not_not] at h2
      obtain ⟨hc, hn, hl⟩ := h2
      obtain ⟨R', d, rfl⟩ : ∃ R' d, R = R' ++ [d] := by
        rcases List.eq_nil_or_concat R with e | ⟨R', d, e⟩
        · exact absurd e hn
        · exact ⟨R', d, by simpa using e⟩
      have hd : d ≠ dd := fun e => hl (by simp [e])
      have hg := hR d (by simp)
      have e1 : stepT (R'.foldl stepT s) d = R'.foldl stepT s ++ [d] := by simp [stepT, hg.1, hg.2, hd]
      have hcdd : ¬ (dd = [] ∨ dd = [46]) := by decide
      rw [List.foldl_append, List.foldl_cons, List.foldl_nil, e1, hc]
      simp [stepT, hcdd]
theorem fold_through : ∀ {P R s : List (List Nat)}, Good R → (P.foldl (stepN false) R).foldl stepT s = P.foldl stepT (R.foldl stepT s)
  | [], R, s, _ => rfl
  | c :: P, R, s, h => by
    rw [List.foldl_cons, fold_through (stepN_good h), step_through h]; rfl

theorem joinS_take1 {x : List Nat} {r : List (List Nat)} (hx : x ≠ []) (hf : Free x) : (joinS (x :: r)).take 1 ≠ [47] ∧ joinS (x :: r) ≠ [] := by
  cases x with
  | nil => exact absurd rfl hx
  | cons a x =>
    have ha : a ≠ 47 := fun e => hf (by rw [e]; exact List.mem_cons_self ..)
    cases r with
    | nil => simp [joinS, ha]
    | cons y r => simp [joinS, ha]
theorem take1_nm {C : List (List Nat)} (h : ∀ x ∈ C, Nm x) : (joinS C).take 1 ≠ [47] := by
  cases C with
  | nil => simp [joinS]
  | cons x r => exact (joinS_take1 (h x (List.mem_cons_self ..)).1 (h x (List.mem_cons_self ..)).2.1).1

/-- an absolute path with one slash ahead -/
theorem norm_one {Q : List (List Nat)} (hQ : Q ≠ []) (hf : ∀ c ∈ Q, Free c) (h1 : (joinS Q).take 1 ≠ [47]) : normL (47 :: joinS Q) = wayOf (Q.foldl stepT []) := by
  have hr : rootL (47 :: joinS Q) = ([47], joinS Q) := by simp [rootL, h1]
  unfold normL
  rw [if_neg (by simp), hr]
  simp only [splitL_joinS hQ hf]
  have e : (decide (([47] : List Nat) ≠ [])) = true := by decide
  rw [e, foldN_true (by simp) hf]
  simp [orDot, wayOf]
theorem norm_way {C : List (List Nat)} (h : ∀ x ∈ C, Nm x) : normL (wayOf C) = wayOf C := by
  by_cases hC : C = []
  · subst hC; decide
  · have := norm_one hC (fun c hc => (h c hc).2.1) (take1_nm h)
    rw [foldT_names h] at this; simpa [wayOf] using this
theorem norm_two {C : List (List Nat)} (h : ∀ x ∈ C, Nm x) : normL (47 :: wayOf C) = 47 :: wayOf C := by
  have h1 := take1_nm h
  have hr : rootL (47 :: wayOf C) = ([47, 47], joinS C) := by simp [rootL, wayOf, h1]
  unfold normL
  rw [if_neg (by simp), hr]
  have e : (decide (([47, 47] : List Nat) ≠ [])) = true := by decide
  simp only [e]
  by_cases hC : C = []
  · subst hC; decide
  · rw [splitL_joinS hC (fun c hc => (h c hc).2.1), foldN_true (by simp) (fun c hc => (h c hc).2.1), foldT_names h]
    simp [orDot, wayOf]
theorem way_last {B : List (List Nat)} (h : ∀ x ∈ B, Nm x) (hB : B ≠ []) : (wayOf B).getLast? ≠ some 47 := by
  obtain ⟨B', d, rfl⟩ : ∃ R' d, B = R' ++ [d] := by
    rcases List.eq_nil_or_concat B with e | ⟨R', d, e⟩
    · exact absurd e hB
    · exact ⟨R', d, by simpa using e⟩
  have hd := h d (by simp)
  obtain ⟨d', z, rfl⟩ : ∃ d' z, d = d' ++ [z] := by
    rcases List.eq_nil_or_concat d with e | ⟨R', d, e⟩
    · exact absurd e hd.1
    · exact ⟨R', d, by simpa using e⟩
  have hz : z ≠ 47 := fun e => hd.2.1 (by simp [e])
  have : ∃ w, wayOf (B' ++ [d' ++ [z]]) = w ++ [z] := by
    by_cases hB' : B' = []
    · subst hB'; exact ⟨47 :: d', by simp [wayOf, joinS]⟩
    · exact ⟨47 :: (joinS B' ++ 47 :: d'), by simp [wayOf, joinS_app hB', joinS]⟩
  obtain ⟨w, e⟩ := this
  rw [e]; simp [hz]

theorem norm_rel {B P : List (List Nat)} (hB : ∀ x ∈ B, Nm x) (hP : P ≠ []) (hf : ∀ c ∈ P, Free c) (h0 : P.head? ≠ some []) :
    normL (joinP (wayOf B) (normL (joinS P))) = wayOf (P.foldl stepT B) := by
  obtain ⟨p, r, rfl⟩ : ∃ p r, P = p :: r := by cases P with | nil => exact absurd rfl hP | cons p r => exact ⟨p, r, rfl⟩
  have hp : p ≠ [] := fun e => h0 (by simp [e])
  obtain ⟨t1, t2⟩ := joinS_take1 (r := r) hp (hf p (List.mem_cons_self ..))
  have hgood : Good ((p :: r).foldl (stepN false) []) := foldN_good (by intro x hx; simp at hx)
  have hfr := foldN_free (ab := false) (P := p :: r) (R := []) (by simp) hf
  have ht := fold_through (P := p :: r) (R := []) (s := B) (by intro x hx; simp at hx)
  generalize hR : (p :: r).foldl (stepN false) [] = R at hgood hfr ht
  have hN : normL (joinS (p :: r)) = orDot (joinS R) := by
    have hr : rootL (joinS (p :: r)) = ([], joinS (p :: r)) := by simp [rootL, t1]
    unfold normL
    rw [if_neg t2, hr]
    simp only [splitL_joinS hP hf]
    have e : (decide (([] : List Nat) ≠ [])) = false := by decide
    rw [e, hR]; simp
  obtain ⟨R', hR1, hR2, hR3, hR4⟩ : ∃ R', R' ≠ [] ∧ orDot (joinS R) = joinS R' ∧ (∀ c ∈ R', c ≠ [] ∧ Free c) ∧ R'.foldl stepT B = R.foldl stepT B := by
    cases R with
    | nil => exact ⟨[[46]], by simp, by simp [orDot, joinS], by simp [Free], by simp [stepT]⟩
    | cons x q =>
      refine ⟨x :: q, by simp, ?_, fun c hc => ⟨(hgood c hc).1, hfr c hc⟩, rfl⟩
      simp [orDot, (joinS_take1 (r := q) (hgood x (List.mem_cons_self ..)).1 (hfr x (List.mem_cons_self ..))).2]
  rw [hN, hR2]
  obtain ⟨x, q, rfl⟩ : ∃ p r, R' = p :: r := by cases R' with | nil => exact absurd rfl hR1 | cons p r => exact ⟨p, r, rfl⟩
  have tx := joinS_take1 (r := q) (hR3 x (List.mem_cons_self ..)).1 (hR3 x (List.mem_cons_self ..)).2
  have hj : joinP (wayOf B) (joinS (x :: q)) = 47 :: joinS (B ++ x :: q) := by
    unfold joinP
    rw [if_neg (by simp [tx.1, wayOf])]
    by_cases hBe : B = []
    · subst hBe; simp [wayOf, joinS]
    · rw [if_neg (way_last hB hBe)]
      simp [wayOf, joinS_app hBe]
  rw [hj]
  have hfree : ∀ c ∈ B ++ x :: q, Free c := fun c hc => (List.mem_append.mp hc).elim (fun h => (hB c h).2.1) (fun h => (hR3 c h).2)
  rw [norm_one (by simp) hfree ?_, List.foldl_append, foldT_names hB]
  · rw [List.nil_append, hR4, ht]; rfl
  · cases B with
    | nil => exact tx.1
    | cons b B => exact (joinS_take1 (hB b (List.mem_cons_self ..)).1 (hB b (List.mem_cons_self ..)).2.1).1

noncomputable def leadL (x : List Nat) : List Nat := if x.take 2 = [47, 47] ∧ (x.drop 2).take 1 ≠ [47] then [47] else []
theorem norm_front {P : List (List Nat)} (hP : P ≠ []) (hf : ∀ c ∈ P, Free c) : normL (47 :: joinS P) = leadL (47 :: joinS P) ++ wayOf (P.foldl stepT []) := by
  by_cases h1 : (joinS P).take 1 = [47]
  · obtain ⟨P', rfl, hP'⟩ : ∃ P', P = [] :: P' ∧ P' ≠ [] := by
      cases P with
      | nil => exact absurd rfl hP
      | cons p r =>
        by_cases hp : p = []
        · subst hp
          refine ⟨r, rfl, fun e => ?_⟩
          subst e; simp [joinS] at h1
        · exact absurd h1 (joinS_take1 hp (hf p (List.mem_cons_self ..))).1
    have e : joinS ([] :: P') = 47 :: joinS P' := joinS_cons [] hP'
    rw [e]
    have hf' : ∀ c ∈ P', Free c := fun c hc => hf c (List.mem_cons_of_mem _ hc)
    have ef : ([] :: P').foldl stepT [] = P'.foldl stepT [] := by simp [stepT]
    rw [ef]
    by_cases h2 : (joinS P').take 1 = [47]
    · have hr : rootL (47 :: 47 :: joinS P') = ([47], 47 :: joinS P') := by simp [rootL, h2]
      have hl : leadL (47 :: 47 :: joinS P') = [] := by simp [leadL, h2]
      unfold normL
      rw [if_neg (by simp), hr, hl]
      have e2 : (decide (([47] : List Nat) ≠ [])) = true := by decide
      simp only [e2]
      rw [← e, splitL_joinS (by simp) hf, foldN_true (by simp) hf, ef]
      simp [orDot, wayOf]
    · have hr : rootL (47 :: 47 :: joinS P') = ([47, 47], joinS P') := by simp [rootL, h2]
      have hl : leadL (47 :: 47 :: joinS P') = [47] := by simp [leadL, h2]
      unfold normL
      rw [if_neg (by simp), hr, hl]
      have e2 : (decide (([47, 47] : List Nat) ≠ [])) = true := by decide
      simp only [e2]
      rw [splitL_joinS hP' hf', foldN_true (by simp) hf']
      simp [orDot, wayOf]
  · rw [norm_one hP hf h1]
    have hl : leadL (47 :: joinS P) = [] := by simp [leadL, h1]
    rw [hl]; rfl
theorem lead_cases (x : List Nat) : leadL x = [] ∨ leadL x = [47] := by
  unfold leadL; split
  · exact .inr rfl
  · exact .inl rfl
theorem norm_abs {P : List (List Nat)} {base : List Nat} (hP : P ≠ []) (hf : ∀ c ∈ P, Free c) :
    normL (joinP base (normL (47 :: joinS P))) = leadL (47 :: joinS P) ++ wayOf (P.foldl stepT []) := by
  have hnm := foldT_nm (P := P) (s := []) (by simp) hf
  rw [norm_front hP hf]
  have hj : joinP base (leadL (47 :: joinS P) ++ wayOf (P.foldl stepT [])) = leadL (47 :: joinS P) ++ wayOf (P.foldl stepT []) := by
    have h1 : (leadL (47 :: joinS P) ++ wayOf (P.foldl stepT [])).take 1 = [47] := by
      rcases lead_cases (47 :: joinS P) with e | e
      · rw [e]; rfl
      · rw [e]; rfl
    unfold joinP
    rw [if_pos (.inl h1)]
  rw [hj]
  rcases lead_cases (47 :: joinS P) with e | e <;> rw [e]
  · exact norm_way hnm
  · exact norm_two hnm
theorem lead_rel {P : List (List Nat)} (hP : P ≠ []) (hf : ∀ c ∈ P, Free c) (h0 : P.head? ≠ some []) : leadL (joinS P) = [] := by
  obtain ⟨p, r, rfl⟩ : ∃ p r, P = p :: r := by cases P with | nil => exact absurd rfl hP | cons p r => exact ⟨p, r, rfl⟩
  have hp : p ≠ [] := fun e => h0 (by simp [e])
  obtain ⟨t1, t2⟩ := joinS_take1 (r := r) hp (hf p (List.mem_cons_self ..))
  unfold leadL
  rw [if_neg]
  intro h
  cases hj : joinS (p :: r) with
  | nil => exact t2 hj
  | cons a q => rw [hj] at h t1; simp at h t1; exact t1 h.1.1
theorem wayOf_inj {a b : List (List Nat)} (ha : ∀ x ∈ a, Nm x) (hb : ∀ x ∈ b, Nm x) (h : wayOf a = wayOf b) : a = b := by
  have h : joinS a = joinS b := by simpa [wayOf] using h
  cases a with
  | nil =>
    cases b with
    | nil => rfl
    | cons x r => exact absurd h.symm (joinS_take1 (hb x (List.mem_cons_self ..)).1 (hb x (List.mem_cons_self ..)).2.1).2
  | cons x r =>
    cases b with
    | nil => exact absurd h (joinS_take1 (ha x (List.mem_cons_self ..)).1 (ha x (List.mem_cons_self ..)).2.1).2
    | cons y q => exact joinS_inj (by simp) (by simp) (fun z hz => (ha z hz).2.1) (fun z hz => (hb z hz).2.1) h
end Mine
end
noncomputable section
set_option linter.unusedVariables false
set_option linter.unusedSectionVars false
namespace Mine
/-! the plain law, 2: the tree -/
structure Nd where
  above : Nat
  name : List Nat
  mode : Nat
  way : List Nat
noncomputable def nd (t : List Nd) (k : Nat) : Nd := t.getD k ⟨0, [], 0, []⟩
noncomputable def nm4 : List (List Nat) := [[97], [98], [46, 46, 46], [46, 97]]
noncomputable def kd6 : List Nat := [4, 4, 4, 4, 12, 5]
noncomputable def pre (t : List Nd) (a : Nat) : List Nat := if a = 0 then [] else (nd t a).way
noncomputable def ix (x : Int) (m : Nat) : Nat := (x.fmod m).toNat
noncomputable def aboveOf (fs : List Nat) (x : Int) : Nat := fs.getD (ix (x.fdiv 24) fs.length) 0
noncomputable def nameOf (x : Int) : List Nat := nm4.getD (ix (x.fdiv 6) 4) []
noncomputable def kindOf' (x : Int) : Nat := kd6.getD (ix x 6) 0
noncomputable def modeOf (x : Int) : Nat := kindOf' x * 4096 + (493 ^^^ ix (x.fdiv 96) 4096)
noncomputable def wayNew (t : List Nd) (fs : List Nat) (x : Int) : List Nat := pre t (aboveOf fs x) ++ 47 :: nameOf x
noncomputable def tstep (t : List Nd × List Nat) (x : Int) : List Nd × List Nat :=
  if wayNew t.1 t.2 x ∈ t.1.map (·.way) then t else
    (t.1 ++ [⟨aboveOf t.2 x, nameOf x, modeOf x, wayNew t.1 t.2 x⟩], if kindOf' x = 4 then t.2 ++ [t.1.length] else t.2)
noncomputable def topNd : Nd := ⟨0, [], 16877, [47]⟩
noncomputable def mkTree (xs : List Int) : List Nd × List Nat := xs.foldl tstep ([topNd], [0])

structure WF (t : List Nd) (fs : List Nat) : Prop where
  top : t.head? = some topNd
  fold : fs = (List.range t.length).filter fun k => (nd t k).mode / 4096 == 4
  ok : ∀ k, 0 < k → k < t.length → (nd t k).above < k ∧ (nd t (nd t k).above).mode / 4096 = 4 ∧ (nd t k).name ∈ nm4 ∧ (nd t k).way = pre t (nd t k).above ++ 47 :: (nd t k).name
  md : ∀ k, k < t.length → ((nd t k).mode / 4096 = 4 ∨ (nd t k).mode / 4096 = 12 ∨ (nd t k).mode / 4096 = 5)
  nodup : (t.map (·.way)).Nodup

theorem ix_lt (x : Int) {m : Nat} (h : 0 < m) : ix x m < m := by
  unfold ix
  have h1 := Int.fmod_nonneg_of_pos x (b := (m : Int)) (by omega)
  have h2 := Int.fmod_lt_of_pos x (b := (m : Int)) (by omega)
  omega
theorem getD_mem {α : Type} {l : List α} {k : Nat} (d : α) (h : k < l.length) : l.getD k d ∈ l := by
  rw [List.getD_eq_getElem?_getD, List.getElem?_eq_getElem h]; exact List.getElem_mem h
theorem nameOf_mem (x : Int) : nameOf x ∈ nm4 := getD_mem _ (ix_lt _ (by decide))
theorem kindOf_mem (x : Int) : kindOf' x ∈ kd6 := getD_mem _ (ix_lt _ (by decide))
theorem mode_kind (x : Int) : modeOf x / 4096 = kindOf' x := by
  unfold modeOf
  have h : 493 ^^^ ix (x.fdiv 96) 4096 < 2 ^ 12 := Nat.xor_lt_two_pow (by decide) (ix_lt _ (by decide))
  omega
theorem nd_app {t : List Nd} {n : Nd} {k : Nat} (h : k < t.length) : nd (t ++ [n]) k = nd t k := by
  unfold nd; simp [List.getD_eq_getElem?_getD, List.getElem?_append_left h]
theorem nd_new {t : List Nd} {n : Nd} : nd (t ++ [n]) t.length = n := by
  unfold nd; simp [List.getD_eq_getElem?_getD]
section
variable {t : List Nd} {fs : List Nat}
theorem WF.pos (w : WF t fs) : 0 < t.length := by
  have := w.top
  cases t with
  | nil => simp at this
  | cons a r => simp
theorem WF.nd0 (w : WF t fs) : nd t 0 = topNd := by
  have := w.top
  cases t with
  | nil => simp at this
  | cons a r => simpa [nd] using this
theorem WF.mem_fs (w : WF t fs) {k : Nat} : k ∈ fs ↔ k < t.length ∧ (nd t k).mode / 4096 = 4 := by
  rw [w.fold]; simp
theorem WF.zero_fs (w : WF t fs) : 0 ∈ fs := w.mem_fs.mpr ⟨w.pos, by rw [w.nd0]; decide⟩
theorem WF.fs_pos (w : WF t fs) : 0 < fs.length := List.length_pos_of_mem w.zero_fs
theorem WF.above_mem (w : WF t fs) (x : Int) : aboveOf fs x ∈ fs := getD_mem _ (ix_lt _ w.fs_pos)
theorem WF.step (w : WF t fs) (x : Int) : WF (tstep (t, fs) x).1 (tstep (t, fs) x).2 := by
  unfold tstep
  split
  · exact w
  · rename_i hnew
    simp only
    have ha := w.mem_fs.mp (w.above_mem x)
    have hpre : ∀ a, a < t.length → pre (t ++ [⟨aboveOf fs x, nameOf x, modeOf x, wayNew t fs x⟩]) a = pre t a := fun a h => by
      unfold pre; rw [nd_app h]
    refine ⟨?_, ?_, fun k h0 hk => ?_, fun k hk => ?_, ?_⟩
    · rw [List.head?_append, w.top]; rfl
    · rw [List.length_append, List.length_singleton, List.range_succ, List.filter_append]
      have e1 : (List.range t.length).filter (fun k => (nd (t ++ [⟨aboveOf fs x, nameOf x, modeOf x, wayNew t fs x⟩]) k).mode / 4096 == 4) = (List.range t.length).filter fun k => (nd t k).mode / 4096 == 4 := by
        apply List.filter_congr
        intro k hk
        rw [nd_app (List.mem_range.mp hk)]
      rw [e1, ← w.fold, List.filter_cons, nd_new]
      simp only [mode_kind, List.filter_nil]
      by_cases h : kindOf' x = 4 <;> simp [h]
    · rw [List.length_append, List.length_singleton] at hk
      by_cases hlt : k < t.length
      · obtain ⟨h1, h2, h3, h4⟩ := w.ok k h0 hlt
        rw [nd_app hlt, nd_app (Nat.lt_trans h1 hlt), hpre _ (Nat.lt_trans h1 hlt)]
        exact ⟨h1, h2, h3, h4⟩
      · obtain rfl : k = t.length := by omega
        rw [nd_new]
        simp only
        rw [nd_app ha.1, hpre _ ha.1]
        exact ⟨ha.1, ha.2, nameOf_mem x, rfl⟩
    · rw [List.length_append, List.length_singleton] at hk
      by_cases hlt : k < t.length
      · rw [nd_app hlt]; exact w.md k hlt
      · obtain rfl : k = t.length := by omega
        rw [nd_new]
        simp only [mode_kind]
        have := kindOf_mem x
        simp [kd6] at this
        omega
    · rw [List.map_append, List.nodup_append]
      exact ⟨w.nodup, by simp, fun a ha b hb => by simp at hb; subst hb; exact fun e => hnew (e ▸ ha)⟩
end
theorem WF.start : WF [topNd] [0] := ⟨rfl, by decide, fun k h0 hk => by simp at hk; omega, fun k hk => by simp at hk; subst hk; exact .inl (by decide), by simp⟩
theorem foldT_wf : ∀ (xs : List Int) (p : List Nd × List Nat), WF p.1 p.2 → WF (xs.foldl tstep p).1 (xs.foldl tstep p).2 ∧ (xs.foldl tstep p).1.length ≤ p.1.length + xs.length
  | [], p, h => ⟨h, by simp⟩
  | x :: xs, p, h => by
    have h1 := WF.step h x
    obtain ⟨h2, h3⟩ := foldT_wf xs (tstep p x) h1
    refine ⟨h2, Nat.le_trans h3 ?_⟩
    have : (tstep p x).1.length ≤ p.1.length + 1 := by
      unfold tstep; split <;> simp
    simp; omega
theorem mkTree_wf (xs : List Int) : WF (mkTree xs).1 (mkTree xs).2 ∧ (mkTree xs).1.length ≤ 1 + xs.length := foldT_wf xs _ WF.start

/-! ways -/
theorem nm4_nm : ∀ c ∈ nm4, Nm c := by
  intro c hc
  simp [nm4] at hc
  rcases hc with rfl | rfl | rfl | rfl <;> simp [Nm, Free, dd]
noncomputable def cpsF (t : List Nd) : Nat → Nat → List (List Nat)
  | 0, _ => []
  | n + 1, k => if k = 0 then [] else cpsF t n (nd t k).above ++ [(nd t k).name]
noncomputable def cps (t : List Nd) (k : Nat) : List (List Nat) := cpsF t k k
section
variable {t : List Nd} {fs : List Nat} (w : WF t fs)
include w
theorem WF.cpsF_eq : ∀ (n m k : Nat), k < t.length → k ≤ n → k ≤ m → cpsF t n k = cpsF t m k
  | 0, m, k, _, h, _ => by
    obtain rfl : k = 0 := by omega
    cases m <;> simp [cpsF]
  | n + 1, 0, k, _, _, h => by
    obtain rfl : k = 0 := by omega
    simp [cpsF]
  | n + 1, m + 1, k, hk, h1, h2 => by
    unfold cpsF
    by_cases h0 : k = 0
    · simp [h0]
    · have := (w.ok k (by omega) hk).1
      rw [if_neg h0, if_neg h0, WF.cpsF_eq n m (nd t k).above (by omega) (by omega) (by omega)]
theorem WF.cps0 : cps t 0 = [] := rfl
theorem WF.cps_eq {k : Nat} (h0 : 0 < k) (hk : k < t.length) : cps t k = cps t (nd t k).above ++ [(nd t k).name] := by
  have ha := (w.ok k h0 hk).1
  unfold cps
  obtain ⟨m, rfl⟩ : ∃ m, k = m + 1 := ⟨k - 1, by omega⟩
  rw [cpsF, if_neg (by omega), w.cpsF_eq m (nd t (m + 1)).above _ (by omega) (by omega) (Nat.le_refl _)]
theorem WF.cps_nm : ∀ (k : Nat), k < t.length → ∀ c ∈ cps t k, Nm c := by
  intro k
  induction k using Nat.strongRecOn with
  | ind k ih =>
    intro hk c hc
    by_cases h0 : k = 0
    · subst h0; simp [cps, cpsF] at hc
    · rw [w.cps_eq (by omega) hk] at hc
      obtain ⟨h1, _, h3, _⟩ := w.ok k (by omega) hk
      rcases List.mem_append.mp hc with hc | hc
      · exact ih _ h1 (by omega) c hc
      · rw [List.mem_singleton.mp hc]; exact nm4_nm _ h3
theorem WF.way_eq : ∀ (k : Nat), k < t.length → (nd t k).way = wayOf (cps t k) := by
  intro k
  induction k using Nat.strongRecOn with
  | ind k ih =>
    intro hk
    by_cases h0 : k = 0
    · subst h0; rw [w.nd0]; rfl
    · rw [w.cps_eq (by omega) hk]
      obtain ⟨h1, _, h3, h4⟩ := w.ok k (by omega) hk
      rw [h4]
      unfold pre
      by_cases ha : (nd t k).above = 0
      · rw [if_pos ha, ha]; rfl
      · rw [if_neg ha, ih _ h1 (by omega)]
        have hne : cps t (nd t k).above ≠ [] := by
          rw [w.cps_eq (by omega) (by omega)]; simp
        simp [wayOf, joinS_app hne, joinS]
theorem WF.way_inj {j k : Nat} (hj : j < t.length) (hk : k < t.length) (h : (nd t j).way = (nd t k).way) : j = k := by
  have h1 : (t.map (·.way))[j]? = (t.map (·.way))[k]? := by
    have e : ∀ i, i < t.length → (t.map (·.way))[i]? = some (nd t i).way := fun i hi => by
      simp [nd, List.getD_eq_getElem?_getD, List.getElem?_eq_getElem hi]
    rw [e j hj, e k hk, h]
  exact (List.getElem?_inj (by simpa using hj) w.nodup).mp h1
theorem WF.cps_inj {j k : Nat} (hj : j < t.length) (hk : k < t.length) (h : cps t j = cps t k) : j = k :=
  w.way_inj hj hk (by rw [w.way_eq j hj, w.way_eq k hk, h])
end

/-! entries -/
noncomputable def kids (t : List Nd) (o : Nat) : List Nat := (List.range t.length).filter fun k => decide (0 < k) && (nd t k).above == o
noncomputable def entsOf (t : List Nd) (o : Nat) : List (List Nat × Nat) := ([46], o) :: (dd, (nd t o).above) :: (kids t o).map fun c => ((nd t c).name, c)
theorem mem_kids {t : List Nd} {o k : Nat} : k ∈ kids t o ↔ k < t.length ∧ 0 < k ∧ (nd t k).above = o := by simp [kids]
noncomputable def stepE (t : List Nd) (o : Nat) (part : List Nat) : Option Nat := ((entsOf t o).find? fun e => e.1 == orDot part).map (·.2)
noncomputable def parts8 : List (List Nat) := [[97], [98], [46, 46, 46], [46, 97], [46], dd, [], dd]
theorem parts8_free : ∀ p ∈ parts8, Free p := by
  intro p hp
  simp [parts8, dd] at hp
  rcases hp with rfl | rfl | rfl | rfl | rfl | rfl | rfl | rfl <;> simp [Free]
section
variable {t : List Nd} {fs : List Nat} (w : WF t fs)
include w
theorem WF.step_dot {o : Nat} {p : List Nat} (hp : p = [] ∨ p = [46]) : stepE t o p = some o := by
  rcases hp with rfl | rfl <;> simp [stepE, entsOf, orDot]
theorem WF.step_dd {o : Nat} : stepE t o dd = some (nd t o).above := by simp [stepE, entsOf, orDot, dd]
theorem WF.above_lt {o : Nat} (ho : o < t.length) : (nd t o).above < t.length := by
  by_cases h0 : o = 0
  · subst h0; rw [w.nd0]; exact w.pos
  · have := (w.ok o (by omega) ho).1; omega
theorem WF.cps_above {o : Nat} (ho : o < t.length) : cps t (nd t o).above = (cps t o).dropLast := by
  by_cases h0 : o = 0
  · subst h0; rw [w.nd0]; rfl
  · rw [w.cps_eq (by omega) ho]; simp
theorem WF.step_name {o : Nat} {p : List Nat} (hp : Nm p) : stepE t o p = ((kids t o).find? fun c => (nd t c).name == p) := by
  have h1 : orDot p = p := by simp [orDot, hp.1]
  have h2 : ([46] == p) = false := by simp [Ne.symm hp.2.2.1]
  have h3 : (dd == p) = false := by simp [Ne.symm hp.2.2.2]
  unfold stepE entsOf
  rw [h1, List.find?_cons, h2, List.find?_cons, h3, List.find?_map]
  simp only [Option.map_map]
  cases h : (kids t o).find? ((fun e => e.1 == p) ∘ fun c => ((nd t c).name, c)) with
  | none => simp only [Option.map_none]; rw [eq_comm]; exact h
  | some c => simp only [Option.map_some]; rw [eq_comm]; exact h
/-- a step of the walk, and the parts' -/
theorem WF.walk_some {o a : Nat} {p : List Nat} (ho : o < t.length) (hp : p ∈ parts8) (h : stepE t o p = some a) : a < t.length ∧ cps t a = stepT (cps t o) p := by
  by_cases h1 : p = [] ∨ p = [46]
  · rw [w.step_dot h1] at h; cases h
    exact ⟨ho, by simp [stepT, h1]⟩
  · by_cases h2 : p = dd
    · subst h2
      rw [w.step_dd] at h; cases h
      refine ⟨w.above_lt ho, ?_⟩
      rw [w.cps_above ho]
      have : ¬ (dd = [] ∨ dd = [46]) := by decide
      simp [stepT, this]
    · have hn : Nm p := ⟨fun e => h1 (.inl e), parts8_free p hp, fun e => h1 (.inr e), h2⟩
      rw [w.step_name hn] at h
      have h3 := List.mem_of_find?_eq_some h
      have h4 := List.find?_some h
      obtain ⟨k1, k2, k3⟩ := mem_kids.mp h3
      have h4 : (nd t a).name = p := by simpa using h4
      refine ⟨k1, ?_⟩
      rw [w.cps_eq k2 k1, k3, h4]
      simp [stepT, h1, h2]
theorem WF.walk_none {o : Nat} {p : List Nat} (ho : o < t.length) (hp : p ∈ parts8) (h : stepE t o p = none) : ∀ k, k < t.length → cps t k ≠ stepT (cps t o) p := by
  by_cases h1 : p = [] ∨ p = [46]
  · rw [w.step_dot h1] at h; cases h
  · by_cases h2 : p = dd
    · subst h2; rw [w.step_dd] at h; cases h
    · have hn : Nm p := ⟨fun e => h1 (.inl e), parts8_free p hp, fun e => h1 (.inr e), h2⟩
      rw [w.step_name hn] at h
      intro k hk e
      have e : cps t k = cps t o ++ [p] := by rw [e]; simp [stepT, h1, h2]
      have h0 : k ≠ 0 := by rintro rfl; simp [cps, cpsF] at e
      rw [w.cps_eq (by omega) hk] at e
      have e2 := List.append_inj' e rfl
      have h5 : (nd t k).above = o := w.cps_inj (w.above_lt hk) ho e2.1
      have := List.find?_eq_none.mp h k (mem_kids.mpr ⟨hk, by omega, h5⟩)
      simp only [beq_iff_eq] at this
      exact this (by simpa using e2.2)
theorem WF.fs_nodup : fs.Nodup := by rw [w.fold]; exact List.Pairwise.filter _ List.nodup_range
/-- what the folders bear: each node but the top, once -/
theorem WF.found_perm : (fs.flatMap (kids t)).Perm (List.range' 1 (t.length - 1)) := by
  refine (List.perm_ext_iff_of_nodup ?_ List.nodup_range').mpr fun k => ?_
  · refine List.pairwise_flatMap.mpr ⟨fun o _ => List.Pairwise.filter _ List.nodup_range, ?_⟩
    refine w.fs_nodup.imp fun {a b} hab x hx y hy e => hab ?_
    subst e
    rw [← (mem_kids.mp hx).2.2, ← (mem_kids.mp hy).2.2]
  · rw [List.mem_flatMap, List.mem_range'_1]
    have hp := w.pos
    constructor
    · rintro ⟨o, _, hk⟩
      have := mem_kids.mp hk; omega
    · intro h
      have h1 := w.ok k (by omega) (by omega)
      exact ⟨(nd t k).above, w.mem_fs.mpr ⟨by omega, h1.2.1⟩, mem_kids.mpr ⟨by omega, by omega, rfl⟩⟩
end
end Mine
end
noncomputable section
open PySem PySem.W PyProof.Rows PySem.Calls
set_option Elab.async false
set_option linter.unusedVariables false
set_option maxRecDepth 100000
namespace Mine
/-! evaluation, helpers -/
noncomputable def sv (x : List Nat) : PV := .str (strOf x)
noncomputable def iv (n : Nat) : PV := .int n
theorem strOf_append (a b : List Nat) : strOf a ++ strOf b = strOf (a ++ b) := Str.ext' (by simp [strOf, Str.cps_append])
theorem strOf_len (a : List Nat) : (strOf a).length = a.length := by simp [strOf, Str.length]
theorem strOf_inj {a b : List Nat} (h : strOf a = strOf b) : a = b := by simpa [strOf] using h
theorem strOf_beq (a b : List Nat) : (strOf a == strOf b) = decide (a = b) := by
  by_cases h : a = b
  · subst h; simp
  · have : strOf a ≠ strOf b := fun e => h (strOf_inj e)
    simp [h, this]
theorem strOf_bne (a b : List Nat) : (strOf a != strOf b) = decide (a ≠ b) := by
  unfold bne; rw [strOf_beq]; simp
theorem strOf_toList (a : List Nat) : (strOf a).cps.toList = a := by simp [strOf]
theorem strOf_of (x : Str) : strOf x.cps.toList = x := Str.ext' (by simp [strOf])
theorem slash_eq : slash = strOf [47] := rfl
theorem emptyS_eq : emptyS = strOf [] := rfl
theorem cutS_eq (x : List Nat) (a b : Nat) : cutS (strOf x) a b = strOf ((x.drop a).take (b - a)) := by simp [cutS, strOf]
theorem fromS_eq (x : List Nat) (a : Nat) : fromS (strOf x) a = strOf (x.drop a) := by simp [fromS, strOf]
theorem rootS_eq (x : List Nat) : rootS (strOf x) = (strOf (rootL x).1, strOf (rootL x).2) := by
  unfold rootS rootL
  rw [cutS_eq, cutS_eq, cutS_eq, slash_eq, strOf_bne, strOf_bne, strOf_beq, fromS_eq, fromS_eq, cutS_eq, emptyS_eq]
  simp only [List.drop_zero, Nat.sub_zero, show 2 - 1 = 1 from rfl, show 3 - 2 = 1 from rfl]
  simp only [decide_eq_true_eq, Bool.or_eq_true]
  by_cases h1 : x.take 1 ≠ [47]
  · rw [if_pos h1, if_pos h1]
  · rw [if_neg h1, if_neg h1]
    by_cases h2 : (x.drop 1).take 1 ≠ [47] ∨ (x.drop 2).take 1 = [47]
    · rw [if_pos h2, if_pos h2]
    · rw [if_neg h2, if_neg h2]
theorem startswith_eq (x : List Nat) : Txt.startswith (strOf x) (strOf [47]) = decide (x.take 1 = [47]) := by
  unfold Txt.startswith
  rw [StrLaws.subAt_eq, strOf_toList, strOf_toList, strOf_len, strOf_len]
  cases x with
  | nil => simp
  | cons a x => by_cases h : a = 47 <;> simp [h]
theorem endswith_eq (x : List Nat) : Txt.endswith (strOf x) (strOf [47]) = decide (x.getLast? = some 47) := by
  unfold Txt.endswith
  rw [StrLaws.subAt_eq, strOf_toList, strOf_toList, strOf_len, strOf_len]
  rcases List.eq_nil_or_concat x with rfl | ⟨y, a, e⟩
  · simp
  · have e : x = y ++ [a] := by simpa using e
    subst e
    by_cases h : a = 47 <;> simp [h]
theorem join_eq (cs : List (List Nat)) : Txt.join (strOf [47]) (cs.map strOf) = strOf (joinS cs) := by
  show Builtin.Str.glued _ _ = _
  rw [StrLaws.glued_eq_join]
  induction cs with
  | nil => rfl
  | cons x r ih =>
    cases r with
    | nil => rfl
    | cons y r =>
      show strOf x ++ strOf [47] ++ Str.join (strOf [47]) ((y :: r).map strOf) = _
      rw [ih, strOf_append, strOf_append]; simp [joinS]
theorem strs_of (l : List Str) : ∃ cs : List (List Nat), l = cs.map strOf := ⟨l.map (·.cps.toList), by simp [Function.comp_def, strOf_of]⟩
theorem split_eq (x : List Nat) : Txt.split (strOf x) (strOf [47]) = (splitL x).map strOf := by
  obtain ⟨cs, hcs⟩ := strs_of (Txt.split (strOf x) (strOf [47]))
  have h1 := StrLaws.join_split (strOf x) (strOf [47])
  have h2 := StrLaws.split_free (strOf x) 47
  have h3 := PyProof.Rows.split_pos (strOf x) (strOf [47])
  rw [hcs] at h1 h3
  have h2 : ∀ p ∈ cs, Free p := fun p hp => by
    have := h2 (strOf p) (by show strOf p ∈ Txt.split (strOf x) (strOf [47]); rw [hcs]; exact List.mem_map_of_mem hp)
    rwa [strOf_toList] at this
  have hne : cs ≠ [] := by rintro rfl; simp at h3
  have h1 : joinS cs = x := by
    have := join_eq cs
    rw [show Txt.join (strOf [47]) (cs.map strOf) = Str.join (strOf [47]) (cs.map strOf) from StrLaws.glued_eq_join _ _, h1] at this
    exact (strOf_inj this).symm
  rw [hcs, ← h1, splitL_joinS hne h2]
end Mine
end
noncomputable section
open PySem PySem.W PyProof.Rows PySem.Calls
set_option Elab.async false
set_option linter.unusedVariables false
set_option linter.unusedSimpArgs false
set_option maxRecDepth 100000
namespace Mine
/-! the paths' defs -/
theorem set_last {α : Type} (ms : List α) (x y : α) : (ms ++ [x]).set ms.length y = ms ++ [y] := by simp
theorem get_last {α : Type} (ms : List α) (x : α) : (ms ++ [x])[ms.length]? = some x := by simp
theorem truth_sv {x : List Nat} (h : x.length ≤ lid) : truthV (sv x) = some (decide (x ≠ [])) := by
  unfold sv truthV; simp only [strOf_len, h, if_true]
  cases x <;> simp
theorem truth_lst {xs : List PV} (h : xs.length ≤ lid) : truthV (.list xs) = some (!xs.isEmpty) := by simp [truthV, h]
theorem cmp_eq (a b : List Nat) : cmpV .Eq (sv a) (sv b) = some (decide (a = b)) := congrArg some (strOf_beq a b)
theorem cmp_ne (a b : List Nat) : cmpV .NotEq (sv a) (sv b) = some (decide (a ≠ b)) := congrArg some (strOf_bne a b)
theorem add_sv {a b : List Nat} (h : a.length + b.length ≤ lid) : binV .Add (sv a) (sv b) = some (sv (a ++ b)) := by
  show (if (strOf a).length + (strOf b).length ≤ lid then some (PV.str (strOf a ++ strOf b)) else none) = _
  rw [strOf_len, strOf_len, if_pos h, strOf_append]; rfl
theorem item_last {R : List (List Nat)} {d : List Nat} (h : R.length ≤ lid) (hR : R.getLast? = some d) : itemV (.list (R.map sv)) (.int (-1)) = some (sv d) := by
  have hp : 0 < R.length := by cases R with | nil => cases hR | cons => exact Nat.succ_pos _
  have e : ((R.length : Int) + -1).toNat = R.length - 1 := by omega
  show (if (R.map sv).length ≤ lid then (if (0 : Int) ≤ -1 then (R.map sv)[(-1 : Int).toNat]? else if -((R.map sv).length : Int) ≤ -1 then (R.map sv)[((R.map sv).length + (-1 : Int)).toNat]? else none) else none) = _
  rw [List.length_map, if_pos h, if_neg (by decide), if_pos (by omega), e, List.getElem?_map, ← List.getLast?_eq_getElem?, hR]; rfl
theorem sv_str (x : List Nat) : PV.str (strOf x) = sv x := rfl
theorem sv_isS (x : List Nat) : (sv x).isS = false := rfl

noncomputable def normBody : List C := [.ite (.or_ [(.not_ (.var 8)), (.cmp .Eq (.var 8) (.var 2))]) [.cont] [],
    .ite (.or_ [(.cmp .NotEq (.var 8) (.var 3)), (.and_ [(.not_ (.var 5)), (.not_ (.var 7))]), (.and_ [(.var 7), (.cmp .Eq (.sub (.var 7) (.neg 1)) (.var 3))])]) [.app 7 (.var 8)] [.ite (.var 7) [.pop 7] []]]
noncomputable abbrev nS (p e cs : PV) (root : List Nat) (c : Slot) (ms : List MCell) (R : List (List Nat)) : St := ⟨[.val p, .val (sv [47]), .val (sv [46]), .val (sv dd), .val e, .val (sv root), .val cs, .bld ms.length, c], ms ++ [.lst (R.map sv)]⟩
theorem norm_body {Φ : Fns} {γ : String → Option PV} {p e cs : PV} {root c : List Nat} {R : List (List Nat)} {ms : List MCell} (hc : c.length ≤ lid) (hr : root.length ≤ lid) (hR : R.length + 1 ≤ lid) :
    exs Φ γ normBody (nS p e cs root (.val (sv c)) ms R) = some (if c = [] ∨ c = [46] then .cont else .next, nS p e cs root (.val (sv c)) ms (stepN (decide (root ≠ [])) R c)) := by
  have hR' : R.length ≤ lid := Nat.le_of_succ_le hR
  have hRm : (R.map sv).length ≤ lid := by rw [List.length_map]; exact hR'
  have tR : truthV (.list (R.map sv)) = some (decide (R ≠ [])) := by rw [truth_lst hRm]; cases R <;> rfl
  have gl := get_last ms (MCell.lst (R.map sv))
  generalize hs : nS p e cs root (.val (sv c)) ms R = s
  have s8 : s.loc[8]? = some (.val (sv c)) := by rw [← hs]; rfl
  have s2 : s.loc[2]? = some (.val (sv [46])) := by rw [← hs]; rfl
  have s3 : s.loc[3]? = some (.val (sv dd)) := by rw [← hs]; rfl
  have s5 : s.loc[5]? = some (.val (sv root)) := by rw [← hs]; rfl
  have s7 : s.loc[7]? = some (.bld ms.length) := by rw [← hs]; rfl
  have sm : s.mem[ms.length]? = some (.lst (R.map sv)) := by rw [← hs]; exact gl
  have n8 : evT Φ γ (.not_ (.var 8)) s = some (!decide (c ≠ []), s) := qnotT (qvarT s8 (truth_sv hc))
  have k1 : evT Φ γ (.cmp .Eq (.var 8) (.var 2)) s = some (decide (c = [46]), s) := qcmpT (qvar s8) (qvar s2) (cmp_eq _ _)
  by_cases h1 : c = [] ∨ c = [46]
  · rw [if_pos h1, show stepN (decide (root ≠ [])) R c = R from if_pos h1, hs]
    refine exs_stop ((ex_ite_t ?_).trans (exs_one rfl)) (fun e => by cases e)
    by_cases h2 : c = []
    · rw [decide_eq_false (not_not_intro h2)] at n8; exact qor2t n8
    · rw [decide_eq_true h2] at n8; rw [decide_eq_true (h1.resolve_left h2)] at k1; exact qor2 n8 k1
  · obtain ⟨h2, h3⟩ := not_or.mp h1
    rw [decide_eq_true h2] at n8; rw [decide_eq_false h3] at k1
    have e1 : ex Φ γ (.ite (.or_ [.not_ (.var 8), .cmp .Eq (.var 8) (.var 2)]) [.cont] []) s = some (.next, s) := (ex_ite_f (qor2 n8 k1)).trans exs_nil
    rw [if_neg h1]
    refine (exs_next e1).trans ?_
    have hA : evT Φ γ (.cmp .NotEq (.var 8) (.var 3)) s = some (decide (c ≠ dd), s) := qcmpT (qvar s8) (qvar s3) (cmp_ne _ _)
    have v7 : evT Φ γ (.var 7) s = some (decide (R ≠ []), s) := qvarTb s7 sm tR
    have v5 : evT Φ γ (.not_ (.var 5)) s = some (!decide (root ≠ []), s) := qnotT (qvarT s5 (truth_sv hr))
    have hB : evT Φ γ (.and_ [.not_ (.var 5), .not_ (.var 7)]) s = some (decide (decide (root ≠ []) = false ∧ R = []), s) := by
      by_cases q : root = []
      · have q' : decide (root ≠ []) = false := decide_eq_false (not_not_intro q)
        rw [q'] at v5 ⊢
        refine (qand2 v5 (qnotT v7)).trans ?_
        by_cases q2 : R = []
        · rw [decide_eq_false (not_not_intro q2), decide_eq_true ⟨rfl, q2⟩]; rfl
        · rw [decide_eq_true q2, decide_eq_false (fun h => q2 h.2)]; rfl
      · have q' : decide (root ≠ []) = true := decide_eq_true q
        rw [q'] at v5 ⊢
        rw [decide_eq_false (fun h => Bool.noConfusion h.1)]
        exact qand2f v5
    have hD : evT Φ γ (.and_ [.var 7, .cmp .Eq (.sub (.var 7) (.neg 1)) (.var 3)]) s = some (decide (R.getLast? = some dd), s) := by
      cases q : R.getLast? with
      | none =>
        rw [decide_eq_false (not_not_intro (List.getLast?_eq_none_iff.mp q))] at v7
        rw [decide_eq_false (fun e => by cases e)]
        exact qand2f v7
      | some d =>
        rw [decide_eq_true (show R ≠ [] from fun h => by rw [h] at q; cases q)] at v7
        refine (qand2 v7 (qcmpT (qsubb (y := .int (-1)) s7 rfl sm (item_last hR' q)) (qvar s3) (cmp_eq _ _))).trans ?_
        by_cases q2 : d = dd
        · rw [decide_eq_true q2, decide_eq_true (congrArg some q2)]
        · rw [decide_eq_false q2, decide_eq_false (fun h => q2 (Option.some.inj h))]
    have happ : ∀ τ, τ = s → exs Φ γ [.app 7 (.var 8)] τ = some (.next, nS p e cs root (.val (sv c)) ms (R ++ [c])) := fun τ e2 => by
      rw [e2]
      refine (exs_one (sapp s7 sm (qvar s8) sm (by rw [List.length_map]; exact hR) rfl)).trans ?_
      rw [← hs]
      show some (Fl.next, (⟨_, (ms ++ [_]).set ms.length _⟩ : St)) = _
      rw [set_last]; exact congrArg (fun l => some (Fl.next, (⟨_, ms ++ [.lst l]⟩ : St))) (List.map_append (f := sv) (l₁ := R) (l₂ := [c])).symm
    unfold stepN
    rw [if_neg h1]
    by_cases h4 : c ≠ dd ∨ (decide (root ≠ []) = false ∧ R = []) ∨ R.getLast? = some dd
    · rw [if_pos h4]
      refine exs_one ((ex_ite_t ?_).trans (happ s rfl))
      by_cases a : c ≠ dd
      · rw [decide_eq_true a] at hA; exact qor3t hA
      · rw [decide_eq_false a] at hA
        refine qor3 hA ?_
        by_cases b : decide (root ≠ []) = false ∧ R = []
        · rw [decide_eq_true b] at hB; exact qor2t hB
        · rw [decide_eq_false b] at hB
          rw [decide_eq_true ((h4.resolve_left a).resolve_left b)] at hD
          exact qor2 hB hD
    · rw [if_neg h4]
      obtain ⟨a, h4⟩ := not_or.mp h4
      obtain ⟨b, d⟩ := not_or.mp h4
      rw [decide_eq_false a] at hA; rw [decide_eq_false b] at hB; rw [decide_eq_false d] at hD
      refine exs_one ((ex_ite_f (qor3 hA (qor2 hB hD))).trans (exs_one ?_))
      cases q : R.getLast? with
      | none =>
        have q := List.getLast?_eq_none_iff.mp q
        rw [decide_eq_false (not_not_intro q)] at v7
        refine (ex_ite_f v7).trans ?_
        rw [← hs, q]; rfl
      | some x =>
        rw [decide_eq_true (show R ≠ [] from fun h => by rw [h] at q; cases q)] at v7
        have q2 : (R.map sv).getLast? = some (.str (strOf x)) := by rw [List.getLast?_map, q]; rfl
        refine (ex_ite_t v7).trans ((exs_one (spop s7 sm q2 hRm)).trans ?_)
        rw [← hs]
        show some (Fl.next, (⟨_, (ms ++ [_]).set ms.length _⟩ : St)) = _
        rw [set_last]; exact congrArg (fun l => some (Fl.next, (⟨_, ms ++ [.lst l]⟩ : St))) (List.map_dropLast (f := sv) (l := R)).symm

theorem stepN_len (ab : Bool) (R : List (List Nat)) (c : List Nat) : (stepN ab R c).length ≤ R.length + 1 := by
  unfold stepN
  split
  · omega
  · split
    · simp
    · simp; omega
theorem stepN_sub (ab : Bool) (R : List (List Nat)) (c x : List Nat) (h : x ∈ stepN ab R c) : x ∈ R ∨ x = c := by
  unfold stepN at h
  split at h
  · exact .inl h
  · split at h
    · simpa using h
    · exact .inl ((List.dropLast_sublist _).subset h)
theorem foldN_len (ab : Bool) : ∀ (L R : List (List Nat)), (L.foldl (stepN ab) R).length ≤ R.length + L.length
  | [], R => by simp
  | c :: L, R => by
    have h1 := foldN_len ab L (stepN ab R c)
    have h2 := stepN_len ab R c
    simp only [List.foldl_cons, List.length_cons]; omega
theorem foldN_sub (ab : Bool) : ∀ (L R : List (List Nat)) (x : List Nat), x ∈ L.foldl (stepN ab) R → x ∈ R ∨ x ∈ L
  | [], R, x, h => .inl h
  | c :: L, R, x, h => by
    rcases foldN_sub ab L (stepN ab R c) x h with h | h
    · rcases stepN_sub ab R c x h with h | rfl
      · exact .inl h
      · exact .inr (List.mem_cons_self ..)
    · exact .inr (List.mem_cons_of_mem _ h)
theorem splitL_len : ∀ x : List Nat, (splitL x).length ≤ x.length + 1
  | [] => by simp [splitL]
  | c :: r => by
    have ih := splitL_len r
    unfold splitL
    split
    · simp; omega
    · split
      · simp
      · rename_i e; rw [e] at ih; simp at ih ⊢; omega
theorem splitL_short : ∀ (x : List Nat), ∀ p ∈ splitL x, p.length ≤ x.length
  | [], p, h => by simp [splitL] at h; simp [h]
  | c :: r, p, h => by
    have ih := splitL_short r
    unfold splitL at h
    split at h
    · rcases List.mem_cons.mp h with rfl | h
      · simp
      · have := ih p h; simp; omega
    · split at h
      · simp at h; simp [h]
      · rename_i e
        rw [e] at ih
        rcases List.mem_cons.mp h with rfl | h
        · have := ih _ (List.mem_cons_self ..); simp; omega
        · have := ih p (List.mem_cons_of_mem _ h); simp; omega
theorem joinS_len {B : Nat} : ∀ (cs : List (List Nat)), (∀ c ∈ cs, c.length ≤ B) → (joinS cs).length ≤ cs.length * (B + 1)
  | [], _ => by simp [joinS]
  | [x], h => by
    have := h x (List.mem_cons_self ..)
    simp [joinS]; omega
  | x :: y :: r, h => by
    have h1 := h x (List.mem_cons_self ..)
    have h2 := joinS_len (y :: r) fun c hc => h c (List.mem_cons_of_mem _ hc)
    rw [joinS_cons x (by simp)]
    simp only [List.length_append, List.length_cons, Nat.succ_mul] at h2 ⊢
    omega

theorem norm_loop {Φ : Fns} {γ : String → Option PV} {p e cs : PV} {root : List Nat} {ms : List MCell} (hr : root.length ≤ lid) : ∀ (L R : List (List Nat)) (s8 : Slot), (∀ c ∈ L, c.length ≤ lid) → R.length + L.length ≤ lid →
    ∃ s8', forL (setV 8) (exs Φ γ normBody) (fun τ => some (.next, τ)) (L.map sv) (nS p e cs root s8 ms R) = some (.next, nS p e cs root s8' ms (L.foldl (stepN (decide (root ≠ []))) R))
  | [], R, s8, _, _ => ⟨s8, rfl⟩
  | c :: L, R, s8, hL, hn => by
    rw [List.length_cons] at hn
    have hl := stepN_len (decide (root ≠ [])) R c
    obtain ⟨s', ih⟩ := norm_loop (Φ := Φ) (γ := γ) (p := p) (e := e) (cs := cs) (ms := ms) hr L (stepN (decide (root ≠ [])) R c) (.val (sv c)) (fun x hx => hL x (List.mem_cons_of_mem _ hx)) (by omega)
    have hb := norm_body (Φ := Φ) (γ := γ) (p := p) (e := e) (cs := cs) (ms := ms) (hL c (List.mem_cons_self ..)) hr (R := R) (by omega)
    refine ⟨s', Eq.trans ?_ ih⟩
    by_cases h : c = [] ∨ c = [46]
    · rw [if_pos h] at hb; exact forL_cont rfl hb
    · rw [if_neg h] at hb; exact forL_next rfl hb

theorem strs_map : ∀ cs : List (List Nat), strsOf (cs.map sv) = some (cs.map strOf)
  | [] => rfl
  | c :: cs => mpd (strs_map cs) rfl
theorem joinG {sep : List Nat} {cs : List (List Nat)} (h0 : sep.length ≤ 1) (h1 : cs.length ≤ 1000) (h2 : ∀ c ∈ cs, c.length ≤ 1000) : mfV .join (sv sep) [.list (cs.map sv)] = some (.str (Txt.join (strOf sep) (cs.map strOf))) := by
  show ((strsOf (cs.map sv)).bind fun ss => if (strOf sep).length ≤ 1 ∧ ss.length ≤ 1000 ∧ (ss.all fun s => decide (s.length ≤ 1000)) = true then some (PV.str (Txt.join (strOf sep) ss)) else none) = _
  refine bnd (strs_map cs) (if_pos ⟨by rw [strOf_len]; exact h0, by rw [List.length_map]; exact h1, List.all_eq_true.mpr fun s hs => ?_⟩)
  obtain ⟨c, hc, rfl⟩ := List.mem_map.mp hs
  rw [strOf_len]; exact decide_eq_true (h2 c hc)
theorem joinM {cs : List (List Nat)} (h1 : cs.length ≤ 1000) (h2 : ∀ c ∈ cs, c.length ≤ 1000) : mfV .join (sv [47]) [.list (cs.map sv)] = some (sv (joinS cs)) := by
  rw [joinG (by decide) h1 h2, join_eq]; rfl
noncomputable def gNorm (xs : List PV) (ms : List MCell) : Option (PV × List MCell) := oneS xs fun x => if x.length ≤ 900 then some (sv (normL x.cps.toList), ms) else none
theorem rootL_len (x : List Nat) : (rootL x).1.length ≤ 2 ∧ (rootL x).2.length ≤ x.length := by
  unfold rootL
  split
  · simp
  · split
    · simp
    · simp; omega
theorem orDot_eq (x : List Nat) (h : x.length ≤ lid) {Φ : Fns} {γ : String → Option PV} {τ : St} {i j : Nat} (hi : τ.loc[i]? = some (.val (sv x))) (hj : τ.loc[j]? = some (.val (sv [46]))) : ev Φ γ (.or_ [.var i, .var j]) τ = some (sv (orDot x), τ) := by
  have t := truth_sv h
  unfold orDot
  by_cases hx : x = []
  · rw [decide_eq_false (not_not_intro hx)] at t
    rw [if_pos hx]; exact qor_f (qvar hi) t (qvar hj)
  · rw [decide_eq_true hx] at t
    rw [if_neg hx]; exact qor_t (qvar hi) t
theorem root_sv {l : List Nat} {ms : List MCell} (hlid : l.length ≤ lid) : gRoot [sv l] ms = some (.tup [sv [], sv (rootL l).1, sv (rootL l).2], ms) := by
  show (if (strOf l).length ≤ lid then some (PV.tup [.str emptyS, .str (rootS (strOf l)).1, .str (rootS (strOf l)).2], ms) else none) = _
  rw [strOf_len, if_pos hlid, rootS_eq]; rfl
theorem split_sv {x : List Nat} (h : x.length ≤ lid) : mfV .split (sv x) [sv [47]] = some (.list ((splitL x).map sv)) := by
  show (if (strOf [47]).length = 1 ∧ (strOf x).length ≤ lid then some (PV.list ((Txt.split (strOf x) (strOf [47])).map .str)) else none) = _
  rw [strOf_len, strOf_len, if_pos ⟨rfl, h⟩, split_eq, List.map_map]; rfl
theorem norm_spec {Φ : Fns} (h1 : Φ "fspath" = some gFspath) (h2 : Φ "splitroot" = some gRoot) : ∀ xs ms r, gNorm xs ms = some r → gRun Φ γ0 1 n_normpath.length c_normpath xs ms = some r := by
  intro xs ms r h
  obtain ⟨x, rfl, h⟩ := oneS_inv h
  obtain ⟨hx, e⟩ := gd_inv h
  subst e; clear h
  obtain ⟨l, rfl⟩ : ∃ l, x = strOf l := ⟨_, (strOf_of x).symm⟩
  rw [strOf_toList]
  have hl : l.length ≤ 900 := by rw [strOf_len] at hx; exact hx
  have hlid : l.length ≤ lid := Nat.le_trans hl (by decide)
  have t0 := truth_sv hlid
  obtain ⟨q1, q2⟩ := rootL_len l
  have l9 : ∀ a b c d e f g h i : Slot, ∀ n, n < 9 → n < [a, b, c, d, e, f, g, h, i].length := fun _ _ _ _ _ _ _ _ _ _ h => h
  have e1 : ex Φ γ0 (.assign 0 (.call "fspath" [(.var 0)])) (startSt 9 [sv l] ms) = some (.next, startSt 9 [sv l] ms) := sasg (qcall1 h1 (qvar rfl) rfl) (by exact (by decide : 0 < 9)) rfl
  have e2 : ex Φ γ0 (.ite (.bf .isinstance [(.var 0), (.gl "bytes")]) [.any, .any, .any] [.assign 1 (.str [47]), .assign 2 (.str [46]), .assign 3 (.str [46, 46])]) (startSt 9 [sv l] ms) =
      some (.next, ⟨[.val (sv l), .val (sv [47]), .val (sv [46]), .val (sv dd), .unset, .unset, .unset, .unset, .unset], ms⟩) :=
    (ex_ite_f (qbf2T (qvar rfl) (qgl rfl) isin_f rfl)).trans ((exs_next (sstr (by exact (by decide : 1 < 9)))).trans ((exs_next (sstr (by exact (by decide : 2 < 9)))).trans (exs_one (sstr (by exact (by decide : 3 < 9))))))
  show gRun Φ γ0 1 9 c_normpath [sv l] ms = _
  by_cases hn : l = []
  · rw [decide_eq_false (not_not_intro hn)] at t0
    have e3 : ex Φ γ0 (.ite (.not_ (.var 0)) [.ret (.var 2)] []) ⟨[.val (sv l), .val (sv [47]), .val (sv [46]), .val (sv dd), .unset, .unset, .unset, .unset, .unset], ms⟩ = some (.ret (sv [46]), ⟨[.val (sv l), .val (sv [47]), .val (sv [46]), .val (sv dd), .unset, .unset, .unset, .unset, .unset], ms⟩) :=
      (ex_ite_t (qnotT (qvarT rfl t0))).trans (exs_one (sret (qvar rfl)))
    rw [run_ret (np := 1) (n := 9) (cs := c_normpath) rfl ((exs_next e1).trans ((exs_next e2).trans (exs_ret e3))) rfl, List.take_length, hn]
    rfl
  rw [decide_eq_true hn] at t0
  have e3 : ex Φ γ0 (.ite (.not_ (.var 0)) [.ret (.var 2)] []) ⟨[.val (sv l), .val (sv [47]), .val (sv [46]), .val (sv dd), .unset, .unset, .unset, .unset, .unset], ms⟩ = some (.next, ⟨[.val (sv l), .val (sv [47]), .val (sv [46]), .val (sv dd), .unset, .unset, .unset, .unset, .unset], ms⟩) :=
    (ex_ite_f (qnotT (qvarT rfl t0))).trans exs_nil
  have e4 : ex Φ γ0 (.assignT [4, 5, 0] (.call "splitroot" [(.var 0)])) ⟨[.val (sv l), .val (sv [47]), .val (sv [46]), .val (sv dd), .unset, .unset, .unset, .unset, .unset], ms⟩ =
      some (.next, ⟨[.val (sv (rootL l).2), .val (sv [47]), .val (sv [46]), .val (sv dd), .val (sv []), .val (sv (rootL l).1), .unset, .unset, .unset], ms⟩) := sasgT (qcall1 h2 (qvar rfl) (root_sv hlid)) rfl
  have q3 : (rootL l).2.length ≤ 900 := Nat.le_trans q2 hl
  have hsp := split_sv (Nat.le_trans q3 (by decide : 900 ≤ lid))
  have hL1 : (splitL (rootL l).2).length ≤ 901 := Nat.le_trans (splitL_len _) (Nat.succ_le_succ q3)
  have hL2 : ∀ c ∈ splitL (rootL l).2, c.length ≤ 900 := fun c hc => Nat.le_trans (splitL_short _ c hc) q3
  have hno : normL l = orDot ((rootL l).1 ++ joinS ((splitL (rootL l).2).foldl (stepN (decide ((rootL l).1 ≠ []))) [])) := if_neg hn
  rw [hno]
  generalize splitL (rootL l).2 = L at hsp hL1 hL2 ⊢
  generalize (rootL l).1 = root at q1 e4 ⊢
  generalize (rootL l).2 = fr at e4 hsp
  have e5 : ex Φ γ0 (.assign 6 (.mf .split (.var 0) [(.var 1)])) ⟨[.val (sv fr), .val (sv [47]), .val (sv [46]), .val (sv dd), .val (sv []), .val (sv root), .unset, .unset, .unset], ms⟩ =
      some (.next, ⟨[.val (sv fr), .val (sv [47]), .val (sv [46]), .val (sv dd), .val (sv []), .val (sv root), .val (.list (L.map sv)), .unset, .unset], ms⟩) := sasg (qmf1 (qvar rfl) (qvar rfl) hsp) (by exact (by decide : 6 < 9)) rfl
  have e6 : ex Φ γ0 (.assign 7 (.lst [])) ⟨[.val (sv fr), .val (sv [47]), .val (sv [46]), .val (sv dd), .val (sv []), .val (sv root), .val (.list (L.map sv)), .unset, .unset], ms⟩ =
      some (.next, nS (sv fr) (sv []) (.list (L.map sv)) root .unset ms []) := snew qnil (by exact (by decide : 7 < 9)) (by decide : 0 ≤ lid) rfl
  have hroot2 : root.length ≤ lid := Nat.le_trans q1 (by decide)
  obtain ⟨s8, hloop⟩ := norm_loop (Φ := Φ) (γ := γ0) (p := sv fr) (e := sv []) (cs := .list (L.map sv)) (ms := ms) hroot2 L [] .unset (fun c hc => Nat.le_trans (hL2 c hc) (by decide)) (by rw [List.length_nil, Nat.zero_add]; exact Nat.le_trans hL1 (by decide))
  have hR1 := foldN_len (decide (root ≠ [])) L []
  have hR2 := foldN_sub (decide (root ≠ [])) L []
  generalize L.foldl (stepN (decide (root ≠ []))) [] = R at hloop hR1 hR2 ⊢
  have hR3 : ∀ c ∈ R, c.length ≤ 900 := fun c hc => hL2 c ((hR2 c hc).resolve_left List.not_mem_nil)
  rw [List.length_nil, Nat.zero_add] at hR1
  have e7 : ex Φ γ0 (.for_ 8 (.var 6) normBody) (nS (sv fr) (sv []) (.list (L.map sv)) root .unset ms []) = some (.next, nS (sv fr) (sv []) (.list (L.map sv)) root s8 ms R) :=
    ex_for (qvar rfl) (gd (by rw [List.length_map]; exact Nat.le_trans hL1 (by decide))) hloop
  have e8 : ex Φ γ0 (.assign 6 (.var 7)) (nS (sv fr) (sv []) (.list (L.map sv)) root s8 ms R) =
      some (.next, ⟨[.val (sv fr), .val (sv [47]), .val (sv [46]), .val (sv dd), .val (sv []), .val (sv root), .val (.list (R.map sv)), .val (.list (R.map sv)), s8], ms ++ [.dead]⟩) := by
    refine (sasg (qfreeze rfl (get_last ms _)) (by exact (by decide : 6 < 9)) rfl).trans ?_
    show some (Fl.next, (⟨_, (ms ++ [_]).set ms.length _⟩ : St)) = _
    rw [set_last]; rfl
  have hj : (joinS R).length ≤ 901 * 901 := Nat.le_trans (joinS_len R hR3) (Nat.mul_le_mul (Nat.le_trans hR1 hL1) (Nat.le_refl _))
  have hadd : root.length + (joinS R).length ≤ lid := Nat.le_trans (Nat.add_le_add q1 hj) (by decide)
  have e9 : ex Φ γ0 (.assign 0 (.bin .Add (.var 5) (.mf .join (.var 1) [(.var 6)]))) ⟨[.val (sv fr), .val (sv [47]), .val (sv [46]), .val (sv dd), .val (sv []), .val (sv root), .val (.list (R.map sv)), .val (.list (R.map sv)), s8], ms ++ [.dead]⟩ =
      some (.next, ⟨[.val (sv (root ++ joinS R)), .val (sv [47]), .val (sv [46]), .val (sv dd), .val (sv []), .val (sv root), .val (.list (R.map sv)), .val (.list (R.map sv)), s8], ms ++ [.dead]⟩) :=
    sasg (qbin (qvar rfl) (qmf1 (qvar rfl) (qvar rfl) (joinM (Nat.le_trans (Nat.le_trans hR1 hL1) (by decide)) fun c hc => Nat.le_trans (hR3 c hc) (by decide))) (add_sv hadd)) (by exact (by decide : 0 < 9)) rfl
  have e10 : ex Φ γ0 (.ret (.or_ [(.var 0), (.var 2)])) ⟨[.val (sv (root ++ joinS R)), .val (sv [47]), .val (sv [46]), .val (sv dd), .val (sv []), .val (sv root), .val (.list (R.map sv)), .val (.list (R.map sv)), s8], ms ++ [.dead]⟩ =
      some (.ret (sv (orDot (root ++ joinS R))), ⟨[.val (sv (root ++ joinS R)), .val (sv [47]), .val (sv [46]), .val (sv dd), .val (sv []), .val (sv root), .val (.list (R.map sv)), .val (.list (R.map sv)), s8], ms ++ [.dead]⟩) :=
    sret (orDot_eq (root ++ joinS R) (by rw [List.length_append]; exact hadd) rfl rfl)
  rw [run_ret (np := 1) (n := 9) (cs := c_normpath) rfl ((exs_next e1).trans ((exs_next e2).trans ((exs_next e3).trans ((exs_next e4).trans ((exs_next e5).trans ((exs_next e6).trans ((exs_next e7).trans ((exs_next e8).trans ((exs_next e9).trans (exs_ret e10)))))))))) rfl]
  show some (_, (ms ++ [MCell.dead]).take ms.length) = _
  rw [List.take_left]
/-- a string that grows -/
theorem saug {Φ : Fns} {γ : String → Option PV} {τ τ1 : St} {i : Nat} {e : X} {x y : List Nat} (h : τ.loc[i]? = some (.val (sv x))) (he : ev Φ γ e τ = some (sv y, τ1)) (hl : x.length + y.length ≤ lid) (hi : i < τ1.loc.length) :
    ex Φ γ (.aug i .Add e) τ = some (.next, ⟨τ1.loc.set i (.val (sv (x ++ y))), τ1.mem⟩) := by
  have := saugs h he (by rw [strOf_len, strOf_len]; exact hl) hi
  rw [strOf_append] at this; exact this
end Mine
end
noncomputable section
open PySem PySem.W PyProof.Rows PySem.Calls
set_option Elab.async false
set_option linter.unusedVariables false
set_option linter.unusedSimpArgs false
set_option maxRecDepth 100000
namespace Mine
/-! join and split -/
theorem rfind_eq (pre nm : List Nat) (h : Free nm) : Txt.rfind (strOf (pre ++ 47 :: nm)) (strOf [47]) = (pre.length : Int) := by
  unfold Txt.rfind
  have at_iff : ∀ i, StrLaws.At (strOf (pre ++ 47 :: nm)) (strOf [47]) (strOf (pre ++ 47 :: nm)).length i ↔ (pre ++ 47 :: nm)[i]? = some 47 := fun i => by
    have := StrLaws.subAt_one (strOf (pre ++ 47 :: nm)) 47 i
    rw [strOf_toList] at this; exact this
  have h0 : (pre ++ 47 :: nm)[pre.length]? = some 47 := by simp
  have h1 : ∀ k, pre.length < k → (pre ++ 47 :: nm)[k]? ≠ some 47 := fun k hk e => by
    rw [List.getElem?_append_right (by omega), List.getElem?_cons, if_neg (by omega)] at e
    exact h (List.mem_of_getElem? e)
  rcases StrLaws.last_spec (strOf (pre ++ 47 :: nm)) (strOf [47]) with ⟨_, e⟩ | ⟨i, e1, e2, e3⟩
  · exact absurd ((at_iff _).mpr h0) (e _)
  · rw [e1]
    have a1 : ¬ pre.length < i := fun hlt => h1 i hlt ((at_iff i).mp e2)
    have a2 : ¬ i < pre.length := fun hlt => e3 _ hlt ((at_iff _).mpr h0)
    have : i = pre.length := by omega
    simp [this]
theorem rstrip_eq {pre : List Nat} (h : pre.getLast? ≠ some 47) : Txt.rstripChars (strOf (pre ++ [47])) (strOf [47]) = strOf pre := by
  unfold Txt.rstripChars
  rw [PyProof.Rows.stripBy_eq]
  have e1 : stripLo (strOf [47]).cps.contains false (strOf (pre ++ [47])) = 0 := rfl
  have e2 : stripHi (strOf [47]).cps.contains true (strOf (pre ++ [47])) 0 = pre.length := by
    unfold stripHi
    rw [if_pos rfl, strOf_toList, strOf_len]
    have c1 : (strOf [47]).cps.contains 47 = true := by simp [strOf]
    have : ((List.drop 0 (pre ++ [47])).reverse.takeWhile (strOf [47]).cps.contains) = [47] := by
      rw [List.drop_zero, List.reverse_append, List.reverse_singleton, List.singleton_append, List.takeWhile_cons, c1, if_pos rfl]
      congr 1
      cases hr : pre.reverse with
      | nil => rfl
      | cons a r =>
        have ha : a ≠ 47 := fun e => by
          apply h
          have : pre = r.reverse ++ [a] := by have := congrArg List.reverse hr; simpa using this
          rw [this, e]; simp
        rw [List.takeWhile_cons]
        have : (strOf [47]).cps.contains a = false := by simp [strOf, ha]
        rw [this]; simp
    rw [this]; simp
  rw [e1, e2]
  exact Str.ext' (by apply Array.toList_inj.mp; rw [StrLaws.strSub_toList]; simp [strOf])

noncomputable def gJoin (xs : List PV) (ms : List MCell) : Option (PV × List MCell) := (two xs).bind fun q => (sOf q.1).bind fun a => (sOf q.2).bind fun b => if a.length + b.length ≤ 1000 then some (sv (joinP a.cps.toList b.cps.toList), ms) else none
theorem starts_sv (m : List Nat) : mfV .startswith (sv m) [sv [47]] = some (.bool (decide (m.take 1 = [47]))) := congrArg (fun b => some (PV.bool b)) (startswith_eq m)
theorem ends_sv (l : List Nat) : mfV .endswith (sv l) [sv [47]] = some (.bool (decide (l.getLast? = some 47))) := congrArg (fun b => some (PV.bool b)) (endswith_eq l)
theorem ltb {n : Nat} {a b c d e : Slot} (h : n < 5) : n < [a, b, c, d, e].length := h
theorem join_turn {Φ : Fns} (h1 : Φ "fspath" = some gFspath) {l m : List Nat} {ms : List MCell} (hx : l.length + m.length ≤ 1000) : exs Φ γ0
      [.assign 4 (.call "fspath" [(.var 4)]),
      .ite (.or_ [(.mf .startswith (.var 4) [(.var 2)]), (.not_ (.var 3))]) [.assign 3 (.var 4)] [.ite (.mf .endswith (.var 3) [(.var 2)]) [.aug 3 .Add (.var 4)] [.aug 3 .Add (.bin .Add (.var 2) (.var 4))]]]
      ⟨[.val (sv l), .val (.tup [sv m]), .val (sv [47]), .val (sv l), .val (sv m)], ms⟩ = some (.next, ⟨[.val (sv l), .val (.tup [sv m]), .val (sv [47]), .val (sv (joinP l m)), .val (sv m)], ms⟩) := by
  have t := truth_sv (x := l) (Nat.le_trans (Nat.le_trans (Nat.le_add_right _ _) hx) (by decide))
  have s1 := starts_sv m
  have s2 := ends_sv l
  have a1 : l.length + m.length ≤ lid := Nat.le_trans hx (by decide)
  have a2 : l.length + ([47] ++ m).length ≤ lid := Nat.le_trans (show l.length + (m.length + 1) ≤ 1001 by omega) (by decide : 1001 ≤ lid)
  have a4 := add_sv (a := [47]) (b := m) (Nat.le_trans (show 1 + m.length ≤ 1001 by omega) (by decide : 1001 ≤ lid))
  refine (exs_next (sasg (qcall1 h1 (qvar rfl) rfl) (by exact (by decide : 4 < 5)) rfl)).trans (exs_one ?_)
  unfold joinP
  have v4 : ev Φ γ0 (.var 4) ⟨[.val (sv l), .val (.tup [sv m]), .val (sv [47]), .val (sv l), .val (sv m)], ms⟩ = some (sv m, ⟨[.val (sv l), .val (.tup [sv m]), .val (sv [47]), .val (sv l), .val (sv m)], ms⟩) := qvar rfl
  have k1 : evT Φ γ0 (.mf .startswith (.var 4) [(.var 2)]) ⟨[.val (sv l), .val (.tup [sv m]), .val (sv [47]), .val (sv l), .val (sv m)], ms⟩ = some (decide (m.take 1 = [47]), ⟨[.val (sv l), .val (.tup [sv m]), .val (sv [47]), .val (sv l), .val (sv m)], ms⟩) := qmf1T v4 (qvar rfl) s1 rfl
  have k2 : evT Φ γ0 (.not_ (.var 3)) ⟨[.val (sv l), .val (.tup [sv m]), .val (sv [47]), .val (sv l), .val (sv m)], ms⟩ = some (!decide (l ≠ []), ⟨[.val (sv l), .val (.tup [sv m]), .val (sv [47]), .val (sv l), .val (sv m)], ms⟩) := qnotT (qvarT rfl t)
  by_cases c1 : m.take 1 = [47]
  · rw [decide_eq_true c1] at k1
    rw [if_pos (.inl c1)]
    exact (ex_ite_t (qor2t k1)).trans (exs_one (sasg v4 (by exact (by decide : 3 < 5)) rfl))
  rw [decide_eq_false c1] at k1
  by_cases c2 : l = []
  · rw [decide_eq_false (not_not_intro c2)] at k2
    rw [if_pos (.inr c2)]
    exact (ex_ite_t (qor2 k1 k2)).trans (exs_one (sasg v4 (by exact (by decide : 3 < 5)) rfl))
  rw [decide_eq_true c2] at k2
  rw [if_neg (not_or.mpr ⟨c1, c2⟩)]
  refine (ex_ite_f (qor2 k1 k2)).trans (exs_one ?_)
  by_cases c3 : l.getLast? = some 47
  · rw [decide_eq_true c3] at s2
    rw [if_pos c3]
    exact (ex_ite_t (qmf1T (qvar rfl) (qvar rfl) s2 rfl)).trans (exs_one (saug rfl v4 a1 (by exact (by decide : 3 < 5))))
  · rw [decide_eq_false c3] at s2
    rw [if_neg c3]
    exact (ex_ite_f (qmf1T (qvar rfl) (qvar rfl) s2 rfl)).trans (exs_one (saug rfl (qbin (qvar rfl) v4 a4) a2 (by exact (by decide : 3 < 5))))
theorem join_spec {Φ : Fns} (h1 : Φ "fspath" = some gFspath) (h2 : Φ "_get_sep" = some gSep) : ∀ xs ms r, gJoin xs ms = some r → gVa Φ γ0 n_join.length c_join xs ms = some r := by
  intro xs ms r h
  obtain ⟨a, b, rfl, h⟩ : ∃ a b, xs = [.str a, .str b] ∧ (if a.length + b.length ≤ 1000 then some (sv (joinP a.cps.toList b.cps.toList), ms) else none) = some r := by
    refine bdk h fun q h1 h => bdk h fun a h2 h => bdk h fun b h3 h => ?_
    exact ⟨a, b, by rw [two_inv h1, sOf_inv h2, sOf_inv h3], h⟩
  obtain ⟨hx, e⟩ := gd_inv h
  subst e; clear h
  obtain ⟨l, rfl⟩ : ∃ l, a = strOf l := ⟨_, (strOf_of a).symm⟩
  obtain ⟨m, rfl⟩ : ∃ l, b = strOf l := ⟨_, (strOf_of b).symm⟩
  rw [strOf_toList, strOf_toList]
  rw [strOf_len, strOf_len] at hx
  show gVa Φ γ0 5 c_join [sv l, sv m] ms = _
  have e1 : ex Φ γ0 (.assign 0 (.call "fspath" [(.var 0)])) (startSt 5 [sv l, .tup [sv m]] ms) = some (.next, startSt 5 [sv l, .tup [sv m]] ms) := sasg (qcall1 h1 (qvar rfl) rfl) (by exact (by decide : 0 < 5)) rfl
  have e2 : ex Φ γ0 (.assign 2 (.call "_get_sep" [(.var 0)])) (startSt 5 [sv l, .tup [sv m]] ms) = some (.next, ⟨[.val (sv l), .val (.tup [sv m]), .val (sv [47]), .unset, .unset], ms⟩) := sasg (qcall1 h2 (qvar rfl) rfl) (by exact (by decide : 2 < 5)) rfl
  have e3 : ex Φ γ0 (.assign 3 (.var 0)) ⟨[.val (sv l), .val (.tup [sv m]), .val (sv [47]), .unset, .unset], ms⟩ = some (.next, ⟨[.val (sv l), .val (.tup [sv m]), .val (sv [47]), .val (sv l), .unset], ms⟩) := sasg (qvar rfl) (by exact (by decide : 3 < 5)) rfl
  have e4 := exs_one (Φ := Φ) (γ := γ0) (ex_for (τ := ⟨[.val (sv l), .val (.tup [sv m]), .val (sv [47]), .val (sv l), .unset], ms⟩) (i := 4) (it := .var 1) (y := .tup [sv m]) rfl rfl ((forL_next rfl (join_turn h1 hx)).trans rfl))
  have key : exs Φ γ0 c_join (startSt 5 [sv l, .tup [sv m]] ms) = some (.ret (sv (joinP l m)), ⟨[.val (sv l), .val (.tup [sv m]), .val (sv [47]), .val (sv (joinP l m)), .val (sv m)], ms⟩) :=
    (exs_next e1).trans ((exs_next e2).trans ((exs_next e3).trans ((exs_next (stry e4)).trans (exs_ret (sret (qvar rfl))))))
  unfold gVa
  show ((exs Φ γ0 c_join (startSt 5 [sv l, .tup [sv m]] ms)).bind _) = _
  rw [key]
  show some (sv (joinP l m), ms.take ms.length) = _
  rw [List.take_length]

/-- split of the way of a node -/
theorem split_run {Φ : Fns} (h1 : Φ "fspath" = some gFspath) (h2 : Φ "_get_sep" = some gSep) {pre nm : List Nat} {ms : List MCell} (hf : Free nm) (hp : pre.getLast? ≠ some 47) (hl : pre.length + nm.length ≤ 1000) :
    gRun Φ γ0 1 n_split.length c_split [sv (pre ++ 47 :: nm)] ms = some (.tup [sv (if pre = [] then [47] else pre), sv nm], ms) := by
  have L1 : (pre ++ 47 :: nm).length ≤ lid := Nat.le_trans (by simp; omega : _ ≤ 1001) (by decide)
  have gf : gFspath [sv (pre ++ 47 :: nm)] ms = some (sv (pre ++ 47 :: nm), ms) := rfl
  have gs : gSep [sv (pre ++ 47 :: nm)] ms = some (sv [47], ms) := rfl
  have e1 : ex Φ γ0 (.assign 0 (.call "fspath" [(.var 0)])) (startSt 5 [sv (pre ++ 47 :: nm)] ms) = some (.next, startSt 5 [sv (pre ++ 47 :: nm)] ms) := by
    exact sasg (qcall1 h1 (qvar rfl) gf) (by exact (by decide : 0 < 5)) rfl
  have e2 : ex Φ γ0 (.assign 1 (.call "_get_sep" [(.var 0)])) (startSt 5 [sv (pre ++ 47 :: nm)] ms) = some (.next, ⟨[.val (sv (pre ++ 47 :: nm)), .val (sv [47]), .unset, .unset, .unset], ms⟩) := by
    exact sasg (qcall1 h2 (qvar rfl) gs) (by exact (by decide : 1 < 5)) rfl
  have r1 : mfV .rfind (sv (pre ++ 47 :: nm)) [sv [47]] = some (.int (pre.length : Int)) := congrArg (fun i => some (PV.int i)) (rfind_eq pre nm hf)
  have e3 : ex Φ γ0 (.assign 2 (.bin .Add (.mf .rfind (.var 0) [(.var 1)]) (.int 1))) ⟨[.val (sv (pre ++ 47 :: nm)), .val (sv [47]), .unset, .unset, .unset], ms⟩ = some (.next, ⟨[.val (sv (pre ++ 47 :: nm)), .val (sv [47]), .val (.int ((pre.length + 1 : Nat) : Int)), .unset, .unset], ms⟩) := by
    exact sasg (qbin (qmf1 (qvar rfl) (qvar rfl) r1) qint (show binV .Add (.int pre.length) (.int 1) = some (.int ((pre.length + 1 : Nat) : Int)) from rfl)) (by exact (by decide : 2 < 5)) rfl
  have k1 : cutV (sv (pre ++ 47 :: nm)) none (some ((pre.length + 1 : Nat) : Int)) = some (sv (pre ++ [47])) := by
    have := cutV_to (x := strOf (pre ++ 47 :: nm)) (by rw [strOf_len]; exact L1) (pre.length + 1)
    rw [cutS_eq] at this
    rw [show sv (pre ++ 47 :: nm) = .str (strOf (pre ++ 47 :: nm)) from rfl, this, List.drop_zero, Nat.sub_zero, show pre ++ 47 :: nm = (pre ++ [47]) ++ nm by simp, List.take_left' (by simp)]; rfl
  have k2 : cutV (sv (pre ++ 47 :: nm)) (some ((pre.length + 1 : Nat) : Int)) none = some (sv nm) := by
    have := cutV_from (x := strOf (pre ++ 47 :: nm)) (by rw [strOf_len]; exact L1) (pre.length + 1)
    rw [fromS_eq] at this
    rw [show sv (pre ++ 47 :: nm) = .str (strOf (pre ++ 47 :: nm)) from rfl, this, show pre ++ 47 :: nm = (pre ++ [47]) ++ nm by simp, List.drop_left' (by simp)]; rfl
  have e4 : ex Φ γ0 (.assignT [3, 4] (.tup [(.slcTo (.var 0) (.var 2)), (.slcFrom (.var 0) (.var 2))])) ⟨[.val (sv (pre ++ 47 :: nm)), .val (sv [47]), .val (.int ((pre.length + 1 : Nat) : Int)), .unset, .unset], ms⟩ =
      some (.next, ⟨[.val (sv (pre ++ 47 :: nm)), .val (sv [47]), .val (.int ((pre.length + 1 : Nat) : Int)), .val (sv (pre ++ [47])), .val (sv nm)], ms⟩) := by
    exact sasgT (qtup (qcons (qslcTo rfl (qvar rfl) k1) (qcons (qslcFrom rfl (qvar rfl) k2) qnil)) (by exact (by decide : 2 ≤ lid)) rfl) rfl
  have t1 : truthV (sv (pre ++ [47])) = some true := by
    rw [truth_sv (Nat.le_trans (by simp; omega : _ ≤ 1001) (by decide))]; simp
  have ln : lenV (sv (pre ++ [47])) = some (.int ((pre.length + 1 : Nat) : Int)) := by
    have : (pre ++ [47]).length ≤ lid := Nat.le_trans (by simp; omega : _ ≤ 1001) (by decide)
    show (if (strOf (pre ++ [47])).length ≤ lid then some (PV.int (strOf (pre ++ [47])).length) else none) = _
    rw [strOf_len, if_pos this, List.length_append]; rfl
  have ml : binV .Mult (sv [47]) (.int ((pre.length + 1 : Nat) : Int)) = some (sv (List.replicate (pre.length + 1) 47)) := by
    have : ((pre.length + 1 : Nat) : Int) ≤ lid := Int.ofNat_le.mpr (Nat.le_trans (by omega : pre.length + 1 ≤ 1001) (by decide))
    exact (mul_str _ _).trans ((if_pos ⟨rfl, Int.natCast_nonneg _, this⟩).trans rfl)
  have cm : cmpV .NotEq (sv (pre ++ [47])) (sv (List.replicate (pre.length + 1) 47)) = some (decide (pre ≠ [])) := by
    rw [cmp_ne]
    by_cases h : pre = []
    · subst h; rfl
    · have : pre ++ [47] ≠ List.replicate (pre.length + 1) 47 := fun e => by
        obtain ⟨q, z, rfl⟩ : ∃ q z, pre = q ++ [z] := by
          rcases List.eq_nil_or_concat pre with e | ⟨R', d, e⟩
          · exact absurd e h
          · exact ⟨R', d, by simpa using e⟩
        have hm : z ∈ (q ++ [z]) ++ [47] := by simp
        rw [e] at hm
        have := (List.mem_replicate.mp hm).2
        exact hp (by simp [this])
      rw [decide_eq_true this, decide_eq_true h]
  have e5 : ex Φ γ0 (.ite (.and_ [(.var 3), (.cmp .NotEq (.var 3) (.bin .Mult (.var 1) (.len (.var 3))))]) [.assign 3 (.mf .rstrip (.var 3) [(.var 1)])] []) ⟨[.val (sv (pre ++ 47 :: nm)), .val (sv [47]), .val (.int ((pre.length + 1 : Nat) : Int)), .val (sv (pre ++ [47])), .val (sv nm)], ms⟩ =
      some (.next, ⟨[.val (sv (pre ++ 47 :: nm)), .val (sv [47]), .val (.int ((pre.length + 1 : Nat) : Int)), .val (sv (if pre = [] then [47] else pre)), .val (sv nm)], ms⟩) := by
    have q := qand2 (Φ := Φ) (γ := γ0) (τ := ⟨[.val (sv (pre ++ 47 :: nm)), .val (sv [47]), .val (.int ((pre.length + 1 : Nat) : Int)), .val (sv (pre ++ [47])), .val (sv nm)], ms⟩) (qvarT (i := 3) rfl t1) (qcmpT (qvar (i := 3) rfl) (qbin (qvar (i := 1) rfl) (qlen (i := 3) rfl ln) ml) cm)
    by_cases h : pre = []
    · rw [decide_eq_false (by simpa using h)] at q
      rw [ex_ite_f q, exs_nil]
      subst h; rfl
    · rw [decide_eq_true h] at q
      have rs : mfV .rstrip (sv (pre ++ [47])) [sv [47]] = some (sv pre) := by
        have : (pre ++ [47]).length ≤ lid := Nat.le_trans (by simp; omega : _ ≤ 1001) (by decide)
        show (if (strOf (pre ++ [47])).length ≤ lid then some (PV.str (Txt.rstripChars (strOf (pre ++ [47])) (strOf [47]))) else none) = _
        rw [strOf_len, if_pos this, rstrip_eq hp]; rfl
      rw [ex_ite_t q, if_neg h]
      exact exs_one (sasg (qmf1 (qvar (i := 3) rfl) (qvar (i := 1) rfl) rs) (by exact (by decide : 3 < 5)) rfl)
  have e6 : ex Φ γ0 (.ret (.tup [(.var 3), (.var 4)])) ⟨[.val (sv (pre ++ 47 :: nm)), .val (sv [47]), .val (.int ((pre.length + 1 : Nat) : Int)), .val (sv (if pre = [] then [47] else pre)), .val (sv nm)], ms⟩ =
      some (.ret (.tup [sv (if pre = [] then [47] else pre), sv nm]), ⟨[.val (sv (pre ++ 47 :: nm)), .val (sv [47]), .val (.int ((pre.length + 1 : Nat) : Int)), .val (sv (if pre = [] then [47] else pre)), .val (sv nm)], ms⟩) :=
    sret (qtup (qcons (qvar (i := 3) rfl) (qcons (qvar (i := 4) rfl) qnil)) (by exact (by decide : 2 ≤ lid)) rfl)
  show gRun Φ γ0 1 5 c_split _ ms = _
  rw [run_ret (np := 1) (n := 5) (cs := c_split) rfl ((exs_next e1).trans ((exs_next e2).trans ((exs_next e3).trans ((exs_next e4).trans ((exs_next e5).trans (exs_ret e6)))))) rfl, List.take_length]
end Mine
end
noncomputable section
open PySem PySem.W PyProof.Rows PySem.Calls
set_option Elab.async false
set_option linter.unusedVariables false
set_option linter.unusedSimpArgs false
set_option maxRecDepth 100000
namespace Mine
/-! filemode -/
theorem bitAnd_nat (a b : Nat) : Builtin.bitAnd (a : Int) (b : Int) = ((a &&& b : Nat) : Int) := by
  unfold Builtin.bitAnd
  rw [decide_eq_true (Int.natCast_nonneg a), decide_eq_true (Int.natCast_nonneg b)]; rfl
theorem xor_and (a : Nat) : ∀ b : Nat, (a ^^^ b) + 2 * (a &&& b) = a + b := by
  induction a using Nat.strongRecOn with
  | ind a ih =>
    intro b
    by_cases h0 : a = 0
    · subst h0; simp
    · have h1 := ih (a / 2) (by omega) (b / 2)
      have x1 : (a ^^^ b) / 2 = a / 2 ^^^ b / 2 := Nat.xor_div_two
      have x2 : (a &&& b) / 2 = a / 2 &&& b / 2 := Nat.and_div_two
      have x3 := Nat.xor_mod_two_pow (a := a) (b := b) (n := 1)
      have x4 := Nat.and_mod_two_pow (a := a) (b := b) (n := 1)
      rw [show (2 : Nat) ^ 1 = 2 from rfl] at x3 x4
      have t1 : (0 ^^^ 0 : Nat) = 0 ∧ (0 ^^^ 1 : Nat) = 1 ∧ (1 ^^^ 0 : Nat) = 1 ∧ (1 ^^^ 1 : Nat) = 0 ∧ (0 &&& 0 : Nat) = 0 ∧ (0 &&& 1 : Nat) = 0 ∧ (1 &&& 0 : Nat) = 0 ∧ (1 &&& 1 : Nat) = 1 := by decide
      obtain ⟨a1, a2, a3, a4, a5, a6, a7, a8⟩ := t1
      rcases Nat.mod_two_eq_zero_or_one a with h | h <;> rcases Nat.mod_two_eq_zero_or_one b with h' | h' <;> rw [h, h'] at x3 x4 <;> omega
theorem bitXor_nat (a b : Nat) : Builtin.bitXor (a : Int) (b : Int) = ((a ^^^ b : Nat) : Int) := by
  rw [bitXor_and, bitAnd_nat]
  have := xor_and a b
  omega
theorem and_hi (m : Nat) : m &&& 61440 = (m / 4096 &&& 15) * 4096 := by
  apply Nat.eq_of_testBit_eq
  intro i
  rw [show (61440 : Nat) = 15 * 2 ^ 12 from rfl, show (4096 : Nat) = 2 ^ 12 from rfl, Nat.testBit_and, Nat.testBit_mul_two_pow, Nat.testBit_mul_two_pow, Nat.testBit_and, Nat.testBit_div_two_pow]
  by_cases h : 12 ≤ i
  · simp [h]
  · simp [h]

noncomputable def tabL : List (List (Nat × Nat)) := [[(40960, 108), (49152, 115), (32768, 45), (24576, 98), (16384, 100), (8192, 99), (4096, 112)],
  [(256, 114)], [(128, 119)], [(2112, 115), (2048, 83), (64, 120)], [(32, 114)], [(16, 119)], [(1032, 115), (1024, 83), (8, 120)], [(4, 114)], [(2, 119)], [(513, 116), (512, 84), (1, 120)]]
noncomputable def encR (p : Nat × Nat) : PV := .tup [iv p.1, sv [p.2]]
noncomputable def encRow (r : List (Nat × Nat)) : PV := .tup (r.map encR)
theorem modeTab_eq : modeTab = .tup (tabL.map encRow) := rfl
noncomputable def hit (idx m : Nat) (p : Nat × Nat) : Bool := if idx = 0 then (m &&& 61440) == p.1 else (m &&& p.1) == p.1
noncomputable def chrOf (idx m : Nat) (r : List (Nat × Nat)) : Nat := match r.find? (hit idx m) with
  | some p => p.2
  | none => if idx = 0 then 63 else 45
noncomputable def fmF (m : Nat) : Nat → List (List (Nat × Nat)) → List Nat
  | _, [] => []
  | k, r :: rs => chrOf k m r :: fmF m (k + 1) rs
noncomputable def fmL (m : Nat) : List Nat := fmF m 0 tabL
noncomputable def fmBody : List C := [.ite (.cmp .Eq (.var 2) (.int 0)) [.ite (.cmp .Eq (.call "S_IFMT" [(.var 0)]) (.var 4)) [.app 1 (.var 5),
          .brk] []] [.ite (.cmp .Eq (.bin .BitAnd (.var 0) (.var 4)) (.var 4)) [.app 1 (.var 5),
          .brk] []]]
noncomputable def fmElse : List C := [.ite (.cmp .Eq (.var 2) (.int 0)) [.app 1 (.str [63])] [.app 1 (.str [45])]]
theorem cmp_iv (a b : Nat) : cmpV .Eq (iv a) (iv b) = some (decide (a = b)) := by
  show some ((a : Int) == (b : Int)) = _
  by_cases h : a = b
  · subst h; simp
  · have : ((a : Int) == (b : Int)) = false := by simp; omega
    rw [this, decide_eq_false h]
theorem and_iv (a b : Nat) : binV .BitAnd (iv a) (iv b) = some (iv (a &&& b)) := by
  show some (PV.int (Builtin.bitAnd (a : Int) (b : Int))) = _
  rw [bitAnd_nat]; rfl

noncomputable abbrev fS (m : Nat) (ms : List MCell) (idx : Nat) (tb : PV) (s4 s5 : Slot) (perm : List PV) : St := ⟨[.val (iv m), .bld ms.length, .val (iv idx), .val tb, s4, s5], ms ++ [.lst perm]⟩
section
variable {Φ : Fns} (hΦ : Φ "S_IFMT" = some gIfmt) {m idx : Nat} {tb : PV} {ms : List MCell}
include hΦ
theorem fm_turn {b ch : Nat} {perm : List PV} (hp : perm.length + 1 ≤ lid) :
    exs Φ γ0 fmBody (fS m ms idx tb (.val (iv b)) (.val (sv [ch])) perm) =
      if hit idx m (b, ch) = true then some (.brk, fS m ms idx tb (.val (iv b)) (.val (sv [ch])) (perm ++ [sv [ch]]))
      else some (.next, fS m ms idx tb (.val (iv b)) (.val (sv [ch])) perm) := by
  have happ : exs Φ γ0 [.app 1 (.var 5), .brk] (fS m ms idx tb (.val (iv b)) (.val (sv [ch])) perm) = some (.brk, fS m ms idx tb (.val (iv b)) (.val (sv [ch])) (perm ++ [sv [ch]])) := by
    refine (exs_next (sapp (i := 1) (k := ms.length) rfl (get_last _ _) (qvar (i := 5) rfl) (get_last _ _) hp (sv_isS _))).trans ?_
    rw [set_last]; exact exs_one rfl
  have q0 := qcmpT (Φ := Φ) (γ := γ0) (τ := fS m ms idx tb (.val (iv b)) (.val (sv [ch])) perm) (a := .var 2) (b := .int 0) (o := .Eq) (qvar (i := 2) (v := iv idx) rfl) rfl (cmp_iv idx 0)
  unfold fmBody
  rw [exs_sing]
  by_cases h0 : idx = 0
  · rw [decide_eq_true h0] at q0
    have qc : ev Φ γ0 (.call "S_IFMT" [(.var 0)]) (fS m ms idx tb (.val (iv b)) (.val (sv [ch])) perm) = some (iv (m &&& 61440), fS m ms idx tb (.val (iv b)) (.val (sv [ch])) perm) := by
      refine qcall1 (ms := ms ++ [.lst perm]) hΦ (qvar (i := 0) (v := iv m) (τ := fS m ms idx tb (.val (iv b)) (.val (sv [ch])) perm) rfl) ?_
      show some (PV.int (Builtin.bitAnd (m : Int) ((61440 : Nat) : Int)), _) = _
      rw [bitAnd_nat]; rfl
    have q2 := qcmpT (o := .Eq) qc (qvar (Φ := Φ) (γ := γ0) (i := 4) (v := iv b) rfl) (cmp_iv (m &&& 61440) b)
    have hh : hit idx m (b, ch) = decide ((m &&& 61440) = b) := by simp [hit, h0]; rfl
    rw [ex_ite_t q0, exs_sing, hh]
    by_cases h1 : (m &&& 61440) = b
    · rw [decide_eq_true h1] at q2 ⊢
      rw [ex_ite_t q2, happ]; rfl
    · rw [decide_eq_false h1] at q2 ⊢
      rw [ex_ite_f q2]; exact exs_nil
  · rw [decide_eq_false h0] at q0
    have q2 := qcmpT (Φ := Φ) (γ := γ0) (o := .Eq) (qbin (τ := fS m ms idx tb (.val (iv b)) (.val (sv [ch])) perm) (qvar (i := 0) (v := iv m) rfl) (qvar (i := 4) (v := iv b) rfl) (and_iv m b)) (qvar (i := 4) (v := iv b) rfl) (cmp_iv (m &&& b) b)
    have hh : hit idx m (b, ch) = decide ((m &&& b) = b) := by simp [hit, h0]; rfl
    rw [ex_ite_f q0, exs_sing, hh]
    by_cases h1 : (m &&& b) = b
    · rw [decide_eq_true h1] at q2 ⊢
      rw [ex_ite_t q2, happ]; rfl
    · rw [decide_eq_false h1] at q2 ⊢
      rw [ex_ite_f q2]; exact exs_nil
theorem fm_row : ∀ (r : List (Nat × Nat)) (s4 s5 : Slot) (perm : List PV), perm.length + 1 ≤ lid →
    ∃ s4' s5', forL (setT [4, 5]) (exs Φ γ0 fmBody) (exs Φ γ0 fmElse) (r.map encR) (fS m ms idx tb s4 s5 perm) = some (.next, fS m ms idx tb s4' s5' (perm ++ [sv [chrOf idx m r]]))
  | [], s4, s5, perm, hp => by
    refine ⟨s4, s5, ?_⟩
    rw [List.map_nil, forL_nil]
    unfold fmElse
    rw [exs_sing]
    have q0 := qcmpT (Φ := Φ) (γ := γ0) (τ := fS m ms idx tb s4 s5 perm) (a := .var 2) (b := .int 0) (o := .Eq) (qvar (i := 2) (v := iv idx) rfl) rfl (cmp_iv idx 0)
    by_cases h0 : idx = 0
    · rw [decide_eq_true h0] at q0
      rw [ex_ite_t q0, exs_sing, sapp (i := 1) (k := ms.length) (v := sv [63]) rfl (get_last _ _) rfl (get_last _ _) hp (sv_isS _), set_last]
      simp [chrOf, h0]
    · rw [decide_eq_false h0] at q0
      rw [ex_ite_f q0, exs_sing, sapp (i := 1) (k := ms.length) (v := sv [45]) rfl (get_last _ _) rfl (get_last _ _) hp (sv_isS _), set_last]
      simp [chrOf, h0]
  | (b, ch) :: r, s4, s5, perm, hp => by
    have ht := fm_turn hΦ (m := m) (idx := idx) (tb := tb) (ms := ms) (b := b) (ch := ch) hp
    have hs : setT [4, 5] (encR (b, ch)) (fS m ms idx tb s4 s5 perm) = some (fS m ms idx tb (.val (iv b)) (.val (sv [ch])) perm) := rfl
    rw [List.map_cons]
    by_cases h : hit idx m (b, ch) = true
    · rw [if_pos h] at ht
      refine ⟨.val (iv b), .val (sv [ch]), (forL_brk hs ht).trans ?_⟩
      simp [chrOf, List.find?_cons, h]
    · rw [if_neg h] at ht
      obtain ⟨a, b', ih⟩ := fm_row r (.val (iv b)) (.val (sv [ch])) perm hp
      refine ⟨a, b', (forL_next hs ht).trans ?_⟩
      rw [ih]
      have : hit idx m (b, ch) = false := by simpa using h
      simp [chrOf, List.find?_cons, this]
theorem fm_rows : ∀ (rs : List (List (Nat × Nat))) (k : Nat) (s2 s3 s4 s5 : Slot) (perm : List PV), perm.length + rs.length ≤ 1000 → (∀ r ∈ rs, r.length ≤ 100) →
    ∃ s2' s3' s4' s5', forL (setT [2, 3]) (exs Φ γ0 [.forT [4, 5] (.var 3) fmBody fmElse]) (fun τ => some (.next, τ)) (numbered k (rs.map encRow)) ⟨[.val (iv m), .bld ms.length, s2, s3, s4, s5], ms ++ [.lst perm]⟩ =
      some (.next, ⟨[.val (iv m), .bld ms.length, s2', s3', s4', s5'], ms ++ [.lst (perm ++ (fmF m k rs).map fun c => sv [c])]⟩)
  | [], k, s2, s3, s4, s5, perm, _, _ => ⟨s2, s3, s4, s5, by simp [numbered, forL, fmF]⟩
  | r :: rs, k, s2, s3, s4, s5, perm, hp, hr => by
    simp only [List.length_cons] at hp
    obtain ⟨a4, a5, h1⟩ := fm_row hΦ (m := m) (idx := k) (tb := encRow r) (ms := ms) r s4 s5 perm (Nat.le_trans (by omega : _ ≤ 1001) (by decide))
    obtain ⟨b2, b3, b4, b5, ih⟩ := fm_rows rs (k + 1) (.val (iv k)) (.val (encRow r)) a4 a5 (perm ++ [sv [chrOf k m r]]) (by simp; omega) fun x hx => hr x (List.mem_cons_of_mem _ hx)
    refine ⟨b2, b3, b4, b5, ?_⟩
    rw [List.map_cons, numbered]
    have hs : setT [2, 3] (.tup [.int k, encRow r]) ⟨[.val (iv m), .bld ms.length, s2, s3, s4, s5], ms ++ [.lst perm]⟩ = some (fS m ms k (encRow r) s4 s5 perm) := rfl
    have hb : exs Φ γ0 [.forT [4, 5] (.var 3) fmBody fmElse] (fS m ms k (encRow r) s4 s5 perm) = some (.next, fS m ms k (encRow r) a4 a5 (perm ++ [sv [chrOf k m r]])) := by
      rw [exs_sing]
      refine ex_forT (qvar (i := 3) (v := encRow r) rfl) (vs := r.map encR) ?_ h1
      have : (r.map encR).length ≤ lid := by rw [List.length_map]; exact Nat.le_trans (hr r (List.mem_cons_self ..)) (by decide)
      show (if (r.map encR).length ≤ lid then some (r.map encR) else none) = _
      rw [if_pos this]
    rw [forL_next hs hb, ih]
    simp [fmF]
end
theorem join_nil (cs : List Nat) : Txt.join (strOf []) ((cs.map fun c => [c]).map strOf) = strOf cs := by
  show Builtin.Str.glued _ _ = _
  rw [StrLaws.glued_eq_join]
  induction cs with
  | nil => rfl
  | cons x r ih =>
    cases r with
    | nil => rfl
    | cons y r =>
      show strOf [x] ++ strOf [] ++ Str.join (strOf []) (((y :: r).map fun c => [c]).map strOf) = _
      rw [ih, strOf_append, strOf_append]; rfl
noncomputable def gFm (xs : List PV) (ms : List MCell) : Option (PV × List MCell) := oneI xs fun m => if 0 ≤ m then some (sv (fmL m.toNat), ms) else none
theorem fm_spec {Φ : Fns} (hΦ : Φ "S_IFMT" = some gIfmt) : ∀ xs ms r, gFm xs ms = some r → gRun Φ γ0 1 n_filemode.length c_filemode xs ms = some r := by
  intro xs ms r h
  obtain ⟨i, rfl, h⟩ := oneI_inv h
  obtain ⟨hx, e⟩ := gd_inv h
  subst e; clear h
  obtain ⟨m, rfl⟩ : ∃ m : Nat, i = m := ⟨i.toNat, by omega⟩
  rw [Int.toNat_natCast]
  obtain ⟨b2, b3, b4, b5, h1⟩ := fm_rows hΦ (m := m) (ms := ms) tabL 0 .unset .unset .unset .unset [] (by decide) (by decide)
  have e1 : ex Φ γ0 (.assign 1 (.lst [])) (startSt 6 [iv m] ms) = some (.next, ⟨[.val (iv m), .bld ms.length, .unset, .unset, .unset, .unset], ms ++ [.lst []]⟩) := snew qnil (by exact ltl rfl) (Nat.zero_le _) rfl
  have e2 := ex_forE (Φ := Φ) (γ := γ0) (it := .gl "_filemode_table") (y := modeTab) rfl (vs := numbered 0 (tabL.map encRow)) rfl h1
  have hlen : (fmL m).length = 10 := rfl
  have e3 : ex Φ γ0 (.ret (.mf .join (.str []) [(.var 1)])) ⟨[.val (iv m), .bld ms.length, b2, b3, b4, b5], ms ++ [.lst ([] ++ (fmL m).map fun c => sv [c])]⟩ = some (.ret (sv (fmL m)), ⟨[.val (iv m), .val (.list ((fmL m).map fun c => sv [c])), b2, b3, b4, b5], ms ++ [.dead]⟩) := by
    have q := qfreeze (Φ := Φ) (γ := γ0) (τ := ⟨[.val (iv m), .bld ms.length, b2, b3, b4, b5], ms ++ [.lst ([] ++ (fmL m).map fun c => sv [c])]⟩) (i := 1) (k := ms.length) rfl (get_last _ _)
    rw [set_last] at q
    refine sret (qmf1 (x := sv []) rfl q ?_)
    have e : ((fmL m).map fun c => sv [c]) = ((fmL m).map fun c => [c]).map sv := List.map_map.symm
    rw [List.nil_append, e, joinG (Nat.zero_le _) (by rw [List.length_map, hlen]; decide) (fun c hc => by
      obtain ⟨x, _, rfl⟩ := List.mem_map.mp hc; exact (by decide : 1 ≤ 1000)), join_nil]; rfl
  show gRun Φ γ0 1 6 c_filemode [iv m] ms = _
  rw [run_ret (np := 1) (n := 6) (cs := c_filemode) rfl ((exs_next e1).trans ((exs_next e2).trans (exs_ret e3))) rfl]
  simp
theorem fm0 {m : Nat} (h : m / 4096 = 4 ∨ m / 4096 = 12 ∨ m / 4096 = 5) : (fmL m)[0]? = some (if m / 4096 = 4 then 100 else if m / 4096 = 12 then 115 else 63) := by
  show some (chrOf 0 m _) = _
  have hi := and_hi m
  rcases h with h | h | h <;> rw [h] at hi <;> simp [chrOf, hit, hi, h]
theorem and_lo {m k : Nat} (hk : k < 1024) : m &&& k = (m % 1024) &&& k := by
  have h1 := Nat.and_mod_two_pow (a := m) (b := k) (n := 10)
  have h2 : m &&& k < 2 ^ 10 := Nat.and_lt_two_pow _ hk
  rw [Nat.mod_eq_of_lt h2, Nat.mod_eq_of_lt (a := k) hk] at h1
  exact h1
theorem fm9_all : ∀ r < 1024, (chrOf 9 r [(513, 116), (512, 84), (1, 120)] = 120 ∨ chrOf 9 r [(513, 116), (512, 84), (1, 120)] = 116) ↔ r % 2 = 1 := by decide +kernel
theorem fm9 (m : Nat) : ∃ c, (fmL m)[9]? = some c ∧ ((c = 120 ∨ c = 116) ↔ m % 2 = 1) := by
  refine ⟨chrOf 9 m [(513, 116), (512, 84), (1, 120)], rfl, ?_⟩
  have e : chrOf 9 m [(513, 116), (512, 84), (1, 120)] = chrOf 9 (m % 1024) [(513, 116), (512, 84), (1, 120)] := by
    have h1 : ∀ k c, k < 1024 → hit 9 m (k, c) = hit 9 (m % 1024) (k, c) := fun k c hk => by simp [hit, and_lo (m := m) hk]
    unfold chrOf
    simp only [List.find?_cons, List.find?_nil, h1 513 116 (by decide), h1 512 84 (by decide), h1 1 120 (by decide)]
  rw [e, fm9_all (m % 1024) (Nat.mod_lt _ (by decide))]
  omega
end Mine
end
noncomputable section
open PySem PySem.W PyProof.Rows PySem.Calls
set_option Elab.async false
set_option linter.unusedVariables false
set_option linter.unusedSimpArgs false
set_option maxRecDepth 100000
namespace Mine
/-! _law_tree -/
noncomputable def ndPV (n : Nd) : PV := .tup [iv n.above, sv n.name, iv n.mode, sv n.way]
noncomputable def treePV (t : List Nd) : PV := .list (t.map ndPV)
noncomputable def natsPV (fs : List Nat) : PV := .list (fs.map iv)
theorem WF.way_len {t : List Nd} {fs : List Nat} (w : WF t fs) : ∀ k, k < t.length → (nd t k).way.length ≤ 4 * k + 1 := by
  intro k
  induction k using Nat.strongRecOn with
  | ind k ih =>
    intro hk
    by_cases h0 : k = 0
    · subst h0; rw [w.nd0]; decide
    · obtain ⟨h1, _, h3, h4⟩ := w.ok k (by omega) hk
      have h5 := ih _ h1 (by omega)
      have h6 : (nd t k).name.length ≤ 3 := by
        simp [nm4] at h3
        rcases h3 with h | h | h | h <;> rw [h] <;> decide
      rw [h4]
      unfold pre
      split
      · simp; omega
      · simp; omega
theorem small_nat {a : Nat} (h : a ≤ 1000000) : small (a : Int) = true := by simp [small]; omega
theorem add_iv (a b : Nat) : binV .Add (iv a) (iv b) = some (iv (a + b)) := rfl
theorem mul_int (a b : Int) : binV .Mult (.int a) (.int b) = if small a = true then some (.int (a * b)) else none := rfl
theorem mul_iv {a : Nat} (b : Nat) (h : a ≤ 1000000) : binV .Mult (iv a) (iv b) = some (iv (a * b)) := by
  unfold iv
  rw [mul_int, if_pos (small_nat h), ← Int.natCast_mul]
theorem fmod_iv (x : Int) {m : Nat} (h : 0 < m) : binV .Mod (.int x) (iv m) = some (iv (ix x m)) := by
  show (if ((m : Int)) ≠ 0 then some (PV.int (x.fmod m)) else none) = _
  rw [if_pos (by omega)]
  have := Int.fmod_nonneg_of_pos x (b := (m : Int)) (by omega)
  show some (PV.int (x.fmod m)) = some (PV.int ((x.fmod m).toNat : Int))
  rw [Int.toNat_of_nonneg this]
theorem fdiv_iv (x : Int) {m : Nat} (h : 0 < m) (h2 : m ≤ 1000000) : binV .FloorDiv (.int x) (iv m) = some (.int (x.fdiv m)) := by
  show (if ((m : Int)) ≠ 0 ∧ small (m : Int) = true then some (PV.int (x.fdiv m)) else none) = _
  rw [if_pos ⟨by omega, small_nat h2⟩]
theorem xor_iv (a b : Nat) : binV .BitXor (iv a) (iv b) = some (iv (a ^^^ b)) := by
  show some (PV.int (Builtin.bitXor (a : Int) (b : Int))) = _
  rw [bitXor_nat]; rfl
theorem item_list {xs : List PV} {k : Nat} {v : PV} (h : xs.length ≤ lid) (hk : xs[k]? = some v) : itemV (.list xs) (iv k) = some v := by
  show (if xs.length ≤ lid then (if 0 ≤ (k : Int) then xs[(k : Int).toNat]? else if -(xs.length : Int) ≤ (k : Int) then xs[((xs.length : Int) + (k : Int)).toNat]? else none) else none) = _
  rw [if_pos h, if_pos (Int.natCast_nonneg k), Int.toNat_natCast, hk]
theorem item_tupI {xs : List PV} {k : Nat} {v : PV} (h : xs.length ≤ lid) (hk : xs[k]? = some v) : itemV (.tup xs) (iv k) = some v := by
  show (if xs.length ≤ lid ∧ 0 ≤ (k : Int) then xs[(k : Int).toNat]? else none) = _
  rw [if_pos ⟨h, Int.natCast_nonneg k⟩, Int.toNat_natCast, hk]
theorem map_getD {α : Type} (f : α → PV) {l : List α} {k : Nat} (d : α) (h : k < l.length) : (l.map f)[k]? = some (f (l.getD k d)) := by
  rw [List.getElem?_map, List.getElem?_eq_getElem h, List.getD_eq_getElem?_getD, List.getElem?_eq_getElem h]; rfl
theorem subs_way : ∀ (t : List Nd), subsV 3 (t.map ndPV) = some ((t.map (·.way)).map sv)
  | [] => rfl
  | n :: t => bnd (a := [iv n.above, sv n.name, iv n.mode, sv n.way]) rfl (bnd (a := sv n.way) rfl (bnd (a := strOf n.way) rfl (mpd (subs_way t) rfl)))
theorem contains_strOf (x : List Nat) (l : List (List Nat)) : (l.map strOf).contains (strOf x) = decide (x ∈ l) := by
  induction l with
  | nil => simp
  | cons a l ih =>
    rw [List.map_cons, List.contains_cons, ih, strOf_beq]
    simp [Bool.decide_or]
theorem cmp_in (x : List Nat) {l : List (List Nat)} (h : l.length ≤ lid) : cmpV .In (sv x) (.list (l.map sv)) = some (decide (x ∈ l)) := by
  show ((strsOf (l.map sv)).bind fun ss => if ss.length ≤ lid then some (ss.contains (strOf x)) else none) = _
  rw [strs_map, ← contains_strOf]
  exact if_pos (by rw [List.length_map]; exact h)
theorem cmp_nin (x : List Nat) {l : List (List Nat)} (h : l.length ≤ lid) : cmpV .NotIn (sv x) (.list (l.map sv)) = some (decide (x ∉ l)) := by
  show ((strsOf (l.map sv)).bind fun ss => if ss.length ≤ lid then some (!ss.contains (strOf x)) else none) = _
  rw [strs_map, decide_not, ← contains_strOf]
  exact if_pos (by rw [List.length_map]; exact h)
theorem get0 {α : Type} (ms : List α) (a b : α) : (ms ++ [a, b])[ms.length]? = some a := by simp
theorem get1 {α : Type} (ms : List α) (a b : α) : (ms ++ [a, b])[ms.length + 1]? = some b := by simp
theorem set0 {α : Type} (ms : List α) (a b c : α) : (ms ++ [a, b]).set ms.length c = ms ++ [c, b] := by simp
theorem set1 {α : Type} (ms : List α) (a b c : α) : (ms ++ [a, b]).set (ms.length + 1) c = ms ++ [a, c] := by simp
theorem len_map {α : Type} (f : α → PV) {l : List α} (h : l.length ≤ lid) : lenV (.list (l.map f)) = some (iv l.length) := by
  show (if (l.map f).length ≤ lid then some (PV.int (l.map f).length) else none) = _
  rw [List.length_map, if_pos h]; rfl
section
variable {Φ : Fns} {γ : String → Option PV} {τ τ1 : St}
theorem qcompSubb {i k : Nat} {j : Int} {xs zs : List PV} (h : τ.loc[i]? = some (.bld k)) (hm : τ.mem[k]? = some (.lst xs)) (hl : xs.length ≤ lid) (hz : subsV j xs = some zs) : ev Φ γ (.compSub (.var i) j) τ = some (.list zs, τ) := bnd rfl (bnd (qpeekb h) (bnd (qderef hm) (bnd rfl ((if_pos hl).trans (mpd hz rfl)))))
theorem qcompSub {i : Nat} {j : Int} {xs zs : List PV} (h : τ.loc[i]? = some (.val (.list xs))) (hl : xs.length ≤ lid) (hz : subsV j xs = some zs) : ev Φ γ (.compSub (.var i) j) τ = some (.list zs, τ) := bnd rfl (bnd (qpeek h) (bnd rfl (bnd rfl ((if_pos hl).trans (mpd hz rfl)))))
end

noncomputable abbrev tS (nums : PV) (ms : List MCell) (s3 s4 s5 s6 s7 : Slot) (t : List Nd) (fs : List Nat) : St := ⟨[.val nums, .bld ms.length, .bld (ms.length + 1), s3, s4, s5, s6, s7], ms ++ [.lst (t.map ndPV), .lst (fs.map iv)]⟩
noncomputable def treeBody : List C := [.assign 4 (.sub (.var 2) (.bin .Mod (.bin .FloorDiv (.var 3) (.int 24)) (.len (.var 2)))),
    .assign 5 (.sub (.tup [(.str [97]), (.str [98]), (.str [46, 46, 46]), (.str [46, 97])]) (.bin .Mod (.bin .FloorDiv (.var 3) (.int 6)) (.int 4))),
    .assign 6 (.sub (.tup [(.int 4), (.int 4), (.int 4), (.int 4), (.int 12), (.int 5)]) (.bin .Mod (.var 3) (.int 6))),
    .assign 7 (.bin .Add (.bin .Add (.ite (.cmp .Eq (.var 4) (.int 0)) (.str []) (.sub (.sub (.var 1) (.var 4)) (.int 3))) (.str [47])) (.var 5)),
    .ite (.cmp .In (.var 7) (.compSub (.var 1) 3)) [.cont] [],
    .ite (.cmp .Eq (.var 6) (.int 4)) [.app 2 (.len (.var 1))] [],
    .app 1 (.tup [(.var 4), (.var 5), (.bin .Add (.bin .Mult (.var 6) (.int 4096)) (.bin .BitXor (.int 493) (.bin .Mod (.bin .FloorDiv (.var 3) (.int 96)) (.int 4096)))), (.var 7)])]
theorem qiv {Φ : Fns} {γ : String → Option PV} {τ : St} (k : Nat) : ev Φ γ (.int (k : Int)) τ = some (iv k, τ) := rfl
theorem WF.fs_len {t : List Nd} {fs : List Nat} (w : WF t fs) : fs.length ≤ t.length := by
  rw [w.fold]; exact Nat.le_trans (List.length_filter_le _ _) (by simp)
theorem tree_turn {Φ : Fns} {t : List Nd} {fs : List Nat} (w : WF t fs) (ht : t.length ≤ 100) {nums : PV} {ms : List MCell} {x : Int} {s4 s5 s6 s7 : Slot} :
    ∃ s4' s5' s6' s7', exs Φ γ0 treeBody (tS nums ms (.val (.int x)) s4 s5 s6 s7 t fs) = some (if wayNew t fs x ∈ t.map (·.way) then .cont else .next, tS nums ms (.val (.int x)) s4' s5' s6' s7' (tstep (t, fs) x).1 (tstep (t, fs) x).2) := by
  have ha := w.mem_fs.mp (w.above_mem x)
  have hfl : fs.length ≤ 100 := Nat.le_trans w.fs_len ht
  have L1 : (fs.map iv).length ≤ lid := by rw [List.length_map]; exact Nat.le_trans hfl (by decide)
  have L2 : (t.map ndPV).length ≤ lid := by rw [List.length_map]; exact Nat.le_trans ht (by decide)
  have lenF : lenV (.list (fs.map iv)) = some (iv fs.length) := len_map iv (by simpa using L1)
  have lenT : lenV (.list (t.map ndPV)) = some (iv t.length) := len_map ndPV (by simpa using L2)
  have e1 : ex Φ γ0 (.assign 4 (.sub (.var 2) (.bin .Mod (.bin .FloorDiv (.var 3) (.int 24)) (.len (.var 2))))) (tS nums ms (.val (.int x)) s4 s5 s6 s7 t fs) = some (.next, tS nums ms (.val (.int x)) (.val (iv (aboveOf fs x))) s5 s6 s7 t fs) := by
    refine sasg (qsubb (i := 2) (k := ms.length + 1) rfl (qbin (qbin (qvar (i := 3) rfl) (qiv 24) (fdiv_iv x (by decide) (by decide))) (qlenb (i := 2) (k := ms.length + 1) rfl (get1 _ _ _) lenF) (fmod_iv _ w.fs_pos)) (get1 _ _ _) (item_list L1 (map_getD iv 0 (ix_lt _ w.fs_pos)))) (by exact ltl rfl) rfl
  have e2 : ex Φ γ0 (.assign 5 (.sub (.tup [(.str [97]), (.str [98]), (.str [46, 46, 46]), (.str [46, 97])]) (.bin .Mod (.bin .FloorDiv (.var 3) (.int 6)) (.int 4)))) (tS nums ms (.val (.int x)) (.val (iv (aboveOf fs x))) s5 s6 s7 t fs) = some (.next, tS nums ms (.val (.int x)) (.val (iv (aboveOf fs x))) (.val (sv (nameOf x))) s6 s7 t fs) := by
    refine sasg (qsubx (x := .tup (nm4.map sv)) (τ1 := tS nums ms (.val (.int x)) (.val (iv (aboveOf fs x))) s5 s6 s7 t fs) rfl (qbin (qbin (qvar (i := 3) (v := .int x) rfl) (qiv 6) (fdiv_iv x (by decide) (by decide))) (qiv 4) (fmod_iv _ (by decide))) (item_tupI (by decide) (map_getD sv [] (ix_lt _ (by decide)))) rfl) (by exact ltl rfl) rfl
  have e3 : ex Φ γ0 (.assign 6 (.sub (.tup [(.int 4), (.int 4), (.int 4), (.int 4), (.int 12), (.int 5)]) (.bin .Mod (.var 3) (.int 6)))) (tS nums ms (.val (.int x)) (.val (iv (aboveOf fs x))) (.val (sv (nameOf x))) s6 s7 t fs) = some (.next, tS nums ms (.val (.int x)) (.val (iv (aboveOf fs x))) (.val (sv (nameOf x))) (.val (iv (kindOf' x))) s7 t fs) := by
    refine sasg (qsubx (x := .tup (kd6.map iv)) (τ1 := tS nums ms (.val (.int x)) (.val (iv (aboveOf fs x))) (.val (sv (nameOf x))) s6 s7 t fs) rfl (qbin (qvar (i := 3) (v := .int x) rfl) (qiv 6) (fmod_iv _ (by decide))) (item_tupI (by decide) (map_getD iv 0 (ix_lt _ (by decide)))) rfl) (by exact ltl rfl) rfl
  have wl : (pre t (aboveOf fs x)).length ≤ 401 := by
    unfold pre; split
    · simp
    · have := w.way_len _ ha.1; omega
  have nl : (nameOf x).length ≤ 3 := by
    have := nameOf_mem x
    simp [nm4] at this
    rcases this with h | h | h | h <;> rw [h] <;> decide
  have q4 : ev Φ γ0 (.ite (.cmp .Eq (.var 4) (.int 0)) (.str []) (.sub (.sub (.var 1) (.var 4)) (.int 3))) (tS nums ms (.val (.int x)) (.val (iv (aboveOf fs x))) (.val (sv (nameOf x))) (.val (iv (kindOf' x))) s7 t fs) = some (sv (pre t (aboveOf fs x)), tS nums ms (.val (.int x)) (.val (iv (aboveOf fs x))) (.val (sv (nameOf x))) (.val (iv (kindOf' x))) s7 t fs) := by
    have q : evT Φ γ0 (.cmp .Eq (.var 4) (.int 0)) (tS nums ms (.val (.int x)) (.val (iv (aboveOf fs x))) (.val (sv (nameOf x))) (.val (iv (kindOf' x))) s7 t fs) = some (decide (aboveOf fs x = 0), (tS nums ms (.val (.int x)) (.val (iv (aboveOf fs x))) (.val (sv (nameOf x))) (.val (iv (kindOf' x))) s7 t fs)) := qcmpT (qvar (i := 4) (v := iv (aboveOf fs x)) rfl) (qiv 0) (cmp_iv (aboveOf fs x) 0)
    by_cases h : aboveOf fs x = 0
    · rw [decide_eq_true h] at q
      rw [qitet q (x := sv []) rfl]; simp [pre, h]
    · rw [decide_eq_false h] at q
      refine (qitef q (qsubx (x := ndPV (nd t (aboveOf fs x))) (qsubb (i := 1) (k := ms.length) rfl (qvar (i := 4) (v := iv (aboveOf fs x)) rfl) (get0 _ _ _) (item_list L2 (map_getD ndPV _ ha.1))) (qiv 3) (z := sv (nd t (aboveOf fs x)).way) rfl rfl)).trans ?_
      simp [pre, h]
  have e4 : ex Φ γ0 (.assign 7 (.bin .Add (.bin .Add (.ite (.cmp .Eq (.var 4) (.int 0)) (.str []) (.sub (.sub (.var 1) (.var 4)) (.int 3))) (.str [47])) (.var 5))) (tS nums ms (.val (.int x)) (.val (iv (aboveOf fs x))) (.val (sv (nameOf x))) (.val (iv (kindOf' x))) s7 t fs) = some (.next, tS nums ms (.val (.int x)) (.val (iv (aboveOf fs x))) (.val (sv (nameOf x))) (.val (iv (kindOf' x))) (.val (sv (wayNew t fs x))) t fs) := by
    have hw : wayNew t fs x = pre t (aboveOf fs x) ++ [47] ++ nameOf x := by simp [wayNew]
    rw [hw]
    exact sasg (τ1 := tS nums ms (.val (.int x)) (.val (iv (aboveOf fs x))) (.val (sv (nameOf x))) (.val (iv (kindOf' x))) s7 t fs) (qbin (τ1 := tS nums ms (.val (.int x)) (.val (iv (aboveOf fs x))) (.val (sv (nameOf x))) (.val (iv (kindOf' x))) s7 t fs) (qbin (τ2 := tS nums ms (.val (.int x)) (.val (iv (aboveOf fs x))) (.val (sv (nameOf x))) (.val (iv (kindOf' x))) s7 t fs) q4 (y := sv [47]) rfl (add_sv (Nat.le_trans (by simp; omega : _ ≤ 402) (by decide)))) (qvar (i := 5) (v := sv (nameOf x)) rfl) (add_sv (Nat.le_trans (by simp; omega : _ ≤ 405) (by decide)))) (by exact ltl rfl) rfl
  have q5 := qcmpT (Φ := Φ) (γ := γ0) (τ := tS nums ms (.val (.int x)) (.val (iv (aboveOf fs x))) (.val (sv (nameOf x))) (.val (iv (kindOf' x))) (.val (sv (wayNew t fs x))) t fs) (o := .In) (qvar (i := 7) (v := sv (wayNew t fs x)) rfl) (qcompSubb (i := 1) (k := ms.length) rfl (get0 _ _ _) L2 (subs_way t)) (cmp_in (wayNew t fs x) (by rw [List.length_map]; exact Nat.le_trans ht (by decide)))
  refine ⟨.val (iv (aboveOf fs x)), .val (sv (nameOf x)), .val (iv (kindOf' x)), .val (sv (wayNew t fs x)), ?_⟩
  unfold treeBody
  rw [exs_next e1, exs_next e2, exs_next e3, exs_next e4]
  by_cases hd : wayNew t fs x ∈ t.map (·.way)
  · rw [decide_eq_true hd] at q5
    rw [exs_stop ((ex_ite_t q5).trans (exs_one (r := (.cont, tS nums ms (.val (.int x)) (.val (iv (aboveOf fs x))) (.val (sv (nameOf x))) (.val (iv (kindOf' x))) (.val (sv (wayNew t fs x))) t fs)) rfl)) (fun e => by cases e), if_pos hd]
    simp [tstep, hd]
  · rw [decide_eq_false hd] at q5
    rw [exs_next ((ex_ite_f q5).trans exs_nil), if_neg hd]
    have hs1 : (tstep (t, fs) x).1 = t ++ [⟨aboveOf fs x, nameOf x, modeOf x, wayNew t fs x⟩] := by unfold tstep; rw [if_neg hd]
    have hs2 : (tstep (t, fs) x).2 = if kindOf' x = 4 then fs ++ [t.length] else fs := by unfold tstep; rw [if_neg hd]
    rw [hs1, hs2]
    have q6 : evT Φ γ0 (.cmp .Eq (.var 6) (.int 4)) (tS nums ms (.val (.int x)) (.val (iv (aboveOf fs x))) (.val (sv (nameOf x))) (.val (iv (kindOf' x))) (.val (sv (wayNew t fs x))) t fs) = some (decide (kindOf' x = 4), (tS nums ms (.val (.int x)) (.val (iv (aboveOf fs x))) (.val (sv (nameOf x))) (.val (iv (kindOf' x))) (.val (sv (wayNew t fs x))) t fs)) := qcmpT (qvar (i := 6) (v := iv (kindOf' x)) rfl) (qiv 4) (cmp_iv (kindOf' x) 4)
    have kl : kindOf' x ≤ 12 := by
      have := kindOf_mem x
      simp [kd6] at this
      omega
    have app : ∀ fs', ex Φ γ0 (.app 1 (.tup [(.var 4), (.var 5), (.bin .Add (.bin .Mult (.var 6) (.int 4096)) (.bin .BitXor (.int 493) (.bin .Mod (.bin .FloorDiv (.var 3) (.int 96)) (.int 4096)))), (.var 7)])) (tS nums ms (.val (.int x)) (.val (iv (aboveOf fs x))) (.val (sv (nameOf x))) (.val (iv (kindOf' x))) (.val (sv (wayNew t fs x))) t fs') =
        some (.next, tS nums ms (.val (.int x)) (.val (iv (aboveOf fs x))) (.val (sv (nameOf x))) (.val (iv (kindOf' x))) (.val (sv (wayNew t fs x))) (t ++ [⟨aboveOf fs x, nameOf x, modeOf x, wayNew t fs x⟩]) fs') := fun fs' => by
      have qm := qbin (Φ := Φ) (γ := γ0) (τ := tS nums ms (.val (.int x)) (.val (iv (aboveOf fs x))) (.val (sv (nameOf x))) (.val (iv (kindOf' x))) (.val (sv (wayNew t fs x))) t fs') (o := .Add) (qbin (qvar (i := 6) (v := iv (kindOf' x)) rfl) (qiv 4096) (mul_iv 4096 (by omega))) (qbin (qiv 493) (qbin (qbin (qvar (i := 3) (v := .int x) rfl) (qiv 96) (fdiv_iv x (by decide) (by decide))) (qiv 4096) (fmod_iv _ (by decide))) (xor_iv 493 _)) (add_iv _ _)
      have qt := qtup (qcons (qvar (Φ := Φ) (γ := γ0) (τ := tS nums ms (.val (.int x)) (.val (iv (aboveOf fs x))) (.val (sv (nameOf x))) (.val (iv (kindOf' x))) (.val (sv (wayNew t fs x))) t fs') (i := 4) (v := iv (aboveOf fs x)) rfl) (qcons (qvar (i := 5) (v := sv (nameOf x)) rfl) (qcons qm (qcons (qvar (i := 7) (v := sv (wayNew t fs x)) rfl) qnil)))) (by simp only [List.length_cons, List.length_nil]; decide) rfl
      have ha := sapp (i := 1) (k := ms.length) (xs := t.map ndPV) rfl (get0 _ _ _) qt (get0 _ _ _) (by rw [List.length_map]; exact Nat.le_trans (by omega : t.length + 1 ≤ 101) (by decide)) rfl
      rw [set0] at ha
      refine ha.trans ?_
      simp only [tS, List.map_append, List.map_cons, List.map_nil]; rfl
    by_cases hk : kindOf' x = 4
    · rw [decide_eq_true hk] at q6
      rw [if_pos hk]
      have hb := sapp (Φ := Φ) (γ := γ0) (τ := tS nums ms (.val (.int x)) (.val (iv (aboveOf fs x))) (.val (sv (nameOf x))) (.val (iv (kindOf' x))) (.val (sv (wayNew t fs x))) t fs) (i := 2) (k := ms.length + 1) (xs := fs.map iv) rfl (get1 _ _ _) (qlenb (i := 1) (k := ms.length) rfl (get0 _ _ _) lenT) (get1 _ _ _) (by rw [List.length_map]; exact Nat.le_trans (by omega : fs.length + 1 ≤ 101) (by decide)) rfl
      rw [set1] at hb
      have hb' : ex Φ γ0 (.app 2 (.len (.var 1))) (tS nums ms (.val (.int x)) (.val (iv (aboveOf fs x))) (.val (sv (nameOf x))) (.val (iv (kindOf' x))) (.val (sv (wayNew t fs x))) t fs) = some (.next, tS nums ms (.val (.int x)) (.val (iv (aboveOf fs x))) (.val (sv (nameOf x))) (.val (iv (kindOf' x))) (.val (sv (wayNew t fs x))) t (fs ++ [t.length])) := by
        refine hb.trans ?_
        simp only [tS, List.map_append, List.map_cons, List.map_nil]
      rw [exs_next ((ex_ite_t q6).trans (exs_one hb'))]
      exact exs_one (app _)
    · rw [decide_eq_false hk] at q6
      rw [if_neg hk, exs_next ((ex_ite_f q6).trans exs_nil)]
      exact exs_one (app _)
theorem tree_loop {Φ : Fns} {nums : PV} {ms : List MCell} : ∀ (xs : List Int) (t : List Nd) (fs : List Nat) (s3 s4 s5 s6 s7 : Slot), WF t fs → t.length + xs.length ≤ 100 →
    ∃ s3' s4' s5' s6' s7', forL (setV 3) (exs Φ γ0 treeBody) (fun τ => some (.next, τ)) (xs.map .int) (tS nums ms s3 s4 s5 s6 s7 t fs) = some (.next, tS nums ms s3' s4' s5' s6' s7' (xs.foldl tstep (t, fs)).1 (xs.foldl tstep (t, fs)).2)
  | [], t, fs, s3, s4, s5, s6, s7, w, hl => ⟨s3, s4, s5, s6, s7, rfl⟩
  | x :: xs, t, fs, s3, s4, s5, s6, s7, w, hl => by
    simp only [List.length_cons] at hl
    obtain ⟨a4, a5, a6, a7, h1⟩ := tree_turn (Φ := Φ) w (by omega) (nums := nums) (ms := ms) (x := x) (s4 := s4) (s5 := s5) (s6 := s6) (s7 := s7)
    have hlen : (tstep (t, fs) x).1.length ≤ t.length + 1 := by unfold tstep; split <;> simp
    obtain ⟨b3, b4, b5, b6, b7, ih⟩ := tree_loop (Φ := Φ) (nums := nums) (ms := ms) xs (tstep (t, fs) x).1 (tstep (t, fs) x).2 (.val (.int x)) a4 a5 a6 a7 (w.step x) (by omega)
    refine ⟨b3, b4, b5, b6, b7, ?_⟩
    have hs : setV 3 (.int x) (tS nums ms s3 s4 s5 s6 s7 t fs) = some (tS nums ms (.val (.int x)) s4 s5 s6 s7 t fs) := rfl
    rw [List.map_cons, List.foldl_cons, ← ih]
    by_cases hd : wayNew t fs x ∈ t.map (·.way)
    · rw [if_pos hd] at h1; exact forL_cont hs h1
    · rw [if_neg hd] at h1; exact forL_next hs h1
theorem tree_run {Φ : Fns} {xs : List Int} {ms : List MCell} (hx : xs.length ≤ 50) : gRun Φ γ0 1 n_law_tree.length c_law_tree [.list (xs.map .int)] ms = some (.tup [treePV (mkTree xs).1, natsPV (mkTree xs).2], ms) := by
  obtain ⟨b3, b4, b5, b6, b7, h⟩ := tree_loop (Φ := Φ) (nums := .list (xs.map .int)) (ms := ms) xs [topNd] [0] .unset .unset .unset .unset .unset WF.start (by simp; omega)
  obtain ⟨w, hl⟩ := mkTree_wf xs
  have e1 : ex Φ γ0 (.assign 1 (.lst [(.tup [(.int 0), (.str []), (.int 16877), (.str [47])])])) (startSt 8 [.list (xs.map .int)] ms) = some (.next, ⟨[.val (.list (xs.map .int)), .bld ms.length, .unset, .unset, .unset, .unset, .unset, .unset], ms ++ [.lst [ndPV topNd]]⟩) :=
    snew (τ1 := startSt 8 [.list (xs.map .int)] ms) (vs := [ndPV topNd]) (qcons (τ1 := startSt 8 [.list (xs.map .int)] ms) (v := ndPV topNd) rfl qnil) (by simp [startSt]) (by simp only [List.length_cons, List.length_nil]; decide) rfl
  have e2 : ex Φ γ0 (.assign 2 (.lst [(.int 0)])) ⟨[.val (.list (xs.map .int)), .bld ms.length, .unset, .unset, .unset, .unset, .unset, .unset], ms ++ [.lst [ndPV topNd]]⟩ = some (.next, tS (.list (xs.map .int)) ms .unset .unset .unset .unset .unset [topNd] [0]) := by
    have := snew (Φ := Φ) (γ := γ0) (τ := ⟨[.val (.list (xs.map .int)), .bld ms.length, .unset, .unset, .unset, .unset, .unset, .unset], ms ++ [.lst [ndPV topNd]]⟩) (τ1 := ⟨[.val (.list (xs.map .int)), .bld ms.length, .unset, .unset, .unset, .unset, .unset, .unset], ms ++ [.lst [ndPV topNd]]⟩) (i := 2) (vs := [iv 0]) (qcons (qiv 0) qnil) (by simp) (by simp only [List.length_cons, List.length_nil]; decide) rfl
    refine this.trans ?_
    simp [tS]
  have e3 := ex_for (Φ := Φ) (γ := γ0) (b := treeBody) (qvar (i := 0) (v := .list (xs.map .int)) rfl) (vs := xs.map .int) (by
    have : (xs.map PV.int).length ≤ lid := by rw [List.length_map]; exact Nat.le_trans hx (by decide)
    show (if (xs.map PV.int).length ≤ lid then some (xs.map PV.int) else none) = _
    rw [if_pos this]) h
  have e4 : ex Φ γ0 (.ret (.tup [(.var 1), (.var 2)])) (tS (.list (xs.map .int)) ms b3 b4 b5 b6 b7 (mkTree xs).1 (mkTree xs).2) = some (.ret (.tup [treePV (mkTree xs).1, natsPV (mkTree xs).2]), ⟨[.val (.list (xs.map .int)), .val (treePV (mkTree xs).1), .val (natsPV (mkTree xs).2), b3, b4, b5, b6, b7], ms ++ [.dead, .dead]⟩) := by
    have q1 := qfreeze (Φ := Φ) (γ := γ0) (τ := tS (.list (xs.map .int)) ms b3 b4 b5 b6 b7 (mkTree xs).1 (mkTree xs).2) (i := 1) (k := ms.length) rfl (get0 _ _ _)
    rw [set0] at q1
    have q2 := qfreeze (Φ := Φ) (γ := γ0) (τ := ⟨[.val (.list (xs.map .int)), .val (treePV (mkTree xs).1), .bld (ms.length + 1), b3, b4, b5, b6, b7], ms ++ [.dead, .lst ((mkTree xs).2.map iv)]⟩) (i := 2) (k := ms.length + 1) rfl (get1 _ _ _)
    rw [set1] at q2
    exact sret (qtup (qcons q1 (qcons q2 qnil)) (by simp only [List.length_cons, List.length_nil]; decide) rfl)
  show gRun Φ γ0 1 8 c_law_tree _ ms = _
  rw [run_ret (np := 1) (n := 8) (cs := c_law_tree) rfl ((exs_next e1).trans ((exs_next e2).trans ((exs_next e3).trans (exs_ret e4)))) rfl]
  simp
end Mine
end
noncomputable section
open PySem PySem.W PyProof.Rows PySem.Calls
set_option Elab.async false
set_option linter.unusedVariables false
set_option linter.unusedSectionVars false
set_option linter.unusedSimpArgs false
set_option maxRecDepth 100000
namespace Mine
/-! _law_image -/
noncomputable def ownerOf (t : List Nd) (k : Nat) : Nat := if (nd t k).mode / 4096 = 4 then k else 0
noncomputable def encC (t : List Nd) (c : Nat) : List Nat := c :: (nd t c).name.length :: (nd t c).name
noncomputable def blkOf (t : List Nd) (o : Nat) : List Nat := [o, 1, 46, (nd t o).above, 2, 46, 46] ++ (kids t o).flatMap (encC t)
noncomputable def recOf (t : List Nd) (k : Nat) : List Nat := (nd t k).mode % 256 :: (nd t k).mode / 256 :: (blkOf t (ownerOf t k)).length :: blkOf t (ownerOf t k)
noncomputable def imgOf (t : List Nd) : List Nat := (List.range t.length).flatMap (recOf t)
noncomputable def arr (l : List Nat) : Array UInt8 := (l.map UInt8.ofNat).toArray
theorem div_iv (a : Nat) {m : Nat} (h : 0 < m) (h2 : m ≤ 1000000) : binV .FloorDiv (iv a) (iv m) = some (iv (a / m)) := by
  rw [iv, fdiv_iv _ h h2, Int.fdiv_eq_ediv_of_nonneg _ (Int.natCast_nonneg m), ← Int.natCast_ediv]; rfl
theorem mod_iv (a : Nat) {m : Nat} (h : 0 < m) : binV .Mod (iv a) (iv m) = some (iv (a % m)) := by
  rw [iv, fmod_iv _ h]
  unfold ix
  rw [Int.fmod_eq_emod_of_nonneg _ (Int.natCast_nonneg m), ← Int.natCast_emod, Int.toNat_natCast]
theorem range1_int (n : Int) : bfV .range1 [.int n] = if small n = true then some (.range 0 n) else none := rfl
theorem range2_int (a n : Int) : bfV .range2 [.int a, .int n] = if small a = true ∧ small n = true then some (.range a n) else none := rfl
theorem range1_iv {n : Nat} (h : n ≤ 1000000) : bfV .range1 [iv n] = some (.range 0 n) := by
  unfold iv; rw [range1_int, if_pos (small_nat h)]
theorem range2_iv {a n : Nat} (ha : a ≤ 1000000) (h : n ≤ 1000000) : bfV .range2 [iv a, iv n] = some (.range a n) := by
  unfold iv; rw [range2_int, if_pos ⟨small_nat ha, small_nat h⟩]
theorem items_range {a n : Nat} (ha : a ≤ 1000000) (h : n ≤ 1000000) : itemsV (.range a n) = some ((List.range' a (n - a)).map iv) := by
  show (if small (a : Int) = true ∧ small (n : Int) = true ∧ (n : Int) - a ≤ lid then some ((List.range ((n : Int) - a).toNat).map fun (k : Nat) => PV.int ((a : Int) + (k : Int))) else none) = _
  rw [if_pos ⟨small_nat ha, small_nat h, by show (n : Int) - a ≤ ((1000000 : Nat) : Int); omega⟩]
  have e : ((n : Int) - a).toNat = n - a := by omega
  rw [e, List.range'_eq_map_range, List.map_map]
  rfl
theorem WF.kids_eq {t : List Nd} {fs : List Nat} (w : WF t fs) (o : Nat) : kids t o = (List.range' 1 (t.length - 1)).filter fun k => (nd t k).above == o := by
  have hp := w.pos
  unfold kids
  have e : List.range t.length = 0 :: List.range' 1 (t.length - 1) := by
    rw [List.range_eq_range']
    conv => lhs; rw [show t.length = t.length - 1 + 1 by omega]
    rw [List.range'_succ]
  rw [e, List.filter_cons_of_neg (by simp)]
  apply List.filter_congr
  intro k hk
  have := (List.mem_range'_1.mp hk).1
  have h1 : decide (0 < k) = true := by simp; omega
  rw [h1, Bool.true_and]
theorem qcompOrd {Φ : Fns} {γ : String → Option PV} {τ τ1 : St} {it : X} {x : List Nat} (h : ev Φ γ it τ = some (sv x, τ1)) (hl : x.length ≤ lid) : ev Φ γ (.compOrd it) τ = some (.list (x.map iv), τ1) := by
  refine bnd h (bnd (a := strOf x) rfl ?_)
  rw [strOf_len, if_pos hl, strOf_toList]; rfl
theorem add_lst {xs ys : List Nat} (h : xs.length + ys.length ≤ lid) : binV .Add (.list (xs.map iv)) (.list (ys.map iv)) = some (.list ((xs ++ ys).map iv)) := by
  show (if (xs.map iv).length + (ys.map iv).length ≤ lid then some (PV.list (xs.map iv ++ ys.map iv)) else none) = _
  rw [List.length_map, List.length_map, if_pos h, List.map_append]
theorem len_sv {x : List Nat} (h : x.length ≤ lid) : lenV (sv x) = some (iv x.length) := by
  show (if (strOf x).length ≤ lid then some (PV.int (strOf x).length) else none) = _
  rw [strOf_len, if_pos h]; rfl
noncomputable def imgIn : List C := [.ite (.cmp .Eq (.sub (.sub (.var 0) (.var 5)) (.int 0)) (.var 3)) [.assign 6 (.sub (.sub (.var 0) (.var 5)) (.int 1)),
        .aug 4 .Add (.bin .Add (.lst [(.var 5), (.len (.var 6))]) (.compOrd (.var 6)))] []]
noncomputable def imgBody : List C := [.assign 3 (.ite (.cmp .Eq (.bin .FloorDiv (.sub (.sub (.var 0) (.var 2)) (.int 2)) (.int 4096)) (.int 4)) (.var 2) (.int 0)),
    .assign 4 (.lst [(.var 3), (.int 1), (.int 46), (.sub (.sub (.var 0) (.var 3)) (.int 0)), (.int 2), (.int 46), (.int 46)]),
    .for_ 5 (.bf .range2 [(.int 1), (.len (.var 0))]) imgIn,
    .aug 1 .Add (.bin .Add (.lst [(.bin .Mod (.sub (.sub (.var 0) (.var 2)) (.int 2)) (.int 256)), (.bin .FloorDiv (.sub (.sub (.var 0) (.var 2)) (.int 2)) (.int 256)), (.len (.var 4))]) (.var 4))]
section
variable {Φ : Fns} {t : List Nd} {fs : List Nat} (w : WF t fs) (ht : t.length ≤ 100)
include w ht
theorem WF.name_len {c : Nat} (h0 : 0 < c) (hc : c < t.length) : (nd t c).name.length ≤ 3 := by
  have h3 := (w.ok c h0 hc).2.2.1
  simp [nm4] at h3
  rcases h3 with h | h | h | h <;> rw [h] <;> decide
/-- a field of a node -/
theorem qnode {τ : St} {i : Nat} {j : X} {k f : Nat} {v : PV} (h : τ.loc[i]? = some (.val (treePV t))) (hj : ev Φ γ0 j τ = some (iv k, τ)) (hk : k < t.length) (hf : [iv (nd t k).above, sv (nd t k).name, iv (nd t k).mode, sv (nd t k).way][f]? = some v) : ev Φ γ0 (.sub (.sub (.var i) j) (.int (f : Int))) τ = some (v, τ) := by
  have L2 : (t.map ndPV).length ≤ lid := by rw [List.length_map]; exact Nat.le_trans ht (by decide)
  exact qsubx (x := ndPV (nd t k)) (qsub h hj (item_list L2 (map_getD ndPV _ hk))) (qiv f) (item_tupI (by simp only [List.length_map, List.length_cons, List.length_nil]; decide) hf) rfl
theorem img_in {m0 m2 : Slot} {o : Nat} {M : List MCell} : ∀ (cs blk : List Nat) (s5 s6 : Slot), (∀ c ∈ cs, 0 < c ∧ c < t.length) → blk.length + 5 * cs.length ≤ 2000 →
    ∃ s5' s6', forL (setV 5) (exs Φ γ0 imgIn) (fun τ => some (.next, τ)) (cs.map iv) ⟨[.val (treePV t), m0, m2, .val (iv o), .bld M.length, s5, s6], M ++ [.lst (blk.map iv)]⟩ =
      some (.next, ⟨[.val (treePV t), m0, m2, .val (iv o), .bld M.length, s5', s6'], M ++ [.lst ((blk ++ (cs.filter fun k => (nd t k).above == o).flatMap (encC t)).map iv)]⟩)
  | [], blk, s5, s6, _, _ => ⟨s5, s6, by simp [forL]⟩
  | c :: cs, blk, s5, s6, hc, hb => by
    simp only [List.length_cons] at hb
    obtain ⟨c0, c1⟩ := hc c (List.mem_cons_self ..)
    have hnl := w.name_len ht c0 c1
    have hs : setV 5 (iv c) ⟨[.val (treePV t), m0, m2, .val (iv o), .bld M.length, s5, s6], M ++ [.lst (blk.map iv)]⟩ = some ⟨[.val (treePV t), m0, m2, .val (iv o), .bld M.length, .val (iv c), s6], M ++ [.lst (blk.map iv)]⟩ := rfl
    have q : evT Φ γ0 (.cmp .Eq (.sub (.sub (.var 0) (.var 5)) (.int 0)) (.var 3)) ⟨[.val (treePV t), m0, m2, .val (iv o), .bld M.length, .val (iv c), s6], M ++ [.lst (blk.map iv)]⟩ = some (decide ((nd t c).above = o), ⟨[.val (treePV t), m0, m2, .val (iv o), .bld M.length, .val (iv c), s6], M ++ [.lst (blk.map iv)]⟩) :=
      qcmpT (qnode w ht (i := 0) (f := 0) rfl (qvar (i := 5) (v := iv c) rfl) c1 rfl) (qvar (i := 3) (v := iv o) rfl) (cmp_iv _ _)
    rw [List.map_cons]
    by_cases h : (nd t c).above = o
    · rw [decide_eq_true h] at q
      have e1 : ex Φ γ0 (.assign 6 (.sub (.sub (.var 0) (.var 5)) (.int 1))) ⟨[.val (treePV t), m0, m2, .val (iv o), .bld M.length, .val (iv c), s6], M ++ [.lst (blk.map iv)]⟩ = some (.next, ⟨[.val (treePV t), m0, m2, .val (iv o), .bld M.length, .val (iv c), .val (sv (nd t c).name)], M ++ [.lst (blk.map iv)]⟩) :=
        sasg (τ1 := ⟨[.val (treePV t), m0, m2, .val (iv o), .bld M.length, .val (iv c), s6], M ++ [.lst (blk.map iv)]⟩) (qnode w ht (i := 0) (f := 1) rfl (qvar (i := 5) (v := iv c) rfl) c1 rfl) (by exact ltl rfl) rfl
      have ln : lenV (sv (nd t c).name) = some (iv (nd t c).name.length) := len_sv (Nat.le_trans hnl (by decide))
      have e2 : ex Φ γ0 (.aug 4 .Add (.bin .Add (.lst [(.var 5), (.len (.var 6))]) (.compOrd (.var 6)))) ⟨[.val (treePV t), m0, m2, .val (iv o), .bld M.length, .val (iv c), .val (sv (nd t c).name)], M ++ [.lst (blk.map iv)]⟩ =
          some (.next, ⟨[.val (treePV t), m0, m2, .val (iv o), .bld M.length, .val (iv c), .val (sv (nd t c).name)], M ++ [.lst ((blk ++ encC t c).map iv)]⟩) := by
        have qe : ev Φ γ0 (.bin .Add (.lst [(.var 5), (.len (.var 6))]) (.compOrd (.var 6))) ⟨[.val (treePV t), m0, m2, .val (iv o), .bld M.length, .val (iv c), .val (sv (nd t c).name)], M ++ [.lst (blk.map iv)]⟩ = some (.list ((encC t c).map iv), ⟨[.val (treePV t), m0, m2, .val (iv o), .bld M.length, .val (iv c), .val (sv (nd t c).name)], M ++ [.lst (blk.map iv)]⟩) :=
          qbin (x := .list ([c, (nd t c).name.length].map iv)) (qlst (qcons (qvar (i := 5) (v := iv c) rfl) (qcons (qlen (i := 6) rfl ln) qnil)) (by simp only [List.length_map, List.length_cons, List.length_nil]; decide) rfl) (qcompOrd (qvar (i := 6) rfl) (Nat.le_trans hnl (by decide))) (add_lst (xs := [c, (nd t c).name.length]) (ys := (nd t c).name) (Nat.le_trans (by simp; omega : _ ≤ 5) (by decide)))
        have := saugb (i := 4) (k := M.length) (xs := blk.map iv) rfl qe (get_last _ _) (by simp only [List.length_map]; exact Nat.le_trans (by simp [encC]; omega : _ ≤ 2000) (by decide)) (by simp)
        rw [set_last] at this
        refine this.trans ?_
        rw [List.map_append]; rfl
      have hb1 : exs Φ γ0 imgIn ⟨[.val (treePV t), m0, m2, .val (iv o), .bld M.length, .val (iv c), s6], M ++ [.lst (blk.map iv)]⟩ = some (.next, ⟨[.val (treePV t), m0, m2, .val (iv o), .bld M.length, .val (iv c), .val (sv (nd t c).name)], M ++ [.lst ((blk ++ encC t c).map iv)]⟩) :=
        exs_one ((ex_ite_t q).trans ((exs_next e1).trans (exs_one e2)))
      obtain ⟨a5, a6, ih⟩ := img_in (m0 := m0) (m2 := m2) (o := o) (M := M) cs (blk ++ encC t c) (.val (iv c)) (.val (sv (nd t c).name)) (fun x hx => hc x (List.mem_cons_of_mem _ hx)) (by simp [encC]; omega)
      refine ⟨a5, a6, (forL_next hs hb1).trans (ih.trans ?_)⟩
      rw [List.filter_cons_of_pos (by simpa using h), List.flatMap_cons, List.append_assoc]
    · rw [decide_eq_false h] at q
      have hb1 : exs Φ γ0 imgIn ⟨[.val (treePV t), m0, m2, .val (iv o), .bld M.length, .val (iv c), s6], M ++ [.lst (blk.map iv)]⟩ = some (.next, ⟨[.val (treePV t), m0, m2, .val (iv o), .bld M.length, .val (iv c), s6], M ++ [.lst (blk.map iv)]⟩) :=
        exs_one ((ex_ite_f q).trans exs_nil)
      obtain ⟨a5, a6, ih⟩ := img_in (m0 := m0) (m2 := m2) (o := o) (M := M) cs blk (.val (iv c)) s6 (fun x hx => hc x (List.mem_cons_of_mem _ hx)) (by omega)
      refine ⟨a5, a6, (forL_next hs hb1).trans (ih.trans ?_)⟩
      rw [List.filter_cons_of_neg (by simpa using h)]
theorem flat_len {cs : List Nat} (hc : ∀ c ∈ cs, 0 < c ∧ c < t.length) : (cs.flatMap (encC t)).length ≤ 5 * cs.length := by
  induction cs with
  | nil => simp
  | cons c cs ih =>
    have h1 := ih fun x hx => hc x (List.mem_cons_of_mem _ hx)
    obtain ⟨c0, c1⟩ := hc c (List.mem_cons_self ..)
    have := w.name_len ht c0 c1
    rw [List.flatMap_cons]
    simp [encC] at h1 ⊢; omega
theorem kids_len (o : Nat) : (kids t o).length ≤ t.length := by
  unfold kids; exact Nat.le_trans (List.length_filter_le _ _) (by simp)
theorem blk_len (o : Nat) : (blkOf t o).length ≤ 507 := by
  have h1 := flat_len w ht (cs := kids t o) fun c hc => ⟨(mem_kids.mp hc).2.1, (mem_kids.mp hc).1⟩
  have h2 := kids_len w ht o
  unfold blkOf; simp only [List.length_append, List.length_cons, List.length_nil]; omega
theorem owner_lt {k : Nat} (hk : k < t.length) : ownerOf t k < t.length := by
  unfold ownerOf; split
  · exact hk
  · exact w.pos
theorem memA (ms D : List MCell) (a b : MCell) : (ms ++ a :: D ++ [b])[ms.length]? = some a := by simp
theorem memB (ms D : List MCell) (a a' b : MCell) : (ms ++ a :: D ++ [b]).set ms.length a' = ms ++ a' :: (D ++ [b]) := by simp
theorem img_turn {ms D : List MCell} {img : List Nat} {k : Nat} {s3 s4 s5 s6 : Slot} (hk : k < t.length) (hi : img.length ≤ 100000) :
    ∃ s3' s4' s5' s6' D', exs Φ γ0 imgBody ⟨[.val (treePV t), .bld ms.length, .val (iv k), s3, s4, s5, s6], ms ++ .lst (img.map iv) :: D⟩ = some (.next, ⟨[.val (treePV t), .bld ms.length, .val (iv k), s3', s4', s5', s6'], ms ++ .lst ((img ++ recOf t k).map iv) :: D'⟩) := by
  have ho := owner_lt w ht hk
  have e1 : ex Φ γ0 (.assign 3 (.ite (.cmp .Eq (.bin .FloorDiv (.sub (.sub (.var 0) (.var 2)) (.int 2)) (.int 4096)) (.int 4)) (.var 2) (.int 0))) ⟨[.val (treePV t), .bld ms.length, .val (iv k), s3, s4, s5, s6], ms ++ .lst (img.map iv) :: D⟩ =
      some (.next, ⟨[.val (treePV t), .bld ms.length, .val (iv k), .val (iv (ownerOf t k)), s4, s5, s6], ms ++ .lst (img.map iv) :: D⟩) := by
    have q : evT Φ γ0 (.cmp .Eq (.bin .FloorDiv (.sub (.sub (.var 0) (.var 2)) (.int 2)) (.int 4096)) (.int 4)) ⟨[.val (treePV t), .bld ms.length, .val (iv k), s3, s4, s5, s6], ms ++ .lst (img.map iv) :: D⟩ = some (decide ((nd t k).mode / 4096 = 4), ⟨[.val (treePV t), .bld ms.length, .val (iv k), s3, s4, s5, s6], ms ++ .lst (img.map iv) :: D⟩) :=
      qcmpT (qbin (qnode w ht (i := 0) (f := 2) rfl (qvar (i := 2) (v := iv k) rfl) hk rfl) (qiv 4096) (div_iv _ (by decide) (by decide))) (qiv 4) (cmp_iv _ _)
    unfold ownerOf
    by_cases h : (nd t k).mode / 4096 = 4
    · rw [decide_eq_true h] at q; rw [if_pos h]
      exact sasg (τ1 := ⟨[.val (treePV t), .bld ms.length, .val (iv k), s3, s4, s5, s6], ms ++ .lst (img.map iv) :: D⟩) (qitet q (qvar (i := 2) rfl)) (by exact ltl rfl) rfl
    · rw [decide_eq_false h] at q; rw [if_neg h]
      exact sasg (τ1 := ⟨[.val (treePV t), .bld ms.length, .val (iv k), s3, s4, s5, s6], ms ++ .lst (img.map iv) :: D⟩) (qitef q (qiv 0)) (by exact ltl rfl) rfl
  generalize hO : ownerOf t k = o at e1 ho
  have e2 : ex Φ γ0 (.assign 4 (.lst [(.var 3), (.int 1), (.int 46), (.sub (.sub (.var 0) (.var 3)) (.int 0)), (.int 2), (.int 46), (.int 46)])) ⟨[.val (treePV t), .bld ms.length, .val (iv k), .val (iv o), s4, s5, s6], ms ++ .lst (img.map iv) :: D⟩ =
      some (.next, ⟨[.val (treePV t), .bld ms.length, .val (iv k), .val (iv o), .bld (ms ++ .lst (img.map iv) :: D).length, s5, s6], (ms ++ .lst (img.map iv) :: D) ++ [.lst ([o, 1, 46, (nd t o).above, 2, 46, 46].map iv)]⟩) :=
    snew (i := 4) (τ1 := ⟨[.val (treePV t), .bld ms.length, .val (iv k), .val (iv o), s4, s5, s6], ms ++ .lst (img.map iv) :: D⟩) (qcons (qvar (i := 3) rfl) (qcons (qiv 1) (qcons (qiv 46) (qcons (qnode w ht (i := 0) (f := 0) rfl (qvar (i := 3) (v := iv o) rfl) ho rfl) (qcons (qiv 2) (qcons (qiv 46) (qcons (qiv 46) qnil))))))) (by simp) (by simp only [List.length_map, List.length_cons, List.length_nil]; decide) rfl
  have hrm : ∀ c ∈ List.range' 1 (t.length - 1), 0 < c ∧ c < t.length := fun c hc => by have := List.mem_range'_1.mp hc; omega
  obtain ⟨a5, a6, h3⟩ := img_in (Φ := Φ) w ht (m0 := .bld ms.length) (m2 := .val (iv k)) (o := o) (M := ms ++ .lst (img.map iv) :: D) (List.range' 1 (t.length - 1)) [o, 1, 46, (nd t o).above, 2, 46, 46] s5 s6 hrm (by simp; omega)
  rw [← w.kids_eq o] at h3
  have h3 : _ = some (Fl.next, (⟨[.val (treePV t), .bld ms.length, .val (iv k), .val (iv o), .bld (ms ++ .lst (img.map iv) :: D).length, a5, a6], (ms ++ .lst (img.map iv) :: D) ++ [.lst ((blkOf t o).map iv)]⟩ : St)) := h3
  have L2 : t.length ≤ lid := Nat.le_trans ht (by decide)
  have e3 := ex_for (Φ := Φ) (γ := γ0) (b := imgIn) (it := .bf .range2 [(.int 1), (.len (.var 0))]) (y := .range ((1 : Nat) : Int) (t.length : Int)) (vs := (List.range' 1 (t.length - 1)).map iv)
    (qbf2 (qiv 1) (qlen (i := 0) rfl (len_map ndPV L2)) (range2_iv (by decide) (by omega))) (items_range (by decide) (by omega)) h3
  have hbl := blk_len w ht o
  have rl : recOf t k = [(nd t k).mode % 256, (nd t k).mode / 256, (blkOf t o).length] ++ blkOf t o := by unfold recOf; rw [hO]; rfl
  have e4 : ex Φ γ0 (.aug 1 .Add (.bin .Add (.lst [(.bin .Mod (.sub (.sub (.var 0) (.var 2)) (.int 2)) (.int 256)), (.bin .FloorDiv (.sub (.sub (.var 0) (.var 2)) (.int 2)) (.int 256)), (.len (.var 4))]) (.var 4))) ⟨[.val (treePV t), .bld ms.length, .val (iv k), .val (iv o), .bld (ms ++ .lst (img.map iv) :: D).length, a5, a6], (ms ++ .lst (img.map iv) :: D) ++ [.lst ((blkOf t o).map iv)]⟩ =
      some (.next, ⟨[.val (treePV t), .bld ms.length, .val (iv k), .val (iv o), .val (.list ((blkOf t o).map iv)), a5, a6], ms ++ .lst ((img ++ recOf t k).map iv) :: (D ++ [.dead])⟩) := by
    have qf := qfreeze (Φ := Φ) (γ := γ0) (τ := ⟨[.val (treePV t), .bld ms.length, .val (iv k), .val (iv o), .bld (ms ++ .lst (img.map iv) :: D).length, a5, a6], (ms ++ .lst (img.map iv) :: D) ++ [.lst ((blkOf t o).map iv)]⟩) (i := 4) (k := (ms ++ .lst (img.map iv) :: D).length) rfl (get_last _ _)
    rw [set_last] at qf
    have lb : (blkOf t o).length ≤ lid := Nat.le_trans hbl (by decide)
    have qe := qbin (o := .Add) (x := .list ([(nd t k).mode % 256, (nd t k).mode / 256, (blkOf t o).length].map iv))
      (qlst (qcons (qbin (qnode (Φ := Φ) w ht (τ := ⟨[.val (treePV t), .bld ms.length, .val (iv k), .val (iv o), .bld (ms ++ .lst (img.map iv) :: D).length, a5, a6], (ms ++ .lst (img.map iv) :: D) ++ [.lst ((blkOf t o).map iv)]⟩) (i := 0) (f := 2) rfl (qvar (i := 2) (v := iv k) rfl) hk rfl) (qiv 256) (mod_iv _ (by decide)))
        (qcons (qbin (qnode w ht (i := 0) (f := 2) rfl (qvar (i := 2) (v := iv k) rfl) hk rfl) (qiv 256) (div_iv _ (by decide) (by decide)))
        (qcons (qlenb (i := 4) (k := (ms ++ .lst (img.map iv) :: D).length) rfl (get_last _ _) (len_map iv lb)) qnil))) (by simp only [List.length_map, List.length_cons, List.length_nil]; decide) rfl)
      qf (add_lst (xs := [(nd t k).mode % 256, (nd t k).mode / 256, (blkOf t o).length]) (ys := blkOf t o) (Nat.le_trans (by simp only [List.length_cons, List.length_nil]; omega : _ ≤ 510) (by decide)))
    rw [← rl] at qe
    have := saugb (i := 1) (k := ms.length) (xs := img.map iv) rfl qe (memA w ht _ _ _ _) (by simp only [List.length_map]; exact Nat.le_trans (by rw [rl]; simp; omega : _ ≤ 100510) (by decide)) (by simp)
    rw [memB w ht] at this
    refine this.trans ?_
    simp
  exact ⟨_, _, _, _, _, (exs_next e1).trans ((exs_next e2).trans ((exs_next e3).trans (exs_one e4)))⟩
theorem img_loop {ms : List MCell} : ∀ (ks : List Nat) (img : List Nat) (D : List MCell) (s2 s3 s4 s5 s6 : Slot), (∀ k ∈ ks, k < t.length) → img.length + 510 * ks.length ≤ 100000 →
    ∃ s2' s3' s4' s5' s6' D', forL (setV 2) (exs Φ γ0 imgBody) (fun τ => some (.next, τ)) (ks.map iv) ⟨[.val (treePV t), .bld ms.length, s2, s3, s4, s5, s6], ms ++ .lst (img.map iv) :: D⟩ =
      some (.next, ⟨[.val (treePV t), .bld ms.length, s2', s3', s4', s5', s6'], ms ++ .lst ((img ++ ks.flatMap (recOf t)).map iv) :: D'⟩)
  | [], img, D, s2, s3, s4, s5, s6, _, _ => ⟨s2, s3, s4, s5, s6, D, by simp [forL]⟩
  | k :: ks, img, D, s2, s3, s4, s5, s6, hk, hl => by
    simp only [List.length_cons] at hl
    obtain ⟨a3, a4, a5, a6, D1, h1⟩ := img_turn (Φ := Φ) w ht (ms := ms) (D := D) (img := img) (s3 := s3) (s4 := s4) (s5 := s5) (s6 := s6) (hk k (List.mem_cons_self ..)) (by omega)
    have hb := blk_len w ht (ownerOf t k)
    obtain ⟨b2, b3, b4, b5, b6, D2, ih⟩ := img_loop (ms := ms) ks (img ++ recOf t k) D1 (.val (iv k)) a3 a4 a5 a6 (fun x hx => hk x (List.mem_cons_of_mem _ hx)) (by simp [recOf]; omega)
    refine ⟨b2, b3, b4, b5, b6, D2, ?_⟩
    have hs : setV 2 (iv k) ⟨[.val (treePV t), .bld ms.length, s2, s3, s4, s5, s6], ms ++ .lst (img.map iv) :: D⟩ = some ⟨[.val (treePV t), .bld ms.length, .val (iv k), s3, s4, s5, s6], ms ++ .lst (img.map iv) :: D⟩ := rfl
    rw [List.map_cons]
    refine (forL_next hs h1).trans (ih.trans ?_)
    rw [List.flatMap_cons, List.append_assoc]
end
theorem ints_map : ∀ l : List Nat, intsOf (l.map iv) = some (l.map fun (n : Nat) => (n : Int))
  | [] => rfl
  | n :: l => bnd (a := (n : Int)) rfl (mpd (ints_map l) rfl)
theorem bytes_iv {l : List Nat} (h : ∀ x ∈ l, x < 256) (hl : l.length ≤ lid) : bfV .bytes [.list (l.map iv)] = some (.bytes (arr l)) := by
  show ((intsOf (l.map iv)).bind fun is => if is.length ≤ lid then (bytesOf is).map PV.bytes else none) = _
  rw [ints_map, Option.bind_some, List.length_map, if_pos hl]
  unfold bytesOf
  rw [if_pos ?_]
  · simp [arr]
  · simp only [List.all_map, List.all_eq_true, Function.comp, Bool.and_eq_true, decide_eq_true_eq]
    intro x hx
    have := h x hx
    omega
section
variable {t : List Nd} {fs : List Nat} (w : WF t fs) (ht : t.length ≤ 20)
include w ht
theorem blk_small (o : Nat) (ho : o < t.length) : ∀ x ∈ blkOf t o, x < 256 := by
  intro x hx
  unfold blkOf at hx
  rcases List.mem_append.mp hx with hx | hx
  · have := w.above_lt ho
    simp at hx; omega
  · obtain ⟨c, hc, hx⟩ := List.mem_flatMap.mp hx
    obtain ⟨c1, c0, _⟩ := mem_kids.mp hc
    have h3 := (w.ok c c0 c1).2.2.1
    unfold encC at hx
    simp [nm4] at h3
    rcases h3 with h | h | h | h <;> rw [h] at hx <;> simp at hx <;> omega
theorem rec_small {k : Nat} (hk : k < t.length) : ∀ x ∈ recOf t k, x < 256 := by
  intro x hx
  have ho := owner_lt w (by omega) hk
  have hl : (blkOf t (ownerOf t k)).length < 256 := by
    have h1 := flat_len w (by omega) (cs := kids t (ownerOf t k)) fun c hc => ⟨(mem_kids.mp hc).2.1, (mem_kids.mp hc).1⟩
    have h2 := kids_len w (by omega) (ownerOf t k)
    unfold blkOf; simp only [List.length_append, List.length_cons, List.length_nil]; omega
  have hm := w.md k hk
  unfold recOf at hx
  rcases List.mem_cons.mp hx with h | hx
  · omega
  · rcases List.mem_cons.mp hx with h | hx
    · omega
    · rcases List.mem_cons.mp hx with h | hx
      · omega
      · exact blk_small w ht _ ho x hx
theorem img_small : ∀ x ∈ imgOf t, x < 256 := by
  intro x hx
  obtain ⟨k, hk, hx⟩ := List.mem_flatMap.mp hx
  exact rec_small w ht (List.mem_range.mp hk) x hx
theorem img_len : ∀ ks : List Nat, (ks.flatMap (recOf t)).length ≤ 510 * ks.length
  | [] => by simp
  | k :: ks => by
    have h1 := img_len ks
    have h2 := blk_len w (by omega) (ownerOf t k)
    rw [List.flatMap_cons]
    simp [recOf] at h1 ⊢; omega
theorem image_run {Φ : Fns} {ms : List MCell} : gRun Φ γ0 1 n_law_image.length c_law_image [treePV t] ms = some (.bytes (arr (imgOf t)), ms) := by
  obtain ⟨b2, b3, b4, b5, b6, D, h⟩ := img_loop (Φ := Φ) w (by omega) (ms := ms) (List.range t.length) [] [] .unset .unset .unset .unset .unset (fun k hk => List.mem_range.mp hk) (by simp; omega)
  have L2 : t.length ≤ lid := Nat.le_trans ht (by decide)
  have e1 : ex Φ γ0 (.assign 1 (.lst [])) (startSt 7 [treePV t] ms) = some (.next, ⟨[.val (treePV t), .bld ms.length, .unset, .unset, .unset, .unset, .unset], ms ++ .lst (([] : List Nat).map iv) :: []⟩) := snew (τ1 := startSt 7 [treePV t] ms) qnil (by exact ltl rfl) (Nat.zero_le _) rfl
  have hr : bfV .range1 [iv t.length] = some (.range ((0 : Nat) : Int) (t.length : Int)) := range1_iv (by omega)
  have hi : itemsV (.range ((0 : Nat) : Int) (t.length : Int)) = some ((List.range t.length).map iv) := by
    rw [items_range (by decide) (by omega), List.range_eq_range', Nat.sub_zero]
  have e2 := ex_for (Φ := Φ) (γ := γ0) (b := imgBody) (qbf1 (qlen (i := 0) rfl (len_map ndPV L2)) hr) hi h
  rw [List.nil_append] at e2
  have hl := img_len w ht (List.range t.length)
  have e3 : ex Φ γ0 (.ret (.bf .bytes [(.var 1)])) ⟨[.val (treePV t), .bld ms.length, b2, b3, b4, b5, b6], ms ++ .lst ((imgOf t).map iv) :: D⟩ = some (.ret (.bytes (arr (imgOf t))), ⟨[.val (treePV t), .val (.list ((imgOf t).map iv)), b2, b3, b4, b5, b6], ms ++ .dead :: D⟩) := by
    have q := qfreeze (Φ := Φ) (γ := γ0) (τ := ⟨[.val (treePV t), .bld ms.length, b2, b3, b4, b5, b6], ms ++ .lst ((imgOf t).map iv) :: D⟩) (i := 1) (k := ms.length) (xs := (imgOf t).map iv) rfl (by simp)
    rw [show (ms ++ MCell.lst ((imgOf t).map iv) :: D).set ms.length .dead = ms ++ .dead :: D by simp] at q
    refine sret (qbf1 q (bytes_iv (img_small w ht) ?_))
    unfold imgOf
    refine Nat.le_trans hl (Nat.le_trans (Nat.mul_le_mul_left _ (show (List.range t.length).length ≤ 20 by simpa using ht)) (by decide))
  show gRun Φ γ0 1 7 c_law_image _ ms = _
  rw [run_ret (np := 1) (n := 7) (cs := c_law_image) rfl ((exs_next e1).trans ((exs_next e2).trans (exs_ret e3))) rfl]
  simp
end
end Mine
end
noncomputable section
open PySem PySem.W PyProof.Rows PySem.Calls
set_option Elab.async false
set_option linter.unusedVariables false
set_option linter.unusedSimpArgs false
set_option linter.unusedSectionVars false
set_option maxRecDepth 100000
namespace Mine
/-! reading -/
theorem arr_size (l : List Nat) : (arr l).size = l.length := by simp [arr]
theorem arr_cut (pre x suf : List Nat) : (arr (pre ++ x ++ suf)).extract pre.length (pre.length + x.length) = arr x := by
  apply Array.toList_inj.mp
  simp [arr, Array.toList_extract, List.extract_eq_drop_take]
theorem readL {ms : List MCell} {k : Nat} {pre x suf : List Nat} (h : ms[k]? = some (.pos (pre.length : Int))) (hl : (pre ++ x ++ suf).length ≤ lid) :
    readV ms (.strm k (arr (pre ++ x ++ suf))) (iv x.length) = some (.bytes (arr x), ms.set k (.pos ((pre.length + x.length : Nat) : Int))) := by
  have h1 : pre.length ≤ lid ∧ x.length ≤ lid := by simp at hl; omega
  refine bnd (a := (k, arr (pre ++ x ++ suf))) rfl (bnd (a := (x.length : Int)) rfl (bnd (posAt_of h) ?_))
  rw [if_pos ⟨Int.natCast_nonneg _, Int.natCast_nonneg _, by rw [arr_size]; exact hl, Int.ofNat_le.mpr h1.2, Int.ofNat_le.mpr h1.1⟩]
  rw [← Int.natCast_add, Int.toNat_natCast, Int.toNat_natCast, arr_cut, arr_size]
  rfl
theorem readEnd {ms : List MCell} {k : Nat} {l : List Nat} (h : ms[k]? = some (.pos (l.length : Int))) (hl : l.length ≤ lid) : endV ms (.strm k (arr l)) = some ms := by
  have e : (arr l).extract l.length (l.length + 1) = #[] := by
    apply Array.toList_inj.mp
    simp [arr, Array.toList_extract, List.extract_eq_drop_take]
  refine bnd (a := (.bytes #[], ms)) ?_ (bnd (a := #[]) rfl rfl)
  refine bnd (a := (k, arr l)) rfl (bnd (a := (1 : Int)) rfl (bnd (posAt_of h) ?_))
  rw [if_pos ⟨Int.natCast_nonneg _, by decide, by rw [arr_size]; exact hl, by decide, Int.ofNat_le.mpr hl⟩]
  have e2 : ((l.length : Int) + 1).toNat = l.length + 1 := by omega
  rw [e2, Int.toNat_natCast, e]
  have hk : k < ms.length := (List.getElem?_eq_some_iff.mp h).1
  have : ms.set k (.pos ((l.length : Int) + ((#[] : Array UInt8).size : Int))) = ms := by
    apply List.ext_getElem?
    intro i
    rw [List.getElem?_set]
    by_cases q : k = i
    · subst q; rw [if_pos rfl, if_pos hk, h]; rfl
    · rw [if_neg q]
  rw [this]
theorem notEnd {ms : List MCell} {k : Nat} {pre suf : List Nat} {x : Nat} (h : ms[k]? = some (.pos (pre.length : Int))) (hl : (pre ++ x :: suf).length ≤ lid) : endV ms (.strm k (arr (pre ++ x :: suf))) = none := by
  have := readL (ms := ms) (k := k) (pre := pre) (x := [x]) (suf := suf) h (by simpa using hl)
  rw [show pre ++ [x] ++ suf = pre ++ x :: suf by simp] at this
  unfold endV
  rw [show (PV.int 1) = iv [x].length from rfl, this]; rfl
theorem truth_bytes {l : List Nat} (h : l.length ≤ lid) : truthV (.bytes (arr l)) = some (decide (l ≠ [])) := by
  show (if (arr l).size ≤ lid then some ((arr l).size != 0) else none) = _
  rw [arr_size, if_pos h]
  cases l <;> rfl
theorem len_bytes {l : List Nat} (h : l.length ≤ lid) : lenV (.bytes (arr l)) = some (iv l.length) := by
  show (if (arr l).size ≤ lid then some (PV.int (arr l).size) else none) = _
  rw [arr_size, if_pos h]; rfl
theorem set_len {ms : List MCell} {k : Nat} {c : MCell} : (ms.set k c).take ms.length = ms.set k c := List.take_of_length_le (by simp)
theorem u1_run {Φ : Fns} {ms : List MCell} {k : Nat} {pre suf : List Nat} {x : Nat} (h : ms[k]? = some (.pos (pre.length : Int))) (hl : (pre ++ x :: suf).length ≤ lid) (hx : x < 256) :
    gRun Φ γ0 1 n_read_uint1.length c_read_uint1 [.strm k (arr (pre ++ x :: suf))] ms = some (iv x, ms.set k (.pos ((pre.length + 1 : Nat) : Int))) := by
  have hr := readL (ms := ms) (k := k) (pre := pre) (x := [x]) (suf := suf) h (by simpa using hl)
  rw [show pre ++ [x] ++ suf = pre ++ x :: suf by simp] at hr
  have e1 : ex Φ γ0 (.assign 1 (.read (.var 0) (.int 1))) (startSt 2 [.strm k (arr (pre ++ x :: suf))] ms) = some (.next, ⟨[.val (.strm k (arr (pre ++ x :: suf))), .val (.bytes (arr [x]))], ms.set k (.pos ((pre.length + 1 : Nat) : Int))⟩) :=
    sasg (τ1 := ⟨[.val (.strm k (arr (pre ++ x :: suf))), .unset], ms.set k (.pos ((pre.length + 1 : Nat) : Int))⟩) (qread (τ2 := startSt 2 [.strm k (arr (pre ++ x :: suf))] ms) (qvar (i := 0) (v := .strm k (arr (pre ++ x :: suf))) rfl) (qiv 1) hr) (by exact ltl rfl) rfl
  have it : itemV (.bytes (arr [x])) (iv 0) = some (iv x) := by
    show (if (0 : Int) ≤ ((0 : Nat) : Int) ∧ (arr [x]).size ≤ lid then ((arr [x])[((0 : Nat) : Int).toNat]?).map fun b => PV.int b.toNat else none) = _
    rw [if_pos ⟨by decide, by rw [arr_size]; simp only [List.length_cons, List.length_nil]; decide⟩]
    have : (UInt8.ofNat x).toNat = x := by simp; omega
    simp [arr, iv, this]
  have e2 := (ex_ite_t (Φ := Φ) (γ := γ0) (b := []) (qvarT (i := 1) (τ := ⟨[.val (.strm k (arr (pre ++ x :: suf))), .val (.bytes (arr [x]))], ms.set k (.pos ((pre.length + 1 : Nat) : Int))⟩) rfl (truth_bytes (l := [x]) (by simp only [List.length_cons, List.length_nil]; decide)))).trans (exs_one (sret (qsub (i := 1) rfl (qiv 0) it)))
  show gRun Φ γ0 1 2 c_read_uint1 _ ms = _
  rw [run_ret (np := 1) (n := 2) (cs := c_read_uint1) rfl ((exs_next e1).trans (exs_ret e2)) rfl, set_len]

/-- what the readers answer -/
noncomputable def gU (xs : List PV) (ms : List MCell) : Option (PV × List MCell) := oneT xs fun k o => (posAt ms k).bind fun p => if 0 ≤ p ∧ o.size ≤ lid then (o[p.toNat]?).map fun b => (.int (b.toNat : Int), ms.set k (.pos (p + 1))) else none
theorem arr_of (o : Array UInt8) : ∃ l : List Nat, o = arr l ∧ ∀ x ∈ l, x < 256 := by
  refine ⟨o.toList.map (·.toNat), ?_, ?_⟩
  · apply Array.toList_inj.mp
    simp [arr, Function.comp_def]
  · intro x hx
    obtain ⟨b, _, rfl⟩ := List.mem_map.mp hx
    exact b.toNat_lt
theorem u1_spec {Φ : Fns} : ∀ xs ms r, gU xs ms = some r → gRun Φ γ0 1 n_read_uint1.length c_read_uint1 xs ms = some r := by
  intro xs ms r h
  obtain ⟨k, o, rfl, h⟩ := oneT_inv h
  refine bdk h fun p hp h => ifk h fun hc h => ?_
  have hp := posAt_inv hp
  obtain ⟨b, hb, rfl⟩ := Option.map_eq_some_iff.mp h
  obtain ⟨l, rfl, hl⟩ := arr_of o
  obtain ⟨q, rfl⟩ : ∃ q : Nat, p = q := ⟨p.toNat, by omega⟩
  rw [Int.toNat_natCast] at hb
  have hq : q < l.length := by
    have := (Array.getElem?_eq_some_iff.mp hb).1
    rwa [arr_size] at this
  have hl2 : l = l.take q ++ l[q] :: l.drop (q + 1) := by rw [← List.drop_eq_getElem_cons hq, List.take_append_drop]
  have hx : l[q] < 256 := hl _ (List.getElem_mem hq)
  have hbx : b.toNat = l[q] := by
    simp only [arr] at hb
    rw [List.getElem?_toArray, List.getElem?_map, List.getElem?_eq_getElem hq] at hb
    cases hb
    simp; omega
  have hlen : (l.take q).length = q := by rw [List.length_take]; omega
  have := u1_run (Φ := Φ) (ms := ms) (k := k) (pre := l.take q) (suf := l.drop (q + 1)) (x := l[q]) (by rw [hlen]; exact hp) (by rw [← hl2]; have := hc.2; rwa [arr_size] at this) hx
  rw [← hl2, hlen] at this
  rw [this, hbx]; rfl
theorem gU_list {ms : List MCell} {k : Nat} {pre suf : List Nat} {x : Nat} (h : ms[k]? = some (.pos (pre.length : Int))) (hl : (pre ++ x :: suf).length ≤ lid) (hx : x < 256) : gU [.strm k (arr (pre ++ x :: suf))] ms = some (iv x, ms.set k (.pos ((pre.length + 1 : Nat) : Int))) := by
  have hb : (arr (pre ++ x :: suf))[pre.length]? = some (UInt8.ofNat x) := by simp [arr]
  have ht : (UInt8.ofNat x).toNat = x := by simp; omega
  show ((posAt ms k).bind fun p => if 0 ≤ p ∧ (arr (pre ++ x :: suf)).size ≤ lid then ((arr (pre ++ x :: suf))[p.toNat]?).map fun b => (PV.int (b.toNat : Int), ms.set k (.pos (p + 1))) else none) = _
  rw [posAt_of h, Option.bind_some, if_pos ⟨Int.natCast_nonneg _, by rw [arr_size]; exact hl⟩, Int.toNat_natCast, hb, Option.map_some, ht]; rfl

/-- one counted piece -/
theorem piece_run {Φ : Fns} (hΦ : Φ "read_uint1" = some gU) {e : X} {z : PV} {ms : List MCell} {k : Nat} {pre x suf : List Nat} (h : ms[k]? = some (.pos (pre.length : Int))) (hl : (pre ++ x.length :: (x ++ suf)).length ≤ lid) (hx : x.length < 256)
    (he : ∀ ms', ev Φ γ0 e ⟨[.val (.strm k (arr (pre ++ x.length :: (x ++ suf)))), .val (iv x.length), .val (.bytes (arr x))], ms'⟩ = some (z, ⟨[.val (.strm k (arr (pre ++ x.length :: (x ++ suf)))), .val (iv x.length), .val (.bytes (arr x))], ms'⟩)) (hz : z.isS = false) :
    gRun Φ γ0 1 3 [.assign 1 (.call "read_uint1" [(.var 0)]), .assert (.cmp .GtE (.var 1) (.int 0)), .assign 2 (.read (.var 0) (.var 1)), .ite (.cmp .Eq (.len (.var 2)) (.var 1)) [.ret e] [], .any] [.strm k (arr (pre ++ x.length :: (x ++ suf)))] ms =
      some (z, ms.set k (.pos ((pre.length + 1 + x.length : Nat) : Int))) := by
  have hk : k < ms.length := (List.getElem?_eq_some_iff.mp h).1
  have g1 := gU_list h hl hx
  have e1 : ex Φ γ0 (.assign 1 (.call "read_uint1" [(.var 0)])) (startSt 3 [.strm k (arr (pre ++ x.length :: (x ++ suf)))] ms) = some (.next, ⟨[.val (.strm k (arr (pre ++ x.length :: (x ++ suf)))), .val (iv x.length), .unset], ms.set k (.pos ((pre.length + 1 : Nat) : Int))⟩) :=
    sasg (τ1 := ⟨[.val (.strm k (arr (pre ++ x.length :: (x ++ suf)))), .unset, .unset], ms.set k (.pos ((pre.length + 1 : Nat) : Int))⟩) (qcall1 (τ1 := startSt 3 [.strm k (arr (pre ++ x.length :: (x ++ suf)))] ms) hΦ (qvar (i := 0) (v := .strm k (arr (pre ++ x.length :: (x ++ suf)))) rfl) g1) (by exact ltl rfl) rfl
  have e2 : ex Φ γ0 (.assert (.cmp .GtE (.var 1) (.int 0))) ⟨[.val (.strm k (arr (pre ++ x.length :: (x ++ suf)))), .val (iv x.length), .unset], ms.set k (.pos ((pre.length + 1 : Nat) : Int))⟩ = some (.next, ⟨[.val (.strm k (arr (pre ++ x.length :: (x ++ suf)))), .val (iv x.length), .unset], ms.set k (.pos ((pre.length + 1 : Nat) : Int))⟩) := by
    refine sassert (qcmpT (qvar (i := 1) (v := iv x.length) rfl) (qiv 0) ?_)
    show some (decide ((x.length : Int) ≥ ((0 : Nat) : Int))) = _
    rw [decide_eq_true (by omega)]
  have hs : (ms.set k (.pos ((pre.length + 1 : Nat) : Int)))[k]? = some (.pos (((pre ++ [x.length]).length : Nat) : Int)) := by
    rw [List.getElem?_set_self hk]; simp
  have hr := readL (pre := pre ++ [x.length]) (x := x) (suf := suf) hs (by simpa using hl)
  rw [show pre ++ [x.length] ++ x ++ suf = pre ++ x.length :: (x ++ suf) by simp, List.set_set, show (pre ++ [x.length]).length + x.length = pre.length + 1 + x.length by simp] at hr
  have e3 : ex Φ γ0 (.assign 2 (.read (.var 0) (.var 1))) ⟨[.val (.strm k (arr (pre ++ x.length :: (x ++ suf)))), .val (iv x.length), .unset], ms.set k (.pos ((pre.length + 1 : Nat) : Int))⟩ = some (.next, ⟨[.val (.strm k (arr (pre ++ x.length :: (x ++ suf)))), .val (iv x.length), .val (.bytes (arr x))], ms.set k (.pos ((pre.length + 1 + x.length : Nat) : Int))⟩) :=
    sasg (τ1 := ⟨[.val (.strm k (arr (pre ++ x.length :: (x ++ suf)))), .val (iv x.length), .unset], ms.set k (.pos ((pre.length + 1 + x.length : Nat) : Int))⟩) (qread (qvar (i := 0) rfl) (qvar (i := 1) rfl) hr) (by exact ltl rfl) rfl
  have q4 : evT Φ γ0 (.cmp .Eq (.len (.var 2)) (.var 1)) ⟨[.val (.strm k (arr (pre ++ x.length :: (x ++ suf)))), .val (iv x.length), .val (.bytes (arr x))], ms.set k (.pos ((pre.length + 1 + x.length : Nat) : Int))⟩ = some (decide (x.length = x.length), ⟨[.val (.strm k (arr (pre ++ x.length :: (x ++ suf)))), .val (iv x.length), .val (.bytes (arr x))], ms.set k (.pos ((pre.length + 1 + x.length : Nat) : Int))⟩) :=
    qcmpT (qlen (i := 2) rfl (len_bytes (Nat.le_trans (Nat.le_of_lt hx) (by decide)))) (qvar (i := 1) (v := iv x.length) rfl) (cmp_iv _ _)
  rw [decide_eq_true rfl] at q4
  have e4 := (ex_ite_t (b := []) q4).trans (exs_one (sret (he _)))
  rw [run_ret (np := 1) (n := 3) rfl ((exs_next e1).trans ((exs_next e2).trans ((exs_next e3).trans (exs_ret e4)))) hz, set_len]
theorem s1_run {Φ : Fns} (hΦ : Φ "read_uint1" = some gU) {ms : List MCell} {k : Nat} {pre x suf : List Nat} (h : ms[k]? = some (.pos (pre.length : Int))) (hl : (pre ++ x.length :: (x ++ suf)).length ≤ lid) (hx : 1 ≤ x.length ∧ x.length ≤ 3) (hs : ∀ c ∈ x, c < 256) :
    gRun Φ γ0 1 n_read_string1.length c_read_string1 [.strm k (arr (pre ++ x.length :: (x ++ suf)))] ms = some (sv x, ms.set k (.pos ((pre.length + 1 + x.length : Nat) : Int))) := by
  have hd : mfV .decode (.bytes (arr x)) [sv [108, 97, 116, 105, 110, 45, 49]] = some (sv x) := by
    show (if (strOf [108, 97, 116, 105, 110, 45, 49] == Str.ofString "latin-1" && decide (1 ≤ (arr x).size ∧ (arr x).size ≤ 3)) = true then some (PV.str ⟨(arr x).map fun b => b.toNat⟩) else none) = _
    rw [arr_size, decide_eq_true hx, if_pos (by decide +kernel)]
    congr 1
    show PV.str _ = PV.str _
    congr 1
    apply Str.ext'
    apply Array.toList_inj.mp
    simp only [arr, strOf, Array.toList_map, List.map_map]
    rw [List.map_congr_left (g := id) (fun c hc => by have := hs c hc; simp; omega)]
    simp
  exact piece_run hΦ h hl (by omega) (e := .mf .decode (.var 2) [(.str [108, 97, 116, 105, 110, 45, 49])]) (fun ms' => qmf1 (qvar (i := 2) rfl) (y := sv [108, 97, 116, 105, 110, 45, 49]) rfl hd) rfl
theorem b1_run {Φ : Fns} (hΦ : Φ "read_uint1" = some gU) {ms : List MCell} {k : Nat} {pre x suf : List Nat} (h : ms[k]? = some (.pos (pre.length : Int))) (hl : (pre ++ x.length :: (x ++ suf)).length ≤ lid) (hx : x.length < 256) :
    gRun Φ γ0 1 n_read_bytes1.length c_read_bytes1 [.strm k (arr (pre ++ x.length :: (x ++ suf)))] ms = some (.bytes (arr x), ms.set k (.pos ((pre.length + 1 + x.length : Nat) : Int))) :=
  piece_run hΦ h hl hx (e := .var 2) (fun ms' => qvar (i := 2) rfl) rfl
end Mine
namespace Mine
theorem arr_back {l : List Nat} (h : ∀ x ∈ l, x < 256) : (arr l).toList.map (·.toNat) = l := by
  simp only [arr, List.map_map]
  rw [List.map_congr_left (g := id) (fun c hc => by have := h c hc; simp; omega)]
  simp
noncomputable def pieceAt (ms : List MCell) (k : Nat) (o : Array UInt8) : Option (List Nat × Nat) := (posAt ms k).bind fun p => if 0 ≤ p ∧ o.size ≤ lid ∧ p.toNat < o.size ∧ (((o.toList.map (·.toNat)).drop (p.toNat + 1)).take ((o.toList.map (·.toNat)).getD p.toNat 0)).length = (o.toList.map (·.toNat)).getD p.toNat 0 then
      some (((o.toList.map (·.toNat)).drop (p.toNat + 1)).take ((o.toList.map (·.toNat)).getD p.toNat 0), p.toNat + 1 + (o.toList.map (·.toNat)).getD p.toNat 0)
    else none
theorem piece_spec {ms : List MCell} {k : Nat} {o : Array UInt8} {x : List Nat} {e : Nat} (h : pieceAt ms k o = some (x, e)) :
    ∃ pre suf, o = arr (pre ++ x.length :: (x ++ suf)) ∧ ms[k]? = some (.pos (pre.length : Int)) ∧ (pre ++ x.length :: (x ++ suf)).length ≤ lid ∧ x.length < 256 ∧ (∀ c ∈ x, c < 256) ∧ e = pre.length + 1 + x.length := by
  refine bdk h fun p hp h => ifk h fun hc h => ?_
  have hp := posAt_inv hp
  obtain ⟨c1, c2, c3, c4⟩ := hc
  obtain ⟨l, rfl, hl⟩ := arr_of o
  obtain ⟨q, rfl⟩ : ∃ q : Nat, p = q := ⟨p.toNat, by omega⟩
  rw [arr_back hl] at h c4
  rw [Int.toNat_natCast] at h c3 c4
  rw [arr_size] at c2 c3
  simp only [Option.some.injEq, Prod.mk.injEq] at h
  obtain ⟨rfl, rfl⟩ := h
  have hn : l.getD q 0 = l[q] := by rw [List.getD_eq_getElem?_getD, List.getElem?_eq_getElem c3]; rfl
  rw [hn] at c4 ⊢
  have hlen : (l.take q).length = q := by rw [List.length_take]; omega
  have hl2 : l = l.take q ++ ((l.drop (q + 1)).take l[q]).length :: ((l.drop (q + 1)).take l[q] ++ (l.drop (q + 1)).drop l[q]) := by
    rw [c4, List.take_append_drop, ← List.drop_eq_getElem_cons c3, List.take_append_drop]
  refine ⟨l.take q, (l.drop (q + 1)).drop l[q], by rw [← hl2], by rw [hlen]; exact hp, by rw [← hl2]; exact c2, by rw [c4]; exact hl _ (List.getElem_mem c3), fun c hc => hl c (List.mem_of_mem_drop (List.mem_of_mem_take hc)), by rw [hlen, c4]⟩
theorem piece_list {ms : List MCell} {k : Nat} {pre x suf : List Nat} (h : ms[k]? = some (.pos (pre.length : Int))) (hl : (pre ++ x.length :: (x ++ suf)).length ≤ lid) (hs : ∀ c ∈ pre ++ x.length :: (x ++ suf), c < 256) :
    pieceAt ms k (arr (pre ++ x.length :: (x ++ suf))) = some (x, pre.length + 1 + x.length) := by
  have e1 : (pre ++ x.length :: (x ++ suf)).getD pre.length 0 = x.length := by simp [List.getD_eq_getElem?_getD]
  have e2 : ((pre ++ x.length :: (x ++ suf)).drop (pre.length + 1)).take x.length = x := by
    rw [show pre ++ x.length :: (x ++ suf) = (pre ++ [x.length]) ++ (x ++ suf) by simp, List.drop_left' (by simp), List.take_left' rfl]
  unfold pieceAt
  rw [posAt_of h, Option.bind_some, arr_back hs, Int.toNat_natCast, e1, e2, if_pos ⟨Int.natCast_nonneg _, by rw [arr_size]; exact hl, by rw [arr_size]; simp, rfl⟩]
noncomputable def gS1 (xs : List PV) (ms : List MCell) : Option (PV × List MCell) := oneT xs fun k o => (pieceAt ms k o).bind fun p => if 1 ≤ p.1.length ∧ p.1.length ≤ 3 then some (sv p.1, ms.set k (.pos ((p.2 : Nat) : Int))) else none
noncomputable def gB1 (xs : List PV) (ms : List MCell) : Option (PV × List MCell) := oneT xs fun k o => (pieceAt ms k o).bind fun p => some (.bytes (arr p.1), ms.set k (.pos ((p.2 : Nat) : Int)))
theorem s1_spec {Φ : Fns} (hΦ : Φ "read_uint1" = some gU) : ∀ xs ms r, gS1 xs ms = some r → gRun Φ γ0 1 n_read_string1.length c_read_string1 xs ms = some r := by
  intro xs ms r h
  obtain ⟨k, o, rfl, h⟩ := oneT_inv h
  refine bdk h fun p h1 h => ifk h fun hx h => ?_
  obtain ⟨pre, suf, rfl, a1, a2, a3, a4, e⟩ := piece_spec (x := p.1) (e := p.2) h1
  rw [e] at h
  exact (s1_run hΦ a1 a2 hx a4).trans h
theorem b1_spec {Φ : Fns} (hΦ : Φ "read_uint1" = some gU) : ∀ xs ms r, gB1 xs ms = some r → gRun Φ γ0 1 n_read_bytes1.length c_read_bytes1 xs ms = some r := by
  intro xs ms r h
  obtain ⟨k, o, rfl, h⟩ := oneT_inv h
  refine bdk h fun p h1 h => ?_
  obtain ⟨pre, suf, rfl, a1, a2, a3, a4, e⟩ := piece_spec (x := p.1) (e := p.2) h1
  rw [e] at h
  exact (b1_run hΦ a1 a2 a3).trans h

/-! _law_entries -/
noncomputable def entPV (e : List Nat × Nat) : PV := .tup [sv e.1, iv e.2]
noncomputable def entsPV (es : List (List Nat × Nat)) : PV := .list (es.map entPV)
noncomputable def encE (e : List Nat × Nat) : List Nat := e.2 :: e.1.length :: e.1
theorem blk_ents (t : List Nd) (o : Nat) : blkOf t o = (entsOf t o).flatMap encE := by
  unfold blkOf entsOf
  simp only [List.flatMap_cons, List.flatMap_map]
  rfl
noncomputable def entBody : List C := [.app 1 (.tup [(.call "read_string1" [(.var 0)]), (.var 2)])]
noncomputable abbrev eS (o : Array UInt8) (k : Nat) (s2 : Slot) (M : List MCell) (p : Nat) (done : List (List Nat × Nat)) : St := ⟨[.val (.strm k o), .bld M.length, s2], M.set k (.pos ((p : Nat) : Int)) ++ [.lst (done.map entPV)]⟩
section
variable {Φ : Fns} (h1 : Φ "read_uint1" = some gU) (h2 : Φ "read_string1" = some gS1)
include h1 h2
theorem ent_turn {L pre suf : List Nat} {e : List Nat × Nat} {done : List (List Nat × Nat)} {k : Nat} {M : List MCell} {s2 : Slot} (hk : k < M.length) (hL : L = pre ++ encE e ++ suf) (hs : ∀ c ∈ L, c < 256) (hl : L.length ≤ lid) (hd : done.length + 1 ≤ lid) (he : 1 ≤ e.1.length ∧ e.1.length ≤ 3) :
    ((ev Φ γ0 (.call "read_uint1" [.var 0]) (eS (arr L) k s2 M pre.length done)).bind fun p => (setV 2 p.1 p.2).bind fun τ2 => exs Φ γ0 entBody τ2) =
      some (.next, eS (arr L) k (.val (iv e.2)) M (pre ++ encE e).length (done ++ [e])) := by
  have g0 : ∀ p c, (M.set k (.pos p) ++ [c])[k]? = some (.pos p) := fun p c => by
    rw [List.getElem?_append_left (by simpa using hk), List.getElem?_set_self hk]
  have g1 : ∀ p q c, (M.set k (.pos p) ++ [c]).set k (.pos q) = M.set k (.pos q) ++ [c] := fun p q c => by
    rw [List.set_append_left _ _ (by simpa using hk), List.set_set]
  have hL1 : L = pre ++ e.2 :: (e.1.length :: (e.1 ++ suf)) := by rw [hL]; simp [encE]
  have hL2 : L = (pre ++ [e.2]) ++ e.1.length :: (e.1 ++ suf) := by rw [hL]; simp [encE]
  have hx : e.2 < 256 := hs _ (by rw [hL1]; simp)
  have c1 := gU_list (ms := M.set k (.pos ((pre.length : Nat) : Int)) ++ [.lst (done.map entPV)]) (k := k) (pre := pre) (x := e.2) (suf := e.1.length :: (e.1 ++ suf)) (g0 _ _) (by rw [← hL1]; exact hl) hx
  rw [← hL1, g1] at c1
  have q1 : ev Φ γ0 (.call "read_uint1" [.var 0]) (eS (arr L) k s2 M pre.length done) = some (iv e.2, eS (arr L) k s2 M (pre.length + 1) done) :=
    qcall1 (τ1 := eS (arr L) k s2 M pre.length done) h1 (qvar (i := 0) (v := .strm k (arr L)) rfl) c1
  have hp : (M.set k (.pos ((pre.length + 1 : Nat) : Int)) ++ [.lst (done.map entPV)])[k]? = some (.pos (((pre ++ [e.2]).length : Nat) : Int)) := by
    rw [g0]; simp
  have c2 : gS1 [.strm k (arr L)] (M.set k (.pos ((pre.length + 1 : Nat) : Int)) ++ [.lst (done.map entPV)]) = some (sv e.1, M.set k (.pos (((pre ++ encE e).length : Nat) : Int)) ++ [.lst (done.map entPV)]) := by
    have := piece_list (x := e.1) (suf := suf) hp (by rw [← hL2]; exact hl) (by rw [← hL2]; exact hs)
    rw [← hL2] at this
    have hn : (pre ++ [e.2]).length + 1 + e.1.length = (pre ++ encE e).length := by simp [encE]; omega
    show ((pieceAt (M.set k (.pos ((pre.length + 1 : Nat) : Int)) ++ [MCell.lst (done.map entPV)]) k (arr L)).bind fun p => if 1 ≤ p.1.length ∧ p.1.length ≤ 3 then some (sv p.1, (M.set k (.pos ((pre.length + 1 : Nat) : Int)) ++ [MCell.lst (done.map entPV)]).set k (.pos ((p.2 : Nat) : Int))) else none) = _
    rw [this, Option.bind_some, if_pos he, hn, g1]
  rw [q1]
  have hs2 : setV 2 (iv e.2) (eS (arr L) k s2 M (pre.length + 1) done) = some (eS (arr L) k (.val (iv e.2)) M (pre.length + 1) done) := rfl
  simp only [Option.bind_some, hs2]
  have q2 := qtup (qcons (qcall1 (Φ := Φ) (γ := γ0) (τ := eS (arr L) k (.val (iv e.2)) M (pre.length + 1) done) (τ1 := eS (arr L) k (.val (iv e.2)) M (pre.length + 1) done) h2 (qvar (i := 0) (v := .strm k (arr L)) rfl) c2) (qcons (qvar (i := 2) (v := iv e.2) rfl) qnil)) (by simp only [List.length_cons, List.length_nil]; decide) rfl
  have hM : ∀ p, (M.set k (.pos p)).length = M.length := fun p => by simp
  have gl : ∀ p c, (M.set k (.pos p) ++ [c])[M.length]? = some c := fun p c => by
    rw [← hM p]; exact get_last _ _
  have sl : ∀ p c c', (M.set k (.pos p) ++ [c]).set M.length c' = M.set k (.pos p) ++ [c'] := fun p c c' => by
    rw [← hM p]; exact set_last _ _ _
  have := sapp (i := 1) (k := M.length) rfl (gl _ _) q2 (gl _ _) (by rw [List.length_map]; exact hd) rfl
  rw [sl] at this
  refine (exs_one this).trans ?_
  simp only [eS, List.map_append, List.map_cons, List.map_nil]; rfl
theorem ent_loop {L : List Nat} {k : Nat} {M : List MCell} (hk : k < M.length) (hs : ∀ c ∈ L, c < 256) (hl : L.length ≤ lid) : ∀ (rest done : List (List Nat × Nat)) (pre : List Nat) (s2 : Slot) (fuel : Nat), L = pre ++ rest.flatMap encE → done.length + rest.length ≤ 1000 → (∀ e ∈ rest, 1 ≤ e.1.length ∧ e.1.length ≤ 3) → rest.length < fuel →
    ∃ s2', tryL (finV 0 1) (fun τ => (ev Φ γ0 (.call "read_uint1" [.var 0]) τ).bind fun p => (setV 2 p.1 p.2).bind fun τ2 => exs Φ γ0 entBody τ2) fuel (eS (arr L) k s2 M pre.length done) =
      some (.ret (entsPV (done ++ rest)), ⟨[.val (.strm k (arr L)), .val (entsPV (done ++ rest)), s2'], M.set k (.pos ((L.length : Nat) : Int)) ++ [.dead]⟩)
  | [], done, pre, s2, 0, hL, hd, he, hf => by simp at hf
  | [], done, pre, s2, fuel + 1, hL, hd, he, hf => by
    have hL : L = pre := by simpa using hL
    subst hL
    refine ⟨s2, ?_⟩
    have g0 : (M.set k (.pos ((L.length : Nat) : Int)) ++ [.lst (done.map entPV)])[k]? = some (.pos ((L.length : Nat) : Int)) := by
      rw [List.getElem?_append_left (by simpa using hk), List.getElem?_set_self hk]
    have hfin : finV 0 1 (eS (arr L) k s2 M L.length done) = some (.ret (entsPV (done ++ [])), ⟨[.val (.strm k (arr L)), .val (entsPV (done ++ [])), s2], M.set k (.pos ((L.length : Nat) : Int)) ++ [.dead]⟩) := by
      have he := readEnd g0 hl
      have hM : (M.set k (.pos ((L.length : Nat) : Int))).length = M.length := by simp
      have gl : (M.set k (.pos ((L.length : Nat) : Int)) ++ [MCell.lst (done.map entPV)])[M.length]? = some (MCell.lst (done.map entPV)) := by rw [← hM]; exact get_last _ _
      have sl : (M.set k (.pos ((L.length : Nat) : Int)) ++ [MCell.lst (done.map entPV)]).set M.length MCell.dead = M.set k (MCell.pos ((L.length : Nat) : Int)) ++ [MCell.dead] := by rw [← hM]; exact set_last _ _ _
      have lk : look (eS (arr L) k s2 M L.length done) 1 = some (entsPV done, ⟨[.val (.strm k (arr L)), .val (entsPV done), s2], M.set k (.pos ((L.length : Nat) : Int)) ++ [.dead]⟩) := by
        have : look (eS (arr L) k s2 M L.length done) 1 = (match (M.set k (.pos ((L.length : Nat) : Int)) ++ [MCell.lst (done.map entPV)])[M.length]? with
          | some (MCell.lst xs) => some (PV.list xs, (⟨([Slot.val (.strm k (arr L)), Slot.bld M.length, s2]).set 1 (.val (.list xs)), (M.set k (.pos ((L.length : Nat) : Int)) ++ [MCell.lst (done.map entPV)]).set M.length MCell.dead⟩ : St))
          | _ => none) := rfl
        rw [this, gl, sl]; rfl
      unfold finV
      show ((endV (M.set k (.pos ((L.length : Nat) : Int)) ++ [.lst (done.map entPV)]) (.strm k (arr L))).bind fun ms => (look ⟨[.val (.strm k (arr L)), .bld M.length, s2], ms⟩ 1).map fun p => (Fl.ret p.1, p.2)) = _
      rw [he, Option.bind_some, lk, List.append_nil]; rfl
    exact tryL_fin hfin
  | e :: rest, done, pre, s2, 0, hL, hd, he, hf => by simp at hf
  | e :: rest, done, pre, s2, fuel + 1, hL, hd, he, hf => by
    simp only [List.length_cons] at hd hf
    have hL' : L = pre ++ encE e ++ rest.flatMap encE := by rw [hL, List.flatMap_cons, List.append_assoc]
    have ht := ent_turn h1 h2 (done := done) (s2 := s2) (e := e) hk hL' hs hl (Nat.le_trans (by omega : done.length + 1 ≤ 1000) (by decide)) (he e (List.mem_cons_self ..))
    obtain ⟨b, ih⟩ := ent_loop hk hs hl rest (done ++ [e]) (pre ++ encE e) (.val (iv e.2)) fuel hL' (by simp; omega) (fun x hx => he x (List.mem_cons_of_mem _ hx)) (by omega)
    refine ⟨b, ?_⟩
    have hnf : finV 0 1 (eS (arr L) k s2 M pre.length done) = none := by
      have g0 : (M.set k (.pos ((pre.length : Nat) : Int)) ++ [.lst (done.map entPV)])[k]? = some (.pos ((pre.length : Nat) : Int)) := by
        rw [List.getElem?_append_left (by simpa using hk), List.getElem?_set_self hk]
      have hL1 : L = pre ++ e.2 :: (e.1.length :: (e.1 ++ rest.flatMap encE)) := by rw [hL']; simp [encE]
      have := notEnd (x := e.2) (suf := e.1.length :: (e.1 ++ rest.flatMap encE)) g0 (by rw [← hL1]; exact hl)
      rw [← hL1] at this
      unfold finV
      show ((endV (M.set k (.pos ((pre.length : Nat) : Int)) ++ [.lst (done.map entPV)]) (.strm k (arr L))).bind _) = _
      rw [this]; rfl
    refine (tryL_turn hnf ht).trans (ih.trans ?_)
    simp
theorem ents_run {es : List (List Nat × Nat)} {k : Nat} {ms : List MCell} (h : ms[k]? = some (.pos 0)) (hs : ∀ c ∈ es.flatMap encE, c < 256) (hl : (es.flatMap encE).length ≤ lid) (hd : es.length ≤ 1000) (he : ∀ e ∈ es, 1 ≤ e.1.length ∧ e.1.length ≤ 3) :
    gRun Φ γ0 1 n_law_entries.length c_law_entries [.strm k (arr (es.flatMap encE))] ms = some (entsPV es, ms.set k (.pos (((es.flatMap encE).length : Nat) : Int))) := by
  have hk : k < ms.length := (List.getElem?_eq_some_iff.mp h).1
  have e1 : ex Φ γ0 (.assign 1 (.lst [])) (startSt 3 [.strm k (arr (es.flatMap encE))] ms) = some (.next, eS (arr (es.flatMap encE)) k .unset ms ([] : List Nat).length []) := by
    have := snew (Φ := Φ) (γ := γ0) (i := 1) (τ := startSt 3 [.strm k (arr (es.flatMap encE))] ms) (τ1 := startSt 3 [.strm k (arr (es.flatMap encE))] ms) qnil (by exact ltl rfl) (Nat.zero_le _) rfl
    refine this.trans ?_
    have hm : ms = ms.set k (.pos 0) := by
      apply List.ext_getElem?
      intro i
      rw [List.getElem?_set]
      by_cases q : k = i
      · subst q; rw [if_pos rfl, if_pos hk, h]
      · rw [if_neg q]
    show some (Fl.next, (⟨[.val (.strm k (arr (es.flatMap encE))), .bld ms.length, .unset], ms ++ [.lst []]⟩ : St)) = some (Fl.next, ⟨[.val (.strm k (arr (es.flatMap encE))), .bld ms.length, .unset], ms.set k (.pos 0) ++ [.lst []]⟩)
    rw [← hm]
  obtain ⟨b, h3⟩ := ent_loop h1 h2 hk hs hl es [] [] .unset 100000 rfl (by simpa using hd) he (by omega)
  have e0 : ∀ τ, ex Φ γ0 (.tryw 2 0 entBody 1) τ = tryL (finV 0 1) (fun τ => (ev Φ γ0 (.call "read_uint1" [.var 0]) τ).bind fun p => (setV 2 p.1 p.2).bind fun τ2 => exs Φ γ0 entBody τ2) 100000 τ := fun τ => if_pos (by rw [h1]; rfl)
  have e2 := (e0 _).trans h3
  show gRun Φ γ0 1 3 c_law_entries _ ms = _
  rw [run_ret (np := 1) (n := 3) (cs := c_law_entries) rfl ((exs_next e1).trans (exs_ret e2)) rfl]
  have : (ms.set k (.pos (((es.flatMap encE).length : Nat) : Int)) ++ [MCell.dead]).take ms.length = ms.set k (.pos (((es.flatMap encE).length : Nat) : Int)) := by
    rw [List.take_left' (by simp)]
  simp only [this]; rfl
end
end Mine
end
noncomputable section
open PySem PySem.W PyProof.Rows PySem.Calls
set_option Elab.async false
set_option linter.unusedVariables false
set_option linter.unusedSimpArgs false
set_option linter.unusedSectionVars false
set_option maxRecDepth 100000
namespace Mine
/-! _law_disk -/
noncomputable def rowPV (t : List Nd) (k : Nat) : PV := .tup [sv (fmL (nd t k).mode), entsPV (entsOf t (ownerOf t k))]
noncomputable def diskPV (t : List Nd) : PV := .list ((List.range t.length).map (rowPV t))
noncomputable def gEnt (t : List Nd) (xs : List PV) (ms : List MCell) : Option (PV × List MCell) := oneT xs fun k o => (posAt ms k).bind fun p => (o[0]?).bind fun b => if p = 0 ∧ b.toNat < t.length ∧ o = arr (blkOf t b.toNat) then some (entsPV (entsOf t b.toNat), ms.set k (.pos ((o.size : Nat) : Int))) else none
theorem gStream_use {o : Array UInt8} {r X : List MCell} : gStream [.bytes o] ((.tab true :: r) ++ X) = some (.strm ((.tab true :: r) ++ X).length o, ((.tab true :: r) ++ X) ++ [.pos 0]) := rfl
theorem mA (N D : List MCell) (a b : MCell) : (N ++ a :: b :: D)[N.length]? = some a := by simp
theorem mB (N D : List MCell) (a b : MCell) : (N ++ a :: b :: D)[N.length + 1]? = some b := by simp
theorem mC (N D : List MCell) (a b a' : MCell) : (N ++ a :: b :: D).set N.length a' = N ++ a' :: b :: D := by simp
theorem mD (N D : List MCell) (a b b' : MCell) : (N ++ a :: b :: D).set (N.length + 1) b' = N ++ a :: b' :: D := by simp


section
variable {t : List Nd} {fs : List Nat} (w : WF t fs) (ht : t.length ≤ 20)
include w ht
theorem ents_ok {o : Nat} (ho : o < t.length) : (entsOf t o).length ≤ 1000 ∧ ∀ e ∈ entsOf t o, 1 ≤ e.1.length ∧ e.1.length ≤ 3 := by
  constructor
  · have := kids_len w (by omega) o
    unfold entsOf; simp only [List.length_cons, List.length_map]; omega
  · intro e he
    unfold entsOf at he
    rcases List.mem_cons.mp he with rfl | he
    · simp
    · rcases List.mem_cons.mp he with rfl | he
      · simp [dd]
      · obtain ⟨c, hc, rfl⟩ := List.mem_map.mp he
        obtain ⟨c1, c0, _⟩ := mem_kids.mp hc
        have h3 := (w.ok c c0 c1).2.2.1
        simp [nm4] at h3
        rcases h3 with h | h | h | h <;> simp [h]
theorem ent_spec {Φ : Fns} (h1 : Φ "read_uint1" = some gU) (h2 : Φ "read_string1" = some gS1) : ∀ xs ms r, gEnt t xs ms = some r → gRun Φ γ0 1 n_law_entries.length c_law_entries xs ms = some r := by
  intro xs ms r h
  obtain ⟨k, o, rfl, h⟩ := oneT_inv h
  refine bdk h fun p hp h => bdk h fun b hb h => ifk h fun hc hf => ?_
  have hp := posAt_inv hp
  obtain ⟨rfl, hlt, ho⟩ := hc
  replace ho : o = arr (blkOf t b.toNat) := ho
  replace hp : ms[k]? = some (.pos 0) := hp
  rw [← hf]
  show _ = some (_, ms.set k (.pos ((o.size : Nat) : Int)))
  obtain ⟨q1, q2⟩ := ents_ok w ht hlt
  have hs := blk_small w ht _ hlt
  have hl := blk_len w (by omega) b.toNat
  have := ents_run h1 h2 (es := entsOf t b.toNat) hp (by rw [← blk_ents]; exact hs) (by rw [← blk_ents]; exact Nat.le_trans hl (by decide)) q1 q2
  rw [← blk_ents] at this
  rw [ho, arr_size]; exact this
theorem gEnt_use {o k : Nat} {ms : List MCell} (ho : o < t.length) (h : ms[k]? = some (.pos 0)) : gEnt t [.strm k (arr (blkOf t o))] ms = some (entsPV (entsOf t o), ms.set k (.pos (((blkOf t o).length : Nat) : Int))) := by
  have hb : (arr (blkOf t o))[0]? = some (UInt8.ofNat o) := by simp [arr, blkOf]
  have hn : (UInt8.ofNat o).toNat = o := by simp; omega
  refine bnd (posAt_of h) (bnd hb ?_)
  rw [hn, if_pos ⟨rfl, ho, rfl⟩, arr_size]
noncomputable abbrev dS (im : PV) (o : Array UInt8) (s3 s4 s5 : Slot) (N : List MCell) (p : Nat) (done : List PV) (D : List MCell) : St := ⟨[.val im, .val (.strm N.length o), .bld (N.length + 1), s3, s4, s5], N ++ .pos ((p : Nat) : Int) :: .lst done :: D⟩
noncomputable def diskBody : List C := [.assign 4 (.bin .Add (.var 3) (.bin .Mult (.int 256) (.call "read_uint1" [(.var 1)]))),
    .assign 5 (.call "_law_stream" [(.call "read_bytes1" [(.var 1)])]),
    .app 2 (.tup [(.call "filemode" [(.var 4)]), (.call "_law_entries" [(.var 5)])])]
variable {Φ : Fns} (h1 : Φ "read_uint1" = some gU) (h2 : Φ "read_bytes1" = some gB1) (h3 : Φ "_law_stream" = some gStream) (h4 : Φ "filemode" = some gFm) (h5 : Φ "_law_entries" = some (gEnt t))
include h1 h2 h3 h4 h5
theorem disk_turn {im : PV} {L pre suf : List Nat} {k : Nat} {done : List PV} {r0 D : List MCell} {s3 s4 s5 : Slot} (hk : k < t.length) (hL : L = pre ++ recOf t k ++ suf) (hs : ∀ c ∈ L, c < 256) (hl : L.length ≤ lid) (hd : done.length + 1 ≤ lid) :
    ∃ s3' s4' s5' D', ((ev Φ γ0 (.call "read_uint1" [.var 1]) (dS im (arr L) s3 s4 s5 (.tab true :: r0) pre.length done D)).bind fun p => (setV 3 p.1 p.2).bind fun τ2 => exs Φ γ0 diskBody τ2) =
      some (.next, dS im (arr L) s3' s4' s5' (.tab true :: r0) (pre ++ recOf t k).length (done ++ [rowPV t k]) D') := by
  have hN : ∃ N, N = MCell.tab true :: r0 := ⟨_, rfl⟩
  obtain ⟨N, hN⟩ := hN
  have ho := owner_lt w (by omega) hk
  have hL1 : L = pre ++ (nd t k).mode % 256 :: ((nd t k).mode / 256 :: (blkOf t (ownerOf t k)).length :: (blkOf t (ownerOf t k) ++ suf)) := by rw [hL]; simp [recOf]
  have hL2 : L = (pre ++ [(nd t k).mode % 256]) ++ (nd t k).mode / 256 :: ((blkOf t (ownerOf t k)).length :: (blkOf t (ownerOf t k) ++ suf)) := by rw [hL]; simp [recOf]
  have hL3 : L = (pre ++ [(nd t k).mode % 256, (nd t k).mode / 256]) ++ (blkOf t (ownerOf t k)).length :: (blkOf t (ownerOf t k) ++ suf) := by rw [hL]; simp [recOf]
  have hx1 : (nd t k).mode % 256 < 256 := Nat.mod_lt _ (by decide)
  have hx2 : (nd t k).mode / 256 < 256 := by have := w.md k hk; omega
  have c1 := gU_list (ms := N ++ .pos ((pre.length : Nat) : Int) :: .lst done :: D) (k := N.length) (mA _ _ _ _) (by rw [← hL1]; exact hl) hx1
  rw [← hL1, mC] at c1
  have q1 : ev Φ γ0 (.call "read_uint1" [.var 1]) (dS im (arr L) s3 s4 s5 N pre.length done D) = some (iv ((nd t k).mode % 256), dS im (arr L) s3 s4 s5 N (pre.length + 1) done D) :=
    qcall1 (τ1 := dS im (arr L) s3 s4 s5 N pre.length done D) h1 (qvar (i := 1) (v := .strm N.length (arr L)) rfl) c1
  have hs3 : setV 3 (iv ((nd t k).mode % 256)) (dS im (arr L) s3 s4 s5 N (pre.length + 1) done D) = some (dS im (arr L) (.val (iv ((nd t k).mode % 256))) s4 s5 N (pre.length + 1) done D) := rfl
  have hp2 : (N ++ MCell.pos ((pre.length + 1 : Nat) : Int) :: .lst done :: D)[N.length]? = some (MCell.pos (((pre ++ [(nd t k).mode % 256]).length : Nat) : Int)) := by rw [mA]; simp
  have c2 := gU_list (k := N.length) hp2 (by rw [← hL2]; exact hl) hx2
  rw [← hL2, mC] at c2
  have hlen2 : (pre ++ [(nd t k).mode % 256]).length + 1 = pre.length + 2 := by simp
  rw [hlen2] at c2
  have e4 : ex Φ γ0 (.assign 4 (.bin .Add (.var 3) (.bin .Mult (.int 256) (.call "read_uint1" [(.var 1)])))) (dS im (arr L) (.val (iv ((nd t k).mode % 256))) s4 s5 N (pre.length + 1) done D) =
      some (.next, dS im (arr L) (.val (iv ((nd t k).mode % 256))) (.val (iv (nd t k).mode)) s5 N (pre.length + 2) done D) := by
    have hm : (nd t k).mode % 256 + 256 * ((nd t k).mode / 256) = (nd t k).mode := Nat.mod_add_div _ _
    have q := sasg (i := 4) (Φ := Φ) (γ := γ0) (τ := dS im (arr L) (.val (iv ((nd t k).mode % 256))) s4 s5 N (pre.length + 1) done D) (τ1 := dS im (arr L) (.val (iv ((nd t k).mode % 256))) s4 s5 N (pre.length + 2) done D)
      (qbin (qvar (i := 3) rfl) (qbin (qiv 256) (qcall1 (τ1 := dS im (arr L) (.val (iv ((nd t k).mode % 256))) s4 s5 N (pre.length + 1) done D) h1 (qvar (i := 1) (v := .strm N.length (arr L)) rfl) c2) (mul_iv _ (by decide))) (add_iv _ _)) (by exact ltl rfl) rfl
    rw [hm] at q
    exact q
  have hp3 : (N ++ MCell.pos ((pre.length + 2 : Nat) : Int) :: .lst done :: D)[N.length]? = some (MCell.pos (((pre ++ [(nd t k).mode % 256, (nd t k).mode / 256]).length : Nat) : Int)) := by rw [mA]; simp
  have hlen3 : (pre ++ [(nd t k).mode % 256, (nd t k).mode / 256]).length + 1 + (blkOf t (ownerOf t k)).length = (pre ++ recOf t k).length := by simp [recOf]; omega
  have c3 : gB1 [.strm N.length (arr L)] (N ++ .pos ((pre.length + 2 : Nat) : Int) :: .lst done :: D) = some (.bytes (arr (blkOf t (ownerOf t k))), N ++ .pos (((pre ++ recOf t k).length : Nat) : Int) :: .lst done :: D) := by
    have := piece_list (x := blkOf t (ownerOf t k)) (suf := suf) hp3 (by rw [← hL3]; exact hl) (by rw [← hL3]; exact hs)
    rw [← hL3] at this
    show ((pieceAt (N ++ MCell.pos ((pre.length + 2 : Nat) : Int) :: .lst done :: D) N.length (arr L)).bind fun p => some (PV.bytes (arr p.1), (N ++ MCell.pos ((pre.length + 2 : Nat) : Int) :: .lst done :: D).set N.length (.pos ((p.2 : Nat) : Int)))) = _
    rw [this, Option.bind_some, hlen3, mC]
  have c4 : gStream [.bytes (arr (blkOf t (ownerOf t k)))] (N ++ .pos (((pre ++ recOf t k).length : Nat) : Int) :: .lst done :: D) = some (.strm (N ++ .pos (((pre ++ recOf t k).length : Nat) : Int) :: .lst done :: D).length (arr (blkOf t (ownerOf t k))), N ++ .pos (((pre ++ recOf t k).length : Nat) : Int) :: .lst done :: (D ++ [.pos 0])) := by
    rw [hN, gStream_use]; simp
  generalize hJ : (N ++ MCell.pos (((pre ++ recOf t k).length : Nat) : Int) :: .lst done :: D).length = J at c4
  have e5 : ex Φ γ0 (.assign 5 (.call "_law_stream" [(.call "read_bytes1" [(.var 1)])])) (dS im (arr L) (.val (iv ((nd t k).mode % 256))) (.val (iv (nd t k).mode)) s5 N (pre.length + 2) done D) =
      some (.next, dS im (arr L) (.val (iv ((nd t k).mode % 256))) (.val (iv (nd t k).mode)) (.val (.strm J (arr (blkOf t (ownerOf t k))))) N (pre ++ recOf t k).length done (D ++ [.pos 0])) :=
    sasg (i := 5) (τ1 := dS im (arr L) (.val (iv ((nd t k).mode % 256))) (.val (iv (nd t k).mode)) s5 N (pre ++ recOf t k).length done (D ++ [.pos 0]))
      (qcall1 (τ1 := dS im (arr L) (.val (iv ((nd t k).mode % 256))) (.val (iv (nd t k).mode)) s5 N (pre ++ recOf t k).length done D) h3
        (qcall1 (τ1 := dS im (arr L) (.val (iv ((nd t k).mode % 256))) (.val (iv (nd t k).mode)) s5 N (pre.length + 2) done D) h2 (qvar (i := 1) (v := .strm N.length (arr L)) rfl) c3) c4) (by exact ltl rfl) rfl
  have c6 : gEnt t [.strm J (arr (blkOf t (ownerOf t k)))] (N ++ .pos (((pre ++ recOf t k).length : Nat) : Int) :: .lst done :: (D ++ [.pos 0])) = some (entsPV (entsOf t (ownerOf t k)), N ++ .pos (((pre ++ recOf t k).length : Nat) : Int) :: .lst done :: (D ++ [.pos (((blkOf t (ownerOf t k)).length : Nat) : Int)])) := by
    have e : N ++ MCell.pos (((pre ++ recOf t k).length : Nat) : Int) :: .lst done :: (D ++ [.pos 0]) = (N ++ MCell.pos (((pre ++ recOf t k).length : Nat) : Int) :: .lst done :: D) ++ [.pos 0] := by simp
    rw [e, gEnt_use w ht ho (by rw [← hJ]; exact get_last _ _), ← hJ, set_last]; simp
  have cf : gFm [iv (nd t k).mode] (N ++ .pos (((pre ++ recOf t k).length : Nat) : Int) :: .lst done :: (D ++ [.pos 0])) = some (sv (fmL (nd t k).mode), N ++ .pos (((pre ++ recOf t k).length : Nat) : Int) :: .lst done :: (D ++ [.pos 0])) := by
    show (if (0 : Int) ≤ ((nd t k).mode : Int) then some (sv (fmL ((nd t k).mode : Int).toNat), _) else none) = _
    rw [if_pos (Int.natCast_nonneg _), Int.toNat_natCast]
  have q6 := qtup (qcons (qcall1 (Φ := Φ) (γ := γ0) (τ := dS im (arr L) (.val (iv ((nd t k).mode % 256))) (.val (iv (nd t k).mode)) (.val (.strm J (arr (blkOf t (ownerOf t k))))) N (pre ++ recOf t k).length done (D ++ [.pos 0])) (τ1 := dS im (arr L) (.val (iv ((nd t k).mode % 256))) (.val (iv (nd t k).mode)) (.val (.strm J (arr (blkOf t (ownerOf t k))))) N (pre ++ recOf t k).length done (D ++ [.pos 0])) h4 (qvar (i := 4) (v := iv (nd t k).mode) rfl) cf)
    (qcons (qcall1 (τ1 := dS im (arr L) (.val (iv ((nd t k).mode % 256))) (.val (iv (nd t k).mode)) (.val (.strm J (arr (blkOf t (ownerOf t k))))) N (pre ++ recOf t k).length done (D ++ [.pos 0])) h5 (qvar (i := 5) (v := .strm J (arr (blkOf t (ownerOf t k)))) rfl) c6) qnil)) (by simp only [List.length_cons, List.length_nil]; decide) rfl
  have e6 := sapp (i := 2) (k := N.length + 1) rfl (mB _ _ _ _) q6 (mB _ _ _ _) hd rfl
  rw [mD] at e6
  refine ⟨.val (iv ((nd t k).mode % 256)), .val (iv (nd t k).mode), .val (.strm J (arr (blkOf t (ownerOf t k)))), D ++ [.pos (((blkOf t (ownerOf t k)).length : Nat) : Int)], ?_⟩
  rw [← hN, q1]
  simp only [Option.bind_some, hs3]
  exact (exs_next e4).trans ((exs_next e5).trans (exs_one e6))
theorem disk_loop {im : PV} {L : List Nat} {r0 : List MCell} (hs : ∀ c ∈ L, c < 256) (hl : L.length ≤ lid) : ∀ (ks : List Nat) (done : List PV) (pre : List Nat) (D : List MCell) (s3 s4 s5 : Slot) (fuel : Nat), L = pre ++ ks.flatMap (recOf t) → (∀ k ∈ ks, k < t.length) → done.length + ks.length ≤ 1000 → ks.length < fuel →
    ∃ s3' s4' s5' D', tryL (finV 1 2) (fun τ => (ev Φ γ0 (.call "read_uint1" [.var 1]) τ).bind fun p => (setV 3 p.1 p.2).bind fun τ2 => exs Φ γ0 diskBody τ2) fuel (dS im (arr L) s3 s4 s5 (.tab true :: r0) pre.length done D) =
      some (.ret (.list (done ++ ks.map (rowPV t))), ⟨[.val im, .val (.strm (MCell.tab true :: r0).length (arr L)), .val (.list (done ++ ks.map (rowPV t))), s3', s4', s5'], (.tab true :: r0) ++ D'⟩)
  | [], done, pre, D, s3, s4, s5, 0, hL, hk, hd, hf => by simp at hf
  | [], done, pre, D, s3, s4, s5, fuel + 1, hL, hk, hd, hf => by
    have hL : L = pre := by simpa using hL
    subst hL
    refine ⟨s3, s4, s5, .pos ((L.length : Nat) : Int) :: .dead :: D, ?_⟩
    have hN : ∃ N, N = MCell.tab true :: r0 := ⟨_, rfl⟩
    obtain ⟨N, hN⟩ := hN
    rw [← hN]
    have he := readEnd (mA N D (.pos ((L.length : Nat) : Int)) (.lst done)) hl
    have hfin : finV 1 2 (dS im (arr L) s3 s4 s5 N L.length done D) = some (.ret (.list (done ++ ([] : List Nat).map (rowPV t))), ⟨[.val im, .val (.strm N.length (arr L)), .val (.list (done ++ ([] : List Nat).map (rowPV t))), s3, s4, s5], N ++ .pos ((L.length : Nat) : Int) :: .dead :: D⟩) := by
      have lk : look (dS im (arr L) s3 s4 s5 N L.length done D) 2 = some (.list done, ⟨[.val im, .val (.strm N.length (arr L)), .val (.list done), s3, s4, s5], N ++ .pos ((L.length : Nat) : Int) :: .dead :: D⟩) := by
        have : look (dS im (arr L) s3 s4 s5 N L.length done D) 2 = (match (N ++ MCell.pos ((L.length : Nat) : Int) :: MCell.lst done :: D)[N.length + 1]? with
          | some (MCell.lst xs) => some (PV.list xs, (⟨([Slot.val im, Slot.val (.strm N.length (arr L)), Slot.bld (N.length + 1), s3, s4, s5]).set 2 (.val (.list xs)), (N ++ MCell.pos ((L.length : Nat) : Int) :: MCell.lst done :: D).set (N.length + 1) MCell.dead⟩ : St))
          | _ => none) := rfl
        rw [this, mB, mD]; rfl
      unfold finV
      show ((endV (N ++ .pos ((L.length : Nat) : Int) :: .lst done :: D) (.strm N.length (arr L))).bind fun ms => (look ⟨[.val im, .val (.strm N.length (arr L)), .bld (N.length + 1), s3, s4, s5], ms⟩ 2).map fun p => (Fl.ret p.1, p.2)) = _
      rw [he, Option.bind_some, lk]; simp
    exact tryL_fin hfin
  | k :: ks, done, pre, D, s3, s4, s5, 0, hL, hk, hd, hf => by simp at hf
  | k :: ks, done, pre, D, s3, s4, s5, fuel + 1, hL, hk, hd, hf => by
    simp only [List.length_cons] at hd hf
    have hL' : L = pre ++ recOf t k ++ ks.flatMap (recOf t) := by rw [hL, List.flatMap_cons, List.append_assoc]
    obtain ⟨a3, a4, a5, D1, ht'⟩ := disk_turn w ht h1 h2 h3 h4 h5 (im := im) (r0 := r0) (D := D) (s3 := s3) (s4 := s4) (s5 := s5) (done := done) (hk k (List.mem_cons_self ..)) hL' hs hl (Nat.le_trans (by omega : done.length + 1 ≤ 1000) (by decide))
    obtain ⟨b3, b4, b5, D2, ih⟩ := disk_loop (im := im) (r0 := r0) hs hl ks (done ++ [rowPV t k]) (pre ++ recOf t k) D1 a3 a4 a5 fuel hL' (fun x hx => hk x (List.mem_cons_of_mem _ hx)) (by simp; omega) (by omega)
    refine ⟨b3, b4, b5, D2, ?_⟩
    have hnf : finV 1 2 (dS im (arr L) s3 s4 s5 (.tab true :: r0) pre.length done D) = none := by
      have hL1 : L = pre ++ (nd t k).mode % 256 :: ((nd t k).mode / 256 :: (blkOf t (ownerOf t k)).length :: (blkOf t (ownerOf t k) ++ ks.flatMap (recOf t))) := by rw [hL']; simp [recOf]
      have := notEnd (x := (nd t k).mode % 256) (suf := ((nd t k).mode / 256 :: (blkOf t (ownerOf t k)).length :: (blkOf t (ownerOf t k) ++ ks.flatMap (recOf t)))) (mA (.tab true :: r0) D (.pos ((pre.length : Nat) : Int)) (.lst done)) (by rw [← hL1]; exact hl)
      rw [← hL1] at this
      unfold finV
      show ((endV ((.tab true :: r0) ++ .pos ((pre.length : Nat) : Int) :: .lst done :: D) (.strm (MCell.tab true :: r0).length (arr L))).bind _) = _
      rw [this]; rfl
    refine (tryL_turn hnf ht').trans (ih.trans ?_)
    simp
theorem disk_run {b : Bool} {r0 : List MCell} : gRun Φ γ0 1 n_law_disk.length c_law_disk [.bytes (arr (imgOf t))] (.tab b :: r0) = some (diskPV t, .tab true :: r0) := by
  have hl : (imgOf t).length ≤ lid := by
    have := img_len w ht (List.range t.length)
    rw [List.length_range] at this
    exact Nat.le_trans this (Nat.le_trans (Nat.mul_le_mul_left _ ht) (by decide))
  have e1 : ex Φ γ0 (.assign 1 (.call "_law_stream" [(.var 0)])) (startSt 6 [.bytes (arr (imgOf t))] (.tab b :: r0)) = some (.next, ⟨[.val (.bytes (arr (imgOf t))), .val (.strm (MCell.tab true :: r0).length (arr (imgOf t))), .unset, .unset, .unset, .unset], (.tab true :: r0) ++ [.pos 0]⟩) :=
    sasg (τ1 := ⟨[.val (.bytes (arr (imgOf t))), .unset, .unset, .unset, .unset, .unset], (.tab true :: r0) ++ [.pos 0]⟩) (qcall1 (τ1 := startSt 6 [.bytes (arr (imgOf t))] (.tab b :: r0)) h3 (qvar (i := 0) (v := .bytes (arr (imgOf t))) rfl) rfl) (by exact ltl rfl) rfl
  have e2 : ex Φ γ0 (.assign 2 (.lst [])) ⟨[.val (.bytes (arr (imgOf t))), .val (.strm (MCell.tab true :: r0).length (arr (imgOf t))), .unset, .unset, .unset, .unset], (.tab true :: r0) ++ [.pos 0]⟩ = some (.next, dS (.bytes (arr (imgOf t))) (arr (imgOf t)) .unset .unset .unset (.tab true :: r0) ([] : List Nat).length [] []) := by
    have := snew (Φ := Φ) (γ := γ0) (i := 2) (τ := ⟨[.val (.bytes (arr (imgOf t))), .val (.strm (MCell.tab true :: r0).length (arr (imgOf t))), .unset, .unset, .unset, .unset], (.tab true :: r0) ++ [.pos 0]⟩) (τ1 := ⟨[.val (.bytes (arr (imgOf t))), .val (.strm (MCell.tab true :: r0).length (arr (imgOf t))), .unset, .unset, .unset, .unset], (.tab true :: r0) ++ [.pos 0]⟩) qnil (by exact ltl rfl) (Nat.zero_le _) rfl
    refine this.trans ?_
    simp [dS]
  obtain ⟨b3, b4, b5, D, h⟩ := disk_loop w ht h1 h2 h3 h4 h5 (im := .bytes (arr (imgOf t))) (r0 := r0) (img_small w ht) hl (List.range t.length) [] [] [] .unset .unset .unset 100000 rfl (fun k hk => List.mem_range.mp hk) (by simp; omega) (by simp; omega)
  have e0 : ∀ τ, ex Φ γ0 (.tryw 3 1 diskBody 2) τ = tryL (finV 1 2) (fun τ => (ev Φ γ0 (.call "read_uint1" [.var 1]) τ).bind fun p => (setV 3 p.1 p.2).bind fun τ2 => exs Φ γ0 diskBody τ2) 100000 τ := fun τ => if_pos (by rw [h1]; rfl)
  have e3 := (e0 _).trans h
  show gRun Φ γ0 1 6 c_law_disk _ _ = _
  rw [run_ret (np := 1) (n := 6) (cs := c_law_disk) rfl ((exs_next e1).trans ((exs_next e2).trans (exs_ret e3))) rfl]
  have : ((MCell.tab true :: r0) ++ D).take (MCell.tab b :: r0).length = MCell.tab true :: r0 := List.take_left' rfl
  simp only [this]; rfl
end
end Mine
end
noncomputable section
open PySem PySem.W PyProof.Rows PySem.Calls
set_option Elab.async false
set_option linter.unusedVariables false
set_option linter.unusedSimpArgs false
set_option linter.unusedSectionVars false
set_option maxRecDepth 100000
namespace Mine
/-! _law_climb and _law_step -/
theorem ne_iv (a b : Nat) : cmpV .NotEq (iv a) (iv b) = some (decide (a ≠ b)) := by
  show some ((a : Int) != (b : Int)) = _
  by_cases h : a = b
  · subst h; simp
  · have : ((a : Int) != (b : Int)) = true := by simp; omega
    rw [this, decide_eq_true h]
section
variable {t : List Nd} {fs : List Nat} (w : WF t fs) (ht : t.length ≤ 20)
include w ht
theorem disk_item {k : Nat} (hk : k < t.length) : itemV (diskPV t) (iv k) = some (rowPV t k) := by
  have hl : ((List.range t.length).map (rowPV t)).length ≤ lid := by simp only [List.length_map, List.length_range]; exact Nat.le_trans ht (by decide)
  exact item_list hl (by rw [List.getElem?_map, List.getElem?_range hk]; rfl)
theorem owner_fs {k : Nat} (hk : k ∈ fs) : ownerOf t k = k := by
  unfold ownerOf; rw [if_pos (w.mem_fs.mp hk).2]
/-- the entries of a folder -/
theorem qents {Φ : Fns} {τ : St} {i : Nat} {j : X} {k : Nat} (h : τ.loc[i]? = some (.val (diskPV t))) (hj : ev Φ γ0 j τ = some (iv k, τ)) (hk : k ∈ fs) : ev Φ γ0 (.sub (.sub (.var i) j) (.int 1)) τ = some (entsPV (entsOf t k), τ) := by
  have hk' := (w.mem_fs.mp hk).1
  have := qsubx (Φ := Φ) (γ := γ0) (τ := τ) (x := rowPV t k) (qsub h hj (disk_item w ht hk')) (qiv 1) (z := entsPV (entsOf t (ownerOf t k))) rfl rfl
  rw [owner_fs w ht hk] at this; exact this
theorem items_ents {k : Nat} (hk : k < t.length) : itemsV (entsPV (entsOf t k)) = some ((entsOf t k).map entPV) := by
  have hl : ((entsOf t k).map entPV).length ≤ lid := by rw [List.length_map]; exact Nat.le_trans (ents_ok w ht hk).1 (by decide)
  show (if ((entsOf t k).map entPV).length ≤ lid then some ((entsOf t k).map entPV) else none) = _
  rw [if_pos hl]
theorem above_of {a : Nat} (ha : a < t.length) : (entsOf t a).foldl (fun ab e => if e.1 = dd then e.2 else ab) 0 = (nd t a).above := by
  unfold entsOf
  simp only [List.foldl_cons]
  simp only [if_true]
  have : ∀ (cs : List Nat) (z : Nat), (∀ c ∈ cs, (nd t c).name ≠ dd) → (cs.map fun c => ((nd t c).name, c)).foldl (fun ab e => if e.1 = dd then e.2 else ab) z = z := by
    intro cs
    induction cs with
    | nil => intro z _; rfl
    | cons c cs ih =>
      intro z h
      rw [List.map_cons, List.foldl_cons, if_neg (h c (List.mem_cons_self ..))]
      exact ih z fun x hx => h x (List.mem_cons_of_mem _ hx)
  exact this _ _ fun c hc => by
    obtain ⟨c1, c0, _⟩ := mem_kids.mp hc
    exact (nm4_nm _ (w.ok c c0 c1).2.2.1).2.2.2
theorem up_fold {a : Nat} (h0 : 0 < a) (ha : a < t.length) (z : List Nat) : (entsOf t (nd t a).above).foldl (fun y e => if e.2 = a then 47 :: e.1 ++ y else y) z = 47 :: (nd t a).name ++ z := by
  have h1 := (w.ok a h0 ha).1
  have h2 : (nd t (nd t a).above).above < a := by
    by_cases q : (nd t a).above = 0
    · rw [q, w.nd0]; exact h0
    · have := (w.ok _ (by omega) (by omega : (nd t a).above < t.length)).1; omega
  unfold entsOf
  simp only [List.foldl_cons]
  rw [if_neg (by omega), if_neg (by omega)]
  have out : ∀ (cs : List Nat) (y : List Nat), a ∉ cs → (cs.map fun c => ((nd t c).name, c)).foldl (fun y e => if e.2 = a then 47 :: e.1 ++ y else y) y = y := by
    intro cs
    induction cs with
    | nil => intro y _; rfl
    | cons c cs ih =>
      intro y h
      rw [List.map_cons, List.foldl_cons, if_neg (fun e => h (by rw [← e]; exact List.mem_cons_self ..))]
      exact ih y fun hm => h (List.mem_cons_of_mem _ hm)
  have inn : ∀ (cs : List Nat) (y : List Nat), cs.Nodup → a ∈ cs → (cs.map fun c => ((nd t c).name, c)).foldl (fun y e => if e.2 = a then 47 :: e.1 ++ y else y) y = 47 :: (nd t a).name ++ y := by
    intro cs
    induction cs with
    | nil => intro y _ h; simp at h
    | cons c cs ih =>
      intro y hn hm
      obtain ⟨n1, n2⟩ := List.nodup_cons.mp hn
      rw [List.map_cons, List.foldl_cons]
      by_cases q : c = a
      · subst q
        rw [if_pos rfl, out cs _ n1]
      · rw [if_neg q]
        exact ih y n2 ((List.mem_cons.mp hm).resolve_left (Ne.symm q))
  exact inn _ _ (List.Pairwise.filter _ List.nodup_range) (mem_kids.mpr ⟨ha, h0, rfl⟩)

noncomputable abbrev cS (t : List Nd) (a : Nat) (y : List Nat) (s3 s4 s5 s6 : Slot) (ms : List MCell) : St := ⟨[.val (diskPV t), .val (iv a), .val (sv y), s3, s4, s5, s6], ms⟩
theorem climb_in1 {Φ : Fns} {a : Nat} {y : List Nat} {s3 : Slot} {ms : List MCell} : ∀ (es : List (List Nat × Nat)) (z : Nat) (s5 s6 : Slot), ∃ s5' s6', forL (setT [5, 6]) (exs Φ γ0 [.ite (.cmp .Eq (.var 5) (.str [46, 46])) [.assign 4 (.var 6)] []]) (exs Φ γ0 []) (es.map entPV) (cS t a y s3 (.val (iv z)) s5 s6 ms) =
    some (.next, cS t a y s3 (.val (iv (es.foldl (fun ab e => if e.1 = dd then e.2 else ab) z))) s5' s6' ms)
  | [], z, s5, s6 => ⟨s5, s6, by rw [List.map_nil, forL_nil, exs_nil]; rfl⟩
  | e :: es, z, s5, s6 => by
    have hs : setT [5, 6] (entPV e) (cS t a y s3 (.val (iv z)) s5 s6 ms) = some (cS t a y s3 (.val (iv z)) (.val (sv e.1)) (.val (iv e.2)) ms) := rfl
    have q : evT Φ γ0 (.cmp .Eq (.var 5) (.str [46, 46])) (cS t a y s3 (.val (iv z)) (.val (sv e.1)) (.val (iv e.2)) ms) = some (decide (e.1 = dd), cS t a y s3 (.val (iv z)) (.val (sv e.1)) (.val (iv e.2)) ms) := qcmpT (qvar (i := 5) (v := sv e.1) rfl) (y := sv dd) rfl (cmp_eq _ _)
    obtain ⟨b5, b6, ih⟩ := climb_in1 es (if e.1 = dd then e.2 else z) (.val (sv e.1)) (.val (iv e.2))
    refine ⟨b5, b6, ?_⟩
    rw [List.map_cons, List.foldl_cons, ← ih]
    by_cases h : e.1 = dd
    · rw [decide_eq_true h] at q
      rw [if_pos h]
      exact forL_next hs (exs_one ((ex_ite_t q).trans (exs_one (sasg (i := 4) (τ1 := cS t a y s3 (.val (iv z)) (.val (sv e.1)) (.val (iv e.2)) ms) (qvar (i := 6) (v := iv e.2) rfl) (by exact ltl rfl) rfl))))
    · rw [decide_eq_false h] at q
      rw [if_neg h]
      exact forL_next hs (exs_one ((ex_ite_f q).trans exs_nil))
theorem climb_in2 {Φ : Fns} {a : Nat} {s3 s4 : Slot} {ms : List MCell} : ∀ (es : List (List Nat × Nat)) (y : List Nat) (s5 s6 : Slot), (∀ e ∈ es, e.1.length ≤ 3) → y.length + 4 * es.length ≤ 100000 → ∃ s5' s6', forL (setT [5, 6]) (exs Φ γ0 [.ite (.cmp .Eq (.var 6) (.var 1)) [.assign 2 (.bin .Add (.bin .Add (.str [47]) (.var 5)) (.var 2))] []]) (exs Φ γ0 []) (es.map entPV) (cS t a y s3 s4 s5 s6 ms) =
    some (.next, cS t a (es.foldl (fun y e => if e.2 = a then 47 :: e.1 ++ y else y) y) s3 s4 s5' s6' ms)
  | [], y, s5, s6, _, _ => ⟨s5, s6, by rw [List.map_nil, forL_nil, exs_nil]; rfl⟩
  | e :: es, y, s5, s6, he, hl => by
    simp only [List.length_cons] at hl
    have h3 := he e (List.mem_cons_self ..)
    have hs : setT [5, 6] (entPV e) (cS t a y s3 s4 s5 s6 ms) = some (cS t a y s3 s4 (.val (sv e.1)) (.val (iv e.2)) ms) := rfl
    have q : evT Φ γ0 (.cmp .Eq (.var 6) (.var 1)) (cS t a y s3 s4 (.val (sv e.1)) (.val (iv e.2)) ms) = some (decide (e.2 = a), cS t a y s3 s4 (.val (sv e.1)) (.val (iv e.2)) ms) := qcmpT (qvar (i := 6) (v := iv e.2) rfl) (qvar (i := 1) (v := iv a) rfl) (cmp_iv _ _)
    obtain ⟨b5, b6, ih⟩ := climb_in2 (a := a) (s3 := s3) (s4 := s4) (ms := ms) es (if e.2 = a then 47 :: e.1 ++ y else y) (.val (sv e.1)) (.val (iv e.2)) (fun x hx => he x (List.mem_cons_of_mem _ hx)) (by
      split
      · simp; omega
      · omega)
    refine ⟨b5, b6, ?_⟩
    rw [List.map_cons, List.foldl_cons, ← ih]
    by_cases h : e.2 = a
    · rw [decide_eq_true h] at q
      rw [if_pos h]
      have hq := sasg (Φ := Φ) (γ := γ0) (i := 2) (τ := cS t a y s3 s4 (.val (sv e.1)) (.val (iv e.2)) ms) (τ1 := cS t a y s3 s4 (.val (sv e.1)) (.val (iv e.2)) ms)
        (qbin (τ1 := cS t a y s3 s4 (.val (sv e.1)) (.val (iv e.2)) ms) (qbin (τ1 := cS t a y s3 s4 (.val (sv e.1)) (.val (iv e.2)) ms) (a := .str [47]) (x := sv [47]) rfl (qvar (i := 5) (v := sv e.1) rfl) (add_sv (Nat.le_trans (by simp; omega : _ ≤ 4) (by decide)))) (qvar (i := 2) (v := sv y) rfl) (add_sv (Nat.le_trans (by simp; omega : _ ≤ 200000) (by decide)))) (by exact ltl rfl) rfl
      exact forL_next hs (exs_one ((ex_ite_t q).trans (exs_one hq)))
    · rw [decide_eq_false h] at q
      rw [if_neg h]
      exact forL_next hs (exs_one ((ex_ite_f q).trans exs_nil))
noncomputable def climbBody : List C := [.ite (.cmp .Eq (.var 1) (.int 0)) [.brk] [],
    .assign 4 (.int 0),
    .forT [5, 6] (.sub (.sub (.var 0) (.var 1)) (.int 1))
      [.ite (.cmp .Eq (.var 5) (.str [46, 46])) [.assign 4 (.var 6)] []] [],
    .forT [5, 6] (.sub (.sub (.var 0) (.var 4)) (.int 1))
      [.ite (.cmp .Eq (.var 6) (.var 1)) [.assign 2 (.bin .Add (.bin .Add (.str [47]) (.var 5)) (.var 2))] []] [],
    .assign 1 (.var 4)]
theorem climb_turn {Φ : Fns} {a : Nat} {y : List Nat} {s3 s4 s5 s6 : Slot} {ms : List MCell} (h0 : 0 < a) (ha : a ∈ fs) (hy : y.length ≤ 50000) : ∃ s4' s5' s6', exs Φ γ0 climbBody (cS t a y s3 s4 s5 s6 ms) = some (.next, cS t (nd t a).above (47 :: (nd t a).name ++ y) s3 s4' s5' s6' ms) := by
  obtain ⟨hlt, _⟩ := w.mem_fs.mp ha
  have hab : (nd t a).above ∈ fs := w.mem_fs.mpr ⟨w.above_lt hlt, (w.ok a h0 hlt).2.1⟩
  have q0 : evT Φ γ0 (.cmp .Eq (.var 1) (.int 0)) (cS t a y s3 s4 s5 s6 ms) = some (decide (a = 0), cS t a y s3 s4 s5 s6 ms) := qcmpT (qvar (i := 1) (v := iv a) rfl) (qiv 0) (cmp_iv _ _)
  rw [decide_eq_false (by omega)] at q0
  have e1 := (ex_ite_f (a := [.brk]) q0).trans exs_nil
  have e2 : ex Φ γ0 (.assign 4 (.int 0)) (cS t a y s3 s4 s5 s6 ms) = some (.next, cS t a y s3 (.val (iv 0)) s5 s6 ms) := sasg (i := 4) (τ1 := cS t a y s3 s4 s5 s6 ms) (qiv 0) (by exact ltl rfl) rfl
  obtain ⟨a5, a6, h3⟩ := climb_in1 w ht (Φ := Φ) (a := a) (y := y) (s3 := s3) (ms := ms) (entsOf t a) 0 s5 s6
  rw [above_of w ht hlt] at h3
  have e3 := ex_forT (qents w ht (Φ := Φ) (τ := cS t a y s3 (.val (iv 0)) s5 s6 ms) (i := 0) rfl (qvar (i := 1) (v := iv a) rfl) ha) (items_ents w ht hlt) h3
  obtain ⟨b5, b6, h4⟩ := climb_in2 w ht (Φ := Φ) (a := a) (s3 := s3) (s4 := .val (iv (nd t a).above)) (ms := ms) (entsOf t (nd t a).above) y a5 a6 (fun e he => ((ents_ok w ht (w.above_lt hlt)).2 e he).2) (by have := (ents_ok w ht (w.above_lt hlt)).1; omega)
  rw [up_fold w ht h0 hlt] at h4
  have e4 := ex_forT (qents w ht (Φ := Φ) (τ := cS t a y s3 (.val (iv (nd t a).above)) a5 a6 ms) (i := 0) rfl (qvar (i := 4) (v := iv (nd t a).above) rfl) hab) (items_ents w ht (w.above_lt hlt)) h4
  have e5 : ex Φ γ0 (.assign 1 (.var 4)) (cS t a (47 :: (nd t a).name ++ y) s3 (.val (iv (nd t a).above)) b5 b6 ms) = some (.next, cS t (nd t a).above (47 :: (nd t a).name ++ y) s3 (.val (iv (nd t a).above)) b5 b6 ms) :=
    sasg (τ1 := cS t a (47 :: (nd t a).name ++ y) s3 (.val (iv (nd t a).above)) b5 b6 ms) (qvar (i := 4) (v := iv (nd t a).above) rfl) (by exact ltl rfl) rfl
  exact ⟨_, _, _, (exs_next e1).trans ((exs_next e2).trans ((exs_next e3).trans ((exs_next e4).trans (exs_one e5))))⟩
theorem climb_run {Φ : Fns} {k : Nat} {ms : List MCell} (hk : k ∈ fs) : gRun Φ γ0 2 n_law_climb.length c_law_climb [diskPV t, iv k] ms = some (sv (nd t k).way, ms) := by
  obtain ⟨hlt, _⟩ := w.mem_fs.mp hk
  have hwl : (pre t k).length ≤ 100 := by
    unfold pre; split
    · simp
    · have := w.way_len k hlt; omega
  have e1 : ex Φ γ0 (.assign 2 (.str [])) (startSt 7 [diskPV t, iv k] ms) = some (.next, cS t k [] .unset .unset .unset .unset ms) := sasg (i := 2) (e := .str []) (τ1 := startSt 7 [diskPV t, iv k] ms) (v := sv []) rfl (by exact ltl rfl) rfl
  obtain ⟨fl, τ', h1, h2⟩ := forL_inv (bd := setV 3) (body := exs Φ γ0 climbBody) (els := fun τ => some (.next, τ))
    (fun i τ => ∃ a y s3 s4 s5 s6, τ = cS t a y s3 s4 s5 s6 ms ∧ a ∈ fs ∧ pre t a ++ y = pre t k ∧ (a = 0 ∨ a + i ≤ k))
    (fun fl τ => fl = .next ∧ ∃ a s3 s4 s5 s6, τ = cS t a (pre t k) s3 s4 s5 s6 ms) ((List.range t.length).map (rowPV t)) 0 (cS t k [] .unset .unset .unset .unset ms)
    ⟨k, [], _, _, _, _, rfl, hk, by simp, .inr (by omega)⟩ (fun j x τ hx hI => by
      obtain ⟨a, y, s3, s4, s5, s6, rfl, ha, hy, hb⟩ := hI
      have hyl : y.length ≤ 100 := by
        have := congrArg List.length hy
        rw [List.length_append] at this; omega
      by_cases h0 : a = 0
      · subst h0
        have q0 : evT Φ γ0 (.cmp .Eq (.var 1) (.int 0)) (cS t 0 y (.val x) s4 s5 s6 ms) = some (decide (0 = 0), cS t 0 y (.val x) s4 s5 s6 ms) := qcmpT (qvar (i := 1) (v := iv 0) rfl) (qiv 0) (cmp_iv 0 0)
        rw [decide_eq_true rfl] at q0
        refine ⟨cS t 0 y (.val x) s4 s5 s6 ms, .brk, cS t 0 y (.val x) s4 s5 s6 ms, rfl, exs_stop ((ex_ite_t q0).trans (exs_one (r := (.brk, _)) rfl)) (fun e => by cases e), .inr (.inl ⟨rfl, rfl, 0, .val x, s4, s5, s6, ?_⟩)⟩
        have : y = pre t k := by rw [← hy]; simp [pre]
        rw [this]
      · obtain ⟨b4, b5, b6, ht'⟩ := climb_turn w ht (Φ := Φ) (s3 := .val x) (s4 := s4) (s5 := s5) (s6 := s6) (ms := ms) (by omega) ha (by omega : y.length ≤ 50000)
        refine ⟨cS t a y (.val x) s4 s5 s6 ms, .next, _, rfl, ht', .inl ⟨.inl rfl, (nd t a).above, _, _, _, _, _, rfl, ?_, ?_, ?_⟩⟩
        · have hla := (w.mem_fs.mp ha).1
          exact w.mem_fs.mpr ⟨w.above_lt hla, (w.ok a (by omega) hla).2.1⟩
        · have hla := (w.mem_fs.mp ha).1
          rw [← hy]
          have : pre t a = pre t (nd t a).above ++ 47 :: (nd t a).name := by
            rw [← (w.ok a (by omega) hla).2.2.2]; unfold pre; rw [if_neg h0]
          rw [this]; simp
        · have hla := (w.mem_fs.mp ha).1
          have := (w.ok a (by omega) hla).1
          omega)
    (fun τ hI => by
      obtain ⟨a, y, s3, s4, s5, s6, rfl, ha, hy, hb⟩ := hI
      have h0 : a = 0 := by
        simp only [List.length_map, List.length_range] at hb; omega
      subst h0
      have : y = pre t k := by rw [← hy]; simp [pre]
      exact ⟨_, _, rfl, rfl, 0, s3, s4, s5, s6, by rw [this]⟩)
  obtain ⟨rfl, a, s3, s4, s5, s6, rfl⟩ := h2
  have hit : itemsV (diskPV t) = some ((List.range t.length).map (rowPV t)) := by
    have hl : ((List.range t.length).map (rowPV t)).length ≤ lid := by simp only [List.length_map, List.length_range]; exact Nat.le_trans ht (by decide)
    show (if ((List.range t.length).map (rowPV t)).length ≤ lid then some ((List.range t.length).map (rowPV t)) else none) = _
    rw [if_pos hl]
  have e2 := ex_for (Φ := Φ) (γ := γ0) (i := 3) (b := climbBody) (qvar (i := 0) (v := diskPV t) rfl) hit h1
  have tr := truth_sv (x := pre t k) (Nat.le_trans hwl (by decide))
  have e3 : ex Φ γ0 (.ret (.or_ [(.var 2), (.str [47])])) (cS t a (pre t k) s3 s4 s5 s6 ms) = some (.ret (sv (nd t k).way), cS t a (pre t k) s3 s4 s5 s6 ms) := by
    by_cases h0 : k = 0
    · have hp : pre t k = [] := by simp [pre, h0]
      rw [hp] at tr ⊢
      rw [h0, w.nd0]
      exact sret (qor_f (qvar (i := 2) (v := sv []) rfl) tr (y := sv [47]) rfl)
    · have hp : pre t k = (nd t k).way := by simp [pre, h0]
      have hne : pre t k ≠ [] := by
        rw [hp, (w.ok k (by omega) hlt).2.2.2]; simp
      rw [decide_eq_true hne] at tr
      rw [← hp]
      exact sret (qor_t (qvar (i := 2) (v := sv (pre t k)) rfl) tr)
  show gRun Φ γ0 2 7 c_law_climb _ ms = _
  rw [run_ret (np := 2) (n := 7) (cs := c_law_climb) rfl ((exs_next e1).trans ((exs_next e2).trans (exs_ret e3))) rfl, List.take_length]
end
end Mine
end
noncomputable section
open PySem PySem.W PyProof.Rows PySem.Calls
set_option Elab.async false
set_option linter.unusedVariables false
set_option linter.unusedSimpArgs false
set_option linter.unusedSectionVars false
set_option maxRecDepth 100000
namespace Mine
/-! _law_step -/
noncomputable def optPV : Option Nat → PV
  | none => .none
  | some a => iv a
noncomputable def passes (t : List Nd) (a : Nat) : Bool := decide ((nd t a).mode / 4096 = 4) && decide ((nd t a).mode % 2 = 1)
noncomputable def stepV (t : List Nd) (a : Nat) (p : List Nat) : Option Nat := if passes t a = true then stepE t a p else none
theorem nin_str (c : Nat) (y : List Nat) : cmpV .NotIn (sv [c]) (sv y) = some (!decide (c ∈ y)) := by
  have := StrLaws.found_one (strOf y) c
  rw [strOf_toList] at this
  show some (!(!(Builtin.Str.occurrences (strOf y) (strOf [c]) 0 (strOf y).length 1).isEmpty)) = _
  rw [show strOf [c] = ⟨#[c]⟩ from rfl, this]
theorem item_sv {x : List Nat} {k c : Nat} (h : x.length ≤ lid) (hk : x[k]? = some c) : itemV (sv x) (iv k) = some (sv [c]) := by
  show (if (0 : Int) ≤ (k : Int) ∧ (strOf x).length ≤ lid then ((strOf x).cps[(k : Int).toNat]?).map fun c => PV.str ⟨#[c]⟩ else none) = _
  rw [if_pos ⟨Int.natCast_nonneg _, by rw [strOf_len]; exact h⟩, Int.toNat_natCast]
  have : (strOf x).cps[k]? = some c := by simpa [strOf] using hk
  rw [this]; rfl
section
variable {t : List Nd} {fs : List Nat} (w : WF t fs) (ht : t.length ≤ 20)
include w ht
noncomputable abbrev pS (t : List Nd) (a : Nat) (p : List Nat) (s5 s6 : Slot) (ms : List MCell) : St := ⟨[.val (diskPV t), .val (iv a), .val (sv p), .val (sv (fmL (nd t a).mode)), .val (entsPV (entsOf t (ownerOf t a))), s5, s6], ms⟩
theorem step_in {Φ : Fns} {a : Nat} {p : List Nat} {ms : List MCell} (hp : p.length ≤ 100) : ∀ (es : List (List Nat × Nat)) (s5 s6 : Slot), ∃ τ', forL (setT [5, 6]) (exs Φ γ0 [.ite (.cmp .Eq (.var 5) (.or_ [(.var 2), (.str [46])])) [.ret (.var 6)] []]) (exs Φ γ0 []) (es.map entPV) (pS t a p s5 s6 ms) =
    some (match (es.find? fun e => e.1 == orDot p).map (·.2) with | some b => .ret (iv b) | none => .next, τ') ∧ τ'.mem = ms
  | [], s5, s6 => ⟨_, by rw [List.map_nil, forL_nil, exs_nil]; rfl, rfl⟩
  | e :: es, s5, s6 => by
    have hs : setT [5, 6] (entPV e) (pS t a p s5 s6 ms) = some (pS t a p (.val (sv e.1)) (.val (iv e.2)) ms) := rfl
    have qo : ev Φ γ0 (.or_ [(.var 2), (.str [46])]) (pS t a p (.val (sv e.1)) (.val (iv e.2)) ms) = some (sv (orDot p), pS t a p (.val (sv e.1)) (.val (iv e.2)) ms) := by
      have tr := truth_sv (x := p) (Nat.le_trans hp (by decide))
      by_cases h : p = []
      · rw [decide_eq_false (by simpa using h)] at tr
        rw [qor_f (qvar (i := 2) (v := sv p) rfl) tr (y := sv [46]) rfl]; simp [orDot, h]
      · rw [decide_eq_true h] at tr
        rw [qor_t (qvar (i := 2) (v := sv p) rfl) tr]; simp [orDot, h]
    have q : evT Φ γ0 (.cmp .Eq (.var 5) (.or_ [(.var 2), (.str [46])])) (pS t a p (.val (sv e.1)) (.val (iv e.2)) ms) = some (decide (e.1 = orDot p), pS t a p (.val (sv e.1)) (.val (iv e.2)) ms) := qcmpT (qvar (i := 5) (v := sv e.1) rfl) qo (cmp_eq _ _)
    rw [List.map_cons]
    by_cases h : e.1 = orDot p
    · rw [decide_eq_true h] at q
      refine ⟨pS t a p (.val (sv e.1)) (.val (iv e.2)) ms, (forL_ret hs (exs_one ((ex_ite_t q).trans (exs_one (sret (qvar (i := 6) (v := iv e.2) rfl)))))).trans ?_, rfl⟩
      simp [List.find?_cons, h]
    · rw [decide_eq_false h] at q
      obtain ⟨τ', ih, hm⟩ := step_in hp es (.val (sv e.1)) (.val (iv e.2))
      refine ⟨τ', (forL_next hs (exs_one ((ex_ite_f q).trans exs_nil))).trans (ih.trans ?_), hm⟩
      have : (e.1 == orDot p) = false := by simpa using h
      simp [List.find?_cons, this]
theorem step_run {Φ : Fns} {a : Nat} {p : List Nat} {ms : List MCell} (ha : a < t.length) (hp : p.length ≤ 100) : gRun Φ γ0 3 n_law_step.length c_law_step [diskPV t, iv a, sv p] ms = some (optPV (stepV t a p), ms) := by
  have e1 : ex Φ γ0 (.assignT [3, 4] (.sub (.var 0) (.var 1))) (startSt 7 [diskPV t, iv a, sv p] ms) = some (.next, pS t a p .unset .unset ms) :=
    sasgT (τ1 := startSt 7 [diskPV t, iv a, sv p] ms) (qsub (i := 0) (x := diskPV t) rfl (qvar (i := 1) (v := iv a) rfl) (disk_item w ht ha)) rfl
  have hm := w.md a ha
  have f0 := fm0 hm
  obtain ⟨c9, f9, f9'⟩ := fm9 (nd t a).mode
  have fl : (fmL (nd t a).mode).length ≤ lid := by rw [show (fmL (nd t a).mode).length = 10 from rfl]; decide
  have qa : evT Φ γ0 (.cmp .NotEq (.sub (.var 3) (.int 0)) (.str [100])) (pS t a p .unset .unset ms) = some (decide (¬ (nd t a).mode / 4096 = 4), pS t a p .unset .unset ms) := by
    have := qcmpT (Φ := Φ) (γ := γ0) (o := .NotEq) (τ := pS t a p .unset .unset ms) (τ2 := pS t a p .unset .unset ms) (b := .str [100]) (y := sv [100]) (qsub (i := 3) (x := sv (fmL (nd t a).mode)) rfl (qiv 0) (item_sv fl f0)) rfl (cmp_ne _ _)
    refine this.trans ?_
    rcases hm with h | h | h <;> simp [h]
  have qb : evT Φ γ0 (.cmp .NotIn (.sub (.var 3) (.int 9)) (.str [120, 116])) (pS t a p .unset .unset ms) = some (decide (¬ (nd t a).mode % 2 = 1), pS t a p .unset .unset ms) := by
    have := qcmpT (Φ := Φ) (γ := γ0) (o := .NotIn) (τ := pS t a p .unset .unset ms) (τ2 := pS t a p .unset .unset ms) (b := .str [120, 116]) (y := sv [120, 116]) (qsub (i := 3) (x := sv (fmL (nd t a).mode)) rfl (qiv 9) (item_sv fl f9)) rfl (nin_str _ _)
    refine this.trans ?_
    have : decide (c9 ∈ [120, 116]) = decide ((nd t a).mode % 2 = 1) := by
      apply decide_eq_decide.mpr
      simpa using f9'
    rw [this, decide_not]
  show gRun Φ γ0 3 7 c_law_step _ ms = _
  by_cases hpass : passes t a = true
  · have h1 : (nd t a).mode / 4096 = 4 ∧ (nd t a).mode % 2 = 1 := by simpa [passes] using hpass
    rw [decide_eq_false (by simpa using h1.1)] at qa
    rw [decide_eq_false (by simpa using h1.2)] at qb
    have e2 := (ex_ite_f (a := [.ret .none]) (qor2 qa qb)).trans exs_nil
    obtain ⟨τ', h3, hm'⟩ := step_in w ht (Φ := Φ) (a := a) (p := p) (ms := ms) hp (entsOf t a) .unset .unset
    have ho : ownerOf t a = a := by unfold ownerOf; rw [if_pos h1.1]
    have hi := items_ents w ht ha
    have e3 := ex_forT (Φ := Φ) (γ := γ0) (τ := pS t a p .unset .unset ms) (qvar (i := 4) (v := entsPV (entsOf t (ownerOf t a))) rfl) (by rw [ho]; exact hi) h3
    have hst : stepV t a p = ((entsOf t a).find? fun e => e.1 == orDot p).map (·.2) := by unfold stepV stepE; rw [if_pos hpass]
    rw [← hst] at e3
    cases hv : stepV t a p with
    | some b =>
      rw [hv] at e3
      rw [run_ret (np := 3) (n := 7) (cs := c_law_step) rfl ((exs_next e1).trans ((exs_next e2).trans (exs_ret e3))) rfl, hm', List.take_length]; rfl
    | none =>
      rw [hv] at e3
      rw [run_ret (np := 3) (n := 7) (cs := c_law_step) rfl ((exs_next e1).trans ((exs_next e2).trans ((exs_next e3).trans (exs_ret (sret (e := .none) (v := .none) rfl))))) rfl, hm', List.take_length]; rfl
  · have hst : stepV t a p = none := by unfold stepV; rw [if_neg hpass]
    have q : evT Φ γ0 (.or_ [(.cmp .NotEq (.sub (.var 3) (.int 0)) (.str [100])), (.cmp .NotIn (.sub (.var 3) (.int 9)) (.str [120, 116]))]) (pS t a p .unset .unset ms) = some (true, pS t a p .unset .unset ms) := by
      by_cases h1 : (nd t a).mode / 4096 = 4
      · have h2 : ¬ (nd t a).mode % 2 = 1 := fun h2 => hpass (by simp [passes, h1, h2])
        rw [decide_eq_false (by simpa using h1)] at qa
        rw [decide_eq_true h2] at qb
        exact qor2 qa qb
      · rw [decide_eq_true h1] at qa
        exact qor2t qa
    have e2 := (ex_ite_t (b := []) q).trans (exs_one (sret (e := .none) (v := .none) rfl))
    rw [run_ret (np := 3) (n := 7) (cs := c_law_step) rfl ((exs_next e1).trans (exs_ret e2)) rfl, hst, List.take_length]; rfl
end
open Classical in
noncomputable def gStep (t : List Nd) (xs : List PV) (ms : List MCell) : Option (PV × List MCell) := (three xs).bind fun q => (intOf q.2.1).bind fun a => (sOf q.2.2).bind fun p => if q.1 = diskPV t ∧ 0 ≤ a ∧ a.toNat < t.length ∧ p.length ≤ 100 then some (optPV (stepV t a.toNat p.cps.toList), ms) else none
open Classical in
noncomputable def gClimb (t : List Nd) (fs : List Nat) (xs : List PV) (ms : List MCell) : Option (PV × List MCell) := (two xs).bind fun q => (intOf q.2).bind fun a => if q.1 = diskPV t ∧ 0 ≤ a ∧ a.toNat ∈ fs then some (sv (nd t a.toNat).way, ms) else none
section
variable {t : List Nd} {fs : List Nat} (w : WF t fs) (ht : t.length ≤ 20)
include w ht
open Classical in
theorem step_spec {Φ : Fns} : ∀ xs ms r, gStep t xs ms = some r → gRun Φ γ0 3 n_law_step.length c_law_step xs ms = some r := by
  intro xs ms r h
  refine bdk h fun q q1 h => bdk h fun a q2 h => bdk h fun p q3 h => ifk h fun hc h => ?_
  obtain ⟨c0, h0, h1, h2⟩ := hc
  rw [three_inv q1, c0, intOf_inv q2, sOf_inv q3]
  have := step_run w ht (Φ := Φ) (p := p.cps.toList) (ms := ms) h1 (by simpa [Str.length] using h2)
  rw [show sv p.cps.toList = .str p by rw [sv, strOf_of], show iv a.toNat = .int a by rw [iv, Int.toNat_of_nonneg h0]] at this
  exact this.trans h
open Classical in
theorem climb_spec {Φ : Fns} : ∀ xs ms r, gClimb t fs xs ms = some r → gRun Φ γ0 2 n_law_climb.length c_law_climb xs ms = some r := by
  intro xs ms r h
  refine bdk h fun q q1 h => bdk h fun a q2 h => ifk h fun hc h => ?_
  obtain ⟨c0, h0, h1⟩ := hc
  rw [show xs = [q.1, q.2] from two_inv q1, c0, intOf_inv q2]
  have := climb_run w ht (Φ := Φ) (ms := ms) h1
  rw [show iv a.toNat = .int a by rw [iv, Int.toNat_of_nonneg h0]] at this
  exact this.trans h
open Classical in
theorem gStep_use {a : Nat} {p : List Nat} {ms : List MCell} (ha : a < t.length) (hp : p.length ≤ 100) : gStep t [diskPV t, iv a, sv p] ms = some (optPV (stepV t a p), ms) := by
  show (if diskPV t = diskPV t ∧ 0 ≤ (a : Int) ∧ (a : Int).toNat < t.length ∧ (strOf p).length ≤ 100 then some (optPV (stepV t (a : Int).toNat (strOf p).cps.toList), ms) else none) = _
  rw [if_pos ⟨rfl, Int.natCast_nonneg _, by rw [Int.toNat_natCast]; exact ha, by rw [strOf_len]; exact hp⟩, Int.toNat_natCast, strOf_toList]
open Classical in
theorem gClimb_use {a : Nat} {ms : List MCell} (ha : a ∈ fs) : gClimb t fs [diskPV t, iv a] ms = some (sv (nd t a).way, ms) := by
  show (if diskPV t = diskPV t ∧ 0 ≤ (a : Int) ∧ (a : Int).toNat ∈ fs then some (sv (nd t (a : Int).toNat).way, ms) else none) = _
  rw [if_pos ⟨rfl, Int.natCast_nonneg _, by rw [Int.toNat_natCast]; exact ha⟩, Int.toNat_natCast]
end
end Mine
end
noncomputable section
open PySem PySem.W PyProof.Rows PySem.Calls
set_option Elab.async false
set_option linter.unusedVariables false
set_option linter.unusedSimpArgs false
set_option linter.unusedSectionVars false
set_option maxRecDepth 100000
namespace Mine
/-! _law_walk -/
noncomputable def partAt (x : Int) (k : Nat) : List Nat := parts8.getD (ix (x.fdiv ((8 ^ k : Nat) : Int)) 8) []
noncomputable def partsOf (x : Int) : List (List Nat) := (List.range' 1 6).map (partAt x)
theorem partAt_mem (x : Int) (k : Nat) : partAt x k ∈ parts8 := getD_mem _ (ix_lt _ (by decide))
theorem partsOf_mem (x : Int) : ∀ p ∈ partsOf x, p ∈ parts8 := fun p hp => by
  obtain ⟨k, _, rfl⟩ := List.mem_map.mp hp
  exact partAt_mem x k
theorem parts8_len : ∀ p ∈ parts8, p.length ≤ 3 := by
  intro p hp
  simp [parts8, dd] at hp
  rcases hp with rfl | rfl | rfl | rfl | rfl | rfl | rfl | rfl <;> simp
theorem normL_len (x : List Nat) : (normL x).length ≤ 3 + (x.length + 1) * (x.length + 1) := by
  unfold normL
  split
  · exact Nat.le_trans (by decide : 1 ≤ 3) (Nat.le_add_right _ _)
  · obtain ⟨q1, q2⟩ := rootL_len x
    have h1 := foldN_len (decide ((rootL x).1 ≠ [])) (splitL (rootL x).2) []
    have h2 := foldN_sub (decide ((rootL x).1 ≠ [])) (splitL (rootL x).2) []
    generalize (splitL (rootL x).2).foldl (stepN (decide ((rootL x).1 ≠ []))) [] = R at h1 h2 ⊢
    have h3 := joinS_len (B := x.length) R fun c hc => by
      have := splitL_short _ c ((h2 c hc).resolve_left (by simp)); omega
    have h4 := splitL_len (rootL x).2
    simp only [List.length_nil, Nat.zero_add] at h1
    have h5 : R.length * (x.length + 1) ≤ (x.length + 1) * (x.length + 1) := Nat.mul_le_mul_right _ (by omega)
    unfold orDot
    split
    · exact Nat.le_trans (by decide : 1 ≤ 3) (Nat.le_add_right _ _)
    · rw [List.length_append]; omega
/-- the goal of a turn -/
theorem goal_eq {B : List (List Nat)} {P : List (List Nat)} (hB : ∀ x ∈ B, Nm x) (hf : ∀ c ∈ P, Free c) (hP : P ≠ []) (h1 : P.head? = some [] → 2 ≤ P.length) :
    normL (joinP (wayOf B) (normL (joinS P))) = leadL (joinS P) ++ wayOf (P.foldl stepT (if P.head? = some [] then [] else B)) := by
  by_cases h0 : P.head? = some []
  · rw [if_pos h0]
    obtain ⟨Q, rfl, hQ⟩ : ∃ Q, P = [] :: Q ∧ Q ≠ [] := by
      cases P with
      | nil => exact absurd rfl hP
      | cons p Q =>
        simp at h0; subst h0
        refine ⟨Q, rfl, fun e => ?_⟩
        subst e
        have := h1 rfl
        simp at this
    have e : joinS ([] :: Q) = 47 :: joinS Q := joinS_cons [] hQ
    rw [e, norm_abs hQ fun c hc => hf c (List.mem_cons_of_mem _ hc)]
    have : ([] :: Q).foldl stepT [] = Q.foldl stepT [] := by simp [stepT]
    rw [this]
  · rw [if_neg h0, norm_rel hB hP hf h0, lead_rel hP hf h0]; rfl
theorem adds_map (l : List Nat) : ∀ (ws : List (List Nat)), (∀ x ∈ ws, l.length + x.length ≤ lid) → addsV (strOf l) (ws.map sv) = some ((ws.map (l ++ ·)).map sv)
  | [], _ => rfl
  | x :: ws, h => by
    have ih := adds_map l ws fun y hy => h y (List.mem_cons_of_mem _ hy)
    have hx := h x (List.mem_cons_self ..)
    show (if (strOf l).length + (strOf x).length ≤ lid then (addsV (strOf l) (ws.map sv)).map (PV.str (strOf l ++ strOf x) :: ·) else none) = _
    rw [strOf_len, strOf_len, if_pos hx, ih, strOf_append]; rfl
section
variable {Φ : Fns} {γ : String → Option PV} {τ τ1 τ2 τ3 τ4 : St}
theorem qcall4 {f : String} {g : List PV → List MCell → Option (PV × List MCell)} {a b c d : X} {x y u v z : PV} {ms : List MCell} (hf : Φ f = some g) (ha : ev Φ γ a τ = some (x, τ1)) (hb : ev Φ γ b τ1 = some (y, τ2)) (hc : ev Φ γ c τ2 = some (u, τ3)) (hd : ev Φ γ d τ3 = some (v, τ4)) (hz : g [x, y, u, v] τ4.mem = some (z, ms)) : ev Φ γ (.call f [a, b, c, d]) τ = some (z, ⟨τ4.loc, ms⟩) := bnd hf (bnd (bnd ha (bnd (bnd hb (bnd (bnd hc (bnd (bnd hd rfl) rfl)) rfl)) rfl)) (bnd hz rfl))
theorem qcall4T {f : String} {g : List PV → List MCell → Option (PV × List MCell)} {a b c d : X} {x y u v z : PV} {ms : List MCell} {q : Bool} (hf : Φ f = some g) (ha : ev Φ γ a τ = some (x, τ1)) (hb : ev Φ γ b τ1 = some (y, τ2)) (hc : ev Φ γ c τ2 = some (u, τ3)) (hd : ev Φ γ d τ3 = some (v, τ4)) (hz : g [x, y, u, v] τ4.mem = some (z, ms)) (hq : truthV z = some q) : evT Φ γ (.call f [a, b, c, d]) τ = some (q, ⟨τ4.loc, ms⟩) := bnd hf (bnd (bnd ha (bnd (bnd hb (bnd (bnd hc (bnd (bnd hd rfl) rfl)) rfl)) rfl)) (bnd hz (bnd hq rfl)))
theorem qcompAdd {l i : Nat} {x : List Nat} {xs zs : List PV} (h : τ.loc[i]? = some (.val (.list xs))) (hx : τ.loc[l]? = some (.val (sv x))) (hl : xs.length ≤ lid) (hz : addsV (strOf x) xs = some zs) : ev Φ γ (.compAdd l (.var i)) τ = some (.list zs, τ) := by
  exact bnd rfl (bnd (qpeek h) (bnd rfl (bnd rfl (bnd (qstrAt hx) ((if_pos hl).trans (mpd hz rfl))))))
end
noncomputable def walkBody : List C := [.assign 10 (.mf .join (.str [47]) [(.slcTo (.var 6) (.bin .Add (.var 7) (.int 1)))]),
    .assign 11 (.ite (.and_ [(.cmp .Eq (.slcTo (.var 10) (.int 2)) (.str [47, 47])), (.cmp .NotEq (.slc (.var 10) (.int 2) (.int 3)) (.str [47]))]) (.str [47]) (.str [])),
    .assign 12 (.call "normpath" [(.call "join" [(.var 5), (.call "normpath" [(.var 10)])])]),
    .assign 13 (.sub (.sub (.var 1) (.var 4)) (.int 2)),
    .assign 4 (.call "_law_step" [(.var 0), (.var 4), (.sub (.var 6) (.var 7))]),
    .ite (.or_ [(.cmp .NotEq (.bin .FloorDiv (.var 13) (.int 4096)) (.int 4)), (.cmp .Eq (.bin .Mod (.var 13) (.int 2)) (.int 0))]) [.ret (.cmp .Is (.var 4) .none)] [],
    .ite (.cmp .Is (.var 4) .none) [.ret (.cmp .NotIn (.var 12) (.compAdd 11 (.var 8)))] [],
    .ite (.cmp .NotEq (.var 12) (.bin .Add (.var 11) (.sub (.var 8) (.var 4)))) [.ret (.bool false)] []]
noncomputable abbrev wS (t : List Nd) (fs : List Nat) (x : Int) (base : List Nat) (P : List (List Nat)) (ms : List MCell) (s4 s7 s9 s10 s11 s12 s13 : Slot) : St :=
  ⟨[.val (diskPV t), .val (treePV t), .val (natsPV fs), .val (.int x), s4, .val (sv base), .bld ms.length, s7, .val (.list ((t.map (·.way)).map sv)), s9, s10, s11, s12, s13], ms ++ [.lst (P.map sv)]⟩
section
variable {t : List Nd} {fs : List Nat} (w : WF t fs) (ht : t.length ≤ 20)
include w ht
theorem way_get {k : Nat} (hk : k < t.length) : (t.map (·.way))[k]? = some (nd t k).way := by
  simp [nd, List.getD_eq_getElem?_getD, List.getElem?_eq_getElem hk]
theorem ways_len : ∀ y ∈ t.map (·.way), y.length ≤ 100 := by
  intro y hy
  obtain ⟨k, hk⟩ := List.mem_iff_getElem?.mp hy
  have hlt : k < t.length := by simpa using (List.getElem?_eq_some_iff.mp hk).1
  rw [way_get w ht hlt] at hk
  cases hk
  have := w.way_len k hlt; omega
variable {Φ : Fns} (hN : Φ "normpath" = some gNorm) (hJ : Φ "join" = some gJoin) (hS : Φ "_law_step" = some (gStep t))
include hN hJ hS
theorem walk_turn {x : Int} {b a k : Nat} {P : List (List Nat)} {ms : List MCell} {s9 s10 s11 s12 s13 : Slot} (hb : b < t.length) (ha : a < t.length) (hk : k < P.length) (hP : ∀ p ∈ P, p ∈ parts8) (hPl : P.length ≤ 6) (h1 : P.head? = some [] → 1 ≤ k)
    (hI : cps t a = (P.take k).foldl stepT (if P.head? = some [] then [] else cps t b)) :
    ∃ fl τ', exs Φ γ0 walkBody (wS t fs x (nd t b).way P ms (.val (iv a)) (.val (iv k)) s9 s10 s11 s12 s13) = some (fl, τ') ∧
      ((fl = .next ∧ ∃ a' s10' s11' s12' s13', τ' = wS t fs x (nd t b).way P ms (.val (iv a')) (.val (iv k)) s9 s10' s11' s12' s13' ∧ a' < t.length ∧ cps t a' = (P.take (k + 1)).foldl stepT (if P.head? = some [] then [] else cps t b)) ∨ (fl = .ret (.bool true) ∧ τ'.mem = ms ++ [.lst (P.map sv)])) := by
  -- the text so far
  generalize hF : joinS (P.take (k + 1)) = F
  have hQm : ∀ p ∈ P.take (k + 1), p ∈ parts8 := fun p hp => hP p (List.mem_of_mem_take hp)
  have hQf : ∀ p ∈ P.take (k + 1), Free p := fun p hp => parts8_free p (hQm p hp)
  have hQl : (P.take (k + 1)).length ≤ 6 := by rw [List.length_take]; omega
  have hQ3 : ∀ p ∈ P.take (k + 1), p.length ≤ 3 := fun p hp => parts8_len p (hQm p hp)
  have hQne : P.take (k + 1) ≠ [] := by
    intro e
    have := congrArg List.length e
    rw [List.length_take, List.length_nil] at this; omega
  have hFl : F.length ≤ 24 := by
    have := joinS_len (P.take (k + 1)) hQ3
    rw [hF] at this; omega
  have hFlid : F.length ≤ lid := Nat.le_trans hFl (by decide)
  have e1 : ex Φ γ0 (.assign 10 (.mf .join (.str [47]) [(.slcTo (.var 6) (.bin .Add (.var 7) (.int 1)))])) (wS t fs x (nd t b).way P ms (.val (iv a)) (.val (iv k)) s9 s10 s11 s12 s13) = some (.next, wS t fs x (nd t b).way P ms (.val (iv a)) (.val (iv k)) s9 (.val (sv F)) s11 s12 s13) := by
    have hcut : cutV (.list (P.map sv)) none (some ((k + 1 : Nat) : Int)) = some (.list ((P.take (k + 1)).map sv)) := by
      have hl : (P.map sv).length ≤ lid := by rw [List.length_map]; exact Nat.le_trans hPl (by decide)
      simp only [cutV, Option.all_none, Option.all_some, Bool.true_and, hl, if_true]
      rw [if_pos (decide_eq_true (Int.natCast_nonneg _))]
      simp
    have hj := joinM (cs := P.take (k + 1)) (Nat.le_trans hQl (by decide)) fun c hc => Nat.le_trans (hQ3 c hc) (by decide)
    rw [hF] at hj
    exact sasg (i := 10) (τ1 := wS t fs x (nd t b).way P ms (.val (iv a)) (.val (iv k)) s9 s10 s11 s12 s13) (qmf1 (x := sv [47]) (τ1 := wS t fs x (nd t b).way P ms (.val (iv a)) (.val (iv k)) s9 s10 s11 s12 s13) rfl (qslcTob (i := 6) (k := ms.length) rfl (qbin (qvar (i := 7) (v := iv k) rfl) (qiv 1) (add_iv k 1)) (get_last _ _) hcut) hj) (by exact ltl rfl) rfl
  have e2 : ex Φ γ0 (.assign 11 (.ite (.and_ [(.cmp .Eq (.slcTo (.var 10) (.int 2)) (.str [47, 47])), (.cmp .NotEq (.slc (.var 10) (.int 2) (.int 3)) (.str [47]))]) (.str [47]) (.str []))) (wS t fs x (nd t b).way P ms (.val (iv a)) (.val (iv k)) s9 (.val (sv F)) s11 s12 s13) = some (.next, wS t fs x (nd t b).way P ms (.val (iv a)) (.val (iv k)) s9 (.val (sv F)) (.val (sv (leadL F))) s12 s13) := by
    have k1 : cutV (sv F) none (some ((2 : Nat) : Int)) = some (sv (F.take 2)) := by
      have := cutV_to (x := strOf F) (by rw [strOf_len]; exact hFlid) 2
      rw [cutS_eq] at this; simpa [sv] using this
    have k2 : cutV (sv F) (some ((2 : Nat) : Int)) (some ((3 : Nat) : Int)) = some (sv ((F.drop 2).take 1)) := by
      have := cutV_str (x := strOf F) (by rw [strOf_len]; exact hFlid) 2 3
      rw [cutS_eq] at this; exact this
    have qa : evT Φ γ0 (.cmp .Eq (.slcTo (.var 10) (.int 2)) (.str [47, 47])) (wS t fs x (nd t b).way P ms (.val (iv a)) (.val (iv k)) s9 (.val (sv F)) s11 s12 s13) = some (decide (F.take 2 = [47, 47]), wS t fs x (nd t b).way P ms (.val (iv a)) (.val (iv k)) s9 (.val (sv F)) s11 s12 s13) :=
      qcmpT (τ1 := wS t fs x (nd t b).way P ms (.val (iv a)) (.val (iv k)) s9 (.val (sv F)) s11 s12 s13) (qslcTo (i := 10) (x := sv F) rfl (qiv 2) k1) (y := sv [47, 47]) rfl (cmp_eq _ _)
    have qb : evT Φ γ0 (.cmp .NotEq (.slc (.var 10) (.int 2) (.int 3)) (.str [47])) (wS t fs x (nd t b).way P ms (.val (iv a)) (.val (iv k)) s9 (.val (sv F)) s11 s12 s13) = some (decide ((F.drop 2).take 1 ≠ [47]), wS t fs x (nd t b).way P ms (.val (iv a)) (.val (iv k)) s9 (.val (sv F)) s11 s12 s13) :=
      qcmpT (τ1 := wS t fs x (nd t b).way P ms (.val (iv a)) (.val (iv k)) s9 (.val (sv F)) s11 s12 s13) (qslc (i := 10) (x := sv F) rfl (qiv 2) (qiv 3) k2) (y := sv [47]) rfl (cmp_ne _ _)
    have qc : evT Φ γ0 (.and_ [(.cmp .Eq (.slcTo (.var 10) (.int 2)) (.str [47, 47])), (.cmp .NotEq (.slc (.var 10) (.int 2) (.int 3)) (.str [47]))]) (wS t fs x (nd t b).way P ms (.val (iv a)) (.val (iv k)) s9 (.val (sv F)) s11 s12 s13) = some (decide (F.take 2 = [47, 47] ∧ (F.drop 2).take 1 ≠ [47]), wS t fs x (nd t b).way P ms (.val (iv a)) (.val (iv k)) s9 (.val (sv F)) s11 s12 s13) := by
      by_cases c1 : F.take 2 = [47, 47]
      · rw [decide_eq_true c1] at qa
        rw [qand2 qa qb]; simp [c1]
      · rw [decide_eq_false c1] at qa
        rw [qand2f qa]; simp [c1]
    unfold leadL
    by_cases c : F.take 2 = [47, 47] ∧ (F.drop 2).take 1 ≠ [47]
    · rw [decide_eq_true c] at qc
      rw [if_pos c]
      exact sasg (i := 11) (τ1 := wS t fs x (nd t b).way P ms (.val (iv a)) (.val (iv k)) s9 (.val (sv F)) s11 s12 s13) (qitet qc (x := sv [47]) rfl) (by exact ltl rfl) rfl
    · rw [decide_eq_false c] at qc
      rw [if_neg c]
      exact sasg (i := 11) (τ1 := wS t fs x (nd t b).way P ms (.val (iv a)) (.val (iv k)) s9 (.val (sv F)) s11 s12 s13) (qitef qc (x := sv []) rfl) (by exact ltl rfl) rfl
  -- the goal
  have hhead : (P.take (k + 1)).head? = P.head? := by cases P <;> simp
  have hg := goal_eq (B := cps t b) (P := P.take (k + 1)) (w.cps_nm b hb) hQf hQne (fun h => by rw [hhead] at h; have := h1 h; rw [List.length_take]; omega)
  rw [hhead, hF, ← w.way_eq b hb] at hg
  have hwl := w.way_len b hb
  have hnl := normL_len F
  have hnl2 : (normL F).length ≤ 628 := by
    have : (F.length + 1) * (F.length + 1) ≤ 25 * 25 := Nat.mul_le_mul (by omega) (by omega)
    omega
  have hjl : (joinP (nd t b).way (normL F)).length ≤ 800 := by
    unfold joinP
    split
    · omega
    · split <;> simp <;> omega
  generalize hG : normL (joinP (nd t b).way (normL F)) = G at hg
  have e3 : ex Φ γ0 (.assign 12 (.call "normpath" [(.call "join" [(.var 5), (.call "normpath" [(.var 10)])])])) (wS t fs x (nd t b).way P ms (.val (iv a)) (.val (iv k)) s9 (.val (sv F)) (.val (sv (leadL F))) s12 s13) = some (.next, wS t fs x (nd t b).way P ms (.val (iv a)) (.val (iv k)) s9 (.val (sv F)) (.val (sv (leadL F))) (.val (sv G)) s13) := by
    have g1 : ∀ m, gNorm [sv F] m = some (sv (normL F), m) := fun m => by
      show (if (strOf F).length ≤ 900 then some (sv (normL (strOf F).cps.toList), m) else none) = _
      rw [strOf_len, if_pos (by omega), strOf_toList]
    have g2 : ∀ m, gJoin [sv (nd t b).way, sv (normL F)] m = some (sv (joinP (nd t b).way (normL F)), m) := fun m => by
      show (if (strOf (nd t b).way).length + (strOf (normL F)).length ≤ 1000 then some (sv (joinP (strOf (nd t b).way).cps.toList (strOf (normL F)).cps.toList), m) else none) = _
      rw [strOf_len, strOf_len, if_pos (by omega), strOf_toList, strOf_toList]
    have g3 : ∀ m, gNorm [sv (joinP (nd t b).way (normL F))] m = some (sv G, m) := fun m => by
      show (if (strOf (joinP (nd t b).way (normL F))).length ≤ 900 then some (sv (normL (strOf (joinP (nd t b).way (normL F))).cps.toList), m) else none) = _
      rw [strOf_len, if_pos (by omega), strOf_toList, hG]
    exact sasg (i := 12) (τ1 := wS t fs x (nd t b).way P ms (.val (iv a)) (.val (iv k)) s9 (.val (sv F)) (.val (sv (leadL F))) s12 s13)
      (qcall1 (τ1 := wS t fs x (nd t b).way P ms (.val (iv a)) (.val (iv k)) s9 (.val (sv F)) (.val (sv (leadL F))) s12 s13) hN
        (qcall2 (τ2 := wS t fs x (nd t b).way P ms (.val (iv a)) (.val (iv k)) s9 (.val (sv F)) (.val (sv (leadL F))) s12 s13) hJ (qvar (i := 5) (v := sv (nd t b).way) rfl)
          (qcall1 (τ1 := wS t fs x (nd t b).way P ms (.val (iv a)) (.val (iv k)) s9 (.val (sv F)) (.val (sv (leadL F))) s12 s13) hN (qvar (i := 10) (v := sv F) rfl) (g1 _)) (g2 _)) (g3 _)) (by exact ltl rfl) rfl
  have e4 : ex Φ γ0 (.assign 13 (.sub (.sub (.var 1) (.var 4)) (.int 2))) (wS t fs x (nd t b).way P ms (.val (iv a)) (.val (iv k)) s9 (.val (sv F)) (.val (sv (leadL F))) (.val (sv G)) s13) = some (.next, wS t fs x (nd t b).way P ms (.val (iv a)) (.val (iv k)) s9 (.val (sv F)) (.val (sv (leadL F))) (.val (sv G)) (.val (iv (nd t a).mode))) :=
    sasg (i := 13) (τ1 := wS t fs x (nd t b).way P ms (.val (iv a)) (.val (iv k)) s9 (.val (sv F)) (.val (sv (leadL F))) (.val (sv G)) s13) (qnode w (by omega) (i := 1) (f := 2) rfl (qvar (i := 4) (v := iv a) rfl) ha rfl) (by exact ltl rfl) rfl
  have hpk : P[k]? = some P[k] := List.getElem?_eq_getElem hk
  have hp8 : P[k] ∈ parts8 := hP _ (List.getElem_mem hk)
  have hp3 := parts8_len _ hp8
  generalize hp : P[k] = p at hpk hp8 hp3
  have e5 : ex Φ γ0 (.assign 4 (.call "_law_step" [(.var 0), (.var 4), (.sub (.var 6) (.var 7))])) (wS t fs x (nd t b).way P ms (.val (iv a)) (.val (iv k)) s9 (.val (sv F)) (.val (sv (leadL F))) (.val (sv G)) (.val (iv (nd t a).mode))) = some (.next, wS t fs x (nd t b).way P ms (.val (optPV (stepV t a p))) (.val (iv k)) s9 (.val (sv F)) (.val (sv (leadL F))) (.val (sv G)) (.val (iv (nd t a).mode))) := by
    have hl : (P.map sv).length ≤ lid := by rw [List.length_map]; exact Nat.le_trans hPl (by decide)
    exact sasg (i := 4) (τ1 := wS t fs x (nd t b).way P ms (.val (iv a)) (.val (iv k)) s9 (.val (sv F)) (.val (sv (leadL F))) (.val (sv G)) (.val (iv (nd t a).mode)))
      (qcall3 (τ3 := wS t fs x (nd t b).way P ms (.val (iv a)) (.val (iv k)) s9 (.val (sv F)) (.val (sv (leadL F))) (.val (sv G)) (.val (iv (nd t a).mode))) hS (qvar (i := 0) (v := diskPV t) rfl) (qvar (i := 4) (v := iv a) rfl)
        (qsubb (i := 6) (k := ms.length) rfl (qvar (i := 7) (v := iv k) rfl) (get_last _ _) (item_list hl (by rw [List.getElem?_map, hpk]; rfl))) (gStep_use w ht ha (by omega))) (by exact ltl rfl) rfl
  have htake : P.take (k + 1) = P.take k ++ [p] := by rw [List.take_succ_eq_append_getElem hk, hp]
  have hnext : (P.take (k + 1)).foldl stepT (if P.head? = some [] then [] else cps t b) = stepT (cps t a) p := by
    rw [htake, List.foldl_append, ← hI]; rfl
  rw [hnext] at hg
  unfold walkBody
  rw [exs_next e1, exs_next e2, exs_next e3, exs_next e4, exs_next e5]
  have qm1 : evT Φ γ0 (.cmp .NotEq (.bin .FloorDiv (.var 13) (.int 4096)) (.int 4)) (wS t fs x (nd t b).way P ms (.val (optPV (stepV t a p))) (.val (iv k)) s9 (.val (sv F)) (.val (sv (leadL F))) (.val (sv G)) (.val (iv (nd t a).mode))) = some (decide ((nd t a).mode / 4096 ≠ 4), wS t fs x (nd t b).way P ms (.val (optPV (stepV t a p))) (.val (iv k)) s9 (.val (sv F)) (.val (sv (leadL F))) (.val (sv G)) (.val (iv (nd t a).mode))) :=
    qcmpT (qbin (qvar (i := 13) (v := iv (nd t a).mode) rfl) (qiv 4096) (div_iv _ (by decide) (by decide))) (qiv 4) (ne_iv _ _)
  have qm2 : evT Φ γ0 (.cmp .Eq (.bin .Mod (.var 13) (.int 2)) (.int 0)) (wS t fs x (nd t b).way P ms (.val (optPV (stepV t a p))) (.val (iv k)) s9 (.val (sv F)) (.val (sv (leadL F))) (.val (sv G)) (.val (iv (nd t a).mode))) = some (decide ((nd t a).mode % 2 = 0), wS t fs x (nd t b).way P ms (.val (optPV (stepV t a p))) (.val (iv k)) s9 (.val (sv F)) (.val (sv (leadL F))) (.val (sv G)) (.val (iv (nd t a).mode))) :=
    qcmpT (qbin (qvar (i := 13) (v := iv (nd t a).mode) rfl) (qiv 2) (mod_iv _ (by decide))) (qiv 0) (cmp_iv _ _)
  by_cases hpass : passes t a = true
  · have hh : (nd t a).mode / 4096 = 4 ∧ (nd t a).mode % 2 = 1 := by simpa [passes] using hpass
    have hst : stepV t a p = stepE t a p := by unfold stepV; rw [if_pos hpass]
    rw [decide_eq_false (by simpa using hh.1)] at qm1
    rw [decide_eq_false (by omega)] at qm2
    rw [exs_next ((ex_ite_f (qor2 qm1 qm2)).trans exs_nil)]
    cases hv : stepE t a p with
    | none =>
      have hwn := w.walk_none ha hp8 hv
      rw [hst, hv] at *
      have qi : evT Φ γ0 (.cmp .Is (.var 4) .none) (wS t fs x (nd t b).way P ms (.val (optPV none)) (.val (iv k)) s9 (.val (sv F)) (.val (sv (leadL F))) (.val (sv G)) (.val (iv (nd t a).mode))) = some (true, wS t fs x (nd t b).way P ms (.val (optPV none)) (.val (iv k)) s9 (.val (sv F)) (.val (sv (leadL F))) (.val (sv G)) (.val (iv (nd t a).mode))) :=
        qcmpT (τ1 := wS t fs x (nd t b).way P ms (.val (optPV none)) (.val (iv k)) s9 (.val (sv F)) (.val (sv (leadL F))) (.val (sv G)) (.val (iv (nd t a).mode))) (qvar (i := 4) (v := .none) rfl) (b := .none) (y := .none) rfl rfl
      have hnot : G ∉ (t.map (·.way)).map (leadL F ++ ·) := by
        intro hm
        obtain ⟨y, hy, e⟩ := List.mem_map.mp hm
        obtain ⟨j, hj⟩ := List.mem_iff_getElem?.mp hy
        have hlt : j < t.length := by simpa using (List.getElem?_eq_some_iff.mp hj).1
        rw [way_get w ht hlt] at hj
        cases hj
        rw [hg, w.way_eq j hlt] at e
        have e2 := List.append_cancel_left e
        have e3 := wayOf_inj (w.cps_nm j hlt) (stepT_nm (w.cps_nm a ha) (parts8_free p hp8)) e2
        exact hwn j hlt e3
      have hll : (leadL F).length ≤ 1 := by rcases lead_cases F with h | h <;> rw [h] <;> simp
      have hz := adds_map (leadL F) (t.map (·.way)) fun y hy => Nat.le_trans (by have := ways_len w ht y hy; omega : _ ≤ 101) (by decide)
      have L2 : ((t.map (·.way)).map sv).length ≤ lid := by simp only [List.length_map]; exact Nat.le_trans ht (by decide)
      have hc := cmp_nin G (l := (t.map (·.way)).map (leadL F ++ ·)) (by simp only [List.length_map]; exact Nat.le_trans ht (by decide))
      rw [decide_eq_true hnot] at hc
      have qr : ev Φ γ0 (.cmp .NotIn (.var 12) (.compAdd 11 (.var 8))) (wS t fs x (nd t b).way P ms (.val (optPV none)) (.val (iv k)) s9 (.val (sv F)) (.val (sv (leadL F))) (.val (sv G)) (.val (iv (nd t a).mode))) = some (.bool true, wS t fs x (nd t b).way P ms (.val (optPV none)) (.val (iv k)) s9 (.val (sv F)) (.val (sv (leadL F))) (.val (sv G)) (.val (iv (nd t a).mode))) :=
        qcmp (qvar (i := 12) (v := sv G) rfl) (qcompAdd (l := 11) (i := 8) rfl rfl L2 hz) hc
      exact ⟨_, _, exs_stop ((ex_ite_t qi).trans (exs_one (sret qr))) (fun e => by cases e), .inr ⟨rfl, rfl⟩⟩
    | some a' =>
      obtain ⟨ha', hc'⟩ := w.walk_some ha hp8 hv
      rw [hst, hv] at *
      have qi : evT Φ γ0 (.cmp .Is (.var 4) .none) (wS t fs x (nd t b).way P ms (.val (optPV (some a'))) (.val (iv k)) s9 (.val (sv F)) (.val (sv (leadL F))) (.val (sv G)) (.val (iv (nd t a).mode))) = some (false, wS t fs x (nd t b).way P ms (.val (optPV (some a'))) (.val (iv k)) s9 (.val (sv F)) (.val (sv (leadL F))) (.val (sv G)) (.val (iv (nd t a).mode))) :=
        qcmpT (τ1 := wS t fs x (nd t b).way P ms (.val (optPV (some a'))) (.val (iv k)) s9 (.val (sv F)) (.val (sv (leadL F))) (.val (sv G)) (.val (iv (nd t a).mode))) (qvar (i := 4) (v := iv a') rfl) (b := .none) (y := .none) rfl rfl
      have L2 : ((t.map (·.way)).map sv).length ≤ lid := by simp only [List.length_map]; exact Nat.le_trans ht (by decide)
      have hwl' := w.way_len a' ha'
      have hll : (leadL F).length ≤ 1 := by rcases lead_cases F with h | h <;> rw [h] <;> simp
      have hge : G = leadL F ++ (nd t a').way := by rw [hg, w.way_eq a' ha', hc']
      have qn : evT Φ γ0 (.cmp .NotEq (.var 12) (.bin .Add (.var 11) (.sub (.var 8) (.var 4)))) (wS t fs x (nd t b).way P ms (.val (optPV (some a'))) (.val (iv k)) s9 (.val (sv F)) (.val (sv (leadL F))) (.val (sv G)) (.val (iv (nd t a).mode))) = some (decide (G ≠ leadL F ++ (nd t a').way), wS t fs x (nd t b).way P ms (.val (optPV (some a'))) (.val (iv k)) s9 (.val (sv F)) (.val (sv (leadL F))) (.val (sv G)) (.val (iv (nd t a).mode))) :=
        qcmpT (qvar (i := 12) (v := sv G) rfl) (qbin (qvar (i := 11) (v := sv (leadL F)) rfl) (qsub (i := 8) rfl (qvar (i := 4) (v := iv a') rfl) (item_list L2 (by rw [List.getElem?_map, way_get w ht ha']; rfl))) (add_sv (Nat.le_trans (by omega : _ ≤ 101) (by decide)))) (cmp_ne _ _)
      rw [decide_eq_false (by simpa using hge)] at qn
      refine ⟨.next, _, (exs_next ((ex_ite_f qi).trans exs_nil)).trans (exs_one ((ex_ite_f qn).trans exs_nil)), .inl ⟨rfl, a', .val (sv F), .val (sv (leadL F)), .val (sv G), .val (iv (nd t a).mode), rfl, ha', ?_⟩⟩
      rw [hnext, hc']
  · have hst : stepV t a p = none := by unfold stepV; rw [if_neg hpass]
    have q : evT Φ γ0 (.or_ [(.cmp .NotEq (.bin .FloorDiv (.var 13) (.int 4096)) (.int 4)), (.cmp .Eq (.bin .Mod (.var 13) (.int 2)) (.int 0))]) (wS t fs x (nd t b).way P ms (.val (optPV (stepV t a p))) (.val (iv k)) s9 (.val (sv F)) (.val (sv (leadL F))) (.val (sv G)) (.val (iv (nd t a).mode))) = some (true, wS t fs x (nd t b).way P ms (.val (optPV (stepV t a p))) (.val (iv k)) s9 (.val (sv F)) (.val (sv (leadL F))) (.val (sv G)) (.val (iv (nd t a).mode))) := by
      by_cases c1 : (nd t a).mode / 4096 = 4
      · rw [decide_eq_false (by simpa using c1)] at qm1
        rw [decide_eq_true (by
          have : ¬ (nd t a).mode % 2 = 1 := fun h2 => hpass (by simp [passes, c1, h2])
          omega)] at qm2
        exact qor2 qm1 qm2
      · rw [decide_eq_true c1] at qm1
        exact qor2t qm1
    rw [hst] at *
    have qr : ev Φ γ0 (.cmp .Is (.var 4) .none) (wS t fs x (nd t b).way P ms (.val (optPV none)) (.val (iv k)) s9 (.val (sv F)) (.val (sv (leadL F))) (.val (sv G)) (.val (iv (nd t a).mode))) = some (.bool true, wS t fs x (nd t b).way P ms (.val (optPV none)) (.val (iv k)) s9 (.val (sv F)) (.val (sv (leadL F))) (.val (sv G)) (.val (iv (nd t a).mode))) :=
      qcmp (τ1 := wS t fs x (nd t b).way P ms (.val (optPV none)) (.val (iv k)) s9 (.val (sv F)) (.val (sv (leadL F))) (.val (sv G)) (.val (iv (nd t a).mode))) (qvar (i := 4) (v := .none) rfl) (b := .none) (y := .none) rfl rfl
    exact ⟨_, _, exs_stop ((ex_ite_t q).trans (exs_one (sret qr))) (fun e => by cases e), .inr ⟨rfl, rfl⟩⟩
end
end Mine
end
noncomputable section
open PySem PySem.W PyProof.Rows PySem.Calls
set_option Elab.async false
set_option linter.unusedVariables false
set_option linter.unusedSimpArgs false
set_option linter.unusedSectionVars false
set_option maxRecDepth 100000
namespace Mine
open Classical in
noncomputable def gWalk (t : List Nd) (fs : List Nat) (xs : List PV) (ms : List MCell) : Option (PV × List MCell) := (four xs).bind fun q => (intOf q.2.2.2).bind fun x => if q.1 = diskPV t ∧ q.2.1 = treePV t ∧ q.2.2.1 = natsPV fs then some (.bool true, ms) else none
theorem pow_iv {k : Nat} (h : k ≤ 6) : binV .Pow (iv 8) (iv k) = some (iv (8 ^ k)) := by
  show (if ((8 : Nat) : Int) = 8 ∧ (0 : Int) ≤ (k : Int) ∧ (k : Int) ≤ 20 then some (PV.int (((8 : Nat) : Int) ^ (k : Int).toNat)) else none) = _
  rw [if_pos ⟨rfl, by omega, by omega⟩, Int.toNat_natCast]
  show some (PV.int (((8 : Nat) : Int) ^ k)) = some (PV.int ((8 ^ k : Nat) : Int))
  rw [Int.natCast_pow]
theorem pow_le {k : Nat} (h : k ≤ 6) : 8 ^ k ≤ 1000000 := Nat.le_trans (Nat.pow_le_pow_right (by decide) h) (by decide)
section
variable {t : List Nd} {fs : List Nat} (w : WF t fs) (ht : t.length ≤ 20)
include w ht
theorem parts_loop {Φ : Fns} {x : Int} {base : List Nat} {s8 s9 s10 s11 s12 s13 : Slot} {s4 : Slot} {ms : List MCell} : ∀ (ks : List Nat) (done : List (List Nat)) (s7 : Slot), (∀ k ∈ ks, k ≤ 6) → done.length + ks.length ≤ 100 →
    ∃ s7', forL (setV 7) (exs Φ γ0 [.app 6 (.sub (.tup [(.str [97]), (.str [98]), (.str [46, 46, 46]), (.str [46, 97]), (.str [46]), (.str [46, 46]), (.str []), (.str [46, 46])]) (.bin .Mod (.bin .FloorDiv (.var 3) (.bin .Pow (.int 8) (.var 7))) (.int 8)))]) (fun τ => some (.next, τ)) (ks.map iv)
      ⟨[.val (diskPV t), .val (treePV t), .val (natsPV fs), .val (.int x), s4, .val (sv base), .bld ms.length, s7, s8, s9, s10, s11, s12, s13], ms ++ [.lst (done.map sv)]⟩ =
      some (.next, ⟨[.val (diskPV t), .val (treePV t), .val (natsPV fs), .val (.int x), s4, .val (sv base), .bld ms.length, s7', s8, s9, s10, s11, s12, s13], ms ++ [.lst ((done ++ ks.map (partAt x)).map sv)]⟩)
  | [], done, s7, _, _ => ⟨s7, by simp [forL]⟩
  | k :: ks, done, s7, hk, hl => by
    simp only [List.length_cons] at hl
    have h6 := hk k (List.mem_cons_self ..)
    obtain ⟨b, ih⟩ := parts_loop (x := x) (base := base) (s8 := s8) (s9 := s9) (s10 := s10) (s11 := s11) (s12 := s12) (s13 := s13) (s4 := s4) (ms := ms) ks (done ++ [partAt x k]) (.val (iv k)) (fun y hy => hk y (List.mem_cons_of_mem _ hy)) (by simp; omega)
    refine ⟨b, ?_⟩
    have hs : setV 7 (iv k) ⟨[.val (diskPV t), .val (treePV t), .val (natsPV fs), .val (.int x), s4, .val (sv base), .bld ms.length, s7, s8, s9, s10, s11, s12, s13], ms ++ [.lst (done.map sv)]⟩ = some ⟨[.val (diskPV t), .val (treePV t), .val (natsPV fs), .val (.int x), s4, .val (sv base), .bld ms.length, .val (iv k), s8, s9, s10, s11, s12, s13], ms ++ [.lst (done.map sv)]⟩ := rfl
    have e := sapp (Φ := Φ) (γ := γ0) (i := 6) (k := ms.length) (τ := ⟨[.val (diskPV t), .val (treePV t), .val (natsPV fs), .val (.int x), s4, .val (sv base), .bld ms.length, .val (iv k), s8, s9, s10, s11, s12, s13], ms ++ [.lst (done.map sv)]⟩) (τ1 := ⟨[.val (diskPV t), .val (treePV t), .val (natsPV fs), .val (.int x), s4, .val (sv base), .bld ms.length, .val (iv k), s8, s9, s10, s11, s12, s13], ms ++ [.lst (done.map sv)]⟩)
      (e := .sub (.tup [(.str [97]), (.str [98]), (.str [46, 46, 46]), (.str [46, 97]), (.str [46]), (.str [46, 46]), (.str []), (.str [46, 46])]) (.bin .Mod (.bin .FloorDiv (.var 3) (.bin .Pow (.int 8) (.var 7))) (.int 8))) rfl (get_last _ _)
      (qsubx (x := .tup (parts8.map sv)) (τ1 := ⟨[.val (diskPV t), .val (treePV t), .val (natsPV fs), .val (.int x), s4, .val (sv base), .bld ms.length, .val (iv k), s8, s9, s10, s11, s12, s13], ms ++ [.lst (done.map sv)]⟩) rfl (qbin (qbin (qvar (i := 3) (v := .int x) rfl) (qbin (qiv 8) (qvar (i := 7) (v := iv k) rfl) (pow_iv h6)) (fdiv_iv x (Nat.pow_pos (by decide)) (pow_le h6))) (qiv 8) (fmod_iv _ (by decide))) (item_tupI (by simp only [List.length_map, List.length_cons, List.length_nil, parts8]; decide) (map_getD sv [] (ix_lt _ (by decide)))) rfl)
      (get_last _ _) (by rw [List.length_map]; exact Nat.le_trans (by omega : done.length + 1 ≤ 101) (by decide)) rfl
    rw [set_last] at e
    rw [List.map_cons]
    refine (forL_next hs (exs_one e)).trans ?_
    have he : (done.map sv ++ [sv (parts8.getD (ix (x.fdiv ((8 ^ k : Nat) : Int)) parts8.length) [])]) = (done ++ [partAt x k]).map sv := by rw [List.map_append]; rfl
    rw [he, ih]; simp
variable {Φ : Fns} (hN : Φ "normpath" = some gNorm) (hJ : Φ "join" = some gJoin) (hS : Φ "_law_step" = some (gStep t))
include hN hJ hS
theorem walk_loop {x : Int} {b : Nat} {P : List (List Nat)} {ms : List MCell} (hb : b < t.length) (hP : ∀ p ∈ P, p ∈ parts8) (hPl : P.length = 6) : ∀ (n k a : Nat) (s7 s9 s10 s11 s12 s13 : Slot), k + n = 6 → a < t.length → (P.head? = some [] → 1 ≤ k) → cps t a = (P.take k).foldl stepT (if P.head? = some [] then [] else cps t b) →
    ∃ fl τ', forL (setV 7) (exs Φ γ0 walkBody) (fun τ => some (.next, τ)) ((List.range' k n).map iv) (wS t fs x (nd t b).way P ms (.val (iv a)) s7 s9 s10 s11 s12 s13) = some (fl, τ') ∧ (fl = .next ∨ fl = .ret (.bool true)) ∧ τ'.mem = ms ++ [.lst (P.map sv)]
  | 0, k, a, s7, s9, s10, s11, s12, s13, hk, ha, h1, hI => ⟨.next, _, by simp only [List.range'_zero, List.map_nil]; exact forL_nil, .inl rfl, rfl⟩
  | n + 1, k, a, s7, s9, s10, s11, s12, s13, hk, ha, h1, hI => by
    obtain ⟨fl, τ', e, hc⟩ := walk_turn w ht hN hJ hS (x := x) (ms := ms) (s9 := s9) (s10 := s10) (s11 := s11) (s12 := s12) (s13 := s13) hb ha (by omega : k < P.length) hP (by omega) h1 hI
    have hs : setV 7 (iv k) (wS t fs x (nd t b).way P ms (.val (iv a)) s7 s9 s10 s11 s12 s13) = some (wS t fs x (nd t b).way P ms (.val (iv a)) (.val (iv k)) s9 s10 s11 s12 s13) := rfl
    rw [List.range'_succ, List.map_cons]
    rcases hc with ⟨rfl, a', s10', s11', s12', s13', rfl, ha', hI'⟩ | ⟨rfl, hm⟩
    · obtain ⟨fl, τ', e2, h2, h3⟩ := walk_loop hb hP hPl n (k + 1) a' (.val (iv k)) s9 s10' s11' s12' s13' (by omega) ha' (fun _ => by omega) hI'
      exact ⟨fl, τ', (forL_next hs e).trans e2, h2, h3⟩
    · exact ⟨_, _, forL_ret hs e, .inr rfl, hm⟩
theorem walk_run {x : Int} {ms : List MCell} : gRun Φ γ0 4 n_law_walk.length c_law_walk [diskPV t, treePV t, natsPV fs, .int x] ms = some (.bool true, ms) := by
  -- the start
  have hfl : fs.length ≤ 20 := Nat.le_trans w.fs_len ht
  have hfp := w.fs_pos
  obtain ⟨b, hbd⟩ : ∃ b, b = fs.getD (ix ((ix x 8 : Nat) : Int) fs.length) 0 := ⟨_, rfl⟩
  have hbm : b ∈ fs := by rw [hbd]; exact getD_mem _ (ix_lt _ hfp)
  have hb := (w.mem_fs.mp hbm).1
  have L1 : (fs.map iv).length ≤ lid := by rw [List.length_map]; exact Nat.le_trans hfl (by decide)
  have e1 : ex Φ γ0 (.assign 4 (.sub (.var 2) (.bin .Mod (.bin .Mod (.var 3) (.int 8)) (.len (.var 2))))) (startSt 14 [diskPV t, treePV t, natsPV fs, .int x] ms) =
      some (.next, ⟨[.val (diskPV t), .val (treePV t), .val (natsPV fs), .val (.int x), .val (iv b), .unset, .unset, .unset, .unset, .unset, .unset, .unset, .unset, .unset], ms⟩) := by
    have hi : itemV (natsPV fs) (iv (ix ((ix x 8 : Nat) : Int) fs.length)) = some (iv b) := by rw [hbd]; exact item_list L1 (map_getD iv 0 (ix_lt _ hfp))
    exact sasg (i := 4) (τ1 := startSt 14 [diskPV t, treePV t, natsPV fs, .int x] ms) (qsub (i := 2) (x := natsPV fs) rfl (qbin (qbin (qvar (i := 3) (v := .int x) rfl) (qiv 8) (fmod_iv x (by decide))) (qlen (i := 2) (x := natsPV fs) rfl (len_map iv (Nat.le_trans hfl (by decide)))) (fmod_iv _ hfp)) hi) (by exact ltl rfl) rfl
  have e2 : ex Φ γ0 (.assign 5 (.sub (.sub (.var 1) (.var 4)) (.int 3))) ⟨[.val (diskPV t), .val (treePV t), .val (natsPV fs), .val (.int x), .val (iv b), .unset, .unset, .unset, .unset, .unset, .unset, .unset, .unset, .unset], ms⟩ =
      some (.next, ⟨[.val (diskPV t), .val (treePV t), .val (natsPV fs), .val (.int x), .val (iv b), .val (sv (nd t b).way), .unset, .unset, .unset, .unset, .unset, .unset, .unset, .unset], ms⟩) :=
    sasg (i := 5) (τ1 := ⟨[.val (diskPV t), .val (treePV t), .val (natsPV fs), .val (.int x), .val (iv b), .unset, .unset, .unset, .unset, .unset, .unset, .unset, .unset, .unset], ms⟩) (qnode w (by omega) (i := 1) (f := 3) rfl (qvar (i := 4) (v := iv b) rfl) hb rfl) (by exact ltl rfl) rfl
  have e3 : ex Φ γ0 (.assign 6 (.lst [])) ⟨[.val (diskPV t), .val (treePV t), .val (natsPV fs), .val (.int x), .val (iv b), .val (sv (nd t b).way), .unset, .unset, .unset, .unset, .unset, .unset, .unset, .unset], ms⟩ =
      some (.next, ⟨[.val (diskPV t), .val (treePV t), .val (natsPV fs), .val (.int x), .val (iv b), .val (sv (nd t b).way), .bld ms.length, .unset, .unset, .unset, .unset, .unset, .unset, .unset], ms ++ [.lst (([] : List (List Nat)).map sv)]⟩) :=
    snew (i := 6) (τ1 := ⟨[.val (diskPV t), .val (treePV t), .val (natsPV fs), .val (.int x), .val (iv b), .val (sv (nd t b).way), .unset, .unset, .unset, .unset, .unset, .unset, .unset, .unset], ms⟩) qnil (by exact ltl rfl) (Nat.zero_le _) rfl
  obtain ⟨s7, h4⟩ := parts_loop w ht (Φ := Φ) (x := x) (base := (nd t b).way) (s8 := .unset) (s9 := .unset) (s10 := .unset) (s11 := .unset) (s12 := .unset) (s13 := .unset) (s4 := .val (iv b)) (ms := ms) (List.range' 1 6) [] .unset (fun k hk => by have := List.mem_range'_1.mp hk; omega) (by simp)
  have e4 := ex_for (Φ := Φ) (γ := γ0) (it := .bf .range2 [(.int 1), (.int 7)]) (qbf2 (qiv 1) (qiv 7) (range2_iv (a := 1) (n := 7) (by decide) (by decide))) (items_range (a := 1) (n := 7) (by decide) (by decide)) h4
  rw [List.nil_append] at e4
  have hPm := partsOf_mem x
  have hPl : (partsOf x).length = 6 := by simp [partsOf]
  have hPe : (List.range' 1 6).map (partAt x) = partsOf x := rfl
  rw [hPe] at e4
  generalize partsOf x = P at e4 hPm hPl
  have L2 : (t.map ndPV).length ≤ lid := by rw [List.length_map]; exact Nat.le_trans ht (by decide)
  have e5 : ex Φ γ0 (.assign 8 (.compSub (.var 1) 3)) ⟨[.val (diskPV t), .val (treePV t), .val (natsPV fs), .val (.int x), .val (iv b), .val (sv (nd t b).way), .bld ms.length, s7, .unset, .unset, .unset, .unset, .unset, .unset], ms ++ [.lst (P.map sv)]⟩ =
      some (.next, wS t fs x (nd t b).way P ms (.val (iv b)) s7 .unset .unset .unset .unset .unset) :=
    sasg (i := 8) (τ1 := ⟨[.val (diskPV t), .val (treePV t), .val (natsPV fs), .val (.int x), .val (iv b), .val (sv (nd t b).way), .bld ms.length, s7, .unset, .unset, .unset, .unset, .unset, .unset], ms ++ [.lst (P.map sv)]⟩) (qcompSub (i := 1) (xs := t.map ndPV) rfl L2 (subs_way t)) (by exact ltl rfl) rfl
  have e6 : ex Φ γ0 (.assign 9 (.int 0)) (wS t fs x (nd t b).way P ms (.val (iv b)) s7 .unset .unset .unset .unset .unset) = some (.next, wS t fs x (nd t b).way P ms (.val (iv b)) s7 (.val (iv 0)) .unset .unset .unset .unset) :=
    sasg (i := 9) (τ1 := wS t fs x (nd t b).way P ms (.val (iv b)) s7 .unset .unset .unset .unset .unset) (qiv 0) (by exact ltl rfl) rfl
  obtain ⟨p0, P', rfl⟩ : ∃ p0 P', P = p0 :: P' := by
    cases P with
    | nil => simp at hPl
    | cons p r => exact ⟨p, r, rfl⟩
  have hPs : ((p0 :: P').map sv).length ≤ lid := by rw [List.length_map]; exact Nat.le_trans (Nat.le_of_eq hPl) (by decide)
  have q7 : evT Φ γ0 (.cmp .Eq (.sub (.var 6) (.int 0)) (.str [])) (wS t fs x (nd t b).way (p0 :: P') ms (.val (iv b)) s7 (.val (iv 0)) .unset .unset .unset .unset) = some (decide (p0 = []), wS t fs x (nd t b).way (p0 :: P') ms (.val (iv b)) s7 (.val (iv 0)) .unset .unset .unset .unset) :=
    qcmpT (τ1 := wS t fs x (nd t b).way (p0 :: P') ms (.val (iv b)) s7 (.val (iv 0)) .unset .unset .unset .unset) (qsubb (i := 6) (k := ms.length) (y := iv 0) rfl (qiv 0) (get_last _ _) (item_list hPs (v := sv p0) rfl)) (b := .str []) (y := sv []) rfl (cmp_eq _ _)
  -- the first number and the start node
  have key : ∃ (k0 a0 : Nat), ex Φ γ0 (.ite (.cmp .Eq (.sub (.var 6) (.int 0)) (.str [])) [.assign 4 (.int 0), .assign 9 (.int 1)] []) (wS t fs x (nd t b).way (p0 :: P') ms (.val (iv b)) s7 (.val (iv 0)) .unset .unset .unset .unset) = some (.next, wS t fs x (nd t b).way (p0 :: P') ms (.val (iv a0)) s7 (.val (iv k0)) .unset .unset .unset .unset) ∧
      k0 ≤ 6 ∧ a0 < t.length ∧ ((p0 :: P').head? = some [] → 1 ≤ k0) ∧ cps t a0 = ((p0 :: P').take k0).foldl stepT (if (p0 :: P').head? = some [] then [] else cps t b) := by
    by_cases h : p0 = []
    · rw [decide_eq_true h] at q7
      have e7 : ex Φ γ0 (.assign 4 (.int 0)) (wS t fs x (nd t b).way (p0 :: P') ms (.val (iv b)) s7 (.val (iv 0)) .unset .unset .unset .unset) = some (.next, wS t fs x (nd t b).way (p0 :: P') ms (.val (iv 0)) s7 (.val (iv 0)) .unset .unset .unset .unset) := sasg (i := 4) (τ1 := wS t fs x (nd t b).way (p0 :: P') ms (.val (iv b)) s7 (.val (iv 0)) .unset .unset .unset .unset) (qiv 0) (by exact ltl rfl) rfl
      have e8 : ex Φ γ0 (.assign 9 (.int 1)) (wS t fs x (nd t b).way (p0 :: P') ms (.val (iv 0)) s7 (.val (iv 0)) .unset .unset .unset .unset) = some (.next, wS t fs x (nd t b).way (p0 :: P') ms (.val (iv 0)) s7 (.val (iv 1)) .unset .unset .unset .unset) := sasg (i := 9) (τ1 := wS t fs x (nd t b).way (p0 :: P') ms (.val (iv 0)) s7 (.val (iv 0)) .unset .unset .unset .unset) (qiv 1) (by exact ltl rfl) rfl
      exact ⟨1, 0, (ex_ite_t q7).trans ((exs_next e7).trans (exs_one e8)), by decide, w.pos, fun _ => by decide, by subst h; simp [stepT, WF.cps0 w]⟩
    · rw [decide_eq_false h] at q7
      exact ⟨0, b, (ex_ite_f q7).trans exs_nil, by decide, hb, fun e => absurd (by simpa using e) h, by simp [h]⟩
  obtain ⟨k0, a0, e7, hk0, ha0, hh, hI⟩ := key
  obtain ⟨fl, τ', h8, hfl', hm⟩ := walk_loop w ht hN hJ hS (x := x) (ms := ms) hb hPm hPl (6 - k0) k0 a0 s7 (.val (iv k0)) .unset .unset .unset .unset (by omega) ha0 hh hI
  have e8 := ex_for (Φ := Φ) (γ := γ0) (it := .bf .range2 [(.var 9), (.int 6)]) (b := walkBody) (qbf2 (qvar (τ := wS t fs x (nd t b).way (p0 :: P') ms (.val (iv a0)) s7 (.val (iv k0)) .unset .unset .unset .unset) (i := 9) (v := iv k0) rfl) (qiv 6) (range2_iv (a := k0) (n := 6) (by omega) (by decide))) (items_range (a := k0) (n := 6) (by omega) (by decide)) h8
  have tk : τ'.mem.take ms.length = ms := by rw [hm, List.take_left' rfl]
  show gRun Φ γ0 4 14 c_law_walk _ ms = _
  rcases hfl' with rfl | rfl
  · rw [run_ret (np := 4) (n := 14) (cs := c_law_walk) rfl ((exs_next e1).trans ((exs_next e2).trans ((exs_next e3).trans ((exs_next e4).trans ((exs_next e5).trans ((exs_next e6).trans ((exs_next e7).trans ((exs_next e8).trans (exs_ret (sret (e := .bool true) (v := .bool true) rfl))))))))) ) rfl, tk]
  · rw [run_ret (np := 4) (n := 14) (cs := c_law_walk) rfl ((exs_next e1).trans ((exs_next e2).trans ((exs_next e3).trans ((exs_next e4).trans ((exs_next e5).trans ((exs_next e6).trans ((exs_next e7).trans (exs_ret e8)))))))) rfl, tk]
open Classical in
theorem walk_spec : ∀ xs ms r, gWalk t fs xs ms = some r → gRun Φ γ0 4 n_law_walk.length c_law_walk xs ms = some r := by
  intro xs ms r h
  refine bdk h fun q h1 h => bdk h fun x h2 h => ifk h fun hc h => ?_
  rw [four_inv h1, intOf_inv h2, hc.1, hc.2.1, hc.2.2]
  exact (walk_run w ht hN hJ hS).trans h
end
open Classical in
theorem gWalk_use {t : List Nd} {fs : List Nat} {x : Int} {ms : List MCell} : gWalk t fs [diskPV t, treePV t, natsPV fs, .int x] ms = some (.bool true, ms) := by
  exact if_pos ⟨rfl, rfl, rfl⟩
end Mine
end
noncomputable section
open PySem PySem.W PyProof.Rows PySem.Calls
set_option Elab.async false
set_option linter.unusedVariables false
set_option linter.unusedSimpArgs false
set_option linter.unusedSectionVars false
set_option maxRecDepth 100000
namespace Mine
/-! law -/
noncomputable def gTree (xs : List PV) (ms : List MCell) : Option (PV × List MCell) := (one xs).bind fun v => (lOf v).bind fun ys => (intsOf ys).bind fun is => if is.length ≤ 50 then some (.tup [treePV (mkTree is).1, natsPV (mkTree is).2], ms) else none
theorem intsOf_eq : ∀ {ys : List PV} {is : List Int}, intsOf ys = some is → ys = is.map .int
  | [], is, h => by cases h; rfl
  | y :: ys, is, h => by
    obtain ⟨i, h0, h⟩ := Option.bind_eq_some_iff.mp h
    obtain ⟨js, h1, e⟩ := Option.map_eq_some_iff.mp h
    subst e
    rw [intsOf_eq h1, intOf_inv h0]; rfl
theorem intsOf_map : ∀ is : List Int, intsOf (is.map .int) = some is
  | [] => rfl
  | i :: is => bnd (a := i) rfl (mpd (intsOf_map is) rfl)
theorem tree_spec {Φ : Fns} : ∀ xs ms r, gTree xs ms = some r → gRun Φ γ0 1 n_law_tree.length c_law_tree xs ms = some r := by
  intro xs ms r h
  refine bdk h fun v h1 h => bdk h fun ys h2 h => bdk h fun is his h => ifk h fun hl h => ?_
  rw [one_inv h1, lOf_inv h2, intsOf_eq his]
  exact (tree_run hl).trans h
open Classical in
noncomputable def gImage (t : List Nd) (xs : List PV) (ms : List MCell) : Option (PV × List MCell) := if xs = [treePV t] then some (.bytes (arr (imgOf t)), ms) else none
noncomputable def gDisk (t : List Nd) (xs : List PV) (ms : List MCell) : Option (PV × List MCell) := (one xs).bind fun v => (byOf v).bind fun o => (tabOf ms).bind fun r => if o = arr (imgOf t) then some (diskPV t, .tab true :: r) else none
open Classical in
noncomputable def gSplit (t : List Nd) (xs : List PV) (ms : List MCell) : Option (PV × List MCell) :=
  if h : ∃ k, 0 < k ∧ k < t.length ∧ xs = [sv (nd t k).way] then some (.tup [sv (nd t (nd t (Classical.choose h)).above).way, sv (nd t (Classical.choose h)).name], ms) else none
theorem sv_inj {a b : List Nat} (h : sv a = sv b) : a = b := by
  unfold sv at h; injection h with h; exact strOf_inj h
section
variable {t : List Nd} {fs : List Nat} (w : WF t fs) (ht : t.length ≤ 20)
include w ht
theorem image_spec {Φ : Fns} : ∀ xs ms r, gImage t xs ms = some r → gRun Φ γ0 1 n_law_image.length c_law_image xs ms = some r := by
  intro xs ms r h
  unfold gImage at h
  split at h
  · rename_i hx
    cases h
    rw [hx]; exact image_run w ht
  · cases h
theorem disk_spec {Φ : Fns} (h1 : Φ "read_uint1" = some gU) (h2 : Φ "read_bytes1" = some gB1) (h3 : Φ "_law_stream" = some gStream) (h4 : Φ "filemode" = some gFm) (h5 : Φ "_law_entries" = some (gEnt t)) : ∀ xs ms r, gDisk t xs ms = some r → gRun Φ γ0 1 n_law_disk.length c_law_disk xs ms = some r := by
  intro xs ms r h
  refine bdk h fun v a1 h => bdk h fun o a2 h => bdk h fun r' a3 h => ifk h fun ho h => ?_
  obtain ⟨b, a3⟩ := tabOf_inv a3
  rw [one_inv a1, byOf_inv a2, a3, ho]
  exact (disk_run w ht h1 h2 h3 h4 h5).trans h
theorem pre_last {a : Nat} (ha : a < t.length) : (pre t a).getLast? ≠ some 47 := by
  unfold pre
  split
  · simp
  · rename_i h0
    rw [w.way_eq a ha]
    exact way_last (w.cps_nm a ha) (by rw [w.cps_eq (by omega) ha]; simp)
theorem pre_way {a : Nat} (ha : a < t.length) : (if pre t a = [] then [47] else pre t a) = (nd t a).way := by
  unfold pre
  by_cases h0 : a = 0
  · subst h0; rw [w.nd0]; rfl
  · rw [if_neg h0, if_neg ?_]
    rw [(w.ok a (by omega) ha).2.2.2]; simp
theorem split_node {Φ : Fns} (h1 : Φ "fspath" = some gFspath) (h2 : Φ "_get_sep" = some gSep) {k : Nat} {ms : List MCell} (h0 : 0 < k) (hk : k < t.length) : gRun Φ γ0 1 n_split.length c_split [sv (nd t k).way] ms = some (.tup [sv (nd t (nd t k).above).way, sv (nd t k).name], ms) := by
  obtain ⟨_, _, h3, h4⟩ := w.ok k h0 hk
  have hlt := w.above_lt hk
  have hpl : (pre t (nd t k).above).length ≤ 100 := by
    unfold pre; split
    · simp
    · have := w.way_len _ hlt; omega
  have hnl := w.name_len (by omega) h0 hk
  have := split_run h1 h2 (pre := pre t (nd t k).above) (nm := (nd t k).name) (ms := ms) (nm4_nm _ h3).2.1 (pre_last w ht hlt) (by omega)
  rw [pre_way w ht hlt, ← h4] at this
  exact this
theorem split_spec {Φ : Fns} (h1 : Φ "fspath" = some gFspath) (h2 : Φ "_get_sep" = some gSep) : ∀ xs ms r, gSplit t xs ms = some r → gRun Φ γ0 1 n_split.length c_split xs ms = some r := by
  intro xs ms r h
  unfold gSplit at h
  split at h
  · rename_i hx
    cases h
    obtain ⟨q1, q2, q3⟩ := Classical.choose_spec hx
    have := split_node w ht h1 h2 (ms := ms) q1 q2
    rw [← q3] at this
    exact this
  · cases h
theorem gSplit_use {k : Nat} {ms : List MCell} (h0 : 0 < k) (hk : k < t.length) : gSplit t [sv (nd t k).way] ms = some (.tup [sv (nd t (nd t k).above).way, sv (nd t k).name], ms) := by
  have hx : ∃ j, 0 < j ∧ j < t.length ∧ [sv (nd t k).way] = [sv (nd t j).way] := ⟨k, h0, hk, rfl⟩
  unfold gSplit
  rw [dif_pos hx]
  obtain ⟨q1, q2, q3⟩ := Classical.choose_spec hx
  have : Classical.choose hx = k := by
    injection q3 with q3
    exact (w.way_inj hk q2 (sv_inj q3)).symm
  rw [this]
theorem join_node {k : Nat} (h0 : 0 < k) (hk : k < t.length) : joinP (nd t (nd t k).above).way (nd t k).name = (nd t k).way := by
  obtain ⟨_, _, h3, h4⟩ := w.ok k h0 hk
  have hlt := w.above_lt hk
  have hn := nm4_nm _ h3
  have ht1 : (nd t k).name.take 1 ≠ [47] := by
    have := (joinS_take1 (r := []) hn.1 hn.2.1).1
    simpa [joinS] using this
  have hlast := pre_last w ht hlt
  rw [h4]
  unfold joinP
  by_cases ha : (nd t k).above = 0
  · rw [ha, w.nd0]
    rw [if_neg (by simp [ht1, topNd])]
    simp [pre, topNd]
  · have hp : pre t (nd t k).above = (nd t (nd t k).above).way := by simp [pre, ha]
    rw [hp] at hlast ⊢
    have hne : (nd t (nd t k).above).way ≠ [] := by
      rw [(w.ok _ (by omega) hlt).2.2.2]; simp
    rw [if_neg (by simp [ht1, hne]), if_neg hlast]

noncomputable abbrev lS (t : List Nd) (fs : List Nat) (xs : List Int) (s6 s7 s8 s9 s10 : Slot) (found : List Nat) : St :=
  ⟨[.val (.list (xs.map .int)), .val (.list ((xs.take 4).map .int)), .val (treePV t), .val (natsPV fs), .val (diskPV t), .bld 1, s6, s7, s8, s9, s10], [.tab true, .lst (found.map iv)]⟩
noncomputable def lawIn : List C := [.app 5 (.var 9),
      .ite (.or_ [(.cmp .NotEq (.call "join" [(.var 7), (.var 8)]) (.sub (.sub (.var 2) (.var 9)) (.int 3))), (.cmp .NotEq (.call "split" [(.sub (.sub (.var 2) (.var 9)) (.int 3))]) (.tup [(.var 7), (.var 8)]))]) [.ret (.bool false)] []]
noncomputable def lawBody : List C := [.assign 7 (.sub (.sub (.var 2) (.var 6)) (.int 3)),
    .ite (.cmp .NotEq (.call "_law_climb" [(.var 4), (.var 6)]) (.var 7)) [.ret (.bool false)] [],
    .forT [8, 9] (.slcFrom (.sub (.sub (.var 4) (.var 6)) (.int 1)) (.int 2)) lawIn []]
variable {Φ : Fns} (hJ : Φ "join" = some gJoin) (hC : Φ "_law_climb" = some (gClimb t fs)) (hSp : Φ "split" = some (gSplit t))
include hJ hC hSp
theorem law_in {xs : List Int} {k : Nat} {s10 : Slot} (hk : k ∈ fs) : ∀ (cs : List Nat) (found : List Nat) (s8 s9 : Slot), (∀ c ∈ cs, c ∈ kids t k) → found.length + cs.length ≤ 1000 →
    ∃ s8' s9', forL (setT [8, 9]) (exs Φ γ0 lawIn) (exs Φ γ0 []) (cs.map fun c => entPV ((nd t c).name, c)) (lS t fs xs (.val (iv k)) (.val (sv (nd t k).way)) s8 s9 s10 found) =
      some (.next, lS t fs xs (.val (iv k)) (.val (sv (nd t k).way)) s8' s9' s10 (found ++ cs))
  | [], found, s8, s9, _, _ => ⟨s8, s9, by rw [List.map_nil, forL_nil, exs_nil, List.append_nil]⟩
  | c :: cs, found, s8, s9, hc, hl => by
    simp only [List.length_cons] at hl
    obtain ⟨c1, c0, ca⟩ := mem_kids.mp (hc c (List.mem_cons_self ..))
    obtain ⟨b8, b9, ih⟩ := law_in (xs := xs) (s10 := s10) hk cs (found ++ [c]) (.val (sv (nd t c).name)) (.val (iv c)) (fun y hy => hc y (List.mem_cons_of_mem _ hy)) (by simp; omega)
    refine ⟨b8, b9, ?_⟩
    have hs : setT [8, 9] (entPV ((nd t c).name, c)) (lS t fs xs (.val (iv k)) (.val (sv (nd t k).way)) s8 s9 s10 found) = some (lS t fs xs (.val (iv k)) (.val (sv (nd t k).way)) (.val (sv (nd t c).name)) (.val (iv c)) s10 found) := rfl
    have e1 : ex Φ γ0 (.app 5 (.var 9)) (lS t fs xs (.val (iv k)) (.val (sv (nd t k).way)) (.val (sv (nd t c).name)) (.val (iv c)) s10 found) = some (.next, lS t fs xs (.val (iv k)) (.val (sv (nd t k).way)) (.val (sv (nd t c).name)) (.val (iv c)) s10 (found ++ [c])) := by
      have := sapp (Φ := Φ) (γ := γ0) (i := 5) (k := 1) (τ := lS t fs xs (.val (iv k)) (.val (sv (nd t k).way)) (.val (sv (nd t c).name)) (.val (iv c)) s10 found) (τ1 := lS t fs xs (.val (iv k)) (.val (sv (nd t k).way)) (.val (sv (nd t c).name)) (.val (iv c)) s10 found) (xs := found.map iv) rfl rfl (qvar (i := 9) (v := iv c) rfl) rfl (by rw [List.length_map]; exact Nat.le_trans (by omega : found.length + 1 ≤ 1000) (by decide)) rfl
      refine this.trans ?_
      simp [lS]
    have hnl := w.name_len (by omega) c0 c1
    have hkl := (w.mem_fs.mp hk).1
    have hwl := w.way_len k hkl
    have g1 : ∀ m, gJoin [sv (nd t k).way, sv (nd t c).name] m = some (sv (nd t c).way, m) := fun m => by
      show (if (strOf (nd t k).way).length + (strOf (nd t c).name).length ≤ 1000 then some (sv (joinP (strOf (nd t k).way).cps.toList (strOf (nd t c).name).cps.toList), m) else none) = _
      rw [strOf_len, strOf_len, if_pos (by omega), strOf_toList, strOf_toList, ← ca, join_node w ht c0 c1]
    have qw : ev Φ γ0 (.sub (.sub (.var 2) (.var 9)) (.int 3)) (lS t fs xs (.val (iv k)) (.val (sv (nd t k).way)) (.val (sv (nd t c).name)) (.val (iv c)) s10 (found ++ [c])) = some (sv (nd t c).way, lS t fs xs (.val (iv k)) (.val (sv (nd t k).way)) (.val (sv (nd t c).name)) (.val (iv c)) s10 (found ++ [c])) :=
      qnode w (by omega) (i := 2) (f := 3) rfl (qvar (i := 9) (v := iv c) rfl) c1 rfl
    have qa : evT Φ γ0 (.cmp .NotEq (.call "join" [(.var 7), (.var 8)]) (.sub (.sub (.var 2) (.var 9)) (.int 3))) (lS t fs xs (.val (iv k)) (.val (sv (nd t k).way)) (.val (sv (nd t c).name)) (.val (iv c)) s10 (found ++ [c])) = some (decide ((nd t c).way ≠ (nd t c).way), lS t fs xs (.val (iv k)) (.val (sv (nd t k).way)) (.val (sv (nd t c).name)) (.val (iv c)) s10 (found ++ [c])) :=
      qcmpT (τ1 := lS t fs xs (.val (iv k)) (.val (sv (nd t k).way)) (.val (sv (nd t c).name)) (.val (iv c)) s10 (found ++ [c])) (qcall2 (τ2 := lS t fs xs (.val (iv k)) (.val (sv (nd t k).way)) (.val (sv (nd t c).name)) (.val (iv c)) s10 (found ++ [c])) hJ (qvar (i := 7) (v := sv (nd t k).way) rfl) (qvar (i := 8) (v := sv (nd t c).name) rfl) (g1 _)) qw (cmp_ne _ _)
    rw [decide_eq_false (by simp)] at qa
    have g2 := gSplit_use w ht (ms := (lS t fs xs (.val (iv k)) (.val (sv (nd t k).way)) (.val (sv (nd t c).name)) (.val (iv c)) s10 (found ++ [c])).mem) c0 c1
    rw [ca] at g2
    have qb : evT Φ γ0 (.cmp .NotEq (.call "split" [(.sub (.sub (.var 2) (.var 9)) (.int 3))]) (.tup [(.var 7), (.var 8)])) (lS t fs xs (.val (iv k)) (.val (sv (nd t k).way)) (.val (sv (nd t c).name)) (.val (iv c)) s10 (found ++ [c])) = some (false, lS t fs xs (.val (iv k)) (.val (sv (nd t k).way)) (.val (sv (nd t c).name)) (.val (iv c)) s10 (found ++ [c])) := by
      refine qcmpT (τ1 := lS t fs xs (.val (iv k)) (.val (sv (nd t k).way)) (.val (sv (nd t c).name)) (.val (iv c)) s10 (found ++ [c])) (qcall1 hSp qw g2) (qtup (qcons (qvar (i := 7) (v := sv (nd t k).way) rfl) (qcons (qvar (i := 8) (v := sv (nd t c).name) rfl) qnil)) (by simp only [List.length_cons, List.length_nil]; decide) rfl) ?_
      show some (!(strOf (nd t k).way == strOf (nd t k).way && strOf (nd t c).name == strOf (nd t c).name)) = _
      rw [strOf_beq, strOf_beq]; simp
    have e2 := (ex_ite_f (a := [.ret (.bool false)]) (qor2 qa qb)).trans exs_nil
    rw [List.map_cons]
    refine (forL_next hs ((exs_next e1).trans (exs_one e2))).trans (ih.trans ?_)
    rw [List.append_assoc]; rfl
theorem law_loop {xs : List Int} {s10 : Slot} : ∀ (ks found : List Nat) (s6 s7 s8 s9 : Slot), (∀ k ∈ ks, k ∈ fs) → found.length + 20 * ks.length ≤ 1000 →
    ∃ s6' s7' s8' s9', forL (setV 6) (exs Φ γ0 lawBody) (fun τ => some (.next, τ)) (ks.map iv) (lS t fs xs s6 s7 s8 s9 s10 found) = some (.next, lS t fs xs s6' s7' s8' s9' s10 (found ++ ks.flatMap (kids t)))
  | [], found, s6, s7, s8, s9, _, _ => ⟨s6, s7, s8, s9, by simp [forL]⟩
  | k :: ks, found, s6, s7, s8, s9, hk, hl => by
    simp only [List.length_cons] at hl
    have hkf := hk k (List.mem_cons_self ..)
    have hlt := (w.mem_fs.mp hkf).1
    have hkl := kids_len w (by omega) k
    have hs : setV 6 (iv k) (lS t fs xs s6 s7 s8 s9 s10 found) = some (lS t fs xs (.val (iv k)) s7 s8 s9 s10 found) := rfl
    have e1 : ex Φ γ0 (.assign 7 (.sub (.sub (.var 2) (.var 6)) (.int 3))) (lS t fs xs (.val (iv k)) s7 s8 s9 s10 found) = some (.next, lS t fs xs (.val (iv k)) (.val (sv (nd t k).way)) s8 s9 s10 found) :=
      sasg (i := 7) (τ1 := lS t fs xs (.val (iv k)) s7 s8 s9 s10 found) (qnode w (by omega) (i := 2) (f := 3) rfl (qvar (i := 6) (v := iv k) rfl) hlt rfl) (by exact ltl rfl) rfl
    have q2 : evT Φ γ0 (.cmp .NotEq (.call "_law_climb" [(.var 4), (.var 6)]) (.var 7)) (lS t fs xs (.val (iv k)) (.val (sv (nd t k).way)) s8 s9 s10 found) = some (decide ((nd t k).way ≠ (nd t k).way), lS t fs xs (.val (iv k)) (.val (sv (nd t k).way)) s8 s9 s10 found) :=
      qcmpT (τ1 := lS t fs xs (.val (iv k)) (.val (sv (nd t k).way)) s8 s9 s10 found) (qcall2 (τ2 := lS t fs xs (.val (iv k)) (.val (sv (nd t k).way)) s8 s9 s10 found) hC (qvar (i := 4) (v := diskPV t) rfl) (qvar (i := 6) (v := iv k) rfl) (gClimb_use w ht hkf)) (qvar (i := 7) (v := sv (nd t k).way) rfl) (cmp_ne _ _)
    rw [decide_eq_false (by simp)] at q2
    have e2 := (ex_ite_f (a := [.ret (.bool false)]) q2).trans exs_nil
    have L3 : ((entsOf t k).map entPV).length ≤ lid := by rw [List.length_map]; exact Nat.le_trans (ents_ok w ht hlt).1 (by decide)
    have hcut : cutV (entsPV (entsOf t k)) (some ((2 : Nat) : Int)) none = some (.list ((kids t k).map fun c => entPV ((nd t c).name, c))) := by
      have hd : ((entsOf t k).map entPV).drop 2 = (kids t k).map fun c => entPV ((nd t c).name, c) := by
        unfold entsOf; simp
      have : cutV (.list ((entsOf t k).map entPV)) (some ((2 : Nat) : Int)) none = some (.list ((((entsOf t k).map entPV).drop 2).take (((entsOf t k).map entPV).length - 2))) := by
        simp only [cutV, Option.all_some, Option.all_none, Bool.and_true, L3, if_true]
        rw [if_pos (by decide)]
        simp
      refine this.trans ?_
      rw [List.take_of_length_le (by simp), hd]
    obtain ⟨a8, a9, h3⟩ := law_in w ht hJ hC hSp (xs := xs) (s10 := s10) hkf (kids t k) found s8 s9 (fun c hc => hc) (by omega)
    have hlk : ((kids t k).map fun c => entPV ((nd t c).name, c)).length ≤ lid := by rw [List.length_map]; exact Nat.le_trans (Nat.le_trans hkl ht) (by decide)
    have e3 := ex_forT (qslcFromx (Φ := Φ) (τ := lS t fs xs (.val (iv k)) (.val (sv (nd t k).way)) s8 s9 s10 found) (qents w ht (i := 4) rfl (qvar (i := 6) (v := iv k) rfl) hkf) (qiv 2) hcut rfl) (vs := (kids t k).map fun c => entPV ((nd t c).name, c)) (by
      show (if ((kids t k).map fun c => entPV ((nd t c).name, c)).length ≤ lid then some ((kids t k).map fun c => entPV ((nd t c).name, c)) else none) = _
      rw [if_pos hlk]) h3
    obtain ⟨b6, b7, b8, b9, ih⟩ := law_loop (xs := xs) (s10 := s10) ks (found ++ kids t k) (.val (iv k)) (.val (sv (nd t k).way)) a8 a9 (fun y hy => hk y (List.mem_cons_of_mem _ hy)) (by simp; omega)
    refine ⟨b6, b7, b8, b9, ?_⟩
    rw [List.map_cons]
    refine (forL_next hs ((exs_next e1).trans ((exs_next e2).trans (exs_one e3)))).trans (ih.trans ?_)
    rw [List.flatMap_cons, List.append_assoc]
end
theorem sort_found {t : List Nd} {fs : List Nat} (w : WF t fs) (ht : t.length ≤ 20) : bfV .sorted [.list ((fs.flatMap (kids t)).map iv)] = some (.list ((List.range' 1 (t.length - 1)).map iv)) := by
  have hp := w.found_perm
  have hl : (fs.flatMap (kids t)).length ≤ 60 := by rw [hp.length_eq, List.length_range']; omega
  have hs : ((fs.flatMap (kids t)).map fun (n : Nat) => (n : Int)).mergeSort (fun a b => decide (a ≤ b)) = (List.range' 1 (t.length - 1)).map fun (n : Nat) => (n : Int) := by
    refine List.Perm.eq_of_pairwise (le := fun a b => a ≤ b) (fun a b _ _ h1 h2 => by omega) ?_ ?_ ((List.mergeSort_perm _ _).trans (hp.map _))
    · have := List.pairwise_mergeSort (le := fun (a b : Int) => decide (a ≤ b)) (fun a b c h1 h2 => by simp at h1 h2 ⊢; omega) (fun a b => by simp; omega) ((fs.flatMap (kids t)).map fun (n : Nat) => (n : Int))
      exact this.imp fun h => by simpa using h
    · rw [List.pairwise_map]
      exact (List.pairwise_lt_range' (s := 1) (n := t.length - 1) 1).imp fun h => by omega
  show ((intsOf ((fs.flatMap (kids t)).map iv)).bind fun is => if is.length ≤ 60 then some (PV.list ((is.mergeSort (fun a b => decide (a ≤ b))).map .int)) else none) = _
  rw [ints_map, Option.bind_some, List.length_map, if_pos hl, hs, List.map_map]; rfl
theorem list_int (a b : Int) : bfV .list [.range a b] = if small a = true ∧ small b = true ∧ b - a ≤ lid then some (.list ((List.range (b - a).toNat).map fun (k : Nat) => .int (a + (k : Int)))) else none := rfl
theorem list_range {n : Nat} (h : n ≤ 1000) : bfV .list [.range ((1 : Nat) : Int) (n : Int)] = some (.list ((List.range' 1 (n - 1)).map iv)) := by
  rw [list_int, if_pos ⟨small_nat (by decide), small_nat (by omega), by show (n : Int) - ((1 : Nat) : Int) ≤ ((1000000 : Nat) : Int); omega⟩]
  have e : ((n : Int) - ((1 : Nat) : Int)).toNat = n - 1 := by omega
  rw [e, List.range'_eq_map_range, List.map_map]
  rfl
section
variable {xs : List Int} (hx : xs.length ≤ 63)
noncomputable def scr (xs : List Int) : List Int := [50880, 101796, 11, 51042] ++ xs.take 4
variable {Φ : Fns} (hT : Φ "_law_tree" = some gTree) (hI : Φ "_law_image" = some (gImage (mkTree (scr xs)).1)) (hD : Φ "_law_disk" = some (gDisk (mkTree (scr xs)).1))
  (hJ : Φ "join" = some gJoin) (hC : Φ "_law_climb" = some (gClimb (mkTree (scr xs)).1 (mkTree (scr xs)).2)) (hSp : Φ "split" = some (gSplit (mkTree (scr xs)).1)) (hW : Φ "_law_walk" = some (gWalk (mkTree (scr xs)).1 (mkTree (scr xs)).2))
include hx hT hI hD hJ hC hSp hW
theorem law_run : ∃ τ', exs Φ γ0 c_law (startSt 11 [.list (xs.map .int)] [.tab false]) = some (.ret (.bool true), τ') ∧ ∃ r, τ'.mem = .tab true :: r := by
  obtain ⟨w, hl⟩ := mkTree_wf (scr xs)
  have hsl : (scr xs).length ≤ 8 := by unfold scr; simp; omega
  have ht : (mkTree (scr xs)).1.length ≤ 20 := by omega
  generalize htr : (mkTree (scr xs)).1 = t at *
  generalize hfs : (mkTree (scr xs)).2 = fs at *
  have L0 : (xs.map PV.int).length ≤ lid := by rw [List.length_map]; exact Nat.le_trans hx (by decide)
  have e1 : ex Φ γ0 (.assign 1 (.slcTo (.var 0) (.int 4))) (startSt 11 [.list (xs.map .int)] [.tab false]) = some (.next, ⟨[.val (.list (xs.map .int)), .val (.list ((xs.take 4).map .int)), .unset, .unset, .unset, .unset, .unset, .unset, .unset, .unset, .unset], [.tab false]⟩) := by
    have hcut : cutV (.list (xs.map .int)) none (some ((4 : Nat) : Int)) = some (.list ((xs.take 4).map .int)) := by
      simp only [cutV, Option.all_none, Option.all_some, Bool.true_and, L0, if_true]
      rw [if_pos (by decide)]
      simp [List.map_take]
    exact sasg (i := 1) (τ1 := startSt 11 [.list (xs.map .int)] [.tab false]) (qslcTo (i := 0) (x := .list (xs.map .int)) rfl (qiv 4) hcut) (by exact ltl rfl) rfl
  have hadd : binV .Add (.list [.int 50880, .int 101796, .int 11, .int 51042]) (.list ((xs.take 4).map .int)) = some (.list ((scr xs).map .int)) := by
    have : ([.int 50880, .int 101796, .int 11, .int 51042] : List PV).length + ((xs.take 4).map PV.int).length ≤ lid := by
      simp only [List.length_cons, List.length_nil, List.length_map, List.length_take]
      exact Nat.le_trans (by omega : _ ≤ 8) (by decide)
    show (if ([.int 50880, .int 101796, .int 11, .int 51042] : List PV).length + ((xs.take 4).map PV.int).length ≤ lid then some (PV.list ([.int 50880, .int 101796, .int 11, .int 51042] ++ (xs.take 4).map PV.int)) else none) = _
    rw [if_pos this]
    unfold scr; rw [List.map_append]; rfl
  have gt : ∀ m, gTree [.list ((scr xs).map .int)] m = some (.tup [treePV t, natsPV fs], m) := fun m => by
    refine bnd (a := PV.list ((scr xs).map .int)) rfl (bnd (a := (scr xs).map .int) rfl (bnd (intsOf_map _) ?_))
    rw [if_pos (by omega), htr, hfs]
  have e2 : ex Φ γ0 (.assignT [2, 3] (.call "_law_tree" [(.bin .Add (.lst [(.int 50880), (.int 101796), (.int 11), (.int 51042)]) (.var 1))])) ⟨[.val (.list (xs.map .int)), .val (.list ((xs.take 4).map .int)), .unset, .unset, .unset, .unset, .unset, .unset, .unset, .unset, .unset], [.tab false]⟩ =
      some (.next, ⟨[.val (.list (xs.map .int)), .val (.list ((xs.take 4).map .int)), .val (treePV t), .val (natsPV fs), .unset, .unset, .unset, .unset, .unset, .unset, .unset], [.tab false]⟩) :=
    sasgT (τ1 := ⟨[.val (.list (xs.map .int)), .val (.list ((xs.take 4).map .int)), .unset, .unset, .unset, .unset, .unset, .unset, .unset, .unset, .unset], [.tab false]⟩)
      (qcall1 (τ1 := ⟨[.val (.list (xs.map .int)), .val (.list ((xs.take 4).map .int)), .unset, .unset, .unset, .unset, .unset, .unset, .unset, .unset, .unset], [.tab false]⟩) hT
        (qbin (x := .list [.int 50880, .int 101796, .int 11, .int 51042]) (τ1 := ⟨[.val (.list (xs.map .int)), .val (.list ((xs.take 4).map .int)), .unset, .unset, .unset, .unset, .unset, .unset, .unset, .unset, .unset], [.tab false]⟩) rfl (qvar (i := 1) (v := .list ((xs.take 4).map .int)) rfl) hadd) (gt _)) rfl
  have gi : ∀ m, gImage t [treePV t] m = some (.bytes (arr (imgOf t)), m) := fun m => by unfold gImage; rw [if_pos rfl]
  have gd : gDisk t [.bytes (arr (imgOf t))] [.tab false] = some (diskPV t, [.tab true]) := bnd (a := PV.bytes (arr (imgOf t))) rfl (bnd (a := arr (imgOf t)) rfl (bnd (a := ([] : List MCell)) rfl (if_pos rfl)))
  have e3 : ex Φ γ0 (.assign 4 (.call "_law_disk" [(.call "_law_image" [(.var 2)])])) ⟨[.val (.list (xs.map .int)), .val (.list ((xs.take 4).map .int)), .val (treePV t), .val (natsPV fs), .unset, .unset, .unset, .unset, .unset, .unset, .unset], [.tab false]⟩ =
      some (.next, ⟨[.val (.list (xs.map .int)), .val (.list ((xs.take 4).map .int)), .val (treePV t), .val (natsPV fs), .val (diskPV t), .unset, .unset, .unset, .unset, .unset, .unset], [.tab true]⟩) :=
    sasg (i := 4) (τ1 := ⟨[.val (.list (xs.map .int)), .val (.list ((xs.take 4).map .int)), .val (treePV t), .val (natsPV fs), .unset, .unset, .unset, .unset, .unset, .unset, .unset], [.tab true]⟩)
      (qcall1 (τ1 := ⟨[.val (.list (xs.map .int)), .val (.list ((xs.take 4).map .int)), .val (treePV t), .val (natsPV fs), .unset, .unset, .unset, .unset, .unset, .unset, .unset], [.tab false]⟩) hD
        (qcall1 (τ1 := ⟨[.val (.list (xs.map .int)), .val (.list ((xs.take 4).map .int)), .val (treePV t), .val (natsPV fs), .unset, .unset, .unset, .unset, .unset, .unset, .unset], [.tab false]⟩) hI (qvar (i := 2) (v := treePV t) rfl) (gi _)) gd) (by exact ltl rfl) rfl
  have ltlid : t.length ≤ lid := Nat.le_trans ht (by decide)
  have l1 : lenV (diskPV t) = some (iv t.length) := by
    have := len_map (rowPV t) (l := List.range t.length) (by simpa using ltlid)
    rw [List.length_range] at this; exact this
  have l2 : lenV (treePV t) = some (iv t.length) := len_map ndPV ltlid
  have q4 : evT Φ γ0 (.cmp .NotEq (.len (.var 4)) (.len (.var 2))) ⟨[.val (.list (xs.map .int)), .val (.list ((xs.take 4).map .int)), .val (treePV t), .val (natsPV fs), .val (diskPV t), .unset, .unset, .unset, .unset, .unset, .unset], [.tab true]⟩ = some (decide (t.length ≠ t.length), ⟨[.val (.list (xs.map .int)), .val (.list ((xs.take 4).map .int)), .val (treePV t), .val (natsPV fs), .val (diskPV t), .unset, .unset, .unset, .unset, .unset, .unset], [.tab true]⟩) :=
    qcmpT (qlen (i := 4) (x := diskPV t) rfl l1) (qlen (i := 2) (x := treePV t) rfl l2) (ne_iv _ _)
  rw [decide_eq_false (by simp)] at q4
  have e4 := (ex_ite_f (a := [.ret (.bool false)]) q4).trans exs_nil
  have e5 : ex Φ γ0 (.assign 5 (.lst [])) ⟨[.val (.list (xs.map .int)), .val (.list ((xs.take 4).map .int)), .val (treePV t), .val (natsPV fs), .val (diskPV t), .unset, .unset, .unset, .unset, .unset, .unset], [.tab true]⟩ = some (.next, lS t fs xs .unset .unset .unset .unset .unset []) :=
    snew (i := 5) (τ1 := ⟨[.val (.list (xs.map .int)), .val (.list ((xs.take 4).map .int)), .val (treePV t), .val (natsPV fs), .val (diskPV t), .unset, .unset, .unset, .unset, .unset, .unset], [.tab true]⟩) qnil (by exact ltl rfl) (Nat.zero_le _) rfl
  have hfl := w.fs_len
  obtain ⟨b6, b7, b8, b9, h6⟩ := law_loop w ht hJ hC hSp (xs := xs) (s10 := .unset) fs [] .unset .unset .unset .unset (fun k hk => hk) (by simp; omega)
  rw [List.nil_append] at h6
  have e6 := ex_for (Φ := Φ) (γ := γ0) (b := lawBody) (qvar (τ := lS t fs xs .unset .unset .unset .unset .unset []) (i := 3) (v := natsPV fs) rfl) (vs := fs.map iv) (by
    have : (fs.map iv).length ≤ lid := by rw [List.length_map]; exact Nat.le_trans (Nat.le_trans hfl ht) (by decide)
    show (if (fs.map iv).length ≤ lid then some (fs.map iv) else none) = _
    rw [if_pos this]) h6
  have qf := qfreeze (Φ := Φ) (γ := γ0) (τ := lS t fs xs b6 b7 b8 b9 .unset (fs.flatMap (kids t))) (i := 5) (k := 1) rfl rfl
  have hr : ev Φ γ0 (.bf .list [(.bf .range2 [(.int 1), (.len (.var 2))])]) ⟨[.val (.list (xs.map .int)), .val (.list ((xs.take 4).map .int)), .val (treePV t), .val (natsPV fs), .val (diskPV t), .val (.list ((fs.flatMap (kids t)).map iv)), b6, b7, b8, b9, .unset], [.tab true, .dead]⟩ = some (.list ((List.range' 1 (t.length - 1)).map iv), ⟨[.val (.list (xs.map .int)), .val (.list ((xs.take 4).map .int)), .val (treePV t), .val (natsPV fs), .val (diskPV t), .val (.list ((fs.flatMap (kids t)).map iv)), b6, b7, b8, b9, .unset], [.tab true, .dead]⟩) :=
    qbf1 (qbf2 (qiv 1) (qlen (i := 2) (x := treePV t) rfl l2) (range2_iv (a := 1) (n := t.length) (by decide) (by omega))) (list_range (by omega))
  have hne : cmpV .NotEq (.list ((List.range' 1 (t.length - 1)).map iv)) (.list ((List.range' 1 (t.length - 1)).map iv)) = some false := by
    show ((intsOf ((List.range' 1 (t.length - 1)).map iv)).bind fun as => (intsOf ((List.range' 1 (t.length - 1)).map iv)).bind fun bs => if as.length ≤ lid ∧ bs.length ≤ lid then some (as != bs) else none) = _
    rw [ints_map, Option.bind_some, Option.bind_some, List.length_map, List.length_range', if_pos ⟨Nat.le_trans (by omega : _ ≤ 20) (by decide), Nat.le_trans (by omega : _ ≤ 20) (by decide)⟩]
    simp
  have q7 : evT Φ γ0 (.cmp .NotEq (.bf .sorted [(.var 5)]) (.bf .list [(.bf .range2 [(.int 1), (.len (.var 2))])])) (lS t fs xs b6 b7 b8 b9 .unset (fs.flatMap (kids t))) = some (false, ⟨[.val (.list (xs.map .int)), .val (.list ((xs.take 4).map .int)), .val (treePV t), .val (natsPV fs), .val (diskPV t), .val (.list ((fs.flatMap (kids t)).map iv)), b6, b7, b8, b9, .unset], [.tab true, .dead]⟩) :=
    qcmpT (τ1 := ⟨[.val (.list (xs.map .int)), .val (.list ((xs.take 4).map .int)), .val (treePV t), .val (natsPV fs), .val (diskPV t), .val (.list ((fs.flatMap (kids t)).map iv)), b6, b7, b8, b9, .unset], [.tab true, .dead]⟩) (qbf1 qf (sort_found w ht)) hr hne
  have e7 := (ex_ite_f (a := [.ret (.bool false)]) q7).trans exs_nil
  -- the walks
  have walks : ∀ (ys : List Int) (s10 : Slot), ∃ s10', forL (setV 10) (exs Φ γ0 [.ite (.not_ (.call "_law_walk" [(.var 4), (.var 2), (.var 3), (.var 10)])) [.ret (.bool false)] []]) (fun τ => some (.next, τ)) (ys.map .int) ⟨[.val (.list (xs.map .int)), .val (.list ((xs.take 4).map .int)), .val (treePV t), .val (natsPV fs), .val (diskPV t), .val (.list ((fs.flatMap (kids t)).map iv)), b6, b7, b8, b9, s10], [.tab true, .dead]⟩ =
      some (.next, ⟨[.val (.list (xs.map .int)), .val (.list ((xs.take 4).map .int)), .val (treePV t), .val (natsPV fs), .val (diskPV t), .val (.list ((fs.flatMap (kids t)).map iv)), b6, b7, b8, b9, s10'], [.tab true, .dead]⟩) := by
    intro ys
    induction ys with
    | nil => intro s10; exact ⟨s10, rfl⟩
    | cons y ys ih =>
      intro s10
      obtain ⟨c10, ih⟩ := ih (.val (.int y))
      refine ⟨c10, ?_⟩
      have qw : evT Φ γ0 (.not_ (.call "_law_walk" [(.var 4), (.var 2), (.var 3), (.var 10)])) ⟨[.val (.list (xs.map .int)), .val (.list ((xs.take 4).map .int)), .val (treePV t), .val (natsPV fs), .val (diskPV t), .val (.list ((fs.flatMap (kids t)).map iv)), b6, b7, b8, b9, .val (.int y)], [.tab true, .dead]⟩ = some (!true, ⟨[.val (.list (xs.map .int)), .val (.list ((xs.take 4).map .int)), .val (treePV t), .val (natsPV fs), .val (diskPV t), .val (.list ((fs.flatMap (kids t)).map iv)), b6, b7, b8, b9, .val (.int y)], [.tab true, .dead]⟩) := by
        refine qnotT ?_
        exact qcall4T hW (qvar rfl) (qvar rfl) (qvar rfl) (qvar rfl) gWalk_use rfl
      rw [List.map_cons]
      refine (forL_next (τ1 := ⟨[.val (.list (xs.map .int)), .val (.list ((xs.take 4).map .int)), .val (treePV t), .val (natsPV fs), .val (diskPV t), .val (.list ((fs.flatMap (kids t)).map iv)), b6, b7, b8, b9, .val (.int y)], [.tab true, .dead]⟩) rfl (exs_one ((ex_ite_f (a := [.ret (.bool false)]) qw).trans exs_nil))).trans ih
  obtain ⟨c10, h8⟩ := walks ([1951146, 774577, 328] ++ xs.take 4) .unset
  have hadd2 : binV .Add (.list [.int 1951146, .int 774577, .int 328]) (.list ((xs.take 4).map .int)) = some (.list (([1951146, 774577, 328] ++ xs.take 4).map .int)) := by
    have : ([.int 1951146, .int 774577, .int 328] : List PV).length + ((xs.take 4).map PV.int).length ≤ lid := by
      simp only [List.length_cons, List.length_nil, List.length_map, List.length_take]
      exact Nat.le_trans (by omega : _ ≤ 8) (by decide)
    show (if ([.int 1951146, .int 774577, .int 328] : List PV).length + ((xs.take 4).map PV.int).length ≤ lid then some (PV.list ([.int 1951146, .int 774577, .int 328] ++ (xs.take 4).map PV.int)) else none) = _
    rw [if_pos this, List.map_append]; rfl
  have e8 := ex_for (Φ := Φ) (γ := γ0) (b := [.ite (.not_ (.call "_law_walk" [(.var 4), (.var 2), (.var 3), (.var 10)])) [.ret (.bool false)] []]) (it := .bin .Add (.lst [(.int 1951146), (.int 774577), (.int 328)]) (.var 1))
    (qbin (x := .list [.int 1951146, .int 774577, .int 328]) (τ := ⟨[.val (.list (xs.map .int)), .val (.list ((xs.take 4).map .int)), .val (treePV t), .val (natsPV fs), .val (diskPV t), .val (.list ((fs.flatMap (kids t)).map iv)), b6, b7, b8, b9, .unset], [.tab true, .dead]⟩) (τ1 := ⟨[.val (.list (xs.map .int)), .val (.list ((xs.take 4).map .int)), .val (treePV t), .val (natsPV fs), .val (diskPV t), .val (.list ((fs.flatMap (kids t)).map iv)), b6, b7, b8, b9, .unset], [.tab true, .dead]⟩) rfl (qvar (i := 1) (v := .list ((xs.take 4).map .int)) rfl) hadd2) (vs := ([1951146, 774577, 328] ++ xs.take 4).map .int) (by
      have : (([1951146, 774577, 328] ++ xs.take 4).map PV.int).length ≤ lid := by
        simp only [List.length_map, List.length_append, List.length_cons, List.length_nil, List.length_take]
        exact Nat.le_trans (by omega : _ ≤ 8) (by decide)
      show (if (([1951146, 774577, 328] ++ xs.take 4).map PV.int).length ≤ lid then some (([1951146, 774577, 328] ++ xs.take 4).map PV.int) else none) = _
      rw [if_pos this]) h8
  exact ⟨_, (exs_next e1).trans ((exs_next e2).trans ((exs_next e3).trans ((exs_next e4).trans ((exs_next e5).trans ((exs_next e6).trans ((exs_next e7).trans ((exs_next e8).trans (exs_ret (sret (e := .bool true) (v := .bool true) rfl))))))))), _, rfl⟩
end
end Mine
end
noncomputable section
open PySem PySem.W PyProof.Rows PySem.Calls
set_option Elab.async false
set_option linter.unusedVariables false
set_option linter.unusedSimpArgs false
set_option linter.unusedSectionVars false
set_option maxRecDepth 100000
namespace Mine
/-! the defs of the program have their values -/
theorem u1_end {Φ : Fns} : ∀ xs ms ms', endG xs ms = some ms' → xs.length = 1 ∧ ∃ τ1 τ2, ex Φ γ0 (.assign 1 (.read (.var 0) (.int 1))) (startSt 2 xs ms) = some (.next, τ1) ∧ ex Φ γ0 (.ite (.var 1) [.ret (.sub (.var 1) (.int 0))] []) τ1 = some (.next, τ2) ∧ τ2.mem.take ms.length = ms' := by
  intro xs ms ms' h
  obtain ⟨v, rfl, hv⟩ : ∃ v, xs = [v] ∧ endV ms v = some ms' := by
    obtain ⟨v, h1, h⟩ := bd h
    exact ⟨v, one_inv h1, h⟩
  clear h
  obtain ⟨⟨y, ms1⟩, hr, h⟩ := Option.bind_eq_some_iff.mp hv
  obtain ⟨a, hy, h⟩ := Option.bind_eq_some_iff.mp h
  obtain ⟨ha, h⟩ := gd_inv h
  have hy : y = .bytes a := byOf_inv hy
  have h : ms1 = ms' := h
  subst hy h
  have e1 : ex Φ γ0 (.assign 1 (.read (.var 0) (.int 1))) (startSt 2 [v] ms) = some (.next, ⟨[.val v, .val (.bytes a)], ms1⟩) :=
    sasg (qread (qvar rfl) qint hr) (by exact (by decide : 1 < 2)) rfl
  have hl : ms1.length = ms.length := by
    obtain ⟨q, h1, hr⟩ := Option.bind_eq_some_iff.mp hr
    obtain ⟨m, h2, hr⟩ := Option.bind_eq_some_iff.mp hr
    obtain ⟨p, h3, hr⟩ := Option.bind_eq_some_iff.mp hr
    obtain ⟨_, hr⟩ := gd_inv hr
    rw [← (Prod.mk.inj hr).2, List.length_set]
  have tr : truthV (.bytes a) = some false := by
    show (if a.size ≤ lid then some (a.size != 0) else none) = _
    rw [ha]; rfl
  exact ⟨rfl, _, _, e1, (ex_ite_f (qvarT rfl tr)).trans exs_nil, List.take_of_length_le (Nat.le_of_eq hl)⟩
section
variable {prog : Program} {w : World} {h : Heap} {os : OsState} {K : Frag} {mg mb : Str → Option Value} {n : Nat}
theorem none_has : AllHas prog w h os mg n (fun _ => none) := ⟨fun f g q => by simp at q, fun g q => by simp at q⟩
theorem u1_raise (T : Start h K mg mb) : HasR prog w h os mg (n + 2) := by
  have hp := T.S.parts.fns _ (List.mem_of_getElem? (i := 6) rfl)
  have hr := T.S.parts.raises
  unfold okIn at hp
  obtain ⟨hp, hb⟩ := Bool.and_eq_true_iff.mp hp
  obtain ⟨hc, hfit⟩ := Bool.and_eq_true_iff.mp hp
  simp only [Bool.or_eq_true, beq_iff_eq] at hb
  obtain ⟨a, fd, h1, h2, h3, h4⟩ := fn_at0 T.X T.G T.B T.NL hc
  obtain ⟨o, ho, hfd⟩ := h3.obj
  have F : FnAt h a fd (bodyIn K (Str.ofString "read_uint1")) 1 n_read_uint1 (gsIn K (Str.ofString "read_uint1")) mg mb := ⟨h3, fun vals hv => bind_plain (fdGet_eq h1 ▸ hb.resolve_right (by decide +kernel)) (by rw [hv]; rfl)⟩
  replace hfit : C.Iss n_read_uint1 (gsIn K (Str.ofString "read_uint1")) c_read_uint1 (bodyIn K (Str.ofString "read_uint1")) = true := hfit
  generalize bodyIn K (Str.ofString "read_uint1") = body at hfit hr F
  clear hp hc
  revert hfit F
  apply rFit_k hr
  intro st1 st2 q m kd p1 p2 p3 p4 hq hgq hfit F
  apply C.cons_k (P := fun l => l = [st1, st2, _] → _) hfit ?_ rfl
  intro e1 r1 k1 k2 e
  cases e
  refine C.cons_k (P := fun l => l = [st2, _] → _) k2 ?_ rfl
  intro e2 r2 k3 _ e
  cases e
  exact ⟨a, o, fd, h2, ho, hfd, fn_raise (os := os) (Φ := fun _ => none) (γ := γ0) F rfl k1 k3 hq (in_of hgq) (fun A L K ok fr => lib_of T (fun f g q => no q) (fun g q => no q) ok fr rfl rfl rfl rfl) u1_end⟩
/-- the stream maker -/
theorem stream_has (T : Start h K mg mb) : Has prog w h os mg (n + 1) (Str.ofString "_law_stream") gStream := by
  have hp := T.S.parts.stream
  have hs := T.S.stream
  unfold streamIn at hp
  obtain ⟨hp, p4⟩ := Bool.and_eq_true_iff.mp hp
  obtain ⟨hp, p3⟩ := Bool.and_eq_true_iff.mp hp
  obtain ⟨p1, p2⟩ := Bool.and_eq_true_iff.mp hp
  obtain ⟨a, fd, h1, h2, h3, h4⟩ := fn_at0 T.X T.G T.B T.NL p1
  obtain ⟨o, ho, hfd⟩ := h3.obj
  have e := fdGet_eq h1
  rw [hs] at h3
  rw [e] at p2 p3 p4
  exact ⟨a, o, fd, h2, ho, hfd, stream_call ⟨h3, fun vals hv => bind_plain p2 (by rw [hv]; rfl)⟩ h4 (beq_iff_eq.mp p3) (beq_iff_eq.mp p4) T.code T.bm⟩
end
end Mine
end
noncomputable section
open PySem PySem.W PyProof.Rows PySem.Calls
set_option Elab.async false
set_option linter.unusedVariables false
set_option linter.unusedSimpArgs false
set_option linter.unusedSectionVars false
set_option maxRecDepth 100000
namespace Mine
noncomputable abbrev GF := List PV → List MCell → Option (PV × List MCell)
noncomputable def ofL : List (String × GF) → Fns
  | [], _ => none
  | p :: l, f => if f = p.1 then some p.2 else ofL l f
theorem ofL_mem : ∀ {l : List (String × GF)} {f : String} {g : GF}, ofL l f = some g → (f, g) ∈ l
  | [], f, g, h => by simp [ofL] at h
  | p :: l, f, g, h => by
    unfold ofL at h
    split at h
    · rename_i e
      cases h; subst e; exact List.mem_cons_self ..
    · exact List.mem_cons_of_mem _ (ofL_mem h)
section
variable {prog : Program} {w : World} {h : Heap} {os : OsState} {K : Frag} {mg mb : Str → Option Value} {n : Nat} {Φ : Fns}
theorem all_of {l : List (String × GF)} (H : ∀ p ∈ l, Has prog w h os mg n (Str.ofString p.1) p.2) (HR : HasR prog w h os mg n) : AllHas prog w h os mg n (ofL l) := ⟨fun f g q => H (f, g) (ofL_mem q), fun _ _ => HR⟩
theorem mk_has (T : Start h K mg mb) (i : Nat) {f : Str} {np : Nat} {ns : List Str} {cs : List C} {g : GF} (he : fnTab[i]? = some (f, np, ns, cs)) (hj : (f == Str.ofString "join") = false) (hΦ : AllHas prog w h os mg (n + 1) Φ) (spec : ∀ xs ms r, g xs ms = some r → gRun Φ γ0 np ns.length cs xs ms = some r) : Has prog w h os mg (n + 2) f g := (def_ok T (List.mem_of_getElem? he) (fun e => by rw [e, beq_self_eq_true] at hj; cases hj) hΦ).mono spec

noncomputable def l1 : List (String × GF) := [("fspath", gFspath), ("_get_sep", gSep), ("S_IFMT", gIfmt), ("read_uint1", gU), ("_law_stream", gStream)]
theorem has_l1 (T : Start h K mg mb) : ∀ p ∈ l1, Has prog w h os mg (n + 2) (Str.ofString p.1) p.2 := by
  intro p hp
  simp only [l1, List.mem_cons, List.not_mem_nil, or_false] at hp
  rcases hp with rfl | rfl | rfl | rfl | rfl
  · exact mk_has T 0 rfl (by decide +kernel) none_has fspath_spec
  · exact mk_has T 1 rfl (by decide +kernel) none_has sep_spec
  · exact mk_has T 9 rfl (by decide +kernel) none_has ifmt_spec
  · exact mk_has T 6 rfl (by decide +kernel) none_has u1_spec
  · exact (stream_has (n := n) T).le (by omega)
theorem hasR_le {m : Nat} (x : HasR prog w h os mg n) (hm : n ≤ m) : HasR prog w h os mg m := by
  obtain ⟨a, o, fd, q1, q2, q3, q4⟩ := x
  exact ⟨a, o, fd, q1, q2, q3, fun A S μ mem s vs xs mem' Q E rm => q4 A S μ mem s vs xs mem' Q E (rm.le hm)⟩
theorem all_l1 (T : Start h K mg mb) : AllHas prog w h os mg (n + 2) (ofL l1) := all_of (has_l1 T) (u1_raise T)
theorem all_Φ1 (T : Start h K mg mb) : AllHas prog w h os mg (n + 2) Φ1 := by
  refine ⟨fun f g q => ?_, fun g q => by simp [Φ1] at q⟩
  unfold Φ1 at q
  split at q
  · rename_i e; subst e; cases q
    exact has_l1 T ("fspath", gFspath) (by simp [l1])
  · split at q
    · rename_i e; subst e; cases q
      exact has_l1 T ("_get_sep", gSep) (by simp [l1])
    · cases q
theorem root_has (T : Start h K mg mb) : Has prog w h os mg (n + 3) (Str.ofString "splitroot") gRoot := mk_has T 4 rfl (by decide +kernel) (all_Φ1 T) root_spec
theorem join_has (T : Start h K mg mb) : Has prog w h os mg (n + 3) (Str.ofString "join") gJoin := (join_ok T (all_l1 T)).mono (join_spec rfl rfl)
theorem fm_has (T : Start h K mg mb) : Has prog w h os mg (n + 3) (Str.ofString "filemode") gFm := mk_has T 10 rfl (by decide +kernel) (all_l1 T) (fm_spec rfl)
theorem s1_has (T : Start h K mg mb) : Has prog w h os mg (n + 3) (Str.ofString "read_string1") gS1 := mk_has T 7 rfl (by decide +kernel) (all_l1 T) (s1_spec rfl)
theorem b1_has (T : Start h K mg mb) : Has prog w h os mg (n + 3) (Str.ofString "read_bytes1") gB1 := mk_has T 8 rfl (by decide +kernel) (all_l1 T) (b1_spec rfl)
theorem tree_has (T : Start h K mg mb) : Has prog w h os mg (n + 2) (Str.ofString "_law_tree") gTree := mk_has T 11 rfl (by decide +kernel) none_has tree_spec
section
variable {t : List Nd} {fs : List Nat} (wf : WF t fs) (ht : t.length ≤ 20)
include wf ht
theorem image_has (T : Start h K mg mb) : Has prog w h os mg (n + 2) (Str.ofString "_law_image") (gImage t) := mk_has T 12 rfl (by decide +kernel) none_has (image_spec wf ht)
theorem climb_has (T : Start h K mg mb) : Has prog w h os mg (n + 2) (Str.ofString "_law_climb") (gClimb t fs) := mk_has T 15 rfl (by decide +kernel) none_has (climb_spec wf ht)
theorem step_has (T : Start h K mg mb) : Has prog w h os mg (n + 2) (Str.ofString "_law_step") (gStep t) := mk_has T 16 rfl (by decide +kernel) none_has (step_spec wf ht)
theorem split_has (T : Start h K mg mb) : Has prog w h os mg (n + 3) (Str.ofString "split") (gSplit t) := mk_has T 3 rfl (by decide +kernel) (all_l1 T) (split_spec wf ht rfl rfl)
noncomputable def l2 (t : List Nd) : List (String × GF) := [("fspath", gFspath), ("_get_sep", gSep), ("read_uint1", gU), ("_law_stream", gStream), ("splitroot", gRoot), ("join", gJoin), ("filemode", gFm), ("read_string1", gS1), ("read_bytes1", gB1), ("_law_step", gStep t)]
theorem has_l2 (T : Start h K mg mb) : ∀ p ∈ l2 t, Has prog w h os mg (n + 3) (Str.ofString p.1) p.2 := by
  intro p hp
  simp only [l2, List.mem_cons, List.not_mem_nil, or_false] at hp
  rcases hp with rfl | rfl | rfl | rfl | rfl | rfl | rfl | rfl | rfl | rfl
  · exact has_l1 T ("fspath", gFspath) (by simp [l1])
  · exact has_l1 T ("_get_sep", gSep) (by simp [l1])
  · exact has_l1 T ("read_uint1", gU) (by simp [l1])
  · exact has_l1 T ("_law_stream", gStream) (by simp [l1])
  · exact root_has T
  · exact join_has T
  · exact fm_has T
  · exact s1_has T
  · exact b1_has T
  · exact step_has wf ht T
theorem all_l2 (T : Start h K mg mb) : AllHas prog w h os mg (n + 3) (ofL (l2 t)) := all_of (has_l2 wf ht T) (u1_raise T)
theorem norm_has (T : Start h K mg mb) : Has prog w h os mg (n + 4) (Str.ofString "normpath") gNorm := mk_has T 5 rfl (by decide +kernel) (all_l2 wf ht T) (norm_spec rfl rfl)
theorem ents_has (T : Start h K mg mb) : Has prog w h os mg (n + 4) (Str.ofString "_law_entries") (gEnt t) := mk_has T 13 rfl (by decide +kernel) (all_l2 wf ht T) (ent_spec wf ht rfl rfl)
noncomputable def l3 (t : List Nd) : List (String × GF) := ("normpath", gNorm) :: ("_law_entries", gEnt t) :: l2 t
theorem all_l3 (T : Start h K mg mb) : AllHas prog w h os mg (n + 4) (ofL (l3 t)) := by
  refine all_of (fun p hp => ?_) (u1_raise T)
  unfold l3 at hp
  rcases List.mem_cons.mp hp with rfl | hp
  · exact norm_has wf ht T
  · rcases List.mem_cons.mp hp with rfl | hp
    · exact ents_has wf ht T
    · exact has_l2 wf ht T p hp
theorem walk_has (T : Start h K mg mb) : Has prog w h os mg (n + 5) (Str.ofString "_law_walk") (gWalk t fs) := mk_has T 17 rfl (by decide +kernel) (all_l3 wf ht T) (walk_spec wf ht rfl rfl rfl)
theorem disk_has (T : Start h K mg mb) : Has prog w h os mg (n + 5) (Str.ofString "_law_disk") (gDisk t) := mk_has T 14 rfl (by decide +kernel) (all_l3 wf ht T) (disk_spec wf ht rfl rfl rfl rfl rfl)
noncomputable def l4 (t : List Nd) (fs : List Nat) : List (String × GF) := [("_law_tree", gTree), ("_law_image", gImage t), ("_law_disk", gDisk t), ("join", gJoin), ("_law_climb", gClimb t fs), ("split", gSplit t), ("_law_walk", gWalk t fs)]
theorem all_l4 (T : Start h K mg mb) : AllHas prog w h os mg 5 (ofL (l4 t fs)) := by
  refine all_of (fun p hp => ?_) (u1_raise (n := 3) T)
  simp only [l4, List.mem_cons, List.not_mem_nil, or_false] at hp
  rcases hp with rfl | rfl | rfl | rfl | rfl | rfl | rfl
  · exact tree_has (n := 3) T
  · exact image_has (n := 3) wf ht T
  · exact disk_has (n := 0) wf ht T
  · exact join_has (n := 2) T
  · exact climb_has (n := 3) wf ht T
  · exact split_has (n := 2) wf ht T
  · exact walk_has (n := 0) wf ht T
end
end
end Mine
end
noncomputable section
open PySem PySem.W PyProof.Rows PySem.Calls
set_option Elab.async false
set_option linter.unusedVariables false
set_option linter.unusedSimpArgs false
set_option linter.unusedSectionVars false
set_option maxRecDepth 100000
namespace Mine
/-! the law's own frame -/
noncomputable def fcTop (h : Heap) (os : OsState) (name : Str) (sc : Scope) (L a : Addr) (cd : Value) (gs : List Str × List Str) (mg mb : Str → Option Value) : FC := ⟨h, os, envOf name sc L a cd, n_law, gs, mg, mb, fun _ => none⟩
section
variable {prog : Program} {w : World} {h : Heap} {K : Frag} {mg mb : Str → Option Value}
theorem top_ok {os : OsState} {name : Str} {sc : Scope} {L a : Addr} {cd : Value} {gs : List Str} (f : Fits sc n_law (gs, [])) (G : h.Ns mainGlobals mg) (B : h.Ns builtinsNs mb) : (fcTop h os name sc L a cd (gs, []) mg mb).Ok where
  kind := f.kind
  kinds := fun x hx => .inl (f.k2 x hx (by simp))
  kl := f.k2
  nodup := f.nd
  apart := .nil
  off := fun p hp => by cases hp
  cells := fun p hp => by cases hp
  nodebug := f.db
  ck := fun x hx => by cases hx
  gk := f.k4
  gns := G
  bns := B
theorem ints_vrs {S : PH} {μ : List Addr} : ∀ {vs : List Value} {xs : List Int}, IntsAre vs xs → VRs S μ vs (xs.map .int) ∧ NoS (xs.map .int)
  | _, _, .nil => ⟨.nil, .nil⟩
  | _, _, .cons n t h => ⟨.cons (.int n t) (ints_vrs (S := S) (μ := μ) h).1, .cons rfl (ints_vrs (S := S) (μ := μ) h).2⟩

theorem law_top (T : Start h K mg mb) {name : Str} {sc : Scope} {L a : Addr} {cd : Value} {gs : List Str} {s : Shared} {m : Str → Option Value} {al : Addr} {vs : List Value} {xs : List Int} {body : List Stmt}
    (hfit : scopeFits sc n_law (gs, []) = true) (hbody : C.Iss n_law (gs, []) c_law body = true)
    (F : Fr h L s.heap m) (hm : m (Str.ofString "script") = some (.ref al)) (hl : h.IsList al vs.toArray) (hi : IntsAre vs xs) (hx : xs.length ≤ 63) (N : News h L s.heap [(206, tabObj #[])]) (hg : s.gens = #[])
    {Q : Flow → Shared → Prop} {E : Value → Shared → Prop} (k : ∀ s' m' ps', Fr h L s'.heap m' → s'.gens = #[] → s'.os = s.os → s'.heap.get? 206 = some (tabObj ps') → Q (.ret (.bool true)) s') :
    wpAny (model prog w) (callerA.deeper (envOf name sc L a cd)) (execs body (envOf name sc L a cd)) Q E s := by
  obtain ⟨wf, hlen⟩ := mkTree_wf (scr xs)
  have hsl : (scr xs).length ≤ 8 := by unfold scr; simp; omega
  have ht : (mkTree (scr xs)).1.length ≤ 20 := by omega
  have f := fits_of hfit
  have ok : (fcTop h s.os name sc L a cd (gs, []) mg mb).Ok := top_ok f T.G T.B
  have fr : Fram (callerA.deeper (envOf name sc L a cd)) (fcTop h s.os name sc L a cd (gs, []) mg mb) := ⟨[], rfl, rfl, fun env he => by cases he⟩
  have rm : Room (callerA.deeper (envOf name sc L a cd)) 5 := ⟨rfl, by show 1 + claimMargin + 1 + 5 < recursionLimit; decide, by show 4 + 3 + 20 * 5 + 20 < cLine; decide⟩
  have hall := all_l4 (prog := prog) (w := w) (h := h) (os := s.os) wf ht T
  have Lb : Lib prog w (callerA.deeper (envOf name sc L a cd)) (fcTop h s.os name sc L a cd (gs, []) mg mb) 5 (ofL (l4 (mkTree (scr xs)).1 (mkTree (scr xs)).2)) γ0 :=
    lib_of T hall.1 hall.2 ok fr rfl rfl rfl rfl
  obtain ⟨τ', hrun, r, hmem⟩ := law_run (Φ := ofL (l4 (mkTree (scr xs)).1 (mkTree (scr xs)).2)) hx rfl rfl rfl rfl rfl rfl rfl
  obtain ⟨n1, n2, n3⟩ := N (206, tabObj #[]) (List.mem_cons_self ..)
  have hLn : h.get? L = none := by
    cases q : h.get? L with
    | none => rfl
    | some o => exact absurd (Heap.lt_size q) (Nat.not_lt.mpr F.above)
  have live : ∀ b, IsLive [206] [MCell.tab false] b → b = 206 := fun b ⟨j, h1, cl, h2, h3⟩ => by
    cases j with
    | zero => simpa using h1.symm
    | succ j => simp at h1
  have r0 : R (fcTop h s.os name sc L a cd (gs, []) mg mb) (fun b => h.get? b) [206] (startSt 11 [.list (xs.map .int)] [.tab false]) s := by
    refine ⟨⟨F.keep, fun _ _ e => e, rfl, fun j b cl h1 h2 => ?_, fun i j b h1 h2 => ?_, hg, rfl⟩, ⟨m, ⟨⟨m, F.ns, fun _ _ => rfl⟩, fun x c _ hc => (by cases hc)⟩, ?_⟩, rfl, fun _ _ e => (by cases e), fun _ _ e => (by cases e), fun _ _ e => (by cases e), fun _ _ => rfl, fun b hb => ?_, fun b hb hl' => ?_⟩
    · cases j with
      | zero =>
        simp only [List.getElem?_cons_zero, Option.some.injEq] at h1
        have h2 : some (MCell.tab false) = some cl := h2
        cases h2
        subst h1
        exact ⟨n3, #[], n1, rfl, rfl⟩
      | succ j => simp at h1
    · obtain ⟨h1, _⟩ := h1
      obtain ⟨h2, _⟩ := h2
      cases i <;> cases j <;> simp at h1 h2 ⊢
    · intro i x sl hi' hsl
      cases i with
      | zero =>
        have hx' : some (Str.ofString "script") = some x := hi'
        cases hx'
        have hsl : some (Slot.val (.list (xs.map .int))) = some sl := hsl
        cases hsl
        obtain ⟨o, q1, q2, q3⟩ := hl
        exact ⟨_, hm, .list q1 ⟨q2, q3⟩ (ints_vrs hi).1 (ints_vrs (S := fun b => h.get? b) (μ := [206]) hi).2⟩
      | succ i =>
        have : sl = .unset := by
          have hsl : (startSt 11 [PV.list (xs.map .int)] [.tab false]).loc[i + 1]? = some sl := hsl
          have e : (startSt 11 [PV.list (xs.map .int)] [.tab false]).loc = Slot.val (.list (xs.map .int)) :: List.replicate 10 Slot.unset := rfl
          rw [e, List.getElem?_cons_succ] at hsl
          exact (List.mem_replicate.mp (List.mem_of_getElem? hsl)).2
        rw [this]; trivial
    · rcases List.mem_cons.mp hb with rfl | hb
      · exact hLn
      · simp [fcTop, envOf] at hb
    · rcases List.mem_cons.mp hb with rfl | hb
      · exact n2 (live _ hl').symm
      · simp [fcTop, envOf] at hb
  refine exs_ok rm c_law _ Lb body _ _ _ hbody hrun (fun b => h.get? b) [206] s Q E r0 fun fw S' μ' s' g1 g2 r' hf => ?_
  obtain ⟨v, rfl, hv⟩ := hf
  cases hv
  obtain ⟨vals, ⟨⟨m', hns, _⟩, _⟩, _⟩ := r'.frm
  have h0 : μ'[0]? = some 206 := g2 0 206 rfl
  have hc : τ'.mem[0]? = some (.tab true) := by rw [hmem]; rfl
  obtain ⟨_, ps', e1, _, _⟩ := r'.g.mutR 0 206 _ h0 hc
  exact k s' m' ps' ⟨hns, fun b o e => r'.g.keepS b o (g1 b o e), F.above⟩ r'.g.gens r'.g.os_ e1
end
end Mine
end
open PySem PySem.W PyProof.Rows
set_option Elab.async false
set_option maxRecDepth 100000
set_option maxHeartbeats 8000000
set_option linter.unusedVariables false
theorem Mine.bm_at {h : Heap} {mg : Str → Option Value} (b : ∃ bm ob, mg "__builtins__" = some (.ref bm) ∧ bm ≠ builtinsNs ∧ h.get? bm = some ob ∧ ob.cls = .type "module" ∧ ob.dict = some builtinsNs ∧ ob.data = .plain) (G : h.Ns mainGlobals mg) (h6 : h.get? 206 = none) : h.BuiltinsAt mg Mine.tabP := by
  obtain ⟨bm, ob, h1, h2, h3, h4, h5, h7⟩ := b
  refine ⟨bm, ob, h1, h2, fun e => ?_, fun e => ?_, h3, h4, h5, h7⟩
  · obtain ⟨o, es, ep, q1, q2, _⟩ := G
    rw [e, q1] at h3; cases h3; rw [q2] at h7; cases h7
  · rw [e] at h3
    have : h.get? 206 = some ob := h3
    rw [h6] at this; cases this
noncomputable def Mine.lawGs : List Str := [Str.ofString "_law_tree", Str.ofString "_law_disk", Str.ofString "_law_image", Str.ofString "len", Str.ofString "_law_climb", Str.ofString "join", Str.ofString "split", Str.ofString "sorted", Str.ofString "list", Str.ofString "range", Str.ofString "_law_walk"]
theorem Mine.said : PySem.Challenge.rw_rt0075_01.wellSaid = true := by kernel_rfl
theorem Mine.wdef : (chainsOk vw && opensWell PySem.Challenge.rw_rt0075_01.row.prog && (frees PySem.Challenge.rw_rt0075_01.row.toRowW && PySem.Challenge.rw_rt0075_01.row.within.isEmpty)) = true := by kernel_rfl
theorem PySem.Challenge.cw_rt0075_01_holds : PySem.Challenge.rw_rt0075_01.Holds := by
  w_on
  refine holds_law Mine.said fun said => ?_
  refine holds_open (q := Mine.vw) (loose := [Str.ofString "_filemode_table"]) (Xt := fun s => xlAt Mine.vw Mine.lvL s && recOk (RowW.records PySem.Challenge.rw_rt0075_01.row.toRowW) s) (XP := XL Mine.vw Mine.lvL) (Yf := Hook.obs Mine.lookHk) (Ya := Hook.val Mine.lookHk) (YP := Hook.says Mine.lookHk) (N := 3502) Mine.left (Hook.of Mine.lookHk) (Hook.keeps Mine.lookHk) (fun s e => xl_of s (Bool.and_eq_true_iff.mp e).1) XL.keeps (by rfl) (by rfl) (by rfl) (fun s e => recFacts_of (Bool.and_eq_true_iff.mp e).2) (by rfl) (by first | assumption | decide +kernel) Mine.wdef ⟨rfl, rfl, rfl, rfl, rfl, by decide +kernel⟩ ?hw ?hc
  case hw => w_witness2
  intro w s₀ s₁ mg mb G Y fa o pm cd doc dV kV ho hd hcd hD hmg hg args vals as hpre hlay hrd hwl hlo
  obtain ⟨⟨K, KX, KS⟩, h206⟩ := Y
  have X := (Ground.X G).1
  have V := (Ground.X G).2
  refine Ground.open G ?_
  intro T B D TE TW
  try (refine guard_noD D (by decide +kernel) ?_; clear D)
  have hT9 : TabsAt ([(Mine.codeC, Mine.tabP)] : List (Addr × Addr)) s₁.heap := List.forall_mem_cons.mpr ⟨⟨codeHd_of_K KX KS.parts.code, h206⟩, fun _ h => nomatch h⟩
  have l0 := hT9
  clear hmg
  wrow_args hpre hlay hrd hwl hlo
  all_goals (
    first | refine callC_kw (enter_call ?_) | refine enter_call ?_
    w_top on
    kn_posts
    w_call any ho hd hcd hD T F
    clear hd)
  rename News _ _ _ _ => N
  rename Fr _ _ _ _ => F
  rename Top _ _ _ _ _ _ => T
  have C' := ghost_code hT9
  have X' := ghost_K hT9 KX KS.parts.tabs
  have T' := ghost_top hT9 T
  have N' := ghost_news hT9 F N
  have F' := ghost_fr hT9 F
  kn_lists hT9
  kn_codes C'
  simp only [tabNews, List.map_cons, List.map_nil, List.nil_append, List.cons_append] at N'
  rename IntsAre _ _ => hI'
  refine Mine.law_top (gs := Mine.lawGs) ⟨X', KS, T'.g, T'.b, T'.nolimit, T'.builtins, codeHd, Mine.bm_at T'.bmain T'.g (N' _ (List.mem_cons_self ..)).2.2⟩ (by kernel_rfl) (by kernel_rfl) F' rfl lifted hI' (by omega) N' (by assumption) (fun s' m' ps' q1 q2 q3 q4 => ?_)
  refine ⟨goodW_bool q1 q2 (raisesW_false ?_) ?_ q3, ⟨ps', q4⟩, trivial⟩
  · wrow_none_raised
  · first | kc_post | wrow_post
