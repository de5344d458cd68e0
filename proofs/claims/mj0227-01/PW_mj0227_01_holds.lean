import PyProof.Rows.All
import Wide.All
import OpenK.AllK
import Wide.FinOn
import KE.KStar
import KE.KBoundM
import PySem.Challenge.RW_mj0227_01
section
set_option autoImplicit false
namespace Mine
universe u
inductive E2 {α β : Type} (P : α → β → Prop) : Prop
  | mk (a : α) (b : β) (h : P a b)
inductive E3 {α β γ : Type} (P : α → β → γ → Prop) : Prop
  | mk (a : α) (b : β) (c : γ) (h : P a b c)
inductive E4 {α β γ δ : Type} (P : α → β → γ → δ → Prop) : Prop
  | mk (a : α) (b : β) (c : γ) (d : δ) (h : P a b c d)
inductive E5 {α β γ δ ε : Type} (P : α → β → γ → δ → ε → Prop) : Prop
  | mk (a : α) (b : β) (c : γ) (d : δ) (e : ε) (h : P a b c d e)
inductive E6 {α β γ δ ε ζ : Type} (P : α → β → γ → δ → ε → ζ → Prop) : Prop
  | mk (a : α) (b : β) (c : γ) (d : δ) (e : ε) (f : ζ) (h : P a b c d e f)
inductive E8 {α β γ δ ε ζ η θ : Type} (P : α → β → γ → δ → ε → ζ → η → θ → Prop) : Prop
  | mk (a : α) (b : β) (c : γ) (d : δ) (e : ε) (f : ζ) (g : η) (h : θ) (h : P a b c d e f g h)
inductive E9 {α β γ δ ε ζ η θ ι : Type} (P : α → β → γ → δ → ε → ζ → η → θ → ι → Prop) : Prop
  | mk (a : α) (b : β) (c : γ) (d : δ) (e : ε) (f : ζ) (g : η) (h : θ) (i : ι) (h : P a b c d e f g h i)
inductive A3 (a b c : Prop) : Prop
  | mk (p1 : a) (p2 : b) (p3 : c)
inductive A4 (a b c d : Prop) : Prop
  | mk (p1 : a) (p2 : b) (p3 : c) (p4 : d)
inductive A5 (a b c d e : Prop) : Prop
  | mk (p1 : a) (p2 : b) (p3 : c) (p4 : d) (p5 : e)
inductive A6 (a b c d e f : Prop) : Prop
  | mk (p1 : a) (p2 : b) (p3 : c) (p4 : d) (p5 : e) (p6 : f)
inductive A7 (a b c d e f g : Prop) : Prop
  | mk (p1 : a) (p2 : b) (p3 : c) (p4 : d) (p5 : e) (p6 : f) (p7 : g)
inductive A8 (a b c d e f g h : Prop) : Prop
  | mk (p1 : a) (p2 : b) (p3 : c) (p4 : d) (p5 : e) (p6 : f) (p7 : g) (p8 : h)
inductive A10 (a b c d e f g h i j : Prop) : Prop
  | mk (p1 : a) (p2 : b) (p3 : c) (p4 : d) (p5 : e) (p6 : f) (p7 : g) (p8 : h) (p9 : i) (p10 : j)
def nd1 (k : Lean.Name) (a : Array Lean.Syntax) : Lean.Syntax := .node .none k a
def at1 (s : String) : Lean.Syntax := .atom .none s
def id1 (s : String) (n : Lean.Name) : Lean.Syntax := .ident .none s.toRawSubstring n []
def sq1 (a : Array Lean.Syntax) : Lean.Syntax := nd1 `Lean.Parser.Tactic.tacticSeq #[nd1 `Lean.Parser.Tactic.tacticSeq1Indented #[nd1 `null a]]
def tRfl : Lean.Syntax := sq1 #[nd1 `Lean.Parser.Tactic.tacticRfl #[at1 "rfl"]]
def tLe : Lean.Syntax := sq1 #[nd1 `Lean.Parser.Tactic.exact #[at1 "exact", nd1 `Lean.Parser.Term.app #[id1 "Nat.le_of_ble_eq_true" `Nat.le_of_ble_eq_true, nd1 `null #[id1 "rfl" `rfl]]]]
def tDec : Lean.Syntax := sq1 #[nd1 `Lean.Parser.Tactic.decide #[at1 "decide", nd1 `Lean.Parser.Tactic.optConfig #[nd1 `null #[]]]]
def tTriv : Lean.Syntax := sq1 #[nd1 `Lean.Parser.Tactic.tacticTrivial #[at1 "trivial"]]
def tAll : Lean.Syntax := sq1 #[nd1 `Lean.Parser.Tactic.tacticRepeat_ #[at1 "repeat", sq1 #[nd1 `Lean.Parser.Tactic.intro #[at1 "intro", nd1 `null #[nd1 `Lean.Parser.Term.hole #[at1 "_"]]]]], nd1 `null #[], nd1 `Lean.Parser.Tactic.tacticRfl #[at1 "rfl"]]
theorem lt_at {α : Type} {xs : List α} {n i : Nat} (h : xs.length = n) (hi : i < n) : i < xs.length := h ▸ hi
theorem le_at {α : Type} {xs : List α} {n m : Nat} (h : xs.length = n) (hn : autoParam (n ≤ m) tLe) : xs.length ≤ m := h ▸ hn
theorem get_at {α : Type} {xs : List α} {n i : Nat} (h : xs.length = n) (hi : i < n) : ∃ y, xs[i]? = some y := ⟨_, List.getElem?_eq_getElem (lt_at h hi)⟩
theorem lt_map {α β : Type} {f : α → β} {xs : List α} {n i : Nat} (h : xs.length = n) (hi : i < n) : i < (xs.map f).length := lt_at ((List.length_map f).trans h) hi
theorem le_map {α β : Type} {f : α → β} {xs : List α} {n m : Nat} (h : xs.length = n) (hn : autoParam (n ≤ m) tLe) : (xs.map f).length ≤ m := le_at ((List.length_map f).trans h) hn
theorem get_map {α β : Type} {f : α → β} {xs : List α} {i : Nat} {x : α} (h : xs[i]? = some x) : (xs.map f)[i]? = some (f x) := by rw [List.getElem?_map, h]; rfl
theorem fmod_at (x : Int) (b : Nat) (hb : autoParam (0 < b) tLe) : ∃ q : Nat, x.fmod b = (q : Int) ∧ q < b := by
  have h1 := Int.fmod_nonneg_of_pos x (Int.natCast_pos.mpr hb)
  have h2 := Int.fmod_lt_of_pos x (Int.natCast_pos.mpr hb)
  exact ⟨(x.fmod b).toNat, (Int.toNat_of_nonneg h1).symm, (Int.toNat_lt h1).mpr h2⟩
theorem nab {i : Int} {k m : Nat} (h : i = k) (hk : k < m) : i.natAbs < m := by rw [h]; exact hk
theorem hide {G : Prop} (h : ∀ P : Prop, (G → P) → P) : G := h G id
end Mine
end
section
open PySem PySem.W PySem.Calls PyProof.Rows
set_option Elab.async false
set_option linter.unusedVariables false
namespace Mine
set_option genSizeOf false in
inductive AV where
  | none
  | bool (b : Bool)
  | int (i : Int)
  | str (s : Str)
  | ref (a : Addr)
  | ty (T : String)
noncomputable def AV.isN (a : AV) : Bool := a.ctorIdx == 0
noncomputable def vabs : Value → Option AV
  | .none => some .none
  | .bool b => some (.bool b)
  | .int i _ => some (.int i)
  | .str s _ => some (.str s)
  | .ref a => some (.ref a)
  | .type T => some (.ty T)
  | _ => Option.none
theorem vabs_int {v : Value} {i : Int} (h : vabs v = some (.int i)) : ∃ t, v = .int i t := by
  cases v <;> cases h; exact ⟨_, rfl⟩
theorem vabs_str {v : Value} {i : Str} (h : vabs v = some (.str i)) : ∃ t, v = .str i t := by
  cases v <;> cases h; exact ⟨_, rfl⟩
theorem vabs_bool {v : Value} {i : Bool} (h : vabs v = some (.bool i)) : v = .bool i := by
  cases v <;> cases h; rfl
theorem vabs_ref {v : Value} {i : Addr} (h : vabs v = some (.ref i)) : v = .ref i := by
  cases v <;> cases h; rfl
theorem vabs_ty {v : Value} {i : String} (h : vabs v = some (.ty i)) : v = .type i := by
  cases v <;> cases h; rfl
theorem vabs_none {v : Value} (h : vabs v = some .none) : v = .none := by
  cases v <;> cases h; rfl
set_option genSizeOf false in
inductive AFlow where
  | next | brk | cont
  | ret (v : AV)
noncomputable def fabs : Flow → Option AFlow
  | .next => some .next
  | .brk => some .brk
  | .cont => some .cont
  | .ret v => (vabs v).map .ret
set_option genSizeOf false in
inductive AObj where
  | list (xs : List AV)
  | tup (xs : List AV)
  | dict (es : List (Str × AV)) (ep : Nat)
  | set (xs : List Str)
  | inst (C d : Addr)
  | attrs (es : List (Str × AV))
  | node (C d : Addr) (sl : List (Option AV))
  | liter (l : Addr) (i : Nat)
  | bnext (it : Addr)
  | scr (o : Obj) (xs : List Int)
abbrev listO (vs : Array Value) (n : Nat) : Obj := { cls := .type "list", data := .seq vs n }
abbrev tupO (vs : Array Value) (n : Nat) : Obj := { cls := .type "tuple", data := .seq vs n }
noncomputable def Absl (vs : List Value) (xs : List AV) : Prop := vs.map vabs = xs.map some
theorem Absl.nil : Absl [] [] := rfl
theorem Absl.cons {v : Value} {x : AV} {vs : List Value} {xs : List AV} (h : vabs v = some x) (t : Absl vs xs) : Absl (v :: vs) (x :: xs) := by
  unfold Absl at *; simp [h, t]
theorem Absl.length {vs : List Value} {xs : List AV} (h : Absl vs xs) : vs.length = xs.length := by
  have := congrArg List.length h; simpa using this
theorem Absl.append {vs vs' : List Value} {xs xs' : List AV} (h : Absl vs xs) (t : Absl vs' xs') : Absl (vs ++ vs') (xs ++ xs') := by
  unfold Absl at *; simp [h, t]
theorem Absl.get {vs : List Value} {xs : List AV} (h : Absl vs xs) {i : Nat} {x : AV} (e : xs[i]? = some x) : ∃ v, vs[i]? = some v ∧ vabs v = some x := by
  have := congrArg (fun l : List (Option AV) => l[i]?) h
  simp only [List.getElem?_map, e, Option.map_some] at this
  cases q : vs[i]? with
  | none => rw [q] at this; cases this
  | some v => rw [q] at this; exact ⟨v, rfl, by simpa using this⟩
theorem Absl.get' {vs : List Value} {xs : List AV} (h : Absl vs xs) {i : Nat} {v : Value} (e : vs[i]? = some v) : ∃ x, xs[i]? = some x ∧ vabs v = some x := by
  have := congrArg (fun l : List (Option AV) => l[i]?) h
  simp only [List.getElem?_map, e, Option.map_some] at this
  cases q : xs[i]? with
  | none => rw [q] at this; cases this
  | some x => rw [q] at this; exact ⟨x, rfl, by simpa using this⟩
inductive Ens : List DictEntry → List (Str × AV) → Prop
  | nil : Ens [] []
  | cons {h x t v a r r'} : vabs v = some a → Ens r r' → Ens (⟨h, .str x t, v⟩ :: r) ((x, a) :: r')
variable (prog : Program) (w : World)
noncomputable def DictIs (o : Obj) (es : List (Str × AV)) (ep : Nat) : Prop :=
  E2 fun ens kvs => A6 o.ExactDict (o.data = .dict ens ep) (KeysOf (strKind prog w) ens) (Pairs (strKind prog w) ens.toList kvs) ((kvs.map (·.1)).Nodup) (kvs.map (fun p => (p.1, vabs p.2)) = es.map fun p => (p.1, some p.2))
noncomputable def AObj.is : AObj → Obj → Prop
  | .list xs, o => E2 fun vs n => o = listO vs n ∧ Absl vs.toList xs
  | .tup xs, o => o.cls = .type "tuple" ∧ E2 fun vs n => o.data = .seq vs n ∧ Absl vs.toList xs
  | .dict es ep, o => DictIs prog w o es ep
  | .set xs, o => E3 fun es ep t => A7 o.ExactSet (o.data = .set es ep t) (ElemsOf (strKind prog w) es.toList) (∀ k, k ∈ xs ↔ ∃ e ∈ es.toList, (strKind prog w).is k e.2 = true) (t.fits es.size = true) (es.size = xs.length) xs.Nodup
  | .inst C d, o => o = { cls := .ref C, dict := some d, data := .plain }
  | .attrs es, o => E2 fun (ens : List DictEntry) (n : Nat) => o = dictOf ens n ∧ Ens ens es
  | .node C d sl, o => ∃ vs : Array (Option Value), o = { cls := .ref C, dict := some d, data := .plain, slots := vs } ∧ vs.toList.map (fun v => v.bind vabs) = sl
  | .liter l i, o => o = { cls := .type "list_iterator", data := .fields #[.ref l, .int i 0] }
  | .bnext it, o => o = { cls := .type "method-wrapper", data := .fields #[.builtin "list_iterator.__next__", .ref it] }
  | .scr o' xs, o => o = o' ∧ E2 fun vs n => o = listO vs n ∧ IntsAre vs.toList xs
variable {prog w}
theorem AObj.is_cls {A : AObj} {o : Obj} (h : A.is prog w o) : o.cls ≠ .none := by
  cases A
  case list => obtain ⟨_, _, rfl, _⟩ := h; rintro ⟨⟩
  case tup => rw [h.1]; rintro ⟨⟩
  case dict => obtain ⟨_, _, q, _⟩ := h; rw [q.1]; rintro ⟨⟩
  case set => obtain ⟨_, _, _, q, _⟩ := h; rw [q.1]; rintro ⟨⟩
  case inst => subst h; rintro ⟨⟩
  case attrs => obtain ⟨_, _, rfl, _⟩ := h; rintro ⟨⟩
  case node => obtain ⟨_, rfl, _⟩ := h; rintro ⟨⟩
  case liter => subst h; rintro ⟨⟩
  case bnext => subst h; rintro ⟨⟩
  case scr => obtain ⟨_, _, _, rfl, _⟩ := h; rintro ⟨⟩
theorem AObj.is_cell {A : AObj} {o : Obj} (h : A.is prog w o) (r : Option Value) : o.data ≠ .cell r := by
  cases A
  case list => obtain ⟨_, _, rfl, _⟩ := h; rintro ⟨⟩
  case tup => obtain ⟨_, _, _, e, _⟩ := h; rw [e]; rintro ⟨⟩
  case dict => obtain ⟨_, _, q, e, _⟩ := h; rw [e]; rintro ⟨⟩
  case set => obtain ⟨_, _, _, q, e, _⟩ := h; rw [e]; rintro ⟨⟩
  case inst => subst h; rintro ⟨⟩
  case attrs => obtain ⟨_, _, rfl, _⟩ := h; rintro ⟨⟩
  case node => obtain ⟨_, rfl, _⟩ := h; rintro ⟨⟩
  case liter => subst h; rintro ⟨⟩
  case bnext => subst h; rintro ⟨⟩
  case scr => obtain ⟨_, _, _, rfl, _⟩ := h; rintro ⟨⟩
set_option genSizeOf false in
set_option genInjectivity false in
structure St where
  loc : Nat → Option AV
  hp : Addr → Option AObj
noncomputable def St.set (st : St) (i : Nat) (v : AV) : St := { st with loc := fun j => if j = i then some v else st.loc j }
noncomputable def hset (hp : Addr → Option AObj) (a : Addr) (A : AObj) : Addr → Option AObj := fun b => if b = a then some A else hp b
noncomputable def St.put (st : St) (a : Addr) (A : AObj) : St := { st with hp := hset st.hp a A }
set_option genSizeOf false in
set_option genInjectivity false in
structure Cx where
  A : Around
  env : Env
  ns : Nat → Str
  N : Nat
  own : List Addr
  fr : List (Addr × (Str → Option Value))
set_option genSizeOf false in
set_option genInjectivity false in
structure Gl where
  B : Addr → Option Obj
  os : OsState
  tabP : Addr
  tab0 : Array Value
  K : Frag
  mg : Str → Option Value
  mb : Str → Option Value
noncomputable def VarIs (env : Env) (m : Str → Option Value) (h : Heap) (x : Str) (v : Value) : Prop :=
  (env.kindOf x = some .local ∧ m x = some v) ∨
  ((env.kindOf x = some .cell ∨ env.kindOf x = some .free) ∧ ∃ c, env.cells.lookup x = some c ∧ h.IsCell c (some v))
variable (prog w) in
structure Real (G : Gl) (C : Cx) (ex : Addr → Option Obj) (st : St) (s : Shared) : Prop where
  ns : ∃ m, s.heap.Ns C.env.locals m ∧ ∀ i av, st.loc i = some av → i < C.N ∧ ∃ v, vabs v = some av ∧ VarIs C.env m s.heap (C.ns i) v
  keep : ∀ b o, ex b = some o → s.heap.get? b = some o
  base : ∀ b o, G.B b = some o → ex b = some o
  exL : ex C.env.locals = none
  exC : ∀ c ∈ C.own, ex c = none ∧ ∃ r, s.heap.IsCell c r
  hp : ∀ a A, st.hp a = some A → A3 (ex a = none) (a ≠ C.env.locals) (∃ o, s.heap.get? a = some o ∧ A.is prog w o)
  tab : ex G.tabP = none ∧ ∃ more : { m : Array Value // TriplesOk (G.tab0 ++ m).toList }, s.heap.get? G.tabP = some (X.tableObj (G.tab0 ++ more.1))
  gens : AllBare s.gens
  os : s.os = G.os
  cells : ∀ x c, C.env.cells.lookup x = some c → ∃ r, s.heap.IsCell c r
  frs : ∀ p ∈ C.fr, A4 (ex p.1 = none) (p.1 ≠ C.env.locals) (st.hp p.1 = none) (s.heap.Ns p.1 p.2)
structure Off (G : Gl) (C : Cx) (ex : Addr → Option Obj) (st : St) (b : Addr) : Prop where
  ex : ex b = none
  loc : b ≠ C.env.locals
  own : b ∉ C.own
  hp : st.hp b = none
  tab : b ≠ G.tabP
  fr : ∀ p ∈ C.fr, b ≠ p.1
section
variable {G : Gl} {C : Cx} {ex : Addr → Option Obj} {st : St} {s : Shared}
theorem VarIs.mono {env : Env} {m : Str → Option Value} {h h' : Heap} {x : Str} {v : Value} (y : VarIs env m h x v) (hk : ∀ c o, h.get? c = some o → (∃ r, o.data = .cell r) → h'.get? c = some o) : VarIs env m h' x v := by
  rcases y with y | ⟨k, c, hc, o, ho, hd⟩
  · exact .inl y
  · exact .inr ⟨k, c, hc, o, hk c o ho ⟨_, hd⟩, hd⟩
theorem Ns_at {h h' : Heap} {a : Addr} {m : Str → Option Value} (x : h.Ns a m) (e : ∀ o, h.get? a = some o → h'.get? a = some o) : h'.Ns a m :=
  by obtain ⟨o, es, ep, ho, r⟩ := x; exact ⟨o, es, ep, e _ ho, r⟩
theorem Real.live (R : Real prog w G C ex st s) : ∃ o, s.heap.get? C.env.locals = some o ∧ E2 fun es ep => o.data = .dict es ep := by
  obtain ⟨m, ⟨o, es, ep, ho, hd, _⟩, _⟩ := R.ns
  exact ⟨o, ho, es, ep, hd⟩
theorem Real.tabL (R : Real prog w G C ex st s) : G.tabP ≠ C.env.locals := fun q => by
  obtain ⟨o, ho, es, ep, hd⟩ := R.live
  obtain ⟨_, more, ht⟩ := R.tab
  rw [q, ho] at ht; cases ht; cases hd
theorem Real.tabH (R : Real prog w G C ex st s) : st.hp G.tabP = none := by
  cases q : st.hp G.tabP with
  | none => rfl
  | some A =>
    obtain ⟨_, _, o, ho, hA⟩ := R.hp _ _ q
    obtain ⟨_, more, ht⟩ := R.tab
    rw [ho] at ht; cases ht; exact absurd rfl (AObj.is_cls hA)
theorem Real.tabC (R : Real prog w G C ex st s) : G.tabP ∉ C.own := fun q => by
  obtain ⟨_, r, o, ho, hd⟩ := R.exC _ q
  obtain ⟨_, more, ht⟩ := R.tab
  rw [ho] at ht; cases ht; cases hd
theorem Real.ownL (R : Real prog w G C ex st s) : C.env.locals ∉ C.own := fun q => by
  obtain ⟨_, r, o, ho, hd⟩ := R.exC _ q
  obtain ⟨o', ho', es, ep, hd'⟩ := R.live
  rw [ho] at ho'; cases ho'; rw [hd] at hd'; cases hd'
theorem Real.ownH (R : Real prog w G C ex st s) {c : Addr} (q : c ∈ C.own) : st.hp c = none := by
  cases e : st.hp c with
  | none => rfl
  | some A =>
    obtain ⟨_, r, o, ho, hd⟩ := R.exC _ q
    obtain ⟨_, _, o', ho', hA⟩ := R.hp _ _ e
    rw [ho] at ho'; cases ho'; exact absurd hd (AObj.is_cell hA r)
theorem Real.locH (R : Real prog w G C ex st s) : st.hp C.env.locals = none := by
  cases e : st.hp C.env.locals with
  | none => rfl
  | some A => exact absurd rfl (R.hp _ _ e).2
theorem Real.grow (R : Real prog w G C ex st s) {s' : Shared} (hk : ∀ b o, s.heap.get? b = some o → s'.heap.get? b = some o) (hg : AllBare s'.gens) (ho : s'.os = s.os) : Real prog w G C ex st s' where
  ns := by obtain ⟨m, hn, hl⟩ := R.ns; exact ⟨m, Ns_at hn (hk _), fun i av e => by obtain ⟨a, v, b, c⟩ := hl i av e; exact ⟨a, v, b, c.mono fun c o e _ => hk c o e⟩⟩
  keep := fun b o e => hk b o (R.keep b o e)
  base := R.base
  exL := R.exL
  exC := fun c hc => by obtain ⟨a, r, o, b, d⟩ := R.exC c hc; exact ⟨a, r, o, hk _ _ b, d⟩
  hp := fun a A e => by obtain ⟨x, y, o, z, u⟩ := R.hp a A e; exact ⟨x, y, o, hk _ _ z, u⟩
  tab := by obtain ⟨a, more, b⟩ := R.tab; exact ⟨a, more, hk _ _ b⟩
  gens := hg
  os := ho.trans R.os
  cells := fun x c h => by obtain ⟨r, o, b, d⟩ := R.cells x c h; exact ⟨r, o, hk _ _ b, d⟩
  frs := fun p hp => by obtain ⟨a, b, c, d⟩ := R.frs p hp; exact ⟨a, b, c, Ns_at d (hk _)⟩
theorem Real.heap (R : Real prog w G C ex st s) {h' : Heap} {t : Nat} (hk : ∀ b o, s.heap.get? b = some o → h'.get? b = some o) : Real prog w G C ex st { s with heap := h', toks := t } := R.grow hk R.gens rfl
theorem Real.toks (R : Real prog w G C ex st s) (t : Nat) : Real prog w G C ex st { s with toks := t } := R.grow (fun _ _ e => e) R.gens rfl
theorem Real.scratch (R : Real prog w G C ex st s) {b : Addr} (O : Off G C ex st b) {s' : Shared} (hk : ∀ c o, c ≠ b → s.heap.get? c = some o → s'.heap.get? c = some o) (hb : ∀ o r, s.heap.get? b = some o → o.data ≠ .cell r) (hg : AllBare s'.gens) (ho : s'.os = s.os) : Real prog w G C ex st s' where
  ns := by obtain ⟨m, hn, hl⟩ := R.ns; exact ⟨m, Ns_at hn fun o e => hk _ o (Ne.symm O.loc) e, fun i av e => by obtain ⟨a, v, b', c⟩ := hl i av e; exact ⟨a, v, b', c.mono fun c o e hr => hk c o (fun q => by obtain ⟨r, hr⟩ := hr; exact hb o r (q ▸ e) hr) e⟩⟩
  keep := fun c o e => hk c o (fun q => by rw [q, O.ex] at e; cases e) (R.keep c o e)
  base := R.base
  exL := R.exL
  exC := fun c hc => by obtain ⟨a, r, o, b', d⟩ := R.exC c hc; exact ⟨a, r, o, hk _ _ (fun q => O.own (q ▸ hc)) b', d⟩
  hp := fun a A e => by obtain ⟨x, y, o, z, u⟩ := R.hp a A e; exact ⟨x, y, o, hk _ _ (fun q => by rw [q, O.hp] at e; cases e) z, u⟩
  tab := by obtain ⟨a, more, b'⟩ := R.tab; exact ⟨a, more, hk _ _ (Ne.symm O.tab) b'⟩
  gens := hg
  os := ho.trans R.os
  cells := fun x c h => by obtain ⟨r, o, b', d⟩ := R.cells x c h; exact ⟨r, o, hk _ _ (fun q => hb o r (q ▸ b') d) b', d⟩
  frs := fun p hp => by obtain ⟨a, b, c, d⟩ := R.frs p hp; exact ⟨a, b, c, Ns_at d fun o e => hk _ o (Ne.symm (O.fr p hp)) e⟩
theorem Real.off_new (R : Real prog w G C ex st s) {b : Addr} (hb : s.heap.get? b = none) : Off G C ex st b where
  ex := by cases e : ex b with | none => rfl | some o => rw [R.keep b o e] at hb; cases hb
  loc := fun q => by obtain ⟨o, ho, _⟩ := R.live; rw [q, ho] at hb; cases hb
  own := fun q => by obtain ⟨_, r, o, ho, _⟩ := R.exC _ q; rw [ho] at hb; cases hb
  hp := by cases e : st.hp b with | none => rfl | some A => obtain ⟨_, _, o, ho, _⟩ := R.hp _ _ e; rw [ho] at hb; cases hb
  tab := fun q => by obtain ⟨_, more, ht⟩ := R.tab; rw [q, ht] at hb; cases hb
  fr := fun p hp q => by obtain ⟨_, _, _, o, es, ep, ho, _⟩ := R.frs p hp; rw [q, ho] at hb; cases hb
theorem Real.take (R : Real prog w G C ex st s) {a : Addr} {A : AObj} {o : Obj} (O : Off G C ex st a) (ho : s.heap.get? a = some o) (hA : A.is prog w o) : Real prog w G C ex (st.put a A) s where
  ns := R.ns
  keep := R.keep
  base := R.base
  exL := R.exL
  exC := R.exC
  hp := fun b A' e => by
    by_cases q : b = a
    · subst q
      simp only [St.put, hset, if_true] at e; cases e
      exact ⟨O.ex, O.loc, o, ho, hA⟩
    · simp only [St.put, hset, if_neg q] at e; exact R.hp b A' e
  tab := R.tab
  gens := R.gens
  os := R.os
  cells := R.cells
  frs := fun p hp => by obtain ⟨a, b, c, d⟩ := R.frs p hp; exact ⟨a, b, by simp only [St.put, hset, if_neg (Ne.symm (O.fr p hp))]; exact c, d⟩
theorem Real.upd (R : Real prog w G C ex st s) {a : Addr} {A₀ A : AObj} {o : Obj} (e : st.hp a = some A₀) {s' : Shared} (hk : ∀ c o, c ≠ a → s.heap.get? c = some o → s'.heap.get? c = some o) (ho : s'.heap.get? a = some o) (hA : A.is prog w o)
    (hg : AllBare s'.gens) (hos : s'.os = s.os) : Real prog w G C ex (st.put a A) s' where
  ns := by obtain ⟨m, hn, hl⟩ := R.ns; exact ⟨m, Ns_at hn fun o q => hk _ o (Ne.symm (R.hp _ _ e).2) q, fun i av q => by obtain ⟨x, v, b', c⟩ := hl i av q; exact ⟨x, v, b', c.mono fun c o z hr => hk c o (fun y => by
    obtain ⟨r, hr⟩ := hr
    obtain ⟨_, _, o', ho', hA'⟩ := R.hp _ _ e
    rw [y, ho'] at z; cases z; exact AObj.is_cell hA' r hr) z⟩⟩
  keep := fun c o q => hk c o (fun y => by rw [y, (R.hp _ _ e).1] at q; cases q) (R.keep c o q)
  base := R.base
  exL := R.exL
  exC := fun c hc => by obtain ⟨x, r, o, b', d⟩ := R.exC c hc; exact ⟨x, r, o, hk _ _ (fun q => by have := R.ownH hc; rw [q, e] at this; cases this) b', d⟩
  hp := fun b A' q => by
    by_cases y : b = a
    · subst y
      simp only [St.put, hset, if_true] at q; cases q
      exact ⟨(R.hp _ _ e).1, (R.hp _ _ e).2, o, ho, hA⟩
    · simp only [St.put, hset, if_neg y] at q
      obtain ⟨x, z, o', ho', u⟩ := R.hp b A' q
      exact ⟨x, z, o', hk _ _ y ho', u⟩
  tab := by obtain ⟨x, more, b'⟩ := R.tab; exact ⟨x, more, hk _ _ (fun q => by have := R.tabH; rw [q, e] at this; cases this) b'⟩
  gens := hg
  os := hos.trans R.os
  cells := fun x c h => by obtain ⟨r, o, b', d⟩ := R.cells x c h; exact ⟨r, o, hk _ _ (fun q => by
    obtain ⟨_, _, o', ho', hA'⟩ := R.hp _ _ e
    rw [q, ho'] at b'; cases b'; exact AObj.is_cell hA' r d) b', d⟩
  frs := fun p hp => by
    obtain ⟨x, b, c, d⟩ := R.frs p hp
    have hne : p.1 ≠ a := fun q => by rw [q, e] at c; cases c
    exact ⟨x, b, by simp only [St.put, hset, if_neg hne]; exact c, Ns_at d fun o q => hk _ o hne q⟩
noncomputable def hold (ex : Addr → Option Obj) (b : Addr) (o : Obj) : Addr → Option Obj := fun c => if c = b then some o else ex c
theorem Real.hold (R : Real prog w G C ex st s) {b : Addr} {o : Obj} (O : Off G C ex st b) (ho : s.heap.get? b = some o) : Real prog w G C (hold ex b o) st s where
  ns := R.ns
  keep := fun c o' e => by
    unfold Mine.hold at e
    split at e
    · rename_i q; cases e; rw [q]; exact ho
    · exact R.keep c o' e
  base := fun c o' e => by
    unfold Mine.hold
    have hne : c ≠ b := fun q => by have := O.ex; rw [← q, R.base c o' e] at this; cases this
    rw [if_neg hne]; exact R.base c o' e
  exL := by unfold Mine.hold; rw [if_neg (Ne.symm O.loc)]; exact R.exL
  exC := fun c hc => by
    have hne : c ≠ b := fun q => O.own (q ▸ hc)
    unfold Mine.hold; rw [if_neg hne]; exact R.exC c hc
  hp := fun a A e => by unfold Mine.hold; rw [if_neg (fun q => by rw [q, O.hp] at e; cases e)]; exact R.hp a A e
  tab := by unfold Mine.hold; rw [if_neg (Ne.symm O.tab)]; exact R.tab
  gens := R.gens
  os := R.os
  cells := R.cells
  frs := fun p hp => by unfold Mine.hold; rw [if_neg (Ne.symm (O.fr p hp))]; exact R.frs p hp
theorem Real.drop {b : Addr} {o : Obj} (R : Real prog w G C (Mine.hold ex b o) st s) (hb : ex b = none) (hB : ∀ b o, G.B b = some o → ex b = some o) : A3 (Real prog w G C ex st s) (Off G C ex st b) (s.heap.get? b = some o) := by
  have hself : Mine.hold ex b o b = some o := by unfold Mine.hold; rw [if_pos rfl]
  have hoth : ∀ c o', ex c = some o' → Mine.hold ex b o c = some o' := fun c o' e => by
    unfold Mine.hold; rw [if_neg (fun q => by rw [q, hb] at e; cases e)]; exact e
  have hn : ∀ c, Mine.hold ex b o c = none → ex c = none := fun c e => by
    cases q : ex c with | none => rfl | some o' => rw [hoth c o' q] at e; cases e
  refine ⟨⟨R.ns, fun c o' e => R.keep c o' (hoth c o' e), hB, hn _ R.exL, fun c hc => ⟨hn _ (R.exC c hc).1, (R.exC c hc).2⟩, fun a A e => ⟨hn _ (R.hp a A e).1, (R.hp a A e).2, (R.hp a A e).3⟩, ⟨hn _ R.tab.1, R.tab.2⟩, R.gens, R.os, R.cells, fun p hp => ⟨hn _ (R.frs p hp).1, (R.frs p hp).2, (R.frs p hp).3, (R.frs p hp).4⟩⟩,
    ⟨hb, fun q => ?_, fun q => ?_, ?_, fun q => ?_, fun p hp q => ?_⟩, R.keep _ _ hself⟩
  · have := R.exL; rw [← q, hself] at this; cases this
  · have := (R.exC _ q).1; rw [hself] at this; cases this
  · cases e : st.hp b with
    | none => rfl
    | some A => have := (R.hp _ _ e).1; rw [hself] at this; cases this
  · have := R.tab.1; rw [← q, hself] at this; cases this
  · have := (R.frs p hp).1; rw [← q, hself] at this; cases this
theorem Real.frC (R : Real prog w G C ex st s) {p : Addr × (Str → Option Value)} (hp : p ∈ C.fr) {c : Addr} {o : Obj} {r : Option Value} (ho : s.heap.get? c = some o) (hr : o.data = .cell r) : p.1 ≠ c := fun q => by
  obtain ⟨_, _, _, o', es, ep, ho', hd, _⟩ := R.frs p hp
  rw [q, ho] at ho'; cases ho'; rw [hr] at hd; cases hd
theorem Real.frT (R : Real prog w G C ex st s) {p : Addr × (Str → Option Value)} (hp : p ∈ C.fr) : p.1 ≠ G.tabP := fun q => by
  obtain ⟨_, _, _, o', es, ep, ho', hd, _⟩ := R.frs p hp
  obtain ⟨_, more, ht⟩ := R.tab
  rw [q, ht] at ho'; cases ho'; cases hd
end
end Mine
end
section
open PySem PySem.W PySem.Calls PyProof.Rows
set_option Elab.async false
set_option linter.unusedVariables false
namespace Mine
variable {prog : Program} {w : World}
structure COk (C : Cx) : Prop where
  kind : C.env.scope.kind = .function
  dbg : ∀ i, i < C.N → (C.ns i == ("__debug__" : Str)) = false ∧ (C.ns i == ("__classdict__" : Str)) = false
  inj : ∀ i j, i < C.N → j < C.N → C.ns i = C.ns j → i = j
  cinj : ∀ x y c, C.env.cells.lookup x = some c → C.env.cells.lookup y = some c → x = y
  hand : C.A.handled = none
  glob : C.env.globals = mainGlobals
  blt : C.env.builtins = builtinsNs
structure GOk (G : Gl) : Prop where
  gns : ∀ h : Heap, (∀ b o, G.B b = some o → h.get? b = some o) → h.Ns mainGlobals G.mg
  bns : ∀ h : Heap, (∀ b o, G.B b = some o → h.get? b = some o) → h.Ns builtinsNs G.mb
  lim : ∀ h : Heap, (∀ b o, G.B b = some o → h.get? b = some o) → h.NoLimit
  bi : ∀ x : Str, x ≠ "__name__" → G.mb x = bootBuiltins x
  frag : ∀ a o, G.K.lookup a = some o → G.B a = some o
  sys : G.B sysModules ≠ none
  gl : ∀ x v, nsIn G.K mainGlobals x = some v → G.mg x = v
variable (prog w) in
structure Ev (G : Gl) (C : Cx) (e : Expr) (st : St) (K : AV → St → Prop) : Prop where
  run : ∀ ex s E, Real prog w G C ex st s → wpAny (model prog w) C.A (eval e C.env) (fun v s' => E2 fun av st' => A3 (vabs v = some av) (Real prog w G C ex st' s') (K av st')) E s
variable (prog w) in
structure Es (G : Gl) (C : Cx) (es : List Expr) (st : St) (K : List AV → St → Prop) : Prop where
  run : ∀ pos ex s E, Real prog w G C ex st s → wpAny (model prog w) C.A (spliced (backTo pos (starEach es C.env))) (fun vs s' => E2 fun xs st' => A3 (Absl vs xs) (Real prog w G C ex st' s') (K xs st')) E s
variable (prog w) in
structure Tr (G : Gl) (C : Cx) (e : Expr) (st : St) (K : Bool → St → Prop) : Prop where
  run : ∀ ex s E, Real prog w G C ex st s → wpAny (model prog w) C.A (isTrue e C.env (eval e C.env)) (fun b s' => ∃ st', Real prog w G C ex st' s' ∧ K b st') E s
variable (prog w) in
structure Ex (G : Gl) (C : Cx) (t : Stmt) (st : St) (K : AFlow → St → Prop) : Prop where
  run : ∀ ex s E, Real prog w G C ex st s → wpAny (model prog w) C.A (exec t C.env) (fun f s' => E2 fun af st' => A3 (fabs f = some af) (Real prog w G C ex st' s') (K af st')) E s
variable (prog w) in
structure Exs (G : Gl) (C : Cx) (ts : List Stmt) (st : St) (K : AFlow → St → Prop) : Prop where
  run : ∀ ex s E, Real prog w G C ex st s → wpAny (model prog w) C.A (execs ts C.env) (fun f s' => E2 fun af st' => A3 (fabs f = some af) (Real prog w G C ex st' s') (K af st')) E s
variable (prog w) in
structure Op (G : Gl) (C : Cx) (t : Sem Value) (st : St) (K : AV → St → Prop) : Prop where
  run : ∀ ex s E, Real prog w G C ex st s → wpAny (model prog w) C.A t (fun v s' => E2 fun av st' => A3 (vabs v = some av) (Real prog w G C ex st' s') (K av st')) E s
section
variable {G : Gl} {C : Cx} {st : St}
theorem Ev.mono {e : Expr} {K K' : AV → St → Prop} (h : Ev prog w G C e st K) (hk : ∀ v st, K v st → K' v st) : Ev prog w G C e st K' :=
  .mk fun ex s E R => wpAny_mono (h.run ex s E R) (fun _ _ hq1 => by obtain ⟨av, st', a, b, c⟩ := hq1; exact ⟨av, st', a, b, hk _ _ c⟩) fun _ _ x => x
theorem Es.mono {e : List Expr} {K K' : List AV → St → Prop} (h : Es prog w G C e st K) (hk : ∀ v st, K v st → K' v st) : Es prog w G C e st K' :=
  .mk fun pos ex s E R => wpAny_mono (h.run pos ex s E R) (fun _ _ hq2 => by obtain ⟨av, st', a, b, c⟩ := hq2; exact ⟨av, st', a, b, hk _ _ c⟩) fun _ _ x => x
theorem Ex.mono {e : Stmt} {K K' : AFlow → St → Prop} (h : Ex prog w G C e st K) (hk : ∀ v st, K v st → K' v st) : Ex prog w G C e st K' :=
  .mk fun ex s E R => wpAny_mono (h.run ex s E R) (fun _ _ hq4 => by obtain ⟨av, st', a, b, c⟩ := hq4; exact ⟨av, st', a, b, hk _ _ c⟩) fun _ _ x => x
theorem Exs.mono {e : List Stmt} {K K' : AFlow → St → Prop} (h : Exs prog w G C e st K) (hk : ∀ v st, K v st → K' v st) : Exs prog w G C e st K' :=
  .mk fun ex s E R => wpAny_mono (h.run ex s E R) (fun _ _ hq5 => by obtain ⟨av, st', a, b, c⟩ := hq5; exact ⟨av, st', a, b, hk _ _ c⟩) fun _ _ x => x
theorem Exs.hide {e : List Stmt} {K : AFlow → St → Prop} (h : ∀ κ : AFlow → St → Prop, (∀ v st, K v st → κ v st) → Exs prog w G C e st κ) : Exs prog w G C e st K := h K fun _ _ x => x
theorem Ex.hide {e : Stmt} {K : AFlow → St → Prop} (h : ∀ κ : AFlow → St → Prop, (∀ v st, K v st → κ v st) → Ex prog w G C e st κ) : Ex prog w G C e st K := h K fun _ _ x => x
theorem ev_int {n : Int} {k : Nat} {p : Pos} {K : AV → St → Prop} (h : K (.int n) st) : Ev prog w G C (.Constant (.int n) k p) st K :=
  .mk fun ex s E R => wpAny_Constant_int ⟨_, st, rfl, R.toks _, h⟩
theorem ev_str {n : Str} {k : Nat} {p : Pos} {K : AV → St → Prop} (h : K (.str n) st) : Ev prog w G C (.Constant (.str n) k p) st K :=
  .mk fun ex s E R => wpAny_Constant_str ⟨_, st, rfl, R.toks _, h⟩
theorem ev_none {k : Nat} {p : Pos} {K : AV → St → Prop} (h : K .none st) : Ev prog w G C (.Constant .none k p) st K :=
  .mk fun ex s E R => wpAny_Constant_none ⟨_, st, rfl, R, h⟩
theorem ev_bool {b : Bool} {k : Nat} {p : Pos} {K : AV → St → Prop} (h : K (.bool b) st) : Ev prog w G C (.Constant (.bool b) k p) st K :=
  .mk fun ex s E R => wpAny_Constant_bool ⟨_, st, rfl, R, h⟩
theorem ev_var (ok : COk C) {i : Nat} {p : Pos} {v : AV} {K : AV → St → Prop} (hv : st.loc i = some v) (h : K v st) : Ev prog w G C (.Name (C.ns i) p) st K := by
  refine .mk fun ex s E R => ?_
  obtain ⟨m, hn, hl⟩ := R.ns
  obtain ⟨hi, u, hu, q⟩ := hl i v hv
  refine wpAny_Name ?_ (ok.dbg i hi).1
  rcases q with ⟨hk, hm⟩ | ⟨hk, c, hc, hcell⟩
  · exact wpAny_loadName_local ok.kind hk hn hm ⟨v, st, hu, R, h⟩
  · rcases hk with hk | hk
    · exact wpAny_loadName_cell ok.kind hk hc hcell ⟨v, st, hu, R, h⟩
    · exact wpAny_loadName_free ok.kind hk hc hcell ⟨v, st, hu, R, h⟩ (ok.dbg i hi).2
theorem VarIs.store_local {env : Env} {m : Str → Option Value} {h h' : Heap} {x y : Str} {v u : Value} (q : VarIs env m h y u) (hxy : y ≠ x) (hs : Heap.SameBut env.locals h h') (hn : h.Ns env.locals m) : VarIs env (fun z => if z = x then some v else m z) h' y u := by
  rcases q with ⟨a, b⟩ | ⟨a, c, hc, o, ho, hd⟩
  · exact .inl ⟨a, by simp only [if_neg hxy]; exact b⟩
  · refine .inr ⟨a, c, hc, o, (hs.2 c fun e => ?_).trans ho, hd⟩
    obtain ⟨o', es, ep, ho', hd', _⟩ := hn
    rw [e, ho'] at ho; cases ho; rw [hd] at hd'; cases hd'
theorem Real.store_local {ex : Addr → Option Obj} {s : Shared} (ok : COk C) (R : Real prog w G C ex st s) {i : Nat} (hi : i < C.N) (hk : C.env.kindOf (C.ns i) = some .local) {v : Value} {av : AV} (hv : vabs v = some av) {Q : Unit → Shared → Prop} {E : Value → Shared → Prop}
    (h : ∀ s', Real prog w G C ex (st.set i av) s' → (∀ b o, b ≠ C.env.locals → b ∉ C.own → s.heap.get? b = some o → s'.heap.get? b = some o) → Q () s') : wpAny (model prog w) C.A (storeName C.env (C.ns i) v) Q E s := by
  obtain ⟨m, hn, hl⟩ := R.ns
  refine wpAny_storeName_local hk hn (fun h' hn' hs => h _ ?_ fun b o q _ e => (hs.2 b q).trans e) (by rw [ok.kind]; rfl)
  have hkp : ∀ c o, c ≠ C.env.locals → s.heap.get? c = some o → h'.get? c = some o := fun c o q e => (hs.2 c q).trans e
  refine ⟨⟨_, hn', fun j bv q => ?_⟩, fun c o e => hkp c o (fun q => by have := R.exL; rw [← q, e] at this; cases this) (R.keep c o e), R.base, R.exL, fun c hc => ?_, fun a A e => ?_, ?_, R.gens, R.os, fun x c h => by obtain ⟨r, o, b', d⟩ := R.cells x c h; exact ⟨r, o, hkp c o (fun q => by obtain ⟨o', ho', es, ep, hd'⟩ := R.live; rw [q, ho'] at b'; cases b'; rw [d] at hd'; cases hd') b', d⟩, fun p hp => by obtain ⟨a, b, c, d⟩ := R.frs p hp; exact ⟨a, b, c, Ns_at d fun o e => hkp _ o b e⟩⟩
  · simp only [St.set] at q
    by_cases e : j = i
    · subst e
      rw [if_pos rfl] at q; cases q
      exact ⟨hi, v, hv, .inl ⟨hk, by simp⟩⟩
    · rw [if_neg e] at q
      obtain ⟨hj, u, hu, y⟩ := hl j bv q
      exact ⟨hj, u, hu, y.store_local (fun z => e (ok.inj _ _ hj hi z)) hs hn⟩
  · obtain ⟨a, r, o, ho, hd⟩ := R.exC c hc
    exact ⟨a, r, o, hkp c o (fun q => R.ownL (q ▸ hc)) ho, hd⟩
  · obtain ⟨x, y, o, ho, hA⟩ := R.hp a A e
    exact ⟨x, y, o, hkp a o y ho, hA⟩
  · obtain ⟨x, more, ht⟩ := R.tab
    exact ⟨x, more, hkp _ _ R.tabL ht⟩
theorem Real.store_cell {ex : Addr → Option Obj} {s : Shared} (ok : COk C) (R : Real prog w G C ex st s) {i : Nat} (hi : i < C.N) (hk : C.env.kindOf (C.ns i) = some .cell) {c : Addr} (hc : C.env.cells.lookup (C.ns i) = some c) (ho : c ∈ C.own) {v : Value} {av : AV} (hv : vabs v = some av) {Q : Unit → Shared → Prop} {E : Value → Shared → Prop}
    (h : ∀ s', Real prog w G C ex (st.set i av) s' → (∀ b o, b ≠ C.env.locals → b ∉ C.own → s.heap.get? b = some o → s'.heap.get? b = some o) → Q () s') : wpAny (model prog w) C.A (storeName C.env (C.ns i) v) Q E s := by
  obtain ⟨m, hn, hl⟩ := R.ns
  obtain ⟨hex, r, hcell⟩ := R.exC c ho
  refine wpAny_storeName_cell ok.kind hk hc hcell fun h' hc' hs => h _ ?_ fun b o _ q e => (hs.2 b fun z => q (z ▸ ho)).trans e
  have hkp : ∀ b o, b ≠ c → s.heap.get? b = some o → h'.get? b = some o := fun b o q e => (hs.2 b q).trans e
  have hcL : C.env.locals ≠ c := fun q => R.ownL (q ▸ ho)
  refine ⟨⟨m, hn.sameBut hs hcL, fun j bv q => ?_⟩, fun b o e => hkp b o (fun q => by rw [q, hex] at e; cases e) (R.keep b o e), R.base, R.exL, fun b hb => ?_, fun a A e => ?_, ?_, R.gens, R.os, fun x b h => ?_, fun p hp => by obtain ⟨a, b, c', d⟩ := R.frs p hp; exact ⟨a, b, c', Ns_at d fun o e => hkp _ o (by obtain ⟨oc, hoc, hdc⟩ := hcell; exact R.frC hp hoc hdc) e⟩⟩
  · simp only [St.set] at q
    by_cases e : j = i
    · subst e
      rw [if_pos rfl] at q; cases q
      exact ⟨hi, v, hv, .inr ⟨.inl hk, c, hc, hc'⟩⟩
    · rw [if_neg e] at q
      obtain ⟨hj, u, hu, y⟩ := hl j bv q
      refine ⟨hj, u, hu, ?_⟩
      rcases y with y | ⟨a, c', hc1, o, ho1, hd⟩
      · exact .inl y
      · exact .inr ⟨a, c', hc1, o, hkp c' o (fun z => e (ok.inj _ _ hj hi (ok.cinj _ _ c' hc1 (z ▸ hc)))) ho1, hd⟩
  · obtain ⟨a, r', o, ho', hd⟩ := R.exC b hb
    by_cases q : b = c
    · subst q; exact ⟨a, some v, hc'⟩
    · exact ⟨a, r', o, hkp b o q ho', hd⟩
  · obtain ⟨x, y, o, ho', hA⟩ := R.hp a A e
    exact ⟨x, y, o, hkp a o (fun q => by have := R.ownH ho; rw [← q] at this; rw [show st.hp a = some A from e] at this; cases this) ho', hA⟩
  · obtain ⟨x, more, ht⟩ := R.tab
    exact ⟨x, more, hkp _ _ (fun q => R.tabC (q ▸ ho)) ht⟩
  · obtain ⟨r', o, ho', hd⟩ := R.cells x b h
    by_cases q : b = c
    · subst q; exact ⟨some v, hc'⟩
    · exact ⟨r', o, hkp b o q ho', hd⟩
noncomputable def Sto (C : Cx) (i : Nat) : Prop := i < C.N ∧ (C.env.kindOf (C.ns i) = some .local ∨ (C.env.kindOf (C.ns i) = some .cell ∧ ∃ c, C.env.cells.lookup (C.ns i) = some c ∧ c ∈ C.own))
theorem Real.storeK {ex : Addr → Option Obj} {s : Shared} (ok : COk C) (R : Real prog w G C ex st s) {i : Nat} (hi : Sto C i) {v : Value} {av : AV} (hv : vabs v = some av) {Q : Unit → Shared → Prop} {E : Value → Shared → Prop}
    (h : ∀ s', Real prog w G C ex (st.set i av) s' → (∀ b o, b ≠ C.env.locals → b ∉ C.own → s.heap.get? b = some o → s'.heap.get? b = some o) → Q () s') : wpAny (model prog w) C.A (storeName C.env (C.ns i) v) Q E s := by
  rcases hi with ⟨hi, hk | ⟨hk, c, hc, ho⟩⟩
  · exact R.store_local ok hi hk hv h
  · exact R.store_cell ok hi hk hc ho hv h
theorem Real.store {ex : Addr → Option Obj} {s : Shared} (ok : COk C) (R : Real prog w G C ex st s) {i : Nat} (hi : Sto C i) {v : Value} {av : AV} (hv : vabs v = some av) {Q : Unit → Shared → Prop} {E : Value → Shared → Prop}
    (h : ∀ s', Real prog w G C ex (st.set i av) s' → Q () s') : wpAny (model prog w) C.A (storeName C.env (C.ns i) v) Q E s := R.storeK ok hi hv fun s' R' _ => h s' R'
theorem es_nil {K : List AV → St → Prop} (h : K [] st) : Es prog w G C [] st K := .mk fun pos ex s E R => wpAny_items_nil ⟨[], st, .nil, R, h⟩
theorem es_cons {e : Expr} {es : List Expr} {K : List AV → St → Prop} (h : Ev prog w G C e st fun v st₁ => Es prog w G C es st₁ fun vs st₂ => K (v :: vs) st₂)
    (he : ∀ env, starEach (e :: es) env = (false, eval e env) :: starEach es env) : Es prog w G C (e :: es) st K := .mk fun pos ex s E R => by
  refine wpAny_items_cons (wpAny_mono (h.run ex s E R) (fun v s₁ hq6 => ?_) fun _ _ x => x) (he _)
  obtain ⟨av, st₁, hv, R₁, h₁⟩ := hq6
  exact wpAny_mono (h₁.run pos ex s₁ E R₁) (fun vs s₂ hq7 => by obtain ⟨xs, st₂, hx, R₂, h₂⟩ := hq7; exact ⟨av :: xs, st₂, .cons hv hx, R₂, h₂⟩) fun _ _ x => x
theorem Real.push {ex : Addr → Option Obj} {s : Shared} (R : Real prog w G C ex st s) {o : Obj} (hf : o.isFreed = false) {A : AObj} (hA : A.is prog w o) (t : Nat) :
    st.hp s.heap.objs.size = none ∧ Real prog w G C ex (st.put s.heap.objs.size A) { s with heap := s.heap.push o, toks := t } := by
  have hn : s.heap.get? s.heap.objs.size = none := by
    cases q : s.heap.get? s.heap.objs.size with
    | none => rfl
    | some o' => exact absurd (Heap.lt_size q) (Nat.lt_irrefl _)
  have O := R.off_new hn
  have R' : Real prog w G C ex st { s with heap := s.heap.push o, toks := t } := R.heap fun b o' e => Heap.get?_push_of_some _ e
  exact ⟨O.hp, R'.take O (Heap.get?_push_size _ hf) hA⟩
noncomputable def listK (K : AV → St → Prop) : List AV → St → Prop := fun vs st₁ => vs.length ≤ 1000 ∧ ∀ a, st₁.hp a = none → K (.ref a) (st₁.put a (.list vs))
theorem ev_list {es : List Expr} {p : Pos} {K : AV → St → Prop} (h : Es prog w G C es st (listK K)) : Ev prog w G C (.List es p) st K := .mk fun ex s E R => by
  refine wpAny_List (wpAny_mono (h.run p ex s E R) (fun vs s₁ hq8 => ?_) fun _ _ x => x)
  obtain ⟨xs, st₁, hx, R₁, hl, h₁⟩ := hq8
  have P := R₁.push (o := listO vs.toArray 0) rfl (A := .list xs) ⟨_, _, rfl, by simpa using hx⟩ s₁.toks
  exact ⟨by rw [hx.length, sizeLine_eq]; exact Nat.le_trans ‹_› (by decide), _, _, rfl, P.2, h₁ _ P.1⟩
noncomputable def tupK (K : AV → St → Prop) : List AV → St → Prop := fun vs st₁ => vs.length ≤ 1000 ∧ ∀ a, st₁.hp a = none → K (.ref a) (st₁.put a (.tup vs))
theorem ev_tup {es : List Expr} {k : Nat} {p : Pos} {K : AV → St → Prop} (h : Es prog w G C es st (tupK K)) : Ev prog w G C (.Tuple es k p) st K := .mk fun ex s E R => by
  refine wpAny_Tuple (wpAny_mono (h.run p ex s E R) (fun vs s₁ hq9 => ?_) fun _ _ x => x)
  obtain ⟨xs, st₁, hx, R₁, hl, h₁⟩ := hq9
  have P := R₁.push (o := tupO vs.toArray 0) rfl (A := .tup xs) ⟨rfl, _, _, rfl, by simpa using hx⟩ s₁.toks
  exact ⟨by rw [hx.length, sizeLine_eq]; exact Nat.le_trans ‹_› (by decide), _, _, rfl, P.2, h₁ _ P.1⟩
theorem ev_bin {l r : Expr} {op : Operator} {p : Pos} {K : AV → St → Prop} (h : Ev prog w G C l st fun a st₁ => Ev prog w G C r st₁ fun b st₂ => ∀ va vb, vabs va = some a → vabs vb = some b → Op prog w G C (binaryOp op va vb) st₂ K) : Ev prog w G C (.BinOp l op r p) st K := .mk fun ex s E R =>
  wpAny_BinOp (wpAny_mono (h.run ex s E R) (fun va s₁ hq10 => by obtain ⟨a, st₁, ha, R₁, h₁⟩ := hq10; exact wpAny_mono (h₁.run ex s₁ E R₁) (fun vb s₂ hq11 => by obtain ⟨b, st₂, hb, R₂, h₂⟩ := hq11; exact (h₂ va vb ha hb).run ex s₂ E R₂) fun _ _ x => x) fun _ _ x => x)
theorem ev_cmp {l r : Expr} {op : CmpOp} {p : Pos} {K : AV → St → Prop} (h : Ev prog w G C l st fun a st₁ => Ev prog w G C r st₁ fun b st₂ => ∀ va vb, vabs va = some a → vabs vb = some b → Op prog w G C (compareOp op va vb) st₂ K) (hm : behindInMarks op r = false) : Ev prog w G C (.Compare l [op] [r] p) st K := .mk fun ex s E R =>
  wpAny_Compare1 (wpAny_mono (h.run ex s E R) (fun va s₁ hq12 => by obtain ⟨a, st₁, ha, R₁, h₁⟩ := hq12; exact wpAny_mono (h₁.run ex s₁ E R₁) (fun vb s₂ hq13 => by obtain ⟨b, st₂, hb, R₂, h₂⟩ := hq13; exact (h₂ va vb ha hb).run ex s₂ E R₂) fun _ _ x => x) fun _ _ x => x) hm
theorem tr_cmp {l r : Expr} {op : CmpOp} {p : Pos} {K : Bool → St → Prop} (h : Ev prog w G C l st fun a st₁ => Ev prog w G C r st₁ fun b st₂ => ∀ va vb, vabs va = some a → vabs vb = some b → Op prog w G C (compareOp op va vb) st₂ fun c st₃ => ∃ b, c = .bool b ∧ K b st₃) (hm : behindInMarks op r = false) : Tr prog w G C (.Compare l [op] [r] p) st K := .mk fun ex s E R =>
  wpAny_isTrue_Compare1 (wpAny_mono (h.run ex s E R) (fun va s₁ hq1 => by
    obtain ⟨a, st₁, ha, R₁, h₁⟩ := hq1
    exact wpAny_mono (h₁.run ex s₁ E R₁) (fun vb s₂ hq2 => by
    obtain ⟨b, st₂, hb, R₂, h₂⟩ := hq2
    exact wpAny_mono ((h₂ va vb ha hb).run ex s₂ E R₂) (fun vc s₃ hq3 => by
    obtain ⟨c, st₃, hc, R₃, b', e, h₃⟩ := hq3
    subst e; rw [vabs_bool hc]; exact wpAny_truthy_bool ⟨st₃, R₃, h₃⟩) fun _ _ x => x) fun _ _ x => x) fun _ _ x => x) hm
noncomputable def intOp : Operator → Int → Int → Option Int
  | .Add, a, b => some (a + b)
  | .Sub, a, b => some (a - b)
  | .Mult, a, b => if a.natAbs < 2 ^ 63 ∨ b.natAbs < 2 ^ 63 then some (a * b) else none
  | .FloorDiv, a, b => if b ≠ 0 ∧ b.natAbs < 1073741824 then some (a.fdiv b) else none
  | .Mod, a, b => if b ≠ 0 then some (a.fmod b) else none
  | .Pow, a, b => if 0 ≤ b ∧ (b ≤ 1000 ∧ a.natAbs < 2 ^ 63) then some (a ^ b.toNat) else none
  | _, _, _ => none
theorem ite_some {α : Type} {p : Prop} [Decidable p] {x r : α} (h : (if p then some x else none) = some r) : p ∧ x = r := by
  by_cases q : p
  · rw [if_pos q] at h; exact ⟨q, Option.some.inj h⟩
  · rw [if_neg q] at h; cases h
theorem bits_small {a : Int} (h : a.natAbs < 2 ^ 63) : Builtin.Int.intBits a ≤ 64 := by
  unfold Builtin.Int.intBits
  split
  · exact Nat.zero_le _
  · rename_i h0
    have h1 : a.natAbs ≠ 0 := fun q => by simp_all
    have : a.natAbs.log2 < 63 := (Nat.log2_lt h1).mpr h
    exact Nat.le_trans ‹_› (by decide)
theorem op_int {op : Operator} {a b r : Int} {va vb : Value} {K : AV → St → Prop} (ha : vabs va = some (.int a)) (hb : vabs vb = some (.int b)) (e : intOp op a b = some r) (h : K (.int r) st) : Op prog w G C (binaryOp op va vb) st K := by
  refine .mk fun ex s E R => ?_
  obtain ⟨t, rfl⟩ := vabs_int ha
  obtain ⟨u, rfl⟩ := vabs_int hb
  have fin : E2 fun av st' => A3 (vabs (Value.int r s.toks) = some av) (Real prog w G C ex st' { s with toks := s.toks + 1 }) (K av st') := ⟨_, st, rfl, R.toks _, h⟩
  cases op
  case Add => cases e; exact wpAny_add_int fin
  case Sub => cases e; exact PyProof.Rows.sub_int fin
  case Mult =>
    obtain ⟨q, rfl⟩ := ite_some e
    exact PyProof.Rows.mul_int fin (q.elim (fun z => IntMulOk.of_left (bits_small z)) fun z => IntMulOk.of_right (bits_small z))
  case FloorDiv => obtain ⟨q, rfl⟩ := ite_some e; exact PyProof.Rows.floordiv_int q.1 fin (.inl (PyProof.noPylong_small q.2))
  case Mod => obtain ⟨q, rfl⟩ := ite_some e; exact PyProof.Rows.mod_int q fin
  case Pow => obtain ⟨q, rfl⟩ := ite_some e; exact PyProof.Rows.pow_int_small q.1 (Int.le_trans q.2.1 (by decide)) (Nat.lt_of_lt_of_le q.2.2 (by decide)) fin
  all_goals cases e
noncomputable def intCmp : CmpOp → Int → Int → Option Bool
  | .Eq, a, b => some (a == b)
  | .NotEq, a, b => some (a != b)
  | .Lt, a, b => some (decide (a < b))
  | .LtE, a, b => some (decide (a ≤ b))
  | .Gt, a, b => some (decide (b < a))
  | .GtE, a, b => some (decide (b ≤ a))
  | _, _, _ => none
theorem cmp_int {op : CmpOp} {a b : Int} {r : Bool} {va vb : Value} {K : AV → St → Prop} (ha : vabs va = some (.int a)) (hb : vabs vb = some (.int b)) (e : intCmp op a b = some r) (h : K (.bool r) st) : Op prog w G C (compareOp op va vb) st K := by
  refine .mk fun ex s E R => ?_
  obtain ⟨t, rfl⟩ := vabs_int ha
  obtain ⟨u, rfl⟩ := vabs_int hb
  have fin : E2 fun av st' => A3 (vabs (Value.bool r) = some av) (Real prog w G C ex st' s) (K av st') := ⟨_, st, rfl, R, h⟩
  cases op <;> cases e
  case Eq => exact PyProof.Rows.eq_int fin
  case NotEq => exact PyProof.Rows.ne_int fin
  case Lt => exact PyProof.Rows.lt_int fin
  case LtE => exact PyProof.Rows.le_int fin
  case Gt => exact PyProof.Rows.gt_int fin
  case GtE => exact PyProof.Rows.ge_int fin
end
end Mine
end
section
open PySem PySem.W PySem.Calls PyProof.Rows
set_option Elab.async false
set_option linter.unusedVariables false
namespace Mine
variable {prog : Program} {w : World}
section
variable {G : Gl} {C : Cx} {st : St} {ex : Addr → Option Obj} {s : Shared}
theorem Real.listE (R : Real prog w G C ex st s) {a : Addr} {xs : List AV} (e : st.hp a = some (.list xs)) : E2 fun vs n => s.heap.get? a = some (listO vs n) ∧ Absl vs.toList xs := by
  obtain ⟨_, _, o, ho, vs, n, rfl, hx⟩ := R.hp _ _ e
  exact ⟨vs, n, ho, hx⟩
theorem Real.tupE (R : Real prog w G C ex st s) {a : Addr} {xs : List AV} (e : st.hp a = some (.tup xs)) : E3 fun vs n o => A4 (s.heap.get? a = some o) (o.cls = .type "tuple") (o.data = .seq vs n) (Absl vs.toList xs) := by
  obtain ⟨_, _, o, ho, hc, vs, n, hd, hx⟩ := R.hp _ _ e
  exact ⟨vs, n, o, ho, hc, hd, hx⟩
theorem Real.list (R : Real prog w G C ex st s) {a : Addr} {xs : List AV} (e : st.hp a = some (.list xs)) : ∃ vs, s.heap.IsList a vs ∧ Absl vs.toList xs := by
  obtain ⟨vs, n, ho, hx⟩ := R.listE e
  exact ⟨vs, ⟨_, ho, rfl, n, rfl⟩, hx⟩
theorem Real.tuple (R : Real prog w G C ex st s) {a : Addr} {xs : List AV} (e : st.hp a = some (.tup xs)) : ∃ vs, s.heap.IsTuple a vs ∧ Absl vs.toList xs := by
  obtain ⟨vs, n, o, ho, hc, hd, hx⟩ := R.tupE e
  exact ⟨vs, ⟨o, ho, hc, n, hd⟩, hx⟩
noncomputable def KvA (kvs : List (Str × Value)) (es : List (Str × AV)) : Prop := kvs.map (fun p => (p.1, vabs p.2)) = es.map fun p => (p.1, some p.2)
theorem Real.dict (R : Real prog w G C ex st s) {a : Addr} {es : List (Str × AV)} {ep : Nat} (e : st.hp a = some (.dict es ep)) : ∃ kvs, s.heap.DictAt (strKind prog w) a kvs ep ∧ KvA kvs es := by
  refine hide fun Pz hPz => ?_; (rcases R.hp _ _ e with ⟨_, _, o, ho, ens, kvs, a1, a2, a3, a4, a5, a6⟩) <;> (refine hPz ?_; clear hPz Pz)
  exact ⟨kvs, ⟨o, ens, ho, a1, a2, a3, a4, a5⟩, a6⟩
theorem dict_is {h : Heap} {a : Addr} {kvs : List (Str × Value)} {es : List (Str × AV)} {ep : Nat} (x : h.DictAt (strKind prog w) a kvs ep) (hx : KvA kvs es) : ∃ o, h.get? a = some o ∧ (AObj.dict es ep).is prog w o := by
  obtain ⟨o, ens, ho, a1, a2, a3, a4, a5⟩ := x
  exact ⟨o, ho, ens, kvs, a1, a2, a3, a4, a5, hx⟩
theorem KvA.length {kvs : List (Str × Value)} {es : List (Str × AV)} (h : KvA kvs es) : kvs.length = es.length := by
  have := congrArg List.length h; simpa using this
theorem KvA.get {kvs : List (Str × Value)} {es : List (Str × AV)} (h : KvA kvs es) {i : Nat} {k : Str} {x : AV} (e : es[i]? = some (k, x)) : ∃ v, kvs[i]? = some (k, v) ∧ vabs v = some x := by
  have := congrArg (fun l : List (Str × Option AV) => l[i]?) h
  simp only [List.getElem?_map, e, Option.map_some] at this
  cases q : kvs[i]? with
  | none => rw [q] at this; cases this
  | some p => rw [q] at this; simp only [Option.map_some, Option.some.injEq, Prod.mk.injEq] at this; exact ⟨p.2, by rw [← this.1], this.2⟩
theorem KvA.append {kvs kvs' : List (Str × Value)} {es es' : List (Str × AV)} (h : KvA kvs es) (h' : KvA kvs' es') : KvA (kvs ++ kvs') (es ++ es') := by
  unfold KvA at *; simp [h, h']
noncomputable def aget (es : List (Str × AV)) (k : Str) : Option AV := (es.find? fun p => p.1 = k).map (·.2)
noncomputable def aput (es : List (Str × AV)) (k : Str) (v : AV) : List (Str × AV) :=
  if es.any (fun p => p.1 = k) then es.map (fun p => if p.1 = k then (p.1, v) else p) else es ++ [(k, v)]
theorem KvA.cons_inv {p : Str × Value} {kvs : List (Str × Value)} {es : List (Str × AV)} (h : KvA (p :: kvs) es) : E2 fun x es' => A3 (es = (p.1, x) :: es') (vabs p.2 = some x) (KvA kvs es') := by
  cases es with
  | nil => cases h
  | cons q r =>
    simp only [KvA, List.map_cons, List.cons.injEq, Prod.mk.injEq] at h
    exact ⟨q.2, r, by rw [h.1.1], h.1.2, h.2⟩
theorem KvA.valueAt : ∀ {kvs : List (Str × Value)} {es : List (Str × AV)} (h : KvA kvs es) (k : Str), (valueAt kvs k).map vabs = (aget es k).map some := by
  intro kvs
  induction kvs with
  | nil =>
    intro es h k
    cases es with | nil => rfl | cons _ _ => cases h
  | cons p r ih =>
    intro es h k
    obtain ⟨x, es', rfl, hx, h'⟩ := h.cons_inv
    have ih := ih h' k
    unfold PySem.valueAt aget at *
    by_cases q : p.1 = k
    · simp [List.find?_cons, q, hx]
    · simp only [List.find?_cons, q, decide_false]; exact ih
theorem KvA.any : ∀ {kvs : List (Str × Value)} {es : List (Str × AV)} (h : KvA kvs es) (k : Str), kvs.any (fun p => decide (p.1 = k)) = es.any (fun p => decide (p.1 = k)) := by
  intro kvs
  induction kvs with
  | nil =>
    intro es h k
    cases es with | nil => rfl | cons _ _ => cases h
  | cons p r ih =>
    intro es h k
    obtain ⟨x, es', rfl, hx, h'⟩ := h.cons_inv
    simp only [List.any_cons, ih h' k]
theorem KvA.mapput : ∀ {kvs : List (Str × Value)} {es : List (Str × AV)} (h : KvA kvs es) (k : Str) {v : Value} {x : AV} (hv : vabs v = some x), KvA (kvs.map fun p => if p.1 = k then (p.1, v) else p) (es.map fun p => if p.1 = k then (p.1, x) else p) := by
  intro kvs
  induction kvs with
  | nil =>
    intro es h k _ _ _
    cases es with | nil => rfl | cons _ _ => cases h
  | cons p r ih =>
    intro es h k v x hv
    obtain ⟨y, es', rfl, hx, h'⟩ := h.cons_inv
    have ih := ih h' k hv
    unfold KvA at *
    by_cases q : p.1 = k
    · simp only [List.map_cons, q, if_true, hv]; rw [ih]
    · simp only [List.map_cons, if_neg q, hx]; rw [ih]
theorem KvA.stored {kvs : List (Str × Value)} {es : List (Str × AV)} (h : KvA kvs es) (k : Str) {v : Value} {x : AV} (hv : vabs v = some x) : KvA (stored kvs k v) (aput es k x) := by
  unfold PySem.stored aput
  rw [h.any k]
  split
  · exact h.mapput k hv
  · exact h.append (by simp [KvA, hv])
theorem strKey {v : Value} {k : Str} (h : vabs v = some (.str k)) : (strKind prog w).is k v = true := by
  obtain ⟨t, rfl⟩ := vabs_str h
  exact strKind_is _ _ _ _
theorem op_item_list {a : Addr} {xs : List AV} {i : Int} {x : AV} {va vi : Value} {K : AV → St → Prop} (ha : vabs va = some (.ref a)) (hi : vabs vi = some (.int i)) (e : st.hp a = some (.list xs)) (h0 : 0 ≤ i) (hx : xs[i.toNat]? = some x) (hl : xs.length ≤ 1000) (h : K x st) : Op prog w G C (getItem va vi) st K := .mk fun ex s E R => by
  rw [vabs_ref ha]; obtain ⟨t, rfl⟩ := vabs_int hi
  obtain ⟨vs, hv, hab⟩ := R.list e
  obtain ⟨v, hv1, hv2⟩ := hab.get hx
  have hlt : i.toNat < xs.length := (List.getElem?_eq_some_iff.mp hx).1
  exact wpAny_getItem_list hv h0 (by lia) (by rw [← Array.getElem?_toList]; exact hv1) ⟨x, st, hv2, R, h⟩
theorem op_item_list_neg {a : Addr} {xs : List AV} {i : Int} {x : AV} {va vi : Value} {K : AV → St → Prop} (ha : vabs va = some (.ref a)) (hi : vabs vi = some (.int i)) (e : st.hp a = some (.list xs)) (h0 : i < 0) (h1 : -(xs.length : Int) ≤ i) (hx : xs[(i + xs.length).toNat]? = some x) (hl : xs.length ≤ 1000) (h : K x st) : Op prog w G C (getItem va vi) st K := .mk fun ex s E R => by
  rw [vabs_ref ha]; obtain ⟨t, rfl⟩ := vabs_int hi
  obtain ⟨vs, hv, hab⟩ := R.list e
  obtain ⟨v, hv1, hv2⟩ := hab.get hx
  have hs : (vs.size : Int) = xs.length := by rw [← hab.length, Array.length_toList]
  exact wpAny_getItem_list_neg hv h0 (by lia) (by lia) (by rw [hs, ← Array.getElem?_toList]; exact hv1) ⟨x, st, hv2, R, h⟩
theorem op_item_dict {a : Addr} {es : List (Str × AV)} {ep : Nat} {k : Str} {x : AV} {va vi : Value} {K : AV → St → Prop} (ha : vabs va = some (.ref a)) (hi : vabs vi = some (.str k)) (e : st.hp a = some (.dict es ep)) (hx : aget es k = some x) (h : K x st) : Op prog w G C (getItem va vi) st K := .mk fun ex s E R => by
  rw [vabs_ref ha]
  obtain ⟨kvs, hv, hab⟩ := R.dict e
  have q := hab.valueAt k
  rw [hx] at q
  cases hval : valueAt kvs k with
  | none => rw [hval] at q; cases q
  | some v =>
    rw [hval] at q
    exact wpAny_getItem_of (strKey hi) hv.dictOf.mapOf hval ⟨x, st, by simpa using q, R.toks _, h⟩
end
end Mine
end
section
open PySem PySem.W PySem.Calls PyProof.Rows
set_option Elab.async false
set_option linter.unusedVariables false
namespace Mine
variable {prog : Program} {w : World}
section
variable {G : Gl} {C : Cx} {st : St} {ex : Addr → Option Obj} {s : Shared}
theorem op_item_tup {a : Addr} {xs : List AV} {i : Int} {x : AV} {va vi : Value} {K : AV → St → Prop} (ha : vabs va = some (.ref a)) (hi : vabs vi = some (.int i)) (e : st.hp a = some (.tup xs)) (h0 : 0 ≤ i) (hx : xs[i.toNat]? = some x) (hl : xs.length ≤ 1000) (h : K x st) : Op prog w G C (getItem va vi) st K := .mk fun ex s E R => by
  rw [vabs_ref ha]; obtain ⟨t, rfl⟩ := vabs_int hi
  obtain ⟨vs, hv, hab⟩ := R.tuple e
  obtain ⟨v, hv1, hv2⟩ := hab.get hx
  have hlt : i.toNat < xs.length := (List.getElem?_eq_some_iff.mp hx).1
  have hs : vs.size = xs.length := by rw [← hab.length, Array.length_toList]
  refine PyProof.Rows.getItem_tuple (j := i.toNat) hv (by lia) (by lia) ?_ (by rw [← Array.getElem?_toList]; exact hv1) ⟨x, st, hv2, R, h⟩
  unfold seqIndex?
  simp only [hs]
  have hn : ¬ i < 0 := Int.not_lt.mpr ‹_›
  simp only [hn, if_false]
  have h2 : 0 ≤ i ∧ i < (xs.length : Int) := ⟨h0, by lia⟩
  simp [h2.1, h2.2]
inductive Sub (st : St) : AV → AV → AV → Prop
  | list {a xs i x} : st.hp a = some (.list xs) → 0 ≤ i → xs[i.toNat]? = some x → xs.length ≤ 1000 → Sub st (.ref a) (.int i) x
  | neg {a xs i x} : st.hp a = some (.list xs) → i < 0 → -(xs.length : Int) ≤ i → xs[(i + xs.length).toNat]? = some x → xs.length ≤ 1000 → Sub st (.ref a) (.int i) x
  | tup {a xs i x} : st.hp a = some (.tup xs) → 0 ≤ i → xs[i.toNat]? = some x → xs.length ≤ 1000 → Sub st (.ref a) (.int i) x
  | dict {a es ep k x} : st.hp a = some (.dict es ep) → aget es k = some x → Sub st (.ref a) (.str k) x
theorem op_item {a i x : AV} {va vi : Value} {K : AV → St → Prop} (ha : vabs va = some a) (hi : vabs vi = some i) (hx : Sub st a i x) (h : K x st) : Op prog w G C (getItem va vi) st K := by
  cases hx with
  | list e h0 hx hl => exact op_item_list ha hi e h0 hx hl h
  | neg e h0 h1 hx hl => exact op_item_list_neg ha hi e h0 h1 hx hl h
  | tup e h0 hx hl => exact op_item_tup ha hi e h0 hx hl h
  | dict e hx => exact op_item_dict ha hi e hx h
theorem sub_type (R : Real prog w G C ex st s) {a i x : AV} {va : Value} (ha : vabs va = some a) (hx : Sub st a i x) : E2 fun T id => s.TypeIs va T ∧ typeLookup (.type T) "__getitem__" = pure (some (.builtin id)) := by
  cases hx with
  | list e h0 hx hl => rw [vabs_ref ha]; obtain ⟨vs, ⟨o, ho, hc, _⟩, _⟩ := R.list e; exact ⟨"list", _, ⟨o, ho, hc⟩, slot_list_getitem.lookup⟩
  | neg e h0 h1 hx hl => rw [vabs_ref ha]; obtain ⟨vs, ⟨o, ho, hc, _⟩, _⟩ := R.list e; exact ⟨"list", _, ⟨o, ho, hc⟩, slot_list_getitem.lookup⟩
  | tup e h0 hx hl => rw [vabs_ref ha]; obtain ⟨vs, ⟨o, ho, hc, _⟩, _⟩ := R.tuple e; exact ⟨"tuple", _, ⟨o, ho, hc⟩, slot_tuple_getitem.lookup⟩
  | dict e hx => rw [vabs_ref ha]; obtain ⟨kvs, hk, _⟩ := R.dict e; exact ⟨"dict", _, hk.dictOf.typeIs, slot_dict_getitem.lookup⟩
theorem ev_sub {o i : Expr} {p : Pos} {K : AV → St → Prop} (h : Ev prog w G C o st fun a st₁ => Ev prog w G C i st₁ fun b st₂ => ∃ x, Sub st₂ a b x ∧ K x st₂) (hs : ∀ o' i', subscripted i false o' i' = operate [o', i'] (getItem o' i')) : Ev prog w G C (.Subscript o i p) st K := .mk fun ex s E R =>
  Subscript_ (wpAny_mono (h.run ex s E R) (fun va s₁ hq17 => by obtain ⟨a, st₁, ha, R₁, h₁⟩ := hq17; exact wpAny_mono (h₁.run ex s₁ E R₁) (fun vb s₂ hq18 => by
    obtain ⟨b, st₂, hb, R₂, x, hx, h₂⟩ := hq18
    obtain ⟨T, id, hT, hl⟩ := sub_type R₂ ha hx
    exact tail_any hT hl ((op_item ha hb hx h₂).run ex s₂ E R₂) (hs _ _)) fun _ _ x => x) fun _ _ x => x)
theorem noSys (R : Real prog w G C ex st s) (hB : G.B sysModules ≠ none) {a : Addr} {A : AObj} (e : st.hp a = some A) : (a == sysModules) = false := by
  refine beq_eq_false_iff_ne.mpr fun q => ?_
  cases h : G.B sysModules with
  | none => exact hB h
  | some o =>
    have := (R.hp _ _ e).1
    rw [q, R.base _ _ h] at this; cases this
theorem aget_isSome {kvs : List (Str × Value)} {es : List (Str × AV)} (h : KvA kvs es) (k : Str) : (valueAt kvs k).isSome = (aget es k).isSome := by
  have := congrArg Option.isSome (h.valueAt k); simpa using this
theorem op_in_dict (hB : G.B sysModules ≠ none) {a : Addr} {es : List (Str × AV)} {ep : Nat} {k : Str} {va vi : Value} {K : AV → St → Prop} (hi : vabs vi = some (.str k)) (ha : vabs va = some (.ref a)) (e : st.hp a = some (.dict es ep)) (h : K (.bool (aget es k).isSome) st) : Op prog w G C (compareOp .In vi va) st K := .mk fun ex s E R => by
  rw [vabs_ref ha]
  obtain ⟨kvs, hv, hab⟩ := R.dict e
  exact wpAny_in_of (strKey hi) (noSys R hB e) hv.dictOf.mapOf ⟨_, st, by rw [aget_isSome hab]; rfl, R.toks _, h⟩
theorem op_notin_dict (hB : G.B sysModules ≠ none) {a : Addr} {es : List (Str × AV)} {ep : Nat} {k : Str} {va vi : Value} {K : AV → St → Prop} (hi : vabs vi = some (.str k)) (ha : vabs va = some (.ref a)) (e : st.hp a = some (.dict es ep)) (h : K (.bool (!(aget es k).isSome)) st) : Op prog w G C (compareOp .NotIn vi va) st K := .mk fun ex s E R => by
  rw [vabs_ref ha]
  obtain ⟨kvs, hv, hab⟩ := R.dict e
  exact wpAny_notIn_of (strKey hi) (noSys R hB e) hv.dictOf.mapOf ⟨_, st, by rw [aget_isSome hab]; rfl, R.toks _, h⟩
variable (prog w) in
structure OpU (G : Gl) (C : Cx) (t : Sem Unit) (st : St) (K : St → Prop) : Prop where
  run : ∀ ex s E, Real prog w G C ex st s → wpAny (model prog w) C.A t (fun _ s' => ∃ st', Real prog w G C ex st' s' ∧ K st') E s
theorem op_set_list {a : Addr} {xs : List AV} {i : Int} {x : AV} {va vi vx : Value} {K : St → Prop} (ha : vabs va = some (.ref a)) (hi : vabs vi = some (.int i)) (hx : vabs vx = some x) (e : st.hp a = some (.list xs)) (h0 : 0 ≤ i) (h1 : i < xs.length) (hl : xs.length ≤ 1000) (h : K (st.put a (.list (xs.set i.toNat x)))) : OpU prog w G C (setItem va vi vx) st K := .mk fun ex s E R => by
  rw [vabs_ref ha]; obtain ⟨t, rfl⟩ := vabs_int hi
  obtain ⟨vs, n, hv, hab⟩ := R.listE e
  have hs : vs.size = xs.length := by rw [← hab.length, Array.length_toList]
  refine ki_setAt hv h0 (by lia) (by lia) ⟨_, ?_, h⟩
  have hset : Obj.mapSeq (·.setIfInBounds i.toNat vx) (listO vs n) = listO (vs.setIfInBounds i.toNat vx) n := by
    simp [Obj.mapSeq, listO]
  exact R.upd e (s' := { s with heap := s.heap.update a _ }) (fun c o' q z => (Heap.get?_update_other _ _ (Ne.symm q)).trans z) (by rw [Heap.get?_update_self _ hv (by rw [hset]; rfl), hset]) ⟨_, _, rfl, by
    unfold Absl at *
    simp only [Array.toList_setIfInBounds, List.map_set, hab, hx]⟩ R.gens rfl
theorem op_set_dict {a : Addr} {es : List (Str × AV)} {ep : Nat} {k : Str} {x : AV} {va vi vx : Value} {K : St → Prop} (ha : vabs va = some (.ref a)) (hi : vabs vi = some (.str k)) (hx : vabs vx = some x) (e : st.hp a = some (.dict es ep)) (hl : es.length ≤ 1000) (h : ∀ ep', K (st.put a (.dict (aput es k x) ep'))) : OpU prog w G C (setItem va vi vx) st K := .mk fun ex s E R => by
  rw [vabs_ref ha]
  obtain ⟨kvs, hv, hab⟩ := R.dict e
  refine wpAny_setItem_pairs (strKey hi) hv.dictOf (fun h' hl' hs' => ?_) (by rw [hab.length, sizeLine_eq]; exact Nat.le_trans ‹_› (by decide))
  obtain ⟨ep', hd⟩ := hl'.dictAt
  obtain ⟨o, ho, hA⟩ := dict_is hd (hab.stored k hx)
  exact ⟨_, R.upd e (s' := { s with heap := h', toks := s.toks + 1 }) (fun c o' q z => (hs'.2 c q).trans z) ho hA R.gens rfl, h ep'⟩
theorem ev_dict0 {p : Pos} {K : AV → St → Prop} (h : ∀ a, st.hp a = none → K (.ref a) (st.put a (.dict [] 0))) : Ev prog w G C (.Dict [] [] p) st K := .mk fun ex s E R => by
  refine wpAny_Dict_empty ?_
  have P := R.push (o := { cls := .type "dict", data := .dict #[] }) rfl (A := .dict [] 0) ⟨#[], [], ⟨rfl, rfl, rfl⟩, rfl, fun _ he => by simp at he, .nil, .nil, rfl⟩ s.toks
  exact ⟨_, _, rfl, P.2, h _ P.1⟩
theorem exs_nil {K : AFlow → St → Prop} (h : K .next st) : Exs prog w G C [] st K := .mk fun ex s E R => wpAny_execs_nil ⟨.next, st, rfl, R, h⟩
noncomputable def nextK (prog : Program) (w : World) (G : Gl) (C : Cx) (ts : List Stmt) (K : AFlow → St → Prop) : AFlow → St → Prop := fun f st₁ => match f with | .next => Exs prog w G C ts st₁ K | f => K f st₁
theorem exs_cons {t : Stmt} {ts : List Stmt} {K : AFlow → St → Prop} (h : Ex prog w G C t st (nextK prog w G C ts K)) : Exs prog w G C (t :: ts) st K := .mk fun ex s E R =>
  wpAny_execs_cons (wpAny_mono (h.run ex s E R) (fun f s₁ hq19 => by
    obtain ⟨af, st₁, hf, R₁, h₁⟩ := hq19
    cases f with
    | next => cases hf; exact h₁.run ex s₁ E R₁
    | brk => cases hf; exact ⟨_, st₁, rfl, R₁, h₁⟩
    | cont => cases hf; exact ⟨_, st₁, rfl, R₁, h₁⟩
    | ret v =>
      obtain ⟨av, hv, rfl⟩ := Option.map_eq_some_iff.mp hf
      exact ⟨_, st₁, hf, R₁, h₁⟩) fun _ _ x => x)
theorem ex_assign (ok : COk C) {i : Nat} {e : Expr} {p q : Pos} {K : AFlow → St → Prop} (hi : Sto C i) (h : Ev prog w G C e st fun v st₁ => K .next (st₁.set i v)) (hs : swapsWith e (some (.Name (C.ns i) p)) q.line C.env = pure false) : Ex prog w G C (.Assign [.Name (C.ns i) p] e q) st K := .mk fun ex s E R =>
  wpAny_Assign_Name (wpAny_mono (h.run ex s E R) (fun v s₁ hq20 => by obtain ⟨av, st₁, hv, R₁, h₁⟩ := hq20; exact R₁.store ok hi hv fun s' R' => ⟨.next, _, rfl, R', h₁⟩) fun _ _ x => x) hs
theorem ex_return {e : Expr} {p : Pos} {K : AFlow → St → Prop} (h : Ev prog w G C e st fun v st₁ => K (.ret v) st₁) : Ex prog w G C (.Return (some e) p) st K := .mk fun ex s E R =>
  wpAny_Return_some (wpAny_mono (h.run ex s E R) (fun v s₁ hq21 => by obtain ⟨av, st₁, hv, R₁, h₁⟩ := hq21; exact ⟨_, st₁, by simp only [fabs, hv, Option.map_some], R₁, h₁⟩) fun _ _ x => x)
theorem ex_if {e : Expr} {b o : List Stmt} {p : Pos} {K : AFlow → St → Prop} (h : Tr prog w G C e st fun c st₁ => if c then Exs prog w G C b st₁ K else Exs prog w G C o st₁ K) : Ex prog w G C (.If e b o p) st K := .mk fun ex s E R =>
  wpAny_If (wpAny_mono (h.run ex s E R) (fun c s₁ hq22 => by obtain ⟨st₁, R₁, h₁⟩ := hq22; cases c <;> exact h₁.run ex s₁ E R₁) fun _ _ x => x)
theorem ex_expr {e : Expr} {p : Pos} {K : AFlow → St → Prop} (h : Ev prog w G C e st fun _ st₁ => K .next st₁) (hi : interactive C.env = false) (hs : swapsWith e none p.line C.env = pure false) : Ex prog w G C (.Expr e p) st K := .mk fun ex s E R =>
  wpAny_Expr_any (wpAny_mono (h.run ex s E R) (fun v s₁ hq23 => by obtain ⟨av, st₁, hv, R₁, h₁⟩ := hq23; exact ⟨.next, st₁, rfl, R₁, h₁⟩) fun _ _ x => x) hi hs
theorem ex_break {p : Pos} {K : AFlow → St → Prop} (h : K .brk st) : Ex prog w G C (.Break p) st K := .mk fun ex s E R => wpAny_Break ⟨.brk, st, rfl, R, h⟩
theorem ex_continue {p : Pos} {K : AFlow → St → Prop} (h : K .cont st) : Ex prog w G C (.Continue p) st K := .mk fun ex s E R => wpAny_Continue ⟨.cont, st, rfl, R, h⟩
theorem ex_aug_int (ok : COk C) {i : Nat} {e : Expr} {p q : Pos} {v : AV} {K : AFlow → St → Prop} (hi : Sto C i) (hv : st.loc i = some v) (h : Ev prog w G C e st fun y st₁ => E2 fun a b => A3 (v = .int a) (y = .int b) (K .next (st₁.set i (.int (a + b))))) : Ex prog w G C (.AugAssign (.Name (C.ns i) p) .Add e q) st K := .mk fun ex s E R => by
  refine wpAny_AugAssign_Name ?_
  obtain ⟨m, hn, hl⟩ := R.ns
  obtain ⟨hi', u, hu, y⟩ := hl i v hv
  have main : wpAny (model prog w) C.A (eval e C.env) (fun v s₂ => wpAny (model prog w) C.A (inplaceOp .Add u v) (fun r s₃ => wpAny (model prog w) C.A (storeName C.env (C.ns i) r) (fun _ s' => E2 fun af st' => A3 (fabs .next = some af) (Real prog w G C ex st' s') (K af st')) E s₃) E s₂) E s := by
    refine wpAny_mono (h.run ex s E R) (fun vb s₁ hq24 => ?_) fun _ _ x => x
    obtain ⟨bv, st₁, hb, R₁, a, b, e1, e2, h₁⟩ := hq24
    subst e1 e2
    obtain ⟨t, rfl⟩ := vabs_int hu
    obtain ⟨t', rfl⟩ := vabs_int hb
    exact wpAny_iadd_int ((R₁.toks _).store ok hi (av := .int (a + b)) rfl fun s' R' => ⟨.next, _, rfl, R', h₁⟩)
  rcases y with ⟨hk, hm⟩ | ⟨hk, c, hc, hcell⟩
  · exact wpAny_loadName_local ok.kind hk hn hm main
  · rcases hk with hk | hk
    · exact wpAny_loadName_cell ok.kind hk hc hcell main
    · exact wpAny_loadName_free ok.kind hk hc hcell main (ok.dbg i hi').2
theorem ex_setitem {o i e : Expr} {p q : Pos} {K : AFlow → St → Prop} (h : Ev prog w G C e st fun v st₁ => Ev prog w G C o st₁ fun a st₂ => Ev prog w G C i st₂ fun b st₃ => ∀ vv va vb, vabs vv = some v → vabs va = some a → vabs vb = some b → OpU prog w G C (setItem va vb vv) st₃ (K .next))
    (hs : swapsWith e (some (.Subscript o i p)) q.line C.env = pure false) : Ex prog w G C (.Assign [.Subscript o i p] e q) st K := .mk fun ex s E R =>
  wpAny_Assign_Subscript (wpAny_mono (h.run ex s E R) (fun vv s₁ hq25 => by obtain ⟨v, st₁, hv, R₁, h₁⟩ := hq25; exact wpAny_mono (h₁.run ex s₁ E R₁) (fun va s₂ hq26 => by obtain ⟨a, st₂, ha, R₂, h₂⟩ := hq26; exact wpAny_mono (h₂.run ex s₂ E R₂) (fun vb s₃ hq27 => by obtain ⟨b, st₃, hb, R₃, h₃⟩ := hq27; exact wpAny_mono ((h₃ vv va vb hv ha hb).run ex s₃ E R₃) (fun _ s₄ hq28 => by obtain ⟨st₄, R₄, h₄⟩ := hq28; exact ⟨.next, st₄, rfl, R₄, h₄⟩) fun _ _ x => x) fun _ _ x => x) fun _ _ x => x) fun _ _ x => x) hs
theorem tr_not {e : Expr} {p : Pos} {K : Bool → St → Prop} (h : Tr prog w G C e st fun b st₁ => K (!b) st₁) : Tr prog w G C (.UnaryOp .Not e p) st K := .mk fun ex s E R =>
  wpAny_isTrue_Not (wpAny_mono (h.run ex s E R) (fun b s₁ hq29 => by obtain ⟨st₁, R₁, h₁⟩ := hq29; exact ⟨st₁, R₁, h₁⟩) fun _ _ x => x)
inductive Truth (st : St) : AV → Bool → Prop
  | bool {b} : Truth st (.bool b) b
  | int {i} : Truth st (.int i) (i != 0)
  | none : Truth st .none false
  | list {a xs} : st.hp a = some (.list xs) → xs.length ≤ 1000 → Truth st (.ref a) (!xs.isEmpty)
theorem truthy_op (R : Real prog w G C ex st s) {v : Value} {a : AV} {b : Bool} (hv : vabs v = some a) (ht : Truth st a b) {Q : Bool → Shared → Prop} {E : Value → Shared → Prop} (h : ∀ t, Q b { s with toks := t }) : wpAny (model prog w) C.A (truthy v) Q E s := by
  cases ht with
  | bool => rw [vabs_bool hv]; exact wpAny_truthy_bool (h s.toks)
  | int => obtain ⟨t, rfl⟩ := vabs_int hv; exact truthy_int (h s.toks)
  | none => rw [vabs_none hv]; exact truthy_none (h s.toks)
  | @list a xs e hl =>
    rw [vabs_ref hv]
    obtain ⟨vs, hl', hab⟩ := R.list e
    have hz : vs.size = xs.length := by rw [← hab.length, Array.length_toList]
    refine wpAny_truthy_list hl' (by lia) ?_
    have : vs.isEmpty = xs.isEmpty := by rw [Array.isEmpty, hz]; cases xs <;> simp
    rw [this]; exact h _
theorem tr_val {e : Expr} {K : Bool → St → Prop} (h : Ev prog w G C e st fun v st₁ => ∃ b, Truth st₁ v b ∧ K b st₁) (he : ∀ whole, isTrue e C.env whole = (do let v ← whole; standAt e.pos; holding [v] (truthy v))) : Tr prog w G C e st K := .mk fun ex s E R =>
  wpAny_isTrue_value (wpAny_mono (h.run ex s E R) (fun v s₁ hq30 => by obtain ⟨a, st₁, hv, R₁, b, ht, h₁⟩ := hq30; exact truthy_op R₁ hv ht fun t => ⟨st₁, R₁.toks t, h₁⟩) fun _ _ x => x) (he _)
end
end Mine
end
section
open PySem PySem.W PySem.Calls PyProof.Rows
set_option Elab.async false
set_option linter.unusedVariables false
namespace Mine
variable {prog : Program} {w : World}
noncomputable def forL {α : Type} (bind : α → St → St) (P : St → Prop) (body : St → (AFlow → St → Prop) → Prop) : List α → St → (AFlow → St → Prop) → Prop
  | [], st, K => K .next st
  | x :: r, st, K => body (bind x st) fun f st' => match f with
    | .next => P st' ∧ forL bind P body r st' K
    | .cont => P st' ∧ forL bind P body r st' K
    | .brk => K .next st'
    | .ret v => K (.ret v) st'
section
variable {G : Gl} {C : Cx} {st : St} {ex : Addr → Option Obj} {s : Shared}
variable (prog w) in
structure Iter {α : Type} (G : Gl) (C : Cx) (target : Expr) (I : Addr) (xs : List α) (bind : α → St → St) (ob : Nat → Obj → Prop) (P : St → Prop) : Prop where
  data : ∀ i o r, ob i o → o.data ≠ .cell r
  step : ∀ i x ex st s (E : Value → Shared → Prop) (Q : Shared → Prop), xs[i]? = some x → P st → Real prog w G C ex st s → Off G C ex st I → (∃ o, s.heap.get? I = some o ∧ ob i o) →
    (∀ s', Real prog w G C ex (bind x st) s' → (∃ o, s'.heap.get? I = some o ∧ ob (i + 1) o) → Q s') →
    wpAny (model prog w) C.A (pyNext (.ref I)) (fun r s₁ => match r with
      | none => False
      | some v => wpAny (model prog w) C.A (letOwnedTupleGo target (.ref I) v) (fun _ s₂ => wpAny (model prog w) C.A (assign target C.env v) (fun _ s₃ => Q s₃) E s₂) E s₁) E s
  bhp : ∀ x st, (bind x st).hp = st.hp
  fin : ∀ ex st s (E : Value → Shared → Prop) (Q : Shared → Prop), P st → Real prog w G C ex st s → Off G C ex st I → (∃ o, s.heap.get? I = some o ∧ ob xs.length o) →
    (∀ s', Real prog w G C ex st s' → Q s') → wpAny (model prog w) C.A (pyNext (.ref I)) (fun r s₁ => r = none ∧ Q s₁) E s
theorem Off.hp_eq {b : Addr} {st' : St} (O : Off G C ex st b) (h : st'.hp = st.hp) : Off G C ex st' b := ⟨O.ex, O.loc, O.own, by rw [h]; exact O.hp, O.tab, O.fr⟩
theorem for_loop {α : Type} {target : Expr} {I : Addr} {xs : List α} {bind : α → St → St} {ob : Nat → Obj → Prop} {P : St → Prop} (W : Iter prog w G C target I xs bind ob P) {body : List Stmt} {K : AFlow → St → Prop} {R' : Result → Shared → Prop}
    (R : Real prog w G C ex st s) (O : Off G C ex st I) (hI : ∃ o, s.heap.get? I = some o ∧ ob 0 o) (hP : P st) (h : forL bind P (fun st K => Exs prog w G C body st K) xs st K)
    (hR : ∀ f s', (E2 fun af st' => A3 (fabs f = some af) (Real prog w G C ex st' s') (K af st')) → R' (.ok f) s') : codeAny (model prog w) C.A (.forLoop target (.ref I) body [] C.env) R' s := by
  refine codeAny_forLoop_any (fun n s => E2 fun i st => A7 (i ≤ xs.length) (n = xs.length - i) (Real prog w G C ex st s) (Off G C ex st I) (∃ o, s.heap.get? I = some o ∧ ob i o) (P st) (forL bind P (fun st K => Exs prog w G C body st K) (xs.drop i) st K)) ?_ xs.length
    ⟨0, st, Nat.zero_le _, rfl, R, O, hI, hP, by simpa using h⟩
  rintro n s ⟨i, st, hi, rfl, R, O, hI, hP, h⟩
  rcases Nat.lt_or_ge i xs.length with hlt | hge
  · have hx : xs[i]? = some xs[i] := List.getElem?_eq_getElem hlt
    rw [List.drop_eq_getElem_cons hlt] at h
    have h : Exs prog w G C body (bind xs[i] st) _ := h
    refine wpAny_mono (W.step i _ ex st s _ (fun s₃ => Real prog w G C ex (bind xs[i] st) s₃ ∧ ∃ o, s₃.heap.get? I = some o ∧ ob (i + 1) o) hx hP R O hI fun s' a b => ⟨a, b⟩) (fun r s₁ h₁ => ?_) fun _ _ x => x
    cases r with
    | none => exact h₁.elim
    | some v =>
      refine wpAny_mono h₁ (fun _ s₂ h₂ => wpAny_mono h₂ (fun _ s₃ h₃ => ?_) fun _ _ x => x) fun _ _ x => x
      obtain ⟨R₃, o, ho, hob⟩ := h₃
      have O₃ : Off G C ex (bind xs[i] st) I := O.hp_eq (W.bhp _ _)
      have RH := R₃.hold O₃ ho
      refine wpAny_mono (h.run _ s₃ _ RH) (fun f s₄ hq31 => ?_) fun _ _ x => x
      obtain ⟨af, st₄, hf, R₄, h₄⟩ := hq31
      obtain ⟨R₅, O₅, ho₅⟩ := R₄.drop O.ex R.base
      cases f with
      | next => cases hf; exact ⟨xs.length - (i + 1), Nat.sub_succ_lt_self _ _ ‹_›, i + 1, st₄, hlt, rfl, R₅, O₅, ⟨o, ho₅, hob⟩, h₄.1, h₄.2⟩
      | cont => cases hf; exact ⟨xs.length - (i + 1), Nat.sub_succ_lt_self _ _ ‹_›, i + 1, st₄, hlt, rfl, R₅, O₅, ⟨o, ho₅, hob⟩, h₄.1, h₄.2⟩
      | brk => cases hf; exact hR _ _ ⟨.next, st₄, rfl, R₅, h₄⟩
      | ret v =>
        obtain ⟨av, hv, rfl⟩ := Option.map_eq_some_iff.mp hf
        exact hR _ _ ⟨.ret av, st₄, hf, R₅, h₄⟩
  · have hd : xs.drop i = [] := List.drop_eq_nil_of_le hge
    rw [hd] at h
    have hil : i = xs.length := Nat.le_antisymm ‹_› ‹_›
    subst hil
    refine wpAny_mono (W.fin ex st s _ (fun s₁ => Real prog w G C ex st s₁) hP R O hI fun s' a => a) (fun r s₁ hq32 => ?_) fun _ _ x => x
    obtain ⟨e, R₁⟩ := hq32
    subst e
    exact wpAny_execs_nil (hR _ _ ⟨.next, st, rfl, R₁, h⟩)
theorem assign_name (ok : COk C) {i : Nat} {p : Pos} (hi : Sto C i) (R : Real prog w G C ex st s) {v : Value} {av : AV} (hv : vabs v = some av) {Q : Unit → Shared → Prop} {E : Value → Shared → Prop} (h : ∀ s', Real prog w G C ex (st.set i av) s' → (∀ b o, b ≠ C.env.locals → b ∉ C.own → s.heap.get? b = some o → s'.heap.get? b = some o) → Q () s') :
    wpAny (model prog w) C.A (assign (.Name (C.ns i) p) C.env v) Q E s := by
  exact wpAny_assign_Name (R.storeK ok hi hv h)
theorem none_of_size {h : Heap} : h.get? h.objs.size = none := by
  cases q : h.get? h.objs.size with
  | none => rfl
  | some o' => exact absurd (Heap.lt_size q) (Nat.lt_irrefl _)
theorem letGo_name {x : Str} {p : Pos} {it v : Value} : letOwnedTupleGo (.Name x p) it v = pure () := rfl
theorem iter_list (ok : COk C) {i : Nat} {p : Pos} (hi : Sto C i) {l I : Addr} {xs : List AV} :
    Iter prog w G C (.Name (C.ns i) p) I xs (fun x st => st.set i x) (fun n o => o.cls = .type "list_iterator" ∧ o.data = .fields #[.ref l, .int n 0]) (fun st => st.hp l = some (.list xs)) where
  data := fun i o r h => by rw [h.2]; rintro ⟨⟩
  bhp := fun _ _ => rfl
  step := fun n x ex st s E Q hx hP R O hq33 hQ => by
    obtain ⟨o, ho, hc, hd⟩ := hq33
    obtain ⟨vs, hl, hab⟩ := R.list hP
    obtain ⟨v, hv1, hv2⟩ := hab.get hx
    refine wpAny_pyNext_list_item ⟨o, ho, hc, hd⟩ hl (by rw [← Array.getElem?_toList]; exact hv1) fun h' hit hs => ?_
    dsimp only
    rw [letGo_name]
    refine wpAny_pure ?_
    have R' : Real prog w G C ex st { s with heap := h' } := R.scratch O (fun c o' q e => (hs.2 c q).trans e) (fun o' r e q => by rw [ho] at e; cases e; rw [hd] at q; cases q) R.gens rfl
    refine assign_name ok hi R' hv2 fun s' R'' hk => hQ s' R'' ?_
    obtain ⟨o', ho', hc', hd'⟩ := hit
    exact ⟨o', hk I o' O.loc O.own ho', hc', hd'⟩
  fin := fun ex st s E Q hP R O hq34 hQ => by
    obtain ⟨o, ho, hc, hd⟩ := hq34
    obtain ⟨vs, hl, hab⟩ := R.list hP
    refine wpAny_pyNext_list_end ok.hand ⟨o, ho, hc, hd⟩ hl (by rw [← Array.getElem?_toList, ← hab.length]; simp) fun h' hs => ⟨rfl, hQ _ ?_⟩
    exact R.scratch O (fun c o' q e => hs c o' q e) (fun o' r e q => by rw [ho] at e; cases e; rw [hd] at q; cases q) R.gens rfl
theorem iter_tup (ok : COk C) {i : Nat} {p : Pos} (hi : Sto C i) {l I : Addr} {xs : List AV} :
    Iter prog w G C (.Name (C.ns i) p) I xs (fun x st => st.set i x) (fun n o => o.cls = .type "tuple_iterator" ∧ o.data = .fields #[.ref l, .int n 0]) (fun st => st.hp l = some (.tup xs)) where
  data := fun i o r h => by rw [h.2]; rintro ⟨⟩
  bhp := fun _ _ => rfl
  step := fun n x ex st s E Q hx hP R O hq36 hQ => by
    obtain ⟨o, ho, hc, hd⟩ := hq36
    obtain ⟨vs, hl, hab⟩ := R.tuple hP
    obtain ⟨v, hv1, hv2⟩ := hab.get hx
    refine wpAny_pyNext_tuple_item ⟨o, ho, hc, hd⟩ hl (by rw [← Array.getElem?_toList]; exact hv1) fun h' hit hs => ?_
    dsimp only
    rw [letGo_name]
    refine wpAny_pure ?_
    have R' : Real prog w G C ex st { s with heap := h' } := R.scratch O (fun c o' q e => (hs.2 c q).trans e) (fun o' r e q => by rw [ho] at e; cases e; rw [hd] at q; cases q) R.gens rfl
    refine assign_name ok hi R' hv2 fun s' R'' hk => hQ s' R'' ?_
    obtain ⟨o', ho', hc', hd'⟩ := hit
    exact ⟨o', hk I o' O.loc O.own ho', hc', hd'⟩
  fin := fun ex st s E Q hP R O hq37 hQ => by
    obtain ⟨o, ho, hc, hd⟩ := hq37
    obtain ⟨vs, hl, hab⟩ := R.tuple hP
    refine wpAny_pyNext_tuple_end ok.hand ⟨o, ho, hc, hd⟩ hl (by rw [← Array.getElem?_toList, ← hab.length]; simp) fun h' hs => ⟨rfl, hQ _ ?_⟩
    exact R.scratch O (fun c o' q e => hs c o' q e) (fun o' r e q => by rw [ho] at e; cases e; rw [hd] at q; cases q) R.gens rfl
noncomputable def rng (a : Int) : Nat → List Int
  | 0 => []
  | n + 1 => a :: rng (a + 1) n
theorem rng_length : ∀ (a : Int) (n : Nat), (rng a n).length = n := by
  intro a n
  induction n generalizing a with
  | zero => rfl
  | succ n ih => exact congrArg (· + 1) (ih (a + 1))
theorem rng_get : ∀ (a : Int) (n i : Nat), i < n → (rng a n)[i]? = some (a + i) := by
  intro a n
  induction n generalizing a with
  | zero => exact fun i h => absurd h (Nat.not_lt_zero _)
  | succ n ih =>
    intro i h
    cases i with
    | zero => exact congrArg some (Int.add_zero a).symm
    | succ i => exact (ih (a + 1) i (Nat.lt_of_succ_lt_succ h)).trans (congrArg some (by lia))
theorem iter_range (ok : COk C) {i : Nat} {p : Pos} (hi : Sto C i) {I : Addr} {a : Int} {n : Nat} :
    Iter prog w G C (.Name (C.ns i) p) I (rng a n) (fun x st => st.set i (.int x)) (fun k o => o = { cls := .type "range_iterator", dict := none, data := .fields #[rawInt (a + k), rawInt ((n : Int) - k), rawInt 1], slots := #[] }) (fun _ => True) where
  data := fun i o r h => by rw [h]; rintro ⟨⟩
  bhp := fun _ _ => rfl
  step := fun k x ex st s E Q hx hP R O hq39 hQ => by
    obtain ⟨o, ho, hd⟩ := hq39
    have hk : k < n := by have := (List.getElem?_eq_some_iff.mp hx).1; rwa [rng_length] at this
    rw [rng_get a n k hk] at hx; cases hx
    subst hd
    refine wpAny_pyNext_range_item ho (by lia) fun h' hit hs => ?_
    dsimp only
    rw [letGo_name]
    refine wpAny_pure ?_
    have R' : Real prog w G C ex st { s with heap := h', toks := s.toks + 1 } := R.scratch O (fun c o' q e => (hs.2 c q).trans e) (fun o' r e q => by rw [ho] at e; cases e; cases q) R.gens rfl
    refine assign_name ok hi R' (av := .int (a + k)) rfl fun s' R'' hk => hQ s' R'' ?_
    exact ⟨_, hk I _ O.loc O.own hit, by rw [show (a + ((k + 1 : Nat) : Int)) = a + k + 1 by lia, show ((n : Int) - ((k + 1 : Nat) : Int)) = (n : Int) - k - 1 by lia]⟩
  fin := fun ex st s E Q hP R O hq40 hQ => by
    obtain ⟨o, ho, hd⟩ := hq40
    subst hd
    refine wpAny_pyNext_range_end ok.hand ho (by rw [rng_length]; lia) fun h' hs => ⟨rfl, hQ _ ?_⟩
    exact R.scratch O (fun c o' q e => hs c o' q e) (fun o' r e q => by rw [ho] at e; cases e; cases q) R.gens rfl
theorem rng_size {a b : Int} : Builtin.Range.rangeSize a b 1 = ((b - a).toNat : Int) := by
  unfold Builtin.Range.rangeSize
  rw [if_pos (by decide)]
  by_cases h : a < b
  · rw [if_pos h, Int.ediv_one, Int.sub_add_cancel, Int.toNat_of_nonneg (Int.sub_nonneg_of_le (Int.le_of_lt h))]
  · rw [if_neg h, Int.toNat_of_nonpos (Int.sub_nonpos_of_le (Int.not_lt.mp h))]; rfl
end
end Mine
end
section
open PySem PySem.W PySem.Calls PyProof.Rows
set_option Elab.async false
set_option linter.unusedVariables false
namespace Mine
variable {prog : Program} {w : World}
section
variable {G : Gl} {C : Cx} {st : St} {ex : Addr → Option Obj} {s : Shared}
theorem Real.bot (R : Real prog w G C ex st s) : ∀ b o, G.B b = some o → s.heap.get? b = some o := fun b o e => R.keep b o (R.base b o e)
theorem Real.kin (gk : GOk G) (R : Real prog w G C ex st s) : G.K.In s.heap := fun a o e => R.bot a o (gk.frag a o e)
theorem name_glob (gk : GOk G) (ok : COk C) (R : Real prog w G C ex st s) {x : Str} {p : Pos} {v : Value} {Q : Value → Shared → Prop} {E : Value → Shared → Prop} (hk : C.env.kindOf x = some .globalImplicit) (hd : (x == ("__debug__" : Str)) = false) (hv : nsIn G.K mainGlobals x = some (some v)) (h : Q v s) :
    wpAny (model prog w) C.A (eval (.Name x p) C.env) Q E s :=
  Name_function_global ok.kind hk (loadGlobal_global (by rw [ok.glob]; exact gk.gns _ R.bot) (gk.gl x _ hv) h) hd
theorem name_bi (gk : GOk G) (ok : COk C) (R : Real prog w G C ex st s) {x : Str} {p : Pos} {v : Value} {Q : Value → Shared → Prop} {E : Value → Shared → Prop} (hk : C.env.kindOf x = some .globalImplicit) (hd : (x == ("__debug__" : Str)) = false) (hn : x ≠ "__name__") (hm : nsIn G.K mainGlobals x = some none) (hv : bootBuiltins x = some v) (h : Q v s) :
    wpAny (model prog w) C.A (eval (.Name x p) C.env) Q E s :=
  Name_function_global ok.kind hk (loadGlobal_builtin (by rw [ok.glob]; exact gk.gns _ R.bot) (gk.gl x _ hm) (by rw [ok.blt]; exact gk.bns _ R.bot) ((gk.bi x hn).trans hv) h) hd
noncomputable def plainE (e : Expr) : Bool := !(e.ctorIdx == 22)
theorem star_plain {e : Expr} {es : List Expr} (h : plainE e = true) (env : Env) : starEach (e :: es) env = (false, eval e env) :: starEach es env := by
  cases e <;> first | rfl | cases h
theorem plain_any {es : List Expr} (h : es.all plainE = true) (pos : Pos) (env : Env) : (backTo pos (starEach es env)).any (·.1) = false := by
  induction es with
  | nil => rfl
  | cons e r ih =>
    simp only [List.all_cons, Bool.and_eq_true] at h
    rw [star_plain h.1]
    simp only [backTo, List.map_cons, List.any_cons, Bool.false_or]
    exact ih h.2
theorem args_plain {M : Model} {A : Around} {env : Env} {f : Value} {es : List Expr} {pos : Pos} {Q : Args → Shared → Prop} {E : Value → Shared → Prop} {s : Shared} (hp : es.all plainE = true) (h : wpAny M A (spliced (backTo pos (starEach es env))) (fun vs s' => Q ⟨vs, []⟩ s') E s) : wpAny M A (evalArgs f true (backTo pos (starEach es env)) []) Q E s := by
  cases es with
  | nil =>
    intro Γ p hΓ
    have e : ∀ Q', Q' ⟨[], []⟩ s → wpAny M A (evalArgs f true (backTo pos (starEach [] env)) []) Q' E s := fun Q' q => PySem.evalArgs_none q
    exact e Q (h Γ p hΓ) Γ p hΓ
  | cons e r =>
    simp only [List.all_cons, Bool.and_eq_true] at hp
    rw [star_plain hp.1] at h ⊢
    exact evalArgs_plain h
theorem call_ty (gk : GOk G) (ok : COk C) {x : Str} {T : String} {np p : Pos} {es : List Expr} {K : AV → St → Prop} (hk : C.env.kindOf x = some .globalImplicit) (hd : (x == ("__debug__" : Str)) = false) (hn : x ≠ "__name__") (hm : nsIn G.K mainGlobals x = some none) (hv : bootBuiltins x = some (.type T)) (hp : es.all plainE = true)
    (h : Es prog w G C es st fun xs st₁ => ∀ vs, Absl vs xs → Op prog w G C (call (.type T) vs) st₁ K) : Ev prog w G C (.Call (.Name x np) es [] p) st K := .mk fun ex s E R =>
  wpAny_Call_NameR (name_bi gk ok R hk hd hn hm hv (PySem.callWith_type (plain_any hp _ _) (args_plain hp (wpAny_mono (h.run p ex s E R) (fun vs s₁ hq41 => by obtain ⟨xs, st₁, hx, R₁, h₁⟩ := hq41; exact (h₁ vs hx).run ex s₁ E R₁) fun _ _ x => x))))
theorem call_bi (gk : GOk G) (ok : COk C) {x : Str} {id : String} {np p : Pos} {es : List Expr} {K : AV → St → Prop} (hk : C.env.kindOf x = some .globalImplicit) (hd : (x == ("__debug__" : Str)) = false) (hn : x ≠ "__name__") (hm : nsIn G.K mainGlobals x = some none) (hv : bootBuiltins x = some (.builtin id)) (hp : es.all plainE = true)
    (h : Es prog w G C es st fun xs st₁ => ∀ vs, Absl vs xs → Op prog w G C (call (.builtin id) vs) st₁ K) : Ev prog w G C (.Call (.Name x np) es [] p) st K := .mk fun ex s E R =>
  wpAny_Call_NameR (name_bi gk ok R hk hd hn hm hv (callWith_builtin (plain_any hp _ _) (args_plain hp (wpAny_mono (h.run p ex s E R) (fun vs s₁ hq42 => by obtain ⟨xs, st₁, hx, R₁, h₁⟩ := hq42; exact (h₁ vs hx).run ex s₁ E R₁) fun _ _ x => x))))
abbrev Hp0 := Addr → Option AObj
noncomputable def FrOk (C : Cx) : Prop := ∃ l, C.A.frames = some l ∧ ∀ env ∈ l, env.scope.kind ≠ .module ∧ ∃ L, env.frame = some L ∧ (L = C.env.locals ∨ ∃ m, (L, m) ∈ C.fr)
noncomputable def FrTop (C : Cx) : Prop := A3 (C.env.frame = some C.env.locals) (C.env.scope.kind ≠ .module) (∃ outer, C.A.frames = some (C.env :: outer) ∧ ∀ env ∈ outer, env.scope.kind ≠ .module ∧ E2 fun L m => env.frame = some L ∧ (L, m) ∈ C.fr)
noncomputable def Room (n : Nat) (C : Cx) : Prop := A3 (C.A.depth + n < recursionLimit) (C.A.units + 20 * n < cLine) (FrOk C)
noncomputable def endsIn (Q : Value → Shared → Prop) (E : Value → Shared → Prop) (r : Result) (s' : Shared) : Prop := match r with
  | .ok (.ret v) => Q v s'
  | .ok _ => False
  | .error e => E e s'
variable (prog w) in
structure FnC (G : Gl) (n : Nat) (f : Addr) (xs : List AV) (hp : Addr → Option AObj) (K : AV → (Addr → Option AObj) → Prop) : Prop where
  run : ∀ C ex s E st vs, COk C → Room n C → st.hp = hp → Real prog w G C ex st s → Absl vs xs →
    codeAny (model prog w) C.A (.call (.ref f) ⟨vs, []⟩) (endsIn (fun v s' => E2 fun av hp' => A3 (vabs v = some av) (Real prog w G C ex { st with hp := hp' } s') (K av hp')) E) s
theorem FnC.mono {n : Nat} {f : Addr} {xs : List AV} {hp : Addr → Option AObj} {K K' : AV → (Addr → Option AObj) → Prop} (h : FnC prog w G n f xs hp K) (hk : ∀ v hp, K v hp → K' v hp) : FnC prog w G n f xs hp K' :=
  .mk fun C ex s E st vs a b c d e => codeAny_mono (h.run C ex s E st vs a b c d e) fun r s' z => by
    cases r with
    | error x => exact z
    | ok fl =>
      cases fl with
      | ret v => obtain ⟨av, hp', x, y, u⟩ := z; exact ⟨av, hp', x, y, hk _ _ u⟩
      | _ => exact z.elim
theorem FnC.call {n : Nat} {f : Addr} {xs : List AV} {K : AV → (Addr → Option AObj) → Prop} (h : FnC prog w G n f xs st.hp K) (ok : COk C) (rm : Room n C) (R : Real prog w G C ex st s) {vs : List Value} (hv : Absl vs xs) {E : Value → Shared → Prop} :
    wpAny (model prog w) C.A (call (.ref f) vs) (fun v s' => E2 fun av hp' => A3 (vabs v = some av) (Real prog w G C ex { st with hp := hp' } s') (K av hp')) E s := wpAny_call (h.run C ex s E st vs ok rm rfl R hv)
noncomputable def fnB (K : Frag) (f : Addr) : Bool := (K.lookup f).elim false fun o => o.data.ctorIdx == 7
theorem fnB_at {K : Frag} {f : Addr} (h : fnB K f = true) : E4 fun oc od fd osl => K.lookup f = some ⟨oc, od, .func fd, osl⟩ := by
  unfold fnB at h
  cases q : K.lookup f with
  | none => rw [q] at h; cases h
  | some o =>
    rw [q] at h
    obtain ⟨oc, od, dt, osl⟩ := o
    exact Data.func.elim (motive := fun d => E4 fun oc' od' fd osl' => some (⟨oc, od, d, osl⟩ : Obj) = some ⟨oc', od', .func fd, osl'⟩) dt (eq_of_beq h) fun fd => ⟨_, _, _, _, rfl⟩
theorem nsK {K H : Frag} {g : Addr} {x : Str} {r : Option (Option Value)} (h : K = H) (e : nsIn H g x = r) : nsIn K g x = r := h ▸ e
theorem lkK {K H : Frag} {a : Addr} {r : Option Obj} (h : K = H) (e : H.lookup a = r) : K.lookup a = r := h ▸ e
theorem fbK {K H : Frag} {a : Addr} (h : K = H) (e : fnB H a = true) : fnB K a = true := h ▸ e
theorem cdK {K H : Frag} {v : Value} {q : Str} (h : K = H) (e : codeIn H v q = true) : codeIn K v q = true := h ▸ e
theorem p1K {α β : Type} {F : Frag → α → β} {K H : Frag} {a : α} {v : β} (h : K = H) (e : F H a = v) : F K a = v := h ▸ e
theorem p2K {α α' β : Type} {F : Frag → α → α' → β} {K H : Frag} {a : α} {a' : α'} {v : β} (h : K = H) (e : F H a a' = v) : F K a a' = v := h ▸ e
theorem p3K {α α' α'' β : Type} {F : Frag → α → α' → α'' → β} {K H : Frag} {a : α} {a' : α'} {a'' : α''} {v : β} (h : K = H) (e : F H a a' a'' = v) : F K a a' a'' = v := h ▸ e
theorem p4K {α α' α'' α₃ β : Type} {F : Frag → α → α' → α'' → α₃ → β} {K H : Frag} {a : α} {a' : α'} {a'' : α''} {a₃ : α₃} {v : β} (h : K = H) (e : F H a a' a'' a₃ = v) : F K a a' a'' a₃ = v := h ▸ e
theorem call_def (gk : GOk G) (ok : COk C) {n : Nat} (rm : Room n C) {x : Str} {f : Addr} {oc : Value} {od : Option Addr} {fd : FuncData} {osl : Array (Option Value)} {np p : Pos} {es : List Expr} {K : AV → St → Prop} (hk : C.env.kindOf x = some .globalImplicit) (hd : (x == ("__debug__" : Str)) = false) (hm : nsIn G.K mainGlobals x = some (some (.ref f)))
    (hf : G.K.lookup f = some ⟨oc, od, .func fd, osl⟩) (hp : es.all plainE = true)
    (h : Es prog w G C es st fun xs st₁ => FnC prog w G n f xs st₁.hp fun v hp' => K v { st₁ with hp := hp' }) : Ev prog w G C (.Call (.Name x np) es [] p) st K := .mk fun ex s E R =>
  wpAny_Call_NameR (name_glob gk ok R hk hd hm (callWith_function (o := ⟨oc, od, .func fd, osl⟩) (fd := fd) (args_plain hp (wpAny_mono (h.run p ex s E R) (fun vs s₁ hq43 => by obtain ⟨xs, st₁, hx, R₁, h₁⟩ := hq43; exact
    ⟨⟨R₁.kin gk _ _ hf, rfl⟩, wpAny_mono (FnC.call h₁ ok rm R₁ hx) (fun v s₂ hq44 => by obtain ⟨av, hp', a, b, c⟩ := hq44; exact ⟨av, _, a, b, c⟩) fun _ _ x => x⟩) fun _ _ x => x))))
open Classical in
noncomputable def allBut (G : Gl) (fr : List (Addr × (Str → Option Value))) (st : St) (s : Shared) : Addr → Option Obj := fun b => if (st.hp b).isSome ∨ b = G.tabP ∨ (∃ m, (b, m) ∈ fr) then none else s.heap.get? b
theorem allBut_get {fr : List (Addr × (Str → Option Value))} {b : Addr} {o : Obj} (h1 : st.hp b = none) (h2 : b ≠ G.tabP) (h3 : ∀ m, (b, m) ∉ fr) (e : s.heap.get? b = some o) : allBut G fr st s b = some o := by
  unfold allBut
  rw [if_neg]
  · exact e
  · rintro (q | q | ⟨m, q⟩)
    · rw [h1] at q; cases q
    · exact h2 q
    · exact h3 m q
theorem allBut_fr {fr : List (Addr × (Str → Option Value))} {p : Addr × (Str → Option Value)} (h : p ∈ fr) : allBut G fr st s p.1 = none := by
  unfold allBut; rw [if_pos (.inr (.inr ⟨p.2, h⟩))]
theorem allBut_of (R : Real prog w G C ex st s) {b : Addr} {o : Obj} (e : ex b = some o) : allBut G C.fr st s b = some o := by
  refine allBut_get ?_ (fun q => ?_) (fun m q => ?_) (R.keep b o e)
  · cases z : st.hp b with
    | none => rfl
    | some A => have := (R.hp _ _ z).1; rw [e] at this; cases this
  · have := R.tab.1; rw [← q, e] at this; cases this
  · have := (R.frs _ q).1; rw [e] at this; cases this
theorem allBut_ofL (R : Real prog w G C ex st s) (m : Str → Option Value) {b : Addr} {o : Obj} (e : ex b = some o) : allBut G ((C.env.locals, m) :: C.fr) st s b = some o := by
  refine allBut_get ?_ (fun q => ?_) (fun m q => ?_) (R.keep b o e)
  · cases z : st.hp b with
    | none => rfl
    | some A => have := (R.hp _ _ z).1; rw [e] at this; cases this
  · have := R.tab.1; rw [← q, e] at this; cases this
  · rcases List.mem_cons.mp q with q | q
    · have := R.exL; rw [← (Prod.mk.inj q).1, e] at this; cases this
    · have := (R.frs _ q).1; rw [e] at this; cases this
theorem Real.cell_off (R : Real prog w G C ex st s) {c : Addr} {o : Obj} {r : Option Value} (ho : s.heap.get? c = some o) (hr : o.data = .cell r) : A4 (st.hp c = none) (c ≠ G.tabP) (c ≠ C.env.locals) (∀ m, (c, m) ∉ C.fr) := by
  refine ⟨?_, fun q => ?_, fun q => ?_, fun m q => R.frC q ho hr rfl⟩
  · cases e : st.hp c with
    | none => rfl
    | some A =>
      obtain ⟨_, _, o', ho', hA⟩ := R.hp _ _ e
      rw [ho] at ho'; cases ho'; exact absurd hr (AObj.is_cell hA r)
  · obtain ⟨_, more, ht⟩ := R.tab
    rw [← q, ho] at ht; cases ht; cases hr
  · obtain ⟨o', ho', es, ep, hd'⟩ := R.live
    rw [← q, ho] at ho'; cases ho'; rw [hr] at hd'; cases hd'
theorem allBut_cell (R : Real prog w G C ex st s) (m : Str → Option Value) {c : Addr} {o : Obj} {r : Option Value} (ho : s.heap.get? c = some o) (hr : o.data = .cell r) : allBut G ((C.env.locals, m) :: C.fr) st s c = some o := by
  obtain ⟨h1, h2, h3, h4⟩ := R.cell_off ho hr
  exact allBut_get h1 h2 (fun m q => (List.mem_cons.mp q).elim (fun q => h3 (Prod.mk.inj q).1) (h4 m)) ho
noncomputable def Cov (G : Gl) (C : Cx) (ex : Addr → Option Obj) (st : St) (h B : Heap) : Prop :=
  ∀ b o, h.get? b = some o → (ex b ≠ none ∨ st.hp b ≠ none ∨ b = G.tabP ∨ b ∈ C.own ∨ ∃ x, C.env.cells.lookup x = some b) → B.get? b = some o
theorem Real.slots (R : Real prog w G C ex st s) {B h' : Heap} {t : Nat} (cv : Cov G C ex st s.heap B) (hs : B.StaysIn h') (hu : s.heap.UpToSlots h') : Real prog w G C ex st { s with heap := h', toks := t } where
  ns := by obtain ⟨m, hn, hl⟩ := R.ns; exact ⟨m, hu.ns hn, fun i av e => by obtain ⟨a, v, b', y⟩ := hl i av e; exact ⟨a, v, b', by
    rcases y with y | ⟨k, c, hc, o, ho, hd⟩
    · exact .inl y
    · exact .inr ⟨k, c, hc, o, hs _ _ (cv c o ho (.inr (.inr (.inr (.inr ⟨_, hc⟩))))), hd⟩⟩⟩
  keep := fun b o e => hs b o (cv b o (R.keep b o e) (.inl (by rw [e]; rintro ⟨⟩)))
  base := R.base
  exL := R.exL
  exC := fun c hc => by obtain ⟨a, r, o, b, d⟩ := R.exC c hc; exact ⟨a, r, o, hs _ _ (cv c o b (.inr (.inr (.inr (.inl hc))))), d⟩
  hp := fun a A e => by obtain ⟨x, y, o, z, u⟩ := R.hp a A e; exact ⟨x, y, o, hs _ _ (cv a o z (.inr (.inl (by rw [e]; rintro ⟨⟩)))), u⟩
  tab := by obtain ⟨a, more, b⟩ := R.tab; exact ⟨a, more, hs _ _ (cv _ _ b (.inr (.inr (.inl rfl))))⟩
  gens := R.gens
  os := R.os
  cells := fun x c h => by obtain ⟨r, o, b, d⟩ := R.cells x c h; exact ⟨r, o, hs _ _ (cv c o b (.inr (.inr (.inr (.inr ⟨x, h⟩))))), d⟩
  frs := fun p hp => by obtain ⟨a, b, c, d⟩ := R.frs p hp; exact ⟨a, b, c, hu.ns d⟩
theorem Cov.on (R : Real prog w G C ex st s) {B h' : Heap} (cv : Cov G C ex st s.heap B) (hs : B.StaysIn h') : Cov G C ex st h' B := fun b o e hx => by
  have fin : ∀ o', s.heap.get? b = some o' → B.get? b = some o := fun o' z => by
    have h1 := cv b o' z hx
    have h2 := hs b o' h1
    rw [e] at h2; cases h2; exact h1
  rcases hx with h | h | h | h | ⟨x, h⟩
  · cases q : ex b with
    | none => exact absurd q h
    | some o' => exact fin o' (R.keep b o' q)
  · cases q : st.hp b with
    | none => exact absurd q h
    | some A => obtain ⟨_, _, o', z, _⟩ := R.hp b A q; exact fin o' z
  · obtain ⟨_, more, z⟩ := R.tab; subst h; exact fin _ z
  · obtain ⟨_, r, o', z, _⟩ := R.exC b h; exact fin o' z
  · obtain ⟨r, o', z, _⟩ := R.cells x b h; exact fin o' z
noncomputable def Thr (G : Gl) (C : Cx) (ex : Addr → Option Obj) (st : St) (e : Addr) (cls : Value) (vs : List Value) (h : Heap) : Prop :=
  E3 fun l B t => A5 (C.A.frames = some l) (Cov G C ex st h B) (Heap.FlyingW B l e cls (.ref t) h) (B.get? t = none) (h.TupAt t vs)
theorem frames_of (R : Real prog w G C ex st s) (ft : FrTop C) : E2 fun outer as => A4 (C.A.frames = some (C.env :: outer)) (∀ a, a ∈ as ↔ ∃ env ∈ C.env :: outer, env.frame = some a) (s.heap.FunFrames (hideAll s.heap as) (C.env :: outer)) (Cov G C ex st s.heap (hideAll s.heap as)) := by
  obtain ⟨h1, h2, outer, h3, h4⟩ := ft
  have hm : ∀ a, a ∈ (C.env :: outer).filterMap (·.frame) ↔ ∃ env ∈ C.env :: outer, env.frame = some a := fun a => List.mem_filterMap
  have dat : ∀ env ∈ C.env :: outer, env.scope.kind ≠ .module ∧ E2 fun L o => A4 (env.frame = some L) (s.heap.get? L = some o) (E2 fun es ep => o.data = .dict es ep) (L = C.env.locals ∨ ∃ m, (L, m) ∈ C.fr) := fun env he => by
    rcases List.mem_cons.mp he with rfl | he
    · obtain ⟨o, ho, es, ep, hd⟩ := R.live
      exact ⟨h2, _, o, h1, ho, ⟨es, ep, hd⟩, .inl rfl⟩
    · obtain ⟨k, L, m, hf, hL⟩ := h4 env he
      obtain ⟨_, _, _, o, es, ep, ho, hd, _⟩ := R.frs _ hL
      exact ⟨k, L, o, hf, ho, ⟨es, ep, hd⟩, .inr ⟨m, hL⟩⟩
  refine ⟨outer, _, h3, hm, ?_, fun b o e hx => hideAll_get _ e fun hb => ?_⟩
  · have key : ∀ l, (∀ env ∈ l, env ∈ C.env :: outer) → s.heap.FunFrames (hideAll s.heap ((C.env :: outer).filterMap (·.frame))) l := by
      intro l
      induction l with
      | nil => intro _; trivial
      | cons env r ih =>
        intro hl
        obtain ⟨k, L, o, hf, ho, ⟨es, ep, hd⟩, _⟩ := dat env (hl env (.head _))
        exact ⟨k, ⟨L, o, hf, hideAll_none _ ((hm L).mpr ⟨env, hl env (.head _), hf⟩), ho, fun vs q => by rw [hd] at q; cases q⟩, ih fun e he => hl e (.tail _ he)⟩
    exact key _ fun _ h => h
  · obtain ⟨env, he, hf⟩ := (hm b).mp hb
    obtain ⟨_, L, o', hf', ho', ⟨es, ep, hd⟩, hL⟩ := dat env he
    rw [hf] at hf'
    obtain rfl : b = L := Option.some.inj hf'
    rw [e] at ho'; cases ho'
    rcases hx with h | h | h | h | ⟨x, h⟩
    · rcases hL with rfl | ⟨m, hL⟩
      · exact h R.exL
      · exact h (R.frs _ hL).1
    · rcases hL with rfl | ⟨m, hL⟩
      · exact h R.locH
      · exact h (R.frs _ hL).3
    · rcases hL with rfl | ⟨m, hL⟩
      · exact R.tabL h.symm
      · exact R.frT hL h
    · obtain ⟨_, r, o2, ho2, hd2⟩ := R.exC b h
      rw [e] at ho2; cases ho2; rw [hd] at hd2; cases hd2
    · obtain ⟨r, o2, ho2, hd2⟩ := R.cells x b h
      rw [e] at ho2; cases ho2; rw [hd] at hd2; cases hd2
structure FnNames (ns : List Str) (scope : Scope) : Prop where
  nodup : ns.Nodup
  dbg : ∀ x ∈ ns, (x == ("__debug__" : Str)) = false ∧ (x == ("__classdict__" : Str)) = false
noncomputable def nsF (ns : List Str) (i : Nat) : Str := ns.getD i Str.empty
theorem bindL_get {kindOf : Str → Option NameKind} : ∀ {bs : List (Str × Value)} {m : Str → Option Value} {i : Nat} {x : Str} {v : Value}, (bs.map (·.1)).Nodup → bs[i]? = some (x, v) → kindOf x = some .local → bindL kindOf bs m x = some v := by
  intro bs
  induction bs with
  | nil => intro _ _ _ _ _ h; simp at h
  | cons q0 r ih =>
    intro m i x v hn h hk
    simp only [List.map_cons, List.nodup_cons] at hn
    unfold bindL
    cases i with
    | succ i => exact ih hn.2 (by simpa using h) hk
    | zero =>
    cases Option.some.inj h
    rw [if_pos hk]
    have skip : ∀ (bs : List (Str × Value)) (m : Str → Option Value), x ∉ bs.map (·.1) → bindL kindOf bs m x = m x := by
      intro bs
      induction bs with
      | nil => intro m _; rfl
      | cons p t ih =>
        intro m hm
        simp only [List.map_cons, List.mem_cons, not_or] at hm
        unfold bindL
        rw [ih _ hm.2]
        split
        · simp [hm.1]
        · rfl
    rw [skip _ _ hn.1]; simp
theorem bindC_get {kindOf : Str → Option NameKind} : ∀ {bs : List (Str × Value)} {m : Str → Option Value} {i : Nat} {x : Str} {v : Value}, (bs.map (·.1)).Nodup → bs[i]? = some (x, v) → kindOf x ≠ some .local → bindC kindOf bs m x = some v := by
  intro bs
  induction bs with
  | nil => intro _ _ _ _ _ h; simp at h
  | cons q0 r ih =>
    intro m i x v hn h hk
    simp only [List.map_cons, List.nodup_cons] at hn
    unfold bindC
    cases i with
    | succ i => exact ih hn.2 (by simpa using h) hk
    | zero =>
    cases Option.some.inj h
    rw [if_neg hk]
    have skip : ∀ (bs : List (Str × Value)) (m : Str → Option Value), x ∉ bs.map (·.1) → bindC kindOf bs m x = m x := by
      intro bs
      induction bs with
      | nil => intro m _; rfl
      | cons p t ih =>
        intro m hm
        simp only [List.map_cons, List.mem_cons, not_or] at hm
        unfold bindC
        rw [ih _ hm.2]
        split
        · rfl
        · simp [hm.1]
    rw [skip _ _ hn.1]; simp
theorem lookup_inj {cs : List (Str × Addr)} (ap : cs.Pairwise fun x y => x.2 ≠ y.2) {x y : Str} {c : Addr} (hx : cs.lookup x = some c) (hy : cs.lookup y = some c) : x = y := by
  induction cs with
  | nil => cases hx
  | cons p r ih =>
    obtain ⟨n, a⟩ := p
    rw [List.pairwise_cons] at ap
    simp only [List.lookup_cons] at hx hy
    cases q1 : x == n <;> cases q2 : y == n <;> simp only [q1, q2] at hx hy
    · exact ih ap.2 hx hy
    · have hy' : a = c := Option.some.inj hy
      exact absurd hy' (ap.1 (x, c) (mem_of_lookup hx))
    · have hx' : a = c := Option.some.inj hx
      exact absurd hx' (ap.1 (y, c) (mem_of_lookup hy))
    · rw [eq_of_beq q1, eq_of_beq q2]
theorem Real.back {C' : Cx} {st' : St} {s' : Shared} {m : Str → Option Value} (R : Real prog w G C ex st s) (hn : s.heap.Ns C.env.locals m) (hl : ∀ i av, st.loc i = some av → i < C.N ∧ ∃ v, vabs v = some av ∧ VarIs C.env m s.heap (C.ns i) v) (hfr : C'.fr = (C.env.locals, m) :: C.fr) (R' : Real prog w G C' (allBut G ((C.env.locals, m) :: C.fr) st s) st' s') : Real prog w G C ex { st with hp := st'.hp } s' := by
  have kpc : ∀ c o r, s.heap.get? c = some o → o.data = .cell r → s'.heap.get? c = some o := fun c o r ho hr => R'.keep c o (allBut_cell R m ho hr)
  have fL := R'.frs (C.env.locals, m) (by rw [hfr]; exact .head _)
  refine ⟨⟨m, fL.4, fun i av e => ?_⟩, fun b o e => R'.keep b o (allBut_ofL R m e), R.base, R.exL, fun c hc => ?_, fun a A e => ?_, ⟨R.tab.1, R'.tab.2⟩, R'.gens, R'.os, fun x c h => by obtain ⟨r, o, ho, hd⟩ := R.cells x c h; exact ⟨r, o, kpc c o r ho hd, hd⟩, fun p hp => ?_⟩
  · obtain ⟨a1, v, a2, a3⟩ := hl i av e
    exact ⟨a1, v, a2, a3.mono fun c o e hq45 => by obtain ⟨r, hr⟩ := hq45; exact kpc c o r e hr⟩
  · obtain ⟨a1, r, o, ho, hd⟩ := R.exC c hc
    exact ⟨a1, r, o, kpc c o r ho hd, hd⟩
  · obtain ⟨a1, a2, o, ho, hA⟩ := R'.hp a A e
    refine ⟨?_, fun q => ?_, o, ho, hA⟩
    · cases q : ex a with
      | none => rfl
      | some o' => rw [allBut_ofL R m q] at a1; cases a1
    · have h3 : st'.hp C.env.locals = none := fL.3
      have e' : st'.hp a = some A := e
      rw [q, h3] at e'; cases e'
  · obtain ⟨a1, a2, a3, a4⟩ := R.frs p hp
    obtain ⟨b1, b2, b3, b4⟩ := R'.frs p (by rw [hfr]; exact .tail _ hp)
    exact ⟨a1, a2, b3, b4⟩
theorem Cov.back {C' : Cx} {st' : St} {s' : Shared} {B : Heap} {m : Str → Option Value} (R : Real prog w G C ex st s) (R' : Real prog w G C' (allBut G ((C.env.locals, m) :: C.fr) st s) st' s') (cv : Cov G C' (allBut G ((C.env.locals, m) :: C.fr) st s) st' s'.heap B) : Cov G C ex { st with hp := st'.hp } s'.heap B := fun b o e hx => by
  refine cv b o e ?_
  rcases hx with h | h | h | h | ⟨x, h⟩
  · cases q : ex b with
    | none => exact absurd q h
    | some o' => exact .inl (by rw [allBut_ofL R m q]; rintro ⟨⟩)
  · exact .inr (.inl h)
  · exact .inr (.inr (.inl h))
  · obtain ⟨_, r, o', ho, hd⟩ := R.exC b h
    exact .inl (by rw [allBut_cell R m ho hd]; rintro ⟨⟩)
  · obtain ⟨r, o', ho, hd⟩ := R.cells x b h
    exact .inl (by rw [allBut_cell R m ho hd]; rintro ⟨⟩)
variable (prog w) in
structure ExsE (G : Gl) (C : Cx) (ts : List Stmt) (st : St) (K : AFlow → St → Prop) (KE : Value → List AV → Hp0 → Prop) : Prop where
  run : ∀ ex s, Real prog w G C ex st s → wpAny (model prog w) C.A (execs ts C.env) (fun f s' => E2 fun af st' => A3 (fabs f = some af) (Real prog w G C ex st' s') (K af st'))
    (fun e s' => E6 fun st' h0 ea cls vs xs => A5 (e = .ref ea) (Real prog w G C ex st' { s' with heap := h0 }) (Heap.MadeExcOf h0 s'.heap ea cls vs) (Absl vs xs) (KE cls xs st'.hp)) s
variable (prog w) in
structure FnE (G : Gl) (n : Nat) (f : Addr) (xs : List AV) (hp : Hp0) (K : AV → Hp0 → Prop) (KE : Value → List AV → Hp0 → Prop) : Prop where
  run : ∀ C ex s st vs, COk C → Room n C → st.hp = hp → Real prog w G C ex st s → Absl vs xs →
    codeAny (model prog w) C.A (.call (.ref f) ⟨vs, []⟩) (endsIn (fun v s' => E2 fun av hp' => A3 (vabs v = some av) (Real prog w G C ex { st with hp := hp' } s') (K av hp'))
      (fun e s' => E5 fun hp' ea cls vs xs => A5 (e = .ref ea) (Real prog w G C ex { st with hp := hp' } s') (Thr G C ex { st with hp := hp' } ea cls vs s'.heap) (Absl vs xs) (KE cls xs hp'))) s
theorem fn_genE (gk : GOk G) {n : Nat} {f : Addr} {oc : Value} {od : Option Addr} {osl : Array (Option Value)} {name qual : Str} {params : Arguments} {body : List Stmt} {scope : Scope} {dV kV doc pm cdv ct : Value} {an : Option Addr}
    (hf : G.K.lookup f = some ⟨oc, od, .func (fnOf name qual params body scope dV kV doc pm an cdv ct), osl⟩) (hcd : codeIn G.K cdv qual = true) {ns : List Str} (hN : FnNames ns scope)
    (hco : scope.isCoroutine = false) (hgen : scope.isGenerator = false) (hk : scope.kind = .function) {k : Nat} (hkl : k ≤ ns.length)
    {xs₀ : List AV} {hp₀ : Addr → Option AObj} {Bd : List AV → (Addr → Option AObj) → Prop}
    (hbind : ∀ C A ex s E st vs, COk C → st.hp = hp₀ → Real prog w G C ex st s → Absl vs xs₀ → wpAny (model prog w) A (bindArgs (fnOf name qual params body scope dV kV doc pm an cdv ct) ⟨vs, []⟩) (fun bs s₁ => E3 fun vs' xs' hp' => A5 (bs = (ns.take k).zip vs') (Absl vs' xs') (xs'.length = k) (Real prog w G C ex ⟨st.loc, hp'⟩ s₁) (Bd xs' hp')) E s)
    (hkind : ((ns.take k).all fun y => scope.names.lookup y == some .local || scope.names.lookup y == some .cell) = true)
    {K : AV → (Addr → Option AObj) → Prop} {KE : Value → List AV → Hp0 → Prop}
    (h : ∀ xs hp, Bd xs hp → ∀ C : Cx, COk C → Room n C → C.ns = nsF ns → C.N = ns.length → C.env.scope = scope → (∀ i, i < ns.length → (scope.names.lookup (nsF ns i) = some .local ∨ scope.names.lookup (nsF ns i) = some .cell) → Sto C i) → C.env.code = cdv → (∀ x, scope.names.lookup x = some .cell → (C.env.cells.lookup x).isSome = true) → FrTop C →
      ExsE prog w G C body ⟨fun i => xs[i]?, hp⟩ (fun fl st => K (match fl with | .ret v => v | _ => .none) st.hp) KE) : FnE prog w G (n + 1) f xs₀ hp₀ K KE := by
  refine .mk fun C ex s₀ st₀ vs₀ ok rm hhp R₀ ha₀ => ?_
  refine (codeAny_call_function (fd := fnOf name qual params body scope dV kV doc pm an cdv ct) (body := body) (by have := rm.1; exact Nat.lt_of_le_of_lt (Nat.le_add_right _ _) ‹_›) (R₀.kin gk _ _ hf) rfl hco hgen rfl (codeRec_of (R₀.kin gk) hcd) ?_)
  refine wpAny_mono (hbind C _ ex s₀ _ st₀ vs₀ ok hhp R₀ ha₀) (fun bs s hq46 => ?_) fun _ _ y => y
  obtain ⟨vs, xs, hp', hbs, ha, hx, R, hBd⟩ := hq46
  subst hbs
  have hlen : vs.length = k := ha.length.trans hx
  let st : St := ⟨st₀.loc, hp'⟩
  have h := h xs hp' hBd
  have hkX : ∀ m, ∀ x ∈ (ns.take k).zip vs, scope.names.lookup x.1 = some .local ∨ (scope.names.lookup x.1 = some .cell ∧ ((cellsFrom m scope.names []).lookup x.1).isSome = true) :=
    kindsX (List.all_eq_true.mpr fun y hy => (List.all_eq_true.mp hkind) y.1 (List.of_mem_zip (show (y.1, y.2) ∈ _ from hy)).1)
  refine wpAny_newFunctionEnv_cells hk (hkX _) fun env' he s' x => ?_
  have x' := x
  obtain ⟨h₁, tk, rfl, hk₁⟩ := x.done
  refine ⟨(gk.lim _ R.bot).keeps hk₁, codeAny_func ?_⟩
  have hL : env'.locals = s.heap.objs.size := by rw [he]; rfl
  have hsc : env'.scope = scope := by rw [he]; rfl
  have hcl : env'.cells = cellsFrom (s.heap.objs.size + 1) scope.names [] := by rw [he]; rfl
  have hnd : ((ns.take k).zip vs).map (·.1) = ns.take k := by
    rw [List.map_fst_zip]
    rw [List.length_take]; lia
  have hndp : (((ns.take k).zip vs).map (·.1)).Nodup := by rw [hnd]; exact hN.nodup.sublist (List.take_sublist _ _)
  obtain ⟨m, hmn, hml⟩ := R.ns
  let C' : Cx := ⟨C.A.deeper env', env', nsF ns, ns.length, ns.filterMap fun x => env'.cells.lookup x, (C.env.locals, m) :: C.fr⟩
  have hget : ∀ i, i < ns.length → nsF ns i = ns[i]?.getD Str.empty := fun i hi => by simp [nsF, List.getD]
  have ok' : COk C' := by
    refine ⟨by show env'.scope.kind = _; rw [hsc]; exact hk, fun i hi => ?_, fun i j hi hj e => ?_, fun a b c ha hb => lookup_inj x'.apart ha hb, ok.hand, by show env'.globals = _; rw [he]; rfl, by show env'.builtins = _; rw [he]; rfl⟩
    · have hi' : i < ns.length := hi
      have : nsF ns i = ns[i] := by simp [nsF, List.getD, hi']
      show (nsF ns i == _) = false ∧ (nsF ns i == _) = false
      rw [this]; exact hN.dbg _ (List.getElem_mem hi')
    · have hi' : i < ns.length := hi
      have hj' : j < ns.length := hj
      have e1 : nsF ns i = ns[i] := by simp [nsF, List.getD, hi']
      have e2 : nsF ns j = ns[j] := by simp [nsF, List.getD, hj']
      have e' : nsF ns i = nsF ns j := e
      rw [e1, e2] at e'
      exact (List.getElem_inj hN.nodup).mp e'
  have hnew : ∀ b, s.heap.objs.size ≤ b → s.heap.get? b = none := fun b hb => by
    cases q : s.heap.get? b with
    | none => rfl
    | some o => exact absurd (Heap.lt_size q) (Nat.not_lt.mpr hb)
  have hcellge : ∀ y c, (y, c) ∈ env'.cells → s.heap.objs.size < c := fun y c hm => by
    have := x'.above y c hm; rw [hL] at this; exact this
  have offHp : ∀ b, s.heap.objs.size ≤ b → st.hp b = none := fun b hb => (R.off_new (hnew b hb)).hp
  have R' : Real prog w G C' (allBut G ((C.env.locals, m) :: C.fr) st s) ⟨fun i => xs[i]?, st.hp⟩ { s with heap := h₁, toks := tk } := by
    refine ⟨⟨_, x'.toInCall.ns, fun i av e => ?_⟩, fun b o e => ?_, fun b o e => allBut_ofL R m (R.base b o e), ?_, fun c hc => ?_, fun a A e => ?_, ?_, R.gens, R.os, fun y c hy => ⟨_, x'.cell y c hy⟩, fun p hp => ?_⟩
    · have hi : i < k := by have := (List.getElem?_eq_some_iff.mp e).1; exact Nat.lt_of_lt_of_eq ‹_› ‹_›
      have hi' : i < ns.length := Nat.lt_of_lt_of_le ‹_› ‹_›
      refine ⟨hi', ?_⟩
      obtain ⟨v, hv, hva⟩ := ha.get e
      refine ⟨v, hva, ?_⟩
      have hb : ((ns.take k).zip vs)[i]? = some (nsF ns i, v) := by
        rw [List.getElem?_zip_eq_some]
        refine ⟨?_, hv⟩
        rw [List.getElem?_take, if_pos hi]
        simp [nsF, List.getD, hi']
      have hm : nsF ns i ∈ ns.take k := (List.of_mem_zip (List.mem_of_getElem? hb)).1
      have hkk := (List.all_eq_true.mp hkind) _ hm
      show VarIs env' _ h₁ (nsF ns i) v
      have hko : env'.kindOf (nsF ns i) = scope.names.lookup (nsF ns i) := by unfold Env.kindOf; rw [hsc]
      rcases Bool.or_eq_true_iff.mp hkk with q | q
      · have q' : env'.kindOf (nsF ns i) = some .local := by rw [hko]; simpa using q
        exact .inl ⟨q', bindL_get hndp hb q'⟩
      · have q0 : scope.names.lookup (nsF ns i) = some .cell := by simpa using q
        have q' : env'.kindOf (nsF ns i) = some .cell := by rw [hko]; exact q0
        have hs := cellsFrom_some (x := nsF ns i) scope.names (s.heap.objs.size + 1) [] (.inl q0)
        rw [← hcl] at hs
        cases hc : env'.cells.lookup (nsF ns i) with
        | none => rw [hc] at hs; cases hs
        | some c =>
          refine .inr ⟨.inl q', c, hc, ?_⟩
          have := x'.cell _ c hc
          rwa [bindC_get hndp hb (by rw [q']; rintro ⟨⟩)] at this
    · unfold allBut at e
      split at e
      · cases e
      · exact hk₁ b o e
    · show allBut G ((C.env.locals, m) :: C.fr) st s env'.locals = none
      unfold allBut
      split
      · rfl
      · rw [hL]; exact hnew _ (Nat.le_refl _)
    · obtain ⟨y, _, hy⟩ := List.mem_filterMap.mp hc
      have hgt := hcellge y c (mem_of_lookup hy)
      refine ⟨?_, _, x'.cell y c hy⟩
      unfold allBut
      split
      · rfl
      · exact hnew _ (Nat.le_of_lt hgt)
    · obtain ⟨a1, a2, o, ho, hA⟩ := R.hp a A e
      have e' : st.hp a = some A := e
      refine ⟨?_, ?_, o, hk₁ a o ho, hA⟩
      · unfold allBut; rw [if_pos (.inl (by rw [e']; rfl))]
      · show a ≠ env'.locals
        rw [hL]; exact Nat.ne_of_lt (Heap.lt_size ho)
    · obtain ⟨a1, more, ht⟩ := R.tab
      exact ⟨by unfold allBut; rw [if_pos (.inr (.inl rfl))], more, hk₁ _ _ ht⟩
    · refine (fun (h : _ ∧ (_ ∧ _)) => ⟨allBut_fr hp, h.1, h.2.1, h.2.2⟩) ?_
      rcases List.mem_cons.mp hp with rfl | hp
      · exact ⟨by show C.env.locals ≠ env'.locals; rw [hL]; exact Nat.ne_of_lt hmn.lt, R.locH, hmn.keeps hk₁⟩
      · obtain ⟨_, _, a3, a4⟩ := R.frs p hp
        exact ⟨by show p.1 ≠ env'.locals; rw [hL]; exact Nat.ne_of_lt a4.lt, a3, a4.keeps hk₁⟩
  have hfrm : env'.frame = some env'.locals := by rw [he]; rfl
  have frT : FrTop C' := by
    obtain ⟨l, hl1, hl2⟩ := rm.3
    refine ⟨hfrm, by show env'.scope.kind ≠ _; rw [hsc, hk]; rintro ⟨⟩, l, Around.frames_deeper hl1, fun env he => ?_⟩
    obtain ⟨k1, L, k2, k3⟩ := hl2 env he
    rcases k3 with rfl | ⟨m', k3⟩
    · exact ⟨k1, _, m, k2, .head _⟩
    · exact ⟨k1, L, m', k2, .tail _ k3⟩
  have frO : FrOk C' := by
    obtain ⟨f1, f2, outer, f3, f4⟩ := frT
    refine ⟨_, f3, fun env he => ?_⟩
    rcases List.mem_cons.mp he with rfl | he
    · exact ⟨f2, _, f1, .inl rfl⟩
    · obtain ⟨k1, L, m', k2, k3⟩ := f4 env he; exact ⟨k1, L, k2, .inr ⟨m', k3⟩⟩
  have rm' : Room n C' := ⟨by have := rm.1; show (C.A.deeper env').depth + n < _; simp only [Around.deeper]; lia, by have := rm.2; show (C.A.deeper env').units + 20 * n < _; simp only [Around.deeper]; lia, frO⟩
  refine wpAny_mono ((h C' ok' rm' rfl rfl hsc (fun i hi hki => ⟨hi, ?_⟩) (by show env'.code = _; rw [he]; rfl) (fun y hy => by show (env'.cells.lookup y).isSome = true; rw [hcl]; exact cellsFrom_some (x := y) scope.names (s.heap.objs.size + 1) [] (.inl hy)) frT).run _ _ R') (fun fl s₂ hq1 => ?_) fun e s₂ hq2 => ?_
  · have hko : env'.kindOf (nsF ns i) = scope.names.lookup (nsF ns i) := by unfold Env.kindOf; rw [hsc]
    show env'.kindOf (nsF ns i) = _ ∨ (env'.kindOf (nsF ns i) = _ ∧ ∃ c, env'.cells.lookup (nsF ns i) = some c ∧ c ∈ ns.filterMap fun x => env'.cells.lookup x)
    rw [hko]
    rcases hki with q | q
    · exact .inl q
    · have hs := cellsFrom_some (x := nsF ns i) scope.names (s.heap.objs.size + 1) [] (.inl q)
      rw [← hcl] at hs
      obtain ⟨c, hc⟩ := Option.isSome_iff_exists.mp hs
      have hi' : i < ns.length := hi
      exact .inr ⟨q, c, hc, List.mem_filterMap.mpr ⟨nsF ns i, by simp [nsF, List.getD, hi'], hc⟩⟩
  · obtain ⟨af, st₂, hf₂, R₂, h₂⟩ := hq1
    have RB := R.back hmn hml rfl R₂
    cases fl with
    | next => cases hf₂; exact ⟨_, st₂.hp, rfl, RB, h₂⟩
    | brk => cases hf₂; exact ⟨_, st₂.hp, rfl, RB, h₂⟩
    | cont => cases hf₂; exact ⟨_, st₂.hp, rfl, RB, h₂⟩
    | ret v =>
      obtain ⟨av, hv, rfl⟩ := Option.map_eq_some_iff.mp hf₂
      exact ⟨_, st₂.hp, hv, RB, h₂⟩
  · obtain ⟨st₂, h0, ea, cls, vs₂, xs₂, e1, R₂, hx₂, ha₂, h₂⟩ := hq2
    subst e1
    obtain ⟨outer, as, f1, f2, f3, f4⟩ := frames_of R₂ frT
    refine wpAny_leaves_madeW (env := env') f1 hfrm (fun b o q => of_hideAll _ q) f3 hx₂ fun h' t y1 y2 y3 y4 => ?_
    have hu : h0.UpToSlots h' := (Heap.UpToSlots.of_keeps hx₂.keeps).trans y4
    have R₃ := R₂.slots (t := s₂.toks) f4 y1.1 hu
    have cv := Cov.back R R₃ (f4.on R₂ y1.1)
    obtain ⟨l, hl1, _⟩ := rm.3
    have e2 : env' :: outer = env' :: l := Option.some.inj (f1.symm.trans (Around.frames_deeper hl1))
    rw [(List.cons.inj e2).2] at y1
    exact ⟨st₂.hp, ea, cls, vs₂, xs₂, rfl, R.back hmn hml rfl R₃, ⟨l, _, t, hl1, cv, y1, y3, y2⟩, ha₂, h₂⟩
theorem FnE.never {n : Nat} {f : Addr} {xs : List AV} {hp : Hp0} {K : AV → Hp0 → Prop} (h : FnE prog w G n f xs hp K fun _ _ _ => False) : FnC prog w G n f xs hp K := .mk fun C ex s E st vs a b c d e =>
  codeAny_mono (h.run C ex s st vs a b c d e) fun r s' z => by
    cases r with
    | error x => refine hide fun Pz hPz => ?_; (rcases z with ⟨_, _, _, _, _, _, _, _, _, z⟩) <;> (refine hPz ?_; clear hPz Pz); exact z.elim
    | ok fl => cases fl with
      | ret v => exact z
      | _ => exact z.elim
theorem fn_gen (gk : GOk G) {n : Nat} {f : Addr} {oc : Value} {od : Option Addr} {osl : Array (Option Value)} {name qual : Str} {params : Arguments} {body : List Stmt} {scope : Scope} {dV kV doc pm cdv ct : Value} {an : Option Addr}
    (hf : G.K.lookup f = some ⟨oc, od, .func (fnOf name qual params body scope dV kV doc pm an cdv ct), osl⟩) (hcd : codeIn G.K cdv qual = true) {ns : List Str} (hN : FnNames ns scope)
    (hco : scope.isCoroutine = false) (hgen : scope.isGenerator = false) (hk : scope.kind = .function) {k : Nat} (hkl : k ≤ ns.length)
    {xs₀ : List AV} {hp₀ : Addr → Option AObj} {Bd : List AV → (Addr → Option AObj) → Prop}
    (hbind : ∀ C A ex s E st vs, COk C → st.hp = hp₀ → Real prog w G C ex st s → Absl vs xs₀ → wpAny (model prog w) A (bindArgs (fnOf name qual params body scope dV kV doc pm an cdv ct) ⟨vs, []⟩) (fun bs s₁ => E3 fun vs' xs' hp' => A5 (bs = (ns.take k).zip vs') (Absl vs' xs') (xs'.length = k) (Real prog w G C ex ⟨st.loc, hp'⟩ s₁) (Bd xs' hp')) E s)
    (hkind : ((ns.take k).all fun y => scope.names.lookup y == some .local || scope.names.lookup y == some .cell) = true)
    {K : AV → (Addr → Option AObj) → Prop}
    (h : ∀ xs hp, Bd xs hp → ∀ C : Cx, COk C → Room n C → C.ns = nsF ns → C.N = ns.length → C.env.scope = scope → (∀ i, i < ns.length → (scope.names.lookup (nsF ns i) = some .local ∨ scope.names.lookup (nsF ns i) = some .cell) → Sto C i) → C.env.code = cdv → (∀ x, scope.names.lookup x = some .cell → (C.env.cells.lookup x).isSome = true) → FrTop C →
      Exs prog w G C body ⟨fun i => xs[i]?, hp⟩ fun fl st => K (match fl with | .ret v => v | _ => .none) st.hp) : FnC prog w G (n + 1) f xs₀ hp₀ K :=
  (fn_genE gk hf hcd hN hco hgen hk hkl hbind hkind fun xs hp hb C a1 a2 a3 a4 a5 a6 a7 a8 a9 => .mk fun ex s R => (h xs hp hb C a1 a2 a3 a4 a5 a6 a7 a8 a9).run ex s _ R).never
end
end Mine
end
section
open PySem PySem.W PySem.Calls PyProof.Rows
set_option Elab.async false
set_option linter.unusedVariables false
namespace Mine
variable {prog : Program} {w : World}
set_option genSizeOf false in
inductive SrcK where
  | list (l : Addr) (xs : List AV)
  | tup (l : Addr) (xs : List AV)
  | range (a : Int) (n : Nat)
  | items (d : Addr) (es : List (Str × AV)) (ep : Nat)
  | vals (d : Addr) (es : List (Str × AV)) (ep : Nat)
  | keys (d : Addr) (es : List (Str × AV)) (ep : Nat)
noncomputable def SrcK.P : SrcK → (Addr → Option AObj) → Prop
  | .list l xs, hp => hp l = some (.list xs)
  | .tup l xs, hp => hp l = some (.tup xs)
  | .range .., _ => True
  | .items d es ep, hp => hp d = some (.dict es ep)
  | .vals d es ep, hp => hp d = some (.dict es ep)
  | .keys d es ep, hp => hp d = some (.dict es ep)
noncomputable def SrcK.ob : SrcK → Nat → Obj → Prop
  | .list l xs, n, o => o.cls = .type "list_iterator" ∧ o.data = .fields #[.ref l, .int n 0]
  | .tup l xs, n, o => o.cls = .type "tuple_iterator" ∧ o.data = .fields #[.ref l, .int n 0]
  | .range a m, k, o => o = { cls := .type "range_iterator", dict := none, data := .fields #[rawInt (a + k), rawInt ((m : Int) - k), rawInt 1], slots := #[] }
  | .items d es ep, i, o => E2 fun ok ov => o = { cls := .type "dict_itemiterator", data := .fields #[.none, .bool false, .ref d, .int i 0, .int es.length 0, .int ep 0, ok, ov] }
  | .vals d es ep, i, o => o.cls = .type "dict_valueiterator" ∧ o.data = .fields #[.ref d, .int i 0, .int es.length 0, .int ep 0]
  | .keys d es ep, i, o => o.cls = .type "dict_keyiterator" ∧ o.data = .fields #[.ref d, .int i 0, .int es.length 0, .int ep 0]
noncomputable def SrcK.one : SrcK → List AV
  | .list _ xs => xs
  | .tup _ xs => xs
  | .range a n => (rng a n).map .int
  | .items .. => []
  | .vals _ es _ => es.map (·.2)
  | .keys _ es _ => es.map fun p => .str p.1
noncomputable def SrcK.two : SrcK → List (AV × AV)
  | .items _ es _ => es.map fun p => (.str p.1, p.2)
  | _ => []
theorem ob_r (a : Int) (m k : Nat) (o : Obj) : (SrcK.range a m).ob k o = (o = { cls := .type "range_iterator", dict := none, data := .fields #[rawInt (a + k), rawInt ((m : Int) - k), rawInt 1], slots := #[] }) := rfl
theorem one_l (l : Addr) (xs : List AV) : (SrcK.list l xs).one = xs := rfl
theorem one_t (l : Addr) (xs : List AV) : (SrcK.tup l xs).one = xs := rfl
theorem one_r (a : Int) (n : Nat) : (SrcK.range a n).one = (rng a n).map .int := rfl
theorem one_v (d : Addr) (es : List (Str × AV)) (ep : Nat) : (SrcK.vals d es ep).one = es.map (·.2) := rfl
theorem one_k (d : Addr) (es : List (Str × AV)) (ep : Nat) : (SrcK.keys d es ep).one = es.map fun p => .str p.1 := rfl
theorem two_i (d : Addr) (es : List (Str × AV)) (ep : Nat) : (SrcK.items d es ep).two = es.map fun p => (.str p.1, p.2) := rfl
noncomputable def SrcK.single : SrcK → Prop
  | .items .. => False
  | _ => True
noncomputable def SrcK.double : SrcK → Prop
  | .items .. => True
  | _ => False
section
variable {G : Gl} {C : Cx} {st : St} {ex : Addr → Option Obj} {s : Shared}
theorem iter_vals (ok : COk C) {i : Nat} {p : Pos} (hi : Sto C i) {d I : Addr} {es : List (Str × AV)} {ep : Nat} :
    Iter prog w G C (.Name (C.ns i) p) I (es.map (·.2)) (fun x st => st.set i x) ((SrcK.vals d es ep).ob) (fun st => (SrcK.vals d es ep).P st.hp) where
  data := fun i o r h => by rw [h.2]; rintro ⟨⟩
  bhp := fun _ _ => rfl
  step := fun n x ex st s E Q hx hP R O hq50 hQ => by
    obtain ⟨o, ho, hc, hd⟩ := hq50
    obtain ⟨kvs, hl, hab⟩ := R.dict hP
    rw [List.getElem?_map] at hx
    obtain ⟨⟨k, y⟩, hy, rfl⟩ := Option.map_eq_some_iff.mp hx
    obtain ⟨v, hv1, hv2⟩ := hab.get hy
    rw [← hab.length] at hd
    refine wpAny_pyNext_values_item ⟨o, ho, hc, hd⟩ hl hv1 fun h' hit hs => ?_
    dsimp only
    rw [letGo_name]
    refine wpAny_pure ?_
    have R' : Real prog w G C ex st { s with heap := h' } := R.scratch O (fun c o' q e => (hs.2 c q).trans e) (fun o' r e q => by rw [ho] at e; cases e; rw [hd] at q; cases q) R.gens rfl
    refine assign_name ok hi R' hv2 fun s' R'' hk => hQ s' R'' ?_
    obtain ⟨o', ho', hc', hd'⟩ := hit
    exact ⟨o', hk I o' O.loc O.own ho', hc', by rw [hd', hab.length]⟩
  fin := fun ex st s E Q hP R O hq51 hQ => by
    obtain ⟨o, ho, hc, hd⟩ := hq51
    obtain ⟨kvs, hl, hab⟩ := R.dict hP
    rw [← hab.length] at hd
    refine wpAny_pyNext_values_end ok.hand ⟨o, ho, hc, hd⟩ hl (by rw [List.length_map, ← hab.length]; simp) fun h' hs => ⟨rfl, hQ _ ?_⟩
    exact R.scratch O (fun c o' q e => hs c o' q e) (fun o' r e q => by rw [ho] at e; cases e; rw [hd] at q; cases q) R.gens rfl
theorem iter_keys (ok : COk C) {i : Nat} {p : Pos} (hi : Sto C i) {d I : Addr} {es : List (Str × AV)} {ep : Nat} :
    Iter prog w G C (.Name (C.ns i) p) I (es.map fun p => .str p.1) (fun x st => st.set i x) ((SrcK.keys d es ep).ob) (fun st => (SrcK.keys d es ep).P st.hp) where
  data := fun i o r h => by rw [h.2]; rintro ⟨⟩
  bhp := fun _ _ => rfl
  step := fun n x ex st s E Q hx hP R O hq52 hQ => by
    obtain ⟨o, ho, hc, hd⟩ := hq52
    obtain ⟨kvs, hl, hab⟩ := R.dict hP
    rw [List.getElem?_map] at hx
    obtain ⟨⟨k, y⟩, hy, rfl⟩ := Option.map_eq_some_iff.mp hx
    obtain ⟨v, hv1, hv2⟩ := hab.get hy
    rw [← hab.length] at hd
    refine wpAny_pyNext_dict_item ⟨o, ho, hc, hd⟩ hl hv1 fun key h' hkey hit hs => ?_
    dsimp only
    rw [letGo_name]
    refine wpAny_pure ?_
    have R' : Real prog w G C ex st { s with heap := h' } := R.scratch O (fun c o' q e => (hs.2 c q).trans e) (fun o' r e q => by rw [ho] at e; cases e; rw [hd] at q; cases q) R.gens rfl
    obtain ⟨t, rfl⟩ := Value.isStrOf_shape hkey
    refine assign_name ok hi R' (av := .str k) rfl fun s' R'' hk => hQ s' R'' ?_
    obtain ⟨o', ho', hc', hd'⟩ := hit
    exact ⟨o', hk I o' O.loc O.own ho', hc', by rw [hd', hab.length]⟩
  fin := fun ex st s E Q hP R O hq53 hQ => by
    obtain ⟨o, ho, hc, hd⟩ := hq53
    obtain ⟨kvs, hl, hab⟩ := R.dict hP
    rw [← hab.length] at hd
    refine wpAny_pyNext_dict_end ok.hand ⟨o, ho, hc, hd⟩ hl (by rw [List.length_map, ← hab.length]; simp) fun h' hs => ⟨rfl, hQ _ ?_⟩
    exact R.scratch O (fun c o' q e => hs c o' q e) (fun o' r e q => by rw [ho] at e; cases e; rw [hd] at q; cases q) R.gens rfl
theorem iter_items (ok : COk C) {i j : Nat} {p p' q : Pos} {kk : Nat} (hi : Sto C i) (hj : Sto C j) {d I : Addr} {es : List (Str × AV)} {ep : Nat} :
    Iter prog w G C (.Tuple [.Name (C.ns i) p, .Name (C.ns j) p'] kk q) I (es.map fun p => ((.str p.1 : AV), p.2)) (fun x st => (st.set i x.1).set j x.2) ((SrcK.items d es ep).ob) (fun st => (SrcK.items d es ep).P st.hp) where
  data := fun i o r h => by obtain ⟨_, _, rfl⟩ := h; rintro ⟨⟩
  bhp := fun _ _ => rfl
  step := fun n x ex st s E Q hx hP R O hq54 hQ => by
    obtain ⟨o, ho, ok', ov', hd⟩ := hq54
    obtain ⟨kvs, hl, hab⟩ := R.dict hP
    rw [List.getElem?_map] at hx
    obtain ⟨⟨k, y⟩, hy, rfl⟩ := Option.map_eq_some_iff.mp hx
    obtain ⟨v, hv1, hv2⟩ := hab.get hy
    rw [← hab.length] at hd
    subst hd
    refine wpAny_pyNext_items_item ho hl hv1 fun key h' hkey hit ht hsz hs => ?_
    dsimp only
    refine wpAny_letOwnedTupleGo_items hit fun h₂ hit₂ hs₂ => ?_
    obtain ⟨t, rfl⟩ := Value.isStrOf_shape hkey
    have hne : s.heap.objs.size ≠ I := fun e => by rw [← e, none_of_size] at ho; cases ho
    have R₁ : Real prog w G C ex st { s with heap := h' } := R.scratch O hs (fun o' r e q => by rw [ho] at e; cases e; cases q) R.gens rfl
    have R₂ : Real prog w G C ex st { s with heap := h₂ } := R₁.scratch O (fun c o' q e => (hs₂.2 c q).trans e) (fun o' r e q => by
      have : h'.get? I = _ := hit
      rw [this] at e; cases e; cases q) R.gens rfl
    have htup : h₂.IsTuple s.heap.objs.size #[.str k t, v] := ⟨_, (hs₂.2 _ hne).trans ht, rfl, _, rfl⟩
    refine wpAny_assign_Tuple ok.hand htup rfl rfl fun h₃ hs₃ => ?_
    have R₃ : Real prog w G C ex st { s with heap := h₃ } := R₂.grow (fun b o e => hs₃ b o (Nat.ne_of_lt (Heap.lt_size e)) e) R.gens rfl
    have hI₃ : h₃.get? I = _ := hs₃ I _ (Nat.ne_of_lt (Heap.lt_size hit₂)) hit₂
    show wpAny _ _ (assignInOrder [assign (.Name (C.ns i) p) C.env, assign (.Name (C.ns j) p') C.env] [.str k t, v]) _ _ _
    refine wpAny_assignInOrder_more (assign_name ok hi R₃ (av := .str k) rfl fun s₄ R₄ hk₄ => wpAny_assignInOrder_more (assign_name ok hj R₄ hv2 fun s₅ R₅ hk₅ => wpAny_assignInOrder_none (hQ s₅ R₅ ?_)))
    exact ⟨_, hk₅ I _ O.loc O.own (hk₄ I _ O.loc O.own hI₃), _, _, by rw [hab.length]⟩
  fin := fun ex st s E Q hP R O hq55 hQ => by
    obtain ⟨o, ho, ok', ov', hd⟩ := hq55
    obtain ⟨kvs, hl, hab⟩ := R.dict hP
    rw [← hab.length] at hd
    subst hd
    rw [List.length_map, ← hab.length] at ho
    refine wpAny_pyNext_items_end ok.hand ho hl (by simp) fun h' hs => ⟨rfl, hQ _ ?_⟩
    exact R.scratch O (fun c o' q e => hs c o' q e) (fun o' r e q => by rw [ho] at e; cases e; cases q) R.gens rfl
theorem iter_range' (ok : COk C) {i : Nat} {p : Pos} (hi : Sto C i) {I : Addr} {a : Int} {n : Nat} :
    Iter prog w G C (.Name (C.ns i) p) I ((rng a n).map .int) (fun x st => st.set i x) ((SrcK.range a n).ob) (fun st => (SrcK.range a n).P st.hp) := by
  have W := iter_range (prog := prog) (w := w) (G := G) ok (p := p) hi (I := I) (a := a) (n := n)
  refine ⟨W.data, fun k x ex st s E Q hx hP R O ho hQ => ?_, fun _ _ => rfl, fun ex st s E Q hP R O ho hQ => ?_⟩
  · rw [List.getElem?_map] at hx
    obtain ⟨y, hy, rfl⟩ := Option.map_eq_some_iff.mp hx
    exact W.step k y ex st s E Q hy hP R O ho hQ
  · rw [List.length_map] at ho
    exact W.fin ex st s E Q hP R O ho hQ
theorem SrcK.iter1 (ok : COk C) {i : Nat} {p : Pos} (hi : Sto C i) {I : Addr} {sk : SrcK} (h : sk.single) : Iter prog w G C (.Name (C.ns i) p) I sk.one (fun x st => st.set i x) sk.ob (fun st => sk.P st.hp) := by
  cases sk with
  | list l xs => exact iter_list ok hi
  | tup l xs => exact iter_tup ok hi
  | range a n => exact iter_range' ok hi
  | items => exact h.elim
  | vals d es ep => exact iter_vals ok hi
  | keys d es ep => exact iter_keys ok hi
theorem SrcK.iter2 (ok : COk C) {i j : Nat} {p p' q : Pos} {kk : Nat} (hi : Sto C i) (hj : Sto C j) {I : Addr} {sk : SrcK} (h : sk.double) : Iter prog w G C (.Tuple [.Name (C.ns i) p, .Name (C.ns j) p'] kk q) I sk.two (fun x st => (st.set i x.1).set j x.2) sk.ob (fun st => sk.P st.hp) := by
  cases sk with
  | items d es ep => exact iter_items ok hi hj
  | _ => exact h.elim
variable (prog w) in
structure Src (G : Gl) (C : Cx) (e : Expr) (st : St) (K : SrcK → St → Prop) : Prop where
  run : ∀ ex s E, Real prog w G C ex st s → wpAny (model prog w) C.A (eval e C.env) (fun v s₁ => wpAny (model prog w) C.A (pyIter v) (fun it s₂ => E3 fun I sk st' => A6 (it = .ref I) (Real prog w G C ex st' s₂) (Off G C ex st' I) (∃ o, s₂.heap.get? I = some o ∧ sk.ob 0 o) (sk.P st'.hp) (K sk st')) E s₁) E s
theorem ex_for1 (ok : COk C) {i : Nat} {p q : Pos} (hi : Sto C i) {e : Expr} {body : List Stmt} {K : AFlow → St → Prop} (h : Src prog w G C e st fun sk st₁ => sk.single ∧ forL (fun x st => st.set i x) (fun st => sk.P st.hp) (fun st K => Exs prog w G C body st K) sk.one st₁ K)
    (hs : ∀ x, foldedSetIterable e C.env x = pure x) : Ex prog w G C (.For (.Name (C.ns i) p) e body [] q) st K := .mk fun ex s E R =>
  wpAny_For (wpAny_mono (h.run ex s E R) (fun v s₁ h₁ => wpAny_mono h₁ (fun it s₂ hq56 => by
    refine hide fun Pz hPz => ?_; (rcases hq56 with ⟨I, sk, st', e1, R', O, hI, hP, hsg, h₂⟩) <;> (refine hPz ?_; clear hPz Pz)
    subst e1
    exact for_loop (sk.iter1 ok hi hsg) R' O hI hP h₂ fun f s' z => z) fun _ _ x => x) fun _ _ x => x) hs
theorem ex_for2 (ok : COk C) {i j : Nat} {p p' q q' : Pos} {kk : Nat} (hi : Sto C i) (hj : Sto C j) {e : Expr} {body : List Stmt} {K : AFlow → St → Prop} (h : Src prog w G C e st fun sk st₁ => sk.double ∧ forL (fun x st => (st.set i x.1).set j x.2) (fun st => sk.P st.hp) (fun st K => Exs prog w G C body st K) sk.two st₁ K)
    (hs : ∀ x, foldedSetIterable e C.env x = pure x) : Ex prog w G C (.For (.Tuple [.Name (C.ns i) p, .Name (C.ns j) p'] kk q') e body [] q) st K := .mk fun ex s E R =>
  wpAny_For (wpAny_mono (h.run ex s E R) (fun v s₁ h₁ => wpAny_mono h₁ (fun it s₂ hq57 => by
    refine hide fun Pz hPz => ?_; (rcases hq57 with ⟨I, sk, st', e1, R', O, hI, hP, hsg, h₂⟩) <;> (refine hPz ?_; clear hPz Pz)
    subst e1
    exact for_loop (sk.iter2 ok hi hj hsg) R' O hI hP h₂ fun f s' z => z) fun _ _ x => x) fun _ _ x => x) hs
theorem Real.pushed (R : Real prog w G C ex st s) (o : Obj) (t : Nat) : Real prog w G C ex st { s with heap := s.heap.push o, toks := t } := R.heap fun b o e => Heap.get?_push_of_some _ e
inductive SrcLC (K : SrcK → St → Prop) (v : AV) (st : St) : Prop
  | mk (l : Addr) (xs : List AV) (e1 : v = .ref l) (e2 : st.hp l = some (.list xs)) (h : K (.list l xs) st)
theorem src_list {e : Expr} {K : SrcK → St → Prop} (h : Ev prog w G C e st (SrcLC K)) : Src prog w G C e st K := .mk fun ex s E R =>
  wpAny_mono (h.run ex s E R) (fun v s₁ hq58 => by
    obtain ⟨a, st₁, hv, R₁, l, xs, ea, el, h₁⟩ := hq58
    subst ea; rw [vabs_ref hv]
    obtain ⟨vs, hl, hab⟩ := R₁.list el
    exact wpAny_pyIter_list hl ⟨_, .list l xs, st₁, rfl, R₁.pushed _ s₁.toks, R₁.off_new none_of_size, ⟨_, Heap.get?_push_size _ rfl, rfl, rfl⟩, el, h₁⟩) fun _ _ x => x
inductive SrcTC (K : SrcK → St → Prop) (v : AV) (st : St) : Prop
  | mk (l : Addr) (xs : List AV) (e1 : v = .ref l) (e2 : st.hp l = some (.tup xs)) (h : K (.tup l xs) st)
theorem src_tup {e : Expr} {K : SrcK → St → Prop} (h : Ev prog w G C e st (SrcTC K)) : Src prog w G C e st K := .mk fun ex s E R =>
  wpAny_mono (h.run ex s E R) (fun v s₁ hq59 => by
    obtain ⟨a, st₁, hv, R₁, l, xs, ea, el, h₁⟩ := hq59
    subst ea; rw [vabs_ref hv]
    obtain ⟨vs, hl, hab⟩ := R₁.tuple el
    exact wpAny_pyIter_tuple hl ⟨_, .tup l xs, st₁, rfl, R₁.pushed _ s₁.toks, R₁.off_new none_of_size, ⟨_, Heap.get?_push_size _ rfl, rfl, rfl⟩, el, h₁⟩) fun _ _ x => x
theorem src_keys (gk : GOk G) {e : Expr} {K : SrcK → St → Prop} (h : Ev prog w G C e st fun v st₁ => E3 fun l es ep => A3 (v = .ref l) (st₁.hp l = some (.dict es ep)) (K (.keys l es ep) st₁)) : Src prog w G C e st K := .mk fun ex s E R =>
  wpAny_mono (h.run ex s E R) (fun v s₁ hq60 => by
    refine hide fun Pz hPz => ?_; (rcases hq60 with ⟨a, st₁, hv, R₁, l, es, ep, ea, el, h₁⟩) <;> (refine hPz ?_; clear hPz Pz)
    subst ea; rw [vabs_ref hv]
    obtain ⟨kvs, hl, hab⟩ := R₁.dict el
    exact wpAny_pyIter_dict (noSys R₁ gk.sys el) hl ⟨_, .keys l es ep, st₁, rfl, R₁.pushed _ s₁.toks, R₁.off_new none_of_size, ⟨_, Heap.get?_push_size _ rfl, rfl, by rw [hab.length]; rfl⟩, el, h₁⟩) fun _ _ x => x
end
end Mine
end
section
open PySem PySem.W PySem.Calls PyProof.Rows
set_option Elab.async false
set_option linter.unusedVariables false
namespace Mine
variable {prog : Program} {w : World}
theorem Absl.ints : ∀ {vs : List Value} {ns : List Int}, Absl vs (ns.map .int) → IntsAre vs ns := by
  intro vs
  induction vs with
  | nil => intro ns h; cases ns <;> first | exact .nil | cases h
  | cons v vs ih =>
    intro ns h
    cases ns with
    | nil => cases h
    | cons n ns =>
      obtain ⟨h1, h2⟩ := List.cons.inj h
      obtain ⟨t, rfl⟩ := vabs_int h1
      exact .cons n t (ih h2)
theorem Absl.strs : ∀ {vs : List Value} {ss : List Str}, Absl vs (ss.map .str) → StrsAre vs ss := by
  intro vs
  induction vs with
  | nil => intro ns h; cases ns <;> first | exact .nil | cases h
  | cons v vs ih =>
    intro ns h
    cases ns with
    | nil => cases h
    | cons n ns =>
      obtain ⟨h1, h2⟩ := List.cons.inj h
      obtain ⟨t, rfl⟩ := vabs_str h1
      exact .cons n t (ih h2)
theorem absl_ints : ∀ {vs : List Value} {ns : List Int}, IntsAre vs ns → Absl vs (ns.map .int) := by
  intro vs ns h
  induction h with
  | nil => rfl
  | cons n t _ ih => exact Absl.cons rfl ih
theorem absl_strs : ∀ {vs : List Value} {ns : List Str}, StrsAre vs ns → Absl vs (ns.map .str) := by
  intro vs ns h
  induction h with
  | nil => rfl
  | cons n t _ ih => exact Absl.cons rfl ih
theorem Absl.cons_inv {vs : List Value} {x : AV} {xs : List AV} (h : Absl vs (x :: xs)) : E2 fun v vs' => A3 (vs = v :: vs') (vabs v = some x) (Absl vs' xs) := by
  cases vs with
  | nil => cases h
  | cons v r => simp only [Absl, List.map_cons, List.cons.injEq] at h; exact ⟨v, r, rfl, h.1, h.2⟩
theorem Absl.nil_inv {vs : List Value} (h : Absl vs []) : vs = [] := by
  cases vs with
  | nil => rfl
  | cons v r => cases h
theorem Absl.one {vs : List Value} {x : AV} (h : Absl vs [x]) : ∃ v, vs = [v] ∧ vabs v = some x := by
  obtain ⟨v, r, rfl, hv, hr⟩ := h.cons_inv; rw [hr.nil_inv]; exact ⟨v, rfl, hv⟩
theorem Absl.two {vs : List Value} {x y : AV} (h : Absl vs [x, y]) : E2 fun v u => A3 (vs = [v, u]) (vabs v = some x) (vabs u = some y) := by
  obtain ⟨v, r, rfl, hv, hr⟩ := h.cons_inv
  obtain ⟨u, rfl, hu⟩ := hr.one
  exact ⟨v, u, rfl, hv, hu⟩
theorem tn {i : Int} : i.toNat ≤ i.natAbs := by cases i <;> first | exact Nat.le_refl _ | exact Nat.zero_le _
theorem rng_fits {i : Int} (h : i.natAbs < 2 ^ 42) : Builtin.Range.rangeFitsLong i = true := by
  have h1 : (i.natAbs : Int) < 2 ^ 42 := Int.ofNat_lt.mpr h
  exact Bool.and_eq_true_iff.mpr ⟨decide_eq_true (Int.neg_le_of_neg_le (Int.le_trans (Int.natAbs_neg i ▸ Int.le_natAbs) (Int.le_trans (Int.le_of_lt h1) (by decide)))), decide_eq_true (Int.lt_of_le_of_lt Int.le_natAbs (Int.lt_trans h1 (by decide)))⟩
theorem rng_small' {a b : Int} (ha : a.natAbs < 2 ^ 40) (hb : b.natAbs < 2 ^ 40) : Builtin.Range.small a b 1 = true := by
  have up : ∀ {n : Nat}, n < 2 ^ 40 → n < 2 ^ 42 := fun h => Nat.lt_trans h (by decide)
  have hs : (((b - a).toNat : Nat) : Int).natAbs < 2 ^ 42 := Nat.lt_of_le_of_lt (Nat.le_trans tn (Int.natAbs_sub_le b a)) (Nat.lt_trans (Nat.add_lt_add hb ha) (by decide))
  unfold Builtin.Range.small
  rw [rng_size, rng_fits (up ha), rng_fits (up hb), rng_fits (by decide), rng_fits hs, if_pos (by decide), rng_fits (i := b + (1 - 1)) (by rw [Int.sub_self, Int.add_zero]; exact up hb), Bool.or_true]
  rfl
section
variable {G : Gl} {C : Cx} {st : St} {ex : Addr → Option Obj} {s : Shared}
noncomputable def rangeArgs : List AV → Option (Int × Int)
  | [.int n] => some (0, n)
  | [.int a, .int b] => some (a, b)
  | _ => none
theorem rangeArgs_some {xs : List AV} {a b : Int} (e : rangeArgs xs = some (a, b)) : (∃ n, xs = [.int n] ∧ (a = 0 ∧ b = n)) ∨ xs = [.int a, .int b] := by
  rcases xs with _ | ⟨x, _ | ⟨y, _ | ⟨z, r⟩⟩⟩
  · cases e
  · cases x <;> first | (cases e; exact .inl ⟨_, rfl, rfl, rfl⟩) | cases e
  · cases x <;> first | cases e | (cases y <;> first | (cases e; exact .inr rfl) | cases e)
  · cases x <;> first | cases e | (cases y <;> cases e)
theorem src_range (gk : GOk G) (ok : COk C) {np p : Pos} {es : List Expr} {K : SrcK → St → Prop} (hk : C.env.kindOf (Str.ofString "range") = some .globalImplicit) (hm : nsIn G.K mainGlobals (Str.ofString "range") = some none) (hp : es.all plainE = true)
    (h : Es prog w G C es st fun xs st₁ => E2 fun a b => A4 (rangeArgs xs = some (a, b)) (a.natAbs < 2 ^ 40) (b.natAbs < 2 ^ 40) (K (.range a (b - a).toNat) st₁)) : Src prog w G C (.Call (.Name (Str.ofString "range") np) es [] p) st K := .mk fun ex s E R => by
  refine wpAny_Call_NameR (name_bi gk ok R hk (by decide) (by decide) hm boot_range (PySem.callWith_type (plain_any hp _ _) (args_plain hp (wpAny_mono (h.run p ex s E R) (fun vs s₁ hq61 => ?_) fun _ _ x => x))))
  refine hide fun Pz hPz => ?_; (rcases hq61 with ⟨xs, st₁, hx, R₁, a, b, e, ha, hb, h₁⟩) <;> (refine hPz ?_; clear hPz Pz)
  have fin : ∀ t u v (s₂ : Shared), Real prog w G C ex st₁ s₂ → ∀ tk, wpAny (model prog w) C.A (pyIter (.ref s₂.heap.objs.size)) (fun it s₂ => E3 fun I sk st' => A6 (it = .ref I) (Real prog w G C ex st' s₂) (Off G C ex st' I) (∃ o, s₂.heap.get? I = some o ∧ sk.ob 0 o) (sk.P st'.hp) (K sk st')) E { s₂ with heap := s₂.heap.push { cls := .type "range", data := .fields #[.int a t, .int b u, .int 1 v] }, toks := tk } := by
    intro t u v s₂ R₂ tk
    refine wpAny_pyIter_range (IsRange.new s₂.heap a b 1 t u v) (rng_small' ha hb) ?_
    have R₃ : Real prog w G C ex st₁ { s₂ with heap := s₂.heap.push { cls := .type "range", data := .fields #[.int a t, .int b u, .int 1 v] }, toks := tk } := R₂.pushed _ tk
    exact ⟨_, .range a (b - a).toNat, st₁, rfl, R₃.pushed _ tk, R₃.off_new none_of_size, ⟨_, Heap.get?_push_size _ rfl, by rw [rng_size, ob_r]; simp⟩, trivial, h₁⟩
  rcases rangeArgs_some e with ⟨n, rfl, rfl, rfl⟩ | rfl
  · obtain ⟨v, rfl, hv⟩ := hx.one
    obtain ⟨t, rfl⟩ := vabs_int hv
    exact call_range_1 (fin _ _ _ s₁ R₁ _)
  · obtain ⟨v, u, rfl, hv, hu⟩ := hx.two
    obtain ⟨t, rfl⟩ := vabs_int hv
    obtain ⟨t', rfl⟩ := vabs_int hu
    exact call_range_2 (fin _ _ _ s₁ R₁ _)
theorem few_plain {es : List Expr} (h : es.all plainE = true) (hl : es.length < 30) (pos : Pos) (env : Env) : ((backTo pos (starEach es env)).all (fun x => !x.1) && (backToKw pos (keywordEach [] env)).all (fun x => x.1.isSome) && decide (es.length + ([] : List Keyword).length + (if ([] : List Keyword).isEmpty then 0 else 1) < 30)) = true := by
  have h1 : (backTo pos (starEach es env)).all (fun x => !x.1) = true := by
    have := plain_any h pos env
    rw [List.any_eq_false] at this
    exact List.all_eq_true.mpr fun x hx => by have := this x hx; simp_all
  rw [h1]
  simp [arm_keywordEach_nil, backToKw, hl]
theorem meth_of {T id : String} {name : Str} {ap p : Pos} {o : Expr} {es : List Expr} {Q : Value → Shared → Prop} {E : Value → Shared → Prop} (pa : PlainAttrs T) (slot : Slot T name id) (hty : typeOf (.builtin id) = pure (.type "method_descriptor")) (hp : es.all plainE = true) (hl : es.length < 30) (hbase : attributeBase o name C.env (eval o C.env) = eval o C.env) (hline : (ap.endLine == p.line) = true)
    (h : wpAny (model prog w) C.A (eval o C.env) (fun ov s₁ => A3 (s₁.TypeIs ov T) (∀ a, ov = .ref a → ∃ ob, s₁.heap.get? a = some ob ∧ ob.dict = none) (wpAny (model prog w) C.A (spliced (backTo p (starEach es C.env))) (fun vs s₂ => wpAny (model prog w) C.A (call (.builtin id) (ov :: vs)) Q E s₂) E s₁)) E s) :
    wpAny (model prog w) C.A (eval (.Call (.Attribute o name ap) es [] p) C.env) Q E s :=
  wpAny_Call_method_late hbase (few_plain hp hl _ _) hline rfl (wpAny_mono h (fun ov s₁ hq62 => by obtain ⟨a, b, c⟩ := hq62; exact ⟨T, id, pa, slot, hty, a, b, callWith_builtin (plain_any hp _ _) (args_plain hp c)⟩) fun _ _ x => x)
theorem Real.dictNo (R : Real prog w G C ex st s) {a : Addr} {es : List (Str × AV)} {ep : Nat} (e : st.hp a = some (.dict es ep)) : ∀ b, Value.ref a = .ref b → ∃ ob, s.heap.get? b = some ob ∧ ob.dict = none := by
  rintro b ⟨⟩
  refine hide fun Pz hPz => ?_
  obtain ⟨_, _, o, ho, ens, kvs, a1, _⟩ := R.hp _ _ e
  refine hPz ?_
  clear hPz Pz
  exact ⟨o, ho, a1.2.1⟩
theorem Real.listNo (R : Real prog w G C ex st s) {a : Addr} {xs : List AV} (e : st.hp a = some (.list xs)) : ∀ b, Value.ref a = .ref b → ∃ ob, s.heap.get? b = some ob ∧ ob.dict = none := by
  rintro b ⟨⟩
  obtain ⟨vs, n, ho, _⟩ := R.listE e
  exact ⟨_, ho, rfl⟩
theorem src_items (gk : GOk G) {ap p : Pos} {o : Expr} {K : SrcK → St → Prop} (hbase : attributeBase o "items" C.env (eval o C.env) = eval o C.env) (hline : (ap.endLine == p.line) = true)
    (h : Ev prog w G C o st fun v st₁ => E3 fun l es ep => A3 (v = .ref l) (st₁.hp l = some (.dict es ep)) (K (.items l es ep) st₁)) : Src prog w G C (.Call (.Attribute o (Str.ofString "items") ap) [] [] p) st K := .mk fun ex s E R => by
  refine meth_of F.plainAttrs_dict F.slot_dict_items F.type_dict_items rfl (by decide) hbase hline (wpAny_mono (h.run ex s E R) (fun v s₁ hq63 => ?_) fun _ _ x => x)
  refine hide fun Pz hPz => ?_; (rcases hq63 with ⟨a, st₁, hv, R₁, l, es, ep, ea, el, h₁⟩) <;> (refine hPz ?_; clear hPz Pz)
  subst ea; rw [vabs_ref hv]
  obtain ⟨kvs, hl, hab⟩ := R₁.dict el
  refine ⟨hl.dictOf.typeIs, R₁.dictNo el, wpAny_items_nil ?_⟩
  refine call_meetsIn F.slot_dict_items hl.dictOf.typeIs F.entry_dict_items (F.args_dict_items_1 _) (meets_dict_items (strKind prog w) l (noSys R₁ gk.sys el)) ⟨⟨kvs, hl.dictOf⟩, ?_⟩
  have R₂ := R₁.pushed { cls := .type "dict_items", data := .fields #[.ref l] } s₁.toks
  refine wpAny_pyIter_items (d := l) (kvs := kvs) (ep := ep) ⟨_, Heap.get?_push_size _ rfl, rfl, rfl⟩ (hl.push _) ?_
  exact ⟨_, .items l es ep, st₁, rfl, R₂.pushed _ s₁.toks, R₂.off_new none_of_size, ⟨_, Heap.get?_push_size _ rfl, _, _, by rw [hab.length]; rfl⟩, el, h₁⟩
theorem src_vals (gk : GOk G) {ap p : Pos} {o : Expr} {K : SrcK → St → Prop} (hbase : attributeBase o "values" C.env (eval o C.env) = eval o C.env) (hline : (ap.endLine == p.line) = true)
    (h : Ev prog w G C o st fun v st₁ => E3 fun l es ep => A3 (v = .ref l) (st₁.hp l = some (.dict es ep)) (K (.vals l es ep) st₁)) : Src prog w G C (.Call (.Attribute o (Str.ofString "values") ap) [] [] p) st K := .mk fun ex s E R => by
  refine meth_of F.plainAttrs_dict F.slot_dict_values F.type_dict_values rfl (by decide) hbase hline (wpAny_mono (h.run ex s E R) (fun v s₁ hq64 => ?_) fun _ _ x => x)
  refine hide fun Pz hPz => ?_; (rcases hq64 with ⟨a, st₁, hv, R₁, l, es, ep, ea, el, h₁⟩) <;> (refine hPz ?_; clear hPz Pz)
  subst ea; rw [vabs_ref hv]
  obtain ⟨kvs, hl, hab⟩ := R₁.dict el
  refine ⟨hl.dictOf.typeIs, R₁.dictNo el, wpAny_items_nil ?_⟩
  refine call_meetsIn F.slot_dict_values hl.dictOf.typeIs F.entry_dict_values (F.args_dict_values_1 _) (meets_dict_values (strKind prog w) l (noSys R₁ gk.sys el)) ⟨⟨kvs, hl.dictOf⟩, ?_⟩
  have R₂ := R₁.pushed { cls := .type "dict_values", data := .fields #[.ref l] } s₁.toks
  refine wpAny_pyIter_values (d := l) (kvs := kvs) (ep := ep) ⟨_, Heap.get?_push_size _ rfl, rfl, rfl⟩ (hl.push _) ?_
  exact ⟨_, .vals l es ep, st₁, rfl, R₂.pushed _ s₁.toks, R₂.off_new none_of_size, ⟨_, Heap.get?_push_size _ rfl, rfl, by rw [hab.length]; rfl⟩, el, h₁⟩
theorem ev_append {ap p : Pos} {o x : Expr} {K : AV → St → Prop} (hp : plainE x = true) (hbase : attributeBase o "append" C.env (eval o C.env) = eval o C.env) (hline : (ap.endLine == p.line) = true)
    (h : Ev prog w G C o st fun v st₁ => ∃ l, A3 (v = .ref l) (∃ xs₀, st₁.hp l = some (.list xs₀)) (Ev prog w G C x st₁ fun y st₂ => ∃ xs, A3 (st₂.hp l = some (.list xs)) (xs.length ≤ 1000) (K .none (st₂.put l (.list (xs ++ [y])))))) : Ev prog w G C (.Call (.Attribute o (Str.ofString "append") ap) [x] [] p) st K := .mk fun ex s E R => by
  refine meth_of F.plainAttrs_list F.slot_list_append F.type_list_append (by simp [hp]) (by simp) hbase hline (wpAny_mono (h.run ex s E R) (fun v s₁ hq65 => ?_) fun _ _ x => x)
  refine hide fun Pz hPz => ?_
  obtain ⟨a, st₁, hv, R₁, l, ea, ⟨xs₀, el⟩, h₁⟩ := hq65
  refine hPz ?_
  clear hPz Pz
  subst ea; rw [vabs_ref hv]
  obtain ⟨vs₀, n₀, hl₀, _⟩ := R₁.listE el
  refine ⟨⟨_, hl₀, rfl⟩, R₁.listNo el, wpAny_items_cons (wpAny_mono (h₁.run ex s₁ E R₁) (fun y s₂ hy6 => ?_) fun _ _ x => x) (star_plain hp _)⟩
  refine hide fun Pz hPz => ?_
  obtain ⟨yv, st₂, hy, R₂, xs, el₂, hlen, h₂⟩ := hy6
  refine hPz ?_
  clear hPz Pz
  refine wpAny_items_nil ?_
  obtain ⟨vs, n, hl, hab⟩ := R₂.listE el₂
  have hz : vs.size = xs.length := by rw [← hab.length, Array.length_toList]
  refine wpAny_list_append_plain ⟨n, hl⟩ (fun h' hl' hs => ⟨.none, _, rfl, ?_, h₂⟩) (by rw [sizeLine_eq]; lia)
  obtain ⟨n', hl'⟩ := hl'
  exact R₂.upd el₂ (s' := { s₂ with heap := h' }) (fun c o' q z => (hs.2 c q).trans z) hl' ⟨_, _, rfl, by rw [Array.toList_push]; exact hab.append (Absl.cons hy .nil)⟩ R₂.gens rfl
theorem op_sum (ok : COk C) {l : Addr} {ns : List Int} {K : AV → St → Prop} (e : st.hp l = some (.list (ns.map .int))) (h : K (.int ns.sum) st) : Op prog w G C (call (.builtin "sum") [.ref l]) st K := .mk fun ex s E R => by
  refine hide fun Pz hPz => ?_
  obtain ⟨vs, hl, hab⟩ := R.list e
  have hi := hab.ints
  obtain ⟨xs, hxs⟩ := (hi.allInts : AllInts vs.toList.toArray).items
  refine hPz ?_
  clear hPz Pz
  have hvs : vs = intItems xs := by rw [← hxs]
  subst hvs
  refine sum_intListG ok.hand hl fun h' tk t' hk => ⟨.int ns.sum, st, ?_, R.heap hk, h⟩
  rw [preSum_eq, List.take_of_length_le (by simp)]
  exact congrArg (fun i => some (AV.int i)) (by rw [← hi.numsOf, nums_intItems])
end
end Mine
end
section
open PySem PySem.W PySem.Calls PyProof.Rows
set_option Elab.async false
set_option linter.unusedVariables false
namespace Mine
variable {prog : Program} {w : World}
theorem cellsFrom_app : ∀ (names : List (Str × NameKind)) (n : Nat) (acc acc' : List (Str × Addr)), cellsFrom n names (acc ++ acc') = cellsFrom n names acc ++ acc' := by
  intro names
  induction names with
  | nil =>
    intro _ _ _
    rfl
  | cons q0 r ih =>
    intro n acc acc'
    obtain ⟨y, k⟩ := q0
    unfold cellsFrom
    split
    · exact ih (n + 1) ((y, n) :: acc) acc'
    · exact ih n acc acc'
theorem lookup_app {α : Type} : ∀ (l l' : List (Str × α)) (x : Str), (l ++ l').lookup x = (l.lookup x).or (l'.lookup x) := by
  intro l
  induction l with
  | nil =>
    intro _ _
    simp
  | cons q0 r ih =>
    intro l' x
    obtain ⟨y, v⟩ := q0
    simp only [List.cons_append, List.lookup_cons]
    cases x == y with
    | true => rfl
    | false => exact ih l' x
noncomputable def closL (env : Env) : List (Str × NameKind) → List (Str × Addr) → Option (List (Str × Addr))
  | [], acc => some acc
  | (y, k) :: r, acc => if k == .free then ((env.cells.lookup y).bind fun c => closL env r ((y, c) :: acc)) else closL env r acc
theorem closL_inv {env : Env} {y : Str} {k : NameKind} {r : List (Str × NameKind)} {acc cl : List (Str × Addr)} (h : closL env ((y, k) :: r) acc = some cl) : (k = .free ∧ ∃ c, env.cells.lookup y = some c ∧ closL env r ((y, c) :: acc) = some cl) ∨ ((k == .free) = false ∧ closL env r acc = some cl) := by
  have h : (if (k == .free) = true then (env.cells.lookup y).bind fun c => closL env r ((y, c) :: acc) else closL env r acc) = some cl := h
  cases q : k == .free with
  | true => rw [if_pos q] at h; exact .inl ⟨eq_of_beq q, Option.bind_eq_some_iff.mp h⟩
  | false => rw [if_neg (by rw [q]; rintro ⟨⟩)] at h; exact .inr ⟨rfl, h⟩
theorem clos_eq {scope : Scope} {env : Env} {cl : List (Str × Addr)} (h : closL env scope.names [] = some cl) : closureFor scope env = pure cl := by
  unfold closureFor
  have key : ∀ (names : List (Str × NameKind)) (acc : List (Str × Addr)), closL env names acc = some cl →
      (forIn names acc fun x cs => match x with | (name, kind) => if (kind == NameKind.free) = true then do let a ← cellOf env name; pure (ForInStep.yield ((name, a) :: cs)) else pure (ForInStep.yield cs)) = (pure cl : Sem _) := by
    intro names
    induction names with
    | nil => intro acc h; cases h; rfl
    | cons p r ih =>
      intro acc h
      obtain ⟨y, k⟩ := p
      rw [List.forIn_cons]
      rcases closL_inv h with ⟨rfl, c, hc, h⟩ | ⟨hk, h⟩
      · have : cellOf env y = pure c := by unfold cellOf; rw [hc]
        simp only [beq_self_eq_true, if_true]
        rw [this]
        exact ih _ h
      · simp only [hk]
        exact ih _ h
  have := key scope.names [] h
  exact (congrArg (fun t : Sem (List (Str × Addr)) => t >>= fun r => pure r) this)
theorem closL_lookup {env : Env} : ∀ {names : List (Str × NameKind)} {acc cl : List (Str × Addr)}, closL env names acc = some cl → (∀ x c, acc.lookup x = some c → env.cells.lookup x = some c) → ∀ x c, cl.lookup x = some c → env.cells.lookup x = some c := by
  intro names
  induction names with
  | nil =>
    intro acc cl h ha
    cases h; exact ha
  | cons q0 r ih =>
    intro acc cl h ha
    obtain ⟨y, k⟩ := q0
    rcases closL_inv h with ⟨_, c, hc, h⟩ | ⟨_, h⟩
    · refine ih h fun x c' hx => ?_
      rw [List.lookup_cons] at hx
      cases q : x == y with
      | true => rw [q] at hx; cases hx; rw [eq_of_beq q]; exact hc
      | false => rw [q] at hx; exact ha x c' hx
    · exact ih h ha
theorem closL_keeps {env : Env} : ∀ {names : List (Str × NameKind)} {acc cl : List (Str × Addr)}, closL env names acc = some cl → ∀ x, (acc.lookup x).isSome = true → (cl.lookup x).isSome = true := by
  intro names
  induction names with
  | nil =>
    intro acc cl h x hx
    cases h; exact hx
  | cons q0 r ih =>
    intro acc cl h x hx
    obtain ⟨y, k⟩ := q0
    rcases closL_inv h with ⟨_, c, hc, h⟩ | ⟨_, h⟩
    · refine ih h x ?_
      rw [List.lookup_cons]
      cases q : x == y with
      | true => rfl
      | false => exact hx
    · exact ih h x hx
theorem closL_some {env : Env} : ∀ {names : List (Str × NameKind)} {acc cl : List (Str × Addr)}, closL env names acc = some cl → ∀ x, (x, NameKind.free) ∈ names → (cl.lookup x).isSome = true := by
  intro names
  induction names with
  | nil =>
    intros; contradiction
  | cons q0 r ih =>
    intro acc cl h x hx
    obtain ⟨y, k⟩ := q0
    rcases closL_inv h with ⟨_, c, _, h'⟩ | ⟨hk, h'⟩
    · rcases List.mem_cons.mp hx with e | hx
      · cases e; exact closL_keeps h' x (by simp [List.lookup_cons])
      · exact ih h' x hx
    · rcases List.mem_cons.mp hx with e | hx
      · cases e; cases hk
      · exact ih h' x hx
theorem new_block {M : Model} {A : Around} {E : Value → Shared → Prop} {s : Shared} {scope : Scope} {env : Env} {cl : List (Str × Addr)} {Q : Env → Shared → Prop}
    (h : ∀ h', (∀ b o, s.heap.get? b = some o → h'.get? b = some o) → h'.Ns s.heap.objs.size (fun _ => none) → CellsOk h' (s.heap.objs.size + 1) (cellsFrom (s.heap.objs.size + 1) scope.names []) →
      Q (newEnv scope s.heap.objs.size env.globals (cellsFrom (s.heap.objs.size + 1) scope.names [] ++ cl) env.qual none .none (some env) builtinsNs) { s with heap := h' }) :
    wpAny M A (newFunctionEnv scope env.globals cl [] env.qual none .none (some env)) Q E s := by
  simp only [newFunctionEnv, Option.isSome_some, if_true]
  refine wpAny_bind (wpAny_alloc ?_)
  refine wpAny_bind (wpAny_layCells _ (fun name kind cells => by cases hkc : kind == NameKind.cell <;> simp [hkc]) _ _ _ _ ?_)
  have ok := cellsFrom_ok scope.names (s.heap.push { cls := .type "dict", data := .dict #[] }) (s.heap.objs.size + 1) [] ⟨fun _ _ hm => (by cases hm), List.Pairwise.nil⟩ (by rw [Heap.size_push]; exact Nat.le_refl _)
  rw [Heap.size_push] at ok
  rw [show ({ s with heap := s.heap.push { cls := .type "dict", data := .dict #[] } } : Shared).heap.objs.size = s.heap.objs.size + 1 from Heap.size_push ..]
  have e := cellsFrom_app scope.names (s.heap.objs.size + 1) [] cl
  rw [List.nil_append] at e
  rw [e]
  refine wpAny_bind (wpAny_pure (wpAny_pure ?_))
  exact h _ (fun b o q => pushCells_keeps _ _ b o (Heap.get?_push_of_some _ q)) ((Heap.Ns.new s.heap (.type "dict")).keeps (pushCells_keeps _ _)) ok
theorem SrcK.self {A : Around} {s : Shared} {I : Addr} {sk : SrcK} {i : Nat} {Q : Value → Shared → Prop} {E : Value → Shared → Prop} (h : ∃ o, s.heap.get? I = some o ∧ sk.ob i o) (q : Q (.ref I) s) : wpAny (model prog w) A (pyIter (.ref I)) Q E s := by
  obtain ⟨o, ho, hb⟩ := h
  cases sk with
  | list l xs => exact wpAny_pyIter_listiter ⟨o, ho, hb.1, hb.2⟩ q
  | tup l xs => exact wpAny_pyIter_tupleiter ⟨o, ho, hb.1, hb.2⟩ q
  | range a n => exact wpAny_pyIter_rangeiter (ho.trans (congrArg some hb)) q
  | items d es ep => obtain ⟨ok, ov, e⟩ := hb; exact kcp_self (ho.trans (congrArg some e)) q
  | vals d es ep => exact wpAny_pyIter_valiter ⟨o, ho, hb.1, hb.2⟩ q
  | keys d es ep => exact wpAny_pyIter_keyiter ⟨o, ho, hb.1, hb.2⟩ q
theorem compLoop_list {A : Around} {R : Result → Shared → Prop} {s : Shared} {elt target iter : Expr} {ifs : List Expr} {scope : Scope} {pos : Pos} {it acc : Value} {env : Env} (I : Nat → Shared → Prop)
    (turn : ∀ n s, I n s → wpAny (model prog w) A (pyNext it) (fun r s₁ => match r with
      | none => R (.ok .next) s₁
      | some v => wpAny (model prog w) A (letOwnedTupleGo target it v) (fun _ s₁' => wpAny (model prog w) A (assign target env v) (fun _ s₂ =>
          wpAny (model prog w) A (forIn ifs true fun c r => if r = true then do let ok ← isTrue c env (eval c env); pure (ForInStep.yield ok) else pure (ForInStep.yield r)) (fun ok s₃ =>
            if ok = true then wpAny (model prog w) A (eval elt env) (fun x s₄ =>
              wpAny (model prog w) A (call (.builtin "list.append") [acc, x]) (fun _ s₅ => ∃ m, m < n ∧ I m s₅) (notedBy (model prog w) A env fun e s' => R (.error e) s') s₄) (notedBy (model prog w) A env fun e s' => R (.error e) s') s₃
            else ∃ m, m < n ∧ I m s₃) (notedBy (model prog w) A env fun e s' => R (.error e) s') s₂) (notedBy (model prog w) A env fun e s' => R (.error e) s') s₁') (notedBy (model prog w) A env fun e s' => R (.error e) s') s₁) (notedBy (model prog w) A env fun e s' => R (.error e) s') s)
    (n : Nat) (h : I n s) : codeAny (model prog w) A (.compLoop (.ListComp elt [⟨target, iter, ifs, 0⟩] scope pos) 0 it acc env) R s := by
  refine codeAny_loop rfl I (fun n s hI => ?_) n h
  refine wpAny_noted (m := compTurn (.ListComp elt [⟨target, iter, ifs, 0⟩] scope pos) 0 it acc env) ?_
  rw [compTurn_list]
  refine wpAny_bind (wpAny_standAt (wpAny_bind (wpAny_mono (turn n s hI) (fun r s₁ h₁ => ?_) fun _ _ h' => h')))
  cases r with
  | none => exact wpAny_pure h₁
  | some v =>
    refine wpAny_bind (wpAny_mono h₁ (fun _ s₁' h₁' => wpAny_bind (wpAny_mono h₁' (fun _ s₂ h₂ => wpAny_bind (wpAny_mono h₂ (fun ok s₃ h₃ => ?_) fun _ _ h' => h')) fun _ _ h' => h')) fun _ _ h' => h')
    cases ok with
    | false => exact wpAny_pure ⟨rfl, h₃⟩
    | true => exact wpAny_bind (wpAny_bind (wpAny_mono h₃ (fun x s₄ h₄ => wpAny_bind (wpAny_mono h₄ (fun _ s₅ h₅ => wpAny_pure (wpAny_pure ⟨rfl, h₅⟩)) fun _ _ h' => h')) fun _ _ h' => h'))
end Mine
end
section
open PySem PySem.W PySem.Calls PyProof.Rows
set_option Elab.async false
set_option linter.unusedVariables false
namespace Mine
variable {prog : Program} {w : World}
noncomputable def compL {α : Type} (bind : α → St → St) (P : St → Prop) (test : St → (Bool → St → Prop) → Prop) (elt : St → (AV → St → Prop) → Prop) : List α → List AV → St → (List AV → St → Prop) → Prop
  | [], acc, st, K => K acc st
  | x :: r, acc, st, K => test (bind x st) fun b st₁ =>
    if b = true then elt st₁ fun v st₂ => A3 (acc.length ≤ 1000) (P st₂) (compL bind P test elt r (acc ++ [v]) st₂ K)
    else P st₁ ∧ compL bind P test elt r acc st₁ K
section
variable {G : Gl} {C : Cx} {st : St} {ex : Addr → Option Obj} {s : Shared}
variable (prog w) in
structure Ts (G : Gl) (C : Cx) (ifs : List Expr) (st : St) (K : Bool → St → Prop) : Prop where
  run : ∀ ex s E, Real prog w G C ex st s → wpAny (model prog w) C.A (forIn ifs true fun c r => if r = true then do let ok ← isTrue c C.env (eval c C.env); pure (ForInStep.yield ok) else pure (ForInStep.yield r)) (fun b s' => ∃ st', Real prog w G C ex st' s' ∧ K b st') E s
theorem ts_nil {K : Bool → St → Prop} (h : K true st) : Ts prog w G C [] st K := .mk fun ex s E R => wpAny_tests_nil ⟨st, R, h⟩
theorem ts_one {c : Expr} {K : Bool → St → Prop} (h : Tr prog w G C c st K) : Ts prog w G C [c] st K := .mk fun ex s E R => wpAny_tests_one (h.run ex s E R)
theorem comp_loop {α : Type} {target : Expr} {I D : Addr} {xs : List α} {bind : α → St → St} {ob : Nat → Obj → Prop} {P : St → Prop} (W : Iter prog w G C target I xs bind ob P) {elt iter : Expr} {ifs : List Expr} {scope : Scope} {pos : Pos} {K : List AV → St → Prop} {R' : Result → Shared → Prop}
    (R : Real prog w G C ex st s) (O : Off G C ex st I) (hI : ∃ o, s.heap.get? I = some o ∧ ob 0 o) (OD : Off G C ex st D) (hID : I ≠ D) (hD : ∃ n, s.heap.get? D = some (listO #[] n)) (hP : P st)
    (h : compL bind P (fun st K => Ts prog w G C ifs st K) (fun st K => Ev prog w G C elt st K) xs [] st K)
    (hR : ∀ s' ys st' vs n, Real prog w G C ex st' s' → Off G C ex st' D → s'.heap.get? D = some (listO vs n) → Absl vs.toList ys → K ys st' → R' (.ok .next) s') :
    codeAny (model prog w) C.A (.compLoop (.ListComp elt [⟨target, iter, ifs, 0⟩] scope pos) 0 (.ref I) (.ref D) C.env) R' s := by
  refine compLoop_list (fun n s => E5 fun i st acc vs c => A10 (i ≤ xs.length) (n = xs.length - i) (Real prog w G C ex st s) (Off G C ex st I) (∃ o, s.heap.get? I = some o ∧ ob i o) (Off G C ex st D) (s.heap.get? D = some (listO vs c)) (Absl vs.toList acc) (P st) (compL bind P (fun st K => Ts prog w G C ifs st K) (fun st K => Ev prog w G C elt st K) (xs.drop i) acc st K)) ?_ xs.length
    (by obtain ⟨n, hD⟩ := hD; exact ⟨0, st, [], #[], n, Nat.zero_le _, rfl, R, O, hI, OD, hD, .nil, hP, by simpa using h⟩)
  rintro n s ⟨i, st, acc, vs, c, hi, rfl, R, O, hI, OD, hD, hab, hP, h⟩
  rcases Nat.lt_or_ge i xs.length with hlt | hge
  · have hx : xs[i]? = some xs[i] := List.getElem?_eq_getElem hlt
    rw [List.drop_eq_getElem_cons hlt] at h
    have h : Ts prog w G _ ifs (bind xs[i] st) _ := h
    have RD := R.hold OD hD
    have OI : Off G C (Mine.hold ex D (listO vs c)) st I := ⟨by unfold Mine.hold; rw [if_neg hID]; exact O.ex, O.loc, O.own, O.hp, O.tab, O.fr⟩
    refine wpAny_mono (W.step i _ (Mine.hold ex D (listO vs c)) st s _ (fun s₃ => Real prog w G C (Mine.hold ex D (listO vs c)) (bind xs[i] st) s₃ ∧ ∃ o, s₃.heap.get? I = some o ∧ ob (i + 1) o) hx hP RD OI hI fun s' a b => ⟨a, b⟩) (fun r s₁ h₁ => ?_) fun _ _ x => x
    cases r with
    | none => exact h₁.elim
    | some v =>
      refine wpAny_mono h₁ (fun _ s₂ h₂ => wpAny_mono h₂ (fun _ s₃ h₃ => ?_) fun _ _ x => x) fun _ _ x => x
      obtain ⟨R₃, o, ho, hob⟩ := h₃
      have O₃ : Off G C (Mine.hold ex D (listO vs c)) (bind xs[i] st) I := OI.hp_eq (W.bhp _ _)
      have RH := R₃.hold O₃ ho
      have unhold : ∀ {st' s'}, Real prog w G C (Mine.hold (Mine.hold ex D (listO vs c)) I o) st' s' → A5 (Real prog w G C ex st' s') (Off G C ex st' I) (s'.heap.get? I = some o) (Off G C ex st' D) (s'.heap.get? D = some (listO vs c)) := by
        intro st' s' RX
        obtain ⟨R₅, O₅, ho₅⟩ := RX.drop OI.ex RD.base
        obtain ⟨R₆, O₆, ho₆⟩ := R₅.drop OD.ex R.base
        exact ⟨R₆, ⟨O.ex, O₅.loc, O₅.own, O₅.hp, O₅.tab, O₅.fr⟩, ho₅, O₆, ho₆⟩
      refine wpAny_mono (h.run _ s₃ _ RH) (fun b s₄ hq67 => ?_) fun _ _ x => x
      obtain ⟨st₄, R₄, h₄⟩ := hq67
      cases b with
      | false =>
        simp only [Bool.false_eq_true, if_false] at h₄ ⊢
        obtain ⟨R₅, O₅, ho₅, O₆, ho₆⟩ := unhold R₄
        exact ⟨xs.length - (i + 1), Nat.sub_succ_lt_self _ _ ‹_›, i + 1, st₄, acc, vs, c, hlt, rfl, R₅, O₅, ⟨o, ho₅, hob⟩, O₆, ho₆, hab, h₄.1, h₄.2⟩
      | true =>
        simp only [if_true] at h₄ ⊢
        refine wpAny_mono (h₄.run _ s₄ _ R₄) (fun x s₅ hq68 => ?_) fun _ _ x => x
        refine hide fun Pz hPz => ?_
        obtain ⟨y, st₅, hy, R₅, hlen, hP₅, h₅⟩ := hq68
        obtain ⟨R₆, O₆, ho₆, O₇, ho₇⟩ := unhold R₅
        refine hPz ?_
        clear hPz Pz
        have hz : vs.size = acc.length := by rw [← hab.length, Array.length_toList]
        refine wpAny_list_append_plain ⟨c, ho₇⟩ (fun h' hl' hs => ?_) (by rw [sizeLine_eq]; lia)
        obtain ⟨c', hl'⟩ := hl'
        refine ⟨xs.length - (i + 1), Nat.sub_succ_lt_self _ _ ‹_›, i + 1, st₅, acc ++ [y], _, c', hlt, rfl, ?_, O₆, ⟨o, (hs.2 I hID).trans ho₆, hob⟩, O₇, hl', ?_, hP₅, h₅⟩
        · exact R₆.scratch O₇ (fun b o' q e => (hs.2 b q).trans e) (fun o' r e q => by rw [ho₇] at e; cases e; cases q) R₆.gens rfl
        · rw [Array.toList_push]; exact hab.append (Absl.cons hy .nil)
  · have hd : xs.drop i = [] := List.drop_eq_nil_of_le hge
    rw [hd] at h
    have hil : i = xs.length := Nat.le_antisymm ‹_› ‹_›
    subst hil
    have RD := R.hold OD hD
    have OI : Off G C (Mine.hold ex D (listO vs c)) st I := ⟨by unfold Mine.hold; rw [if_neg hID]; exact O.ex, O.loc, O.own, O.hp, O.tab, O.fr⟩
    refine wpAny_mono (W.fin _ st s _ (fun s₁ => Real prog w G C (Mine.hold ex D (listO vs c)) st s₁) hP RD OI hI fun s' a => a) (fun r s₁ hq69 => ?_) fun _ _ x => x
    obtain ⟨e, R₁⟩ := hq69
    subst e
    obtain ⟨R₆, O₆, ho₆⟩ := R₁.drop OD.ex R.base
    exact hR _ _ _ _ _ R₆ O₆ ho₆ hab h
noncomputable def inner (caps : List Nat) (st : St) : St := { st with loc := fun i => if i ∈ caps then st.loc i else none }
theorem relabel_other {env : Env} : ∀ {names : List (Str × NameKind)} {x : Str} {k : NameKind}, k ≠ .free → names.lookup x = some k →
    (names.map fun (n, k) => if (k == NameKind.free && env.scope.kind == .function && env.kindOf n == some .cell) then (n, NameKind.cell) else (n, k)).lookup x = some k := by
  intro names
  induction names with
  | nil =>
    intro _ _ _ h
    simp at h
  | cons q0 r ih =>
    intro x k hk h
    obtain ⟨n, k'⟩ := q0
    have ih := @ih x k hk
    show List.lookup x ((if (k' == NameKind.free && env.scope.kind == .function && env.kindOf n == some .cell) = true then (n, NameKind.cell) else (n, k')) :: _) = _
    rw [List.lookup_cons] at h
    cases q : x == n with
    | true =>
      rw [q] at h; cases h
      have : (k == NameKind.free) = false := by cases k <;> first | rfl | exact absurd rfl hk
      rw [if_neg (by rw [this]; simp)]
      simp [List.lookup_cons, q]
    | false =>
      rw [q] at h
      by_cases hc : (k' == NameKind.free && env.scope.kind == .function && env.kindOf n == some .cell) = true
      · rw [if_pos hc]; simp only [List.lookup_cons, q]; exact ih h
      · rw [if_neg hc]; simp only [List.lookup_cons, q]; exact ih h
theorem relabel_free {env : Env} : ∀ {names : List (Str × NameKind)} {x : Str}, names.lookup x = some .free →
    (names.map fun (n, k) => if (k == NameKind.free && env.scope.kind == .function && env.kindOf n == some .cell) then (n, NameKind.cell) else (n, k)).lookup x = some .cell ∨
    (names.map fun (n, k) => if (k == NameKind.free && env.scope.kind == .function && env.kindOf n == some .cell) then (n, NameKind.cell) else (n, k)).lookup x = some .free := by
  intro names
  induction names with
  | nil =>
    intro _ h
    simp at h
  | cons q0 r ih =>
    intro x h
    obtain ⟨n, k'⟩ := q0
    have ih := @ih x
    show List.lookup x ((if (k' == NameKind.free && env.scope.kind == .function && env.kindOf n == some .cell) = true then (n, NameKind.cell) else (n, k')) :: _) = _ ∨ List.lookup x ((if (k' == NameKind.free && env.scope.kind == .function && env.kindOf n == some .cell) = true then (n, NameKind.cell) else (n, k')) :: _) = _
    rw [List.lookup_cons] at h
    cases q : x == n with
    | true =>
      rw [q] at h; cases h
      by_cases hc : (NameKind.free == NameKind.free && env.scope.kind == .function && env.kindOf n == some .cell) = true
      · rw [if_pos hc]; left; simp [List.lookup_cons, q]
      · rw [if_neg hc]; right; simp [List.lookup_cons, q]
    | false =>
      rw [q] at h
      by_cases hc : (k' == NameKind.free && env.scope.kind == .function && env.kindOf n == some .cell) = true
      · rw [if_pos hc]; simp only [List.lookup_cons, q]; exact ih h
      · rw [if_neg hc]; simp only [List.lookup_cons, q]; exact ih h
structure CompOk (C : Cx) (scope : Scope) (caps : List Nat) : Prop where
  kind : scope.kind = .function
  names : ∀ y ∈ scope.names, y.2 = .local → scope.names.lookup y.1 = some .local
  free : ∀ y, (y, NameKind.free) ∈ scope.names → (C.env.cells.lookup y).isSome = true
  caps : ∀ j ∈ caps, A5 (j < C.N) ((C.ns j, NameKind.free) ∈ scope.names) (scope.names.lookup (C.ns j) = some .free) (C.env.kindOf (C.ns j) ≠ some .local) ((C.ns j, NameKind.cell) ∉ scope.names)
structure Inside (C C' : Cx) (scope : Scope) : Prop where
  fr : C'.fr = C.fr
  ok : COk C'
  A : C'.A = C.A
  ns : C'.ns = C.ns
  N : C'.N = C.N
  kinds : ∀ x k, k ≠ .free → scope.names.lookup x = some k → C'.env.kindOf x = some k
  frees : ∀ x, scope.names.lookup x = some .free → C'.env.kindOf x = some .cell ∨ C'.env.kindOf x = some .free
  cells : ∀ x, (x, NameKind.free) ∈ scope.names ∨ scope.names.lookup x = some .cell → (C'.env.cells.lookup x).isSome = true
  sto : ∀ i, i < C.N → (scope.names.lookup (C.ns i) = some .local ∨ scope.names.lookup (C.ns i) = some .cell) → Sto C' i
  kind : C'.env.scope.kind = .function
theorem clos_of {env : Env} : ∀ {names : List (Str × NameKind)} {acc : List (Str × Addr)}, (∀ y, (y, NameKind.free) ∈ names → (env.cells.lookup y).isSome = true) → ∃ cl, closL env names acc = some cl := by
  intro names
  induction names with
  | nil =>
    intro acc _
    exact ⟨acc, rfl⟩
  | cons q0 r ih =>
    intro acc h
    obtain ⟨y, k⟩ := q0
    cases q : k == .free with
    | true =>
      cases eq_of_beq q
      obtain ⟨c, hc⟩ := Option.isSome_iff_exists.mp (h y (.head _))
      obtain ⟨cl, e⟩ := @ih ((y, c) :: acc) fun z hz => h z (.tail _ hz)
      exact ⟨cl, (congrArg (fun o => Option.bind o fun c => closL env r ((y, c) :: acc)) hc).trans e⟩
    | false =>
      obtain ⟨cl, e⟩ := @ih acc fun z hz => h z (.tail _ hz)
      exact ⟨cl, (if_neg (by rw [q]; rintro ⟨⟩)).trans e⟩
theorem Real.back' {C' : Cx} {ex' : Addr → Option Obj} {st' : St} {s' : Shared} (R : Real prog w G C ex st s) (R' : Real prog w G C' ex' st' s') (hex : ∀ b o, ex b = some o → ex' b = some o) (hL : ∀ o, s.heap.get? C.env.locals = some o → ex' C.env.locals = some o)
    (hcell : ∀ c o r, s.heap.get? c = some o → o.data = .cell r → ex' c = some o) (hfr : C'.fr = C.fr) : Real prog w G C ex { st with hp := st'.hp } s' := by
  obtain ⟨m, hn, hl⟩ := R.ns
  refine ⟨⟨m, Ns_at hn fun o e => R'.keep _ o (hL o e), fun i av e => ?_⟩, fun b o e => R'.keep b o (hex b o e), R.base, R.exL, fun c hc => ?_, fun a A e => ?_, ⟨R.tab.1, R'.tab.2⟩, R'.gens, R'.os, fun x c h => by obtain ⟨r, o, ho, hd⟩ := R.cells x c h; exact ⟨r, o, R'.keep c o (hcell c o r ho hd), hd⟩, fun p hp => ?_⟩
  · obtain ⟨a1, v, a2, a3⟩ := hl i av e
    exact ⟨a1, v, a2, a3.mono fun c o e hq70 => by obtain ⟨r, hr⟩ := hq70; exact R'.keep c o (hcell c o r e hr)⟩
  · obtain ⟨a1, r, o, ho, hd⟩ := R.exC c hc
    exact ⟨a1, r, o, R'.keep c o (hcell c o r ho hd), hd⟩
  · obtain ⟨a1, a2, o, ho, hA⟩ := R'.hp a A e
    refine ⟨?_, fun q => ?_, o, ho, hA⟩
    · cases q : ex a with
      | none => rfl
      | some o' => rw [hex a o' q] at a1; cases a1
    · obtain ⟨oL, hoL, _⟩ := R.live
      rw [q, hL oL hoL] at a1; cases a1
  · obtain ⟨a1, a2, a3, a4⟩ := R.frs p hp
    obtain ⟨b1, b2, b3, b4⟩ := R'.frs p (by rw [hfr]; exact hp)
    exact ⟨a1, a2, b3, b4⟩
theorem cellsFrom_mem : ∀ {names : List (Str × NameKind)} {n : Nat} {acc : List (Str × Addr)} {x : Str} {c : Addr}, (x, c) ∈ cellsFrom n names acc → (x, NameKind.cell) ∈ names ∨ (x, c) ∈ acc := by
  intro names
  induction names with
  | nil =>
    intro _ _ _ _ h
    exact .inr h
  | cons q0 r ih =>
    intro n acc x c h
    obtain ⟨y, k⟩ := q0
    unfold cellsFrom at h
    split at h
    · rename_i hk
      have hk' : k = .cell := by cases k <;> first | rfl | cases hk
      rcases ih h with q | q
      · exact .inl (.tail _ q)
      · rcases List.mem_cons.mp q with e | q
        · obtain ⟨rfl, rfl⟩ := Prod.mk.inj e; subst hk'; exact .inl (.head _)
        · exact .inr q
    · rcases ih h with q | q
      · exact .inl (.tail _ q)
      · exact .inr q
theorem open_block (ok : COk C) {scope : Scope} {caps : List Nat} (co : CompOk C scope caps) {cl : List (Str × Addr)} (hcl : closL C.env scope.names [] = some cl) (R : Real prog w G C ex st s) {I D : Addr} (hI : ∀ o r, s.heap.get? I = some o → o.data ≠ .cell r) (hDn : ∀ o r, s.heap.get? D = some o → o.data ≠ .cell r)
    (O : Off G C ex st I) (OD : Off G C ex st D) (hIx : ∃ o, s.heap.get? I = some o) (hDx : ∃ o, s.heap.get? D = some o)
    {h' : Heap} (hk : ∀ b o, s.heap.get? b = some o → h'.get? b = some o) (hn : h'.Ns s.heap.objs.size (fun _ => none)) (hc : CellsOk h' (s.heap.objs.size + 1) (cellsFrom (s.heap.objs.size + 1) scope.names [])) {env' : Env}
    (he : env' = { newEnv scope s.heap.objs.size C.env.globals (cellsFrom (s.heap.objs.size + 1) scope.names [] ++ cl) C.env.qual none .none (some C.env) builtinsNs with scope := relabel scope C.env }) :
    E2 fun C' ex' => A8 (C'.env = env') (Inside C C' scope) (Real prog w G C' ex' (inner caps st) { s with heap := h' }) (Off G C' ex' (inner caps st) I) (Off G C' ex' (inner caps st) D) (∀ b o, ex b = some o → ex' b = some o) (∀ o, s.heap.get? C.env.locals = some o → ex' C.env.locals = some o) (∀ c o r, s.heap.get? c = some o → o.data = .cell r → ex' c = some o) := by
  have hnew : ∀ b, s.heap.objs.size ≤ b → s.heap.get? b = none := fun b hb => by
    cases q : s.heap.get? b with
    | none => rfl
    | some o => exact absurd (Heap.lt_size q) (Nat.not_lt.mpr hb)
  have hL : env'.locals = s.heap.objs.size := by rw [he]; rfl
  have hsc : env'.scope = relabel scope C.env := by rw [he]
  have hce : env'.cells = cellsFrom (s.heap.objs.size + 1) scope.names [] ++ cl := by rw [he]; rfl
  have hgl : env'.globals = C.env.globals := by rw [he]; rfl
  have hbl : env'.builtins = C.env.builtins := by rw [he]; rfl
  generalize hown : cellsFrom (s.heap.objs.size + 1) scope.names [] = own0 at hc hce
  have hlk : ∀ x, env'.cells.lookup x = (own0.lookup x).or (cl.lookup x) := fun x => by rw [hce, lookup_app]
  have hclE : ∀ x c, cl.lookup x = some c → C.env.cells.lookup x = some c := closL_lookup hcl (fun x c h => by cases h)
  have hownE : ∀ x c, own0.lookup x = some c → A3 ((x, NameKind.cell) ∈ scope.names) (h'.IsCell c none) (s.heap.objs.size + 1 ≤ c) := fun x c h => by
    have hm := mem_of_lookup h
    refine ⟨?_, (hc.empty x c hm).1, (hc.empty x c hm).2⟩
    rw [← hown] at hm
    rcases cellsFrom_mem hm with q | q
    · exact q
    · cases q
  have hkd : ∀ x k, k ≠ .free → scope.names.lookup x = some k → env'.kindOf x = some k := fun x k hk h => by
    show env'.scope.names.lookup x = some k
    rw [hsc]; exact relabel_other hk h
  have hfr : ∀ x, scope.names.lookup x = some .free → env'.kindOf x = some .cell ∨ env'.kindOf x = some .free := fun x h => by
    show env'.scope.names.lookup x = _ ∨ env'.scope.names.lookup x = _
    rw [hsc]; exact relabel_free h
  let C' : Cx := ⟨C.A, env', C.ns, C.N, (List.range C.N).filterMap fun i => own0.lookup (C.ns i), C.fr⟩
  let ex' : Addr → Option Obj := fun b => if b = I ∨ b = D then none else allBut G C.fr st s b
  have exOf : ∀ b o, b ≠ I → b ≠ D → allBut G C.fr st s b = some o → ex' b = some o := fun b o h1 h2 e => by
    show (if b = I ∨ b = D then none else allBut G C.fr st s b) = some o
    rw [if_neg (by rintro (q | q); exact h1 q; exact h2 q)]; exact e
  have exTo : ∀ b o, ex' b = some o → allBut G C.fr st s b = some o := fun b o e => by
    have e' : (if b = I ∨ b = D then none else allBut G C.fr st s b) = some o := e
    split at e'
    · cases e'
    · exact e'
  have exNew : ∀ b, s.heap.objs.size ≤ b → ex' b = none := fun b hb => by
    cases q : ex' b with
    | none => rfl
    | some o =>
      have := exTo b o q
      unfold allBut at this
      split at this
      · cases this
      · rw [hnew b hb] at this; cases this
  have keepE : ∀ b o, ex b = some o → ex' b = some o := fun b o e => exOf b o (fun q => by rw [q, O.ex] at e; cases e) (fun q => by rw [q, OD.ex] at e; cases e) (allBut_of R e)
  have ownGe : ∀ c ∈ C'.own, s.heap.objs.size + 1 ≤ c ∧ h'.IsCell c none := fun c hc' => by
    obtain ⟨i, _, hi⟩ := List.mem_filterMap.mp hc'
    exact ⟨(hownE _ _ hi).3, (hownE _ _ hi).2⟩
  have okC : COk C' := by
    refine ⟨by show env'.scope.kind = _; rw [hsc]; exact co.kind, ok.dbg, ok.inj, fun x y c hx hy => ?_, ok.hand, hgl.trans ok.glob, hbl.trans ok.blt⟩
    have hx' : env'.cells.lookup x = some c := hx
    have hy' : env'.cells.lookup y = some c := hy
    rw [hlk] at hx' hy'
    cases qx : own0.lookup x with
    | some cx =>
      rw [qx] at hx'
      have ex1 : cx = c := Option.some.inj hx'
      subst ex1
      cases qy : own0.lookup y with
      | some cy =>
        rw [qy] at hy'
        have ey1 : cy = cx := Option.some.inj hy'
        subst ey1
        exact lookup_inj hc.apart qx qy
      | none =>
        rw [qy] at hy'
        obtain ⟨r1, o1, ho1, _⟩ := R.cells _ _ (hclE y cx hy')
        have hge := (hownE x cx qx).3
        have := Heap.lt_size ho1
        exact absurd (Nat.lt_of_lt_of_le this (Nat.le_of_succ_le hge)) (Nat.lt_irrefl _)
    | none =>
      rw [qx] at hx'
      cases qy : own0.lookup y with
      | some cy =>
        rw [qy] at hy'
        have ey1 : cy = c := Option.some.inj hy'
        subst ey1
        obtain ⟨r1, o1, ho1, _⟩ := R.cells _ _ (hclE x cy hx')
        have hge := (hownE y cy qy).3
        have := Heap.lt_size ho1
        exact absurd (Nat.lt_of_lt_of_le this (Nat.le_of_succ_le hge)) (Nat.lt_irrefl _)
      | none =>
        rw [qy] at hy'
        exact ok.cinj _ _ c (hclE x c hx') (hclE y c hy')
  have offB : ∀ b, (∃ o, s.heap.get? b = some o) → Off G C ex st b → (b = I ∨ b = D) → Off G C' ex' (inner caps st) b := fun b hb Ob hbx => by
    obtain ⟨o, ho⟩ := hb
    refine ⟨?_, ?_, fun q => ?_, Ob.hp, Ob.tab, Ob.fr⟩
    · show (if b = I ∨ b = D then none else allBut G C.fr st s b) = none
      rw [if_pos hbx]
    · show b ≠ env'.locals
      rw [hL]; exact Nat.ne_of_lt (Heap.lt_size ho)
    · have h1 := (ownGe b q).1
      have h2 := Heap.lt_size ho
      exact absurd (Nat.lt_of_lt_of_le h2 (Nat.le_of_succ_le h1)) (Nat.lt_irrefl _)
  refine ⟨C', ex', rfl, ⟨rfl, okC, rfl, rfl, rfl, hkd, hfr, fun x hx => ?_, fun i hi hki => ⟨hi, ?_⟩, by show env'.scope.kind = _; rw [hsc]; exact co.kind⟩, ?_, offB I hIx O (.inl rfl), offB D hDx OD (.inr rfl), keepE, fun o e => exOf _ o (Ne.symm O.loc) (Ne.symm OD.loc) (allBut_get R.locH (Ne.symm R.tabL) (fun m q => (R.frs _ q).2 rfl) e), fun c o r e hr =>
    exOf c o (fun q => hI o r (q ▸ e) hr) (fun q => hDn o r (q ▸ e) hr) (allBut_get (R.cell_off e hr).1 (R.cell_off e hr).2 (R.cell_off e hr).4 e)⟩
  · show (env'.cells.lookup x).isSome = true
    rw [hlk]
    rcases hx with hx | hx
    · have := closL_some hcl x hx
      cases own0.lookup x <;> simp [this]
    · have := cellsFrom_some (x := x) scope.names (s.heap.objs.size + 1) [] (.inl hx)
      rw [hown] at this
      obtain ⟨c, hc'⟩ := Option.isSome_iff_exists.mp this
      rw [hc']; rfl
  · show env'.kindOf (C.ns i) = _ ∨ (env'.kindOf (C.ns i) = _ ∧ ∃ c, env'.cells.lookup (C.ns i) = some c ∧ c ∈ (List.range C.N).filterMap fun i => own0.lookup (C.ns i))
    rcases hki with q | q
    · exact .inl (hkd _ _ (by rintro ⟨⟩) q)
    · have hs := cellsFrom_some (x := C.ns i) scope.names (s.heap.objs.size + 1) [] (.inl q)
      rw [hown] at hs
      obtain ⟨c, hc'⟩ := Option.isSome_iff_exists.mp hs
      exact .inr ⟨hkd _ _ (by rintro ⟨⟩) q, c, by rw [hlk, hc']; rfl, List.mem_filterMap.mpr ⟨i, List.mem_range.mpr hi, hc'⟩⟩
  · refine ⟨⟨fun _ => none, by show h'.Ns env'.locals _; rw [hL]; exact hn, fun i av e => ?_⟩, fun b o e => ?_, fun b o e => keepE b o (R.base b o e), ?_, fun c hc' => ⟨exNew c (by have := (ownGe c hc').1; exact Nat.le_of_lt ‹_›), _, (ownGe c hc').2⟩, fun a A e => ?_, ?_, R.gens, R.os, fun x c h => ?_, fun p hp => ?_⟩
    · have e' : (if i ∈ caps then st.loc i else none) = some av := e
      split at e'
      · rename_i hic
        refine hide fun Pz hPz => ?_
        obtain ⟨m, hnn, hl⟩ := R.ns
        obtain ⟨hi, v, hv, y⟩ := hl i av e'
        obtain ⟨c1, c2, c3, c4, c5⟩ := co.caps i hic
        refine hPz ?_
        clear hPz Pz
        refine ⟨hi, v, hv, ?_⟩
        rcases y with ⟨y, _⟩ | ⟨y, c, hcc, o, ho, hd⟩
        · exact absurd y c4
        · refine .inr ⟨hfr _ c3, c, ?_, o, hk c o ho, hd⟩
          show env'.cells.lookup (C.ns i) = some c
          have h0 : own0.lookup (C.ns i) = none := by
            cases q : own0.lookup (C.ns i) with
            | none => rfl
            | some c' => exact absurd (hownE _ _ q).1 c5
          rw [hlk, h0]
          obtain ⟨c', hc'⟩ := Option.isSome_iff_exists.mp (closL_some hcl _ c2)
          have := hclE _ _ hc'
          rw [hcc] at this; cases this
          rw [hc']; rfl
      · cases e'
    · have := exTo b o e
      unfold allBut at this
      split at this
      · cases this
      · exact hk b o this
    · show ex' env'.locals = none
      rw [hL]; exact exNew _ (Nat.le_refl _)
    · obtain ⟨a1, a2, o, ho, hA⟩ := R.hp a A e
      have e' : st.hp a = some A := e
      refine ⟨?_, ?_, o, hk a o ho, hA⟩
      · show (if a = I ∨ a = D then none else allBut G C.fr st s a) = none
        split
        · rfl
        · unfold allBut; rw [if_pos (.inl (by rw [e']; rfl))]
      · show a ≠ env'.locals
        rw [hL]; exact Nat.ne_of_lt (Heap.lt_size ho)
    · obtain ⟨a1, more, ht⟩ := R.tab
      refine ⟨?_, more, hk _ _ ht⟩
      show (if G.tabP = I ∨ G.tabP = D then none else allBut G C.fr st s G.tabP) = none
      split
      · rfl
      · unfold allBut; rw [if_pos (.inr (.inl rfl))]
    · have h1 : env'.cells.lookup x = some c := h
      rw [hlk] at h1
      cases q : own0.lookup x with
      | some c' =>
        rw [q] at h1
        have e1 : c' = c := Option.some.inj h1
        subst e1
        exact ⟨_, (hownE x c' q).2⟩
      | none =>
        rw [q] at h1
        obtain ⟨r1, o1, ho1, hd1⟩ := R.cells _ _ (hclE x c h1)
        exact ⟨r1, o1, hk c o1 ho1, hd1⟩
    · obtain ⟨a1, a2, a3, a4⟩ := R.frs p hp
      refine ⟨?_, by show p.1 ≠ env'.locals; rw [hL]; exact Nat.ne_of_lt a4.lt, a3, a4.keeps hk⟩
      show (if p.1 = I ∨ p.1 = D then none else allBut G C.fr st s p.1) = none
      split
      · rfl
      · exact allBut_fr hp
end
end Mine
end
section
open PySem PySem.W PySem.Calls PyProof.Rows
set_option Elab.async false
set_option linter.unusedVariables false
namespace Mine
variable {prog : Program} {w : World}
section
variable {G : Gl} {C : Cx} {st : St} {ex : Addr → Option Obj} {s : Shared}
theorem Off.back {ex' : Addr → Option Obj} {st' : St} {b : Addr} {loc : Nat → Option AV} (R : Real prog w G C ex st s) (h1 : ex' b = none) (h2 : st'.hp b = none) (h3 : b ≠ G.tabP) (h4 : ∀ p ∈ C.fr, b ≠ p.1) (hex : ∀ b o, ex b = some o → ex' b = some o) (hL : ∀ o, s.heap.get? C.env.locals = some o → ex' C.env.locals = some o)
    (hcell : ∀ c o r, s.heap.get? c = some o → o.data = .cell r → ex' c = some o) : Off G C ex ⟨loc, st'.hp⟩ b := by
  refine ⟨?_, fun q => ?_, fun q => ?_, h2, h3, h4⟩
  · cases q : ex b with
    | none => rfl
    | some o => rw [hex b o q] at h1; cases h1
  · obtain ⟨o, ho, _⟩ := R.live
    rw [q, hL o ho] at h1; cases h1
  · obtain ⟨_, r, o, ho, hd⟩ := R.exC b q
    rw [hcell b o r ho hd] at h1; cases h1
theorem Off.put {b a : Addr} {A : AObj} (O : Off G C ex st b) (h : b ≠ a) : Off G C ex (st.put a A) b :=
  ⟨O.ex, O.loc, O.own, by show hset st.hp a A b = none; unfold hset; rw [if_neg h]; exact O.hp, O.tab, O.fr⟩
theorem comp_any (ok : COk C) {scope : Scope} {caps : List Nat} (co : CompOk C scope caps) {e : Expr} {pos : Pos} {newAcc : Sem Value} {g : Comprehension} {gs : List Comprehension} (hcl : clausesOf e = g :: gs) (hs : ∀ x, foldedSetIterable g.iter C.env x = pure x) {oD : Obj} (hoD : oD.isFreed = false) (hcell : ∀ r, oD.data ≠ .cell r)
    (hnew : ∀ (Q : Value → Shared → Prop) (E : Value → Shared → Prop) (s : Shared), Q (.ref s.heap.objs.size) { s with heap := s.heap.push oD } → wpAny (model prog w) C.A newAcc Q E s)
    {KK : (Nat → Option AV) → Addr → AObj → St → Prop} {use : Option (Value → Sem Unit)} {Q : Value → Shared → Prop} {E : Value → Shared → Prop}
    (hsrc : Src prog w G C g.iter st fun sk st₁ => ∀ C', Inside C C' scope → ∀ ex' s' I D R', Real prog w G C' ex' (inner caps st₁) s' → Off G C' ex' (inner caps st₁) I → Off G C' ex' (inner caps st₁) D → I ≠ D → (∃ o, s'.heap.get? I = some o ∧ sk.ob 0 o) → s'.heap.get? D = some oD → sk.P st₁.hp →
      (∀ s'' A o st'', Real prog w G C' ex' st'' s'' → Off G C' ex' st'' D → s''.heap.get? D = some o → A.is prog w o → KK st₁.loc D A st'' → R' (.ok .next) s'') →
      codeAny (model prog w) C'.A (.compStart e 0 (.ref I) (.ref D) C'.env) R' s')
    (hQ : ∀ loc st' D A s' L, Real prog w G C ex ⟨loc, hset st'.hp D A⟩ s' → Off G C ex ⟨loc, hset st'.hp D A⟩ L → (∃ m, s'.heap.Ns L m) → KK loc D A st' → st'.hp D = none → compPost (model prog w) C.A E use Q (.ref D) L (.ok .next) s')
    (R : Real prog w G C ex st s) : wpAny (model prog w) C.A (comprehension e scope C.env pos newAcc false (eval g.iter C.env) use) Q E s := by
  obtain ⟨cl, hclo⟩ := clos_of (acc := []) co.free
  refine wpAny_comprehension_free hcl hs (clos_eq hclo) co.kind co.names ?_
  refine wpAny_mono (hsrc.run ex s E R) (fun v s₁ h₁ => wpAny_mono h₁ (fun it s₂ hq71 => ?_) fun _ _ x => x) fun _ _ x => x
  refine hide fun Pz hPz => ?_; (rcases hq71 with ⟨I, sk, st₁, e1, R₁, O, ⟨oI, hoI, hob⟩, hP, h₂⟩) <;> (refine hPz ?_; clear hPz Pz)
  subst e1
  refine hnew _ _ _ ?_
  refine new_block fun h' hk hn hc => ?_
  have R₂ := R₁.pushed oD s₂.toks
  have OD : Off G C ex st₁ s₂.heap.objs.size := R₁.off_new none_of_size
  have hID : I ≠ s₂.heap.objs.size := Nat.ne_of_lt (Heap.lt_size hoI)
  have hoI' : (s₂.heap.push oD).get? I = some oI := Heap.get?_push_of_some _ hoI
  have hoD' : (s₂.heap.push oD).get? s₂.heap.objs.size = some oD := Heap.get?_push_size _ hoD
  have hIc : ∀ o r, (s₂.heap.push oD).get? I = some o → o.data ≠ .cell r := fun o r q => by
    rw [hoI'] at q; cases q
    cases sk with
    | list => rw [hob.2]; rintro ⟨⟩
    | tup => rw [hob.2]; rintro ⟨⟩
    | range => rw [hob]; rintro ⟨⟩
    | items => obtain ⟨_, _, rfl⟩ := hob; rintro ⟨⟩
    | vals => rw [hob.2]; rintro ⟨⟩
    | keys => rw [hob.2]; rintro ⟨⟩
  obtain ⟨C', ex', hE, hin, R₃, OI₃, OD₃, hx1, hx2, hx3⟩ := open_block ok co hclo (s := { s₂ with heap := s₂.heap.push oD }) R₂ (I := I) (D := s₂.heap.objs.size) hIc (fun o r q => by
    have q' : (s₂.heap.push oD).get? s₂.heap.objs.size = some o := q
    rw [hoD'] at q'; cases q'; exact hcell r) O OD ⟨_, hoI'⟩ ⟨_, hoD'⟩ (h' := h') hk hn hc rfl
  have hL : C'.env.locals = (s₂.heap.push oD).objs.size := by rw [hE]; rfl
  have key := h₂ C' hin ex' _ I _ (compPost (model prog w) C.A E use Q (.ref s₂.heap.objs.size) C'.env.locals) R₃ OI₃ OD₃ hID ⟨oI, hk _ _ hoI', hob⟩ (hk _ _ hoD') hP ?_
  · rw [hin.A, hE] at key
    exact key
  · intro s'' A o st'' R₄ O₄ hD hA hKK
    have RB : Real prog w G C ex ⟨st₁.loc, st''.hp⟩ s'' := R₂.back' R₄ hx1 hx2 hx3 hin.fr
    have OB : Off G C ex ⟨st₁.loc, st''.hp⟩ s₂.heap.objs.size := Off.back R₂ O₄.ex O₄.hp O₄.tab (fun p hp => O₄.fr p (by rw [hin.fr]; exact hp)) hx1 hx2 hx3
    have OL : Off G C ex ⟨st₁.loc, st''.hp⟩ C'.env.locals := Off.back R₂ R₄.exL R₄.locH (Ne.symm R₄.tabL) (fun p hp => Ne.symm (R₄.frs p (by rw [hin.fr]; exact hp)).2) hx1 hx2 hx3
    refine hQ st₁.loc st'' _ A s'' _ (RB.take OB hD hA) (OL.put ?_) (by obtain ⟨m, hm, _⟩ := R₄.ns; exact ⟨m, hm⟩) hKK O₄.hp
    exact Ne.symm O₄.loc
variable (prog w) in
noncomputable def Tg (G : Gl) (C : Cx) (target : Expr) (sk : SrcK) {α : Type} (xs : List α) (bind : α → St → St) : Prop := ∀ I, Iter prog w G C target I xs bind sk.ob (fun st => sk.P st.hp)
theorem lcomp_start {target iter elt : Expr} {ifs : List Expr} {scope : Scope} {pos : Pos} {α : Type} {sk : SrcK} {xs : List α} {bind : α → St → St} {K : List AV → St → Prop} (T : Tg prog w G C target sk xs bind) {I D : Addr} {R' : Result → Shared → Prop}
    (R : Real prog w G C ex st s) (OI : Off G C ex st I) (OD : Off G C ex st D) (hID : I ≠ D) (hI : ∃ o, s.heap.get? I = some o ∧ sk.ob 0 o) (hD : s.heap.get? D = some (listO #[] 0)) (hP : sk.P st.hp)
    (h : compL bind (fun st => sk.P st.hp) (fun st K => Ts prog w G C ifs st K) (fun st K => Ev prog w G C elt st K) xs [] st K)
    (hR : ∀ s'' A o st'', Real prog w G C ex st'' s'' → Off G C ex st'' D → s''.heap.get? D = some o → A.is prog w o → (∃ ys, A = AObj.list ys ∧ K ys st'') → R' (.ok .next) s'') :
    codeAny (model prog w) C.A (.compStart (.ListComp elt [⟨target, iter, ifs, 0⟩] scope pos) 0 (.ref I) (.ref D) C.env) R' s := by
  have loop := comp_loop (iter := iter) (scope := scope) (pos := pos) (R' := R') (T I) R OI hI OD hID ⟨0, hD⟩ hP h fun s' ys st' vs n a b c d e => hR s' (AObj.list ys) _ st' a b c ⟨vs, n, rfl, d⟩ ⟨ys, rfl, e⟩
  exact codeAny_compStart_list loop (SrcK.self hI loop)
theorem newList_nil {A : Around} (Q : Value → Shared → Prop) (E : Value → Shared → Prop) (s : Shared) (h : Q (.ref s.heap.objs.size) { s with heap := s.heap.push (listO #[] 0) }) : wpAny (model prog w) A (newList []) Q E s := wpAny_newObj_type h
variable (prog w) in
noncomputable def LComp (G : Gl) (C : Cx) (target iter elt : Expr) (ifs : List Expr) (scope : Scope) (caps : List Nat) (st : St) (K : AV → St → Prop) : Prop :=
  Src prog w G C iter st fun sk st₁ => ∀ C', Inside C C' scope → ∃ α : Type, E2 fun (xs : List α) (bind : α → St → St) => Tg prog w G C' target sk xs bind ∧
    compL bind (fun st => sk.P st.hp) (fun st K => Ts prog w G C' ifs st K) (fun st K => Ev prog w G C' elt st K) xs [] (inner caps st₁) fun ys st₂ => ∀ a, st₂.hp a = none → K (.ref a) ⟨st₁.loc, hset st₂.hp a (.list ys)⟩
theorem ev_lcomp (ok : COk C) {target iter elt : Expr} {ifs : List Expr} {scope : Scope} {pos : Pos} {caps : List Nat} (co : CompOk C scope caps) (hs : ∀ x, foldedSetIterable iter C.env x = pure x) {K : AV → St → Prop}
    (h : LComp prog w G C target iter elt ifs scope caps st K) : Ev prog w G C (.ListComp elt [⟨target, iter, ifs, 0⟩] scope pos) st K := .mk fun ex s E R => by
  rw [eval_ListComp]
  refine comp_any ok co (g := ⟨target, iter, ifs, 0⟩) (gs := []) rfl hs (oD := listO #[] 0) rfl (fun r => by rintro ⟨⟩) newList_nil (use := none) (KK := fun loc _ A st' => ∃ ys, A = AObj.list ys ∧ ∀ a, st'.hp a = none → K (.ref a) ⟨loc, hset st'.hp a (.list ys)⟩) ?_ ?_ R
  · refine .mk fun ex s E R => wpAny_mono (h.run ex s E R) (fun v s₁ h₁ => wpAny_mono h₁ (fun it s₂ hy7 => ?_) fun _ _ x => x) fun _ _ x => x
    obtain ⟨I, sk, st₁, e1, R₁, O, hI, hP, h₂⟩ := hy7
    refine ⟨I, sk, st₁, e1, R₁, O, hI, hP, ?_⟩
    intro C' hin ex' s' I' D R' RR OI OD hID hI' hD hP' hR
    obtain ⟨α, xs, bind, T, hc⟩ := h₂ C' hin
    exact lcomp_start T RR OI OD hID hI' hD hP' hc hR
  · rintro loc st' D A s' L RR OL ⟨m, hm⟩ ⟨ys, rfl, hK⟩ hD
    refine ⟨m, hm, fun h' hsb => ⟨.ref D, _, rfl, ?_, hK D hD⟩⟩
    exact RR.scratch OL (s' := { s' with heap := h' }) (fun c o q e => (hsb.2 c q).trans e) (fun o r e q => by
      obtain ⟨o', es, ep, ho', hd', _⟩ := hm
      rw [ho'] at e; cases e; rw [hd'] at q; cases q) RR.gens rfl
theorem ex_assign_lcomp (ok : COk C) {i : Nat} {p q : Pos} (hi : Sto C i) {target iter elt : Expr} {ifs : List Expr} {scope : Scope} {pos : Pos} {caps : List Nat} (co : CompOk C scope caps) (hs : ∀ x, foldedSetIterable iter C.env x = pure x) {K : AFlow → St → Prop}
    (hsw : swapsWith (.ListComp elt [⟨target, iter, ifs, 0⟩] scope pos) (some (.Name (C.ns i) p)) q.line C.env = pure true)
    (h : LComp prog w G C target iter elt ifs scope caps st fun v st₁ => K .next (st₁.set i v)) : Ex prog w G C (.Assign [.Name (C.ns i) p] (.ListComp elt [⟨target, iter, ifs, 0⟩] scope pos) q) st K := .mk fun ex s E R => by
  rw [exec_Assign_Name_used _ _ _ _ hsw]
  refine wpAny_bind (wpAny_standAt (wpAny_bind ?_))
  show wpAny _ C.A (do let _ ← comprehension (.ListComp elt [⟨target, iter, ifs, 0⟩] scope pos) scope C.env _ (newList []) false (eval iter C.env) (some (assign (.Name (C.ns i) p) C.env))) _ _ s
  refine wpAny_bind (wpAny_mono (Q := fun _ s' => E2 fun af st' => A3 (fabs .next = some af) (Real prog w G C ex st' s') (K af st')) ?_ (fun _ s' hq => wpAny_pure (wpAny_pure hq)) fun _ _ x => x)
  refine comp_any ok co (g := ⟨target, iter, ifs, 0⟩) (gs := []) rfl hs (oD := listO #[] 0) rfl (fun r => by rintro ⟨⟩) newList_nil (use := some _) (KK := fun loc _ A st' => ∃ ys, A = AObj.list ys ∧ ∀ a, st'.hp a = none → K .next (St.set ⟨loc, hset st'.hp a (.list ys)⟩ i (.ref a))) ?_ ?_ R
  · refine .mk fun ex s E R => wpAny_mono (h.run ex s E R) (fun v s₁ h₁ => wpAny_mono h₁ (fun it s₂ hy8 => ?_) fun _ _ x => x) fun _ _ x => x
    obtain ⟨I, sk, st₁, e1, R₁, O, hI, hP, h₂⟩ := hy8
    refine ⟨I, sk, st₁, e1, R₁, O, hI, hP, ?_⟩
    intro C' hin ex' s' I' D R' RR OI OD hID hI' hD hP' hR
    obtain ⟨α, xs, bind, T, hc⟩ := h₂ C' hin
    exact lcomp_start T RR OI OD hID hI' hD hP' hc hR
  · rintro loc st' D A s' L RR OL ⟨m, hm⟩ ⟨ys, rfl, hK⟩ hD
    show wpAny (model prog w) C.A (assign (.Name (C.ns i) p) C.env (.ref D)) _ _ s'
    refine assign_name ok hi RR (av := .ref D) rfl fun s'' R'' hk => ?_
    have hm' : s''.heap.Ns L m := Ns_at hm fun o e => hk L o OL.loc OL.own e
    refine ⟨m, hm', fun h' hsb => ⟨.next, _, rfl, ?_, hK D hD⟩⟩
    have OL' : Off G C ex (St.set ⟨loc, hset st'.hp D (.list ys)⟩ i (.ref D)) L := ⟨OL.ex, OL.loc, OL.own, OL.hp, OL.tab, OL.fr⟩
    exact R''.scratch OL' (s' := { s'' with heap := h' }) (fun c o q e => (hsb.2 c q).trans e) (fun o r e q => by
      obtain ⟨o', es, ep, ho', hd', _⟩ := hm'
      rw [ho'] at e; cases e; rw [hd'] at q; cases q) R''.gens rfl
end
end Mine
end
section
open PySem PySem.W PySem.Calls PyProof.Rows
set_option Elab.async false
set_option linter.unusedVariables false
namespace Mine
variable {prog : Program} {w : World}
section
variable {G : Gl} {C : Cx} {st : St} {ex : Addr → Option Obj} {s : Shared}
theorem ev_v (ok : COk C) (i : Nat) {x : Str} (hx : C.ns i = x) {p : Pos} {v : AV} {K : AV → St → Prop} (hv : st.loc i = some v) (h : K v st) : Ev prog w G C (.Name x p) st K := by
  subst hx; exact ev_var ok hv h
theorem ex_set (ok : COk C) (i : Nat) {x : Str} (hx : C.ns i = x) (hi : Sto C i) {e : Expr} {p q : Pos} {K : AFlow → St → Prop} (h : Ev prog w G C e st fun v st₁ => K .next (st₁.set i v)) (hs : swapsWith e (some (.Name x p)) q.line C.env = pure false) : Ex prog w G C (.Assign [.Name x p] e q) st K := by
  subst hx; exact ex_assign ok hi h hs
theorem ex_aug (ok : COk C) (i : Nat) {x : Str} (hx : C.ns i = x) (hi : Sto C i) {e : Expr} {p q : Pos} {v : AV} {K : AFlow → St → Prop} (hv : st.loc i = some v) (h : Ev prog w G C e st fun y st₁ => E2 fun a b => A3 (v = .int a) (y = .int b) (K .next (st₁.set i (.int (a + b))))) : Ex prog w G C (.AugAssign (.Name x p) .Add e q) st K := by
  subst hx; exact ex_aug_int ok hi hv h
theorem ex_for1' (ok : COk C) (i : Nat) {x : Str} (hx : C.ns i = x) (hi : Sto C i) {p q : Pos} {e : Expr} {body : List Stmt} {K : AFlow → St → Prop} (h : Src prog w G C e st fun sk st₁ => sk.single ∧ forL (fun x st => st.set i x) (fun st => sk.P st.hp) (fun st K => Exs prog w G C body st K) sk.one st₁ K)
    (hs : ∀ x, foldedSetIterable e C.env x = pure x) : Ex prog w G C (.For (.Name x p) e body [] q) st K := by
  subst hx; exact ex_for1 ok hi h hs
theorem ex_for2' (ok : COk C) (i j : Nat) {x y : Str} (hx : C.ns i = x) (hy : C.ns j = y) (hi : Sto C i) (hj : Sto C j) {p p' q q' : Pos} {kk : Nat} {e : Expr} {body : List Stmt} {K : AFlow → St → Prop} (h : Src prog w G C e st fun sk st₁ => sk.double ∧ forL (fun x st => (st.set i x.1).set j x.2) (fun st => sk.P st.hp) (fun st K => Exs prog w G C body st K) sk.two st₁ K)
    (hs : ∀ x, foldedSetIterable e C.env x = pure x) : Ex prog w G C (.For (.Tuple [.Name x p, .Name y p'] kk q') e body [] q) st K := by
  subst hx hy; exact ex_for2 ok hi hj h hs
theorem ex_set_lcomp (ok : COk C) (i : Nat) {x : Str} (hx : C.ns i = x) (hi : Sto C i) {p q : Pos} {target iter elt : Expr} {ifs : List Expr} {scope : Scope} {pos : Pos} {caps : List Nat} (co : CompOk C scope caps) (hs : ∀ x, foldedSetIterable iter C.env x = pure x) {K : AFlow → St → Prop}
    (hsw : swapsWith (.ListComp elt [⟨target, iter, ifs, 0⟩] scope pos) (some (.Name x p)) q.line C.env = pure true)
    (h : LComp prog w G C target iter elt ifs scope caps st fun v st₁ => K .next (st₁.set i v)) : Ex prog w G C (.Assign [.Name x p] (.ListComp elt [⟨target, iter, ifs, 0⟩] scope pos) q) st K := by
  subst hx; exact ex_assign_lcomp ok hi co hs hsw h
theorem tg1 (ok : COk C) (i : Nat) {x : Str} (hx : C.ns i = x) (hi : Sto C i) {p : Pos} {sk : SrcK} (h : sk.single) : Tg prog w G C (.Name x p) sk sk.one (fun x st => st.set i x) := by
  subst hx; exact fun I => sk.iter1 ok hi h
theorem tg2 (ok : COk C) (i j : Nat) {x y : Str} (hx : C.ns i = x) (hy : C.ns j = y) (hi : Sto C i) (hj : Sto C j) {p p' q : Pos} {kk : Nat} {sk : SrcK} (h : sk.double) : Tg prog w G C (.Tuple [.Name x p, .Name y p'] kk q) sk sk.two (fun x st => (st.set i x.1).set j x.2) := by
  subst hx hy; exact fun I => sk.iter2 ok hi hj h
theorem for_inv {α : Type} {bind : α → St → St} {P : St → Prop} {body : List Stmt} {xs : List α} {K : AFlow → St → Prop} (I : Nat → St → Prop) (h0 : I 0 st)
    (hs : ∀ i x st, xs[i]? = some x → I i st → Exs prog w G C body (bind x st) fun f st' => match f with | .next => P st' ∧ I (i + 1) st' | .cont => P st' ∧ I (i + 1) st' | .brk => K .next st' | .ret v => K (.ret v) st')
    (hf : ∀ st, I xs.length st → K .next st) : forL bind P (fun st K => Exs prog w G C body st K) xs st K := by
  suffices key : ∀ (r : List α) (i : Nat) (st : St), xs.drop i = r → i ≤ xs.length → I i st → forL bind P (fun st K => Exs prog w G C body st K) r st K from key xs 0 st (by simp) (Nat.zero_le _) h0
  intro r
  induction r with
  | nil =>
    intro i st hd hi h
    have : i = xs.length := by have := congrArg List.length hd; simp at this; lia
    subst this
    exact hf st h
  | cons x r ih =>
    intro i st hd hi h
    have hlt : i < xs.length := by have := congrArg List.length hd; simp at this; lia
    rw [List.drop_eq_getElem_cons hlt] at hd
    obtain ⟨e1, e2⟩ := List.cons.inj hd
    refine Exs.mono (hs i x st (by rw [← e1]; exact List.getElem?_eq_getElem hlt) h) fun f st' q => ?_
    cases f with
    | next => exact ⟨q.1, ih (i + 1) st' e2 hlt q.2⟩
    | cont => exact ⟨q.1, ih (i + 1) st' e2 hlt q.2⟩
    | brk => exact q
    | ret v => exact q
theorem Ts.mono {e : List Expr} {K K' : Bool → St → Prop} (h : Ts prog w G C e st K) (hk : ∀ v st, K v st → K' v st) : Ts prog w G C e st K' :=
  .mk fun ex s E R => wpAny_mono (h.run ex s E R) (fun _ _ hq74 => by obtain ⟨st', b, c⟩ := hq74; exact ⟨st', b, hk _ _ c⟩) fun _ _ x => x
theorem comp_inv {α : Type} {bind : α → St → St} {P : St → Prop} {ifs : List Expr} {elt : Expr} {xs : List α} {K : List AV → St → Prop} (I : Nat → List AV → St → Prop) (h0 : I 0 [] st)
    (hs : ∀ i x acc st, xs[i]? = some x → I i acc st → Ts prog w G C ifs (bind x st) fun b st₁ => if b = true then Ev prog w G C elt st₁ fun v st₂ => A3 (acc.length ≤ 1000) (P st₂) (I (i + 1) (acc ++ [v]) st₂) else P st₁ ∧ I (i + 1) acc st₁)
    (hf : ∀ acc st, I xs.length acc st → K acc st) : compL bind P (fun st K => Ts prog w G C ifs st K) (fun st K => Ev prog w G C elt st K) xs [] st K := by
  suffices key : ∀ (r : List α) (i : Nat) (acc : List AV) (st : St), xs.drop i = r → i ≤ xs.length → I i acc st → compL bind P (fun st K => Ts prog w G C ifs st K) (fun st K => Ev prog w G C elt st K) r acc st K from key xs 0 [] st (by simp) (Nat.zero_le _) h0
  intro r
  induction r with
  | nil =>
    intro i acc st hd hi h
    have : i = xs.length := by have := congrArg List.length hd; simp at this; lia
    subst this
    exact hf acc st h
  | cons x r ih =>
    intro i acc st hd hi h
    have hlt : i < xs.length := by have := congrArg List.length hd; simp at this; lia
    rw [List.drop_eq_getElem_cons hlt] at hd
    obtain ⟨e1, e2⟩ := List.cons.inj hd
    refine Ts.mono (hs i x acc st (by rw [← e1]; exact List.getElem?_eq_getElem hlt) h) fun b st' q => ?_
    cases b with
    | false =>
      simp only [Bool.false_eq_true, if_false] at q ⊢
      exact ⟨q.1, ih (i + 1) acc st' e2 hlt q.2⟩
    | true =>
      simp only [if_true] at q ⊢
      exact Ev.mono q fun v st₂ hq75 => by obtain ⟨a, b, c⟩ := hq75; exact ⟨a, b, ih (i + 1) _ st₂ e2 hlt c⟩
abbrev Hp := Addr → Option AObj
noncomputable def Le (h h' : Hp) : Prop := ∀ a A, h a = some A → h' a = some A
theorem Le.refl (h : Hp) : Le h h := fun _ _ e => e
theorem Le.trans {a b c : Hp} (h : Le a b) (h' : Le b c) : Le a c := fun x A e => h' x A (h x A e)
theorem Le.put {h h' : Hp} {a : Addr} {A : AObj} (l : Le h h') (e : h a = none) : Le h (hset h' a A) := fun b B q => by
  unfold hset; rw [if_neg (fun z => by rw [z, e] at q; cases q)]; exact l b B q
theorem Le.new {h : Hp} {a : Addr} {A : AObj} (e : h a = none) : Le h (hset h a A) := (Le.refl h).put e
theorem Le.none {h h' : Hp} {a : Addr} (l : Le h h') (e : h' a = none) : h a = none := by
  cases q : h a with
  | none => rfl
  | some A => rw [l a A q] at e; cases e
theorem hset_self (h : Hp) (a : Addr) (A : AObj) : hset h a A a = some A := by unfold hset; rw [if_pos rfl]
theorem hset_other (h : Hp) {a b : Addr} (A : AObj) (e : b ≠ a) : hset h a A b = h b := by unfold hset; rw [if_neg e]
theorem ne_of_none {h : Hp} {a b : Addr} {A : AObj} (e : h a = none) (f : h b = some A) : b ≠ a := fun q => by rw [q, e] at f; cases f
end
end Mine
end
section
open PySem PySem.W PySem.Calls PyProof.Rows
set_option Elab.async false
set_option linter.unusedVariables false
namespace Mine
variable {prog : Program} {w : World}
structure Blk (C : Cx) (scope : Scope) : Prop where
  ok : COk C
  kinds : ∀ x k, k ≠ .free → scope.names.lookup x = some k → C.env.kindOf x = some k
  frees : ∀ x, scope.names.lookup x = some .free → C.env.kindOf x ≠ some .local
  sto : ∀ i, i < C.N → (scope.names.lookup (C.ns i) = some .local ∨ scope.names.lookup (C.ns i) = some .cell) → Sto C i
  cells : ∀ x, (x, NameKind.free) ∈ scope.names ∨ scope.names.lookup x = some .cell → (C.env.cells.lookup x).isSome = true
noncomputable def knB (scope : Scope) (x : Str) (k : NameKind) : Bool := scope.names.lookup x == some k
theorem knB_at {scope : Scope} {x : Str} {k : NameKind} (h : knB scope x k = true) : scope.names.lookup x = some k := eq_of_beq h
noncomputable def locB (scope : Scope) (x : Str) : Bool := knB scope x .local || knB scope x .cell
noncomputable def cloB (scope : Scope) (x : Str) : Bool := knB scope x .cell || knB scope x .free
theorem or_kn {scope : Scope} {x : Str} {k k' : NameKind} (h : (knB scope x k || knB scope x k') = true) : scope.names.lookup x = some k ∨ scope.names.lookup x = some k' :=
  ((Bool.or_eq_true _ _).mp h).imp knB_at knB_at
theorem Blk.stoB {C : Cx} {scope : Scope} (B : Blk C scope) {i : Nat} (h1 : i < C.N) (h : locB scope (C.ns i) = true) : Sto C i := B.sto i h1 (or_kn h)
noncomputable def gloB (scope : Scope) (x : Str) : Bool := knB scope x .globalImplicit
theorem Blk.glo {C : Cx} {scope : Scope} (B : Blk C scope) {x : Str} (h : gloB scope x = true) : C.env.kindOf x = some .globalImplicit := B.kinds _ _ (by rintro ⟨⟩) (knB_at h)
noncomputable def isFree (k : NameKind) : Bool := k == .free
noncomputable def isLoc (k : NameKind) : Bool := k == .local
noncomputable def isCell (k : NameKind) : Bool := k == .cell
noncomputable def compB (outer scope : Scope) (ns : Nat → Str) (N : Nat) (caps : List Nat) : Bool :=
  scope.names.all (fun y => !isLoc y.2 || knB scope y.1 .local) &&
  scope.names.all (fun y => !isFree y.2 || cloB outer y.1) &&
  caps.all fun j => decide (j < N) && knB scope (ns j) .free && cloB outer (ns j) &&
    scope.names.all fun y => !isCell y.2 || !(y.1 == ns j)
theorem mem_lookup : ∀ {l : List (Str × NameKind)} {x : Str} {k : NameKind}, l.lookup x = some k → (x, k) ∈ l := by
  intro l
  induction l with
  | nil =>
    intro _ _ h
    cases h
  | cons q0 r ih =>
    intro x k h
    obtain ⟨y, k'⟩ := q0
    rw [List.lookup_cons] at h
    cases q : x == y with
    | true => rw [q] at h; cases h; rw [eq_of_beq q]; exact .head _
    | false => rw [q] at h; exact .tail _ (ih h)
theorem Blk.comp {C : Cx} {outer scope : Scope} (B : Blk C outer) {caps : List Nat} (hk : scope.kind = .function) (h : compB outer scope C.ns C.N caps = true) : CompOk C scope caps := by
  simp only [compB, Bool.and_eq_true] at h
  obtain ⟨⟨h1, h2⟩, h3⟩ := h
  have cel : ∀ x, cloB outer x = true → (C.env.cells.lookup x).isSome = true ∧ C.env.kindOf x ≠ some .local := fun x q => by
    rcases or_kn q with e | e
    · exact ⟨B.cells x (.inr e), by rw [B.kinds _ _ (by rintro ⟨⟩) e]; rintro ⟨⟩⟩
    · exact ⟨B.cells x (.inl (mem_lookup e)), B.frees x e⟩
  refine ⟨hk, fun y hy hl => ?_, fun y hy => (cel y (List.all_eq_true.mp h2 (y, .free) hy)).1, fun j hj => ?_⟩
  · have := List.all_eq_true.mp h1 y hy
    rw [hl] at this
    exact knB_at this
  · have := List.all_eq_true.mp h3 j hj
    simp only [Bool.and_eq_true, decide_eq_true_eq] at this
    obtain ⟨⟨⟨a1, a2⟩, a3⟩, a4⟩ := this
    refine ⟨a1, mem_lookup (knB_at a2), knB_at a2, (cel _ a3).2, fun hm => ?_⟩
    have := List.all_eq_true.mp a4 _ hm
    rw [beq_self_eq_true] at this; cases this
theorem Inside.blk {C C' : Cx} {scope : Scope} (h : Inside C C' scope) : Blk C' scope :=
  ⟨h.ok, h.kinds, fun x hx => by rcases h.frees x hx with q | q <;> rw [q] <;> rintro ⟨⟩, fun i hi hk => by rw [h.ns] at hk; rw [h.N] at hi; exact h.sto i hi hk, h.cells⟩
section
variable {G : Gl} {C : Cx} {scope : Scope} {st : St} {ex : Addr → Option Obj} {s : Shared}
theorem inter (ok : COk C) : interactive C.env = false := by unfold interactive; rw [ok.kind]; rfl
theorem ev_n (B : Blk C scope) (i : Nat) {x : Str} {p : Pos} {v : AV} {K : AV → St → Prop} (hv : st.loc i = some v) (h : K v st) (hx : autoParam (C.ns i = x) tRfl) : Ev prog w G C (.Name x p) st K := ev_v B.ok i hx hv h
noncomputable def setK (i : Nat) (K : AFlow → St → Prop) : AV → St → Prop := fun v st₁ => K .next (st₁.set i v)
theorem set_n (B : Blk C scope) (i : Nat) {x : Str} {e : Expr} {p q : Pos} {K : AFlow → St → Prop} (h : Ev prog w G C e st (setK i K)) (hs : autoParam (swapsWith e (some (.Name x p)) q.line C.env = pure false) tRfl) (hx : autoParam (C.ns i = x) tRfl) (hN : autoParam (i < C.N) tLe) (hi : autoParam (locB scope (C.ns i) = true) tRfl) : Ex prog w G C (.Assign [.Name x p] e q) st K :=
  ex_set B.ok i hx (B.stoB hN hi) h hs
theorem aug_n (B : Blk C scope) (i : Nat) {x : Str} {e : Expr} {p q : Pos} {v : AV} {K : AFlow → St → Prop} (hv : st.loc i = some v) (h : Ev prog w G C e st fun y st₁ => E2 fun a b => A3 (v = .int a) (y = .int b) (K .next (st₁.set i (.int (a + b))))) (hx : autoParam (C.ns i = x) tRfl) (hN : autoParam (i < C.N) tLe) (hi : autoParam (locB scope (C.ns i) = true) tRfl) : Ex prog w G C (.AugAssign (.Name x p) .Add e q) st K :=
  ex_aug B.ok i hx (B.stoB hN hi) hv h
theorem for_n (B : Blk C scope) (i : Nat) {x : Str} {p q : Pos} {e : Expr} {body : List Stmt} {K : AFlow → St → Prop} (h : Src prog w G C e st fun sk st₁ => sk.single ∧ forL (fun x st => st.set i x) (fun st => sk.P st.hp) (fun st K => Exs prog w G C body st K) sk.one st₁ K)
    (hs : autoParam (∀ x, foldedSetIterable e C.env x = pure x) tAll) (hx : autoParam (C.ns i = x) tRfl) (hN : autoParam (i < C.N) tLe) (hi : autoParam (locB scope (C.ns i) = true) tRfl) : Ex prog w G C (.For (.Name x p) e body [] q) st K :=
  ex_for1' B.ok i hx (B.stoB hN hi) h hs
theorem for_nn (B : Blk C scope) (i j : Nat) {x y : Str} {p p' q q' : Pos} {kk : Nat} {e : Expr} {body : List Stmt} {K : AFlow → St → Prop} (h : Src prog w G C e st fun sk st₁ => sk.double ∧ forL (fun x st => (st.set i x.1).set j x.2) (fun st => sk.P st.hp) (fun st K => Exs prog w G C body st K) sk.two st₁ K)
    (hs : autoParam (∀ x, foldedSetIterable e C.env x = pure x) tAll) (hx : autoParam (C.ns i = x) tRfl) (hy : autoParam (C.ns j = y) tRfl) (hN : autoParam (i < C.N) tLe) (hi : autoParam (locB scope (C.ns i) = true) tRfl) (hN' : autoParam (j < C.N) tLe) (hj : autoParam (locB scope (C.ns j) = true) tRfl) : Ex prog w G C (.For (.Tuple [.Name x p, .Name y p'] kk q') e body [] q) st K :=
  ex_for2' B.ok i j hx hy (B.stoB hN hi) (B.stoB hN' hj) h hs
theorem do_e (B : Blk C scope) {e : Expr} {p : Pos} {K : AFlow → St → Prop} (h : Ev prog w G C e st fun _ st₁ => K .next st₁) (hs : autoParam (swapsWith e none p.line C.env = pure false) tRfl) : Ex prog w G C (.Expr e p) st K := ex_expr h (inter B.ok) hs
variable (prog w) in
noncomputable def LC (G : Gl) (C : Cx) (target iter elt : Expr) (ifs : List Expr) (scope : Scope) (caps : List Nat) (st : St) (K : AV → St → Prop) : Prop :=
  Src prog w G C iter st fun sk st₁ => ∀ env own fr, Blk ⟨C.A, env, C.ns, C.N, own, fr⟩ scope → ∃ α : Type, E2 fun (xs : List α) (bind : α → St → St) => Tg prog w G ⟨C.A, env, C.ns, C.N, own, fr⟩ target sk xs bind ∧
    compL bind (fun st => sk.P st.hp) (fun st K => Ts prog w G ⟨C.A, env, C.ns, C.N, own, fr⟩ ifs st K) (fun st K => Ev prog w G ⟨C.A, env, C.ns, C.N, own, fr⟩ elt st K) xs [] (inner caps st₁) fun ys st₂ => ∀ a, st₂.hp a = none → K (.ref a) ⟨st₁.loc, hset st₂.hp a (.list ys)⟩
theorem LC.to {target iter elt : Expr} {ifs : List Expr} {scope : Scope} {caps : List Nat} {K : AV → St → Prop} (h : LC prog w G C target iter elt ifs scope caps st K) : LComp prog w G C target iter elt ifs scope caps st K := by
  refine .mk fun ex s E R => wpAny_mono (h.run ex s E R) (fun v s₁ h₁ => wpAny_mono h₁ (fun it s₂ hy9 => ?_) fun _ _ x => x) fun _ _ x => x
  obtain ⟨I, sk, st₁, e1, R₁, O, hI, hP, h₂⟩ := hy9
  refine ⟨I, sk, st₁, e1, R₁, O, hI, hP, ?_⟩
  intro C' hin
  have e : C' = ⟨C.A, C'.env, C.ns, C.N, C'.own, C'.fr⟩ := by
    have a := hin.A; have b := hin.ns; have c := hin.N
    cases C' with
    | mk A env ns N own fr => simp only at a b c; subst a b c; rfl
  have B := hin.blk
  rw [e] at B ⊢
  exact h₂ C'.env C'.own C'.fr B
theorem ev_lc (B : Blk C scope) {target iter elt : Expr} {ifs : List Expr} {scope' : Scope} {pos : Pos} (caps : List Nat) {K : AV → St → Prop} (h : LC prog w G C target iter elt ifs scope' caps st K)
    (hb : autoParam (compB scope scope' C.ns C.N caps = true) tRfl) (hs : autoParam (∀ x, foldedSetIterable iter C.env x = pure x) tAll) (hk : autoParam (scope'.kind = .function) tRfl) : Ev prog w G C (.ListComp elt [⟨target, iter, ifs, 0⟩] scope' pos) st K :=
  ev_lcomp B.ok (B.comp hk hb) hs h.to
theorem set_lc (B : Blk C scope) (i : Nat) {x : Str} {p q : Pos} {target iter elt : Expr} {ifs : List Expr} {scope' : Scope} {pos : Pos} (caps : List Nat) {K : AFlow → St → Prop}
    (h : LC prog w G C target iter elt ifs scope' caps st fun v st₁ => K .next (st₁.set i v))
    (hlk : autoParam (scope.names.lookup x = some .local) tRfl) (hpl : autoParam ((p.line == pos.line) = true) tRfl) (hsn : autoParam ((scope'.names.any fun y => y.1 == x && (y.2 == .local || y.2 == .cell)) = false) tRfl)
    (hx : autoParam (C.ns i = x) tRfl) (hN : autoParam (i < C.N) tLe) (hi : autoParam (locB scope (C.ns i) = true) tRfl)
    (hb : autoParam (compB scope scope' C.ns C.N caps = true) tRfl) (hs : autoParam (∀ x, foldedSetIterable iter C.env x = pure x) tAll) (hk : autoParam (scope'.kind = .function) tRfl) : Ex prog w G C (.Assign [.Name x p] (.ListComp elt [⟨target, iter, ifs, 0⟩] scope' pos) q) st K :=
  ex_set_lcomp B.ok i hx (B.stoB hN hi) (B.comp hk hb) hs (by
    show (pure (C.env.blockKind == .function && C.env.kindOf x == some .local && p.line == pos.line && !(scope'.names.any fun (n, k) => n == x && (k == .local || k == .cell))) : Sem Bool) = pure true
    have hbk : C.env.blockKind = .function := by unfold Env.blockKind; rw [B.ok.kind]; rfl
    rw [hbk, B.kinds _ _ (by rintro ⟨⟩) hlk, hpl]
    have : (scope'.names.any fun (n, k) => n == x && (k == .local || k == .cell)) = false := hsn
    rw [this]; rfl) h.to
theorem tg_n (B : Blk C scope) (i : Nat) {x : Str} {p : Pos} {sk : SrcK} (h : autoParam (sk.single) tTriv) (hx : autoParam (C.ns i = x) tRfl) (hN : autoParam (i < C.N) tLe) (hi : autoParam (locB scope (C.ns i) = true) tRfl) : Tg prog w G C (.Name x p) sk sk.one (fun x st => st.set i x) := tg1 B.ok i hx (B.stoB hN hi) h
theorem tg_nn (B : Blk C scope) (i j : Nat) {x y : Str} {p p' q : Pos} {kk : Nat} {sk : SrcK} (h : autoParam (sk.double) tTriv) (hx : autoParam (C.ns i = x) tRfl) (hy : autoParam (C.ns j = y) tRfl) (hN : autoParam (i < C.N) tLe) (hi : autoParam (locB scope (C.ns i) = true) tRfl) (hN' : autoParam (j < C.N) tLe) (hj : autoParam (locB scope (C.ns j) = true) tRfl) : Tg prog w G C (.Tuple [.Name x p, .Name y p'] kk q) sk sk.two (fun x st => (st.set i x.1).set j x.2) := tg2 B.ok i j hx hy (B.stoB hN hi) (B.stoB hN' hj) h
theorem len_succ {α : Type} {l : List α} {n : Nat} (h : l.length = n + 1) : E2 fun a t => l = a :: t ∧ t.length = n := by
  cases l with
  | nil => cases h
  | cons a t => exact ⟨a, t, rfl, Nat.succ.inj h⟩
theorem len_three {α : Type} {l : List α} (h : l.length = 3) : E3 fun a b c => l = [a, b, c] := by
  obtain ⟨a, l1, rfl, h1⟩ := len_succ h; obtain ⟨b, l2, rfl, h2⟩ := len_succ h1; obtain ⟨c, l3, rfl, h3⟩ := len_succ h2
  cases List.length_eq_zero_iff.mp h3; exact ⟨a, b, c, rfl⟩
noncomputable def paramB (scope : Scope) (ns : List Str) : Bool := ns.all fun y => locB scope y
noncomputable def namesB : List Str → Bool
  | [] => true
  | x :: r => !(r.any fun y => x == y) && !(x == ("__debug__" : Str)) && !(x == ("__classdict__" : Str)) && namesB r
theorem names_of {scope : Scope} : ∀ {ns : List Str}, namesB ns = true → FnNames ns scope := by
  intro ns
  induction ns with
  | nil =>
    intro _
    exact ⟨.nil, fun _ h => by cases h⟩
  | cons x r ih =>
    intro h
    simp only [namesB, Bool.and_eq_true, Bool.not_eq_true'] at h
    obtain ⟨⟨⟨h1, h2⟩, h3⟩, h4⟩ := h
    have ih := ih h4
    refine ⟨List.nodup_cons.mpr ⟨fun hm => ?_, ih.nodup⟩, fun y hy => ?_⟩
    · have := List.any_eq_false.mp h1 x hm
      simp at this
    · rcases List.mem_cons.mp hy with rfl | hy
      · exact ⟨h2, h3⟩
      · exact ih.dbg y hy
theorem blk_of {C : Cx} {scope : Scope} (ok : COk C) (hsc : C.env.scope = scope) (hst : ∀ i, i < C.N → (scope.names.lookup (C.ns i) = some .local ∨ scope.names.lookup (C.ns i) = some .cell) → Sto C i) (hfree : (scope.names.all fun y => !isFree y.2) = true) (hcell : ∀ x, scope.names.lookup x = some .cell → (C.env.cells.lookup x).isSome = true) : Blk C scope := by
  have nofree : ∀ x, (x, NameKind.free) ∉ scope.names := fun x hm => by
    have := List.all_eq_true.mp hfree _ hm
    cases this
  refine ⟨ok, fun x k _ h => ?_, fun x h => absurd (mem_lookup h) (nofree x), hst, fun x h => ?_⟩
  · unfold Env.kindOf; rw [hsc]; exact h
  · rcases h with h | h
    · exact absurd h (nofree x)
    · exact hcell x h
theorem fn_bg (gk : GOk G) {n : Nat} {f : Addr} (ns : List Str) (k : Nat) {oc : Value} {od : Option Addr} {osl : Array (Option Value)} {name qual : Str} {params : Arguments} {body : List Stmt} {scope : Scope} {dV kV doc pm cdv ct : Value} {an : Option Addr}
    (hf : G.K.lookup f = some ⟨oc, od, .func (fnOf name qual params body scope dV kV doc pm an cdv ct), osl⟩) (hcd : codeIn G.K cdv qual = true)
    {xs₀ : List AV} {hp₀ : Addr → Option AObj} {Bd : List AV → (Addr → Option AObj) → Prop}
    (hbind : ∀ C A ex s E st vs, COk C → st.hp = hp₀ → Real prog w G C ex st s → Absl vs xs₀ → wpAny (model prog w) A (bindArgs (fnOf name qual params body scope dV kV doc pm an cdv ct) ⟨vs, []⟩) (fun bs s₁ => E3 fun vs' xs' hp' => A5 (bs = (ns.take k).zip vs') (Absl vs' xs') (xs'.length = k) (Real prog w G C ex ⟨st.loc, hp'⟩ s₁) (Bd xs' hp')) E s)
    {K : AV → (Addr → Option AObj) → Prop}
    (h : ∀ xs hp, Bd xs hp → ∀ A env own fr, Blk ⟨A, env, nsF ns, ns.length, own, fr⟩ scope → Room n ⟨A, env, nsF ns, ns.length, own, fr⟩ → env.code = cdv ∧ FrTop ⟨A, env, nsF ns, ns.length, own, fr⟩ → Exs prog w G ⟨A, env, nsF ns, ns.length, own, fr⟩ body ⟨fun i => xs[i]?, hp⟩ fun fl st => K (match fl with | .ret v => v | _ => .none) st.hp)
    (hco : autoParam (scope.isCoroutine = false) tRfl) (hgen : autoParam (scope.isGenerator = false) tRfl) (hk : autoParam (scope.kind = .function) tRfl) (hkl : autoParam (k ≤ ns.length) tDec)
    (hN : autoParam (namesB ns = true) tRfl) (hkind : autoParam (paramB scope (ns.take k) = true) tRfl) (hfree : autoParam ((scope.names.all fun y => !isFree y.2) = true) tRfl) : FnC prog w G (n + 1) f xs₀ hp₀ K := by
  refine fn_gen gk hf hcd (names_of hN) hco hgen hk hkl hbind hkind fun xs hp hb C ok rm hns hN' hsc hst hcd' hcell hft => ?_
  obtain ⟨A, env, ns', N', own, fr⟩ := C
  have e1 : ns' = nsF ns := hns
  have e2 : N' = ns.length := hN'
  subst e1 e2
  exact h xs hp hb A env own fr (blk_of ok hsc hst hfree hcell) rm ⟨hcd', hft⟩
noncomputable def BindN (fd : FuncData) (ns : List Str) : Nat → Prop
  | 0 => ∀ _ : Unit, bindArgs fd ⟨[], []⟩ = pure ((ns.take 0).zip [])
  | 1 => ∀ a, bindArgs fd ⟨[a], []⟩ = pure ((ns.take 1).zip [a])
  | 2 => ∀ a b, bindArgs fd ⟨[a, b], []⟩ = pure ((ns.take 2).zip [a, b])
  | 3 => ∀ a b c, bindArgs fd ⟨[a, b, c], []⟩ = pure ((ns.take 3).zip [a, b, c])
  | _ => False
theorem BindN.all {fd : FuncData} {ns : List Str} {k : Nat} (h : BindN fd ns k) (vs : List Value) (e : vs.length = k) : bindArgs fd ⟨vs, []⟩ = pure ((ns.take k).zip vs) := by
  subst e
  rcases vs with _ | ⟨a, _ | ⟨b, _ | ⟨c, _ | ⟨d, r⟩⟩⟩⟩
  · exact h ()
  · exact h a
  · exact h a b
  · exact h a b c
  · exact absurd h id
theorem fn_b (gk : GOk G) {n : Nat} {f : Addr} (ns : List Str) (k : Nat) {oc : Value} {od : Option Addr} {osl : Array (Option Value)} {name qual : Str} {params : Arguments} {body : List Stmt} {scope : Scope} {dV kV doc pm cdv ct : Value} {an : Option Addr}
    (hf : G.K.lookup f = some ⟨oc, od, .func (fnOf name qual params body scope dV kV doc pm an cdv ct), osl⟩) (hcd : codeIn G.K cdv qual = true)
    {xs : List AV} {hp : Addr → Option AObj} {K : AV → (Addr → Option AObj) → Prop}
    (h : ∀ A env own fr, Blk ⟨A, env, nsF ns, ns.length, own, fr⟩ scope → Room n ⟨A, env, nsF ns, ns.length, own, fr⟩ → env.code = cdv ∧ FrTop ⟨A, env, nsF ns, ns.length, own, fr⟩ → Exs prog w G ⟨A, env, nsF ns, ns.length, own, fr⟩ body ⟨fun i => xs[i]?, hp⟩ fun fl st => K (match fl with | .ret v => v | _ => .none) st.hp)
    (hbind : autoParam (BindN (fnOf name qual params body scope dV kV doc pm an cdv ct) ns k) tAll)
    (hx : autoParam (xs.length = k) tRfl)
    (hco : autoParam (scope.isCoroutine = false) tRfl) (hgen : autoParam (scope.isGenerator = false) tRfl) (hk : autoParam (scope.kind = .function) tRfl) (hkl : autoParam (k ≤ ns.length) tDec)
    (hN : autoParam (namesB ns = true) tRfl) (hkind : autoParam (paramB scope (ns.take k) = true) tRfl) (hfree : autoParam ((scope.names.all fun y => !isFree y.2) = true) tRfl) : FnC prog w G (n + 1) f xs hp K := by
  refine fn_bg gk ns k hf hcd (Bd := fun xs' hp' => xs' = xs ∧ hp' = hp) (fun C A ex s E st vs ok hhp R ha => ?_) (fun xs' hp' hq77 => by obtain ⟨e1, e2⟩ := hq77; subst e1 e2; exact h) hco hgen hk hkl hN hkind hfree
  rw [BindN.all hbind vs (ha.length.trans hx)]
  subst hhp
  exact wpAny_pure ⟨vs, xs, st.hp, rfl, ha, hx, R, rfl, rfl⟩
end
end Mine
end
section
open PySem PySem.W PySem.Calls PyProof.Rows
set_option Elab.async false
set_option linter.unusedVariables false
namespace Mine
variable {prog : Program} {w : World}
section
variable {G : Gl} {C : Cx} {scope : Scope} {st : St} {ex : Addr → Option Obj} {s : Shared}
theorem ev_bop1 {op : BoolOp} {e : Expr} {p : Pos} {K : AV → St → Prop} (h : Ev prog w G C e st K) : Ev prog w G C (.BoolOp op [e] p) st K := .mk fun ex s E R => BoolOp_one (h.run ex s E R)
theorem ev_and {e₁ e₂ : Expr} {rest : List Expr} {p : Pos} {K : AV → St → Prop} (h : Ev prog w G C e₁ st fun v st₁ => ∃ b, Truth st₁ v b ∧ if b = true then Ev prog w G C (.BoolOp .And (e₂ :: rest) p) st₁ K else K v st₁) : Ev prog w G C (.BoolOp .And (e₁ :: e₂ :: rest) p) st K := .mk fun ex s E R =>
  BoolOp_and (wpAny_mono (h.run ex s E R) (fun v s₁ hq => by
    obtain ⟨a, st₁, hv, R₁, b, ht, h₁⟩ := hq
    refine truthy_op R₁ hv ht fun t => ?_
    cases b with
    | true => exact Ev.run (by simpa using h₁) ex _ E (R₁.toks t)
    | false => exact ⟨a, st₁, hv, R₁.toks t, h₁⟩) fun _ _ x => x)
theorem ev_or {e₁ e₂ : Expr} {rest : List Expr} {p : Pos} {K : AV → St → Prop} (h : Ev prog w G C e₁ st fun v st₁ => ∃ b, Truth st₁ v b ∧ if b = true then K v st₁ else Ev prog w G C (.BoolOp .Or (e₂ :: rest) p) st₁ K) : Ev prog w G C (.BoolOp .Or (e₁ :: e₂ :: rest) p) st K := .mk fun ex s E R =>
  BoolOp_or (wpAny_mono (h.run ex s E R) (fun v s₁ hq => by
    obtain ⟨a, st₁, hv, R₁, b, ht, h₁⟩ := hq
    refine truthy_op R₁ hv ht fun t => ?_
    cases b with
    | false => exact Ev.run (by simpa using h₁) ex _ E (R₁.toks t)
    | true => exact ⟨a, st₁, hv, R₁.toks t, h₁⟩) fun _ _ x => x)
theorem tr_or {x y : Expr} {rest : List Expr} {p : Pos} {K : Bool → St → Prop} (h : Tr prog w G C x st fun b st₁ => if b = true then K true st₁ else Tr prog w G C (.BoolOp .Or (y :: rest) p) st₁ K) : Tr prog w G C (.BoolOp .Or (x :: y :: rest) p) st K := .mk fun ex s E R =>
  wpAny_isTrue_BoolOp (wpAny_allTrue_Or_cons (wpAny_mono (h.run ex s E R) (fun b s₁ hq80 => by
    obtain ⟨st₁, R₁, h₁⟩ := hq80
    cases b with
    | true => exact ⟨st₁, R₁, h₁⟩
    | false => exact h₁.run ex s₁ E R₁) fun _ _ x => x))
theorem tr_or1 {x : Expr} {p : Pos} {K : Bool → St → Prop} (h : Tr prog w G C x st K) : Tr prog w G C (.BoolOp .Or [x] p) st K := .mk fun ex s E R =>
  wpAny_isTrue_BoolOp (wpAny_allTrue_Or_cons (wpAny_mono (h.run ex s E R) (fun b s₁ hq81 => by
    obtain ⟨st₁, R₁, h₁⟩ := hq81
    cases b with
    | true => exact ⟨st₁, R₁, h₁⟩
    | false => exact wpAny_allTrue_Or_nil ⟨st₁, R₁, h₁⟩) fun _ _ x => x))
theorem ev_neg {e : Expr} {p : Pos} {K : AV → St → Prop} (h : Ev prog w G C e st fun v st₁ => ∃ i, v = .int i ∧ K (.int (-i)) st₁) : Ev prog w G C (.UnaryOp .USub e p) st K := .mk fun ex s E R =>
  wpAny_UnaryOp (wpAny_mono (h.run ex s E R) (fun v s₁ hq82 => by
    obtain ⟨a, st₁, hv, R₁, i, e1, h₁⟩ := hq82
    subst e1; obtain ⟨t, rfl⟩ := vabs_int hv
    exact PyProof.Rows.neg_int ⟨.int (-i), st₁, rfl, R₁.toks _, h₁⟩) fun _ _ x => x)
inductive IopC (op : Operator) (K : AV → St → Prop) (a b : AV) (st : St) : Prop
  | mk (i j k : Int) (e1 : a = .int i) (e2 : b = .int j) (e3 : intOp op i j = some k) (h : K (.int k) st)
noncomputable def iopK (prog : Program) (w : World) (G : Gl) (C : Cx) (r : Expr) (op : Operator) (K : AV → St → Prop) : AV → St → Prop := fun a st₁ => Ev prog w G C r st₁ (IopC op K a)
theorem ev_iop {l r : Expr} {op : Operator} {p : Pos} {K : AV → St → Prop} (h : Ev prog w G C l st (iopK prog w G C r op K)) : Ev prog w G C (.BinOp l op r p) st K :=
  ev_bin (Ev.mono h fun a st₁ h₁ => Ev.mono h₁ fun b st₂ hq83 va vb ha hb => by obtain ⟨i, j, k, e1, e2, e3, h₂⟩ := hq83; subst e1 e2; exact op_int ha hb e3 h₂)
theorem ev_icmp {l r : Expr} {op : CmpOp} {p : Pos} {K : AV → St → Prop} (h : Ev prog w G C l st fun a st₁ => Ev prog w G C r st₁ fun b st₂ => E3 fun i j k => A4 (a = .int i) (b = .int j) (intCmp op i j = some k) (K (.bool k) st₂)) (hm : autoParam (behindInMarks op r = false) tRfl) : Ev prog w G C (.Compare l [op] [r] p) st K :=
  ev_cmp (Ev.mono h fun a st₁ h₁ => Ev.mono h₁ fun b st₂ hq84 va vb ha hb => by obtain ⟨i, j, k, e1, e2, e3, h₂⟩ := hq84; subst e1 e2; exact cmp_int ha hb e3 h₂) hm
inductive IcmpC (op : CmpOp) (K : Bool → St → Prop) (a b : AV) (st : St) : Prop
  | mk (i j : Int) (k : Bool) (e1 : a = .int i) (e2 : b = .int j) (e3 : intCmp op i j = some k) (h : K k st)
noncomputable def icmpK (prog : Program) (w : World) (G : Gl) (C : Cx) (r : Expr) (op : CmpOp) (K : Bool → St → Prop) : AV → St → Prop := fun a st₁ => Ev prog w G C r st₁ (IcmpC op K a)
theorem tr_icmp {l r : Expr} {op : CmpOp} {p : Pos} {K : Bool → St → Prop} (h : Ev prog w G C l st (icmpK prog w G C r op K)) (hm : autoParam (behindInMarks op r = false) tRfl) : Tr prog w G C (.Compare l [op] [r] p) st K :=
  tr_cmp (Ev.mono h fun a st₁ h₁ => Ev.mono h₁ fun b st₂ hq85 va vb ha hb => by obtain ⟨i, j, k, e1, e2, e3, h₂⟩ := hq85; subst e1 e2; exact cmp_int ha hb e3 ⟨k, rfl, h₂⟩) hm
theorem op_is_none {va vb : Value} {a : AV} {K : AV → St → Prop} (ha : vabs va = some a) (hb : vabs vb = some .none) (h : K (.bool (a.isN)) st) : Op prog w G C (compareOp .Is va vb) st K := .mk fun ex s E R => by
  rw [vabs_none hb]
  refine is_none ⟨_, st, ?_, R, h⟩
  cases va <;> cases ha <;> rfl
theorem op_isnot_none {va vb : Value} {a : AV} {K : AV → St → Prop} (ha : vabs va = some a) (hb : vabs vb = some .none) (h : K (.bool (!a.isN)) st) : Op prog w G C (compareOp .IsNot va vb) st K := .mk fun ex s E R => by
  rw [vabs_none hb]
  refine isNot_none ⟨_, st, ?_, R, h⟩
  cases va <;> cases ha <;> rfl
theorem op_is_bool {va vb : Value} {a b : Bool} {K : AV → St → Prop} (ha : vabs va = some (.bool a)) (hb : vabs vb = some (.bool b)) (h : K (.bool (a == b)) st) : Op prog w G C (compareOp .Is va vb) st K := .mk fun ex s E R => by
  rw [vabs_bool ha, vabs_bool hb]
  exact wpAny_is_plain rfl ⟨.bool (a == b), st, by cases a <;> cases b <;> rfl, R, h⟩
theorem tr_none {l r : Expr} {p : Pos} {K : Bool → St → Prop} (h : Ev prog w G C l st fun a st₁ => Ev prog w G C r st₁ fun b st₂ => b = .none ∧ K (a.isN) st₂) (hm : autoParam (behindInMarks .Is r = false) tRfl) : Tr prog w G C (.Compare l [.Is] [r] p) st K :=
  tr_cmp (Ev.mono h fun a st₁ h₁ => Ev.mono h₁ fun b st₂ hq86 va vb ha hb => by obtain ⟨e1, h₂⟩ := hq86; subst e1; exact op_is_none ha hb ⟨_, rfl, h₂⟩) hm
theorem tr_some {l r : Expr} {p : Pos} {K : Bool → St → Prop} (h : Ev prog w G C l st fun a st₁ => Ev prog w G C r st₁ fun b st₂ => b = .none ∧ K (!a.isN) st₂) (hm : autoParam (behindInMarks .IsNot r = false) tRfl) : Tr prog w G C (.Compare l [.IsNot] [r] p) st K :=
  tr_cmp (Ev.mono h fun a st₁ h₁ => Ev.mono h₁ fun b st₂ hq87 va vb ha hb => by obtain ⟨e1, h₂⟩ := hq87; subst e1; exact op_isnot_none ha hb ⟨_, rfl, h₂⟩) hm
theorem op_is_other {x y : Addr} {X Y : AObj} {va vb : Value} {K : AV → St → Prop} (ha : vabs va = some (.ref x)) (hb : vabs vb = some (.ref y)) (hx : st.hp x = some X) (hy : st.hp y = some Y) (hne : x ≠ y) (hnt : ∀ vs, X ≠ .tup vs) (h : K (.bool false) st) : Op prog w G C (compareOp .Is va vb) st K := .mk fun ex s E R => by
  rw [vabs_ref ha, vabs_ref hb]
  obtain ⟨_, _, o, ho, hA⟩ := R.hp _ _ hx
  obtain ⟨_, _, o', ho', _⟩ := R.hp _ _ hy
  refine wpAny_is_ref_other hne ho ho' ?_ ⟨.bool false, st, rfl, R, h⟩
  cases X
  case list => obtain ⟨_, _, rfl, _⟩ := hA; simp
  case tup vs => exact absurd rfl (hnt vs)
  case dict => obtain ⟨_, _, q, _⟩ := hA; rw [q.1]; simp
  case set => obtain ⟨_, _, _, q, _⟩ := hA; rw [q.1]; simp
  case inst => subst hA; simp
  case attrs => obtain ⟨_, _, rfl, _⟩ := hA; simp
  case node => obtain ⟨_, rfl, _⟩ := hA; simp
  case liter => subst hA; simp
  case bnext => subst hA; simp
  case scr => obtain ⟨_, _, _, rfl, _⟩ := hA; simp
theorem cps_eq (x y : Str) : (x.cps.toList == y.cps.toList) = decide (x = y) := by
  by_cases h : x = y
  · subst h; simp
  · have : ¬ x.cps = y.cps := fun q => h (by cases x; cases y; simp only at q; rw [q])
    simp [this, h]
theorem op_ne_str {x y : Str} {va vb : Value} {K : AV → St → Prop} (ha : vabs va = some (.str x)) (hb : vabs vb = some (.str y)) (h : K (.bool (!decide (x = y))) st) : Op prog w G C (compareOp .NotEq va vb) st K := .mk fun ex s E R => by
  obtain ⟨t, rfl⟩ := vabs_str ha; obtain ⟨u, rfl⟩ := vabs_str hb
  exact P.ne_str ⟨.bool (!decide (x = y)), st, by rw [bne, cps_eq]; rfl, R, h⟩
theorem tr_ne_str {l r : Expr} {p : Pos} {K : Bool → St → Prop} (h : Ev prog w G C l st fun a st₁ => Ev prog w G C r st₁ fun b st₂ => E2 fun x y => A3 (a = .str x) (b = .str y) (K (!decide (x = y)) st₂)) (hm : autoParam (behindInMarks .NotEq r = false) tRfl) : Tr prog w G C (.Compare l [.NotEq] [r] p) st K :=
  tr_cmp (Ev.mono h fun a st₁ h₁ => Ev.mono h₁ fun b st₂ hq88 va vb ha hb => by obtain ⟨x, y, e1, e2, h₂⟩ := hq88; subst e1 e2; exact op_ne_str ha hb ⟨_, rfl, h₂⟩) hm
theorem any_ints (k : Int) (t : Tok) : ∀ {vs : List Value} {ns : List Int}, IntsAre vs ns → (vs.any fun y => match y with | .int i _ => i == k | _ => false) = ns.any (· == k) := by
  intro vs ns h
  induction h with
  | nil => rfl
  | cons n t' _ ih => exact congrArg ((n == k) || ·) ih
theorem op_notin_ints {k : Int} {l : Addr} {ns : List Int} {va vb : Value} {K : AV → St → Prop} (ha : vabs va = some (.int k)) (hb : vabs vb = some (.ref l)) (e : st.hp l = some (.list (ns.map .int))) (h : K (.bool (!ns.any (· == k))) st) : Op prog w G C (compareOp .NotIn va vb) st K := .mk fun ex s E R => by
  obtain ⟨t, rfl⟩ := vabs_int ha
  rw [vabs_ref hb]
  obtain ⟨vs, hl, hab⟩ := R.list e
  have hi := hab.ints
  refine SeqAt.notIn_listAt (fun y => match y with | .int i _ => i == k | _ => false) hl (fun y hy => ?_) ⟨_, st, rfl, R, ?_⟩
  · obtain ⟨j, hj⟩ := List.getElem?_of_mem (Array.mem_toList_iff.mpr hy)
    obtain ⟨x, hx, hv⟩ := hab.get' hj
    rw [List.getElem?_map] at hx
    obtain ⟨i, _, rfl⟩ := Option.map_eq_some_iff.mp hx
    obtain ⟨u, rfl⟩ := vabs_int hv
    exact (MeetsSeq.EqGives.int i k u t).at _ _
  · have : (vs.any fun y => match y with | .int i _ => i == k | _ => false) = ns.any (· == k) := by rw [← Array.any_toList]; exact any_ints k t hi
    rw [this]; exact h
theorem op_len_list {l : Addr} {xs : List AV} {va : Value} {K : AV → St → Prop} (ha : vabs va = some (.ref l)) (e : st.hp l = some (.list xs)) (hl : xs.length ≤ 1000) (h : K (.int xs.length) st) : Op prog w G C (call (.builtin "len") [va]) st K := .mk fun ex s E R => by
  rw [vabs_ref ha]
  obtain ⟨vs, hv, hab⟩ := R.list e
  have hs : vs.size = xs.length := by rw [← hab.length, Array.length_toList]
  exact PySem.Calls.call_len_list hv (by lia) ⟨.int xs.length, st, by rw [hs]; rfl, R.toks _, h⟩
theorem op_len_tup {l : Addr} {xs : List AV} {va : Value} {K : AV → St → Prop} (ha : vabs va = some (.ref l)) (e : st.hp l = some (.tup xs)) (hl : xs.length ≤ 1000) (h : K (.int xs.length) st) : Op prog w G C (call (.builtin "len") [va]) st K := .mk fun ex s E R => by
  rw [vabs_ref ha]
  obtain ⟨vs, n, o, hv, hc, hd, hab⟩ := R.tupE e
  have hs : vs.size = xs.length := by rw [← hab.length, Array.length_toList]
  exact PyProof.Rows.len_tuple ⟨o, hv, hc, n, hd⟩ (by lia) ⟨.int xs.length, st, by rw [hs]; rfl, R.toks _, h⟩
end
end Mine
end
section
open PySem PySem.W PySem.Calls PyProof.Rows
set_option Elab.async false
set_option linter.unusedVariables false
set_option maxRecDepth 100000
namespace Mine
variable {prog : Program} {w : World}
section
variable {G : Gl} {C : Cx} {scope : Scope} {st : St} {ex : Addr → Option Obj} {s : Shared}
theorem ev_g (gk : GOk G) (B : Blk C scope) {x : Str} {p : Pos} {v : Value} {a : AV} {K : AV → St → Prop} (hv : nsIn G.K mainGlobals x = some (some v)) (ha : vabs v = some a) (h : K a st) (hk : autoParam (gloB scope x = true) tRfl) (hd : autoParam ((x == ("__debug__" : Str)) = false) tRfl) : Ev prog w G C (.Name x p) st K := .mk fun ex s E R =>
  name_glob gk B.ok R (B.glo hk) hd hv ⟨a, st, ha, R, h⟩
theorem ev_ty (gk : GOk G) (B : Blk C scope) {x : Str} {p : Pos} {T : String} {K : AV → St → Prop} (hm : nsIn G.K mainGlobals x = some none) (hb : bootBuiltins x = some (.type T)) (h : K (.ty T) st) (hk : autoParam (gloB scope x = true) tRfl) (hd : autoParam ((x == ("__debug__" : Str)) = false) tRfl) (hn : autoParam (x ≠ "__name__") tDec) : Ev prog w G C (.Name x p) st K := .mk fun ex s E R =>
  name_bi gk B.ok R (B.glo hk) hd hn hm hb ⟨.ty T, st, rfl, R, h⟩
theorem ev_bi (gk : GOk G) (B : Blk C scope) {x : Str} {id : String} {np p : Pos} {es : List Expr} {K : AV → St → Prop} (hm : nsIn G.K mainGlobals x = some none) (hv : bootBuiltins x = some (.builtin id))
    (h : Es prog w G C es st fun xs st₁ => ∀ vs, Absl vs xs → Op prog w G C (call (.builtin id) vs) st₁ K) (hp : autoParam (es.all plainE = true) tRfl) (hk : autoParam (gloB scope x = true) tRfl) (hd : autoParam ((x == ("__debug__" : Str)) = false) tRfl) (hn : autoParam (x ≠ "__name__") tDec) : Ev prog w G C (.Call (.Name x np) es [] p) st K :=
  call_bi gk B.ok (B.glo hk) hd hn hm hv hp h
theorem ev_tyc (gk : GOk G) (B : Blk C scope) {x : Str} {T : String} {np p : Pos} {es : List Expr} {K : AV → St → Prop} (hm : nsIn G.K mainGlobals x = some none) (hv : bootBuiltins x = some (.type T))
    (h : Es prog w G C es st fun xs st₁ => ∀ vs, Absl vs xs → Op prog w G C (call (.type T) vs) st₁ K) (hp : autoParam (es.all plainE = true) tRfl) (hk : autoParam (gloB scope x = true) tRfl) (hd : autoParam ((x == ("__debug__" : Str)) = false) tRfl) (hn : autoParam (x ≠ "__name__") tDec) : Ev prog w G C (.Call (.Name x np) es [] p) st K :=
  call_ty gk B.ok (B.glo hk) hd hn hm hv hp h
noncomputable def fnR (K : AV → St → Prop) (st : St) : AV → (Addr → Option AObj) → Prop := fun v hp' => K v { st with hp := hp' }
noncomputable def fnK (prog : Program) (w : World) (G : Gl) (n : Nat) (f : Addr) (K : AV → St → Prop) : List AV → St → Prop := fun xs st₁ => FnC prog w G n f xs st₁.hp (fnR K st₁)
theorem ev_fn (gk : GOk G) (B : Blk C scope) {n : Nat} (rm : Room n C) {x : Str} {f : Addr} {np p : Pos} {es : List Expr} {K : AV → St → Prop} (hm : nsIn G.K mainGlobals x = some (some (.ref f)))
    (hf : fnB G.K f = true)
    (h : Es prog w G C es st (fnK prog w G n f K)) (hp : autoParam (es.all plainE = true) tRfl) (hk : autoParam (gloB scope x = true) tRfl) (hd : autoParam ((x == ("__debug__" : Str)) = false) tRfl) : Ev prog w G C (.Call (.Name x np) es [] p) st K :=
  by obtain ⟨_, _, _, _, hf⟩ := fnB_at hf; exact call_def gk B.ok rm (B.glo hk) hd hm hf hp h
noncomputable def consK (K : List AV → St → Prop) (v : AV) : List AV → St → Prop := fun vs st => K (v :: vs) st
noncomputable def esK (prog : Program) (w : World) (G : Gl) (C : Cx) (es : List Expr) (K : List AV → St → Prop) : AV → St → Prop := fun v st₁ => Es prog w G C es st₁ (consK K v)
theorem es_c {e : Expr} {es : List Expr} {K : List AV → St → Prop} (h : Ev prog w G C e st (esK prog w G C es K)) (hp : autoParam (plainE e = true) tRfl) : Es prog w G C (e :: es) st K := es_cons h fun env => star_plain hp env
theorem src_rng (gk : GOk G) (B : Blk C scope) {np p : Pos} {es : List Expr} {K : SrcK → St → Prop} (hm : nsIn G.K mainGlobals (Str.ofString "range") = some none)
    (h : Es prog w G C es st fun xs st₁ => E2 fun a b => A4 (rangeArgs xs = some (a, b)) (a.natAbs < 2 ^ 40) (b.natAbs < 2 ^ 40) (K (.range a (b - a).toNat) st₁)) (hp : autoParam (es.all plainE = true) tRfl) (hk : autoParam (gloB scope (Str.ofString "range") = true) tRfl) : Src prog w G C (.Call (.Name (Str.ofString "range") np) es [] p) st K :=
  src_range gk B.ok (B.glo hk) hm hp h
theorem op_slice {l sl : Addr} {xs : List AV} {vl : Value} {lo : Nat} {K : AV → St → Prop} (e : st.hp l = some (.list xs)) (hl : xs.length ≤ 1000) {ex : Addr → Option Obj} {s : Shared} {E : Value → Shared → Prop} (R : Real prog w G C ex st s) (hs : s.heap.IsSliceOf sl vl .none .none) (hlo : vabs vl = some (.int lo))
    (h : ∀ a, st.hp a = none → K (.ref a) (st.put a (.list (xs.drop lo)))) : wpAny (model prog w) C.A (getItem (.ref l) (.ref sl)) (fun v s' => E2 fun av st' => A3 (vabs v = some av) (Real prog w G C ex st' s') (K av st')) E s := by
  obtain ⟨vs, hv, hab⟩ := R.list e
  obtain ⟨t, rfl⟩ := vabs_int hlo
  have hs' : vs.size = xs.length := by rw [← hab.length, Array.length_toList]
  refine wpAny_getItem_list_slice hv hs (.int _ _) .none .none (by simp) ?_ (by rw [sizeLine_eq]; lia)
  rw [slicePick_from']
  have P := R.push (o := listO (vs.toList.drop lo).toArray 0) rfl (A := .list (xs.drop lo)) ⟨_, _, rfl, by unfold Absl at *; simp only [List.map_drop, hab]⟩ s.toks
  exact ⟨_, _, rfl, P.2, h _ P.1⟩
theorem ev_slice {o lo : Expr} {p p' : Pos} {K : AV → St → Prop} (h : Ev prog w G C o st fun v st₁ => Ev prog w G C lo st₁ fun i st₂ => E3 fun l xs k => A5 (v = .ref l) (i = .int (k : Nat)) (st₂.hp l = some (.list xs)) (xs.length ≤ 1000) (∀ a, st₂.hp a = none → K (.ref a) (st₂.put a (.list (xs.drop k))))) (ht : autoParam (∀ v r, letTemporaryGo o v r = pure ()) tAll) : Ev prog w G C (.Subscript o (.Slice (some lo) none none p) p') st K := .mk fun ex s E R => by
  refine wpAny_Subscript_Slice (T := "list") list_getitem_lookup (wpAny_mono (h.run ex s E R) (fun v s₁ hy12 => ?_) fun _ _ x => x) ht
  obtain ⟨av, st₁, hv, R₁, h₁⟩ := hy12
  refine wpAny_Slice ?_
  rw [evalPart_some, evalPart_none]
  refine wpAny_mono (h₁.run ex s₁ E R₁) (fun vi s₂ hy13 => ?_) fun _ _ x => x
  refine hide fun Pz hPz => ?_; (rcases hy13 with ⟨iv, st₂, hi, R₂, l, xs, k, e1, e2, el, hlen, h₂⟩) <;> (refine hPz ?_; clear hPz Pz)
  refine wpAny_pure (wpAny_pure ?_)
  subst e1 e2; rw [vabs_ref hv]
  have R₃ := R₂.pushed { cls := .type "slice", data := .fields #[vi, .none, .none] } s₂.toks
  obtain ⟨vs, hl, hab⟩ := R₃.list el
  exact ⟨hl.typeIs, op_slice el hlen R₃ (Heap.IsSliceOf.new ..) hi h₂⟩
theorem Real.scr (R : Real prog w G C ex st s) {a : Addr} {o : Obj} {xs : List Int} (e : st.hp a = some (.scr o xs)) : ∃ vs, s.heap.IsList a vs ∧ IntsAre vs.toList xs := by
  obtain ⟨_, _, o', ho, rfl, vs, n, e', hx⟩ := R.hp _ _ e
  subst e'
  exact ⟨vs, ⟨_, ho, rfl, n, rfl⟩, hx⟩
theorem ev_slice_scr {o lo step : Expr} {p p' : Pos} {K : AV → St → Prop} (h : Ev prog w G C o st fun v st₁ => Ev prog w G C lo st₁ fun i st₂ => Ev prog w G C step st₂ fun j st₃ => E5 fun l ob xs k m => A7 (v = .ref l) (i = .int k) (j = .int m) (m ≠ 0) (st₃.hp l = some (.scr ob xs)) (xs.length ≤ 1000) (∀ a (ns : List Int), st₃.hp a = none → K (.ref a) (st₃.put a (.list (ns.map .int))))) (ht : autoParam (∀ v r, letTemporaryGo o v r = pure ()) tAll) : Ev prog w G C (.Subscript o (.Slice (some lo) none (some step) p) p') st K := .mk fun ex s E R => by
  refine wpAny_Subscript_Slice_step (T := "list") list_getitem_lookup (wpAny_mono (h.run ex s E R) (fun v s₁ hy14 => ?_) fun _ _ x => x) ht
  obtain ⟨av, st₁, hv, R₁, h₁⟩ := hy14
  refine wpAny_Slice ?_
  rw [evalPart_some, evalPart_none, evalPart_some]
  refine wpAny_mono (h₁.run ex s₁ E R₁) (fun vi s₂ hy15 => ?_) fun _ _ x => x
  obtain ⟨iv, st₂, hi, R₂, h₂⟩ := hy15
  refine wpAny_pure (wpAny_mono (h₂.run ex s₂ E R₂) (fun vj s₃ hq93 => ?_) fun _ _ x => x)
  refine hide fun Pz hPz => ?_; (rcases hq93 with ⟨jv, st₃, hj, R₃, l, ob, xs, k, m, e1, e2, e3, hm, el, hlen, h₃⟩) <;> (refine hPz ?_; clear hPz Pz)
  subst e1 e2 e3; rw [vabs_ref hv]
  obtain ⟨t, rfl⟩ := vabs_int hi
  obtain ⟨u, rfl⟩ := vabs_int hj
  have R₄ := R₃.pushed { cls := .type "slice", data := .fields #[.int k t, .none, .int m u] } s₃.toks
  obtain ⟨vs, hl, hab⟩ := R₄.scr el
  have hs' : vs.size = xs.length := by rw [← hab.length, Array.length_toList]
  refine ⟨hl.typeIs, wpAny_getItem_list_slice hl (Heap.IsSliceOf.new ..) (.int _ _) .none (.int _ _) (by simpa using hm) ?_ (by rw [sizeLine_eq]; lia)⟩
  have hp := absl_ints (hab.pick (some k) none (some m))
  rw [Array.toArray_toList] at hp
  have P := R₄.push (o := listO (slicePick vs (some k) none (some m)) 0) rfl (A := .list ((pickNums xs (some k) none (some m)).map .int)) ⟨_, _, rfl, hp⟩ s₃.toks
  exact ⟨_, _, rfl, P.2, h₃ _ _ P.1⟩
theorem op_sum_scr (ok : COk C) {l : Addr} {o : Obj} {ns : List Int} {K : AV → St → Prop} (e : st.hp l = some (.scr o ns)) (h : K (.int ns.sum) st) : Op prog w G C (call (.builtin "sum") [.ref l]) st K := .mk fun ex s E R => by
  obtain ⟨vs, hl, hi⟩ := R.scr e
  obtain ⟨xs, hxs⟩ := (hi.allInts : AllInts vs.toList.toArray).items
  have hvs : vs = intItems xs := by rw [← hxs]
  subst hvs
  refine sum_intListG ok.hand hl fun h' tk t' hk => ⟨.int ns.sum, st, ?_, R.heap hk, h⟩
  rw [preSum_eq, List.take_of_length_le (by simp)]
  exact congrArg (fun i => some (AV.int i)) (by rw [← hi.numsOf, nums_intItems])
theorem op_add_list {l r : Addr} {xs ys : List AV} {va vb : Value} {K : AV → St → Prop} (ha : vabs va = some (.ref l)) (hb : vabs vb = some (.ref r)) (e : st.hp l = some (.list xs)) (e' : st.hp r = some (.list ys)) (hx : xs.length ≤ 1000) (hy : ys.length ≤ 1000) (h : ∀ a, st.hp a = none → K (.ref a) (st.put a (.list (xs ++ ys)))) : Op prog w G C (binaryOp .Add va vb) st K := .mk fun ex s E R => by
  rw [vabs_ref ha, vabs_ref hb]
  obtain ⟨vs, n, hv, hab⟩ := R.listE e
  obtain ⟨us, m, hu, hub⟩ := R.listE e'
  have h1 : vs.size = xs.length := by rw [← hab.length, Array.length_toList]
  have h2 : us.size = ys.length := by rw [← hub.length, Array.length_toList]
  have PP := R.push (o := listO (vs ++ us) 0) rfl (A := .list (xs ++ ys)) ⟨_, _, rfl, by rw [Array.toList_append]; exact hab.append hub⟩ s.toks
  exact P.add_list hv hu ⟨_, _, rfl, PP.2, h _ PP.1⟩ (by rw [sizeLine_eq]; lia)
theorem op_mul_list {l : Addr} {x : AV} {k : Nat} {va vb : Value} {K : AV → St → Prop} (ha : vabs va = some (.ref l)) (hb : vabs vb = some (.int k)) (e : st.hp l = some (.list [x])) (hk : k ≤ 1000) (h : ∀ a, st.hp a = none → K (.ref a) (st.put a (.list (List.replicate k x)))) : Op prog w G C (binaryOp .Mult va vb) st K := .mk fun ex s E R => by
  rw [vabs_ref ha]; obtain ⟨u, rfl⟩ := vabs_int hb
  obtain ⟨vs, n, hl, hab⟩ := R.listE e
  obtain ⟨v, hv, hvx⟩ := hab.one
  have hvs : vs = #[v] := by apply Array.toList_inj.mp; rw [hv]
  subst hvs
  have hfold : ∀ m : Nat, (List.foldl (fun x1 x2 => x1 ++ x2) (#[] : Array Value) (List.replicate m #[v])) = (List.replicate m v).toArray := by
    have key : ∀ (m : Nat) (acc : Array Value), List.foldl (fun x1 x2 => x1 ++ x2) acc (List.replicate m #[v]) = acc ++ (List.replicate m v).toArray := by
      intro m
      induction m with
      | zero => intro acc; simp
      | succ m ih =>
        intro acc
        rw [List.replicate_succ, List.foldl_cons, ih]
        apply Array.toList_inj.mp
        simp [List.replicate_succ]
    intro m; rw [key]; simp
  obtain ⟨x', hx'⟩ : ∃ x' : Int, (k : Int) = x' := ⟨_, rfl⟩
  have hxn : x'.toNat = k := by lia
  rw [hx']
  have c1 : ¬(!Builtin.List.listFitsIndex x') = true := by simp [Builtin.List.listFitsIndex]; lia
  have c2 : ¬(#[v] : Array Value).size * x'.toNat > (2 ^ 63 - 1) / 8 := by
    rw [hxn]; show ¬ 1 * k > _; lia
  have c3 : ¬Builtin.List.listTooLong ((#[v] : Array Value).size * x'.toNat) = true := by
    rw [hxn]; unfold Builtin.List.listTooLong; rw [sizeLine_eq]; show ¬ decide (1 * k > 16777216) = true; simp; exact Nat.le_trans ‹_› (by decide)
  refine wpAny_binaryOp_repeat_ref (T := "list") (U := "int") (by decide) ⟨_, hl, rfl⟩ (fun s' => typeIs_int s' x' u) noFill_list_mul F.fills_int_mul F.slot_int_rmul repeat_list F.slot_int_index.lookup
    (call_meets F.slot_int_rmul (typeIs_int s x' u) F.entry_int_rmul (F.args_int_rmul_2 _ _) (int___rmul___int_list x' u l #[v] n)
      ⟨hl, rfl, ⟨_, hl, rfl⟩, call_meets F.slot_list_mul ⟨_, hl, rfl⟩ F.entry_list_mul (F.args_list_mul_2 _ _)
        (AutoListH.list___mul___list_int_3 l #[v] n x' u c1 c2 c3)
        ⟨hl, ?_⟩⟩)
  have e0 : (List.foldl (fun x1 x2 => x1 ++ x2) (#[] : Array Value) (List.replicate (if (#[v] : Array Value).isEmpty = true then 0 else x'.toNat) #[v])) = (List.replicate k v).toArray := by
    rw [if_neg (by simp), hfold, hxn]
  rw [e0]
  have PP := R.push (o := listO (List.replicate k v).toArray 0) rfl (A := .list (List.replicate k x)) ⟨_, _, rfl, by unfold Absl; simp [hvx]⟩ s.toks
  exact ⟨_, _, rfl, PP.2, h _ PP.1⟩
theorem op_isi_int_tuple {i : Int} {va vb : Value} {K : AV → St → Prop} (ha : vabs va = some (.int i)) (hb : vabs vb = some (.ty "tuple")) (h : K (.bool false) st) : Op prog w G C (call (.builtin "isinstance") [va, vb]) st K := .mk fun ex s E R => by
  obtain ⟨t, rfl⟩ := vabs_int ha; rw [vabs_ty hb]
  exact IsiPair.int_tuple ⟨.bool false, st, rfl, R.toks _, h⟩
theorem op_isi_tup_tuple {l : Addr} {xs : List AV} {va vb : Value} {K : AV → St → Prop} (ha : vabs va = some (.ref l)) (hb : vabs vb = some (.ty "tuple")) (e : st.hp l = some (.tup xs)) (h : K (.bool true) st) : Op prog w G C (call (.builtin "isinstance") [va, vb]) st K := .mk fun ex s E R => by
  rw [vabs_ref ha, vabs_ty hb]
  obtain ⟨vs, n, o, hl, hc, hd, hab⟩ := R.tupE e
  exact IsiPair.tuple_tuple hl hc ⟨.bool true, st, rfl, R, h⟩
theorem op_isi_list_list {l : Addr} {xs : List AV} {va vb : Value} {K : AV → St → Prop} (ha : vabs va = some (.ref l)) (hb : vabs vb = some (.ty "list")) (e : st.hp l = some (.list xs)) (h : K (.bool true) st) : Op prog w G C (call (.builtin "isinstance") [va, vb]) st K := .mk fun ex s E R => by
  rw [vabs_ref ha, vabs_ty hb]
  obtain ⟨vs, n, hl, hab⟩ := R.listE e
  exact IsiPair.list_list hl rfl ⟨.bool true, st, rfl, R, h⟩
theorem op_tuple_list {l : Addr} {xs : List AV} {va : Value} {K : AV → St → Prop} (ha : vabs va = some (.ref l)) (e : st.hp l = some (.list xs)) (hl : xs.length ≤ 1000) (h : ∀ a, st.hp a = none → K (.ref a) (st.put a (.tup xs))) : Op prog w G C (call (.type "tuple") [va]) st K := .mk fun ex s E R => by
  rw [vabs_ref ha]
  obtain ⟨vs, hv, hab⟩ := R.list e
  have h1 : vs.size = xs.length := by rw [← hab.length, Array.length_toList]
  refine call_tuple_list hv (fun h' hk => ?_) (by rw [sizeLine_eq]; lia)
  have R' : Real prog w G C ex st { s with heap := h' } := R.heap (t := s.toks) hk
  have PP := R'.push (o := tupO vs 0) rfl (A := .tup xs) ⟨rfl, _, _, rfl, hab⟩ s.toks
  exact ⟨_, _, rfl, PP.2, h _ PP.1⟩
end
end Mine
end
section
open PySem PySem.W PySem.Calls PyProof.Rows
set_option Elab.async false
set_option linter.unusedVariables false
set_option maxRecDepth 100000
namespace Mine
variable {prog : Program} {w : World}
theorem collect_seq {A : Around} {E : Value → Shared → Prop} {s : Shared} {l : Addr} {T : String} (hT : T = "list" ∨ T = "tuple") {vs : List Value} {o : Obj} {n : Nat} {Q : List Value → Shared → Prop} (ho : s.heap.get? l = some o) (hc : o.cls = .type T) (hd : o.data = .seq vs.toArray n)
    (h : Q vs { s with heap := (s.heap.push (seqObj "list" #[] 0)).update s.heap.objs.size (Obj.mapSeq (· ++ vs.toArray)) }) (hsz : vs.length ≤ sizeLine) :
    wpAny (model prog w) A (collect (.ref l)) Q E s := by
  unfold collect
  refine wpAny_bind (wpAny_runValue (codeAny_builtin entry_proto_collect' ?_))
  show wpAny _ _ (do again (.builtin "list.__iadd__" ⟨[← newList [], .ref l], []⟩)) _ _ s
  refine wpAny_bind (wpAny_newList (wpAny_pure ⟨Code.quiet_builtin _ (by decide +kernel), codeAny_builtin entry_list_iadd' ?_⟩))
  show wpAny _ _ (Builtin.List.listExtendWith (.ref s.heap.objs.size) (.ref l) (.ref s.heap.objs.size)) _ _ { s with heap := s.heap.push (seqObj "list" #[] 0) }
  unfold Builtin.List.listExtendWith
  have ho' : (s.heap.push (seqObj "list" #[] 0)).get? l = some o := Heap.get?_push_of_some _ ho
  refine wpAny_bind (wpAny_typeOf (T := T) ⟨o, ho', hc⟩ ?_)
  have h1 : (Builtin.List.listSameRef (.ref s.heap.objs.size) (.ref l) || Value.type T == Value.type "list" || Value.type T == Value.type "tuple") = true := by
    rcases hT with rfl | rfl <;> simp
  rw [if_pos h1]
  refine wpAny_bind (listItems_at ho' hd ?_)
  refine wpAny_bind (listItems_at (xs := #[]) (n := 0) (Heap.get?_push_size _ rfl) rfl ?_)
  rw [if_neg (by simp)]
  refine wpAny_bind (listUpdate_at (xs := #[]) (n := 0) (Heap.get?_push_size _ rfl) rfl ?_ (Nat.zero_le _) (by show (#[] ++ vs.toArray).size ≤ sizeLine + 1; simp only [Array.size_append, List.size_toArray, List.length_nil]; lia))
  refine wpAny_pure ?_
  show wpAny (model prog w) A (do
      let o ← load s.heap.objs.size
      match o.data with
      | .seq xs _ => pure xs.toList
      | _ => unsupported "internal:collect") Q E { s with heap := (s.heap.push (seqObj "list" #[] 0)).update s.heap.objs.size (Obj.mapSeq (· ++ vs.toArray)) }
  refine wpAny_bind (wpAny_load (get?_update_seq (Heap.get?_push_size _ rfl) _) ?_)
  show wpAny _ _ (pure ((#[] : Array Value) ++ vs.toArray).toList) Q E _
  rw [show ((#[] : Array Value) ++ vs.toArray).toList = vs by simp]
  exact wpAny_pure h
theorem sorted_seq {A : Around} {E : Value → Shared → Prop} {s : Shared} {l : Addr} {T : String} (hT : T = "list" ∨ T = "tuple") {vs : List Value} {ss : List Str} {o : Obj} {n : Nat} {Q : Value → Shared → Prop} (ho : s.heap.get? l = some o) (hc : o.cls = .type T) (hd : o.data = .seq vs.toArray n) (hS : StrsAre vs ss) (h64 : vs.length < 64)
    (h : ∀ (out : Array Value) (ss' : List Str), StrsAre out.toList ss' → ss'.Perm ss → sortedS ss' = true → Q (.ref (s.heap.objs.size + 1)) { s with heap := sortedAll s.heap vs out }) :
    wpAny (model prog w) A (call (.builtin "sorted") [.ref l]) Q E s := by
  refine Calls.call_function_entry kind_sorted plain_sorted entry_sorted (args_sorted1 _) ?_
  unfold Builtin.«sorted»
  refine wpAny_bind (m := checkCount "sorted" 1 1 _) (wpAny_pure ?_)
  refine wpAny_bind (collect_seq hT ho hc hd ?_ (by rw [sizeLine_eq]; exact Nat.le_trans (Nat.le_of_lt ‹_›) (by decide)))
  refine wpAny_bind (wpAny_newList ?_)
  have hsz : ((s.heap.push (seqObj "list" #[] 0)).update s.heap.objs.size (Obj.mapSeq (· ++ vs.toArray))).objs.size = s.heap.objs.size + 1 := by
    rw [Heap.size_update, size_push']
  have hoL : (((s.heap.push (seqObj "list" #[] 0)).update s.heap.objs.size (Obj.mapSeq (· ++ vs.toArray))).push (seqObj "list" vs.toArray 0)).get? (s.heap.objs.size + 1) = some (seqObj "list" vs.toArray 0) := by
    rw [← hsz]; exact Heap.get?_push_size _ rfl
  show wpAny _ _ _ _ _ { s with heap := ((s.heap.push (seqObj "list" #[] 0)).update s.heap.objs.size (Obj.mapSeq (· ++ vs.toArray))).push (seqObj "list" vs.toArray 0) }
  rw [hsz]
  refine wpAny_bind (wpAny_holding (wpAny_call_entry slot_list_sort ⟨_, hoL, rfl⟩ entry_list_sort (list_sort_treeK strKind_oneLt hoL hS.keysOf (fun v₁ v₂ rest e => keyKind_strs (by rw [← e]; exact hS)) h64 fun st' hp hs => ⟨_, rfl, ?_⟩) (args_list_sort _)))
  obtain ⟨ss', h1, h2, h3⟩ := sorted_out_str hS hp hs
  exact wpAny_pure ⟨_, rfl, h _ ss' h1 h2 h3⟩
section
variable {G : Gl} {C : Cx} {scope : Scope} {st : St} {ex : Addr → Option Obj} {s : Shared}
theorem op_sorted {l : Addr} {ss : List Str} {va : Value} {K : AV → St → Prop} (ha : vabs va = some (.ref l)) (e : st.hp l = some (.list (ss.map .str)) ∨ st.hp l = some (.tup (ss.map .str))) (hl : ss.length < 64) (h : ∀ a ss', st.hp a = none → ss'.Perm ss → sortedS ss' = true → K (.ref a) (st.put a (.list (ss'.map .str)))) : Op prog w G C (call (.builtin "sorted") [va]) st K := .mk fun ex s E R => by
  rw [vabs_ref ha]
  have key : E4 fun (T : String) (vs : List Value) (o : Obj) (n : Nat) => A5 (T = "list" ∨ T = "tuple") (s.heap.get? l = some o) (o.cls = .type T) (o.data = .seq vs.toArray n) (StrsAre vs ss) := by
    rcases e with e | e
    · obtain ⟨vs, n, hv, hab⟩ := R.listE e
      exact ⟨"list", vs.toList, _, n, .inl rfl, hv, rfl, by simp, hab.strs⟩
    · obtain ⟨vs, n, o, hv, hc, hd, hab⟩ := R.tupE e
      exact ⟨"tuple", vs.toList, _, n, .inr rfl, hv, hc, by simpa using hd, hab.strs⟩
  obtain ⟨T, vs, o, n, hT, ho, hc, hd, hS⟩ := key
  refine sorted_seq hT ho hc hd hS (by rw [hS.length]; exact hl) fun out ss' h1 h2 h3 => ?_
  have R' : Real prog w G C ex st { s with heap := sortedAll s.heap vs out } := R.heap (t := s.toks) fun _ _ => sortedAll_old
  obtain ⟨c, hc'⟩ := sortedAll_at s.heap vs out
  have O : Off G C ex st (s.heap.objs.size + 1) := R.off_new (by
    cases q : s.heap.get? (s.heap.objs.size + 1) with
    | none => rfl
    | some o' => exact absurd (Heap.lt_size q) (Nat.not_lt.mpr (Nat.le_succ _)))
  exact ⟨_, _, rfl, R'.take O hc' (A := .list (ss'.map .str)) ⟨_, _, rfl, absl_strs h1⟩, h _ ss' O.hp h2 h3⟩
noncomputable def puts (hp : Hp) : List (Addr × AObj) → Hp
  | [] => hp
  | (a, A) :: r => hset (puts hp r) a A
theorem Real.takes {hp : Hp} {loc : Nat → Option AV} : ∀ {ps : List (Addr × AObj)}, Real prog w G C ex ⟨loc, hp⟩ s → (∀ p ∈ ps, Off G C ex ⟨loc, hp⟩ p.1 ∧ ∃ o, s.heap.get? p.1 = some o ∧ p.2.is prog w o) → Real prog w G C ex ⟨loc, puts hp ps⟩ s := by
  intro ps
  induction ps with
  | nil =>
    intro R _
    exact R
  | cons q0 r ih =>
    intro R h
    obtain ⟨a, A⟩ := q0
    have ih := ih R fun p hp => h p (.tail _ hp)
    obtain ⟨O, o, ho, hA⟩ := h (a, A) (.head _)
    refine ⟨ih.ns, ih.keep, ih.base, ih.exL, ih.exC, fun b A' e => ?_, ih.tab, ih.gens, ih.os, ih.cells, fun p hp => by obtain ⟨x, b, c, d⟩ := ih.frs p hp; exact ⟨x, b, (hset_other _ _ (Ne.symm (O.fr p hp))).trans c, d⟩⟩
    by_cases q : b = a
    · subst q
      have e' : hset (puts hp r) b A b = some A' := e
      rw [hset_self] at e'; cases e'
      exact ⟨O.ex, O.loc, o, ho, hA⟩
    · have e' : hset (puts hp r) a A b = some A' := e
      rw [hset_other _ _ q] at e'
      exact ih.hp b A' e'
theorem puts_other {hp : Hp} {b : Addr} : ∀ {ps : List (Addr × AObj)}, (∀ p ∈ ps, p.1 ≠ b) → puts hp ps b = hp b := by
  intro ps
  induction ps with
  | nil =>
    intro _
    rfl
  | cons q0 r ih =>
    intro h
    obtain ⟨a, A⟩ := q0
    show hset (puts hp r) a A b = hp b
    rw [hset_other _ _ (Ne.symm (h (a, A) (.head _)))]
    exact ih fun p hp => h p (.tail _ hp)
theorem puts_at {hp : Hp} {ps : List (Addr × AObj)} (h : (ps.map (·.1)).Nodup) (a : Addr) (A : AObj) (hm : (a, A) ∈ ps) : puts hp ps a = some A := by
  induction ps with
  | nil => cases hm
  | cons x r ih =>
    obtain ⟨b, B⟩ := x
    show hset (puts hp r) b B a = some A
    rw [List.map_cons, List.nodup_cons] at h
    rcases List.mem_cons.mp hm with e | hm
    · obtain ⟨rfl, rfl⟩ := Prod.mk.inj e
      exact hset_self ..
    · have : a ≠ b := fun q => h.1 (by rw [← q]; exact List.mem_map.mpr ⟨(a, A), hm, rfl⟩)
      rw [hset_other _ _ this]
      exact ih h.2 hm
theorem ev_list_items (gk : GOk G) (B : Blk C scope) {o : Expr} {np ap ip p : Pos} {K : AV → St → Prop} (hm : nsIn G.K mainGlobals (Str.ofString "list") = some none)
    (h : Ev prog w G C o st fun v st₁ => E3 fun d es ep => A4 (v = .ref d) (st₁.hp d = some (.dict es ep)) (es.length ≤ 1000) (∀ (L : Addr) (as : List Addr) (hp' : Hp), Le st₁.hp hp' → st₁.hp L = none → hp' L = some (.list (as.map .ref)) → as.length = es.length →
      (∀ (j : Nat) (a : Addr), as[j]? = some a → E2 fun k v => es[j]? = some (k, v) ∧ hp' a = some (.tup [.str k, v])) → K (.ref L) ⟨st₁.loc, hp'⟩))
    (hbase : autoParam (attributeBase o "items" C.env (eval o C.env) = eval o C.env) tRfl) (hline : autoParam ((ap.endLine == ip.line) = true) tRfl) (hk : autoParam (gloB scope (Str.ofString "list") = true) tRfl) :
    Ev prog w G C (.Call (.Name (Str.ofString "list") np) [.Call (.Attribute o (Str.ofString "items") ap) [] [] ip] [] p) st K := .mk fun ex s E R => by
  refine wpAny_Call_NameR (name_bi gk B.ok R (B.glo hk) (by decide) (by decide) hm (by decide +kernel : bootBuiltins (Str.ofString "list") = some (.type "list")) (PySem.callWith_type (plain_any (by rfl) _ _) (args_plain (by rfl) ?_)))
  refine wpAny_items_cons ?_ (star_plain rfl _)
  refine meth_of F.plainAttrs_dict F.slot_dict_items F.type_dict_items rfl (by decide) hbase hline (wpAny_mono (h.run ex s E R) (fun v s₁ hq94 => ?_) fun _ _ x => x)
  refine hide fun Pz hPz => ?_; (rcases hq94 with ⟨a, st₁, hv, R₁, d, es, ep, ea, el, hlen, h₁⟩) <;> (refine hPz ?_; clear hPz Pz)
  subst ea; rw [vabs_ref hv]
  obtain ⟨kvs, hl, hab⟩ := R₁.dict el
  refine ⟨hl.dictOf.typeIs, R₁.dictNo el, wpAny_items_nil ?_⟩
  refine call_meetsIn F.slot_dict_items hl.dictOf.typeIs F.entry_dict_items (F.args_dict_items_1 _) (meets_dict_items (strKind prog w) d (noSys R₁ gk.sys el)) ⟨⟨kvs, hl.dictOf⟩, ?_⟩
  refine wpAny_items_nil ?_
  have R₂ := R₁.pushed { cls := .type "dict_items", data := .fields #[.ref d] } s₁.toks
  refine kdx_call (knd := strKind prog w) (d := d) (kvs := kvs) (ep := ep) B.ok.hand ⟨_, Heap.get?_push_size _ rfl, rfl, rfl⟩ (hl.push _) (by rw [hab.length, sizeLine_eq]; exact Nat.le_trans ‹_› (by decide)) ?_
  intro h' tk acc c as hkeep hL hal hG hacc
  have R₃ : Real prog w G C ex ⟨st₁.loc, st₁.hp⟩ { s₁ with heap := h', toks := tk } := R₂.heap hkeep
  generalize hLd : (s₁.heap.push { cls := .type "dict_items", data := .fields #[.ref d] }).objs.size = L at hkeep hL hG
  have newL : ∀ b, L ≤ b → (s₁.heap.push { cls := .type "dict_items", data := .fields #[.ref d] }).get? b = none := fun b hb => by
    cases q : (s₁.heap.push { cls := .type "dict_items", data := .fields #[.ref d] }).get? b with
    | none => rfl
    | some o' => exact absurd (Heap.lt_size q) (by rw [hLd]; exact Nat.not_lt.mpr hb)
  have offB : ∀ b, L ≤ b → Off G C ex ⟨st₁.loc, st₁.hp⟩ b := fun b hb => R₂.off_new (newL b hb)
  let tup : Nat → Addr × AObj := fun j => (as.getD j 0, .tup [.str (es.getD j (Str.empty, .none)).1, (es.getD j (Str.empty, .none)).2])
  let ps : List (Addr × AObj) := (L, .list (as.map .ref)) :: (List.range as.length).map tup
  have hps1 : ps.map (·.1) = L :: as := by
    show L :: ((List.range as.length).map tup).map (·.1) = _
    rw [List.map_map]
    congr 1
    apply List.ext_getElem
    · simp
    · intro j h1 h2
      have h2' : j < as.length := h2
      simp [tup, List.getD, h2']
  have hnd : (ps.map (·.1)).Nodup := by
    rw [hps1, List.nodup_cons]
    refine ⟨fun hmem => absurd (hG.above L hmem) (Nat.lt_irrefl _), ?_⟩
    exact hG.rise.imp fun h => Nat.ne_of_lt h
  have hge : ∀ p ∈ ps, L ≤ p.1 := fun p hp => by
    have : p.1 ∈ ps.map (·.1) := List.mem_map.mpr ⟨p, hp, rfl⟩
    rw [hps1] at this
    rcases List.mem_cons.mp this with q | q
    · rw [q]; exact Nat.le_refl _
    · exact Nat.le_of_lt (hG.above _ q)
  have R₄ := R₃.takes (ps := ps) fun p hp => ⟨offB p.1 (hge p hp), by
    rcases List.mem_cons.mp hp with rfl | hp
    · refine ⟨_, hL, acc, c, rfl, ?_⟩
      rw [hacc]; unfold Absl; simp; exact fun _ _ => rfl
    · obtain ⟨j, hj, rfl⟩ := List.mem_map.mp hp
      rw [List.mem_range] at hj
      have haj : as[j]? = some (as.getD j 0) := by simp [List.getD, hj]
      obtain ⟨key, k, x, e1, e2, e3⟩ := hG.pairs j _ haj
      have hj' : j < es.length := by rw [← hab.length, ← hal]; exact hj
      obtain ⟨y, hy1, hy2⟩ := hab.get (i := j) (k := (es.getD j (Str.empty, .none)).1) (x := (es.getD j (Str.empty, .none)).2) (by simp [List.getD, hj'])
      rw [e1] at hy1
      obtain ⟨hk1, rfl⟩ := Prod.mk.inj (Option.some.inj hy1)
      refine ⟨_, e3, rfl, #[key, x], _, rfl, ?_⟩
      obtain ⟨t, rfl⟩ := Value.isStrOf_shape e2
      exact Absl.cons (by rw [← hk1]; rfl) (Absl.cons hy2 .nil)⟩
  refine ⟨.ref L, _, rfl, R₄, h₁ L as _ (fun b A e => ?_) (offB L (Nat.le_refl _)).hp (puts_at hnd L _ (.head _)) (by rw [hal, hab.length]) fun j a ha => ?_⟩
  · rw [puts_other]
    · exact e
    · intro p hp q
      have := (offB p.1 (hge p hp)).hp
      rw [q] at this
      have e' : st₁.hp b = some A := e
      rw [show (⟨st₁.loc, st₁.hp⟩ : St).hp b = st₁.hp b from rfl, e'] at this; cases this
  · have hj : j < as.length := (List.getElem?_eq_some_iff.mp ha).1
    have hj' : j < es.length := by rw [← hab.length, ← hal]; exact hj
    refine ⟨(es.getD j (Str.empty, .none)).1, (es.getD j (Str.empty, .none)).2, by simp [List.getD, hj'], ?_⟩
    have : a = as.getD j 0 := by simp [List.getD, ha]
    subst this
    exact puts_at hnd _ _ (.tail _ (List.mem_map.mpr ⟨j, List.mem_range.mpr hj, rfl⟩))
end
end Mine
end
section
open PySem PySem.W PySem.Calls PyProof.Rows
set_option Elab.async false
set_option linter.unusedVariables false
set_option maxRecDepth 100000
namespace Mine
variable {prog : Program} {w : World}
section
variable {G : Gl} {C : Cx} {scope : Scope} {st : St} {ex : Addr → Option Obj} {s : Shared}
theorem ev_dict1 {k v : Expr} {p : Pos} {K : AV → St → Prop} (h : Ev prog w G C k st fun a st₁ => Ev prog w G C v st₁ fun b st₂ => ∃ x, a = .str x ∧ ∀ d ep, st₂.hp d = none → K (.ref d) (st₂.put d (.dict [(x, b)] ep))) : Ev prog w G C (.Dict [some k] [v] p) st K := .mk fun ex s E R => by
  refine wpAny_Dict_walk (knd := strKind prog w) rfl rfl (by simp) (by simp) (pairTrees_cons_walk ?_)
  have O := R.off_new (none_of_size (h := s.heap))
  have R₁ := R.pushed { cls := .type "dict", data := .dict #[] } s.toks
  have hD : (s.heap.push { cls := .type "dict", data := .dict #[] }).get? s.heap.objs.size = some { cls := .type "dict", data := .dict #[] } := Heap.get?_push_size _ rfl
  have RH := R₁.hold O hD
  refine wpAny_mono (h.run _ _ E RH) (fun kv s₁ hy16 => ?_) fun _ _ y => y
  refine hide fun Pz hPz => ?_
  obtain ⟨a, st₁, ha, R₂, h₁⟩ := hy16
  refine hPz ?_
  clear hPz Pz
  refine wpAny_mono (h₁.run _ _ E R₂) (fun vv s₂ hy17 => ?_) fun _ _ y => y
  refine hide fun Pz hPz => ?_
  obtain ⟨b, st₂, hb, R₃, x, e1, h₂⟩ := hy17
  refine hPz ?_
  clear hPz Pz
  refine pairTrees_nil_walk ?_
  subst e1
  obtain ⟨R₄, O₄, ho₄⟩ := R₃.drop O.ex R.base
  refine ⟨[(x, vv)], ⟨strKey ha, rfl, trivial⟩, Heap.DictAt.dictOf (ep := 0) ⟨_, #[], ho₄, ⟨rfl, rfl, rfl⟩, rfl, fun _ he => by simp at he, .nil, .nil⟩, fun h' hd hs => ?_⟩
  obtain ⟨ep, hd'⟩ := hd.dictAt
  have hkv : KvA (merged [] [(x, vv)]) [(x, b)] := by
    have : merged ([] : List (Str × Value)) [(x, vv)] = [(x, vv)] := rfl
    rw [this]; simp [KvA, hb]
  obtain ⟨o, ho, hA⟩ := dict_is hd' hkv
  have R₅ : Real prog w G C ex st₂ { s₂ with heap := h', toks := s₂.toks + 1 } := R₄.scratch O₄ (fun c o' q e => (hs.2 c q).trans e) (fun o' r e q => by rw [ho₄] at e; cases e; cases q) R₄.gens rfl
  exact ⟨_, _, rfl, R₅.take O₄ ho hA, h₂ _ ep O₄.hp⟩
noncomputable def sets (st : St) : List Nat → List AV → St
  | i :: is, v :: vs => sets (st.set i v) is vs
  | _, _ => st
theorem unpack (ok : COk C) : ∀ (is : List (Nat × Pos)) (vs : List Value) (xs : List AV) (st : St) (s : Shared) (Q : Unit → Shared → Prop) (E : Value → Shared → Prop), (∀ q ∈ is, Sto C q.1) → vs.length = is.length → Absl vs xs → Real prog w G C ex st s → (∀ s', Real prog w G C ex (sets st (is.map (·.1)) xs) s' → Q () s') →
    wpAny (model prog w) C.A (assignInOrder ((assignEach (is.map fun q => .Name (C.ns q.1) q.2) C.env).map (·.2)) vs) Q E s := by
  intro is
  induction is with
  | nil =>
    intro vs xs st s Q E _ hl ha R h
    cases List.length_eq_zero_iff.mp hl
    exact wpAny_assignInOrder_none (h s (by cases xs <;> exact R))
  | cons ip is ih =>
    intro vs xs st s Q E hs hl ha R h
    cases vs with
    | nil => cases hl
    | cons v vs => cases xs with
      | nil => cases ha
      | cons x xs =>
        obtain ⟨ha, hb⟩ := List.cons.inj ha
        refine wpAny_assignInOrder_more (assign_name ok (hs _ (.head _)) R ha fun s' R' _ => ?_)
        exact ih vs xs _ s' Q E (fun q hq => hs q (.tail _ hq)) (Nat.succ.inj hl) hb R' h
inductive SetTC (is : List (Nat × Pos)) (K : AFlow → St → Prop) (v : AV) (st : St) : Prop
  | mk (t : Addr) (xs : List AV) (e1 : v = .ref t) (e2 : st.hp t = some (.tup xs)) (hl : xs.length = is.length) (h : K .next (sets st (is.map (·.1)) xs))
theorem set_tup (B : Blk C scope) (is : List (Nat × Pos)) {elts : List Expr} {k : Nat} {p q : Pos} {e : Expr} {K : AFlow → St → Prop}
    (h : Ev prog w G C e st (SetTC is K))
    (he : autoParam (elts = is.map fun q => .Name (C.ns q.1) q.2) tRfl) (hN : autoParam ((is.all fun q => decide (q.1 < C.N) && locB scope (C.ns q.1)) = true) tRfl)
    (hstar : autoParam ((assignEach (is.map fun q => Expr.Name (C.ns q.1) q.2) C.env).findIdx? (·.1) = none) tRfl) (hlen : autoParam ((assignEach (is.map fun q => Expr.Name (C.ns q.1) q.2) C.env).length = is.length) tRfl)
    (hs : autoParam (swapsWithSole [.Tuple elts k p] e q.line C.env = pure false) tRfl) (hw : autoParam (swappedStores [.Tuple elts k p] e C.env = pure none) tRfl) : Ex prog w G C (.Assign [.Tuple elts k p] e q) st K := .mk fun ex s E R => by
  refine Assign_Tuple (wpAny_mono (h.run ex s E R) (fun v s₁ hq97 => ?_) fun _ _ x => x) hs hw
  refine hide fun Pz hPz => ?_; (rcases hq97 with ⟨a, st₁, hv, R₁, t, xs, ea, et, hx, h₁⟩) <;> (refine hPz ?_; clear hPz Pz)
  subst ea he; rw [vabs_ref hv]
  obtain ⟨vs, ht, hab⟩ := R₁.tuple et
  have hz : vs.size = xs.length := by rw [← hab.length, Array.length_toList]
  refine wpAny_assign_Tuple B.ok.hand ht (by rw [hlen, hz, hx]) hstar fun h' hk => ?_
  have R₂ : Real prog w G C ex st₁ { s₁ with heap := h' } := R₁.grow (fun b o e => hk b o (Nat.ne_of_lt (Heap.lt_size e)) e) R₁.gens rfl
  refine unpack B.ok is _ xs st₁ _ _ _ (fun q hq => ?_) (by rw [Array.length_toList, hz, hx]) hab R₂ fun s' R' => ⟨.next, _, rfl, R', h₁⟩
  have := List.all_eq_true.mp hN q hq
  rw [Bool.and_eq_true, decide_eq_true_eq] at this
  exact B.stoB this.1 this.2
theorem aug_sub {o i e : Expr} {p q : Pos} {K : AFlow → St → Prop}
    (h : Ev prog w G C o st fun a st₁ => Ev prog w G C i st₁ fun b st₂ => ∃ m, Sub st₂ a b (.int m) ∧ Ev prog w G C e st₂ fun y st₃ => ∃ n, y = .int n ∧ ∀ va vb vv, vabs va = some a → vabs vb = some b → vabs vv = some (.int (m + n)) → OpU prog w G C (setItem va vb vv) st₃ (K .next))
    (hi : autoParam (∀ ov iv new, augStore i ov iv new = (do holding [new, ov, iv] (setItem ov iv new); release [new, ov, iv] []; pure .next)) tAll) : Ex prog w G C (.AugAssign (.Subscript o i p) .Add e q) st K := .mk fun ex s E R => by
  refine wpAny_AugAssign_SubscriptAny (wpAny_mono (h.run ex s E R) (fun va s₁ hy18 => ?_) fun _ _ x => x) hi
  refine hide fun Pz hPz => ?_
  obtain ⟨a, st₁, ha, R₁, h₁⟩ := hy18
  refine hPz ?_
  clear hPz Pz
  refine wpAny_mono (h₁.run ex s₁ E R₁) (fun vb s₂ hq99 => ?_) fun _ _ x => x
  refine hide fun Pz hPz => ?_
  obtain ⟨b, st₂, hb, R₂, m, hm, h₂⟩ := hq99
  refine hPz ?_
  clear hPz Pz
  refine wpAny_mono ((op_item (K := fun x st' => x = .int m ∧ st' = st₂) ha hb hm ⟨rfl, rfl⟩).run ex s₂ E R₂) (fun old s₃ hq100 => ?_) fun _ _ x => x
  refine hide fun Pz hPz => ?_
  obtain ⟨x, st₃, hx, R₃, e1, e2⟩ := hq100
  refine hPz ?_
  clear hPz Pz
  subst e1 e2
  refine wpAny_mono (h₂.run ex s₃ E R₃) (fun vy s₄ hq101 => ?_) fun _ _ x => x
  refine hide fun Pz hPz => ?_
  obtain ⟨y, st₄, hy, R₄, n, e3, h₃⟩ := hq101
  refine hPz ?_
  clear hPz Pz
  subst e3
  obtain ⟨t, rfl⟩ := vabs_int hx
  obtain ⟨u, rfl⟩ := vabs_int hy
  exact wpAny_iadd_int (wpAny_mono ((h₃ va vb (.int (m + n) s₄.toks) ha hb rfl).run ex _ E (R₄.toks _)) (fun _ s₅ hq102 => by obtain ⟨st₅, R₅, h₅⟩ := hq102; exact ⟨.next, st₅, rfl, R₅, h₅⟩) fun _ _ x => x)
theorem set_item_l {o i e : Expr} {p q : Pos} {K : AFlow → St → Prop} (h : Ev prog w G C e st fun v st₁ => Ev prog w G C o st₁ fun a st₂ => Ev prog w G C i st₂ fun b st₃ => E3 fun l xs k => A6 (a = .ref l) (b = .int (k : Nat)) (st₃.hp l = some (.list xs)) (k < xs.length) (xs.length ≤ 1000) (K .next (st₃.put l (.list (xs.set k v)))))
    (hs : autoParam (swapsWith e (some (.Subscript o i p)) q.line C.env = pure false) tRfl) : Ex prog w G C (.Assign [.Subscript o i p] e q) st K :=
  ex_setitem (Ev.mono h fun v st₁ h₁ => Ev.mono h₁ fun a st₂ h₂ => Ev.mono h₂ fun b st₃ hq103 vv va vb hv ha hb => by
    refine hide fun Pz hPz => ?_
    obtain ⟨l, xs, k, e1, e2, el, hk, hl, h₃⟩ := hq103
    refine hPz ?_
    clear hPz Pz
    subst e1 e2
    exact op_set_list ha hb hv el (Int.natCast_nonneg _) (Int.ofNat_lt.mpr ‹_›) hl (by simpa using h₃)) hs
inductive SetDC (K : AFlow → St → Prop) (v a b : AV) (st : St) : Prop
  | mk (d : Addr) (es : List (Str × AV)) (ep : Nat) (k : Str) (e1 : a = .ref d) (e2 : b = .str k) (e3 : st.hp d = some (.dict es ep)) (hl : es.length ≤ 1000) (h : ∀ ep', K .next (st.put d (.dict (aput es k v) ep')))
noncomputable def setD2 (prog : Program) (w : World) (G : Gl) (C : Cx) (i : Expr) (K : AFlow → St → Prop) (v : AV) : AV → St → Prop := fun a st₂ => Ev prog w G C i st₂ (SetDC K v a)
noncomputable def setD1 (prog : Program) (w : World) (G : Gl) (C : Cx) (o i : Expr) (K : AFlow → St → Prop) : AV → St → Prop := fun v st₁ => Ev prog w G C o st₁ (setD2 prog w G C i K v)
theorem set_item_d {o i e : Expr} {p q : Pos} {K : AFlow → St → Prop} (h : Ev prog w G C e st (setD1 prog w G C o i K))
    (hs : autoParam (swapsWith e (some (.Subscript o i p)) q.line C.env = pure false) tRfl) : Ex prog w G C (.Assign [.Subscript o i p] e q) st K :=
  ex_setitem (Ev.mono h fun v st₁ h₁ => Ev.mono h₁ fun a st₂ h₂ => Ev.mono h₂ fun b st₃ hq104 vv va vb hv ha hb => by
    refine hide fun Pz hPz => ?_
    obtain ⟨d, es, ep, k, e1, e2, el, hl, h₃⟩ := hq104
    refine hPz ?_
    clear hPz Pz
    subst e1 e2
    exact op_set_dict ha hb hv el hl h₃) hs
theorem aug_item_l {o i e : Expr} {p q : Pos} {K : AFlow → St → Prop}
    (h : Ev prog w G C o st fun a st₁ => Ev prog w G C i st₁ fun b st₂ => E4 fun l xs k m => A6 (a = .ref l) (b = .int (k : Nat)) (st₂.hp l = some (.list xs)) (xs[k]? = some (.int m)) (xs.length ≤ 1000) (Ev prog w G C e st₂ fun y st₃ => ∃ n, A3 (y = .int n) (st₃.hp l = some (.list xs)) (K .next (st₃.put l (.list (xs.set k (.int (m + n))))))))
    (hi : autoParam (∀ ov iv new, augStore i ov iv new = (do holding [new, ov, iv] (setItem ov iv new); release [new, ov, iv] []; pure .next)) tAll) : Ex prog w G C (.AugAssign (.Subscript o i p) .Add e q) st K :=
  aug_sub (Ev.mono h fun a st₁ h₁ => Ev.mono h₁ fun b st₂ hq105 => by
    refine hide fun Pz hPz => ?_; (rcases hq105 with ⟨l, xs, k, m, e1, e2, el, hk, hl, h₂⟩) <;> (refine hPz ?_; clear hPz Pz)
    subst e1 e2
    have hlt : k < xs.length := (List.getElem?_eq_some_iff.mp hk).1
    exact ⟨m, .list el (Int.natCast_nonneg _) (by simpa using hk) hl, Ev.mono h₂ fun y st₃ hq106 => by obtain ⟨n, e3, el', h₃⟩ := hq106; exact ⟨n, e3, fun va vb vv ha hb hv => op_set_list ha hb hv el' (Int.natCast_nonneg _) (Int.ofNat_lt.mpr ‹_›) hl (by simpa using h₃)⟩⟩) hi
theorem aug_item_d {o i e : Expr} {p q : Pos} {K : AFlow → St → Prop}
    (h : Ev prog w G C o st fun a st₁ => Ev prog w G C i st₁ fun b st₂ => E5 fun d es ep k m => A6 (a = .ref d) (b = .str k) (st₂.hp d = some (.dict es ep)) (aget es k = some (.int m)) (es.length ≤ 1000) (Ev prog w G C e st₂ fun y st₃ => ∃ n, A3 (y = .int n) (st₃.hp d = some (.dict es ep)) (∀ ep', K .next (st₃.put d (.dict (aput es k (.int (m + n))) ep')))))
    (hi : autoParam (∀ ov iv new, augStore i ov iv new = (do holding [new, ov, iv] (setItem ov iv new); release [new, ov, iv] []; pure .next)) tAll) : Ex prog w G C (.AugAssign (.Subscript o i p) .Add e q) st K :=
  aug_sub (Ev.mono h fun a st₁ h₁ => Ev.mono h₁ fun b st₂ hq107 => by
    refine hide fun Pz hPz => ?_; (rcases hq107 with ⟨d, es, ep, k, m, e1, e2, el, hk, hl, h₂⟩) <;> (refine hPz ?_; clear hPz Pz)
    subst e1 e2
    exact ⟨m, .dict el hk, Ev.mono h₂ fun y st₃ hq108 => by obtain ⟨n, e3, el', h₃⟩ := hq108; exact ⟨n, e3, fun va vb vv ha hb hv => op_set_dict ha hb hv el' hl h₃⟩⟩) hi
noncomputable def atK (prog : Program) (w : World) (G : Gl) (C : Cx) (i : Expr) (K : AV → St → Prop) : AV → St → Prop := fun a st₁ => Ev prog w G C i st₁ fun b st₂ => ∃ x, Sub st₂ a b x ∧ K x st₂
theorem ev_at {o i : Expr} {p : Pos} {K : AV → St → Prop} (h : Ev prog w G C o st (atK prog w G C i K)) (hs : autoParam (∀ o' i', subscripted i false o' i' = operate [o', i'] (getItem o' i')) tAll) : Ev prog w G C (.Subscript o i p) st K := ev_sub h hs
theorem Sub.nat {a : Addr} {xs : List AV} {k : Nat} {x : AV} (e : st.hp a = some (.list xs)) (hx : xs[k]? = some x) (hl : xs.length ≤ 1000) : Sub st (.ref a) (.int k) x := .list e (Int.natCast_nonneg _) (by simpa using hx) hl
theorem Sub.last {a : Addr} {xs : List AV} {x : AV} (e : st.hp a = some (.list (xs ++ [x]))) (hl : xs.length ≤ 999) : Sub st (.ref a) (.int (-1)) x := by
  refine .neg e (by decide) (by simp; lia) ?_ (by simp; exact Nat.le_trans ‹_› (by decide))
  have : ((-1 : Int) + ((xs ++ [x]).length : Nat)).toNat = xs.length := by simp; lia
  rw [this]; simp
theorem tr_in_d (gk : GOk G) {l r : Expr} {p : Pos} {K : Bool → St → Prop} (h : Ev prog w G C l st fun a st₁ => Ev prog w G C r st₁ fun b st₂ => E4 fun k d es ep => A4 (a = .str k) (b = .ref d) (st₂.hp d = some (.dict es ep)) (K (aget es k).isSome st₂)) (hm : autoParam (behindInMarks .In r = false) tRfl) : Tr prog w G C (.Compare l [.In] [r] p) st K :=
  tr_cmp (Ev.mono h fun a st₁ h₁ => Ev.mono h₁ fun b st₂ hq109 va vb ha hb => by obtain ⟨k, d, es, ep, e1, e2, el, h₂⟩ := hq109; subst e1 e2; exact op_in_dict gk.sys ha hb el ⟨_, rfl, h₂⟩) hm
theorem tr_notin_d (gk : GOk G) {l r : Expr} {p : Pos} {K : Bool → St → Prop} (h : Ev prog w G C l st fun a st₁ => Ev prog w G C r st₁ fun b st₂ => E4 fun k d es ep => A4 (a = .str k) (b = .ref d) (st₂.hp d = some (.dict es ep)) (K (!(aget es k).isSome) st₂)) (hm : autoParam (behindInMarks .NotIn r = false) tRfl) : Tr prog w G C (.Compare l [.NotIn] [r] p) st K :=
  tr_cmp (Ev.mono h fun a st₁ h₁ => Ev.mono h₁ fun b st₂ hq110 va vb ha hb => by obtain ⟨k, d, es, ep, e1, e2, el, h₂⟩ := hq110; subst e1 e2; exact op_notin_dict gk.sys ha hb el ⟨_, rfl, h₂⟩) hm
inductive AppD (l : Addr) (K : AFlow → St → Prop) (y : AV) (st : St) : Prop
  | mk (xs : List AV) (e1 : st.hp l = some (.list xs)) (hl : xs.length ≤ 1000) (h : K .next (st.put l (.list (xs ++ [y]))))
inductive AppC (prog : Program) (w : World) (G : Gl) (C : Cx) (x : Expr) (K : AFlow → St → Prop) (v : AV) (st : St) : Prop
  | mk (l : Addr) (e1 : v = .ref l) (e2 : ∃ xs₀, st.hp l = some (.list xs₀)) (h : Ev prog w G C x st (AppD l K))
theorem do_append (B : Blk C scope) {o x : Expr} {ap p q : Pos} {K : AFlow → St → Prop}
    (h : Ev prog w G C o st (AppC prog w G C x K))
    (hp : autoParam (plainE x = true) tRfl) (hbase : autoParam (attributeBase o "append" C.env (eval o C.env) = eval o C.env) tRfl) (hline : autoParam ((ap.endLine == p.line) = true) tRfl) : Ex prog w G C (.Expr (.Call (.Attribute o (Str.ofString "append") ap) [x] [] p) q) st K :=
  do_e B (ev_append hp hbase hline (Ev.mono h fun _ _ z => by obtain ⟨a, b, c, d⟩ := z; exact ⟨a, b, c, Ev.mono d fun _ _ y => by obtain ⟨e, f, g, h⟩ := y; exact ⟨e, f, g, h⟩⟩))
inductive ItemsC (K : SrcK → St → Prop) (v : AV) (st : St) : Prop
  | mk (l : Addr) (es : List (Str × AV)) (ep : Nat) (e1 : v = .ref l) (e2 : st.hp l = some (.dict es ep)) (h : K (.items l es ep) st)
theorem src_it (gk : GOk G) {ap p : Pos} {o : Expr} {K : SrcK → St → Prop} (h : Ev prog w G C o st (ItemsC K)) (hbase : autoParam (attributeBase o "items" C.env (eval o C.env) = eval o C.env) tRfl) (hline : autoParam ((ap.endLine == p.line) = true) tRfl) : Src prog w G C (.Call (.Attribute o (Str.ofString "items") ap) [] [] p) st K := src_items gk hbase hline (Ev.mono h fun _ _ z => by obtain ⟨a, b, c, d, e, f⟩ := z; exact ⟨a, b, c, d, e, f⟩)
theorem tr_v {e : Expr} {K : Bool → St → Prop} (h : Ev prog w G C e st fun v st₁ => ∃ b, Truth st₁ v b ∧ K b st₁) (he : autoParam (∀ whole, isTrue e C.env whole = (do let v ← whole; standAt e.pos; holding [v] (truthy v))) tAll) : Tr prog w G C e st K := tr_val h he
end
end Mine
end
section
open PySem PySem.W PySem.Calls PyProof.Rows
set_option Elab.async false
set_option linter.unusedVariables false
set_option maxRecDepth 100000
namespace Mine
variable {prog : Program} {w : World}
theorem draw_item {A : Around} {s : Shared} {E : Value → Shared → Prop} {i t : Addr} {k : Nat} {xs : Array Value} {x : Value} {Q : Value → Shared → Prop} (hi : s.heap.IsTupleIter i t k) (ht : s.heap.IsTuple t xs) (hx : xs[k]? = some x)
    (hQ : ∀ h', h'.IsTupleIter i t (k + 1) → Heap.SameBut i s.heap h' → Q x { s with heap := h' }) : wpAny (model prog w) A (Builtin.SmallTypes.nextOf (.ref i)) Q E s := by
  obtain ⟨o, ho, hc, hd⟩ := id hi
  obtain ⟨ol, hol, _, nl, hdl⟩ := ht
  refine wpAny_bind (wpAny_callSpecial?_slot (name := Str.ofString "__next__") hi.typeIs F.slot_tuple_iterator_next (wpAny_call_entry F.slot_tuple_iterator_next hi.typeIs F.entry_tuple_iterator_next ?_ (F.args_tuple_iterator_next_1 _)))
  refine wpAny_bind (m := field (.ref i) 0) (wpAny_field ho hd (x := .ref t) rfl ?_)
  show wpAny _ _ (if (Value.ref t == Value.none) = true then _ else _) _ _ s
  rw [if_neg (show ¬ ((Value.ref t == Value.none) = true) from Bool.false_ne_true)]
  refine wpAny_bind (m := field (.ref i) 1) (wpAny_field ho hd (x := .int k 0) rfl ?_)
  refine wpAny_bind (m := seqItems? (.ref t)) (wpAny_seqItems hol hdl ?_)
  simp only [Int.toNat_natCast, hx]
  refine wpAny_bind (wpAny_setField ho hd (by simp) (wpAny_pure ⟨x, rfl, wpAny_pure (hQ _ ?_ (Heap.SameBut.update ..))⟩))
  exact ⟨_, Heap.get?_update_self _ ho (Obj.isFreed_of_fields (Obj.data_mapFields hd _)), (Obj.cls_mapFields ..).trans hc, by rw [Obj.data_mapFields hd]; simp [rawInt]⟩
theorem draw_done {A : Around} {s : Shared} {E : Value → Shared → Prop} {i t : Addr} {k : Nat} {xs : Array Value} {Q : Value → Shared → Prop} (hh : A.handled = none) (hi : s.heap.IsTupleIter i t k) (ht : s.heap.IsTuple t xs) (hx : xs[k]? = none)
    (hE : ∀ h' e, Heap.ExtBut i s.heap h' → (∃ o, h'.get? e = some o ∧ o.cls = .type "StopIteration") → E (.ref e) { s with heap := h' }) : wpAny (model prog w) A (Builtin.SmallTypes.nextOf (.ref i)) Q E s := by
  obtain ⟨o, ho, hc, hd⟩ := id hi
  obtain ⟨ol, hol, _, nl, hdl⟩ := ht
  refine wpAny_bind (wpAny_callSpecial?_slot (name := Str.ofString "__next__") hi.typeIs F.slot_tuple_iterator_next (wpAny_call_entry F.slot_tuple_iterator_next hi.typeIs F.entry_tuple_iterator_next ?_ (F.args_tuple_iterator_next_1 _)))
  refine wpAny_bind (m := field (.ref i) 0) (wpAny_field ho hd (x := .ref t) rfl ?_)
  show wpAny _ _ (if (Value.ref t == Value.none) = true then _ else _) _ _ s
  rw [if_neg (show ¬ ((Value.ref t == Value.none) = true) from Bool.false_ne_true)]
  refine wpAny_bind (m := field (.ref i) 1) (wpAny_field ho hd (x := .int k 0) rfl ?_)
  refine wpAny_bind (m := seqItems? (.ref t)) (wpAny_seqItems hol hdl ?_)
  simp only [Int.toNat_natCast, hx]
  refine wpAny_bind (wpAny_rule (wpAny_bind (wpAny_setField ho hd (by simp) ?_)))
  refine wpAny_bind (m := newExc (.type "StopIteration") []) ?_
  simp only [newExc, newTuple]
  refine wpAny_bind (wpAny_newObj_type ?_ (by size_fits))
  refine wpAny_bind (m := firstArgMember _ _) (wpAny_of_eq (a := Value.none) (by first | rfl | (simp only [firstArgMember]; rfl)) ?_)
  refine wpAny_newObj_type ?_ (by size_fits)
  refine wpAny_raiseNew_none hh ?_
  exact hE _ _ (((Heap.SameBut.update ..).extBut.push _).push _) ⟨_, Heap.get?_push_size _ rfl, rfl⟩
structure ZipSt (z TI TO i j t u : Addr) (xs ys : Array Value) (f : Value) (k : Nat) (h : Heap) : Prop where
  z : IsZip h z TI TO f
  TI : IsPair h TI (.ref i) (.ref j)
  TO : E2 fun a b => IsPair h TO a b
  i : h.IsTupleIter i t k
  j : h.IsTupleIter j u k
  t : h.IsTuple t xs
  u : h.IsTuple u ys
theorem ZipSt.at' {z TI TO i j t u : Addr} {xs ys : Array Value} {f : Value} {k : Nat} {h h' : Heap} (x : ZipSt z TI TO i j t u xs ys f k h) (hk : ∀ b ∈ [z, TI, TO, i, j, t, u], ∀ o, h.get? b = some o → h'.get? b = some o) : ZipSt z TI TO i j t u xs ys f k h' where
  z := hk z (by simp) _ x.z
  TI := hk TI (by simp) _ x.TI
  TO := by obtain ⟨a, b, e⟩ := x.TO; exact ⟨a, b, hk TO (by simp) _ e⟩
  i := by obtain ⟨o, e, r⟩ := x.i; exact ⟨o, hk i (by simp) _ e, r⟩
  j := by obtain ⟨o, e, r⟩ := x.j; exact ⟨o, hk j (by simp) _ e, r⟩
  t := by obtain ⟨o, e, r⟩ := x.t; exact ⟨o, hk t (by simp) _ e, r⟩
  u := by obtain ⟨o, e, r⟩ := x.u; exact ⟨o, hk u (by simp) _ e, r⟩
theorem tupIter_at {h h' : Heap} {a t : Addr} {k : Nat} (x : h.IsTupleIter a t k) (hk : ∀ o, h.get? a = some o → h'.get? a = some o) : h'.IsTupleIter a t k := by obtain ⟨o, e, r⟩ := x; exact ⟨o, hk _ e, r⟩
theorem tup_at {h h' : Heap} {a : Addr} {xs : Array Value} (x : h.IsTuple a xs) (hk : ∀ o, h.get? a = some o → h'.get? a = some o) : h'.IsTuple a xs := by obtain ⟨o, e, r⟩ := x; exact ⟨o, hk _ e, r⟩
section
variable {A : Around} {s : Shared} {E : Value → Shared → Prop} {z TI TO i j t u : Addr} {xs ys : Array Value} {k : Nat}
theorem zipT_item {x y : Value} {Q : Option Value → Shared → Prop} (D : ZipApart z TI TO i j t u) (Z : ZipSt z TI TO i j t u xs ys .none k s.heap) (hx : xs[k]? = some x) (hy : ys[k]? = some y)
    (hQ : ∀ h', ZipSt z TI TO i j t u xs ys (rawInt s.heap.objs.size) (k + 1) h' → IsPair h' s.heap.objs.size x y → (∀ c o, c ≠ z → c ≠ TO → c ≠ i → c ≠ j → s.heap.get? c = some o → h'.get? c = some o) → Q (some (.ref s.heap.objs.size)) { s with heap := h' }) :
    wpAny (model prog w) A (pyNext (.ref z)) Q E s := by
  have hT : s.TypeIs (.ref z) "zip" := ⟨_, Z.z, rfl⟩
  obtain ⟨a, b, hTO⟩ := Z.TO
  unfold pyNext
  refine wpAny_bind (wpAny_attempt (wpAny_callSpecial?_slot (name := Str.ofString "__next__") hT F.slot_zip_next (wpAny_call_entry F.slot_zip_next hT F.entry_zip_next ?_ (F.args_zip_next_1 _))))
  refine wpAny_bind (m := field (.ref z) 2) (wpAny_field Z.z rfl (x := .bool false) rfl ?_)
  refine wpAny_bind (m := field (.ref z) 3) (wpAny_field Z.z rfl (x := .ref TI) rfl ?_)
  refine wpAny_bind (wpAny_seqItems Z.TI rfl ?_)
  refine wpAny_bind (m := Builtin.SmallTypes.ownedTupleIsFree (.ref z)) ?_
  unfold Builtin.SmallTypes.ownedTupleIsFree
  refine wpAny_bind (wpAny_field Z.z rfl (x := .none) rfl (wpAny_pure ?_))
  simp only [if_true]
  refine wpAny_bind (wpAny_rule (wpAny_bind (wpAny_field Z.z rfl (x := .ref TO) rfl (wpAny_bind (wpAny_setField_rec Z.z (by simp) fun h₁ hz₁ hs₁ => wpAny_bind ?_)))))
  replace hz₁ : IsZip h₁ z TI TO .ellipsis := hz₁
  simp only [List.zipIdx_cons, List.zipIdx_nil, List.forIn_cons, List.forIn_nil]
  refine wpAny_bind (wpAny_bind (wpAny_onRaise (wpAny_bind (m := Builtin.SmallTypes.nextOf (.ref i)) ?_)))
  refine draw_item (tupIter_at Z.i fun o e => hs₁.extBut _ _ D.i1z e) (tup_at Z.t fun o e => hs₁.extBut _ _ D.l1z e) hx fun h₂ hi₂ hs₂ => wpAny_pure ?_
  have hTO₂ : IsPair h₂ TO a b := hs₂.extBut _ _ D.TOi1 (hs₁.extBut _ _ D.TOz hTO)
  refine wpAny_bind (wpAny_seqItems hTO₂ rfl (wpAny_bind (wpAny_updateSeq_pair hTO₂ fun h₃ hTO₃ hs₃ => wpAny_bind (wpAny_letGo (wpAny_pure ?_)))))
  replace hTO₃ : IsPair h₃ TO x b := hTO₃
  refine wpAny_bind (wpAny_bind (wpAny_onRaise (wpAny_bind (m := Builtin.SmallTypes.nextOf (.ref j)) ?_)))
  have to3 : ∀ c o, c ≠ z → c ≠ i → c ≠ TO → s.heap.get? c = some o → h₃.get? c = some o := fun c o c1 c2 c3 e => hs₃.extBut _ _ c3 (hs₂.extBut _ _ c2 (hs₁.extBut _ _ c1 e))
  refine draw_item (tupIter_at Z.j fun o e => to3 _ o D.i2z D.i12.symm D.TOi2.symm e) (tup_at Z.u fun o e => to3 _ o D.l2z D.l2i1 D.l2TO e) hy fun h₄ hj₄ hs₄ => wpAny_pure ?_
  have hTO₄ : IsPair h₄ TO x b := hs₄.extBut _ _ D.TOi2 hTO₃
  refine wpAny_bind (wpAny_seqItems hTO₄ rfl (wpAny_bind (wpAny_updateSeq_pair hTO₄ fun h₅ hTO₅ hs₅ => wpAny_bind (wpAny_letGo (wpAny_pure (wpAny_pure ?_))))))
  replace hTO₅ : IsPair h₅ TO x y := hTO₅
  refine wpAny_bind (wpAny_seqItems hTO₅ rfl (wpAny_bind (wpAny_newTuple ?_)))
  have hsz : h₅.objs.size = s.heap.objs.size := by rw [hs₅.1, hs₄.1, hs₃.1, hs₂.1, hs₁.1]
  have to5 : ∀ c o, c ≠ z → c ≠ i → c ≠ TO → c ≠ j → s.heap.get? c = some o → h₅.get? c = some o := fun c o c1 c2 c3 c4 e => hs₅.extBut _ _ c3 (hs₄.extBut _ _ c4 (to3 c o c1 c2 c3 e))
  have hz₅ : IsZip h₅ z TI TO .ellipsis := hs₅.extBut _ _ D.TOz.symm (hs₄.extBut _ _ D.i2z.symm (hs₃.extBut _ _ D.TOz.symm (hs₂.extBut _ _ D.i1z.symm hz₁)))
  have hzlt : z < h₅.objs.size := Heap.lt_size hz₅
  have hz₆ : IsZip (h₅.push { cls := .type "tuple", data := .seq #[x, y] }) z TI TO .ellipsis := Heap.get?_push_of_some _ hz₅
  refine wpAny_bind (m := Builtin.SmallTypes.ownedTupleHandOut (.ref z) (.ref h₅.objs.size)) ?_
  unfold Builtin.SmallTypes.ownedTupleHandOut
  refine wpAny_bind (wpAny_setField_rec hz₆ (by simp) fun h₇ hz₇ hs₇ => ?_)
  replace hz₇ : IsZip h₇ z TI TO (rawInt h₅.objs.size) := hz₇
  refine wpAny_setField_rec hz₇ (by simp) fun h₈ hz₈ hs₈ => ?_
  replace hz₈ : IsZip h₈ z TI TO (rawInt h₅.objs.size) := hz₈
  have up : ∀ c o, c ≠ z → h₅.get? c = some o → h₈.get? c = some o := fun c o c1 e => hs₈.extBut _ _ c1 (hs₇.extBut _ _ c1 (Heap.get?_push_of_some _ e))
  have hT₈ : IsPair h₈ h₅.objs.size x y := hs₈.extBut _ _ (Nat.ne_of_gt hzlt) (hs₇.extBut _ _ (Nat.ne_of_gt hzlt) (Heap.get?_push_size _ rfl))
  rw [hsz] at hz₈ hT₈
  refine wpAny_pure ⟨_, rfl, wpAny_pure ?_⟩
  show Q (some (.ref h₅.objs.size)) _
  rw [hsz]
  refine hQ h₈ ⟨hz₈, up _ _ D.TIz (to5 _ _ D.TIz D.TIi1 D.TITO D.TIi2 Z.TI), ⟨x, y, up _ _ D.TOz hTO₅⟩, ?_, ?_, tup_at Z.t fun o e => up _ o D.l1z (to5 _ o D.l1z D.l1i1 D.l1TO D.l1i2 e), tup_at Z.u fun o e => up _ o D.l2z (to5 _ o D.l2z D.l2i1 D.l2TO D.l2i2 e)⟩ hT₈ fun c o c1 c2 c3 c4 e => up c o c1 (to5 c o c1 c3 c2 c4 e)
  · exact tupIter_at hi₂ fun o e => up _ o D.i1z (hs₅.extBut _ _ D.TOi1.symm (hs₄.extBut _ _ D.i12 (hs₃.extBut _ _ D.TOi1.symm e)))
  · exact tupIter_at hj₄ fun o e => up _ o D.i2z (hs₅.extBut _ _ D.TOi2.symm e)
theorem zipT_done {Q : Option Value → Shared → Prop} (hh : A.handled = none) (D : ZipApart z TI TO i j t u) (Z : ZipSt z TI TO i j t u xs ys .none k s.heap) (hx : xs[k]? = none)
    (hQ : ∀ h', (∀ c o, c ≠ z → c ≠ TO → c ≠ i → c ≠ j → s.heap.get? c = some o → h'.get? c = some o) → Q none { s with heap := h' }) : wpAny (model prog w) A (pyNext (.ref z)) Q E s := by
  have hT : s.TypeIs (.ref z) "zip" := ⟨_, Z.z, rfl⟩
  unfold pyNext
  refine wpAny_bind (wpAny_attempt (wpAny_callSpecial?_slot (name := Str.ofString "__next__") hT F.slot_zip_next (wpAny_call_entry F.slot_zip_next hT F.entry_zip_next ?_ (F.args_zip_next_1 _))))
  refine wpAny_bind (m := field (.ref z) 2) (wpAny_field Z.z rfl (x := .bool false) rfl ?_)
  refine wpAny_bind (m := field (.ref z) 3) (wpAny_field Z.z rfl (x := .ref TI) rfl ?_)
  refine wpAny_bind (wpAny_seqItems Z.TI rfl ?_)
  refine wpAny_bind (m := Builtin.SmallTypes.ownedTupleIsFree (.ref z)) ?_
  unfold Builtin.SmallTypes.ownedTupleIsFree
  refine wpAny_bind (wpAny_field Z.z rfl (x := .none) rfl (wpAny_pure ?_))
  simp only [if_true]
  refine wpAny_bind (wpAny_rule (wpAny_bind (wpAny_field Z.z rfl (x := .ref TO) rfl (wpAny_bind (wpAny_setField_rec Z.z (by simp) fun h₁ hz₁ hs₁ => wpAny_bind ?_)))))
  replace hz₁ : IsZip h₁ z TI TO .ellipsis := hz₁
  simp only [List.zipIdx_cons, List.zipIdx_nil, List.forIn_cons, List.forIn_nil]
  refine wpAny_bind (wpAny_bind (wpAny_onRaise (wpAny_bind (m := Builtin.SmallTypes.nextOf (.ref i)) ?_)))
  refine draw_done (A := _) (by first | exact hh | exact (show A.in1.handled = none from hh)) (tupIter_at Z.i fun o e => hs₁.extBut _ _ D.i1z e) (tup_at Z.t fun o e => hs₁.extBut _ _ D.l1z e) hx fun h₂ e hs₂ he => ?_
  obtain ⟨oe, hoe, hce⟩ := he
  have hz₂ : IsZip h₂ z TI TO .ellipsis := hs₂ _ _ D.i1z.symm hz₁
  have hez : e ≠ z := fun q => by subst q; rw [hz₂] at hoe; cases hoe; simp at hce
  refine wpAny_setField_rec hz₂ (by simp) fun h₃ _ hs₃ => ?_
  refine wpAny_bind (wpAny_isInstance (T := "StopIteration") (b := true) ⟨oe, hs₃.extBut _ _ hez hoe, hce⟩ isSubtype_stop ?_)
  exact wpAny_pure (hQ _ fun c o c1 _ c3 _ q => hs₃.extBut _ _ c1 (hs₂ _ _ c3 (hs₁.extBut _ _ c1 q)))
theorem zipT_walk (hh : A.handled = none) (D : ZipApart z TI TO i j t u) (hl : xs.size = ys.size) : WalksT prog w A z [z, TI, TO, i, j, t, u] [z, TO, i, j] xs.size
    (fun k vals => E2 fun x y => A3 (xs[k]? = some x) (ys[k]? = some y) (vals = #[x, y])) (fun k h => ZipSt z TI TO i j t u xs ys .none k h)
    (fun k T h => A5 (ZipSt z TI TO i j t u xs ys (rawInt T) (k + 1) h) (T ≠ z) (T ≠ TO) (T ≠ i) (T ≠ j)) where
  sub := fun c hc => by simp at hc ⊢; rcases hc with rfl | rfl | rfl | rfl <;> simp
  frame := fun k h h' Z hk => Z.at' hk
  item := fun k s Q E hi Z hQ => by
    have hj : k < ys.size := by lia
    refine zipT_item D Z (Array.getElem?_eq_getElem hi) (Array.getElem?_eq_getElem hj) fun h' Z' hp hk => ?_
    have lt : ∀ {c o}, s.heap.get? c = some o → s.heap.objs.size ≠ c := fun e => Nat.ne_of_gt (Heap.lt_size e)
    exact hQ s.heap.objs.size #[xs[k], ys[k]] h' s.toks ⟨_, _, Array.getElem?_eq_getElem hi, Array.getElem?_eq_getElem hj, rfl⟩ (Nat.le_refl _) ⟨_, hp, rfl, _, rfl⟩
      ⟨Z', lt Z.z, (by obtain ⟨_, _, e⟩ := Z.TO; exact lt e), (by obtain ⟨_, e, _⟩ := Z.i; exact lt e), (by obtain ⟨_, e, _⟩ := Z.j; exact lt e)⟩
      fun c o hc e => hk c o (fun q => hc (by simp [q])) (fun q => hc (by simp [q])) (fun q => hc (by simp [q])) (fun q => hc (by simp [q])) e
  go := fun elts kk pos k T s Q E hq111 hQ => by
    obtain ⟨Z, _, _, _, _⟩ := hq111
    refine wpAny_letOwnedTupleGo_zip Z.z fun h' hz' hs' => hQ h' ⟨hz', hs'.extBut _ _ D.TIz Z.TI, (by obtain ⟨a, b, e⟩ := Z.TO; exact ⟨a, b, hs'.extBut _ _ D.TOz e⟩), tupIter_at Z.i fun o e => hs'.extBut _ _ D.i1z e, tupIter_at Z.j fun o e => hs'.extBut _ _ D.i2z e,
      tup_at Z.t fun o e => hs'.extBut _ _ D.l1z e, tup_at Z.u fun o e => hs'.extBut _ _ D.l2z e⟩ fun c o hc e => hs'.extBut _ _ (fun q => hc (by simp [q])) e
  apart := fun k T h hq112 hT => by
    obtain ⟨_, t1, t2, t3, t4⟩ := hq112
    simp at hT
    rcases hT with rfl | rfl | rfl | rfl
    · exact t1 rfl
    · exact t2 rfl
    · exact t3 rfl
    · exact t4 rfl
  done := fun s Q E Z hQ => zipT_done hh D Z (Array.getElem?_eq_none (Nat.le_refl _)) fun h' hk => hQ h' s.toks fun c o hc e =>
    hk c o (fun q => hc (by simp [q])) (fun q => hc (by simp [q])) (fun q => hc (by simp [q])) (fun q => hc (by simp [q])) e
  self := fun k s Q E Z hQ => wpAny_pyIter_zip Z.z hQ
noncomputable def zT1 (h : Heap) (t : Addr) : Heap := h.push { cls := .type "tuple_iterator", data := .fields #[.ref t, .int 0 0] }
noncomputable def zT3 (h : Heap) (t u : Addr) : Heap := (zT1 (zT1 h t) u).push { cls := .type "tuple", data := .seq #[.ref h.objs.size, .ref (zT1 h t).objs.size] }
noncomputable def zT4 (h : Heap) (t u : Addr) : Heap := (zT3 h t u).push { cls := .type "tuple", data := .seq #[.none, .none] }
noncomputable def zT5 (h : Heap) (t u : Addr) : Heap := (zT4 h t u).push { cls := .type "zip", data := .fields #[.none, .bool false, .bool false, .ref (zT1 (zT1 h t) u).objs.size, .ref (zT3 h t u).objs.size] }
theorem zipT_new (t u : Addr) (xs ys : Array Value) :
    Meets (Builtin.«zip.__new__» ⟨[.type "zip", .ref t, .ref u], []⟩) (fun _ R s => A3 (s.heap.IsTuple t xs) (s.heap.IsTuple u ys) (R (.ok (.ret (.ref (zT4 s.heap t u).objs.size))) { s with heap := zT5 s.heap t u })) :=
  .of_wp fun prog w A R s h => by
    obtain ⟨hp, g, d, tk, os⟩ := s; obtain ⟨hl1, hl2, h⟩ := h
    have hsub := sub_zip
    have hL1 : Heap.IsTuple (Shared.heap ⟨hp, g, d, tk, os⟩) t xs := hl1
    have hL2 : Heap.IsTuple (Shared.heap ⟨hp.push { cls := .type "tuple_iterator", data := .fields #[.ref t, .int 0 0] }, g, d, tk, os⟩) u ys := tup_at hl2 fun o e => Heap.get?_push_of_some _ e
    wp_walk using wpAny_pyIter_tuple hL1, wpAny_pyIter_tuple hL2
    exact ⟨_, rfl, h⟩
theorem zipT_apart {n l1 l2 : Addr} (h1 : l1 < n) (h2 : l2 < n) : ZipApart (n + 4) (n + 2) (n + 3) n (n + 1) l1 l2 := zipApart_new h1 h2
theorem call_zipT {Q : Value → Shared → Prop} (ht : s.heap.IsTuple t xs) (hu : s.heap.IsTuple u ys)
    (h : ∀ h', ZipSt (s.heap.objs.size + 4) (s.heap.objs.size + 2) (s.heap.objs.size + 3) s.heap.objs.size (s.heap.objs.size + 1) t u xs ys .none 0 h' → h'.objs.size = s.heap.objs.size + 5 → (∀ c o, s.heap.get? c = some o → h'.get? c = some o) → Q (.ref (s.heap.objs.size + 4)) { s with heap := h' }) :
    wpAny (model prog w) A (call (.type "zip") [.ref t, .ref u]) Q E s := by
  refine callType_new F.called_zip (by decide) (F.typeCall_zip_2 _ _) (F.newCall_zip_2 _ _) (fun obj => F.args_object_init_3 obj _ _) F.entry_zip_new (zipT_new t u xs ys) ⟨ht, hu, ?_⟩
  have s1 : (zT1 s.heap t).objs.size = s.heap.objs.size + 1 := Heap.size_push ..
  have s2 : (zT1 (zT1 s.heap t) u).objs.size = s.heap.objs.size + 2 := by rw [zT1, Heap.size_push, s1]
  have s3 : (zT3 s.heap t u).objs.size = s.heap.objs.size + 3 := by rw [zT3, Heap.size_push, s2]
  have s4 : (zT4 s.heap t u).objs.size = s.heap.objs.size + 4 := by rw [zT4, Heap.size_push, s3]
  have s5 : (zT5 s.heap t u).objs.size = s.heap.objs.size + 5 := by rw [zT5, Heap.size_push, s4]
  have up4 : ∀ b o, (zT4 s.heap t u).get? b = some o → (zT5 s.heap t u).get? b = some o := fun b o e => Heap.get?_push_of_some _ e
  have up3 : ∀ b o, (zT3 s.heap t u).get? b = some o → (zT5 s.heap t u).get? b = some o := fun b o e => up4 b o (Heap.get?_push_of_some _ e)
  have up2 : ∀ b o, (zT1 (zT1 s.heap t) u).get? b = some o → (zT5 s.heap t u).get? b = some o := fun b o e => up3 b o (Heap.get?_push_of_some _ e)
  have up1 : ∀ b o, (zT1 s.heap t).get? b = some o → (zT5 s.heap t u).get? b = some o := fun b o e => up2 b o (Heap.get?_push_of_some _ e)
  have up0 : ∀ b o, s.heap.get? b = some o → (zT5 s.heap t u).get? b = some o := fun b o e => up1 b o (Heap.get?_push_of_some _ e)
  have g5 : (zT5 s.heap t u).get? (zT4 s.heap t u).objs.size = some { cls := .type "zip", data := .fields #[.none, .bool false, .bool false, .ref (zT1 (zT1 s.heap t) u).objs.size, .ref (zT3 s.heap t u).objs.size] } := Heap.get?_push_size _ rfl
  have g4 : (zT5 s.heap t u).get? (zT3 s.heap t u).objs.size = some { cls := .type "tuple", data := .seq #[.none, .none] } := up4 _ _ (Heap.get?_push_size _ rfl)
  have g3 : (zT5 s.heap t u).get? (zT1 (zT1 s.heap t) u).objs.size = some { cls := .type "tuple", data := .seq #[.ref s.heap.objs.size, .ref (zT1 s.heap t).objs.size] } := up3 _ _ (Heap.get?_push_size _ rfl)
  have g2 : (zT5 s.heap t u).get? (zT1 s.heap t).objs.size = some { cls := .type "tuple_iterator", data := .fields #[.ref u, .int 0 0] } := up2 _ _ (Heap.get?_push_size _ rfl)
  have g1 : (zT5 s.heap t u).get? s.heap.objs.size = some { cls := .type "tuple_iterator", data := .fields #[.ref t, .int 0 0] } := up1 _ _ (Heap.get?_push_size _ rfl)
  rw [s2, s3, s4] at g5
  rw [s1, s2] at g3
  rw [s3] at g4
  rw [s1] at g2
  show _ ∧ _
  rw [s4]
  exact ⟨⟨_, g5, rfl⟩, h _ ⟨g5, g3, ⟨_, _, g4⟩, ⟨_, g1, rfl, rfl⟩, ⟨_, g2, rfl, rfl⟩, tup_at ht fun o e => up0 _ o e, tup_at hu fun o e => up0 _ o e⟩ s5 up0⟩
end
end Mine
end
section
open PySem PySem.W PySem.Calls PyProof.Rows
set_option Elab.async false
set_option linter.unusedVariables false
set_option maxRecDepth 100000
namespace Mine
variable {prog : Program} {w : World}
structure GBm (G : Gl) (bm : Addr) (ob : Obj) : Prop where
  mg : G.mg "__builtins__" = some (.ref bm)
  ne : bm ≠ builtinsNs
  at' : G.B bm = some ob
  cls : ob.cls = .type "module"
  dict : ob.dict = some builtinsNs
  data : ob.data = .plain
structure GCode (G : Gl) (c : Addr) : Prop where
  cd : E9 fun o vs file tf flags tg inF text tt => A8 (G.B c = some o) (o.cls = .type "code") (o.data = .fields vs) (vs[11]? = some (.ref G.tabP)) (vs.getD 18 .none = .str file tf) (vs.getD 7 .none = .int flags tg) (vs.getD 9 .none = .bool inF) (vs.getD 10 .none = .int text tt)
section
variable {G : Gl} {C : Cx} {scope : Scope} {st : St} {ex : Addr → Option Obj} {s : Shared}
theorem Real.tabs (R : Real prog w G C ex st s) {s' : Shared} (hk : ∀ b o, b ≠ G.tabP → s.heap.get? b = some o → s'.heap.get? b = some o) (more : { m : Array Value // TriplesOk (G.tab0 ++ m).toList }) (ht : s'.heap.get? G.tabP = some (X.tableObj (G.tab0 ++ more.1))) (hg : AllBare s'.gens) (ho : s'.os = s.os) : Real prog w G C ex st s' := by
  have cellP : ∀ c o r, s.heap.get? c = some o → o.data = .cell r → c ≠ G.tabP := fun c o r e d q => by
    obtain ⟨_, m, h⟩ := R.tab
    rw [q, h] at e; cases e; cases d
  exact {
    ns := by obtain ⟨m, hn, hl⟩ := R.ns; exact ⟨m, Ns_at hn fun o e => hk _ o (Ne.symm R.tabL) e, fun i av e => by obtain ⟨a, v, b', c⟩ := hl i av e; exact ⟨a, v, b', c.mono fun c o e hq113 => by obtain ⟨r, hr⟩ := hq113; exact hk c o (cellP c o r e hr) e⟩⟩
    keep := fun c o e => hk c o (fun q => by have := R.tab.1; rw [← q, e] at this; cases this) (R.keep c o e)
    base := R.base
    exL := R.exL
    exC := fun c hc => by obtain ⟨a, r, o, b', d⟩ := R.exC c hc; exact ⟨a, r, o, hk _ _ (cellP c o r b' d) b', d⟩
    hp := fun a A e => by obtain ⟨x, y, o, z, u⟩ := R.hp a A e; exact ⟨x, y, o, hk _ _ (fun q => by have := R.tabH; rw [← q, e] at this; cases this) z, u⟩
    tab := ⟨R.tab.1, more, ht⟩
    gens := hg
    os := ho.trans R.os
    cells := fun x c h => by obtain ⟨r, o, b', d⟩ := R.cells x c h; exact ⟨r, o, hk _ _ (cellP c o r b' d) b', d⟩
    frs := fun p hp => by obtain ⟨a, b, c, d⟩ := R.frs p hp; exact ⟨a, b, c, Ns_at d fun o e => hk _ o (R.frT hp) e⟩ }
theorem gen_code (R : Real prog w G C ex st s) {c : Addr} (gc : GCode G c) (hcode : C.env.code = .ref c) {A : Around} {E : Value → Shared → Prop} {pos : Pos} {q : Str} {sc : Scope} {Q : Value → Shared → Prop}
    (h : ∀ code s', (∀ b o, b ≠ G.tabP → s.heap.get? b = some o → s'.heap.get? b = some o) → (∃ more : { m : Array Value // TriplesOk (G.tab0 ++ m).toList }, s'.heap.get? G.tabP = some (X.tableObj (G.tab0 ++ more.1))) → s'.gens = s.gens → s'.os = s.os → s.heap.objs.size ≤ s'.heap.objs.size → Q code s') :
    wpAny (model prog w) A (genexprCode C.env pos q sc) Q E s := by
  refine hide fun Pz hPz => ?_; (rcases gc.cd with ⟨o, vs, file, tf, flags, tg, inF, text, tt, hB, hcls, hd, h11, h18, h7, h9, h10⟩) <;> (refine hPz ?_; clear hPz Pz)
  have ho := R.bot c o hB
  obtain ⟨hex, more, ht⟩ := R.tab
  have hcP : c ≠ G.tabP := fun q => by
    have := R.base c o hB; rw [q, hex] at this; cases this
  have h11' : vs.getD 11 .none = .ref G.tabP := by rw [Array.getD_eq_getD_getElem?, h11]; rfl
  have hok : s.heap.IsCode c G.tabP (G.tab0 ++ more.1) := ⟨o, vs, file, tf, flags, tg, inF, text, tt, _, ho, hd, h11', h18, h7, h9, h10, ht, rfl, more.2, hcP⟩
  have htab : s.heap.TableAt c G.tabP (G.tab0 ++ more.1) := ⟨⟨o, vs, ho, hcls, hd, h11⟩, ht⟩
  cases hf : codeAmong pos (G.tab0 ++ more.1).toList with
  | some cv => exact wpAny_genexprCode_hit hcode hok hf (h cv s (fun _ _ _ e => e) ⟨more, ht⟩ rfl rfl (Nat.le_refl _))
  | none =>
    refine wpAny_genexprCodeX hcode hok htab hf fun c' h' tk hext hge hlt hcode' _ htab' _ => h _ _ hext ?_ rfl rfl (Nat.le_trans hge (Nat.le_of_lt hlt))
    refine hide fun Pz hPz => ?_; (rcases hcode' with ⟨o', vs', file', tf', flags', tg', inF', text', tt', op', _, _, _, _, _, _, _, hop', hpd', htr', _⟩) <;> (refine hPz ?_; clear hPz Pz)
    refine ⟨⟨more.1 ++ #[rawInt pos.line, rawInt pos.col, .ref c'], by rw [← Array.append_assoc]; exact htr'⟩, ?_⟩
    show h'.get? G.tabP = _
    rw [htab'.2, ← Array.append_assoc]; rfl
theorem ex9 {a b c d e f g h i : Type} {p : a → b → c → d → e → f → g → h → i → Prop} (x1 : a) (x2 : b) (x3 : c) (x4 : d) (x5 : e) (x6 : f) (x7 : g) (x8 : h) (x9 : i) (q : p x1 x2 x3 x4 x5 x6 x7 x8 x9) : ∃ x1 x2 x3 x4 x5 x6 x7 x8 x9, p x1 x2 x3 x4 x5 x6 x7 x8 x9 := ⟨x1, x2, x3, x4, x5, x6, x7, x8, x9, q⟩
theorem clos_no {sc : Scope} {env : Env} (hcell : (sc.names.all fun y => !isCell y.2 && !isFree y.2) = true) : closureFor sc env = pure [] := by
  have key : ∀ (l : List (Str × NameKind)) (acc : List (Str × Addr)), (l.all fun y => !isCell y.2 && !isFree y.2) = true → closL env l acc = some acc := by
    intro l
    induction l with
    | nil => intro acc _; rfl
    | cons y r ih =>
      intro acc hy
      obtain ⟨k1, k2⟩ := y
      obtain ⟨h1, h2⟩ := Bool.and_eq_true_iff.mp (show ((!isCell k2 && !isFree k2) && r.all fun y => !isCell y.2 && !isFree y.2) = true from hy)
      have h3 : (!(k2 == NameKind.free)) = true := (Bool.and_eq_true_iff.mp h1).2
      exact Eq.trans (if_neg fun q => by rw [q] at h3; cases h3) (ih acc h2)
  exact clos_eq (key sc.names [] hcell)
theorem no_cell {sc : Scope} (hcell : (sc.names.all fun y => !isCell y.2 && !isFree y.2) = true) : ∀ y ∈ sc.names, y.2 ≠ .cell := fun y hy q => by
  have := List.all_eq_true.mp hcell y hy
  rw [q] at this; cases this
theorem absl_zip {xs ys : List Int} {acc : Array Value} {n : Nat} (hvs : n = xs.length) (hlen : xs.length = ys.length) (hsz' : acc.size = n) (hits : ∀ (j : Nat) v, acc[j]? = some v → ∃ i, (List.range n)[j]? = some i ∧ E3 fun tk x y' => A3 (xs[i]? = some x) (ys[i]? = some y') (v = .int (x + y') tk)) : Absl acc.toList ((List.zipWith (· + ·) xs ys).map .int) := by
  unfold Absl
  apply List.ext_getElem?
  intro j
  rw [List.getElem?_map, List.getElem?_map, List.getElem?_map]
  cases hj : acc[j]? with
  | none =>
    have h1 : (List.zipWith (· + ·) xs ys)[j]? = none := by
      rw [List.getElem?_eq_none]
      rw [List.length_zipWith, hlen, Nat.min_self, ← hlen, ← hvs, ← hsz']
      exact Array.getElem?_eq_none_iff.mp hj
    rw [Array.getElem?_toList, hj, h1]; rfl
  | some v =>
    obtain ⟨i, hi, tk', x, y, hx, hy, rfl⟩ := hits j v hj
    have hij : i = j := by
      rw [List.getElem?_range (hsz' ▸ (Array.getElem?_eq_some_iff.mp hj).1)] at hi
      exact (Option.some.inj hi).symm
    subst hij
    have h1 : (List.zipWith (· + ·) xs ys)[i]? = some (x + y) := by rw [List.getElem?_zipWith, hx, hy]
    rw [Array.getElem?_toList, hj, h1]; rfl
theorem ev_zipsum (gk : GOk G) {bm : Addr} {ob : Obj} (gb : GBm G bm ob) (B : Blk C scope) {n : Nat} (rm : Room (n + 1) C) {c : Addr} (gc : GCode G c) (hcode : C.env.code = .ref c) {e1 e2 : Expr} {sc : Scope} {xa xb : Str} {np p p1 p2 p3 p4 p5 p6 zp zq pos : Pos} {kk : Nat} {K : AV → St → Prop}
    (hm1 : nsIn G.K mainGlobals (Str.ofString "tuple") = some none) (hm2 : nsIn G.K mainGlobals (Str.ofString "zip") = some none)
    (h : Ev prog w G C e1 st fun a st₁ => Ev prog w G C e2 st₁ fun b st₂ => E4 fun t u xs ys => A7 (a = .ref t) (b = .ref u) (st₂.hp t = some (.tup (xs.map .int))) (st₂.hp u = some (.tup (ys.map .int))) (xs.length = ys.length) (xs.length ≤ 1000) (∀ r, st₂.hp r = none → K (.ref r) (st₂.put r (.tup ((List.zipWith (· + ·) xs ys).map .int)))))
    (hp1 : autoParam (plainE e1 = true) tRfl) (hp2 : autoParam (plainE e2 = true) tRfl) (hk1 : autoParam (gloB scope (Str.ofString "tuple") = true) tRfl) (hk2 : autoParam (gloB scope (Str.ofString "zip") = true) tRfl)
    (hco : autoParam (sc.isCoroutine = false) tRfl) (hcell : autoParam ((sc.names.all fun y => !isCell y.2 && !isFree y.2) = true) tRfl) (h0 : autoParam (sc.names.lookup (".0" : Str) = some NameKind.local) tRfl) (hxa : autoParam (sc.names.lookup xa = some .local) tRfl) (hxb : autoParam (sc.names.lookup xb = some .local) tRfl) (hab : autoParam ((xa == xb) = false) tRfl) (hkind : autoParam (sc.kind = .function) tRfl)
    (hda : autoParam ((xa == ("__debug__" : Str)) = false) tRfl) (hdb : autoParam ((xb == ("__debug__" : Str)) = false) tRfl) :
    Ev prog w G C (.Call (.Name (Str.ofString "tuple") np) [.GeneratorExp (.BinOp (.Name xa p1) .Add (.Name xb p2) p3) [⟨.Tuple [.Name xa p4, .Name xb p5] kk p6, .Call (.Name (Str.ofString "zip") zp) [e1, e2] [] zq, [], 0⟩] sc pos] [] p) st K := .mk fun ex s E R => by
  have hcl := clos_no (env := C.env) hcell
  have hcell' := no_cell hcell
  refine wpAny_Call_NameR (name_bi gk B.ok R (B.glo hk1) (by decide) (by decide) hm1 (by decide +kernel : bootBuiltins (Str.ofString "tuple") = some (.type "tuple")) (PySem.callWith_type (plain_any (by rfl) _ _) (args_plain (by rfl) (wpAny_items_cons ?_ (star_plain rfl _)))))
  refine wpAny_GeneratorExp_walksQT B.ok.hand hco hcl hcell' h0 hxa hxb (by intro q; rw [q] at hab; simp at hab) hkind (by have := rm.1; exact Nat.lt_of_le_of_lt (Nat.le_add_right _ _) ‹_›) ?_ (fun x => rfl)
  refine wpAny_Call_NameR (name_bi gk B.ok R (B.glo hk2) (by decide) (by decide) hm2 (by decide +kernel : bootBuiltins (Str.ofString "zip") = some (.type "zip")) (PySem.callWith_type (plain_any (by simp [hp1, hp2]) _ _) (args_plain (by simp [hp1, hp2]) ?_)))
  refine wpAny_items_cons (wpAny_mono (h.run ex s E R) (fun va s₁ hy19 => ?_) fun _ _ x => x) (star_plain hp1 _)
  refine hide fun Pz hPz => ?_
  obtain ⟨a, st₁, ha, R₁, h₁⟩ := hy19
  refine hPz ?_
  clear hPz Pz
  refine wpAny_items_cons (wpAny_mono (h₁.run ex s₁ E R₁) (fun vb s₂ hy20 => ?_) fun _ _ x => x) (star_plain hp2 _)
  refine hide fun Pz hPz => ?_; (rcases hy20 with ⟨b, st₂, hb, R₂, t, u, xs, ys, q1, q2, ht, hu, hlen, hsz, h₂⟩) <;> (refine hPz ?_; clear hPz Pz)
  refine wpAny_items_nil ?_
  subst q1 q2; rw [vabs_ref ha, vabs_ref hb]
  refine hide fun Pz hPz => ?_
  obtain ⟨vs, hvt, hva⟩ := R₂.tuple ht
  obtain ⟨us, hut, hua⟩ := R₂.tuple hu
  refine hPz ?_
  clear hPz Pz
  have hvs : vs.size = xs.length := by have := hva.length; simpa using this
  have hus : us.size = ys.length := by have := hua.length; simpa using this
  refine call_zipT hvt hut fun hz Z hzs hzk => ?_
  refine wpAny_pyIter_zip Z.z ?_
  have R₃ : Real prog w G C ex st₂ { s₂ with heap := hz } := R₂.heap (t := s₂.toks) hzk
  refine ⟨gk.lim _ R₃.bot, gen_code R₃ gc hcode fun code s₄ hk4 ht4 hg4 ho4 hs4 => ?_⟩
  have tlt : ∀ b o, s₂.heap.get? b = some o → b < s₂.heap.objs.size := fun b o e => Heap.lt_size e
  have htlt : t < s₂.heap.objs.size := by obtain ⟨_, e, _⟩ := hvt; exact Heap.lt_size e
  have hult : u < s₂.heap.objs.size := by obtain ⟨_, e, _⟩ := hut; exact Heap.lt_size e
  have hPlt : G.tabP < s₂.heap.objs.size := by obtain ⟨_, _, e⟩ := R₂.tab; exact Heap.lt_size e
  have D := zipT_apart htlt hult
  have big : ∀ k, s₂.heap.objs.size + k ≠ G.tabP := fun k q => by rw [← q] at hPlt; exact absurd hPlt (Nat.not_lt.mpr (Nat.le_add_right _ _))
  have tP : t ≠ G.tabP := fun q => by have := R₂.tabH; rw [← q, ht] at this; cases this
  have uP : u ≠ G.tabP := fun q => by have := R₂.tabH; rw [← q, hu] at this; cases this
  have Z4 : ZipSt (s₂.heap.objs.size + 4) (s₂.heap.objs.size + 2) (s₂.heap.objs.size + 3) s₂.heap.objs.size (s₂.heap.objs.size + 1) t u vs us .none 0 s₄.heap := Z.at' fun b hb o e => hk4 b o (by
    simp only [List.mem_cons, List.not_mem_nil, or_false] at hb
    rcases hb with rfl | rfl | rfl | rfl | rfl | rfl | rfl
    · exact big 4
    · exact big 2
    · exact big 3
    · exact big 0
    · exact big 1
    · exact tP
    · exact uP) e
  obtain ⟨more, ht4⟩ := ht4
  have R₄ : Real prog w G C ex st₂ s₄ := R₃.tabs hk4 more ht4 (by rw [hg4]; exact R₂.gens) ho4
  refine wpAny_builtinsFor (globals := C.env.globals) (by rw [B.ok.glob]; exact gk.gns _ R₄.bot) gb.mg gb.ne (R₄.bot _ _ gb.at') gb.cls gb.dict gb.data ?_
  have size4 : s₂.heap.objs.size + 5 ≤ s₄.heap.objs.size := by rw [← hzs]; exact hs4
  refine ex9 (s₂.heap.objs.size + 4) _ _ _ _ _ _ (fun _ => true) (fun k y => E3 fun tk x y' => A3 (xs[k]? = some x) (ys[k]? = some y') (y = .int (x + y') tk)) ⟨rfl, fun A' hA => (zipT_walk hA D (by rw [hvs, hus, hlen])).toU, ?_, Z4, ?_, gk.lim _ R₄.bot, ?_, fun href hhref => ⟨?_, ?_⟩, fun a h₅ tk gs hgb hag hsz₅ hk₅ W hat => ?_⟩
  · rintro i vals ⟨x, y, _, _, rfl⟩; exact ⟨x, y, rfl⟩
  · intro b hb
    simp only [List.mem_cons, List.not_mem_nil, or_false] at hb
    rcases hb with rfl | rfl | rfl | rfl | rfl | rfl | rfl
    · exact Nat.lt_of_lt_of_le (Nat.add_lt_add_left (by decide) _) size4
    · exact Nat.lt_of_lt_of_le (Nat.add_lt_add_left (by decide) _) size4
    · exact Nat.lt_of_lt_of_le (Nat.add_lt_add_left (by decide) _) size4
    · exact Nat.lt_of_lt_of_le (Nat.lt_add_of_pos_right (by decide)) size4
    · exact Nat.lt_of_lt_of_le (Nat.add_lt_add_left (by decide) _) size4
    · exact Nat.lt_of_lt_of_le htlt (Nat.le_trans (Nat.le_add_right _ _) size4)
    · exact Nat.lt_of_lt_of_le hult (Nat.le_trans (Nat.le_add_right _ _) size4)
  · intro hm
    have hlt : cStatics < s₂.heap.objs.size := by obtain ⟨_, hn, _⟩ := gk.lim _ R₂.bot; exact hn.lt
    simp only [List.mem_cons, List.not_mem_nil, or_false] at hm
    rcases hm with q | q | q | q <;> (rw [q] at hlt; first | exact absurd hlt (Nat.not_lt.mpr (Nat.le_add_right _ _)) | exact absurd hlt (Nat.lt_irrefl _) | exact absurd hlt (Nat.not_lt.mpr (Nat.le_trans (Nat.le_add_right _ 5) size4)))
  · intro A' E' i va vb s₅ m₂ hA hP hn hma hmb hkk
    exact wpAny_tests_nil ⟨rfl, s₅.heap, s₅.toks, rfl, fun _ _ e => e⟩
  · intro A' E' i va vb s₅ m₂ hA hP hpz hn hma hmb hkk
    refine hide fun Pz hPz => ?_
    obtain ⟨x, y, hx, hy, e⟩ := hP
    refine hPz ?_
    clear hPz Pz
    obtain ⟨e1, e2⟩ : va = x ∧ vb = y := by simpa using congrArg Array.toList e
    subst e1 e2
    obtain ⟨ax, hax, hax'⟩ := hva.get' (i := i) (by rw [Array.getElem?_toList]; exact hx)
    obtain ⟨ay, hay, hay'⟩ := hua.get' (i := i) (by rw [Array.getElem?_toList]; exact hy)
    rw [List.getElem?_map] at hax hay
    obtain ⟨ix, hix, rfl⟩ := Option.map_eq_some_iff.mp hax
    obtain ⟨iy, hiy, rfl⟩ := Option.map_eq_some_iff.mp hay
    obtain ⟨tx, rfl⟩ := vabs_int hax'
    obtain ⟨ty, rfl⟩ := vabs_int hay'
    refine wpAny_BinOp (wpAny_Name (wpAny_loadName_local hkind hxa hn hma (wpAny_Name (wpAny_loadName_local hkind hxb hn hmb (wpAny_add_int ?_)) hdb)) hda)
    exact ⟨⟨_, ix, iy, hix, hiy, rfl⟩, s₅.heap, s₅.toks + 1, rfl, fun _ _ e => e⟩
  · refine wpAny_items_nil ?_
    have hn : (passing (fun _ => true) vs.size 0) = List.range vs.size := by simp [passing]
    rw [hn] at W
    refine call_tuple_gen W.in4_3 (fun i s' st' => st'.1.typeIs) hat ?_ List.mem_cons_self (fun s' acc hm hacc => ?_) (by rw [List.length_range, hvs, sizeLine_eq]; exact Nat.le_trans ‹_› (by decide))
    · intro b hb
      show b < h₅.objs.size
      rw [hsz₅]
      rcases List.mem_cons.mp hb with rfl | hb
      · exact Nat.lt_succ_self _
      · rcases List.mem_cons.mp hb with rfl | hb
        · exact Nat.lt_succ_of_lt hag
        · exact Nat.lt_succ_of_lt (Nat.lt_trans (List.mem_range.mp hb) hag)
    · have keep : ∀ b o, b ≠ G.tabP → s₂.heap.get? b = some o → s'.heap.get? b = some o := fun b o hb e => hm.heap b o (by
        have hbl : b < s₂.heap.objs.size := Heap.lt_size e
        intro q
        simp only [List.mem_cons, List.not_mem_nil, or_false] at q
        rcases q with q | q | q | q | q <;> (rw [q] at hbl; first | exact absurd hbl (Nat.not_lt.mpr (Nat.le_add_right _ _)) | exact absurd hbl (Nat.lt_irrefl _) | exact absurd hbl (Nat.not_lt.mpr (Nat.le_trans (Nat.le_add_right _ 5) size4)))) (hk₅ b o (hk4 b o hb (hzk b o e)))
      have tabS : s'.heap.get? G.tabP = some (X.tableObj (G.tab0 ++ more.1)) := hm.heap _ _ (by
        intro q
        simp only [List.mem_cons, List.not_mem_nil, or_false] at q
        rcases q with q | q | q | q | q <;> (rw [q] at hPlt; first | exact absurd hPlt (Nat.not_lt.mpr (Nat.le_add_right _ _)) | exact absurd hPlt (Nat.lt_irrefl _) | exact absurd hPlt (Nat.not_lt.mpr (Nat.le_trans (Nat.le_add_right _ 5) size4)))) (hk₅ _ _ ht4)
      have R₆ : Real prog w G C ex st₂ s' := R₂.tabs keep more tabS (AllBare.moved (AllBare.push (by rw [hg4]; exact R₂.gens) hgb) hm.gens) (hm.os.trans ho4)
      obtain ⟨hsz', hits⟩ := hacc
      have hab' : Absl acc.toList ((List.zipWith (· + ·) xs ys).map .int) := absl_zip hvs hlen (hsz'.trans (List.length_range ..)) hits
      have PP := R₆.push (o := tupO acc 0) rfl (A := .tup ((List.zipWith (· + ·) xs ys).map .int)) ⟨rfl, _, _, rfl, hab'⟩ s'.toks
      exact ⟨_, _, rfl, PP.2, h₂ _ PP.1⟩
end
end Mine
end
section
open PySem PySem.W PySem.Calls PyProof.Rows
set_option Elab.async false
set_option linter.unusedVariables false
set_option maxRecDepth 100000
namespace Mine
variable {prog : Program} {w : World}
noncomputable def eget : List (Str × AV) → Str → Option AV
  | [], _ => none
  | (x, a) :: r, k => if x = k then some a else eget r k
noncomputable def eput : List (Str × AV) → Str → AV → List (Str × AV)
  | [], k, v => [(k, v)]
  | (x, a) :: r, k, v => if x = k then (x, v) :: r else (x, a) :: eput r k v
theorem Ens.length {ens : List DictEntry} {es : List (Str × AV)} (h : Ens ens es) : ens.length = es.length := by
  induction h with
  | nil => rfl
  | cons _ _ ih => simp [ih]
theorem Ens.noRef {ens : List DictEntry} {es : List (Str × AV)} (h : Ens ens es) : ens.any (·.refKey) = false := by
  induction h with
  | nil => rfl
  | cons _ _ ih => rw [List.any_cons, ih]; rfl
theorem isStr_eq (x k : Str) (t : Tok) : (Value.str x t).isStr k = decide (x = k) := by
  show (x == k) = decide (x = k)
  by_cases h : x = k <;> simp [h]
theorem Ens.get {ens : List DictEntry} {es : List (Str × AV)} (h : Ens ens es) (k : Str) : getL k ens = some ((ens.find? (·.key.isStr k)).map (·.val)) ∧ ((ens.find? (·.key.isStr k)).map (·.val)).map vabs = (eget es k).map some := by
  have h1 : getL k ens = some ((ens.find? (·.key.isStr k)).map (·.val)) := by
    unfold getL
    cases ens.find? (·.key.isStr k) with
    | some e => rfl
    | none => dsimp only; rw [if_neg (by rw [h.noRef]; decide)]; rfl
  refine ⟨h1, ?_⟩
  clear h1
  induction h with
  | nil => rfl
  | @cons hh x t v a r r' hv _ ih =>
    rw [List.find?_cons]
    show Option.map vabs (Option.map _ (match (Value.str x t).isStr k with | true => _ | false => _)) = Option.map some (if x = k then some a else eget r' k)
    rw [isStr_eq]
    by_cases q : x = k
    · simp [q, hv]
    · simp only [q, decide_false, if_false]; exact ih
theorem Ens.put {ens : List DictEntry} {es : List (Str × AV)} (h : Ens ens es) (k : Str) {hsh : Int} {t : Tok} {v : Value} {a : AV} (hv : vabs v = some a) : Ens (putL k hsh (.str k t) v ens) (eput es k a) := by
  induction h with
  | nil => exact .cons hv .nil
  | @cons hh x t' v' a' r r' hv' hr ih =>
    show Ens (if (Value.str x t').isStr k then ⟨hh, .str x t', v⟩ :: r else ⟨hh, .str x t', v'⟩ :: putL k hsh (.str k t) v r) (if x = k then (x, a) :: r' else (x, a') :: eput r' k a)
    rw [isStr_eq]
    by_cases q : x = k
    · simp only [q, decide_true, if_true]; exact .cons hv hr
    · simp only [q, decide_false, Bool.false_eq_true, if_false]; exact .cons hv' ih
section
variable {G : Gl} {C : Cx} {scope : Scope} {st : St} {ex : Addr → Option Obj} {s : Shared}
noncomputable def allNews (h : Heap) (L dx : Addr) : List (Addr × Obj) := (List.range h.objs.size).filterMap fun b => if b = L ∨ b = dx then none else (h.get? b).map fun o => (b, o)
theorem allNews_mem {h : Heap} {L dx b : Addr} {o : Obj} (hb : h.get? b = some o) (h1 : b ≠ L) (h2 : b ≠ dx) : (b, o) ∈ allNews h L dx :=
  List.mem_filterMap.mpr ⟨b, List.mem_range.mpr (Heap.lt_size hb), by rw [if_neg (by rintro (q | q); exact h1 q; exact h2 q), hb]; rfl⟩
theorem allNews_of {h : Heap} {L dx : Addr} {p : Addr × Obj} (hp : p ∈ allNews h L dx) : A3 (h.get? p.1 = some p.2) (p.1 ≠ L) (p.1 ≠ dx) := by
  obtain ⟨b, _, e⟩ := List.mem_filterMap.mp hp
  split at e
  · cases e
  · rename_i q
    obtain ⟨o, ho, rfl⟩ := Option.map_eq_some_iff.mp e
    exact ⟨ho, fun z => q (.inl z), fun z => q (.inr z)⟩
noncomputable def noHeap : Heap := { objs := #[] }
theorem noHeap_get (b : Addr) : noHeap.get? b = none := by
  cases q : noHeap.get? b with
  | none => rfl
  | some o => exact absurd (Heap.lt_size q) (Nat.not_lt.mpr (Nat.zero_le _))
theorem fr_no {h : Heap} {L : Addr} {m : Str → Option Value} (hn : h.Ns L m) : Fr noHeap L h m := ⟨hn, (fun b o e => by rw [noHeap_get] at e; cases e), Nat.zero_le _⟩
theorem news_no {h : Heap} {L dx : Addr} {od : Obj} (hd : h.get? dx = some od) (hL : dx ≠ L) : News noHeap L h ((dx, od) :: allNews h L dx) := fun p hp => by
  rcases List.mem_cons.mp hp with rfl | hp
  · exact ⟨hd, hL, noHeap_get _⟩
  · exact ⟨(allNews_of hp).1, (allNews_of hp).2, noHeap_get _⟩
theorem Real.updN (R : Real prog w G C ex st s) {a : Addr} {A₀ A : AObj} {o : Obj} (e : st.hp a = some A₀) {m : Str → Option Value} (hm : s.heap.Ns C.env.locals m) {h' : Heap} {t : Nat} (F : Fr noHeap C.env.locals h' m) (N : News noHeap C.env.locals h' ((a, o) :: allNews s.heap C.env.locals a)) (hA : A.is prog w o) :
    Real prog w G C ex (st.put a A) { s with heap := h', toks := t } := by
  have hk : ∀ c o', c ≠ C.env.locals → c ≠ a → s.heap.get? c = some o' → h'.get? c = some o' := fun c o' h1 h2 q => (N _ (.tail _ (allNews_mem q h1 h2))).1
  have ha : h'.get? a = some o := (N _ (.head _)).1
  have hcell : ∀ c o' r, s.heap.get? c = some o' → o'.data = .cell r → h'.get? c = some o' := fun c o' r q hr => hk c o' (fun z => by
      obtain ⟨o2, ho2, es, ep, hd2⟩ := R.live
      rw [z, ho2] at q; cases q; rw [hr] at hd2; cases hd2) (fun z => by
      obtain ⟨_, _, o2, ho2, hA2⟩ := R.hp _ _ e
      rw [z, ho2] at q; cases q; exact AObj.is_cell hA2 r hr) q
  obtain ⟨m', hm', hl⟩ := R.ns
  have mm : m' = m := by
    obtain ⟨o1, es1, ep1, g1, d1, r1⟩ := hm'
    obtain ⟨o2, es2, ep2, g2, d2, r2⟩ := hm
    rw [g1] at g2; cases g2
    rw [d1] at d2; cases d2
    funext x
    rw [← r1.2 x, ← r2.2 x]
  subst mm
  exact {
    ns := ⟨m', F.ns, fun i av q => by obtain ⟨x, v, b', c⟩ := hl i av q; exact ⟨x, v, b', c.mono fun c o z hq116 => by obtain ⟨r, hr⟩ := hq116; exact hcell c o r z hr⟩⟩
    keep := fun c o' q => hk c o' (fun z => by rw [z, R.exL] at q; cases q) (fun z => by rw [z, (R.hp _ _ e).1] at q; cases q) (R.keep c o' q)
    base := R.base
    exL := R.exL
    exC := fun c hc => by obtain ⟨x, r, o', b', d⟩ := R.exC c hc; exact ⟨x, r, o', hcell c o' r b' d, d⟩
    hp := fun b A' q => by
      by_cases y : b = a
      · subst y
        have q' : hset st.hp b A b = some A' := q
        rw [hset_self] at q'; cases q'
        exact ⟨(R.hp _ _ e).1, (R.hp _ _ e).2, o, ha, hA⟩
      · have q' : hset st.hp a A b = some A' := q
        rw [hset_other _ _ y] at q'
        obtain ⟨x, z, o', ho', u⟩ := R.hp b A' q'
        exact ⟨x, z, o', hk b o' z y ho', u⟩
    tab := by obtain ⟨x, more, b'⟩ := R.tab; exact ⟨x, more, hk _ _ R.tabL (fun q => by have := R.tabH; rw [q, e] at this; cases this) b'⟩
    gens := R.gens
    os := R.os
    cells := fun x c h => by obtain ⟨r, o', b', d⟩ := R.cells x c h; exact ⟨r, o', hcell c o' r b' d, d⟩
    frs := fun p hp => by
      obtain ⟨x, b, c, d⟩ := R.frs p hp
      have hne : p.1 ≠ a := fun q => by rw [q, e] at c; cases c
      exact ⟨x, b, (hset_other _ _ hne).trans c, Ns_at d fun o q => hk _ o b hne q⟩ }
theorem Real.instAt (R : Real prog w G C ex st s) {x D dx : Addr} {es : List (Str × AV)} (hx : st.hp x = some (.inst D dx)) (hd : st.hp dx = some (.attrs es)) : E2 fun ens n => A3 (Ens ens es) (s.heap.get? dx = some (dictOf ens n)) (InstAt s.heap x { cls := .ref D, dict := some dx, data := .plain } D (some (dictOf ens n))) := by
  obtain ⟨_, _, o, ho, rfl⟩ := R.hp _ _ hx
  obtain ⟨_, _, od, hod, ens, n, rfl, he⟩ := R.hp _ _ hd
  exact ⟨ens, n, he, hod, ho, rfl, rfl, hod⟩
theorem vabs_handed {v : Value} {a : AV} (h : vabs v = some a) : handedIn v = true := by cases v <;> first | rfl | cases h
theorem op_attr (gk : GOk G) {x D dx : Addr} {es : List (Str × AV)} {name : Str} {a : AV} {attr : Option Value} {va : Value} {expr : Bool} {K : AV → St → Prop} (hva : vabs va = some (.ref x)) (hx : st.hp x = some (.inst D dx)) (hd : st.hp dx = some (.attrs es)) (ha : eget es name = some a)
    (hg : plainGet G.K D name = true) (hh : hasDictIn G.K D = true) (hf : findIn G.K (.ref D) name = some attr) (hn : noGet G.K attr = true) (h : K a st) : Op prog w G C (getAttr va name expr) st K := .mk fun ex s E R => by
  rw [vabs_ref hva]
  obtain ⟨ens, n, he, hod, I⟩ := R.instAt hx hd
  obtain ⟨g1, g2⟩ := he.get name
  rw [ha] at g2
  cases q : (ens.find? (·.key.isStr name)).map (·.val) with
  | none => rw [q] at g2; cases g2
  | some v =>
    rw [q] at g1 g2
    have hv : vabs v = some a := by simpa using g2
    exact get_value (R.kin gk) I (plainGet_of hg).1 (findObj_own hh hf hn (by rw [lookIn_dict]; exact g1)) (vabs_handed hv) ⟨a, st, hv, R.toks _, h⟩
theorem op_setattr (gk : GOk G) {x D dx : Addr} {es : List (Str × AV)} {name : Str} {a : AV} {va vv : Value} {K : St → Prop} (hva : vabs va = some (.ref x)) (hvv : vabs vv = some a) (hx : st.hp x = some (.inst D dx)) (hd : st.hp dx = some (.attrs es))
    (hs : findIn G.K (.ref D) "__setattr__" = some (some (.builtin "object.__setattr__"))) (hp : plainOver G.K D = true) (ht : takerIn G.K D name = some none) (hh : hasDictIn G.K D = true) (hl : es.length ≤ 900)
    (h : K (st.put dx (.attrs (eput es name a)))) : OpU prog w G C (setAttr va name vv) st K := .mk fun ex s E R => by
  rw [vabs_ref hva]
  obtain ⟨ens, n, he, hod, I⟩ := R.instAt hx hd
  obtain ⟨m, hm, _⟩ := R.ns
  have hput : ∀ t, Ens (putL name (PyData.keyHash w.params name) (.str name t) vv ens) (eput es name a) := fun t => he.put name hvv
  have hlen : ∀ t, (putL name (PyData.keyHash w.params name) (.str name t) vv ens).length ≤ 1000 := fun t => by
    rw [(hput t).length]
    have : ∀ es : List (Str × AV), (eput es name a).length ≤ es.length + 1 := by
      intro es
      induction es with
      | nil => exact Nat.le_refl _
      | cons p r ih =>
        obtain ⟨x, b⟩ := p
        show (if x = name then (x, a) :: r else (x, b) :: eput r name a).length ≤ _
        by_cases q : x = name
        · rw [if_pos q]; exact Nat.le_succ _
        · rw [if_neg q]; exact Nat.succ_le_succ ih
    have := this es; lia
  refine set_plain (R.kin gk) I hs (osa_dict (s := { s with toks := s.toks + 1 }) (pre := []) (fr_no hm) (news_no hod (R.hp _ _ hd).2) ((R.toks _).kin gk) I rfl hp ht hh (by rw [lookIn_dict, (he.get name).1]; rfl) (fun _ hq => by cases hq) (fun p hp => (allNews_of hp).3) (by rw [putName_dict]) rfl (hlen _) fun h' F' N' => ?_)
  exact ⟨_, R.updN hd hm F' N' (A := .attrs (eput es name a)) ⟨_, _, rfl, hput _⟩, h⟩
end
end Mine
end
section
open PySem PySem.W PySem.Calls PyProof.Rows
set_option Elab.async false
set_option linter.unusedVariables false
set_option maxRecDepth 100000
namespace Mine
variable {prog : Program} {w : World}
noncomputable def attrB (K : Frag) (D : Addr) (name : Str) : Bool := plainGet K D name && hasDictIn K D && (match findIn K (.ref D) name with | some attr => noGet K attr | none => false)
noncomputable def setB (K : Frag) (D : Addr) (name : Str) : Bool := (findIn K (.ref D) "__setattr__" == some (some (.builtin "object.__setattr__"))) && plainOver K D && (takerIn K D name == some none) && hasDictIn K D
noncomputable def slotB (K : Frag) (D p : Addr) (i : Nat) (name : Str) : Bool := plainGet K D name && isClsIn K D && (findIn K (.ref D) name == some (some (.ref p))) && (specialIn K (.ref p) "__get__" == some (some (.builtin "member_descriptor.__get__"))) && (takesIn K (.ref p) == some true) && (slotIn K p D == some i)
noncomputable def slotSetB (K : Frag) (D p : Addr) (i : Nat) (name : Str) : Bool := (findIn K (.ref D) "__setattr__" == some (some (.builtin "object.__setattr__"))) && plainOver K D && (takerIn K D name == some (some (.ref p))) && (typeIn K (.ref p) == some (.type "member_descriptor")) && (slotIn K p D == some i)
noncomputable def methB (K : Frag) (D f : Addr) (name : Str) : Bool := plainGet K D name && (findIn K (.ref D) name == some (some (.ref f))) && (typeIn K (.ref f) == some (.type "function"))
section
variable {G : Gl} {C : Cx} {scope : Scope} {st : St} {ex : Addr → Option Obj} {s : Shared}
theorem ev_get {o : Expr} {name : Str} {p : Pos} {K : AV → St → Prop} (h : Ev prog w G C o st fun a st₁ => ∀ va, vabs va = some a → Op prog w G C (getAttr va name true) st₁ K) (hbase : autoParam (attributeBase o name C.env (eval o C.env) = eval o C.env) tRfl) : Ev prog w G C (.Attribute o name p) st K := .mk fun ex s E R => by
  rw [arm_eval_Attribute, hbase]
  refine wpAny_bind (wpAny_mono (h.run ex s E R) (fun va s₁ hy21 => ?_) fun _ _ x => x)
  refine hide fun Pz hPz => ?_
  obtain ⟨a, st₁, ha, R₁, h₁⟩ := hy21
  refine hPz ?_
  clear hPz Pz
  refine wpAny_bind (wpAny_standAt (wpAny_bind (wpAny_holding (wpAny_mono ((h₁ va ha).run ex s₁ E R₁) (fun r s₂ h₂ => ?_) fun _ _ x => x))))
  exact wpAny_bind (wpAny_letTemporaryGo (wpAny_pure h₂))
inductive AttrC (G : Gl) (name : Str) (K : AV → St → Prop) (a : AV) (st : St) : Prop
  | mk (x D dx : Addr) (es : List (Str × AV)) (v : AV) (e1 : a = .ref x) (hx : st.hp x = some (.inst D dx)) (hd : st.hp dx = some (.attrs es)) (hb : attrB G.K D name = true) (hv : eget es name = some v) (h : K v st)
theorem ev_attr (gk : GOk G) {o : Expr} {name : Str} {p : Pos} {K : AV → St → Prop} (h : Ev prog w G C o st (AttrC G name K))
    (hbase : autoParam (attributeBase o name C.env (eval o C.env) = eval o C.env) tRfl) : Ev prog w G C (.Attribute o name p) st K :=
  ev_get (Ev.mono h fun a st₁ hq118 va ha => by
    refine hide fun Pz hPz => ?_; (rcases hq118 with ⟨x, D, dx, es, v, e1, hx, hd, hb, hv, h₁⟩) <;> (refine hPz ?_; clear hPz Pz)
    subst e1
    simp only [attrB, Bool.and_eq_true] at hb
    obtain ⟨⟨b1, b2⟩, b3⟩ := hb
    split at b3
    · rename_i attr hf
      exact op_attr gk ha hx hd hv b1 b2 hf b3 h₁
    · cases b3) hbase
inductive SetAC (G : Gl) (name : Str) (K : AFlow → St → Prop) (v a : AV) (st : St) : Prop
  | mk (x D dx : Addr) (es : List (Str × AV)) (e1 : a = .ref x) (hx : st.hp x = some (.inst D dx)) (hd : st.hp dx = some (.attrs es)) (hb : setB G.K D name = true) (hl : es.length ≤ 900) (h : K .next (st.put dx (.attrs (eput es name v))))
noncomputable def setA1 (prog : Program) (w : World) (G : Gl) (C : Cx) (o : Expr) (name : Str) (K : AFlow → St → Prop) : AV → St → Prop := fun v st₁ => Ev prog w G C o st₁ (SetAC G name K v)
theorem set_attr (gk : GOk G) {o e : Expr} {name : Str} {p q : Pos} {K : AFlow → St → Prop} (h : Ev prog w G C e st (setA1 prog w G C o name K))
    (hs : autoParam (swapsWith e (some (.Attribute o name p)) q.line C.env = pure false) tRfl) : Ex prog w G C (.Assign [.Attribute o name p] e q) st K := .mk fun ex s E R => by
  refine plainObj_wpAny_Assign_Attribute (wpAny_mono (h.run ex s E R) (fun vv s₁ hy22 => ?_) fun _ _ x => x) hs
  refine hide fun Pz hPz => ?_
  obtain ⟨v, st₁, hv, R₁, h₁⟩ := hy22
  refine hPz ?_
  clear hPz Pz
  refine wpAny_mono (h₁.run ex s₁ E R₁) (fun va s₂ hq120 => ?_) fun _ _ x => x
  refine hide fun Pz hPz => ?_; (rcases hq120 with ⟨a, st₂, ha, R₂, x, D, dx, es, e1, hx, hd, hb, hl, h₂⟩) <;> (refine hPz ?_; clear hPz Pz)
  subst e1
  simp only [setB, Bool.and_eq_true, beq_iff_eq] at hb
  obtain ⟨⟨⟨b1, b2⟩, b3⟩, b4⟩ := hb
  exact wpAny_mono ((op_setattr (K := K .next) gk ha hv hx hd b1 b2 b3 b4 hl h₂).run ex s₂ E R₂) (fun _ s₃ hq121 => by obtain ⟨st₃, R₃, h₃⟩ := hq121; exact ⟨.next, st₃, rfl, R₃, h₃⟩) fun _ _ x => x
theorem aug_attr (gk : GOk G) {o e : Expr} {name : Str} {op : Operator} {p q : Pos} {K : AFlow → St → Prop} (hop : op = .Add ∨ op = .Sub)
    (h : Ev prog w G C o st fun a st₁ => E5 fun x D dx es m => A8 (a = .ref x) (st₁.hp x = some (.inst D dx)) (st₁.hp dx = some (.attrs es)) (attrB G.K D name = true) (setB G.K D name = true) (eget es name = some (.int m)) (es.length ≤ 900) (Ev prog w G C e st₁ fun y st₂ => ∃ n, A4 (y = .int n) (st₂.hp x = some (.inst D dx)) (st₂.hp dx = some (.attrs es)) (K .next (st₂.put dx (.attrs (eput es name (.int (if op = .Add then m + n else m - n)))))))) : Ex prog w G C (.AugAssign (.Attribute o name p) op e q) st K := .mk fun ex s E R => by
  refine wpAny_AugAssign_AttributeAny (wpAny_mono (h.run ex s E R) (fun va s₁ hq122 => ?_) fun _ _ x => x)
  refine hide fun Pz hPz => ?_; (rcases hq122 with ⟨a, st₁, ha, R₁, x, D, dx, es, m, e1, hx, hd, hb, hb', hv, hl, h₁⟩) <;> (refine hPz ?_; clear hPz Pz)
  subst e1
  simp only [attrB, Bool.and_eq_true] at hb
  refine hide fun Pz hPz => ?_
  obtain ⟨⟨b1, b2⟩, b3⟩ := hb
  simp only [setB, Bool.and_eq_true, beq_iff_eq] at hb'
  obtain ⟨⟨⟨c1, c2⟩, c3⟩, c4⟩ := hb'
  refine hPz ?_
  clear hPz Pz
  split at b3
  · rename_i attr hf
    refine wpAny_mono ((op_attr (K := fun v st' => v = .int m ∧ st' = st₁) gk ha hx hd hv b1 b2 hf b3 ⟨rfl, rfl⟩).run ex s₁ E R₁) (fun old s₂ hq123 => ?_) fun _ _ x => x
    refine hide fun Pz hPz => ?_
    obtain ⟨ov, st₂, ho, R₂, q1, q2⟩ := hq123
    refine hPz ?_
    clear hPz Pz
    subst q1 q2
    refine wpAny_mono (h₁.run ex s₂ E R₂) (fun vy s₃ hq124 => ?_) fun _ _ x => x
    refine hide fun Pz hPz => ?_
    obtain ⟨y, st₃, hy, R₃, n, q3, hx', hd', h₃⟩ := hq124
    refine hPz ?_
    clear hPz Pz
    subst q3
    obtain ⟨t, rfl⟩ := vabs_int ho
    obtain ⟨u, rfl⟩ := vabs_int hy
    have fin : ∀ r : Int, r = (if op = .Add then m + n else m - n) → wpAny (model prog w) C.A (setAttr va name (.int r s₃.toks)) (fun _ s' => E2 fun af st' => A3 (fabs .next = some af) (Real prog w G C ex st' s') (K af st')) E { s₃ with toks := s₃.toks + 1 } := fun r hr => by
      subst hr
      exact wpAny_mono ((op_setattr (K := K .next) (a := .int (if op = .Add then m + n else m - n)) gk ha rfl hx' hd' c1 c2 c3 c4 hl h₃).run ex _ E (R₃.toks _)) (fun _ s₄ hq125 => by obtain ⟨st₄, R₄, h₄⟩ := hq125; exact ⟨.next, st₄, rfl, R₄, h₄⟩) fun _ _ x => x
    rcases hop with rfl | rfl
    · exact wpAny_iadd_int (fin (m + n) rfl)
    · exact PyProof.Rows.isub_int (fin (m - n) rfl)
  · cases b3
theorem Ens.shadow {ens : List DictEntry} {as : List (Str × AV)} (hens : Ens ens as) (k : Nat) {name : Str} (hn : eget as name = none) : shadowIn (some (dictOf ens k)) name = some false := by
  show (lookIn name (dictOf ens k)).map (·.isSome) = some false
  rw [lookIn_dict, (hens.get name).1]
  have := (hens.get name).2
  rw [hn] at this
  cases q : (ens.find? (·.key.isStr name)).map (·.val) with
  | none => rfl
  | some v => rw [q] at this; cases this
noncomputable def methR (prog : Program) (w : World) (G : Gl) (n : Nat) (f x : Addr) (K : AV → St → Prop) : List AV → St → Prop := fun xs st₂ => FnC prog w G n f (.ref x :: xs) st₂.hp (fnR K st₂)
inductive MethC (prog : Program) (w : World) (G : Gl) (C : Cx) (n : Nat) (f : Addr) (es : List Expr) (name : Str) (K : AV → St → Prop) (a : AV) (st : St) : Prop
  | mk (x D dx : Addr) (as : List (Str × AV)) (e1 : a = .ref x) (hx : st.hp x = some (.inst D dx)) (hd : st.hp dx = some (.attrs as)) (hb : methB G.K D f name = true) (hn : eget as name = none) (h : Es prog w G C es st (methR prog w G n f x K))
theorem ev_meth (gk : GOk G) (B : Blk C scope) {n : Nat} (rm : Room n C) {f : Addr} {o : Expr} {name : Str} {ap p : Pos} {es : List Expr} {pl : Sem Bool} {K : AV → St → Prop}
    (hf : fnB G.K f = true)
    (h : Ev prog w G C o st (MethC prog w G C n f es name K))
    (he : autoParam (eval (.Call (.Attribute o name ap) es [] p) C.env = (do
      let ov ← eval o C.env
      standAt ap.atName
      let (f, first) ← holding [ov] (getMethod ov name pl)
      callWith p f first (backTo p (starEach es C.env)) (backToKw p (keywordEach [] C.env)))) tRfl) (hp : autoParam (es.all plainE = true) tRfl) : Ev prog w G C (.Call (.Attribute o name ap) es [] p) st K := .mk fun ex s E R => by
  refine methodCall_KW (pl := pl) (wpAny_mono (h.run ex s E R) (fun va s₁ hq126 => ?_) fun _ _ x => x) he
  refine hide fun Pz hPz => ?_; (rcases hq126 with ⟨a, st₁, ha, R₁, x, D, dx, as, e1, hx, hd, hb, hn, h₁⟩) <;> (refine hPz ?_; clear hPz Pz)
  subst e1; rw [vabs_ref ha]
  refine hide fun Pz hPz => ?_
  obtain ⟨ens, k, hens, hod, I⟩ := R₁.instAt hx hd
  simp only [methB, Bool.and_eq_true, beq_iff_eq] at hb
  obtain ⟨⟨b1, b2⟩, b3⟩ := hb
  refine hPz ?_
  clear hPz Pz
  have hsh := hens.shadow k hn
  obtain ⟨_, _, _, _, hf⟩ := fnB_at hf
  refine method_fn (R₁.kin gk) I (plainGet_of b1).1 (plainGet_of b1).2 b2 b3 hsh ?_
  exact callWith_function (args_plain hp (wpAny_mono (h₁.run p ex s₁ E R₁) (fun vs s₂ hq127 => by obtain ⟨xs, st₂, hx2, R₂, h₂⟩ := hq127; exact
    ⟨⟨R₂.kin gk _ _ hf, rfl⟩, wpAny_mono (FnC.call h₂ B.ok rm R₂ (.cons rfl hx2)) (fun v s₃ hq128 => by obtain ⟨av, hp', a, b, c⟩ := hq128; exact ⟨av, _, a, b, c⟩) fun _ _ x => x⟩) fun _ _ x => x))
theorem Real.nodeAt (R : Real prog w G C ex st s) {x D dx : Addr} {sl : List (Option AV)} {es : List (Str × AV)} (hx : st.hp x = some (.node D dx sl)) (hd : st.hp dx = some (.attrs es)) : E3 fun vs ens n => A3 (vs.toList.map (fun v => v.bind vabs) = sl) (s.heap.get? x = some { cls := .ref D, dict := some dx, data := .plain, slots := vs }) (InstAt s.heap x { cls := .ref D, dict := some dx, data := .plain, slots := vs } D (some (dictOf ens n))) := by
  obtain ⟨_, _, o, ho, vs, rfl, hv⟩ := R.hp _ _ hx
  obtain ⟨_, _, od, hod, ens, n, rfl, he⟩ := R.hp _ _ hd
  exact ⟨vs, ens, n, hv, ho, ho, rfl, rfl, hod⟩
theorem op_slot (gk : GOk G) {x D dx p : Addr} {i : Nat} {sl : List (Option AV)} {es : List (Str × AV)} {name : Str} {a : AV} {va : Value} {expr : Bool} {K : AV → St → Prop} (hva : vabs va = some (.ref x)) (hx : st.hp x = some (.node D dx sl)) (hd : st.hp dx = some (.attrs es)) (ha : sl[i]? = some (some a)) (hb : slotB G.K D p i name = true) (h : K a st) : Op prog w G C (getAttr va name expr) st K := .mk fun ex s E R => by
  rw [vabs_ref hva]
  refine hide fun Pz hPz => ?_
  obtain ⟨vs, ens, n, hv, ho, I⟩ := R.nodeAt hx hd
  simp only [slotB, Bool.and_eq_true, beq_iff_eq] at hb
  obtain ⟨⟨⟨⟨⟨b1, b2⟩, b3⟩, b4⟩, b5⟩, b6⟩ := hb
  refine hPz ?_
  clear hPz Pz
  have hvi : ∃ v, (vs[i]?).join = some v ∧ vabs v = some a := by
    rw [← hv, List.getElem?_map, Array.getElem?_toList] at ha
    cases q : vs[i]? with
    | none => rw [q] at ha; cases ha
    | some o =>
      rw [q] at ha
      cases o with
      | none => simp at ha
      | some v => exact ⟨v, rfl, by simpa using ha⟩
  obtain ⟨v, hvj, hva'⟩ := hvi
  exact get_bind (R.kin gk) I (plainGet_of b1).1 (findObj_data b2 b3 b4 b5) (plainGet_of b1).2 (wpAny_call (slot_get (s := { s with toks := s.toks + 1 }) ((R.toks _).kin gk) I b6 hvj (handed_on (vabs_handed hva') ⟨a, st, hva', R.toks _, h⟩)))
theorem op_setslot (gk : GOk G) {x D dx p : Addr} {i : Nat} {sl : List (Option AV)} {es : List (Str × AV)} {name : Str} {a : AV} {va vv : Value} {K : St → Prop} (hva : vabs va = some (.ref x)) (hvv : vabs vv = some a) (hx : st.hp x = some (.node D dx sl)) (hd : st.hp dx = some (.attrs es)) (hb : slotSetB G.K D p i name = true) (hi : i < 1000)
    (h : K (st.put x (.node D dx ((sl ++ List.replicate (i + 1 - sl.length) none).set i (some a))))) : OpU prog w G C (setAttr va name vv) st K := .mk fun ex s E R => by
  rw [vabs_ref hva]
  refine hide fun Pz hPz => ?_
  obtain ⟨vs, ens, n, hv, ho, I⟩ := R.nodeAt hx hd
  obtain ⟨m, hm, _⟩ := R.ns
  simp only [slotSetB, Bool.and_eq_true, beq_iff_eq] at hb
  obtain ⟨⟨⟨⟨b1, b2⟩, b3⟩, b4⟩, b5⟩ := hb
  refine hPz ?_
  clear hPz Pz
  refine set_plain (R.kin gk) I b1 (osa_descr (s := { s with toks := s.toks + 1 }) KF.slot_mset ((R.toks _).kin gk) I b2 b3 b4 (slot_set (s := { s with toks := s.toks + 1 }) (pre := []) (fr_no hm) (news_no ho (R.hp _ _ hx).2) ((R.toks _).kin gk) I b5 hi (fun _ hq => by cases hq) (fun p hp => (allNews_of hp).3) rfl rfl fun h' F' N' => ?_))
  refine ⟨_, R.updN hx hm F' N' (A := .node D dx ((sl ++ List.replicate (i + 1 - sl.length) none).set i (some a))) ⟨_, rfl, ?_⟩, h⟩
  have hz : vs.size = sl.length := by rw [← hv]; simp
  rw [← hv]
  simp [hz, hvv, List.map_set]
end
end Mine
end
section
open PySem PySem.W PySem.Calls PyProof.Rows
set_option Elab.async false
set_option linter.unusedVariables false
set_option maxRecDepth 100000
namespace Mine
variable {prog : Program} {w : World}
section
variable {G : Gl} {C : Cx} {scope : Scope} {st : St} {ex : Addr → Option Obj} {s : Shared}
theorem tc_weight (D : Addr) (vs : List Value) : (Code.builtin "type.__call__" ⟨.ref D :: vs, []⟩).weight = 1 := by
  show Code.frames _ + 1 + (if guardIds.contains "type.__call__" then 1 else 0) + 0 = 1
  rw [if_neg (by decide +kernel)]; rfl
theorem tc_units (D : Addr) (vs : List Value) : (Code.builtin "type.__call__" ⟨.ref D :: vs, []⟩).cUnits = 1 := by
  show 1 + 3 * Code.frames _ = 1
  rfl
theorem Room.make {n : Nat} {C : Cx} (h : Room (n + 1) C) (D : Addr) (vs : List Value) : Room n { C with A := C.A.under (.builtin "type.__call__" ⟨.ref D :: vs, []⟩) } :=
  ⟨by have := h.1; show C.A.depth + Code.weight _ + n < _; rw [tc_weight]; lia, by have := h.2; show C.A.units + Code.cUnits _ + 20 * n < _; rw [tc_units]; lia, h.3⟩
theorem Real.around (R : Real prog w G C ex st s) (A : Around) : Real prog w G { C with A := A } ex st s := ⟨R.ns, R.keep, R.base, R.exL, R.exC, R.hp, R.tab, R.gens, R.os, R.cells, R.frs⟩
theorem COk.around (ok : COk C) {A : Around} (h : A.handled = none) : COk { C with A := A } := ⟨ok.kind, ok.dbg, ok.inj, ok.cinj, h, ok.glob, ok.blt⟩
noncomputable def makeB (K : Frag) (D fI : Addr) : Bool := makesIn K D && keepIn K (.ref D) && (findIn K (.ref D) "__init__" == some (some (.ref fI))) && (typeIn K (.ref fI) == some (.type "function"))
theorem ev_make (gk : GOk G) (B : Blk C scope) {n : Nat} (rm : Room (n + 1) C) {x : Str} {D fI : Addr} (O : Addr → AObj) (hO : ∀ dx, (O dx).is prog w (instObj D dx)) {np p : Pos} {es : List Expr} {K : AV → St → Prop} (hm : nsIn G.K mainGlobals x = some (some (.ref D))) (hb : makeB G.K D fI = true)
    (h : Es prog w G C es st fun xs st₁ => ∀ a dx, st₁.hp a = none → st₁.hp dx = none → a ≠ dx → FnC prog w G n fI (.ref a :: xs) (hset (hset st₁.hp dx (.attrs [])) a (O dx)) fun v hp' => v = .none ∧ K (.ref a) { st₁ with hp := hp' })
    (hp : autoParam (es.all plainE = true) tRfl) (hk : autoParam (gloB scope x = true) tRfl) (hd : autoParam ((x == ("__debug__" : Str)) = false) tRfl) : Ev prog w G C (.Call (.Name x np) es [] p) st K := .mk fun ex s E R => by
  simp only [makeB, Bool.and_eq_true, beq_iff_eq] at hb
  obtain ⟨⟨⟨b1, b2⟩, b3⟩, b4⟩ := hb
  refine wpAny_Call_NameR (name_glob gk B.ok R (B.glo hk) hd hm ?_)
  refine callWith_of (P := fun h => G.K.In h) (by rw [plain_any hp]; rfl) (keeps_K b2) (args_plain hp (wpAny_mono (h.run p ex s E R) (fun vs s₁ hy23 => ?_) fun _ _ x => x))
  obtain ⟨xs, st₁, hx, R₁, h₁⟩ := hy23
  refine ⟨R₁.kin gk, wpAny_call ?_⟩
  obtain ⟨hh, g, d, t, os⟩ := s₁
  refine make_core (makes_of (R₁.kin gk) b1) (looks_findIn (R₁.kin gk) b3) (fun self => bind_fn (R₁.kin gk) self b4) (.inl rfl) ?_
  have n0 : hh.get? hh.objs.size = none := none_of_size
  have n1 : hh.get? (hh.objs.size + 1) = none := by
    cases q : hh.get? (hh.objs.size + 1) with
    | none => rfl
    | some o => exact absurd (Heap.lt_size q) (Nat.not_lt.mpr (Nat.le_succ _))
  have O0 : Off G C ex st₁ hh.objs.size := R₁.off_new n0
  have O1 : Off G C ex st₁ (hh.objs.size + 1) := R₁.off_new n1
  have R₂ : Real prog w G C ex st₁ ⟨(hh.push emptyDict).push (instObj D hh.objs.size), g, d, t, os⟩ := R₁.heap (h' := (hh.push emptyDict).push (instObj D hh.objs.size)) (t := t) fun b o e => Heap.get?_push_of_some _ (Heap.get?_push_of_some _ e)
  have g0 : ((hh.push emptyDict).push (instObj D hh.objs.size)).get? hh.objs.size = some emptyDict := Heap.get?_push_of_some _ (Heap.get?_push_size _ rfl)
  have g1 : ((hh.push emptyDict).push (instObj D hh.objs.size)).get? (hh.objs.size + 1) = some (instObj D hh.objs.size) := by
    have q : ((hh.push emptyDict).push (instObj D hh.objs.size)).get? (hh.push emptyDict).objs.size = some (instObj D hh.objs.size) := Heap.get?_push_size _ rfl
    rwa [Heap.size_push] at q
  have hne : hh.objs.size + 1 ≠ hh.objs.size := Nat.succ_ne_self _
  have R₃ := R₂.take O0 g0 (A := .attrs []) ⟨[], 0, rfl, .nil⟩
  have R₄ := R₃.take (O1.put hne) g1 (hO _)
  have fc := (h₁ (hh.objs.size + 1) hh.objs.size O1.hp O0.hp hne).run { C with A := C.A.under (.builtin "type.__call__" ⟨.ref D :: vs, []⟩) } ex _ E _ (.ref (hh.objs.size + 1) :: vs) (B.ok.around B.ok.hand) (rm.make D vs) rfl (R₄.around _) (.cons rfl hx)
  refine codeAny_mono fc fun r s' z => ?_
  cases r with
  | error e => exact z
  | ok fl =>
    cases fl with
    | ret v =>
      obtain ⟨av, hp', hv, R', e1, hK⟩ := z
      subst e1
      exact ⟨vabs_none hv, .ref (hh.objs.size + 1), _, rfl, R'.around C.A, hK⟩
    | _ => exact z.elim
end
end Mine
end
section
open PySem PySem.W PySem.Calls PyProof.Rows
set_option Elab.async false
set_option linter.unusedVariables false
set_option maxRecDepth 100000
namespace Mine
variable {prog : Program} {w : World}
section
variable {G : Gl} {C : Cx} {scope : Scope} {st : St} {ex : Addr → Option Obj} {s : Shared}
theorem ex_while {test : Expr} {body orelse : List Stmt} {p : Pos} {K : AFlow → St → Prop} (I : Nat → St → Prop) (n : Nat) (h0 : I n st)
    (hs : ∀ n st, I n st → Tr prog w G C test st fun b st₁ => if b = true then Exs prog w G C body st₁ fun f st₂ => match f with | .next => ∃ m, m < n ∧ I m st₂ | .cont => ∃ m, m < n ∧ I m st₂ | .brk => K .next st₂ | .ret v => K (.ret v) st₂
      else Exs prog w G C orelse st₁ K) : Ex prog w G C (.While test body orelse p) st K := .mk fun ex s E R => by
  refine wpAny_While (codeAny_whileLoop (fun n s => ∃ st, I n st ∧ Real prog w G C ex st s) ?_ n ⟨st, h0, R⟩)
  rintro n s ⟨st, hI, R⟩
  refine wpAny_mono ((hs n st hI).run ex s _ R) (fun b s₁ hq130 => ?_) fun _ _ x => x
  obtain ⟨st₁, R₁, h₁⟩ := hq130
  cases b with
  | true =>
    simp only [if_true] at h₁ ⊢
    refine wpAny_mono (h₁.run ex s₁ _ R₁) (fun f s₂ hq131 => ?_) fun _ _ x => x
    refine hide fun Pz hPz => ?_
    obtain ⟨af, st₂, hf, R₂, h₂⟩ := hq131
    refine hPz ?_
    clear hPz Pz
    cases f with
    | next => cases hf; obtain ⟨m, hm, hI'⟩ := h₂; exact ⟨m, hm, st₂, hI', R₂⟩
    | cont => cases hf; obtain ⟨m, hm, hI'⟩ := h₂; exact ⟨m, hm, st₂, hI', R₂⟩
    | brk => cases hf; exact ⟨.next, st₂, rfl, R₂, h₂⟩
    | ret v =>
      obtain ⟨av, hv, rfl⟩ := Option.map_eq_some_iff.mp hf
      exact ⟨.ret av, st₂, hf, R₂, h₂⟩
  | false =>
    simp only [Bool.false_eq_true, if_false] at h₁ ⊢
    exact wpAny_mono (h₁.run ex s₁ _ R₁) (fun f s₂ h₂ => h₂) fun _ _ x => x
theorem tr_true {k : Nat} {p : Pos} {K : Bool → St → Prop} (h : K true st) : Tr prog w G C (.Constant (.bool true) k p) st K := tr_v (ev_bool ⟨true, .bool, h⟩)
theorem mapSeq_list (f : Array Value → Array Value) (vs : Array Value) (n : Nat) : ∃ n', Obj.mapSeq f (listO vs n) = listO (f vs) n' := ⟨_, rfl⟩
theorem ev_pop {ap p : Pos} {o : Expr} {K : AV → St → Prop} (h : Ev prog w G C o st fun v st₁ => E3 fun l xs y => A4 (v = .ref l) (st₁.hp l = some (.list (xs ++ [y]))) (xs.length ≤ 999) (K y (st₁.put l (.list xs))))
    (hbase : autoParam (attributeBase o "pop" C.env (eval o C.env) = eval o C.env) tRfl) (hline : autoParam ((ap.endLine == p.line) = true) tRfl) : Ev prog w G C (.Call (.Attribute o (Str.ofString "pop") ap) [] [] p) st K := .mk fun ex s E R => by
  refine meth_of F.plainAttrs_list F.slot_list_pop F.type_list_pop rfl (by decide) hbase hline (wpAny_mono (h.run ex s E R) (fun v s₁ hq132 => ?_) fun _ _ x => x)
  refine hide fun Pz hPz => ?_; (rcases hq132 with ⟨a, st₁, hv, R₁, l, xs, y, ea, el, hlen, h₁⟩) <;> (refine hPz ?_; clear hPz Pz)
  subst ea; rw [vabs_ref hv]
  obtain ⟨vs, n, hl, hab⟩ := R₁.listE el
  have hz : vs.size = xs.length + 1 := by have := hab.length; simpa using this
  obtain ⟨u, hu1, hu2⟩ := hab.get (i := xs.length) (x := y) (by simp)
  have hu : vs[vs.size - 1]? = some u := by rw [hz, Nat.add_sub_cancel, ← Array.getElem?_toList]; exact hu1
  refine ⟨⟨_, hl, rfl⟩, R₁.listNo el, wpAny_items_nil ?_⟩
  refine call_meets F.slot_list_pop ⟨_, hl, rfl⟩ F.entry_list_pop (F.args_list_pop_1 _) (MeetsSeq.list_pop_last l vs n u hu (by rw [sizeLine_eq]; lia)) ⟨hl, ⟨y, _, hu2, ?_, h₁⟩⟩
  obtain ⟨n', hset⟩ := mapSeq_list (fun xs => xs.eraseIdxIfInBounds (vs.size - 1)) vs n
  refine R₁.upd el (s' := { s₁ with heap := s₁.heap.update l _ }) (fun c o' q z => (Heap.get?_update_other _ _ (Ne.symm q)).trans z) (by rw [Heap.get?_update_self _ hl (by rw [hset]; rfl), hset]) ⟨_, _, rfl, ?_⟩ R₁.gens rfl
  unfold Absl at *
  rw [hz, Nat.add_sub_cancel]
  have e1 : (vs.eraseIdxIfInBounds xs.length).toList = vs.toList.take xs.length := by
    rw [Array.toList_eraseIdxIfInBounds, List.eraseIdx_eq_take_drop_succ, List.drop_of_length_le (by simp [hz]), List.append_nil]
  rw [e1, List.map_take, hab]
  simp
theorem do_clear (B : Blk C scope) {ap p q : Pos} {o : Expr} {K : AFlow → St → Prop} (h : Ev prog w G C o st fun v st₁ => E2 fun l xs => A4 (v = .ref l) (st₁.hp l = some (.list xs)) (xs.length ≤ 1000) (K .next (st₁.put l (.list []))))
    (hbase : autoParam (attributeBase o "clear" C.env (eval o C.env) = eval o C.env) tRfl) (hline : autoParam ((ap.endLine == p.line) = true) tRfl) : Ex prog w G C (.Expr (.Call (.Attribute o (Str.ofString "clear") ap) [] [] p) q) st K := do_e B <| .mk fun ex s E R => by
  refine meth_of F.plainAttrs_list F.slot_list_clear F.type_list_clear rfl (by decide) hbase hline (wpAny_mono (h.run ex s E R) (fun v s₁ hq133 => ?_) fun _ _ x => x)
  refine hide fun Pz hPz => ?_; (rcases hq133 with ⟨a, st₁, hv, R₁, l, xs, ea, el, hlen, h₁⟩) <;> (refine hPz ?_; clear hPz Pz)
  subst ea; rw [vabs_ref hv]
  obtain ⟨vs, n, hl, hab⟩ := R₁.listE el
  have hz : vs.size = xs.length := by have := hab.length; simpa using this
  refine ⟨⟨_, hl, rfl⟩, R₁.listNo el, wpAny_items_nil ?_⟩
  refine call_meets F.slot_list_clear ⟨_, hl, rfl⟩ F.entry_list_clear (F.args_list_clear_1 _) (AutoSeq1.list_clear_list_0 l vs n (by rw [sizeLine_eq]; lia)) ⟨hl, ⟨.none, _, rfl, ?_, h₁⟩⟩
  obtain ⟨n', hset⟩ := mapSeq_list (fun _ => #[]) vs n
  exact R₁.upd el (s' := { s₁ with heap := s₁.heap.update l _ }) (fun c o' q z => (Heap.get?_update_other _ _ (Ne.symm q)).trans z) (by rw [Heap.get?_update_self _ hl (by rw [hset]; rfl), hset]) ⟨_, _, rfl, .nil⟩ R₁.gens rfl
theorem countP_strs (k : Str) : ∀ {vs : List Value} {ss : List Str}, StrsAre vs ss → vs.countP (fun y => match y with | .str x _ => decide (x = k) | _ => false) = ss.count k := by
  intro vs ss h
  induction h with
  | nil => rfl
  | cons x t _ ih =>
    rw [List.countP_cons, List.count_cons, ih]
    by_cases q : x = k <;> simp [q]
theorem EqGives_str (x y : Str) (t u : Tok) : MeetsSeq.EqGives (.str x t) (.str y u) (decide (x = y)) := fun _ _ _ _ _ _ h => wpAny_eqBool_str h
theorem ev_count {ap p : Pos} {o x : Expr} {K : AV → St → Prop} (h : Ev prog w G C o st fun v st₁ => ∃ l, A3 (v = .ref l) (∃ xs₀, st₁.hp l = some (.list xs₀)) (Ev prog w G C x st₁ fun y st₂ => E2 fun (ss : List Str) (k : Str) => A3 (y = .str k) (st₂.hp l = some (.list (ss.map .str))) (K (.int (ss.count k : Nat)) st₂)))
    (hp : autoParam (plainE x = true) tRfl) (hbase : autoParam (attributeBase o "count" C.env (eval o C.env) = eval o C.env) tRfl) (hline : autoParam ((ap.endLine == p.line) = true) tRfl) : Ev prog w G C (.Call (.Attribute o (Str.ofString "count") ap) [x] [] p) st K := .mk fun ex s E R => by
  refine meth_of F.plainAttrs_list F.slot_list_count F.type_list_count (by simp [hp]) (by simp) hbase hline (wpAny_mono (h.run ex s E R) (fun v s₁ hq134 => ?_) fun _ _ x => x)
  refine hide fun Pz hPz => ?_
  obtain ⟨a, st₁, hv, R₁, l, ea, ⟨xs₀, el⟩, h₁⟩ := hq134
  refine hPz ?_
  clear hPz Pz
  subst ea; rw [vabs_ref hv]
  obtain ⟨vs₀, n₀, hl₀, _⟩ := R₁.listE el
  refine ⟨⟨_, hl₀, rfl⟩, R₁.listNo el, wpAny_items_cons (wpAny_mono (h₁.run ex s₁ E R₁) (fun y s₂ hy24 => ?_) fun _ _ x => x) (star_plain hp _)⟩
  refine hide fun Pz hPz => ?_
  obtain ⟨yv, st₂, hy, R₂, ss, k, ey, el₂, h₂⟩ := hy24
  refine hPz ?_
  clear hPz Pz
  refine wpAny_items_nil ?_
  subst ey
  obtain ⟨t, rfl⟩ := vabs_str hy
  obtain ⟨vs, n, hl, hab⟩ := R₂.listE el₂
  refine call_meets F.slot_list_count ⟨_, hl, rfl⟩ F.entry_list_count (F.args_list_count_2 _ _) (MeetsSeq.list_count l vs n (.str k t) (fun y => match y with | .str x _ => decide (x = k) | _ => false) fun y hy => ?_) ⟨hl, ⟨.int (ss.count k : Nat), st₂, ?_, R₂.toks _, h₂⟩⟩
  · refine hide fun Pz hPz => ?_
    obtain ⟨j, hj⟩ := List.getElem?_of_mem (Array.mem_toList_iff.mpr hy)
    obtain ⟨x, hx, hv'⟩ := hab.get' hj
    refine hPz ?_
    clear hPz Pz
    rw [List.getElem?_map] at hx
    obtain ⟨i, _, rfl⟩ := Option.map_eq_some_iff.mp hx
    obtain ⟨u, rfl⟩ := vabs_str hv'
    exact EqGives_str i k u t
  · rw [countP_strs k hab.strs]; rfl
theorem Real.setOf (R : Real prog w G C ex st s) {a : Addr} {xs : List Str} (e : st.hp a = some (.set xs)) (hl : xs.length ≤ 100) : s.heap.SetOf (strKind prog w) a (fun k => decide (k ∈ xs)) xs.length := by
  refine hide fun Pz hPz => ?_; (rcases R.hp _ _ e with ⟨_, _, o, ho, es, ep, t, h1, h2, h3, h4, h5, h6, h7⟩) <;> (refine hPz ?_; clear hPz Pz)
  exact ⟨o, es, ep, t, ho, h1, h2, h3, fun k => by rw [decide_eq_true_eq]; exact h4 k, by rw [h6]; exact Nat.lt_of_le_of_lt hl (by decide), h5, h6⟩
theorem set_is {h : Heap} {a : Addr} {S : Str → Bool} {n : Nat} {xs : List Str} (x : h.SetOf (strKind prog w) a S n) (hS : ∀ k, S k = true ↔ k ∈ xs) (hn : n = xs.length) (hd : xs.Nodup) : ∃ o, h.get? a = some o ∧ (AObj.set xs).is prog w o := by
  refine hide fun Pz hPz => ?_; (rcases x with ⟨o, es, ep, t, ho, h1, h2, h3, h4, h5, h6, h7⟩) <;> (refine hPz ?_; clear hPz Pz)
  exact ⟨o, ho, es, ep, t, h1, h2, h3, fun k => (hS k).symm.trans (h4 k), h6, h7.trans hn, hd⟩
theorem op_in_set {a : Addr} {xs : List Str} {k : Str} {va vi : Value} {K : AV → St → Prop} (hi : vabs vi = some (.str k)) (ha : vabs va = some (.ref a)) (e : st.hp a = some (.set xs)) (hl : xs.length ≤ 100) (h : K (.bool (decide (k ∈ xs))) st) : Op prog w G C (compareOp .In vi va) st K := .mk fun ex s E R => by
  rw [vabs_ref ha]
  have hS := R.setOf e hl
  obtain ⟨t, rfl⟩ := vabs_str hi
  exact wpAny_inSet_of (strKey (prog := prog) (w := w) hi) rfl hS ⟨_, st, rfl, R.toks _, h⟩
theorem tr_in_s {l r : Expr} {p : Pos} {K : Bool → St → Prop} (h : Ev prog w G C l st fun a st₁ => Ev prog w G C r st₁ fun b st₂ => E3 fun k d xs => A5 (a = .str k) (b = .ref d) (st₂.hp d = some (.set xs)) (xs.length ≤ 100) (K (decide (k ∈ xs)) st₂)) (hm : autoParam (behindInMarks .In r = false) tRfl) : Tr prog w G C (.Compare l [.In] [r] p) st K :=
  tr_cmp (Ev.mono h fun a st₁ h₁ => Ev.mono h₁ fun b st₂ hq136 va vb ha hb => by obtain ⟨k, d, xs, e1, e2, el, hl, h₂⟩ := hq136; subst e1 e2; exact op_in_set ha hb el hl ⟨_, rfl, h₂⟩) hm
theorem op_set0 {K : AV → St → Prop} (h : ∀ a, st.hp a = none → K (.ref a) (st.put a (.set []))) : Op prog w G C (call (.type "set") []) st K := .mk fun ex s E R => by
  refine call_set_0 fun led => ?_
  have PP := R.push (o := { cls := .type "set", dict := none, data := .set #[] 0 (.fresh 0 0 led) }) rfl (A := .set []) ⟨#[], 0, .fresh 0 0 led, ⟨rfl, rfl, rfl⟩, rfl, (fun _ hm => by simp at hm), fun k => by simp, rfl, rfl, .nil⟩ s.toks
  exact ⟨_, _, rfl, PP.2, h _ PP.1⟩
theorem do_add (B : Blk C scope) {ap p q : Pos} {o x : Expr} {K : AFlow → St → Prop} (h : Ev prog w G C o st fun v st₁ => E2 fun l xs₀ => A4 (v = .ref l) (st₁.hp l = some (.set xs₀)) (xs₀.length ≤ 100) (Ev prog w G C x st₁ fun y st₂ => E2 fun xs k => A5 (y = .str k) (st₂.hp l = some (.set xs)) (xs.length ≤ 90) (k ∉ xs) (K .next (st₂.put l (.set (xs ++ [k]))))))
    (hp : autoParam (plainE x = true) tRfl) (hbase : autoParam (attributeBase o "add" C.env (eval o C.env) = eval o C.env) tRfl) (hline : autoParam ((ap.endLine == p.line) = true) tRfl) : Ex prog w G C (.Expr (.Call (.Attribute o (Str.ofString "add") ap) [x] [] p) q) st K := do_e B <| .mk fun ex s E R => by
  refine meth_of F.plainAttrs_set F.slot_set_add F.type_set_add (by simp [hp]) (by simp) hbase hline (wpAny_mono (h.run ex s E R) (fun v s₁ hq137 => ?_) fun _ _ x => x)
  refine hide fun Pz hPz => ?_; (rcases hq137 with ⟨a, st₁, hv, R₁, l, xs₀, ea, el, hl₀, h₁⟩) <;> (refine hPz ?_; clear hPz Pz)
  subst ea; rw [vabs_ref hv]
  have hS₀ := R₁.setOf el hl₀
  refine ⟨hS₀.typeIs, hS₀.noDict, wpAny_items_cons (wpAny_mono (h₁.run ex s₁ E R₁) (fun y s₂ hy25 => ?_) fun _ _ x => x) (star_plain hp _)⟩
  refine hide fun Pz hPz => ?_; (rcases hy25 with ⟨yv, st₂, hy, R₂, xs, k, ey, el₂, hlen, hk, h₂⟩) <;> (refine hPz ?_; clear hPz Pz)
  refine wpAny_items_nil ?_
  subst ey
  have hS := R₂.setOf el₂ (Nat.le_trans ‹_› (by decide))
  have hkey := strKey (prog := prog) (w := w) hy
  obtain ⟨t, rfl⟩ := vabs_str hy
  refine call_set_add hkey rfl hS (Nat.lt_of_le_of_lt (Nat.succ_le_succ hlen) (by decide)) fun h' hs hS' => ⟨.none, _, rfl, ?_, h₂⟩
  have hkf : decide (k ∈ xs) = false := by simp [hk]
  obtain ⟨o', ho', hA⟩ := set_is (xs := xs ++ [k]) hS' (fun k' => by simp) (by rw [if_neg (by simp [hk])]; simp) (by
    have nd : xs.Nodup := by
      refine hide fun Pz hPz => ?_; (rcases R₂.hp _ _ el₂ with ⟨_, _, _, _, _, _, _, _, _, _, _, _, _, hn⟩) <;> (refine hPz ?_; clear hPz Pz)
      exact hn
    rw [List.nodup_append]
    exact ⟨nd, by simp, fun a ha b hb => by simp at hb; rw [hb]; intro q; exact hk (q ▸ ha)⟩)
  exact R₂.upd el₂ (s' := { s₂ with heap := h', toks := s₂.toks + 1 }) (fun c o' q z => (hs.2 c q).trans z) ho' hA R₂.gens rfl
end
end Mine
end
section
open PySem PySem.W PySem.Calls PyProof.Rows
set_option Elab.async false
set_option linter.unusedVariables false
set_option maxRecDepth 100000
namespace Mine
variable {prog : Program} {w : World}
section
variable {G : Gl} {C : Cx} {scope : Scope} {st : St} {ex : Addr → Option Obj} {s : Shared}
theorem ev_dget (gk : GOk G) {ap p : Pos} {o x : Expr} {K : AV → St → Prop} (h : Ev prog w G C o st fun v st₁ => E3 fun l es ep => A3 (v = .ref l) (st₁.hp l = some (.dict es ep)) (Ev prog w G C x st₁ fun y st₂ => ∃ k, A3 (y = .str k) (st₂.hp l = some (.dict es ep)) (K ((aget es k).getD .none) st₂)))
    (hp : autoParam (plainE x = true) tRfl) (hbase : autoParam (attributeBase o "get" C.env (eval o C.env) = eval o C.env) tRfl) (hline : autoParam ((ap.endLine == p.line) = true) tRfl) : Ev prog w G C (.Call (.Attribute o (Str.ofString "get") ap) [x] [] p) st K := .mk fun ex s E R => by
  refine meth_of F.plainAttrs_dict F.slot_dict_get F.type_dict_get (by simp [hp]) (by simp) hbase hline (wpAny_mono (h.run ex s E R) (fun v s₁ hq139 => ?_) fun _ _ x => x)
  refine hide fun Pz hPz => ?_; (rcases hq139 with ⟨a, st₁, hv, R₁, l, es, ep, ea, el, h₁⟩) <;> (refine hPz ?_; clear hPz Pz)
  subst ea; rw [vabs_ref hv]
  obtain ⟨kvs₀, hl₀, _⟩ := R₁.dict el
  refine ⟨hl₀.dictOf.typeIs, R₁.dictNo el, wpAny_items_cons (wpAny_mono (h₁.run ex s₁ E R₁) (fun y s₂ hy26 => ?_) fun _ _ x => x) (star_plain hp _)⟩
  obtain ⟨yv, st₂, hy, R₂, k, ey, el₂, h₂⟩ := hy26
  refine wpAny_items_nil ?_
  subst ey
  obtain ⟨kvs, hl, hab⟩ := R₂.dict el₂
  refine call_meetsIn F.slot_dict_get hl.dictOf.typeIs F.entry_dict_get (F.args_dict_get_2 _ _) (meets_dict_get (strKind prog w) l (strKey (prog := prog) (w := w) hy) (noSys R₂ gk.sys el₂)) ⟨_, hl.dictOf.mapOf, ?_⟩
  have q := hab.valueAt k
  refine ⟨(aget es k).getD .none, st₂, ?_, R₂.toks _, h₂⟩
  cases z : valueAt kvs k with
  | none =>
    rw [z] at q
    cases z' : aget es k with
    | none => rfl
    | some a => rw [z'] at q; cases q
  | some u =>
    rw [z] at q
    cases z' : aget es k with
    | none => rw [z'] at q; cases q
    | some a => rw [z'] at q; simpa using q
theorem ev_walrus (B : Blk C scope) (i : Nat) {x : Str} {p q : Pos} {e : Expr} {K : AV → St → Prop} (h : Ev prog w G C e st fun v st₁ => K v (st₁.set i v)) (hx : autoParam (C.ns i = x) tRfl) (hN : autoParam (i < C.N) tLe) (hi : autoParam (locB scope (C.ns i) = true) tRfl) : Ev prog w G C (.NamedExpr (.Name x p) e q) st K := .mk fun ex s E R => by
  subst hx
  exact wpAny_NamedExpr (wpAny_mono (h.run ex s E R) (fun v s₁ hq141 => by obtain ⟨a, st₁, hv, R₁, h₁⟩ := hq141; exact assign_name B.ok (B.stoB hN hi) R₁ hv fun s' R' _ => ⟨a, _, hv, R', h₁⟩) fun _ _ x => x)
noncomputable def adel (es : List (Str × AV)) (k : Str) : List (Str × AV) := es.filter fun p => decide (p.1 ≠ k)
theorem KvA.without : ∀ {kvs : List (Str × Value)} {es : List (Str × AV)} (h : KvA kvs es) (k : Str), KvA (without kvs k) (adel es k) := by
  intro kvs
  induction kvs with
  | nil =>
    intro es h k
    cases es with | nil => rfl | cons _ _ => cases h
  | cons p r ih =>
    intro es h k
    obtain ⟨x, es', rfl, hx, h'⟩ := h.cons_inv
    have ih := ih h' k
    unfold PySem.without adel KvA at *
    by_cases q : p.1 = k
    · simp only [List.filter_cons, q, ne_eq, not_true_eq_false, decide_false, Bool.false_eq_true, if_false]; exact ih
    · simp only [List.filter_cons, q, ne_eq, not_false_eq_true, decide_true, if_true, List.map_cons, hx]; rw [ih]
theorem ex_del_d {o i : Expr} {p q : Pos} {K : AFlow → St → Prop} (h : Ev prog w G C o st fun a st₁ => Ev prog w G C i st₁ fun b st₂ => E4 fun d es ep k => A6 (a = .ref d) (b = .str k) (st₂.hp d = some (.dict es ep)) ((aget es k).isSome = true) (es.length ≤ 1000) (∀ ep', K .next (st₂.put d (.dict (adel es k) ep')))) : Ex prog w G C (.Delete [.Subscript o i p] q) st K := .mk fun ex s E R => by
  refine wpAny_Delete (wpAny_deleteEach_cons (delete_Subscript (wpAny_mono (h.run ex s E R) (fun va s₁ hy27 => ?_) fun _ _ x => x)))
  obtain ⟨a, st₁, ha, R₁, h₁⟩ := hy27
  refine wpAny_mono (h₁.run ex s₁ E R₁) (fun vb s₂ hq143 => ?_) fun _ _ x => x
  refine hide fun Pz hPz => ?_; (rcases hq143 with ⟨b, st₂, hb, R₂, d, es, ep, k, e1, e2, el, hk, hl, h₂⟩) <;> (refine hPz ?_; clear hPz Pz)
  subst e1 e2; rw [vabs_ref ha]
  obtain ⟨kvs, hv, hab⟩ := R₂.dict el
  refine wpAny_delItem_slot (T := "dict") hv.dictOf.typeIs (by decide +kernel) F.slot_dict_delitem (call_meetsIn F.slot_dict_delitem hv.dictOf.typeIs F.entry_dict_delitem (F.args_dict_delitem_2 _ _) (meets_dict_delitem_pairs (strKind prog w) d (strKey (prog := prog) (w := w) hb)) ⟨kvs, hv.dictOf, by rw [hab.length, sizeLine_eq]; exact Nat.le_trans ‹_› (by decide), by rw [aget_isSome hab]; exact hk, fun h' hd hs => ?_⟩)
  obtain ⟨ep', hd'⟩ := hd.dictAt
  obtain ⟨o', ho', hA⟩ := dict_is hd' (hab.without k)
  exact wpAny_deleteEach_nil ⟨.next, _, rfl, R₂.upd el (s' := { s₂ with heap := h', toks := s₂.toks + 1 }) (fun c o' q z => (hs.2 c q).trans z) ho' hA R₂.gens rfl, h₂ ep'⟩
end
end Mine
end
section
open PySem PySem.W PySem.Calls PyProof.Rows
set_option Elab.async false
set_option linter.unusedVariables false
set_option maxRecDepth 100000
namespace Mine
variable {prog : Program} {w : World}
section
variable {G : Gl} {C : Cx} {scope : Scope} {st : St} {ex : Addr → Option Obj} {s : Shared}
noncomputable def slotPut (sl : List (Option AV)) (i : Nat) (a : AV) : List (Option AV) := (sl ++ List.replicate (i + 1 - sl.length) none).set i (some a)
inductive SlotC (G : Gl) (name : Str) (K : AV → St → Prop) (a : AV) (st : St) : Prop
  | mk (x D dx q : Addr) (i : Nat) (sl : List (Option AV)) (es : List (Str × AV)) (v : AV) (e1 : a = .ref x) (hx : st.hp x = some (.node D dx sl)) (hd : st.hp dx = some (.attrs es)) (hb : slotB G.K D q i name = true) (hv : sl[i]? = some (some v)) (h : K v st)
theorem ev_slot (gk : GOk G) {o : Expr} {name : Str} {p : Pos} {K : AV → St → Prop} (h : Ev prog w G C o st (SlotC G name K))
    (hbase : autoParam (attributeBase o name C.env (eval o C.env) = eval o C.env) tRfl) : Ev prog w G C (.Attribute o name p) st K :=
  ev_get (Ev.mono h fun a st₁ hq144 va ha => by refine hide fun Pz hPz => ?_; (rcases hq144 with ⟨x, D, dx, q, i, sl, es, v, e1, hx, hd, hb, hv, h₁⟩) <;> (refine hPz ?_; clear hPz Pz); subst e1; exact op_slot gk ha hx hd hv hb h₁) hbase
inductive SetSC (G : Gl) (name : Str) (K : AFlow → St → Prop) (v a : AV) (st : St) : Prop
  | mk (x D dx r : Addr) (i : Nat) (sl : List (Option AV)) (es : List (Str × AV)) (e1 : a = .ref x) (hx : st.hp x = some (.node D dx sl)) (hd : st.hp dx = some (.attrs es)) (hb : slotSetB G.K D r i name = true) (hi : i < 1000) (h : K .next (st.put x (.node D dx (slotPut sl i v))))
noncomputable def setS1 (prog : Program) (w : World) (G : Gl) (C : Cx) (o : Expr) (name : Str) (K : AFlow → St → Prop) : AV → St → Prop := fun v st₁ => Ev prog w G C o st₁ (SetSC G name K v)
theorem set_slot_e (gk : GOk G) {o e : Expr} {name : Str} {p q : Pos} {K : AFlow → St → Prop} (h : Ev prog w G C e st (setS1 prog w G C o name K))
    (hs : autoParam (swapsWith e (some (.Attribute o name p)) q.line C.env = pure false) tRfl) : Ex prog w G C (.Assign [.Attribute o name p] e q) st K := .mk fun ex s E R => by
  refine plainObj_wpAny_Assign_Attribute (wpAny_mono (h.run ex s E R) (fun vv s₁ hy28 => ?_) fun _ _ x => x) hs
  obtain ⟨v, st₁, hv, R₁, h₁⟩ := hy28
  refine wpAny_mono (h₁.run ex s₁ E R₁) (fun va s₂ hq146 => ?_) fun _ _ x => x
  refine hide fun Pz hPz => ?_; (rcases hq146 with ⟨a, st₂, ha, R₂, x, D, dx, r, i, sl, es, e1, hx, hd, hb, hi, h₂⟩) <;> (refine hPz ?_; clear hPz Pz)
  subst e1
  exact wpAny_mono ((op_setslot (K := K .next) gk ha hv hx hd hb hi h₂).run ex s₂ E R₂) (fun _ s₃ hq147 => by obtain ⟨st₃, R₃, h₃⟩ := hq147; exact ⟨.next, st₃, rfl, R₃, h₃⟩) fun _ _ x => x
theorem aug_slot (gk : GOk G) {o e : Expr} {name : Str} {op : Operator} {p q : Pos} {K : AFlow → St → Prop} (hop : op = .Add ∨ op = .Sub)
    (h : Ev prog w G C o st fun a st₁ => E8 fun x D dx r i sl es m => A8 (a = .ref x) (st₁.hp x = some (.node D dx sl)) (st₁.hp dx = some (.attrs es)) (slotB G.K D r i name = true) (slotSetB G.K D r i name = true) (i < 1000) (sl[i]? = some (some (.int m))) (Ev prog w G C e st₁ fun y st₂ => ∃ n, A4 (y = .int n) (st₂.hp x = some (.node D dx sl)) (st₂.hp dx = some (.attrs es)) (K .next (st₂.put x (.node D dx (slotPut sl i (.int (if op = .Add then m + n else m - n)))))))) : Ex prog w G C (.AugAssign (.Attribute o name p) op e q) st K := .mk fun ex s E R => by
  refine wpAny_AugAssign_AttributeAny (wpAny_mono (h.run ex s E R) (fun va s₁ hq148 => ?_) fun _ _ x => x)
  refine hide fun Pz hPz => ?_; (rcases hq148 with ⟨a, st₁, ha, R₁, x, D, dx, r, i, sl, es, m, e1, hx, hd, hb, hb', hi, hv, h₁⟩) <;> (refine hPz ?_; clear hPz Pz)
  subst e1
  refine wpAny_mono ((op_slot (K := fun v st' => v = .int m ∧ st' = st₁) gk ha hx hd hv hb ⟨rfl, rfl⟩).run ex s₁ E R₁) (fun old s₂ hq149 => ?_) fun _ _ x => x
  obtain ⟨ov, st₂, ho, R₂, q1, q2⟩ := hq149
  subst q1 q2
  refine wpAny_mono (h₁.run ex s₂ E R₂) (fun vy s₃ hq150 => ?_) fun _ _ x => x
  obtain ⟨y, st₃, hy, R₃, n, q3, hx', hd', h₃⟩ := hq150
  subst q3
  obtain ⟨t, rfl⟩ := vabs_int ho
  obtain ⟨u, rfl⟩ := vabs_int hy
  have fin : ∀ r' : Int, r' = (if op = .Add then m + n else m - n) → wpAny (model prog w) C.A (setAttr va name (.int r' s₃.toks)) (fun _ s' => E2 fun af st' => A3 (fabs .next = some af) (Real prog w G C ex st' s') (K af st')) E { s₃ with toks := s₃.toks + 1 } := fun r' hr => by
    subst hr
    exact wpAny_mono ((op_setslot (K := K .next) (a := .int (if op = .Add then m + n else m - n)) gk ha rfl hx' hd' hb' hi h₃).run ex _ E (R₃.toks _)) (fun _ s₄ hq151 => by obtain ⟨st₄, R₄, h₄⟩ := hq151; exact ⟨.next, st₄, rfl, R₄, h₄⟩) fun _ _ x => x
  rcases hop with rfl | rfl
  · exact wpAny_iadd_int (fin (m + n) rfl)
  · exact PyProof.Rows.isub_int (fin (m - n) rfl)
end
end Mine
end
section
open PySem PySem.W PySem.Calls PyProof.Rows
set_option Elab.async false
set_option linter.unusedVariables false
set_option maxRecDepth 100000
namespace Mine
variable {prog : Program} {w : World}
section
variable {G : Gl} {C : Cx} {scope : Scope} {st : St} {ex : Addr → Option Obj} {s : Shared}
inductive Stars (st : St) : AV → List AV → Prop
  | tup {t xs} : st.hp t = some (.tup xs) → xs.length ≤ 1000 → Stars st (.ref t) xs
  | dict {d es ep} : st.hp d = some (.dict es ep) → es.length ≤ 1000 → Stars st (.ref d) (es.map fun p => .str p.1)
theorem star_of (gk : GOk G) (ok : COk C) (R : Real prog w G C ex st s) {v : Value} {a : AV} {xs : List AV} (hv : vabs v = some a) (hs : Stars st a xs) {E : Value → Shared → Prop} {Q : List Value → Shared → Prop} (h : ∀ vs s', Absl vs xs → Real prog w G C ex st s' → Q vs s') : StarOf (model prog w) C.A E v Q s := by
  cases hs with
  | @tup t xs e hl =>
    rw [vabs_ref hv]
    obtain ⟨vs, n, o, ho, hc, hd, hab⟩ := R.tupE e
    have hz : vs.size = xs.length := by have := hab.length; simpa using this
    unfold StarOf notIterableAtAll
    exact wpAny_bind (wpAny_specialOf (T := "tuple") ⟨_, ho, hc⟩ PySem.F.slot_tuple_iter.lookup (wpAny_pure ⟨rfl, wpAny_collect_seq t (.inr rfl) ho hc (by simpa using hd) (fun h' hk => h _ _ hab (R.heap (t := s.toks) hk)) (by rw [sizeLine_eq]; lia)⟩))
  | @dict d es ep e hl =>
    rw [vabs_ref hv]
    obtain ⟨kvs, hd, hab⟩ := R.dict e
    unfold StarOf notIterableAtAll
    refine wpAny_bind (wpAny_specialOf hd.dictOf.typeIs PySem.F.slot_dict_iter.lookup (wpAny_pure ⟨rfl, kdu_collect (kdl_dict (knd := strKind prog w) (kvs := kvs) (ep := ep) (noSys R gk.sys e)) ok.hand hd (by rw [hab.length, sizeLine_eq]; exact Nat.le_trans ‹_› (by decide)) fun h' tk acc hk hacc => h _ _ ?_ (R.heap hk)⟩))
    obtain ⟨hsz, hits⟩ := hacc
    unfold Absl
    apply List.ext_getElem?
    intro j
    rw [List.getElem?_map, List.getElem?_map, List.getElem?_map, Array.getElem?_toList]
    cases hj : acc[j]? with
    | none =>
      have hjn : acc.size ≤ j := by simpa using hj
      have h1 : es[j]? = none := by rw [List.getElem?_eq_none]; rw [← hab.length, ← hsz]; exact hjn
      rw [h1]; rfl
    | some u =>
      obtain ⟨k, x, hkv, hk'⟩ := hits j u hj
      obtain ⟨t, rfl⟩ := Value.isStrOf_shape hk'
      have hjl : j < es.length := by rw [← hab.length]; exact (List.getElem?_eq_some_iff.mp hkv).1
      obtain ⟨u', hu1, _⟩ := hab.get (i := j) (k := es[j].1) (x := es[j].2) (by simp [hjl])
      rw [hkv] at hu1
      have : k = es[j].1 := (Prod.mk.inj (Option.some.inj hu1)).1
      simp [hjl, this]; rfl
theorem es_star (gk : GOk G) (B : Blk C scope) {d : Expr} {p : Pos} {K : List AV → St → Prop} (h : Ev prog w G C d st fun v st₁ => ∃ xs, Stars st₁ v xs ∧ K xs st₁) : Es prog w G C [.Starred d p] st K := .mk fun pos ex s E R =>
  items_star (wpAny_mono (h.run ex s E R) (fun v s₁ hq152 => by obtain ⟨a, st₁, hv, R₁, xs, hx, h₁⟩ := hq152; exact star_of gk B.ok R₁ hv hx fun vs s' hvs R' => wpAny_items_nil ⟨xs, st₁, by rw [List.append_nil]; exact hvs, R', h₁⟩) fun _ _ x => x)
end
end Mine
end
section
open PySem PySem.W PySem.Calls PyProof.Rows
set_option Elab.async false
set_option linter.unusedVariables false
set_option maxRecDepth 100000
namespace Mine
variable {prog : Program} {w : World}
section
variable {G : Gl} {C : Cx} {scope : Scope} {st : St} {ex : Addr → Option Obj} {s : Shared}
end
end Mine
end
section
open PySem PySem.W PySem.Calls PyProof.Rows
set_option Elab.async false
set_option linter.unusedVariables false
set_option maxRecDepth 100000
namespace Mine
variable {prog : Program} {w : World}
section
variable {G : Gl} {C : Cx} {scope : Scope} {st : St} {ex : Addr → Option Obj} {s : Shared}
theorem assign_sub {A : Around} {env : Env} {o i : Expr} {pos : Pos} {v : Value} {Q : Unit → Shared → Prop} {E : Value → Shared → Prop} (h : wpAny (model prog w) A (eval o env) (fun ov s₁ => wpAny (model prog w) A (eval i env) (fun iv s₂ => wpAny (model prog w) A (setItem ov iv v) Q E s₂) E s₁) E s) : wpAny (model prog w) A (assign (.Subscript o i pos) env v) Q E s := by
  rw [arm_assign_Subscript]
  exact wpAny_bind (wpAny_holding (wpAny_mono h (fun ov s₁ h₁ => wpAny_bind (wpAny_holding (wpAny_mono h₁ (fun iv s₂ h₂ => wpAny_bind (wpAny_standAt (wpAny_bind (wpAny_holding (wpAny_mono h₂ (fun _ s₃ h₃ => wpAny_releaseD h₃) fun _ _ x => x))))) fun _ _ x => x))) fun _ _ x => x))
theorem set_dn (B : Blk C scope) (j : Nat) {x : Str} {o i e : Expr} {p p' q : Pos} {K : AFlow → St → Prop} (h : Ev prog w G C e st fun v st₁ => Ev prog w G C o st₁ fun a st₂ => Ev prog w G C i st₂ fun b st₃ => E4 fun d es ep k => A5 (a = .ref d) (b = .str k) (st₃.hp d = some (.dict es ep)) (es.length ≤ 1000) (∀ ep', K .next ((st₃.put d (.dict (aput es k v) ep')).set j v)))
    (he : autoParam ((assignEach [.Subscript o i p, .Name x p'] C.env).map (·.2) = [assign (.Subscript o i p) C.env, assign (.Name x p') C.env]) tRfl) (hw : autoParam (swappedStores [.Subscript o i p, .Name x p'] e C.env = pure none) tRfl)
    (hx : autoParam (C.ns j = x) tRfl) (hN : autoParam (j < C.N) tLe) (hj : autoParam (locB scope (C.ns j) = true) tRfl) : Ex prog w G C (.Assign [.Subscript o i p, .Name x p'] e q) st K := .mk fun ex s E R => by
  subst hx
  refine wpAny_Assign_two (wpAny_mono (h.run ex s E R) (fun vv s₁ hy29 => ?_) fun _ _ x => x) he hw
  obtain ⟨v, st₁, hv, R₁, h₁⟩ := hy29
  refine assign_sub (wpAny_mono (h₁.run ex s₁ E R₁) (fun va s₂ hy30 => ?_) fun _ _ x => x)
  obtain ⟨a, st₂, ha, R₂, h₂⟩ := hy30
  refine wpAny_mono (h₂.run ex s₂ E R₂) (fun vb s₃ hq161 => ?_) fun _ _ x => x
  refine hide fun Pz hPz => ?_; (rcases hq161 with ⟨b, st₃, hb, R₃, d, es, ep, k, e1, e2, el, hl, h₃⟩) <;> (refine hPz ?_; clear hPz Pz)
  subst e1 e2
  refine wpAny_mono ((op_set_dict (K := fun st' => ∃ ep', st' = st₃.put d (.dict (aput es k v) ep')) ha hb hv el hl (fun ep' => ⟨ep', rfl⟩)).run ex s₃ E R₃) (fun _ s₄ hq162 => ?_) fun _ _ x => x
  obtain ⟨st₄, R₄, ep', e4⟩ := hq162
  subst e4
  exact assign_name B.ok (B.stoB hN hj) R₄ hv fun s' R' _ => ⟨.next, _, rfl, R', h₃ ep'⟩
end
end Mine
end
section
open PySem PySem.W PySem.Calls PyProof.Rows
set_option Elab.async false
set_option linter.unusedVariables false
set_option maxRecDepth 100000
namespace Mine
theorem slot_wd_get : Slot "wrapper_descriptor" "__get__" "wrapper_descriptor.__get__" :=
  .of (owner := "wrapper_descriptor") (n := "__get__") (by rw [typeLookup_type, builtinLookup_eq_fast]; kernel_rfl) (by decide +kernel) (by decide +kernel) (by decide +kernel)
    (by first | exact .inl (by decide +kernel) | exact .inr (by decide +kernel)) (by rw [isSubtype_type]; kernel_rfl)
theorem slot_li_ga : Slot "list_iterator" "__getattribute__" "object.__getattribute__" :=
  .of (owner := "object") (n := "__getattribute__") (by rw [typeLookup_type, builtinLookup_eq_fast]; kernel_rfl) (by decide +kernel) (by decide +kernel) (by decide +kernel)
    (by first | exact .inl (by decide +kernel) | exact .inr (by decide +kernel)) (by rw [isSubtype_type]; kernel_rfl)
theorem entry_wd_get : entryFor table "wrapper_descriptor.__get__" = some Builtin.«wrapper_descriptor.__get__» := entryFor_of_tree (by kernel_rfl)
theorem args_wd_get (a b c : Value) : argsOk "wrapper_descriptor.__get__" ⟨[a, b, c], []⟩ := by unfold argsOk; kernel_rfl
theorem args_obj_ga (a b : Value) : argsOk "object.__getattribute__" ⟨[a, b], []⟩ := by unfold argsOk; kernel_rfl
theorem entry_obj_ga : entryFor table "object.__getattribute__" = some Builtin.«object.__getattribute__» := entryFor_of_tree (by kernel_rfl)
theorem typeOf_li_next : typeOf (.builtin "list_iterator.__next__") = pure (.type "wrapper_descriptor") := by kernel_rfl
theorem wd_noset : typeLookup (.type "wrapper_descriptor") "__set__" = pure none := by rw [typeLookup_type, builtinLookup_eq_fast]; kernel_rfl
theorem wd_nodel : typeLookup (.type "wrapper_descriptor") "__delete__" = pure none := by rw [typeLookup_type, builtinLookup_eq_fast]; kernel_rfl
theorem li_lk : typeLookup (.type "list_iterator") "__next__" = pure (some (.builtin "list_iterator.__next__")) := by rw [typeLookup_type, builtinLookup_eq_fast]; kernel_rfl
theorem li_nog : typeLookup (.type "list_iterator") "__getattr__" = pure none := by rw [typeLookup_type, builtinLookup_eq_fast]; kernel_rfl
theorem owner_li : (".".intercalate ("list_iterator.__next__".cutAt '.').dropLast) = "list_iterator" := by
  have e0 : "list_iterator.__next__".cutAt '.' = ["list_iterator", "__next__"] := by first | rfl | decide +kernel
  rw [e0]; decide +kernel
theorem li_self : isSubtype (.type "list_iterator") (.type "list_iterator") = pure true := by rw [isSubtype_type]; kernel_rfl
abbrev bnO (a : Addr) : Obj := { cls := .type "method-wrapper", data := .fields #[.builtin "list_iterator.__next__", .ref a] }
section
variable {prog : Program} {w : World} {A : Around} {E : Value → Shared → Prop} {h : Heap} {g : Array GenState} {d : Drawn} {t : Nat} {os : OsState} {a : Addr} {o : Obj} {vs : Array Value}
theorem nx_get {R : Result → Shared → Prop} (hx : h.get? a = some o) (hc : o.cls = .type "list_iterator") (hq : R (.ok (.ret (.ref h.objs.size))) ⟨h.push (bnO a), g, d, t, os⟩) :
    codeAny (model prog w) A (.call (.builtin "wrapper_descriptor.__get__") ⟨[.builtin "list_iterator.__next__", .ref a, .type "list_iterator"], []⟩) R ⟨h, g, d, t, os⟩ := by
  have hT : (⟨h, g, d, t, os⟩ : Shared).TypeIs (.ref a) "list_iterator" := ⟨_, hx, hc⟩
  have hT5 : (⟨h, g, d, t, os⟩ : Shared).TypeIs (.builtin "list_iterator.__next__") "wrapper_descriptor" := typeOf_li_next
  have f8 : isSubtype (.type "list_iterator") (.type (".".intercalate ("list_iterator.__next__".cutAt '.').dropLast)) = pure true := by rw [owner_li]; exact li_self
  refine codeAny_call_builtin slot_wd_get.plain entry_wd_get (slot_wd_get.check _ _ _ _ _ _ _ _ hT5 (args_wd_get _ _ _) ?_)
  repeat (any_goals (first | assumption | wp_step))
theorem nx_entry {tk : Tok} {sl : Array (Option Value)} {Q : Fin → Shared → Prop} (hx : h.get? a = some ⟨.type "list_iterator", none, .fields vs, sl⟩) (hq : Q (.done (.ret (.ref h.objs.size))) ⟨h.push (bnO a), g, d, t, os⟩) :
    wpAny (model prog w) A (Builtin.«object.__getattribute__» ⟨[.ref a, .str "__next__" tk], []⟩) Q E ⟨h, g, d, t, os⟩ := by
  have hT : (⟨h, g, d, t, os⟩ : Shared).TypeIs (.ref a) "list_iterator" := ⟨_, hx, rfl⟩
  have hT5 : (⟨h, g, d, t, os⟩ : Shared).TypeIs (.builtin "list_iterator.__next__") "wrapper_descriptor" := typeOf_li_next
  have f4 := li_lk
  have f5 := typeOf_li_next
  have f6 := slot_wd_get.lookup
  have f7 := wd_noset
  have f8 := wd_nodel
  repeat (any_goals (first | assumption | wp_step))
  refine nx_get hx rfl ?_
  repeat (any_goals (first | assumption | wp_step))
theorem nx_call {tk : Tok} {sl : Array (Option Value)} {R : Result → Shared → Prop} (hx : h.get? a = some ⟨.type "list_iterator", none, .fields vs, sl⟩) (hq : R (.ok (.ret (.ref h.objs.size))) ⟨h.push (bnO a), g, d, t, os⟩) :
    codeAny (model prog w) A (.call (.builtin "object.__getattribute__") ⟨[.ref a, .str "__next__" tk], []⟩) R ⟨h, g, d, t, os⟩ :=
  codeAny_call_builtin slot_li_ga.plain entry_obj_ga (slot_li_ga.check _ _ _ _ _ _ _ _ (show (⟨h, g, d, t, os⟩ : Shared).TypeIs (.ref a) "list_iterator" from ⟨_, hx, rfl⟩) (args_obj_ga _ _) (nx_entry hx hq))
theorem nx_by {tk : Tok} {fill expr : Bool} {sl : Array (Option Value)} {Q : Value → Shared → Prop} (hx : h.get? a = some ⟨.type "list_iterator", none, .fields vs, sl⟩) (hq : Q (.ref h.objs.size) ⟨h.push (bnO a), g, d, t, os⟩) :
    wpAny (model prog w) A (getAttrBy (.ref a) (.str "__next__" tk) fill expr) Q E ⟨h, g, d, t, os⟩ := by
  have hT : (⟨h, g, d, t, os⟩ : Shared).TypeIs (.ref a) "list_iterator" := ⟨_, hx, rfl⟩
  have f2 := slot_li_ga.lookup
  have f3 := slot_li_ga.bind (.ref a)
  have f4 := li_nog
  have hx0 : (expr && onTheHeap (Value.builtin "object.__getattribute__")) = false := by cases expr <;> rfl
  repeat (any_goals (first | assumption | wp_step))
  refine nx_call hx ?_
  repeat (any_goals (first | assumption | wp_step))
theorem nx_attr {expr : Bool} {sl : Array (Option Value)} {Q : Value → Shared → Prop} (hx : h.get? a = some ⟨.type "list_iterator", none, .fields vs, sl⟩) (hq : Q (.ref h.objs.size) ⟨h.push (bnO a), g, d, t + 1, os⟩) :
    wpAny (model prog w) A (getAttr (.ref a) "__next__" expr) Q E ⟨h, g, d, t, os⟩ := by
  unfold getAttr
  repeat (any_goals (first | assumption | with_reducible apply nx_by hx | wp_step))
end
variable {prog : Program} {w : World}
section
variable {G : Gl} {C : Cx} {scope : Scope} {st : St} {ex : Addr → Option Obj} {s : Shared}
theorem entry_iter : entryFor table "iter" = some Builtin.«iter» := entryFor_of_fast (by kernel_rfl)
theorem args_iter (a : Value) : argsOk "iter" ⟨[a], []⟩ := by unfold argsOk; kernel_rfl
theorem op_iter {l : Addr} {xs : List AV} {va : Value} {K : AV → St → Prop} (ha : vabs va = some (.ref l)) (e : st.hp l = some (.list xs)) (h : ∀ a, st.hp a = none → K (.ref a) (st.put a (.liter l 0))) : Op prog w G C (call (.builtin "iter") [va]) st K := .mk fun ex s E R => by
  rw [vabs_ref ha]
  obtain ⟨vs, hl, hab⟩ := R.list e
  refine call_function_entry (by decide +kernel) (by decide +kernel) entry_iter (args_iter _) ?_
  unfold Builtin.«iter»
  refine wpAny_bind (m := someArgs "iter" 1 2 _) (wpAny_of_eq (a := [Value.ref l]) (by first | rfl | kernel_rfl!) ?_)
  show wpAny _ _ (pyIter (.ref l) >>= _) _ _ _
  refine wpAny_bind (wpAny_pyIter_list hl ?_)
  have P := R.push (o := { cls := .type "list_iterator", data := .fields #[.ref l, .int 0 0] }) rfl (A := .liter l 0) rfl s.toks
  exact wpAny_pure ⟨_, rfl, _, _, rfl, P.2, h _ P.1⟩
theorem op_next_attr {it l : Addr} {i : Nat} {va : Value} {K : AV → St → Prop} (ha : vabs va = some (.ref it)) (e : st.hp it = some (.liter l i)) (h : ∀ a, st.hp a = none → K (.ref a) (st.put a (.bnext it))) : Op prog w G C (getAttr va "__next__" true) st K := .mk fun ex s E R => by
  rw [vabs_ref ha]
  obtain ⟨_, _, o, ho, hA⟩ := R.hp _ _ e
  have hA' : o = { cls := .type "list_iterator", data := .fields #[.ref l, .int i 0] } := hA
  subst hA'
  have P := R.push (o := bnO it) rfl (A := .bnext it) rfl (s.toks + 1)
  exact nx_attr (sl := #[]) ho ⟨_, _, rfl, P.2, h _ P.1⟩
theorem ev_iter_next (gk : GOk G) (B : Blk C scope) {e : Expr} {np cp p : Pos} {K : AV → St → Prop} (hm : nsIn G.K mainGlobals (Str.ofString "iter") = some none)
    (h : Ev prog w G C e st fun v st₁ => E2 fun l xs => A3 (v = .ref l) (st₁.hp l = some (.list xs)) (∀ it b, st₁.hp it = none → st₁.hp b = none → it ≠ b → K (.ref b) ((st₁.put it (.liter l 0)).put b (.bnext it))))
    (hk : autoParam (gloB scope (Str.ofString "iter") = true) tRfl) (hp : autoParam (plainE e = true) tRfl)
    (hbase : autoParam (attributeBase (.Call (.Name (Str.ofString "iter") np) [e] [] cp) "__next__" C.env (eval (.Call (.Name (Str.ofString "iter") np) [e] [] cp) C.env) = eval (.Call (.Name (Str.ofString "iter") np) [e] [] cp) C.env) tRfl) :
    Ev prog w G C (.Attribute (.Call (.Name (Str.ofString "iter") np) [e] [] cp) (Str.ofString "__next__") p) st K := by
  refine ev_get (ev_bi gk B hm (by rfl) (es_c (Ev.mono h fun v st₁ hy31 => ?_) hp) (by simp [hp]) hk) hbase
  obtain ⟨l, xs, e1, e2, h₁⟩ := hy31
  refine es_nil fun vs hvs => ?_
  subst e1
  obtain ⟨v, rfl, hv⟩ := hvs.one
  refine op_iter hv e2 fun it hit => fun va hva => op_next_attr hva (hset_self _ _ _) fun b hb => ?_
  have hne : b ≠ it := fun q => by
    have : hset st₁.hp it (.liter l 0) b = none := hb
    rw [q, hset_self] at this; cases this
  exact h₁ it b hit (by have : hset st₁.hp it (.liter l 0) b = none := hb; rwa [hset_other _ _ hne] at this) (Ne.symm hne)
end
end Mine
end
section
open PySem PySem.W PySem.Calls PyProof.Rows
set_option Elab.async false
set_option linter.unusedVariables false
set_option maxRecDepth 100000
namespace Mine
variable {prog : Program} {w : World}
noncomputable def hdel (hp : Hp) (a : Addr) : Hp := fun b => if b = a then none else hp b
theorem hdel_other (hp : Hp) {a b : Addr} (h : b ≠ a) : hdel hp a b = hp b := by unfold hdel; rw [if_neg h]
theorem hdel_self (hp : Hp) (a : Addr) : hdel hp a a = none := by unfold hdel; rw [if_pos rfl]
section
variable {G : Gl} {C : Cx} {scope : Scope} {st : St} {ex : Addr → Option Obj} {s : Shared}
theorem Real.forget (R : Real prog w G C ex st s) {a : Addr} {A : AObj} (e : st.hp a = some A) : Real prog w G C ex ⟨st.loc, hdel st.hp a⟩ s ∧ Off G C ex ⟨st.loc, hdel st.hp a⟩ a := by
  refine ⟨⟨R.ns, R.keep, R.base, R.exL, R.exC, fun b A' q => ?_, R.tab, R.gens, R.os, R.cells, fun p hp => ?_⟩, ?_⟩
  · have q' : hdel st.hp a b = some A' := q
    by_cases y : b = a
    · rw [y, hdel_self] at q'; cases q'
    · rw [hdel_other _ y] at q'; exact R.hp b A' q'
  · obtain ⟨a1, a2, a3, a4⟩ := R.frs p hp
    refine ⟨a1, a2, ?_, a4⟩
    show hdel st.hp a p.1 = none
    by_cases y : p.1 = a
    · rw [y, hdel_self]
    · rw [hdel_other _ y]; exact a3
  · refine ⟨(R.hp _ _ e).1, (R.hp _ _ e).2, fun q => ?_, hdel_self _ _, fun q => ?_, fun p hp q => ?_⟩
    · have := R.ownH q; rw [e] at this; cases this
    · have := R.tabH; rw [← q, e] at this; cases this
    · have := (R.frs p hp).3; rw [← q, e] at this; cases this
theorem callWith_bn {A : Around} {E : Value → Shared → Prop} {b it : Addr} {pos : Pos} {Q : Value → Shared → Prop} (hb : s.heap.get? b = some (bnO it)) (h : wpAny (model prog w) A (call (.ref b) []) Q E s) :
    wpAny (model prog w) A (callWith pos (.ref b) [] [] []) Q E s := by
  unfold callWith
  refine wpAny_bind (wpAny_holding (PySem.evalArgs_none ?_))
  refine wpAny_bind (wpAny_standAt ?_)
  refine wpAny_bind (m := keeperOf (.ref b)) ?_
  unfold keeperOf
  refine wpAny_bind (wpAny_load hb ?_)
  refine wpAny_pure ?_
  exact wpAny_bind (wpAny_mono h (fun r s₂ hr => wpAny_bind (wpAny_holding (wpAny_point (wpAny_pure hr)))) fun _ _ x => x)
theorem bn_sig (it : Value) : checkBoundCall "list_iterator.__next__" ⟨[it], []⟩ = (pure () : Sem Unit) := by
  unfold checkBoundCall
  kernel_rfl
theorem bn_call {A : Around} {b it : Addr} {R : Result → Shared → Prop} (hb : s.heap.get? b = some (bnO it)) (h : codeAny (model prog w) A (.builtin "list_iterator.__next__" ⟨[.ref it], []⟩) R s) : codeAny (model prog w) A (.call (.ref b) ⟨[], []⟩) R s := by
  refine codeAny_of_tree ?_
  show wpAny _ A.in1 (load b >>= _) _ _ s
  refine wpAny_bind (wpAny_load hb ?_)
  show wpAny _ _ (checkBoundCall "list_iterator.__next__" ⟨[.ref it], []⟩ >>= fun _ => again (.builtin "list_iterator.__next__" ⟨[.ref it], []⟩)) _ _ s
  rw [bn_sig]
  refine wpAny_bind (wpAny_pure (wpAny_pure ⟨Code.quiet_builtin _ (by decide +kernel), h⟩))
theorem bn_item {A : Around} {E : Value → Shared → Prop} {b it l : Addr} {i : Nat} {items : Array Value} {x : Value} {Q : Value → Shared → Prop} (hb : s.heap.get? b = some (bnO it)) (hit : s.heap.IsListIter it l i) (hl : s.heap.IsList l items) (hx : items[i]? = some x)
    (hQ : ∀ h', h'.get? it = (s.heap.get? it).map (Obj.mapFields (·.setIfInBounds 1 (rawInt (i + 1)))) → Heap.SameBut it s.heap h' → Q x { s with heap := h' }) : wpAny (model prog w) A (call (.ref b) []) Q E s := by
  refine wpAny_call (bn_call hb (codeAny_builtin entry_listiter_next ?_))
  refine hide fun Pz hPz => ?_
  obtain ⟨o, ho, hc, hd⟩ := id hit
  obtain ⟨ol, hol, _, nl, hdl⟩ := hl
  refine hPz ?_
  clear hPz Pz
  show wpAny _ _ (field (.ref it) 0 >>= _) _ _ s
  refine wpAny_bind (wpAny_field ho hd (x := .ref l) rfl ?_)
  show wpAny _ _ (if (Value.ref l == Value.none) = true then _ else _) _ _ s
  rw [if_neg (show ¬ ((Value.ref l == Value.none) = true) from Bool.false_ne_true)]
  show wpAny _ _ (field (.ref it) 1 >>= _) _ _ s
  refine wpAny_bind (wpAny_field ho hd (x := .int i 0) rfl ?_)
  show wpAny _ _ (seqItems? (.ref l) >>= _) _ _ s
  refine wpAny_bind (wpAny_seqItems hol hdl ?_)
  simp only [Int.toNat_natCast, hx]
  refine wpAny_bind (wpAny_setField ho hd (by simp) (wpAny_pure ?_))
  refine hQ _ ?_ (Heap.SameBut.update ..)
  rw [Heap.get?_update_self _ ho (Obj.isFreed_of_fields (Obj.data_mapFields hd _)), ho]; rfl
theorem bn_end {A : Around} {E : Value → Shared → Prop} {b it l : Addr} {i : Nat} {items : Array Value} {Q : Value → Shared → Prop} (hh : A.handled = none) (hb : s.heap.get? b = some (bnO it)) (hit : s.heap.IsListIter it l i) (hl : s.heap.IsList l items) (hx : items[i]? = none)
    (hE : ∀ h₁ h' e, Heap.SameBut it s.heap h₁ → (∀ b o, h₁.get? b = some o → h'.get? b = some o) → h₁.get? e = none → (E3 fun oe vs a0 => A5 (h'.get? e = some oe) (oe.cls = .type "StopIteration") (oe.data = .fields vs) (vs[1]? = some .none) (vs[0]? = some a0)) → E (.ref e) { s with heap := h' }) : wpAny (model prog w) A (call (.ref b) []) Q E s := by
  refine wpAny_call (bn_call hb (codeAny_builtin entry_listiter_next ?_))
  refine hide fun Pz hPz => ?_
  obtain ⟨o, ho, hc, hd⟩ := id hit
  obtain ⟨ol, hol, _, nl, hdl⟩ := hl
  refine hPz ?_
  clear hPz Pz
  show wpAny _ _ (field (.ref it) 0 >>= _) _ _ s
  refine wpAny_bind (wpAny_field ho hd (x := .ref l) rfl ?_)
  show wpAny _ _ (if (Value.ref l == Value.none) = true then _ else _) _ _ s
  rw [if_neg (show ¬ ((Value.ref l == Value.none) = true) from Bool.false_ne_true)]
  show wpAny _ _ (field (.ref it) 1 >>= _) _ _ s
  refine wpAny_bind (wpAny_field ho hd (x := .int i 0) rfl ?_)
  show wpAny _ _ (seqItems? (.ref l) >>= _) _ _ s
  refine wpAny_bind (wpAny_seqItems hol hdl ?_)
  simp only [Int.toNat_natCast, hx]
  refine wpAny_bind (wpAny_rule (wpAny_bind (wpAny_setField ho hd (by simp) ?_)))
  show wpAny _ _ (newExc (.type "StopIteration") [] >>= _) _ _ _
  refine wpAny_bind ?_
  simp only [newExc, newTuple]
  refine wpAny_bind (wpAny_newObj_type ?_ (by size_fits))
  refine wpAny_bind (m := firstArgMember _ _) (wpAny_of_eq (a := Value.none) (by first | rfl | (simp only [firstArgMember]; rfl)) ?_)
  refine wpAny_newObj_type ?_ (by size_fits)
  refine wpAny_raiseNew_none hh ?_
  generalize hh1 : s.heap.update it (Obj.mapFields fun x => x.setIfInBounds 0 Value.none) = h₁
  refine hE h₁ _ _ (by rw [← hh1]; exact Heap.SameBut.update ..) (fun b o e => Heap.get?_push_of_some _ (Heap.get?_push_of_some _ e)) ?_ ⟨_, _, .ref h₁.objs.size, Heap.get?_push_size _ rfl, rfl, rfl, ?_, ?_⟩
  · cases q : h₁.get? (h₁.push { cls := Value.type "tuple", data := Data.seq #[] }).objs.size with
    | none => rfl
    | some o' => exact absurd (Heap.lt_size (Heap.get?_push_of_some { cls := Value.type "tuple", data := Data.seq #[] } q)) (Nat.lt_irrefl _)
  · first | rfl | (rw [Array.getElem?_append_left (by decide)]; rfl)
  · first | rfl | (rw [Array.getElem?_append_left (by decide)]; rfl)
theorem looks_first {A : Around} {E : Value → Shared → Prop} {base : Heap} {env : Env} {outer : List Env} {L e : Addr} {oe : Obj} {vs : Array Value} {a0 : Value} {Q : Unit → Shared → Prop}
    (hfr : A.frames = some (env :: outer)) (hl : s.heap.FunFrames base (env :: outer)) (hf : env.frame = some L)
    (he : s.heap.get? e = some oe) (hkb : base.StaysIn s.heap) (hen : base.get? e = none) (hd : oe.data = .fields vs) (h1 : vs[1]? = some .none) (h0 : vs[0]? = some a0)
    (h : ∀ h', Heap.HeldW base (env :: outer) e oe.cls a0 L h' → s.heap.UpToSlots h' → Q () { s with heap := h' }) : wpAny (model prog w) A (noteFrame (.ref e) env) Q E s := by
  unfold noteFrame
  simp only [hf]
  refine wpAny_bind (wpAny_field he hd h1 ?_)
  rw [if_neg (by decide)]
  exact wpAny_entryW hfr hl hf he hkb hen hd (Array.getElem?_eq_some_iff.mp h1).1 h0 fun h' hq164 => by obtain ⟨k1, k2, k3, k4⟩ := hq164; exact h h' ⟨k1, hen, k2, k3⟩ k4
theorem frames_grow {base h h' : Heap} {l : List Env} (hk : ∀ b o, h.get? b = some o → h'.get? b = some o) (hl : h.FunFrames base l) : h'.FunFrames base l := hl.of_keeps fun b o e _ => ⟨o, hk b o e, rfl⟩
theorem name_biA (gk : GOk G) (B : Blk C scope) {A : Around} (R : Real prog w G C ex st s) {x : Str} {p : Pos} {v : Value} {Q : Value → Shared → Prop} {E : Value → Shared → Prop} (hk : gloB scope x = true) (hd : (x == ("__debug__" : Str)) = false) (hn : x ≠ "__name__") (hm : nsIn G.K mainGlobals x = some none) (hv : bootBuiltins x = some v) (h : Q v s) :
    wpAny (model prog w) A (eval (.Name x p) C.env) Q E s :=
  Name_function_global B.ok.kind (B.glo hk) (loadGlobal_builtin (by rw [B.ok.glob]; exact gk.gns _ R.bot) (gk.gl x _ hm) (by rw [B.ok.blt]; exact gk.bns _ R.bot) ((gk.bi x hn).trans hv) h) hd
abbrev Cx.at (C : Cx) (A : Around) : Cx := { C with A := A }
theorem ex_try_next (gk : GOk G) (B : Blk C scope) (ft : FrTop C) (i : Nat) {x : Str} {o ix : Expr} {p p1 p2 p3 p4 np hp tp : Pos} {b₀ : Stmt} {suite : List Stmt} {K : AFlow → St → Prop} (hm : nsIn G.K mainGlobals (Str.ofString "StopIteration") = some none)
    (h : Ev prog w G C (.Subscript o ix p1) st fun v st₁ => E5 fun b it l n xs => A6 (v = .ref b) (st₁.hp b = some (.bnext it)) (st₁.hp it = some (.liter l n)) (st₁.hp l = some (.list xs)) (∀ y, xs[n]? = some y → K .brk ((st₁.put it (.liter l (n + 1))).set i y)) (xs[n]? = none → ∀ e, Exs prog w G (C.at (C.A.mark (some (.ref e)))) (b₀ :: suite) ⟨st₁.loc, hdel st₁.hp it⟩ K))
    (hk : autoParam (gloB scope (Str.ofString "StopIteration") = true) tRfl)
    (hs : autoParam (swapsWith (.Call (.Subscript o ix p1) [] [] p2) (some (.Name x p)) p3.line C.env = pure false) tRfl) (hx : autoParam (C.ns i = x) tRfl) (hN : autoParam (i < C.N) tLe) (hi : autoParam (locB scope (C.ns i) = true) tRfl) :
    Ex prog w G C (.Try [.Assign [.Name x p] (.Call (.Subscript o ix p1) [] [] p2) p3, .Break p4] [.ExceptHandler (some (.Name (Str.ofString "StopIteration") np)) none (b₀ :: suite) hp] [] [] tp) st K := .mk fun ex s E R => by
  refine wpAny_Try_except ?_
  refine wpAny_execs_cons ?_
  subst hx
  refine wpAny_Assign_Name ?_ hs
  show wpAny (model prog w) C.A (do callWith p2 (← eval (.Subscript o ix p1) C.env) [] [] []) _ _ s
  refine wpAny_bind (wpAny_mono (h.run ex s _ R) (fun va s₁ hq165 => ?_) fun _ _ z => z)
  refine hide fun Pz hPz => ?_; (rcases hq165 with ⟨a, st₁, ha, R₁, b, it, l, n, xs, e1, hb, hit, hl, h1, h2⟩) <;> (refine hPz ?_; clear hPz Pz)
  subst e1; rw [vabs_ref ha]
  refine hide fun Pz hPz => ?_
  obtain ⟨_, _, ob, hob, hbo⟩ := R₁.hp _ _ hb
  refine hPz ?_
  clear hPz Pz
  have hbo' : ob = bnO it := hbo
  subst hbo'
  refine hide fun Pz hPz => ?_
  obtain ⟨_, _, oi, hoi, hio⟩ := R₁.hp _ _ hit
  refine hPz ?_
  clear hPz Pz
  have hio' : oi = { cls := .type "list_iterator", data := .fields #[.ref l, .int n 0] } := hio
  subst hio'
  obtain ⟨vs, hll, hab⟩ := R₁.list hl
  refine callWith_bn hob ?_
  cases hxn : xs[n]? with
  | some y =>
    obtain ⟨v, hv, hvy⟩ := hab.get hxn
    refine bn_item hob ⟨_, hoi, rfl, rfl⟩ hll (by rw [← Array.getElem?_toList]; exact hv) fun h' hi' hsb => ?_
    rw [hoi] at hi'
    have hA : (AObj.liter l (n + 1)).is prog w (Obj.mapFields (·.setIfInBounds 1 (rawInt (n + 1))) { cls := .type "list_iterator", data := .fields #[.ref l, .int n 0] }) := by
      show _ = _
      simp [Obj.mapFields, rawInt]
    have R₂ := R₁.upd hit (s' := { s₁ with heap := h' }) (fun c o q z => (hsb.2 c q).trans z) hi' hA R₁.gens rfl
    refine R₂.store B.ok (B.stoB hN hi) hvy fun s' R₃ => ?_
    exact wpAny_execs_cons (wpAny_Break ⟨.brk, _, rfl, R₃, h1 y hxn⟩)
  | none =>
    refine bn_end B.ok.hand hob ⟨_, hoi, rfl, rfl⟩ hll (by
      have hz : vs.toList.length = xs.length := hab.length
      have := List.getElem?_eq_none_iff.mp hxn
      rw [← Array.getElem?_toList]; exact List.getElem?_eq_none_iff.mpr (by lia)) fun h₁ h' e hsb hkp hne hq1 => ?_
    refine hide fun Pz hPz => ?_
    obtain ⟨oe, ws, a0, he, hec, hed, hw1, hw0⟩ := hq1
    obtain ⟨RF, OF⟩ := R₁.forget hit
    have R₂ : Real prog w G C ex ⟨st₁.loc, hdel st₁.hp it⟩ { s₁ with heap := h₁ } := RF.scratch OF (fun c o q z => (hsb.2 c q).trans z) (fun o r z q => by rw [hoi] at z; cases z; cases q) R₁.gens rfl
    obtain ⟨outer, as, f1, f2, f3, f4⟩ := frames_of R₂ ft
    refine hPz ?_
    clear hPz Pz
    have st0 : (hideAll h₁ as).StaysIn h₁ := fun b o q => of_hideAll _ q
    have ne0 : (hideAll h₁ as).get? e = none := by
      cases q : (hideAll h₁ as).get? e with
      | none => rfl
      | some o' => rw [st0 e o' q] at hne; cases hne
    refine looks_first f1 (frames_grow hkp f3) ft.1 he (fun b o q => hkp b o (st0 b o q)) ne0 hed hw1 hw0 fun h₂ hheld hu₂ => ?_
    refine wpAny_landsW hheld fun h₃ hfl hu₃ => ?_
    have hu : h₁.UpToSlots h₃ := ((Heap.UpToSlots.of_keeps hkp).trans hu₂).trans hu₃
    have R₃ := R₂.slots (t := s₁.toks) f4 hfl.1 hu
    obtain ⟨oe3, hoe3, hoc3⟩ := hfl.there
    refine wpAny_handleBy_builtin (X := "StopIteration") (T := "StopIteration") (b := true) ?_ ?_ ?_ (name_biA gk B R₃ hk (by decide) (by decide) hm (by rfl) ⟨rfl, ⟨oe3, hoe3, by rw [hoc3, hec]⟩, ?_⟩)
    · rw [isSubtype_type]; kernel_rfl
    · rw [isSubtype_type]; kernel_rfl
    · rw [isSubtype_type]; kernel_rfl
    · rw [if_pos rfl]
      refine lands_againW hfl fun h₄ hfl₄ hu₄ => ?_
      have R₄ := R₂.slots (t := s₁.toks) f4 hfl₄.1 (hu.trans hu₄)
      exact wpAny_mono ((h2 hxn e).run ex _ _ (R₄.around _)) (fun f s₅ hq167 => by obtain ⟨af, st₅, a1, a2, a3⟩ := hq167; exact ⟨af, st₅, a1, a2.around C.A, a3⟩) fun _ _ z => z
end
end Mine
end
section
open PySem PySem.W PySem.Calls PyProof.Rows
set_option Elab.async false
set_option linter.unusedVariables false
set_option maxRecDepth 100000
namespace Mine
variable {prog : Program} {w : World}
abbrev veM : List Value := [.type "ValueError", .type "Exception", .type "BaseException", .type "object"]
noncomputable def cycB (K : Frag) (D : Addr) : Prop := E9 fun N nm q bs hdct sn sub ab col => E6 fun dd k0 k1 k2 k3 k5 => A3 (K.lookup D = some (excClassObj nm q D N bs veM hdct sn sub ab col dd k0 k1 k2 k3 k5 "ValueError.__new__")) (nsOkIn K N = true) (quietNames.all (fun n => nsIn K N n == some none) = true)
structure CycObj (K : Frag) (h : Heap) (D : Addr) : Prop where
  obj : E9 fun N nm q bs hdct sn sub ab col => E6 fun dd k0 k1 k2 k3 k5 => A3 (h.get? D = some (excClassObj nm q D N bs veM hdct sn sub ab col dd k0 k1 k2 k3 k5 "ValueError.__new__")) (∃ oN, K.lookup N = some oN) (∃ mN : Str → Option Value, h.Ns N mN ∧ ∀ n ∈ quietNames, mN n = none)
theorem cyc_obj {K : Frag} {h : Heap} {D : Addr} (X : K.In h) (q : cycB K D) : CycObj K h D := by
  refine hide fun Pz hPz => ?_; (rcases q with ⟨ns, nm, qn, bs, hdc, sn, sub, ab, col, dd, k0, k1, k2, k3, k5, ho, q5, q6⟩) <;> (refine hPz ?_; clear hPz Pz)
  have q6' := List.all_eq_true.mp q6
  have q7 : ∃ oN, K.lookup ns = some oN := by
    cases e : K.lookup ns with
    | some o => exact ⟨o, rfl⟩
    | none => unfold nsOkIn at q5; rw [e] at q5; cases q5
  exact ⟨ns, nm, qn, bs, hdc, sn, sub, ab, col, dd, k0, k1, k2, k3, k5, X _ _ ho, q7, _, .of_isNs (isNs_of_in X q5), fun n hn => nsMap_none_of_in X q5 (beq_iff_eq.mp (q6' n hn))⟩
section
variable {G : Gl} {C : Cx} {scope : Scope} {st : St} {ex : Addr → Option Obj} {s : Shared}
theorem exsE_cons {t : Stmt} {ts : List Stmt} {K : AFlow → St → Prop} {KE : Value → List AV → Hp0 → Prop} (h : Ex prog w G C t st fun f st₁ => match f with | .next => ExsE prog w G C ts st₁ K KE | f => K f st₁) : ExsE prog w G C (t :: ts) st K KE := .mk fun ex s R =>
  wpAny_execs_cons (wpAny_mono (h.run ex s _ R) (fun f s₁ hq168 => by
    obtain ⟨af, st₁, hf, R₁, h₁⟩ := hq168
    cases f with
    | next => cases hf; exact h₁.run ex s₁ R₁
    | brk => cases hf; exact ⟨_, st₁, rfl, R₁, h₁⟩
    | cont => cases hf; exact ⟨_, st₁, rfl, R₁, h₁⟩
    | ret v =>
      obtain ⟨av, hv, rfl⟩ := Option.map_eq_some_iff.mp hf
      exact ⟨_, st₁, hf, R₁, h₁⟩) fun _ _ x => x)
theorem exsE_if {e : Expr} {b : List Stmt} {p : Pos} {K : AFlow → St → Prop} {KE : Value → List AV → Hp0 → Prop} (h : Tr prog w G C e st fun c st₁ => if c = true then ExsE prog w G C b st₁ K KE else K .next st₁) (hK : ∀ f st, K f st → K f st) : ExsE prog w G C [.If e b [] p] st K KE := .mk fun ex s R => by
  refine wpAny_execs_cons (wpAny_If (wpAny_mono (h.run ex s _ R) (fun c s₁ hq169 => ?_) fun _ _ x => x))
  obtain ⟨st₁, R₁, h₁⟩ := hq169
  have fin : ∀ f s', (E2 fun af st' => A3 (fabs f = some af) (Real prog w G C ex st' s') (K af st')) → (match f with | .next => wpAny (model prog w) C.A (execs [] C.env) (fun f s' => E2 fun af st' => A3 (fabs f = some af) (Real prog w G C ex st' s') (K af st')) (fun e s' => E6 fun st' h0 ea cls vs xs => A5 (e = .ref ea) (Real prog w G C ex st' { s' with heap := h0 }) (Heap.MadeExcOf h0 s'.heap ea cls vs) (Absl vs xs) (KE cls xs st'.hp)) s' | f => E2 fun af st' => A3 (fabs f = some af) (Real prog w G C ex st' s') (K af st')) := fun f s' z => by
    cases f with
    | next => exact wpAny_execs_nil z
    | _ => exact z
  cases c with
  | true => exact wpAny_mono (ExsE.run (by simpa using h₁) ex s₁ R₁) (fun f s' z => fin f s' z) fun _ _ z => z
  | false => exact wpAny_execs_nil (fin .next s₁ ⟨_, st₁, rfl, R₁, h₁⟩)
theorem ev_fstr1 {v : Expr} {pos : Pos} {K : AV → St → Prop} (h : Ev prog w G C v st K) : Ev prog w G C (.JoinedStr [v] pos) st K := .mk fun ex s E R => wpAny_JoinedStr_one (h.run ex s E R)
theorem exsE_raise (gk : GOk G) (B : Blk C scope) {x : Str} {D : Addr} {e₀ : Expr} {rest : List Expr} {np cpos pos : Pos} {K : AFlow → St → Prop} {KE : Value → List AV → Hp0 → Prop} (hm : nsIn G.K mainGlobals x = some (some (.ref D))) (hD : cycB G.K D)
    (h : Es prog w G C (e₀ :: rest) st fun xs st₁ => xs.length ≤ 1000 ∧ KE (.ref D) xs st₁.hp)
    (hk : autoParam (gloB scope x = true) tRfl) (hd : autoParam ((x == ("__debug__" : Str)) = false) tRfl) (hp : autoParam ((e₀ :: rest).all plainE = true) tRfl) :
    ExsE prog w G C [.Raise (some (.Call (.Name x np) (e₀ :: rest) [] cpos)) none pos] st K KE := .mk fun ex s R => by
  refine hide fun Pz hPz => ?_; (rcases (cyc_obj (R.kin gk) hD).obj with ⟨N, nm, q, bs, hdct, sn, sub, ab, col, dd, k0, k1, k2, k3, k5, hC, ⟨oN, hoN⟩, mN, hN, hq⟩) <;> (refine hPz ?_; clear hPz Pz)
  refine wpAny_execs_cons ?_
  refine wpAny_Raise_call_subT (C := D) (nm := nm) (q := q) (N := N) (bs := bs) (bm := veM) (hdct := hdct) (sn := sn) (sub := sub) (ab := ab) (col := col) (dd := dd) (k0 := k0) (k1 := k1) (k2 := k2) (k3 := k3) (k5 := k5)
    F.excBase_ValueError (mN := mN) F.excBase_ValueError.hasBase B.ok.hand (plain_any hp _ _) (hq _ (.head _)) (name_glob gk B.ok R (B.glo hk) hd hm ⟨rfl, ?_⟩)
  refine args_plain hp (wpAny_mono (h.run cpos ex s _ R) (fun vs s₁ hq170 => ?_) fun _ _ z => z)
  obtain ⟨xs, st₁, hx, R₁, hl, h₁⟩ := hq170
  have keepO : ∀ b o, G.K.lookup b = some o → s₁.heap.get? b = some o := fun b o e => R₁.kin gk b o e
  have hDo : s₁.heap.get? D = s.heap.get? D := by
    refine hide fun Pz hPz => ?_; (rcases hD with ⟨_, _, _, _, _, _, _, _, _, _, _, _, _, _, _, ho, _, _⟩) <;> (refine hPz ?_; clear hPz Pz)
    rw [keepO _ _ ho, R.kin gk _ _ ho]
  have hC1 := hDo.trans hC
  have hN1 : s₁.heap.Ns N mN := Ns_at hN fun o e => by rw [R.kin gk _ _ hoN] at e; cases e; exact R₁.kin gk _ _ hoN
  refine ⟨rfl, by rw [hx.length, sizeLine_eq]; exact Nat.le_trans ‹_› (by decide), hC1, hN1, .base, fun h' e hmade => ⟨st₁, s₁.heap, e, _, vs, xs, rfl, R₁, hmade, hx, h₁⟩⟩
end
end Mine
end
section
open PySem PySem.W PySem.Calls PyProof.Rows
set_option Elab.async false
set_option linter.unusedVariables false
set_option maxRecDepth 100000
namespace Mine
variable {prog : Program} {w : World}
section
variable {G : Gl} {C : Cx} {scope : Scope} {st : St} {ex : Addr → Option Obj} {s : Shared}
noncomputable def St.del (st : St) (j : Nat) : St := { st with loc := fun k => if k = j then none else st.loc k }
theorem Real.locals (R : Real prog w G C ex st s) {h' : Heap} {t : Nat} (hs : Heap.SameBut C.env.locals s.heap h') {m' : Str → Option Value} (hn' : h'.Ns C.env.locals m') {loc' : Nat → Option AV} (hl : ∀ i av, loc' i = some av → i < C.N ∧ ∃ v, vabs v = some av ∧ VarIs C.env m' h' (C.ns i) v) :
    Real prog w G C ex ⟨loc', st.hp⟩ { s with heap := h', toks := t } := by
  have hkp : ∀ c o, c ≠ C.env.locals → s.heap.get? c = some o → h'.get? c = some o := fun c o q e => (hs.2 c q).trans e
  refine ⟨⟨m', hn', hl⟩, fun c o e => hkp c o (fun q => by have := R.exL; rw [← q, e] at this; cases this) (R.keep c o e), R.base, R.exL, fun c hc => ?_, fun a A e => ?_, ?_, R.gens, R.os, fun x c h => by obtain ⟨r, o, b', d⟩ := R.cells x c h; exact ⟨r, o, hkp c o (fun q => by obtain ⟨o', ho', es, ep, hd'⟩ := R.live; rw [q, ho'] at b'; cases b'; rw [d] at hd'; cases hd') b', d⟩, fun p hp => by obtain ⟨a, b, c, d⟩ := R.frs p hp; exact ⟨a, b, c, Ns_at d fun o e => hkp _ o b e⟩⟩
  · refine hide fun Pz hPz => ?_
    obtain ⟨a, r, o, ho, hd⟩ := R.exC c hc
    refine hPz ?_
    clear hPz Pz
    exact ⟨a, r, o, hkp c o (fun q => R.ownL (q ▸ hc)) ho, hd⟩
  · refine hide fun Pz hPz => ?_
    obtain ⟨x, y, o, ho, hA⟩ := R.hp a A e
    refine hPz ?_
    clear hPz Pz
    exact ⟨x, y, o, hkp a o y ho, hA⟩
  · obtain ⟨x, more, ht⟩ := R.tab
    exact ⟨x, more, hkp _ _ R.tabL ht⟩
theorem VarIs.same {env : Env} {m m' : Str → Option Value} {h h' : Heap} {y : Str} {u : Value} (q : VarIs env m h y u) (hm : m' y = m y) (hs : Heap.SameBut env.locals h h') (hn : h.Ns env.locals m) : VarIs env m' h' y u := by
  rcases q with ⟨a, b⟩ | ⟨a, c, hc, o, ho, hd⟩
  · exact .inl ⟨a, hm.trans b⟩
  · refine .inr ⟨a, c, hc, o, (hs.2 c fun e => ?_).trans ho, hd⟩
    refine hide fun Pz hPz => ?_
    obtain ⟨o', es, ep, ho', hd', _⟩ := hn
    refine hPz ?_
    clear hPz Pz
    rw [e, ho'] at ho; cases ho; rw [hd] at hd'; cases hd'
theorem name_globA (gk : GOk G) (B : Blk C scope) {A : Around} (R : Real prog w G C ex st s) {x : Str} {p : Pos} {v : Value} {Q : Value → Shared → Prop} {E : Value → Shared → Prop} (hk : gloB scope x = true) (hd : (x == ("__debug__" : Str)) = false) (hv : nsIn G.K mainGlobals x = some (some v)) (h : Q v s) :
    wpAny (model prog w) A (eval (.Name x p) C.env) Q E s :=
  Name_function_global B.ok.kind (B.glo hk) (loadGlobal_global (by rw [B.ok.glob]; exact gk.gns _ R.bot) (gk.gl x _ hv) h) hd
noncomputable def loc1 (scope : Scope) (x : Str) : Bool := knB scope x .local
theorem Blk.loc1 {scope : Scope} (B : Blk C scope) {x : Str} (h : Mine.loc1 scope x = true) : C.env.kindOf x = some .local := B.kinds _ _ (by rintro ⟨⟩) (knB_at h)
theorem nomod (B : Blk C scope) : (C.env.scope.kind == .class || (C.env.scope.kind == .module && C.env.locals != C.env.globals)) = false := by rw [B.ok.kind]; rfl
theorem ex_try_args (gk : GOk G) (B : Blk C scope) (ft : FrTop C) {n : Nat} (rm : Room n C) (i j : Nat) {f DC : Addr} {o : Expr} {name xc xr xe : Str} {ap p p1 p2 p3 p4 p5 np hp tp : Pos} {pl : Sem Bool} {K : AFlow → St → Prop}
    (hf : fnB G.K f = true) (hm : nsIn G.K mainGlobals xc = some (some (.ref DC))) (hD : cycB G.K DC)
    (h : Ev prog w G C o st fun a st₁ => E4 fun x D dx as => A6 (a = .ref x) (st₁.hp x = some (.inst D dx)) (st₁.hp dx = some (.attrs as)) (methB G.K D f name = true) (eget as name = none) (FnE prog w G n f [.ref x] st₁.hp (fun v hp' => K .next { st₁ with hp := hp' }) fun cls xs hp' => cls = .ref DC ∧ ∀ t, hp' t = none → K .next ((St.set ⟨st₁.loc, hset hp' t (.tup xs)⟩ i (.ref t)).del j)))
    (he : autoParam (eval (.Call (.Attribute o name ap) [] [] p) C.env = (do
      let ov ← eval o C.env
      standAt ap.atName
      let (f, first) ← holding [ov] (getMethod ov name pl)
      callWith p f first (backTo p (starEach [] C.env)) (backToKw p (keywordEach [] C.env)))) tRfl)
    (hsx : autoParam (swapsWith (.Call (.Attribute o name ap) [] [] p) none p1.line C.env = pure false) tRfl)
    (hk : autoParam (gloB scope xc = true) tRfl) (hd : autoParam ((xc == ("__debug__" : Str)) = false) tRfl)
    (hxi : autoParam (C.ns i = xr) tRfl) (hxj : autoParam (C.ns j = xe) tRfl) (hNi : autoParam (i < C.N) tLe) (hNj : autoParam (j < C.N) tLe) (hli : autoParam (loc1 scope xr = true) tRfl) (hlj : autoParam (loc1 scope xe = true) tRfl) (hij : autoParam (i ≠ j) tDec)
    (hsw : autoParam (swapsWith (.Attribute (.Name xe p2) (Str.ofString "args") p3) (some (.Name xr p4)) p5.line C.env = pure false) tRfl)
    (hbase : autoParam (attributeBase (.Name xe p2) (Str.ofString "args") C.env (eval (.Name xe p2) C.env) = eval (.Name xe p2) C.env) tRfl) :
    Ex prog w G C (.Try [.Expr (.Call (.Attribute o name ap) [] [] p) p1] [.ExceptHandler (some (.Name xc np)) (some xe) [.Assign [.Name xr p4] (.Attribute (.Name xe p2) (Str.ofString "args") p3) p5] hp] [] [] tp) st K := .mk fun ex s E R => by
  have hwl : wpAny (model prog w) C.A (eval (.Call (.Attribute o name ap) [] [] p) C.env) (fun v s' => ∃ st', Real prog w G C ex st' s' ∧ K .next st')
      (fun e s' => E5 fun (st₁ : St) (hp' : Hp0) (ea : Addr) (vs : List Value) (xs : List AV) => A5 (e = .ref ea) (Real prog w G C ex ⟨st₁.loc, hp'⟩ s') (Thr G C ex ⟨st₁.loc, hp'⟩ ea (.ref DC) vs s'.heap) (Absl vs xs) (∀ t, hp' t = none → K .next ((St.set ⟨st₁.loc, hset hp' t (.tup xs)⟩ i (.ref t)).del j))) s := by
    refine methodCall_KW (pl := pl) (wpAny_mono (h.run ex s _ R) (fun va s₁ hq171 => ?_) fun _ _ x => x) he
    refine hide fun Pz hPz => ?_; (rcases hq171 with ⟨a, st₁, ha, R₁, x, D, dx, as, e1, hx, hdd, hb, hn, h₁⟩) <;> (refine hPz ?_; clear hPz Pz)
    subst e1; rw [vabs_ref ha]
    refine hide fun Pz hPz => ?_
    obtain ⟨ens, k, hens, hod, I⟩ := R₁.instAt hx hdd
    simp only [methB, Bool.and_eq_true, beq_iff_eq] at hb
    obtain ⟨⟨b1, b2⟩, b3⟩ := hb
    refine hPz ?_
    clear hPz Pz
    have hsh := hens.shadow k hn
    obtain ⟨_, _, _, _, hf⟩ := fnB_at hf
    refine method_fn (R₁.kin gk) I (plainGet_of b1).1 (plainGet_of b1).2 b2 b3 hsh ?_
    refine callWith_function (PySem.evalArgs_none ⟨⟨R₁.kin gk _ _ hf, rfl⟩, ?_⟩)
    refine wpAny_call (codeAny_mono (h₁.run C ex s₁ st₁ [.ref x] B.ok rm rfl R₁ (.cons rfl .nil)) fun r s' z => ?_)
    cases r with
    | error e =>
      refine hide fun Pz hPz => ?_; (rcases z with ⟨hp', ea, cls, vs, xs, e1, R', T, hab, e2, hK⟩) <;> (refine hPz ?_; clear hPz Pz)
      subst e2
      exact ⟨st₁, hp', ea, vs, xs, e1, R', T, hab, hK⟩
    | ok fl =>
      cases fl with
      | ret v => obtain ⟨av, hp', a1, a2, a3⟩ := z; exact ⟨_, a2, a3⟩
      | _ => exact z.elim
  subst hxi hxj
  have ki := B.loc1 hli
  have kj := B.loc1 hlj
  refine wpAny_Try_except (wpAny_execs_cons (wpAny_Expr_any (wpAny_mono hwl (fun v s₁ hq1 => ?_) fun e s₁ hq2 => ?_) (inter B.ok) hsx))
  · obtain ⟨st₁, R₁, h₁⟩ := hq1; exact wpAny_execs_nil (wpAny_execs_nil ⟨.next, st₁, rfl, R₁, h₁⟩)
  · refine hide fun Pz hPz => ?_
    obtain ⟨st₁, hp', ea, vs, xs, e1, R₁, ⟨l, Bh, t, f1, cv, hfl, hBt, htup⟩, hab, hK⟩ := hq2
    refine hPz ?_
    clear hPz Pz
    subst e1
    refine hide fun Pz hPz => ?_
    obtain ⟨fe, _, outer, f2, _⟩ := ft
    refine hPz ?_
    clear hPz Pz
    obtain rfl : l = C.env :: outer := Option.some.inj (f1.symm.trans f2)
    refine wpAny_looks_onW f1 fe hfl fun h₄ hheld hu₄ => ?_
    refine wpAny_landsW hheld fun h₅ hfl₅ hu₅ => ?_
    have hu := hu₄.trans hu₅
    have R₅ := R₁.slots (t := s₁.toks) cv hfl₅.1 hu
    obtain ⟨ob, hob, hobc⟩ := hfl₅.there
    refine hide fun Pz hPz => ?_; (rcases (cyc_obj (R₅.kin gk) hD).obj with ⟨N, nm, q, bs, hdct, sn, sub, ab, col, dd, k0, k1, k2, k3, k5, hC, ⟨oN, hoN⟩, mN, hN, hq⟩) <;> (refine hPz ?_; clear hPz Pz)
    refine wpAny_handleBy_cons (codeAny_handlers_test (name_globA gk B R₅ hk hd hm ?_)) (by intro q; cases q)
    refine wpAny_excMatches_sub_self hC hob hobc F.excBase_ValueError.hasBase (codeAny_handlers_suite_as ?_)
    refine lands_againW hfl₅ fun h₆ hfl₆ hu₆ => ?_
    have R₆ := R₁.slots (t := s₁.toks) cv hfl₆.1 (hu.trans hu₆)
    obtain ⟨m, hn6, hl6⟩ := R₆.ns
    refine wpAny_storeName_local kj hn6 (fun h₇ hn7 hs7 => ?_) (nomod B)
    refine hide fun Pz hPz => ?_
    obtain ⟨oe, ws, hoe, hoec, hoed, hoe0⟩ := hfl₆.first
    refine hPz ?_
    clear hPz Pz
    have R₇ : Real prog w G C ex ⟨fun k => if k = j then some (.ref ea) else st₁.loc k, hp'⟩ { s₁ with heap := h₇, toks := s₁.toks + 1 } := R₆.locals (t := s₁.toks + 1) hs7 hn7 fun k av e => by
      by_cases y : k = j
      · subst y
        simp only [if_true] at e; cases e
        exact ⟨hNj, .ref ea, rfl, .inl ⟨kj, by simp⟩⟩
      · simp only [if_neg y] at e
        obtain ⟨hk', u, hu', yy⟩ := hl6 k av e
        exact ⟨hk', u, hu', yy.same (by simp only [if_neg fun z => y (B.ok.inj _ _ hk' hNj z)]) hs7 hn6⟩
    have hne : ea ≠ C.env.locals := fun z => by
      refine hide fun Pz hPz => ?_
      obtain ⟨o', es, ep, ho', hd', _⟩ := hn6
      refine hPz ?_
      clear hPz Pz
      rw [← z] at ho'
      have : h₆.get? ea = some o' := ho'
      rw [hoe] at this; cases this; rw [hoed] at hd'; cases hd'
    have hoe7 : h₇.get? ea = some oe := (hs7.2 _ hne).trans hoe
    refine hide fun Pz hPz => ?_; (rcases (cyc_obj (R₇.kin gk) hD).obj with ⟨N7, nm7, q7, bs7, hdct7, sn7, sub7, ab7, col7, dd7, k07, k17, k27, k37, k57, hC7, _, mN7, hN7, hq7⟩) <;> (refine hPz ?_; clear hPz Pz)
    refine wpAny_execs_cons (wpAny_Assign_Name ?_ hsw)
    rw [arm_eval_Attribute, hbase]
    refine wpAny_bind (wpAny_Name (wpAny_loadName_local B.ok.kind kj hn7 (show (if C.ns j = C.ns j then some (Value.ref ea) else m (C.ns j)) = some (.ref ea) from if_pos rfl) ?_) (B.ok.dbg j hNj).1)
    refine wpAny_bind (wpAny_standAt (wpAny_bind (wpAny_holding ?_)))
    refine args_attr_own F.attrBase_ValueError hC7 hN7 hq7 .base hoe7 hoec hoed hoe0 ?_
    refine wpAny_bind (wpAny_letTemporaryGo (wpAny_pure ?_))
    obtain ⟨m7, hn7', hl7⟩ := R₇.ns
    refine wpAny_storeName_local ki (m := m7) hn7' (fun h₈ hn8 hs8 => ?_) (nomod B)
    refine wpAny_execs_nil ?_
    refine wpAny_nameGoes_keeps kj (m := fun z => if z = C.ns i then some (.ref t) else m7 z) hn8 (nomod B) fun h₉ v9 hn9 hs9 => ?_
    have hs79 : Heap.SameBut C.env.locals h₇ h₉ := hs8.trans hs9
    have ht5 : h₆.TupAt t vs := (htup.of_slots hu).of_slots hu₆
    refine hide fun Pz hPz => ?_
    obtain ⟨ot, nt, hot, hotc, hotd⟩ := ht5
    refine hPz ?_
    clear hPz Pz
    have htl : t ≠ C.env.locals := fun z => by
      refine hide fun Pz hPz => ?_
      obtain ⟨o', es, ep, ho', hd', _⟩ := hn6
      refine hPz ?_
      clear hPz Pz
      rw [← z] at ho'
      have : h₆.get? t = some o' := ho'
      rw [hot] at this; cases this; rw [hotd] at hd'; cases hd'
    have hot9 : h₉.get? t = some ot := (hs79.2 _ htl).trans ((hs7.2 _ htl).trans hot)
    have R₉ : Real prog w G C ex ⟨fun k => if k = j then none else if k = i then some (.ref t) else st₁.loc k, hp'⟩ { s₁ with heap := h₉, toks := s₁.toks + 1 + 1 + 1 + 1 } := R₇.locals (t := s₁.toks + 1 + 1 + 1 + 1) hs79 hn9 fun k av e => by
      by_cases y : k = j
      · subst y; simp at e
      · simp only [if_neg y] at e
        by_cases z : k = i
        · subst z
          simp only [if_true] at e; cases e
          refine ⟨hNi, .ref t, rfl, .inl ⟨ki, ?_⟩⟩
          simp only [if_neg fun z => hij (B.ok.inj _ _ hNi hNj z), if_true]
        · simp only [if_neg z] at e
          obtain ⟨hk', u, hu', yy⟩ := hl7 k av (by simp only [if_neg y]; exact e)
          exact ⟨hk', u, hu', yy.same (by simp only [if_neg fun z => y (B.ok.inj _ _ hk' hNj z), if_neg fun q => z (B.ok.inj _ _ hk' hNi q)]) hs79 hn7'⟩
    have cv6 := cv.on R₁ hfl₆.1
    have notIn : ∀ P : Prop, (P → ex t ≠ none ∨ hp' t ≠ none ∨ t = G.tabP ∨ t ∈ C.own ∨ ∃ x, C.env.cells.lookup x = some t) → ¬ P := fun P hP z => by
      have := cv6 t ot hot (hP z)
      rw [hBt] at this; cases this
    have hpt : hp' t = none := by
      cases q : hp' t with
      | none => rfl
      | some A => exact (notIn (hp' t ≠ none) (fun z => .inr (.inl z)) (by rw [q]; rintro ⟨⟩)).elim
    have ext : ex t = none := by
      cases q : ex t with
      | none => rfl
      | some A => exact (notIn (ex t ≠ none) (fun z => .inl z) (by rw [q]; rintro ⟨⟩)).elim
    have O : Off G C ex ⟨fun k => if k = j then none else if k = i then some (.ref t) else st₁.loc k, hp'⟩ t := ⟨ext, htl, notIn _ fun z => .inr (.inr (.inr (.inl z))), hpt, notIn _ fun z => .inr (.inr (.inl z)), fun p hp z => by
      refine hide fun Pz hPz => ?_
      obtain ⟨_, _, _, o', es, ep, ho', hd', _⟩ := R₉.frs p hp
      refine hPz ?_
      clear hPz Pz
      rw [← z] at ho'
      have : h₉.get? t = some o' := ho'
      rw [hot9] at this; cases this; rw [hotd] at hd'; cases hd'⟩
    have RF := R₉.take (A := .tup xs) O hot9 ⟨hotc, _, _, hotd, by simpa using hab⟩
    exact ⟨.next, _, rfl, RF, hK t hpt⟩
end
end Mine
end
section
open PySem PySem.W PySem.Calls PyProof.Rows
set_option Elab.async false
set_option linter.unusedVariables false
set_option maxRecDepth 100000
namespace Mine
variable {prog : Program} {w : World}
section
variable {G : Gl} {C : Cx} {scope : Scope} {st : St} {ex : Addr → Option Obj} {s : Shared}
theorem bind_var2 {fd : FuncData} {ns : List Str} {x y z : Str} (hb : ∀ va vb vs, bindArgs fd ⟨va :: vb :: vs, []⟩ = (do let t ← newTuple vs; pure [(x, va), (y, vb), (z, t)])) (hns : ns.take 3 = [x, y, z]) {a b : AV} {rest : List AV} {hp : Hp} (hl : rest.length ≤ 1000) :
    ∀ C A ex s E st vs, COk C → st.hp = hp → Real prog w G C ex st s → Absl vs (a :: b :: rest) → wpAny (model prog w) A (bindArgs fd ⟨vs, []⟩) (fun bs s₁ => E3 fun vs' xs' hp' => A5 (bs = (ns.take 3).zip vs') (Absl vs' xs') (xs'.length = 3) (Real prog w G C ex ⟨st.loc, hp'⟩ s₁) (∃ t, A3 (hp t = none) (xs' = [a, b, .ref t]) (hp' = hset hp t (.tup rest)))) E s := by
  intro C A ex s E st vs ok hhp R ha
  obtain ⟨va, v1, rfl, h1, ha1⟩ := ha.cons_inv
  obtain ⟨vb, v2, rfl, h2, ha2⟩ := ha1.cons_inv
  rw [hb, hns]
  refine wpAny_bind ?_
  unfold newTuple
  have P := R.push (o := tupO v2.toArray 0) rfl (A := .tup rest) ⟨rfl, _, _, rfl, by simpa using ha2⟩ s.toks
  refine wpAny_newObj_type (wpAny_pure ?_) (by have := ha2.length; size_fits)
  subst hhp
  exact ⟨[va, vb, .ref s.heap.objs.size], [a, b, .ref s.heap.objs.size], _, rfl, .cons h1 (.cons h2 (.cons rfl .nil)), rfl, P.2, _, P.1, rfl, rfl⟩
theorem bind_var1 {fd : FuncData} {ns : List Str} {x z : Str} (hb : ∀ va vs, bindArgs fd ⟨va :: vs, []⟩ = (do let t ← newTuple vs; pure [(x, va), (z, t)])) (hns : ns.take 2 = [x, z]) {a : AV} {rest : List AV} {hp : Hp} (hl : rest.length ≤ 1000) :
    ∀ C A ex s E st vs, COk C → st.hp = hp → Real prog w G C ex st s → Absl vs (a :: rest) → wpAny (model prog w) A (bindArgs fd ⟨vs, []⟩) (fun bs s₁ => E3 fun vs' xs' hp' => A5 (bs = (ns.take 2).zip vs') (Absl vs' xs') (xs'.length = 2) (Real prog w G C ex ⟨st.loc, hp'⟩ s₁) (∃ t, A3 (hp t = none) (xs' = [a, .ref t]) (hp' = hset hp t (.tup rest)))) E s := by
  intro C A ex s E st vs ok hhp R ha
  obtain ⟨va, v2, rfl, h1, ha2⟩ := ha.cons_inv
  rw [hb, hns]
  refine wpAny_bind ?_
  unfold newTuple
  have P := R.push (o := tupO v2.toArray 0) rfl (A := .tup rest) ⟨rfl, _, _, rfl, by simpa using ha2⟩ s.toks
  refine wpAny_newObj_type (wpAny_pure ?_) (by have := ha2.length; size_fits)
  subst hhp
  exact ⟨[va, .ref s.heap.objs.size], [a, .ref s.heap.objs.size], _, rfl, .cons h1 (.cons rfl .nil), rfl, P.2, _, P.1, rfl, rfl⟩
theorem fn_bE (gk : GOk G) {n : Nat} {f : Addr} (ns : List Str) (k : Nat) {oc : Value} {od : Option Addr} {osl : Array (Option Value)} {name qual : Str} {params : Arguments} {body : List Stmt} {scope : Scope} {dV kV doc pm cdv ct : Value} {an : Option Addr}
    (hf : G.K.lookup f = some ⟨oc, od, .func (fnOf name qual params body scope dV kV doc pm an cdv ct), osl⟩) (hcd : codeIn G.K cdv qual = true)
    {xs : List AV} {hp : Hp} {K : AV → Hp → Prop} {KE : Value → List AV → Hp0 → Prop}
    (h : ∀ A env own fr, Blk ⟨A, env, nsF ns, ns.length, own, fr⟩ scope → Room n ⟨A, env, nsF ns, ns.length, own, fr⟩ → env.code = cdv ∧ FrTop ⟨A, env, nsF ns, ns.length, own, fr⟩ → ExsE prog w G ⟨A, env, nsF ns, ns.length, own, fr⟩ body ⟨fun i => xs[i]?, hp⟩ (fun fl st => K (match fl with | .ret v => v | _ => .none) st.hp) KE)
    (hbind : autoParam (BindN (fnOf name qual params body scope dV kV doc pm an cdv ct) ns k) tAll)
    (hx : autoParam (xs.length = k) tRfl)
    (hco : autoParam (scope.isCoroutine = false) tRfl) (hgen : autoParam (scope.isGenerator = false) tRfl) (hk : autoParam (scope.kind = .function) tRfl) (hkl : autoParam (k ≤ ns.length) tDec)
    (hN : autoParam (namesB ns = true) tRfl) (hkind : autoParam (paramB scope (ns.take k) = true) tRfl) (hfree : autoParam ((scope.names.all fun y => !isFree y.2) = true) tRfl) : FnE prog w G (n + 1) f xs hp K KE := by
  refine fn_genE gk hf hcd (names_of hN) hco hgen hk hkl (Bd := fun xs' hp' => xs' = xs ∧ hp' = hp) (fun C A ex s E st vs ok hhp R ha => ?_) hkind fun xs' hp' ⟨e1, e2⟩ C ok rm hns hN' hsc hst hcd' hcell hft => ?_
  · rw [BindN.all hbind vs (ha.length.trans hx)]
    subst hhp
    exact wpAny_pure ⟨vs, xs, st.hp, rfl, ha, hx, R, rfl, rfl⟩
  · subst e1 e2
    obtain ⟨A, env, ns', N', own, fr⟩ := C
    have e1 : ns' = nsF ns := hns
    have e2 : N' = ns.length := hN'
    subst e1 e2
    exact h A env own fr (blk_of ok hsc hst hfree hcell) rm ⟨hcd', hft⟩
noncomputable def boolSpec (l : Addr) (vs : Array Value) : PySem.Spec := fun A R s => s.heap.IsList l vs ∧ R (.ok (.ret (.bool (!vs.isEmpty)))) { s with toks := s.toks + 1 + 1 }
theorem meets_bool_list (l : Addr) (vs : Array Value) (hv : vs.size ≤ 1000) : Meets (Builtin.«bool.__new__» ⟨[.type "bool", .ref l], []⟩) (boolSpec l vs) :=
  Meets.of_wp fun prog w A R s hs => by
    obtain ⟨hl, hs⟩ := hs
    obtain ⟨hp, g, d, tk, os⟩ := s
    have f1 := F.conv_sub_bool
    repeat (any_goals (first | assumption | (with_reducible refine wpAny_truthy_list hl (by lia) ?_) | wp_step))
    all_goals first | exact ⟨_, rfl, hs⟩ | exact hs | skip
theorem op_bool_list {l : Addr} {xs : List AV} {va : Value} {K : AV → St → Prop} (ha : vabs va = some (.ref l)) (e : st.hp l = some (.list xs)) (hl : xs.length ≤ 1000) (h : K (.bool (!xs.isEmpty)) st) : Op prog w G C (call (.type "bool") [va]) st K := .mk fun ex s E R => by
  rw [vabs_ref ha]
  obtain ⟨vs, hl', hab⟩ := R.list e
  have hz : vs.size = xs.length := by rw [← hab.length, Array.length_toList]
  have he : vs.isEmpty = xs.isEmpty := by rw [Array.isEmpty, hz]; cases xs <;> simp
  refine call_bool_1 (meets_bool_list l vs (Nat.le_trans (Nat.le_of_eq ‹_›) ‹_›)) ⟨hl', ?_⟩
  show wants (fun obj s₁ => s₁.TypeIs obj "bool" ∧ E2 fun av st' => A3 (vabs obj = some av) (Real prog w G C ex st' s₁) (K av st')) E _ _
  refine ⟨rfl, ?_⟩
  rw [he]
  exact ⟨_, st, rfl, R.toks _, h⟩
end
end Mine
end
section
open PySem PySem.W PySem.Calls PyProof.Rows
set_option Elab.async false
set_option linter.unusedVariables false
set_option maxRecDepth 100000
namespace Mine
variable {prog : Program} {w : World}
section
variable {G : Gl} {C : Cx} {scope : Scope} {st : St} {ex : Addr → Option Obj} {s : Shared}
noncomputable def dcompL {α : Type} (bind : α → St → St) (P : St → Prop) (D : Addr) (key val : St → (AV → St → Prop) → Prop) : List α → St → (St → Prop) → Prop
  | [], st, K => K st
  | x :: r, st, K => key (bind x st) fun k st₁ => val st₁ fun v st₂ => E3 fun kk es ep => A4 (k = .str kk) (st₂.hp D = some (.dict es ep)) (es.length ≤ 1000) (∀ ep', P (st₂.put D (.dict (aput es kk v) ep')) ∧ dcompL bind P D key val r (st₂.put D (.dict (aput es kk v) ep')) K)
theorem op_dictSet {D : Addr} {es : List (Str × AV)} {ep : Nat} {k : Str} {x : AV} {vk vx : Value} {K : St → Prop} (hk : vabs vk = some (.str k)) (hx : vabs vx = some x) (e : st.hp D = some (.dict es ep)) (hl : es.length ≤ 1000) (h : ∀ ep', K (st.put D (.dict (aput es k x) ep'))) : OpU prog w G C (dictSet D vk vx) st K := .mk fun ex s E R => by
  obtain ⟨kvs, hv, hab⟩ := R.dict e
  refine wpAny_dictSet_pairs (strKey hk) hv.dictOf (fun h' hl' hs' => ?_) (by rw [hab.length, sizeLine_eq]; exact Nat.le_trans ‹_› (by decide))
  obtain ⟨ep', hd⟩ := hl'.dictAt
  obtain ⟨o, ho, hA⟩ := dict_is hd (hab.stored k hx)
  exact ⟨_, R.upd e (s' := { s with heap := h', toks := s.toks + 1 }) (fun c o' q z => (hs'.2 c q).trans z) ho hA R.gens rfl, h ep'⟩
theorem dcomp_loop {α : Type} {target : Expr} {I D : Addr} {xs : List α} {bind : α → St → St} {ob : Nat → Obj → Prop} {P : St → Prop} (W : Iter prog w G C target I xs bind ob P) {kx vx iter : Expr} {scope : Scope} {pos : Pos} {K : St → Prop} {R' : Result → Shared → Prop}
    (R : Real prog w G C ex st s) (O : Off G C ex st I) (hI : ∃ o, s.heap.get? I = some o ∧ ob 0 o) (hP : P st)
    (h : dcompL bind P D (fun st K => Ev prog w G C kx st K) (fun st K => Ev prog w G C vx st K) xs st K)
    (hR : ∀ s' st', Real prog w G C ex st' s' → K st' → R' (.ok .next) s') :
    codeAny (model prog w) C.A (.compLoop (.DictComp kx vx [⟨target, iter, [], 0⟩] scope pos) 0 (.ref I) (.ref D) C.env) R' s := by
  refine codeAny_loop rfl (fun n s => E2 fun i st => A7 (i ≤ xs.length) (n = xs.length - i) (Real prog w G C ex st s) (Off G C ex st I) (∃ o, s.heap.get? I = some o ∧ ob i o) (P st) (dcompL bind P D (fun st K => Ev prog w G C kx st K) (fun st K => Ev prog w G C vx st K) (xs.drop i) st K)) (fun n s hI => ?_) xs.length
    ⟨0, st, Nat.zero_le _, rfl, R, O, hI, hP, by simpa using h⟩
  obtain ⟨i, st, hi, rfl, R, O, hI, hP, h⟩ := hI
  refine wpAny_noted (m := compTurn (.DictComp kx vx [⟨target, iter, [], 0⟩] scope pos) 0 (.ref I) (.ref D) C.env) ?_
  rw [compTurn_dict]
  refine wpAny_bind (wpAny_standAt (wpAny_bind ?_))
  rcases Nat.lt_or_ge i xs.length with hlt | hge
  · have hx : xs[i]? = some xs[i] := List.getElem?_eq_getElem hlt
    rw [List.drop_eq_getElem_cons hlt] at h
    have h : Ev prog w G C kx (bind xs[i] st) _ := h
    refine wpAny_mono (W.step i _ ex st s _ (fun s₃ => Real prog w G C ex (bind xs[i] st) s₃ ∧ ∃ o, s₃.heap.get? I = some o ∧ ob (i + 1) o) hx hP R O hI fun s' a b => ⟨a, b⟩) (fun r s₁ h₁ => ?_) fun _ _ x => x
    cases r with
    | none => exact h₁.elim
    | some v =>
      refine wpAny_bind (wpAny_mono h₁ (fun _ s₂ h₂ => wpAny_bind (wpAny_mono h₂ (fun _ s₃ h₃ => ?_) fun _ _ x => x)) fun _ _ x => x)
      obtain ⟨R₃, o, ho, hob⟩ := h₃
      have O₃ : Off G C ex (bind xs[i] st) I := O.hp_eq (W.bhp _ _)
      have RH := R₃.hold O₃ ho
      refine wpAny_bind (wpAny_tests_nil ?_)
      refine wpAny_bind ?_
      refine wpAny_bind (wpAny_mono (h.run _ s₃ _ RH) (fun kv s₄ hy36 => ?_) fun _ _ x => x)
      obtain ⟨k, st₄, hk, R₄, h₄⟩ := hy36
      refine wpAny_bind (wpAny_holding (wpAny_mono (h₄.run _ s₄ _ R₄) (fun vv s₅ hy37 => ?_) fun _ _ x => x))
      refine hide fun Pz hPz => ?_; (rcases hy37 with ⟨v', st₅, hv, R₅, kk, es, ep, e1, e2, hl, h₅⟩) <;> (refine hPz ?_; clear hPz Pz)
      refine wpAny_bind (wpAny_standAt (wpAny_holding ?_))
      subst e1
      refine wpAny_mono ((op_dictSet hk hv e2 hl (K := fun st' => P st' ∧ dcompL bind P D (fun st K => Ev prog w G C kx st K) (fun st K => Ev prog w G C vx st K) (xs.drop (i + 1)) st' K) (fun ep' => h₅ ep')).run _ s₅ _ R₅) (fun _ s₆ hq177 => ?_) fun _ _ x => x
      obtain ⟨st₆, R₆, h₆, h₇⟩ := hq177
      obtain ⟨R₇, O₇, ho₇⟩ := R₆.drop O.ex R.base
      exact wpAny_pure ⟨rfl, xs.length - (i + 1), Nat.sub_succ_lt_self _ _ ‹_›, i + 1, st₆, hlt, rfl, R₇, O₇, ⟨o, ho₇, hob⟩, h₆, h₇⟩
  · have hd : xs.drop i = [] := List.drop_eq_nil_of_le hge
    rw [hd] at h
    have hil : i = xs.length := Nat.le_antisymm ‹_› ‹_›
    subst hil
    refine wpAny_mono (W.fin _ st s _ (fun s₁ => Real prog w G C ex st s₁) hP R O hI fun s' a => a) (fun r s₁ hq178 => ?_) fun _ _ x => x
    obtain ⟨e, R₁⟩ := hq178
    subst e
    exact wpAny_pure (hR _ _ R₁ h)
theorem newDict_nil {A : Around} (Q : Value → Shared → Prop) (E : Value → Shared → Prop) (s : Shared) (h : Q (.ref s.heap.objs.size) { s with heap := s.heap.push { cls := .type "dict", data := .dict #[] } }) : wpAny (model prog w) A newDict Q E s := wpAny_newObj_type h
theorem set_dc (B : Blk C scope) (i : Nat) {x : Str} {p q : Pos} {target iter kx vx : Expr} {scope' : Scope} {pos : Pos} (caps : List Nat) {K : AFlow → St → Prop}
    (h : Src prog w G C iter st fun sk st₁ => ∀ env own fr, Blk ⟨C.A, env, C.ns, C.N, own, fr⟩ scope' → ∃ α : Type, E2 fun (xs : List α) (bind : α → St → St) => Tg prog w G ⟨C.A, env, C.ns, C.N, own, fr⟩ target sk xs bind ∧
      ∀ D, st₁.hp D = none → (∀ hp : Hp, Le st₁.hp hp → sk.P hp) ∧ dcompL bind (fun st => sk.P st.hp) D (fun st K => Ev prog w G ⟨C.A, env, C.ns, C.N, own, fr⟩ kx st K) (fun st K => Ev prog w G ⟨C.A, env, C.ns, C.N, own, fr⟩ vx st K) xs ((inner caps st₁).put D (.dict [] 0)) fun st₂ => E2 fun es ep => st₂.hp D = some (.dict es ep) ∧ K .next (St.set ⟨st₁.loc, st₂.hp⟩ i (.ref D)))
    (hlk : autoParam (scope.names.lookup x = some .local) tRfl) (hpl : autoParam ((p.line == pos.line) = true) tRfl) (hsn : autoParam ((scope'.names.any fun y => y.1 == x && (y.2 == .local || y.2 == .cell)) = false) tRfl)
    (hx : autoParam (C.ns i = x) tRfl) (hN : autoParam (i < C.N) tLe) (hi : autoParam (locB scope (C.ns i) = true) tRfl)
    (hb : autoParam (compB scope scope' C.ns C.N caps = true) tRfl) (hs : autoParam (∀ x, foldedSetIterable iter C.env x = pure x) tAll) (hk : autoParam (scope'.kind = .function) tRfl) : Ex prog w G C (.Assign [.Name x p] (.DictComp kx vx [⟨target, iter, [], 0⟩] scope' pos) q) st K := .mk fun ex s E R => by
  subst hx
  have hsw : swapsWith (.DictComp kx vx [⟨target, iter, [], 0⟩] scope' pos) (some (.Name (C.ns i) p)) q.line C.env = pure true := by
    show (pure (C.env.blockKind == .function && C.env.kindOf (C.ns i) == some .local && p.line == pos.line && !(scope'.names.any fun (n, k) => n == C.ns i && (k == .local || k == .cell))) : Sem Bool) = pure true
    have hbk : C.env.blockKind = .function := by unfold Env.blockKind; rw [B.ok.kind]; rfl
    rw [hbk, B.kinds _ _ (by rintro ⟨⟩) hlk, hpl]
    have : (scope'.names.any fun (n, k) => n == C.ns i && (k == .local || k == .cell)) = false := hsn
    rw [this]; rfl
  rw [exec_Assign_Name_used _ _ _ _ hsw]
  refine wpAny_bind (wpAny_standAt (wpAny_bind ?_))
  show wpAny _ C.A (do let _ ← comprehension (.DictComp kx vx [⟨target, iter, [], 0⟩] scope' pos) scope' C.env _ newDict false (eval iter C.env) (some (assign (.Name (C.ns i) p) C.env))) _ _ s
  refine wpAny_bind (wpAny_mono (Q := fun _ s' => E2 fun af st' => A3 (fabs .next = some af) (Real prog w G C ex st' s') (K af st')) ?_ (fun _ s' hq => wpAny_pure (wpAny_pure hq)) fun _ _ x => x)
  refine comp_any B.ok (B.comp hk hb) (g := ⟨target, iter, [], 0⟩) (gs := []) rfl hs (oD := { cls := .type "dict", data := .dict #[] }) rfl (fun r => by rintro ⟨⟩) newDict_nil (use := some _) (KK := fun loc D A st' => K .next (St.set ⟨loc, hset st'.hp D A⟩ i (.ref D))) ?_ ?_ R
  · refine .mk fun ex s E R => wpAny_mono (h.run ex s E R) (fun v s₁ h₁ => wpAny_mono h₁ (fun it s₂ hy38 => ?_) fun _ _ x => x) fun _ _ x => x
    obtain ⟨I, sk, st₁, e1, R₁, O, hI, hP, h₂⟩ := hy38
    refine ⟨I, sk, st₁, e1, R₁, O, hI, hP, ?_⟩
    intro C' hin ex' s' I' D R' RR OI OD hID hI' hD hP' hR
    have eC : C' = ⟨C.A, C'.env, C.ns, C.N, C'.own, C'.fr⟩ := by
      have a := hin.A; have b := hin.ns; have c := hin.N
      cases C' with
      | mk A env ns N own fr => simp only at a b c; subst a b c; rfl
    have Bk := hin.blk
    rw [eC] at Bk
    obtain ⟨α, xs, bind, T, hc⟩ := h₂ C'.env C'.own C'.fr Bk
    rw [← eC] at T hc
    obtain ⟨hPm, hc⟩ := hc D OD.hp
    have RT := RR.take (A := .dict [] 0) OD hD ⟨#[], [], ⟨rfl, rfl, rfl⟩, rfl, fun _ he => by simp at he, .nil, .nil, rfl⟩
    have loop := dcomp_loop (iter := iter) (scope := scope') (pos := pos) (R' := R') (T I') RT (OI.put hID) hI' (hPm _ (Le.new OD.hp)) hc fun s'' st'' R₄ hq180 => by
      obtain ⟨es, ep, hes, hK⟩ := hq180
      obtain ⟨RF, OF⟩ := R₄.forget hes
      obtain ⟨_, _, o, ho, hA⟩ := R₄.hp _ _ hes
      refine hR s'' (.dict es ep) o _ RF OF ho hA ?_
      have e1 : hset (hdel st''.hp D) D (.dict es ep) = st''.hp := by
        funext b
        by_cases y : b = D
        · rw [y, hset_self, hes]
        · rw [hset_other _ _ y, hdel_other _ y]
      show K .next (St.set ⟨_, hset (hdel st''.hp D) D (.dict es ep)⟩ i (.ref D))
      rw [e1]; exact hK
    exact codeAny_compStart_dict loop (SrcK.self hI' loop)
  · rintro loc st' D A s' L RR OL ⟨m, hm⟩ hK hD
    show wpAny (model prog w) C.A (assign (.Name (C.ns i) p) C.env (.ref D)) _ _ s'
    refine assign_name B.ok (B.stoB hN hi) RR (av := .ref D) rfl fun s'' R'' hk => ?_
    have hm' : s''.heap.Ns L m := Ns_at hm fun o e => hk L o OL.loc OL.own e
    refine ⟨m, hm', fun h' hsb => ⟨.next, _, rfl, ?_, hK⟩⟩
    have OL' : Off G C ex (St.set ⟨loc, hset st'.hp D A⟩ i (.ref D)) L := ⟨OL.ex, OL.loc, OL.own, OL.hp, OL.tab, OL.fr⟩
    exact R''.scratch OL' (s' := { s'' with heap := h' }) (fun c o q e => (hsb.2 c q).trans e) (fun o r e q => by
      obtain ⟨o', es, ep, ho', hd', _⟩ := hm'
      rw [ho'] at e; cases e; rw [hd'] at q; cases q) R''.gens rfl
end
end Mine
end
section
open PySem PySem.W PySem.Calls PyProof.Rows SeqAt
set_option Elab.async false
set_option linter.unusedVariables false
set_option maxRecDepth 100000
namespace Mine
section
variable {prog : Program} {w : World} {A : Around} {E : Value → Shared → Prop} {s : Shared}
theorem dictFind_str {d : Addr} {o : Obj} {es : Array DictEntry} {ep : Nat} {k : Str} {t : Tok} {hsh : Int} {Q : Option Nat → Shared → Prop} (ho : s.heap.get? d = some o) (hd : o.data = .dict es ep) (hes : (es.all fun e => isExactStrKey e.key) = true) (h : Q (es.findIdx? fun e => e.key.isStr k) s) :
    wpAny (model prog w) A (dictFind d (.str k t) hsh) Q E s := by
  unfold dictFind
  try with_reducible refine wpAny_holding ?_
  refine wpAny_bind (wpAny_dictEntries ho hd ?_)
  dsimp only
  rw [if_pos hes]
  unfold foundByValue
  cases hf : es.findIdx? (fun e => e.key.isStr k) with
  | none => rw [hf] at h; exact wpAny_pure h
  | some i =>
    rw [hf] at h
    obtain ⟨hlt, hi, _⟩ := Array.findIdx?_eq_some_iff_getElem.mp hf
    simp only [Array.getElem?_eq_getElem hlt]
    have hk : ∃ t', es[i].key = .str k t' := by
      have hx := Array.all_eq_true.mp hes i hlt
      cases q : es[i].key <;> rw [q] at hx <;> try (cases hx; done)
      rename_i x t'
      rw [q] at hi
      have : decide (x = k) = true := by rw [← isStr_eq x k t']; exact hi
      exact ⟨t', by rw [of_decide_eq_true this]⟩
    obtain ⟨t', hk⟩ := hk
    rw [hk]
    refine wpAny_bind (wpAny_dictEpoch ho hd (wpAny_bind ((EqGives_str k k t' t).at _ _ prog w _ _ (wpAny_bind (wpAny_dictEpoch ho hd ?_)))))
    show wpAny _ _ (if (ep != ep) = true then _ else _) _ E _
    rw [if_neg (by simp), decide_eq_true rfl]
    exact wpAny_bind (wpAny_rule (wpAny_pure h))
theorem samePairs_true {id : String} {a b : Addr} {o1 o2 : Obj} {es fs : Array DictEntry} {ep ep2 : Nat} {Q : Bool → Shared → Prop} (ha0 : (a == sysModules) = false) (hb0 : (b == sysModules) = false) (ha : s.heap.get? a = some o1) (had : o1.data = .dict es ep) (hb : s.heap.get? b = some o2) (hbd : o2.data = .dict fs ep2) (hsz : es.size = fs.size) (hfs : (fs.all fun e => isExactStrKey e.key) = true)
    (he : ∀ i (h1 : i < es.size), E3 fun k t j => ∃ (h2 : j < fs.size), A3 (es[i].key = .str k t) (fs.findIdx? (fun e => e.key.isStr k) = some j) (EqAt A s es[i].val fs[j].val true)) (h : Q true s) : wpAny (model prog w) A (Builtin.Dict.samePairs id a b) Q E s := by
  unfold Builtin.Dict.samePairs Builtin.Dict.showsAll
  simp only [ha0, hb0, Bool.false_eq_true, if_false]
  refine wpAny_bind (wpAny_pure (wpAny_bind (wpAny_pure ?_)))
  refine wpAny_bind (wpAny_dictEntries ha had (wpAny_bind (wpAny_dictEntries hb hbd ?_)))
  rw [if_neg (by simp [hsz])]
  refine wpAny_bind (wpAny_dictEpoch ha had ?_)
  refine wpAny_bind ?_
  rw [Std.Legacy.Range.forIn_eq_forIn_range']
  refine wpAny_forIn_list _ (fun rest b s' => A3 (s' = s) (b = (none, ())) (∃ i, rest = List.range' i (es.size - i) ∧ i ≤ es.size)) _ ?_ ?_ _ _ ⟨rfl, rfl, 0, by simp [Std.Legacy.Range.size], Nat.zero_le _⟩
  · rintro x rest b' s' ⟨rfl, rfl, i, hr, hi⟩
    have hlt : i < es.size := by
      rcases Nat.lt_or_ge i es.size with q | q
      · exact q
      · rw [Nat.sub_eq_zero_of_le q] at hr; simp at hr
    have hr' : x :: rest = i :: List.range' (i + 1) (es.size - (i + 1)) := by
      rw [hr, show es.size - i = (es.size - (i + 1)) + 1 by lia, List.range'_succ]
    injection hr' with hx hrest
    subst hx
    refine wpAny_bind (wpAny_dictEntries ha had ?_)
    simp only [Array.getElem?_eq_getElem hlt]
    obtain ⟨k, t, j, h2, hk, hf, heq⟩ := he x hlt
    refine wpAny_bind (wpAny_holding ?_)
    rw [hk]
    refine wpAny_bind (dictFind_str hb hbd hfs ?_)
    rw [hf]
    refine wpAny_bind (wpAny_dictEntries hb hbd ?_)
    simp only [Array.getElem?_eq_getElem h2]
    refine wpAny_holding (heq prog w _ _ ?_)
    rw [if_neg (by decide)]
    refine wpAny_bind (wpAny_dictEpoch ha had ?_)
    rw [if_neg (by simp)]
    exact wpAny_pure ⟨rfl, rfl, x + 1, hrest, hlt⟩
  · rintro b' s' ⟨rfl, rfl, _⟩
    exact wpAny_pure h
end
theorem sub_dict_dict : isSubtype (.type "dict") (.type "dict") = pure true := by rw [isSubtype_type]; kernel_rfl
theorem dict_eqT (a b : Addr) (es fs : Array DictEntry) (ep ep2 : Nat) (dd dd2 : Option Addr) (sl sl2 : Array (Option Value)) (ha0 : (a == sysModules) = false) (hb0 : (b == sysModules) = false) (hsz : es.size = fs.size) (hfs : (fs.all fun e => isExactStrKey e.key) = true) :
    Meets (Builtin.«dict.__eq__» ⟨[.ref a, .ref b], []⟩)
      (fun A R s => A4 (s.heap.get? a = some { cls := .type "dict", dict := dd, data := .dict es ep, slots := sl }) (s.heap.get? b = some { cls := .type "dict", dict := dd2, data := .dict fs ep2, slots := sl2 }) (∀ i (h1 : i < es.size), E3 fun k t j => ∃ (h2 : j < fs.size), A3 (es[i].key = .str k t) (fs.findIdx? (fun e => e.key.isStr k) = some j) (EqAt A.in1 s es[i].val fs[j].val true)) (R (.ok (.ret (.bool true))) s)) :=
  .of_wp fun prog w A R s h => by
    obtain ⟨hp, g, d, tk, os⟩ := s; obtain ⟨hl, hb, he, h⟩ := h
    have f2 := sub_dict_dict
    wp_walk using AutoSeq1.wpAny_loadPart' hl, AutoSeq1.wpAny_loadPart' hb, samePairs_true (A := A.in1) ha0 hb0 hl rfl hb rfl hsz hfs he
    exact ⟨_, rfl, h⟩
theorem RcAt.dictsT {A : Around} {s : Shared} {a b : Addr} {o1 o2 : Obj} {es fs : Array DictEntry} {ep ep2 : Nat} (ha0 : (a == sysModules) = false) (hb0 : (b == sysModules) = false) (ha : s.heap.get? a = some o1) (hac : o1.cls = .type "dict") (had : o1.data = .dict es ep) (hb : s.heap.get? b = some o2) (hbc : o2.cls = .type "dict") (hbd : o2.data = .dict fs ep2) (hsz : es.size = fs.size) (hfs : (fs.all fun e => isExactStrKey e.key) = true) (hu : A.units < cLine)
    (he : ∀ i (h1 : i < es.size), E3 fun k t j => ∃ (h2 : j < fs.size), A3 (es[i].key = .str k t) (fs.findIdx? (fun e => e.key.isStr k) = some j) (EqAt A.in1 s es[i].val fs[j].val true)) : RcAt A s (.ref a) (.ref b) true := fun prog w E Q h => by
  obtain ⟨cls, dd, data, sl⟩ := o1
  obtain ⟨cls2, dd2, data2, sl2⟩ := o2
  simp only at hac had hbc hbd
  subst hac had hbc hbd
  exact richCompare_meets_room (op := .Eq) ⟨_, ha, rfl⟩ ⟨_, hb, rfl⟩ F.slot_dict_eq F.entry_dict_eq (F.args_dict_eq_2 _ _) (dict_eqT a b es fs ep ep2 dd dd2 sl sl2 ha0 hb0 hsz hfs)
    ⟨ha, hb, he, show Value.bool true ≠ Value.notImplemented ∧ Q (.bool true) s from ⟨(by rintro ⟨⟩), h⟩⟩ hu
inductive Same (hp : Hp) : Nat → AV → AV → Prop
  | int {d i} : Same hp d (.int i) (.int i)
  | str {d i} : Same hp d (.str i) (.str i)
  | list {d : Nat} {a b : Addr} {xs ys : List AV} : hp a = some (.list xs) → hp b = some (.list ys) → xs.length = ys.length → (∀ (i : Nat) (x y : AV), xs[i]? = some x → ys[i]? = some y → Same hp d x y) → Same hp (d + 1) (.ref a) (.ref b)
  | tup {d : Nat} {a b : Addr} {xs ys : List AV} : hp a = some (.tup xs) → hp b = some (.tup ys) → xs.length = ys.length → (∀ (i : Nat) (x y : AV), xs[i]? = some x → ys[i]? = some y → Same hp d x y) → Same hp (d + 1) (.ref a) (.ref b)
  | dict {d : Nat} {a b : Addr} {es fs : List (Str × AV)} {ep ep' : Nat} : hp a = some (.dict es ep) → hp b = some (.dict fs ep') → es.length = fs.length → (∀ k v, (k, v) ∈ es → (aget fs k).isSome = true) → (∀ k v u, (k, v) ∈ es → aget fs k = some u → Same hp d v u) → Same hp (d + 1) (.ref a) (.ref b)
variable {prog : Program} {w : World}
section
variable {G : Gl} {C : Cx} {scope : Scope} {st : St} {ex : Addr → Option Obj} {s : Shared}
theorem pairs_get {knd : KeyKind prog w Str} : ∀ {es : List DictEntry} {kvs : List (Str × Value)}, Pairs knd es kvs → ∀ i, (h : i < es.length) → ∃ kv, A3 (kvs[i]? = some kv) (knd.is kv.1 es[i].key = true) (es[i].val = kv.2) := by
  intro es kvs p
  induction p with
  | nil => exact fun i h => absurd h (Nat.not_lt_zero _)
  | cons h1 h2 _ ih =>
    intro i h
    cases i with
    | zero => exact ⟨_, rfl, h1, h2⟩
    | succ i => exact ih i (Nat.lt_of_succ_lt_succ h)
theorem pairs_len {knd : KeyKind prog w Str} : ∀ {es : List DictEntry} {kvs : List (Str × Value)}, Pairs knd es kvs → es.length = kvs.length := by
  intro es kvs p
  induction p with
  | nil => rfl
  | cons _ _ _ ih => exact congrArg (· + 1) ih
theorem strKind_key {k : Str} {v : Value} (h : (strKind prog w).is k v = true) : ∃ t, v = .str k t := Value.isStrOf_shape h
theorem pairs_find {es : List DictEntry} {kvs : List (Str × Value)} (p : Pairs (strKind prog w) es kvs) {k : Str} {u : Value} (h : valueAt kvs k = some u) : ∃ j, ∃ (hj : j < es.length), es.findIdx? (fun e => e.key.isStr k) = some j ∧ es[j].val = u := by
  induction p with
  | nil => simp [valueAt] at h
  | @cons e kv es kvs h1 h2 r ih =>
    obtain ⟨t, ht⟩ := strKind_key h1
    by_cases q : kv.1 = k
    · refine ⟨0, by simp, ?_, ?_⟩
      · rw [List.findIdx?_cons, ht, isStr_eq, decide_eq_true q]; rfl
      · have : valueAt (kv :: kvs) k = some kv.2 := by simp [valueAt, q]
        rw [this] at h
        show e.val = u
        rw [h2]; exact Option.some.inj h
    · have h' : valueAt kvs k = some u := by
        have : valueAt (kv :: kvs) k = valueAt kvs k := by simp [valueAt, q]
        rw [← this]; exact h
      obtain ⟨j, hj, a, b⟩ := ih h'
      refine ⟨j + 1, by simpa using hj, ?_, by simpa using b⟩
      rw [List.findIdx?_cons, ht, isStr_eq, decide_eq_false q]
      simp [a]
theorem all_true : ∀ (n : Nat), ((List.range n).all fun _ => true) = true := fun n => List.all_eq_true.mpr fun _ _ => rfl
theorem same_at (gk : GOk G) (R : Real prog w G C ex st s) : ∀ {d : Nat} {x y : AV}, Same st.hp d x y → ∀ {A : Around} {v u : Value}, vabs v = some x → vabs u = some y → A.units + d < cLine → EqAt A s v u true ∧ (∀ a b, x = .ref a → y = .ref b → RcAt A s v u true) := by
  have eqOf : ∀ {A : Around} {a b : Addr}, RcAt A s (.ref a) (.ref b) true → EqAt A s (.ref a) (.ref b) true := fun {A a b} h => by
    by_cases q : a = b
    · subst q; exact EqAt.same _
    · exact EqAt.of_refs q h
  intro d x y h
  induction h with
  | int =>
    intro A v u hv hu hA
    obtain ⟨t, rfl⟩ := vabs_int hv
    obtain ⟨t', rfl⟩ := vabs_int hu
    rename_i d i
    refine ⟨?_, fun a b q => by cases q⟩
    have := EqAt.int_int (A := A) (s := s) i t i t'
    simpa using this
  | str =>
    intro A v u hv hu hA
    obtain ⟨t, rfl⟩ := vabs_str hv
    obtain ⟨t', rfl⟩ := vabs_str hu
    rename_i d i
    refine ⟨?_, fun a b q => by cases q⟩
    have := (EqGives_str i i t t').at A s
    simpa using this
  | @list d a b xs ys ha hb hl hi ih =>
    intro A v u hv hu hA
    rw [vabs_ref hv, vabs_ref hu]
    obtain ⟨vs, h1, hab⟩ := R.list ha
    obtain ⟨us, h2, hbb⟩ := R.list hb
    have z1 : vs.size = xs.length := by rw [← hab.length, Array.length_toList]
    have z2 : us.size = ys.length := by rw [← hbb.length, Array.length_toList]
    have rc : RcAt A s (.ref a) (.ref b) true := by
      have := RcAt.lists (A := A) (s := s) (e := fun _ => true) h1 h2 (by lia) (Nat.lt_of_le_of_lt (Nat.le_add_right _ _) ‹_›) fun j j1 j2 => by
        obtain ⟨x, hx, hvx⟩ := hab.get' (i := j) (v := vs[j]) (by simp [j1])
        obtain ⟨y, hy, hvy⟩ := hbb.get' (i := j) (v := us[j]) (by simp [j2])
        exact (ih j x y hx hy hvx hvy (by show A.units + 1 + d < cLine; lia)).1
      rwa [all_true] at this
    exact ⟨eqOf rc, fun _ _ _ _ => rc⟩
  | @tup d a b xs ys ha hb hl hi ih =>
    intro A v u hv hu hA
    rw [vabs_ref hv, vabs_ref hu]
    obtain ⟨vs, h1, hab⟩ := R.tuple ha
    obtain ⟨us, h2, hbb⟩ := R.tuple hb
    have z1 : vs.size = xs.length := by rw [← hab.length, Array.length_toList]
    have z2 : us.size = ys.length := by rw [← hbb.length, Array.length_toList]
    have rc : RcAt A s (.ref a) (.ref b) true := by
      have := RcAt.tuples (A := A) (s := s) (e := fun _ => true) h1 h2 (Nat.lt_of_le_of_lt (Nat.le_add_right _ _) ‹_›) fun j j1 j2 => by
        obtain ⟨x, hx, hvx⟩ := hab.get' (i := j) (v := vs[j]) (by simp [j1])
        obtain ⟨y, hy, hvy⟩ := hbb.get' (i := j) (v := us[j]) (by simp [j2])
        exact (ih j x y hx hy hvx hvy (by show A.units + 1 + d < cLine; lia)).1
      have e : vs.size = us.size := by lia
      rw [all_true, e] at this
      simpa using this
    exact ⟨eqOf rc, fun _ _ _ _ => rc⟩
  | @dict d a b es fs ep ep' ha hb hl hi hj ih =>
    intro A v u hv hu hA
    rw [vabs_ref hv, vabs_ref hu]
    refine hide fun Pz hPz => ?_; (rcases R.dict ha with ⟨kvs, ⟨o1, en1, ho1, hx1, hd1, hk1, hp1, hn1⟩, hab⟩) <;> (refine hPz ?_; clear hPz Pz)
    refine hide fun Pz hPz => ?_; (rcases R.dict hb with ⟨kvs2, ⟨o2, en2, ho2, hx2, hd2, hk2, hp2, hn2⟩, hbb⟩) <;> (refine hPz ?_; clear hPz Pz)
    have l1 : en1.size = es.length := by rw [← Array.length_toList, pairs_len hp1, hab.length]
    have l2 : en2.size = fs.length := by rw [← Array.length_toList, pairs_len hp2, hbb.length]
    have rc : RcAt A s (.ref a) (.ref b) true := by
      refine RcAt.dictsT (noSys R gk.sys ha) (noSys R gk.sys hb) ho1 hx1.1 hd1 ho2 hx2.1 hd2 (by lia) ?_ (Nat.lt_of_le_of_lt (Nat.le_add_right _ _) ‹_›) fun i h1 => ?_
      · refine Array.all_eq_true.mpr fun i h => ?_
        obtain ⟨k, hk, _⟩ := hk2 en2[i] (Array.getElem_mem h)
        obtain ⟨t, ht⟩ := strKind_key hk
        rw [ht]; rfl
      · obtain ⟨kv, g1, g2, g3⟩ := pairs_get hp1 i (by simpa using h1)
        obtain ⟨t, ht⟩ := strKind_key g2
        have : ∃ x, es[i]? = some (kv.1, x) ∧ vabs kv.2 = some x := by
          have := congrArg (fun l : List (Str × Option AV) => l[i]?) hab
          simp only [List.getElem?_map, g1, Option.map_some] at this
          cases q : es[i]? with
          | none => rw [q] at this; cases this
          | some p => rw [q] at this; simp only [Option.map_some, Option.some.injEq, Prod.mk.injEq] at this; exact ⟨p.2, by rw [this.1], this.2⟩
        obtain ⟨x, hx, hvx⟩ := this
        obtain ⟨y', hy'⟩ := Option.isSome_iff_exists.mp (hi kv.1 x (List.mem_of_getElem? hx))
        have ih' := @ih kv.1 x y' (List.mem_of_getElem? hx) hy'
        have hva := hbb.valueAt kv.1
        rw [hy'] at hva
        cases hval : valueAt kvs2 kv.1 with
        | none => rw [hval] at hva; cases hva
        | some uu =>
          rw [hval] at hva
          obtain ⟨j, hj, f1, f2⟩ := pairs_find hp2 hval
          have hj' : j < en2.size := by simpa using hj
          refine ⟨kv.1, t, j, hj', by simpa using ht, by rw [← List.findIdx?_toArray] at f1; simpa using f1, ?_⟩
          have e1 : en1[i].val = kv.2 := by simpa using g3
          have e2 : en2[j].val = uu := by simpa using f2
          rw [e1, e2]
          exact (ih' hvx (by simpa using hva) (by show A.units + 1 + d < cLine; lia)).1
    exact ⟨eqOf rc, fun _ _ _ _ => rc⟩
theorem op_eq_same (gk : GOk G) {d : Nat} {a b : Addr} {va vb : Value} {K : AV → St → Prop} (hs : Same st.hp d (.ref a) (.ref b)) (hu : C.A.units + d < cLine) (ha : vabs va = some (.ref a)) (hb : vabs vb = some (.ref b)) (h : K (.bool true) st) : Op prog w G C (compareOp .Eq va vb) st K := .mk fun ex s E R =>
  (same_at gk R hs ha hb hu).2 a b rfl rfl prog w E _ ⟨.bool true, st, rfl, R, h⟩
theorem op_ne_same (gk : GOk G) {d : Nat} {a b : Addr} {xs ys : List AV} {va vb : Value} {K : AV → St → Prop} (hx : st.hp a = some (.tup xs)) (hy : st.hp b = some (.tup ys)) (hl : xs.length = ys.length) (hs : ∀ (i : Nat) (x y : AV), xs[i]? = some x → ys[i]? = some y → Same st.hp d x y) (hu : C.A.units + (d + 1) < cLine) (ha : vabs va = some (.ref a)) (hb : vabs vb = some (.ref b)) (h : K (.bool false) st) : Op prog w G C (compareOp .NotEq va vb) st K := .mk fun ex s E R => by
  rw [vabs_ref ha, vabs_ref hb]
  obtain ⟨vs, h1, hab⟩ := R.tuple hx
  obtain ⟨us, h2, hbb⟩ := R.tuple hy
  have z1 : vs.size = xs.length := by rw [← hab.length, Array.length_toList]
  have z2 : us.size = ys.length := by rw [← hbb.length, Array.length_toList]
  refine RcNeAt.tuples (A := C.A) (s := s) (e := fun _ => true) h1 h2 (Nat.lt_of_le_of_lt (Nat.le_add_right _ _) ‹_›) (fun j j1 j2 => ?_) prog w E _ ?_
  · obtain ⟨x, hx, hvx⟩ := hab.get' (i := j) (v := vs[j]) (by simp [j1])
    obtain ⟨y, hy, hvy⟩ := hbb.get' (i := j) (v := us[j]) (by simp [j2])
    exact (same_at gk R (hs j x y hx hy) hvx hvy (by show C.A.units + 1 + d < cLine; lia)).1
  · have e : vs.size = us.size := by lia
    exact ⟨.bool false, st, by simp only [e, List.all_eq_true.mpr fun _ _ => rfl, beq_self_eq_true]; rfl, R, h⟩
end
end Mine
end
section
open PySem PySem.W PySem.Calls PyProof.Rows
set_option Elab.async false
set_option linter.unusedVariables false
set_option maxRecDepth 100000
namespace Mine
variable {prog : Program} {w : World}
noncomputable def boundB (K : Frag) (D f : Addr) (name : Str) : Bool := methB K D f name && hasDictIn K D && (specialIn K (.ref f) "__get__" == some (some (.builtin "function.__get__"))) && (takesIn K (.ref f) == some false) && !copiedNames.contains name && fnIn K f
section
variable {G : Gl} {C : Cx} {scope : Scope} {st : St} {ex : Addr → Option Obj} {s : Shared}
theorem Real.bound (gk : GOk G) (R : Real prog w G C ex st s) {A : Around} {E : Value → Shared → Prop} {x D dx f : Addr} {as : List (Str × AV)} {name : Str} {Q : Value → Shared → Prop} (hx : st.hp x = some (.inst D dx)) (hd : st.hp dx = some (.attrs as)) (hb : boundB G.K D f name = true) (hn : eget as name = none)
    (h : ∀ q s', s'.heap.get? q = some (methodObj (.ref f) (.ref x)) → Real prog w G C (Mine.hold ex q (methodObj (.ref f) (.ref x))) st s' → ex q = none → Q (.ref q) s') : wpAny (model prog w) A (getAttr (.ref x) name true) Q E s := by
  obtain ⟨ens, k, hens, hod, I⟩ := R.instAt hx hd
  simp only [boundB, methB, Bool.and_eq_true, beq_iff_eq, Bool.not_eq_true'] at hb
  obtain ⟨⟨⟨⟨⟨⟨⟨b1, b2⟩, b3⟩, c1⟩, c2⟩, c3⟩, c4⟩, c5⟩ := hb
  have hl : getL name ens = some none := by
    have g := (hens.get name).2
    rw [hn] at g
    rw [(hens.get name).1]
    cases q : (ens.find? (·.key.isStr name)).map (·.val) with
    | none => rfl
    | some v => rw [q] at g; cases g
  refine get_bind (R.kin gk) I (plainGet_of b1).1 (findObj_fn c1 b2 c2 c3 c4 (by rw [lookIn_dict, hl])) (plainGet_of b1).2 (wpAny_call (fn_get (s := { s with toks := s.toks + 1 }) ((R.toks _).kin gk) b3 (handed_on rfl ?_)))
  have O := R.off_new none_of_size
  have R' : Real prog w G C ex st { s with heap := s.heap.push (methodObj (.ref f) (.ref x)), toks := s.toks + 1 } := R.heap fun b o e => Heap.get?_push_of_some _ e
  exact h _ _ (Heap.get?_push_size _ rfl) (R'.hold O (Heap.get?_push_size _ rfl)) O.ex
theorem bound_call {n : Nat} {f q : Addr} {x : Addr} {xs : List AV} {K : AV → Hp0 → Prop} (h : FnC prog w G n f (.ref x :: xs) st.hp K) (ok : COk C) (rm : Room n C) {ex0 : Addr → Option Obj} (hq0 : ex0 q = none) (hB : ∀ b o, G.B b = some o → ex0 b = some o) (R : Real prog w G C (Mine.hold ex0 q (methodObj (.ref f) (.ref x))) st s) {vs : List Value} (hv : Absl vs xs) {E : Value → Shared → Prop} :
    wpAny (model prog w) C.A (call (.ref q) vs) (fun v s' => E2 fun av st' => A4 (vabs v = some av) (Real prog w G C ex0 st' s') (st' = { st with hp := st'.hp }) (K av st'.hp)) E s := by
  have hq : s.heap.get? q = some (methodObj (.ref f) (.ref x)) := (R.drop hq0 hB).3
  refine wpAny_call (method_call hq (codeAny_mono (h.run C _ s E st (.ref x :: vs) ok rm rfl R (.cons rfl hv)) fun r s' z => ?_))
  cases r with
  | error e => exact z
  | ok fl =>
    cases fl with
    | ret v =>
      obtain ⟨av, hp', a1, a2, a3⟩ := z
      exact ⟨av, _, a1, (a2.drop hq0 hB).1, rfl, a3⟩
    | _ => exact z.elim
theorem ev_star2 (gk : GOk G) (B : Blk C scope) {n : Nat} (rm : Room n C) {f : Addr} {o e d : Expr} {name : Str} {ap p sp : Pos} {K : AV → St → Prop}
    (h : Ev prog w G C o st fun a st₁ => E4 fun x D dx as => A6 (a = .ref x) (st₁.hp x = some (.inst D dx)) (st₁.hp dx = some (.attrs as)) (boundB G.K D f name = true) (eget as name = none) (Es prog w G C [e, .Starred d sp] st₁ fun xs st₂ => FnC prog w G n f (.ref x :: xs) st₂.hp fun v hp' => K v { st₂ with hp := hp' }))
    (he : autoParam (eval (.Call (.Attribute o name ap) [e, .Starred d sp] [] p) C.env = (do
      let ov ← eval o C.env
      standAt ap.atName
      let fx ← holding [ov] (do pure (← getAttr ov name true, ([] : List Value)))
      callWith p fx.1 fx.2 (backTo p (starEach [e, .Starred d sp] C.env)) [])) tRfl) (hp : autoParam (plainE e = true) tRfl) : Ev prog w G C (.Call (.Attribute o name ap) [e, .Starred d sp] [] p) st K := .mk fun ex s E R => by
  rw [he]
  refine wpAny_bind (wpAny_mono (h.run ex s E R) (fun va s₁ hq181 => ?_) fun _ _ x => x)
  refine hide fun Pz hPz => ?_; (rcases hq181 with ⟨a, st₁, ha, R₁, x, D, dx, as, e1, hx, hd, hb, hn, h₁⟩) <;> (refine hPz ?_; clear hPz Pz)
  subst e1; rw [vabs_ref ha]
  refine wpAny_bind (wpAny_standAt (wpAny_bind (wpAny_holding (wpAny_bind (R₁.bound gk hx hd hb hn fun q s₂ hq R₂ hq0 => wpAny_pure ?_)))))
  have hf : fnIn G.K f = true := by simp only [boundB, Bool.and_eq_true] at hb; exact hb.2
  show wpAny _ _ (callWith p (.ref q) [] _ []) _ _ _
  rw [star_plain hp]
  refine ks_call (P := MethP G.K q f (.ref x)) (by show (false || _) = true; rfl) (keeps_M hf) (evalArgs_plain ?_)
  have h₂ := h₁.run p _ s₂ E R₂
  rw [star_plain hp] at h₂
  refine wpAny_mono h₂ (fun vs s₃ hq182 => ?_) fun _ _ x => x
  obtain ⟨xs, st₃, hxs, R₃, h₃⟩ := hq182
  refine ⟨⟨(R₃.drop hq0 R₁.base).3, R₃.kin gk⟩, ?_⟩
  exact wpAny_mono (bound_call h₃ B.ok rm hq0 R₁.base R₃ hxs) (fun v s₄ hq183 => by obtain ⟨av, st', a1, a2, a3, a4⟩ := hq183; exact ⟨av, st', a1, a2, by rw [a3]; exact a4⟩) fun _ _ x => x
theorem ev_lone (gk : GOk G) (B : Blk C scope) {n : Nat} (rm : Room n C) {f : Addr} {o d : Expr} {name : Str} {ap p sp : Pos} {K : AV → St → Prop}
    (h : Ev prog w G C o st fun a st₁ => E4 fun x D dx as => A6 (a = .ref x) (st₁.hp x = some (.inst D dx)) (st₁.hp dx = some (.attrs as)) (boundB G.K D f name = true) (eget as name = none) (Ev prog w G C d st₁ fun y st₂ => ∃ xs, Stars st₂ y xs ∧ FnC prog w G n f (.ref x :: xs) st₂.hp fun v hp' => K v { st₂ with hp := hp' }))
    (he : autoParam (eval (.Call (.Attribute o name ap) [.Starred d sp] [] p) C.env = (do
      let ov ← eval o C.env
      standAt ap.atName
      let fx ← holding [ov] (do pure (← getAttr ov name true, ([] : List Value)))
      callWith p fx.1 fx.2 (backTo p (starEach [.Starred d sp] C.env)) [])) tRfl) : Ev prog w G C (.Call (.Attribute o name ap) [.Starred d sp] [] p) st K := .mk fun ex s E R => by
  rw [he]
  refine wpAny_bind (wpAny_mono (h.run ex s E R) (fun va s₁ hq184 => ?_) fun _ _ x => x)
  refine hide fun Pz hPz => ?_; (rcases hq184 with ⟨a, st₁, ha, R₁, x, D, dx, as, e1, hx, hd, hb, hn, h₁⟩) <;> (refine hPz ?_; clear hPz Pz)
  subst e1; rw [vabs_ref ha]
  refine wpAny_bind (wpAny_standAt (wpAny_bind (wpAny_holding (wpAny_bind (R₁.bound gk hx hd hb hn fun q s₂ hq R₂ hq0 => wpAny_pure ?_)))))
  have hf : fnIn G.K f = true := by simp only [boundB, Bool.and_eq_true] at hb; exact hb.2
  show wpAny _ _ (callWith p (.ref q) [] (backTo p [(true, eval d C.env)]) []) _ _ _
  refine ks_call (P := MethP G.K q f (.ref x)) rfl (keeps_M hf) (ks_lone (wpAny_mono (h₁.run _ s₂ E R₂) (fun y s₃ hy39 => ?_) fun _ _ x => x))
  obtain ⟨yv, st₃, hy, R₃, xs, hx2, h₂⟩ := hy39
  refine star_of gk B.ok R₃ hy hx2 fun vs s' hvs R' => ?_
  refine ⟨⟨(R'.drop hq0 R₁.base).3, R'.kin gk⟩, ?_⟩
  exact wpAny_mono (bound_call h₂ B.ok rm hq0 R₁.base R' hvs) (fun v s₄ hq186 => by obtain ⟨av, st', a1, a2, a3, a4⟩ := hq186; exact ⟨av, st', a1, a2, by rw [a3]; exact a4⟩) fun _ _ x => x
end
end Mine
end
section
open PySem PySem.W PySem.Calls PyProof.Rows
set_option Elab.async false
set_option linter.unusedVariables false
set_option maxRecDepth 100000
namespace Mine
variable {prog : Program} {w : World}
inductive All2 {α β : Type} (R : α → β → Prop) : List α → List β → Prop
  | nil : All2 R [] []
  | cons {a b as bs} : R a b → All2 R as bs → All2 R (a :: as) (b :: bs)
section
variable {α β : Type} {R R' : α → β → Prop} {as : List α} {bs : List β}
theorem All2.length (h : All2 R as bs) : as.length = bs.length := by
  induction h with
  | nil => rfl
  | cons _ _ ih => simp [ih]
theorem All2.get (h : All2 R as bs) {i : Nat} {b : β} (e : bs[i]? = some b) : ∃ a, as[i]? = some a ∧ R a b := by
  induction h generalizing i with
  | nil => simp at e
  | @cons a b' as bs r _ ih =>
    cases i with
    | zero => simp at e; subst e; exact ⟨a, rfl, r⟩
    | succ i => simpa using ih (by simpa using e)
theorem All2.get' (h : All2 R as bs) {i : Nat} {a : α} (e : as[i]? = some a) : ∃ b, bs[i]? = some b ∧ R a b := by
  induction h generalizing i with
  | nil => simp at e
  | @cons a' b' as bs r _ ih =>
    cases i with
    | zero => simp at e; subst e; exact ⟨b', rfl, r⟩
    | succ i => simpa using ih (by simpa using e)
theorem All2.mono (h : All2 R as bs) (hr : ∀ a b, R a b → R' a b) : All2 R' as bs := by
  induction h with
  | nil => exact .nil
  | cons r _ ih => exact .cons (hr _ _ r) ih
theorem All2.append {as' : List α} {bs' : List β} (h : All2 R as bs) (h' : All2 R as' bs') : All2 R (as ++ as') (bs ++ bs') := by
  induction h with
  | nil => exact h'
  | cons r' _ ih => exact .cons r' ih
theorem All2.snoc {a : α} {b : β} (h : All2 R as bs) (r : R a b) : All2 R (as ++ [a]) (bs ++ [b]) := h.append (.cons r .nil)
theorem All2.of (hl : as.length = bs.length) (h : ∀ (i : Nat) (a : α) (b : β), as[i]? = some a → bs[i]? = some b → R a b) : All2 R as bs := by
  induction as generalizing bs with
  | nil => cases bs with | nil => exact .nil | cons _ _ => simp at hl
  | cons a as ih =>
    cases bs with
    | nil => simp at hl
    | cons b bs => exact .cons (h 0 a b rfl rfl) (ih (by simpa using hl) fun i x y hx hy => h (i + 1) x y (by simpa using hx) (by simpa using hy))
end
abbrev Rel (α : Type) := Hp → AV → α → Prop
noncomputable def Mono {α : Type} (R : Rel α) : Prop := ∀ h h' v x, Le h h' → R h v x → R h' v x
noncomputable def IntR : Rel Int := fun _ v i => v = .int i
noncomputable def StrR : Rel Str := fun _ v i => v = .str i
noncomputable def LstR {α : Type} (R : Rel α) : Rel (List α) := fun hp v xs => E2 fun a ys => A3 (v = .ref a) (hp a = some (.list ys)) (All2 (R hp) ys xs)
noncomputable def TupR {α : Type} (R : Rel α) : Rel (List α) := fun hp v xs => E2 fun a ys => A3 (v = .ref a) (hp a = some (.tup ys)) (All2 (R hp) ys xs)
noncomputable def DctR {α : Type} (R : Rel α) : Rel (List (Str × α)) := fun hp v es => E3 fun a ys ep => A4 (v = .ref a) (hp a = some (.dict ys ep)) (All2 (fun p q => p.1 = q.1 ∧ R hp p.2 q.2) ys es) ((es.map (·.1)).Nodup)
theorem IntR.mono : Mono IntR := fun _ _ _ _ _ h => h
theorem StrR.mono : Mono StrR := fun _ _ _ _ _ h => h
section
variable {α : Type} {R : Rel α}
theorem LstR.mono (m : Mono R) : Mono (LstR R) := fun h h' v x l hq187 => by obtain ⟨a, ys, e, ha, q⟩ := hq187; exact ⟨a, ys, e, l _ _ ha, q.mono fun y b => m h h' y b l⟩
theorem TupR.mono (m : Mono R) : Mono (TupR R) := fun h h' v x l hq188 => by obtain ⟨a, ys, e, ha, q⟩ := hq188; exact ⟨a, ys, e, l _ _ ha, q.mono fun y b => m h h' y b l⟩
theorem DctR.mono (m : Mono R) : Mono (DctR R) := fun h h' v x l hq189 => by obtain ⟨a, ys, ep, e, ha, q, n⟩ := hq189; exact ⟨a, ys, ep, e, l _ _ ha, q.mono fun y b r => ⟨r.1, m h h' _ _ l r.2⟩, n⟩
end
theorem ints_of {hp : Hp} : ∀ {ys : List AV} {ns : List Int}, All2 (IntR hp) ys ns → ys = ns.map .int := by
  intro ys ns h
  induction h with
  | nil => rfl
  | cons r _ ih => exact (congrArg (· :: _) r).trans (congrArg _ ih)
theorem ints_all {hp : Hp} : ∀ (ns : List Int), All2 (IntR hp) (ns.map .int) ns := by
  intro ns; induction ns with
  | nil => exact .nil
  | cons _ _ ih => exact .cons rfl ih
theorem strs_of {hp : Hp} : ∀ {ys : List AV} {ns : List Str}, All2 (StrR hp) ys ns → ys = ns.map .str := by
  intro ys ns h
  induction h with
  | nil => rfl
  | cons r _ ih => exact (congrArg (· :: _) r).trans (congrArg _ ih)
theorem strs_all {hp : Hp} : ∀ (ns : List Str), All2 (StrR hp) (ns.map .str) ns := by
  intro ns; induction ns with
  | nil => exact .nil
  | cons _ _ ih => exact .cons rfl ih
section
variable {α : Type}
noncomputable def look (es : List (Str × α)) (k : Str) : Option α := (es.find? fun p => p.1 = k).map (·.2)
noncomputable def putk (es : List (Str × α)) (k : Str) (v : α) : List (Str × α) :=
  if es.any (fun p => p.1 = k) then es.map (fun p => if p.1 = k then (p.1, v) else p) else es ++ [(k, v)]
theorem look_nil (k : Str) : look ([] : List (Str × α)) k = none := rfl
theorem look_cons (p : Str × α) (es : List (Str × α)) (k : Str) : look (p :: es) k = if p.1 = k then some p.2 else look es k := by
  unfold look
  by_cases q : p.1 = k
  · simp [q]
  · simp [q]
theorem look_none {es : List (Str × α)} {k : Str} : look es k = none ↔ k ∉ es.map (·.1) := by
  induction es with
  | nil => simp [look_nil]
  | cons p r ih =>
    rw [look_cons]
    by_cases q : p.1 = k
    · simp [q]
    · simp only [if_neg q, ih, List.map_cons, List.mem_cons, not_or]
      exact ⟨fun h => ⟨fun e => q e.symm, h⟩, fun h => h.2⟩
theorem any_iff {es : List (Str × α)} {k : Str} : es.any (fun p => decide (p.1 = k)) = true ↔ k ∈ es.map (·.1) := by
  simp [List.any_eq_true]
theorem look_append {es fs : List (Str × α)} {k : Str} : look (es ++ fs) k = (look es k).or (look fs k) := by
  induction es with
  | nil => simp [look_nil]
  | cons p r ih => simp only [List.cons_append, look_cons, ih]; split <;> simp
theorem look_mapput {es : List (Str × α)} {k k' : Str} {v : α} : look (es.map fun p => if p.1 = k then (p.1, v) else p) k' = if k' = k then (look es k).map (fun _ => v) else look es k' := by
  induction es with
  | nil => simp [look_nil]
  | cons p r ih =>
    simp only [List.map_cons, look_cons, ih]
    by_cases q : p.1 = k
    · by_cases z : k' = k
      · simp [q, z]
      · have : k ≠ k' := fun e => z e.symm
        simp [q, z, this]
    · by_cases z : k' = k
      · simp [q, z]
      · simp only [if_neg q, if_neg z]
theorem look_putk {es : List (Str × α)} {k k' : Str} {v : α} : look (putk es k v) k' = if k' = k then some v else look es k' := by
  unfold putk
  split
  · rename_i h
    rw [look_mapput]
    split
    · have := any_iff.mp h
      cases q : look es k with
      | none => exact absurd this (look_none.mp q)
      | some _ => rfl
    · rfl
  · rename_i h
    rw [look_append, look_cons, look_nil]
    by_cases z : k' = k
    · subst z
      have : look es k' = none := look_none.mpr fun hm => h (any_iff.mpr hm)
      simp [this]
    · have : k ≠ k' := fun e => z e.symm
      simp [z, this]
theorem keys_mapput {es : List (Str × α)} {k : Str} {v : α} : (es.map fun p => if p.1 = k then (p.1, v) else p).map (·.1) = es.map (·.1) := by
  rw [List.map_map]
  refine List.map_congr_left fun p _ => ?_
  simp only [Function.comp]; split <;> rfl
theorem nodup_putk {es : List (Str × α)} {k : Str} {v : α} (h : (es.map (·.1)).Nodup) : ((putk es k v).map (·.1)).Nodup := by
  unfold putk
  split
  · rw [keys_mapput]; exact h
  · rename_i q
    rw [List.map_append, List.nodup_append]
    refine ⟨h, by simp, fun a ha b hb => ?_⟩
    simp at hb; subst hb
    exact fun e => q (any_iff.mpr (e ▸ ha))
theorem length_putk {es : List (Str × α)} {k : Str} {v : α} : (putk es k v).length ≤ es.length + 1 := by
  unfold putk; split <;> simp
theorem look_mem {es : List (Str × α)} (h : (es.map (·.1)).Nodup) {k : Str} {v : α} : (k, v) ∈ es ↔ look es k = some v := by
  induction es with
  | nil => simp [look_nil]
  | cons p r ih =>
    simp only [List.map_cons, List.nodup_cons] at h
    rw [look_cons, List.mem_cons]
    by_cases q : p.1 = k
    · rw [if_pos q]
      constructor
      · rintro (e | e)
        · rw [← e]
        · exact absurd (List.mem_map_of_mem (f := (·.1)) e) (by rw [← q]; exact h.1)
      · intro e; left; rw [← Option.some.inj e, ← q]
    · rw [if_neg q, ← ih h.2]
      constructor
      · rintro (e | e)
        · exact absurd (by rw [← e]) q
        · exact e
      · exact .inr
end
section
variable {α : Type} {R : Rel α} {hp : Hp}
theorem aget_look : ∀ {ys : List (Str × AV)} {es : List (Str × α)} (h : All2 (fun p q => p.1 = q.1 ∧ R hp p.2 q.2) ys es) (k : Str), (aget ys k = none ∧ look es k = none) ∨ E2 fun y x => A3 (aget ys k = some y) (look es k = some x) (R hp y x) := by
  intro ys es h k
  induction h with
  | nil => exact .inl ⟨rfl, rfl⟩
  | @cons p q r t e h ih =>
    have a1 : aget (p :: r) k = if p.1 = k then some p.2 else aget r k := look_cons p r k
    rw [a1, look_cons, ← e.1]
    by_cases z : p.1 = k
    · simp only [if_pos z]; exact .inr ⟨_, _, rfl, rfl, e.2⟩
    · simp only [if_neg z]; exact ih
theorem aput_rel {ys : List (Str × AV)} {es : List (Str × α)} (h : All2 (fun p q => p.1 = q.1 ∧ R hp p.2 q.2) ys es) (k : Str) {y : AV} {x : α} (r : R hp y x) : All2 (fun p q => p.1 = q.1 ∧ R hp p.2 q.2) (aput ys k y) (putk es k x) := by
  have hk : ys.map (·.1) = es.map (·.1) := by
    clear r
    induction h with
    | nil => rfl
    | cons e _ ih => simp [e.1, ih]
  have ha : ys.any (fun p => decide (p.1 = k)) = es.any (fun p => decide (p.1 = k)) := by
    rw [Bool.eq_iff_iff, any_iff, any_iff, hk]
  unfold aput putk
  rw [ha]
  split
  · rename_i hz
    clear ha hk hz
    induction h with
    | nil => exact .nil
    | @cons p q ps qs e _ ih =>
      simp only [List.map_cons]
      refine .cons ?_ ih
      rw [e.1]
      split
      · exact ⟨rfl, r⟩
      · exact e
  · exact h.snoc ⟨rfl, r⟩
end
end Mine
end
section
open PySem PySem.W PySem.Calls PyProof.Rows
set_option Elab.async false
set_option linter.unusedVariables false
set_option maxRecDepth 100000
namespace Mine
variable {prog : Program} {w : World}
section
variable {G : Gl} {C : Cx} {scope : Scope} {st : St}
noncomputable def SrcK.keeps (sk : SrcK) (hp : Hp) : Prop := ∀ hp', Le hp hp' → sk.P hp'
theorem keeps_list {l : Addr} {xs : List AV} {hp : Hp} (e : hp l = some (.list xs)) : (SrcK.list l xs).keeps hp := fun hp' l' => l' _ _ e
theorem keeps_range {a : Int} {n : Nat} {hp : Hp} : (SrcK.range a n).keeps hp := fun hp' l' => trivial
theorem keeps_vals {l : Addr} {es : List (Str × AV)} {ep : Nat} {hp : Hp} (e : hp l = some (.dict es ep)) : (SrcK.vals l es ep).keeps hp := fun hp' l' => l' _ _ e
theorem for_r (gk : GOk G) (B : Blk C scope) (i : Nat) (I : Nat → St → Prop) {x : Str} {p q np rp : Pos} {es : List Expr} {body : List Stmt} {K : AFlow → St → Prop} (hm : nsIn G.K mainGlobals (Str.ofString "range") = some none)
    (h : Es prog w G C es st fun xs st₁ => E2 fun a b => A6 (rangeArgs xs = some (a, b)) (a.natAbs < 2 ^ 40) (b.natAbs < 2 ^ 40) (I 0 st₁) (∀ (j : Nat) st, j < (b - a).toNat → I j st → Exs prog w G C body (st.set i (.int (a + j))) fun f st' => match f with | .next => I (j + 1) st' | .cont => I (j + 1) st' | .brk => K .next st' | .ret v => K (.ret v) st') (∀ st, I (b - a).toNat st → K .next st))
    (hp : autoParam (es.all plainE = true) tRfl) (hk : autoParam (gloB scope (Str.ofString "range") = true) tRfl) (hs : autoParam (∀ x, foldedSetIterable (.Call (.Name (Str.ofString "range") np) es [] rp) C.env x = pure x) tAll)
    (hx : autoParam (C.ns i = x) tRfl) (hN : autoParam (i < C.N) tLe) (hi : autoParam (locB scope (C.ns i) = true) tRfl) : Ex prog w G C (.For (.Name x p) (.Call (.Name (Str.ofString "range") np) es [] rp) body [] q) st K := by
  refine for_n B i (src_rng gk B hm (Es.mono h fun xs st₁ hy40 => ?_) hp hk) hs hx hN hi
  obtain ⟨a, b, h1, h2, h3, h4, h5, h6⟩ := hy40
  refine ⟨a, b, h1, h2, h3, trivial, ?_⟩
  refine for_inv I h4 (fun j x st hx hI => ?_) (fun st hI => h6 st (by simpa [one_l, one_t, one_r, one_v, one_k, rng_length] using hI))
  have hj : j < (b - a).toNat := by
    have := (List.getElem?_eq_some_iff.mp hx).1
    simpa [one_l, one_t, one_r, one_v, one_k, rng_length] using this
  have : x = .int (a + j) := by
    simp only [one_l, one_t, one_r, one_v, one_k, List.getElem?_map, rng_get _ _ _ hj, Option.map_some, Option.some.injEq] at hx
    exact hx.symm
  subst this
  refine Exs.mono (h5 j st hj hI) fun f st' z => ?_
  cases f with
  | next => exact ⟨trivial, z⟩
  | cont => exact ⟨trivial, z⟩
  | _ => exact z
inductive LxC {α : Type} (R : Rel α) (K : AV → St → Prop) (a b : AV) (st : St) : Prop
  | mk (xs : List α) (k : Nat) (x : α) (h1 : LstR R st.hp a xs) (h2 : xs.length ≤ 1000) (h3 : b = .int k) (h4 : xs[k]? = some x) (h5 : ∀ y, R st.hp y x → K y st)
noncomputable def lxK {α : Type} (prog : Program) (w : World) (G : Gl) (C : Cx) (i : Expr) (R : Rel α) (K : AV → St → Prop) : AV → St → Prop := fun a st₁ => Ev prog w G C i st₁ (LxC R K a)
theorem ev_lx {α : Type} {R : Rel α} {o i : Expr} {p : Pos} {K : AV → St → Prop} (h : Ev prog w G C o st (lxK prog w G C i R K)) (hs : autoParam (∀ o' i', subscripted i false o' i' = operate [o', i'] (getItem o' i')) tAll) : Ev prog w G C (.Subscript o i p) st K :=
  ev_at (Ev.mono h fun a st₁ h₁ => Ev.mono h₁ fun b st₂ hq191 => by
    refine hide fun Pz hPz => ?_; (rcases hq191 with ⟨xs, k, x, ⟨l, ys, e1, e2, e3⟩, hl, e4, e5, h₂⟩) <;> (refine hPz ?_; clear hPz Pz)
    subst e1 e4
    obtain ⟨y, hy, hr⟩ := e3.get e5
    exact ⟨y, .nat e2 hy (by rw [e3.length]; exact hl), h₂ y hr⟩) hs
inductive DxC {α : Type} (R : Rel α) (K : AV → St → Prop) (a b : AV) (st : St) : Prop
  | mk (es : List (Str × α)) (k : Str) (x : α) (h1 : DctR R st.hp a es) (h2 : b = .str k) (h3 : look es k = some x) (h4 : ∀ y, R st.hp y x → K y st)
noncomputable def dxK {α : Type} (prog : Program) (w : World) (G : Gl) (C : Cx) (i : Expr) (R : Rel α) (K : AV → St → Prop) : AV → St → Prop := fun a st₁ => Ev prog w G C i st₁ (DxC R K a)
theorem ev_dx {α : Type} {R : Rel α} {o i : Expr} {p : Pos} {K : AV → St → Prop} (h : Ev prog w G C o st (dxK prog w G C i R K)) (hs : autoParam (∀ o' i', subscripted i false o' i' = operate [o', i'] (getItem o' i')) tAll) : Ev prog w G C (.Subscript o i p) st K :=
  ev_at (Ev.mono h fun a st₁ h₁ => Ev.mono h₁ fun b st₂ hq192 => by
    refine hide fun Pz hPz => ?_; (rcases hq192 with ⟨es, k, x, ⟨l, ys, ep, e1, e2, e3, _⟩, e4, e5, h₂⟩) <;> (refine hPz ?_; clear hPz Pz)
    subst e1 e4
    rcases aget_look e3 k with ⟨_, q⟩ | ⟨y, x', q1, q2, q3⟩
    · rw [e5] at q; cases q
    · rw [e5] at q2; cases q2
      exact ⟨y, .dict e2 q1, h₂ y q3⟩) hs
noncomputable def stc (caps : List Nat) (i : Nat) (y : AV) (st : St) (hp : Hp) : St := ⟨fun k => if k = i then some y else if k ∈ caps then st.loc k else none, hp⟩
variable (prog w) in
noncomputable def LMap (G : Gl) (C : Cx) (i : Nat) (iter : Expr) (scope : Scope) (caps : List Nat) {α β : Type} (R0 : Rel α) (R : Rel β) (test : α → Bool) (f : α → β) (ifs : List Expr) (elt : Expr) (st : St) (K : AV → St → Prop) : Prop :=
  Src prog w G C iter st fun sk st₁ => A3 sk.single (sk.keeps st₁.hp) (∃ xs : List α, A4 (All2 (R0 st₁.hp) sk.one xs) (xs.length ≤ 1000) (∀ env own fr, Blk ⟨C.A, env, C.ns, C.N, own, fr⟩ scope → ∀ x ∈ xs, ∀ y hp, Le st₁.hp hp → R0 hp y x →
      Ts prog w G ⟨C.A, env, C.ns, C.N, own, fr⟩ ifs (stc caps i y st₁ hp) fun b st' => A3 (st' = stc caps i y st₁ hp) (b = test x) (test x = true → Ev prog w G ⟨C.A, env, C.ns, C.N, own, fr⟩ elt (stc caps i y st₁ hp) fun z st' => A3 (st'.loc = (stc caps i y st₁ hp).loc) (Le hp st'.hp) (R st'.hp z (f x)))) (∀ a hp', st₁.hp a = none → Le st₁.hp hp' → LstR R hp' (.ref a) ((xs.filter test).map f) → K (.ref a) ⟨st₁.loc, hp'⟩))
theorem LMap.to {i : Nat} {x : Str} {p : Pos} {iter elt : Expr} {ifs : List Expr} {scope' : Scope} {caps : List Nat} {α β : Type} {R0 : Rel α} {R : Rel β} (m0 : Mono R0) (m : Mono R) {test : α → Bool} {f : α → β} {K : AV → St → Prop}
    (h : LMap prog w G C i iter scope' caps R0 R test f ifs elt st K) (hc : i ∉ caps) (hx : C.ns i = x) (hN : i < C.N) (hi : locB scope' (C.ns i) = true) : LC prog w G C (.Name x p) iter elt ifs scope' caps st K := by
  refine .mk fun ex s E R' => wpAny_mono (h.run ex s E R') (fun v s₁ h₁ => wpAny_mono h₁ (fun it s₂ hy41 => ?_) fun _ _ x => x) fun _ _ x => x
  refine hide fun Pz hPz => ?_; (rcases hy41 with ⟨I, sk, st₁, e1, R₁, O, hI, hP, hsg, hkp, xs, hall, hlen, hel, hK⟩) <;> (refine hPz ?_; clear hPz Pz)
  refine ⟨I, sk, st₁, e1, R₁, O, hI, hP, ?_⟩
  intro env own fr B'
  refine ⟨AV, sk.one, fun y st => st.set i y, tg_n B' i hsg hx hN hi, ?_⟩
  refine comp_inv (fun j acc st' => A3 (Le st₁.hp st'.hp) (∀ k, k ≠ i → st'.loc k = if k ∈ caps then st₁.loc k else none) (All2 (R st'.hp) acc (((xs.take j).filter test).map f))) ⟨Le.refl _, fun k _ => rfl, by simpa using All2.nil⟩ ?_ ?_
  · rintro j y acc ⟨loc, hp⟩ hy ⟨hle, hloc, hacc⟩
    obtain ⟨x', hx', hr⟩ := hall.get' hy
    have hst : St.set ⟨loc, hp⟩ i y = stc caps i y st₁ hp := by
      unfold St.set stc
      congr 1
      funext k
      by_cases q : k = i
      · simp [q]
      · simp only [if_neg q]; exact hloc k q
    rw [hst]
    have htk : (xs.take (j + 1)) = xs.take j ++ [x'] := by rw [List.take_add_one, hx']; rfl
    refine Ts.mono (hel env own fr B' x' (List.mem_of_getElem? hx') y hp hle (m0 _ _ _ _ hle hr)) fun b st' hq195 => ?_
    obtain ⟨e2, e3, h3⟩ := hq195
    subst e2 e3
    cases hb : test x' with
    | true =>
      rw [if_pos rfl]
      refine Ev.mono (h3 hb) fun z st'' hy42 => ?_
      obtain ⟨e4, hle', hr'⟩ := hy42
      refine ⟨?_, hkp _ (hle.trans hle'), hle.trans hle', ?_, ?_⟩
      · rw [hacc.length]; simp only [List.length_map]
        have h1 := List.length_filter_le test (xs.take j)
        have h2 : (xs.take j).length ≤ xs.length := by simp; lia
        lia
      · intro k hk; rw [e4]; simp only [stc, if_neg hk]
      · rw [htk, List.filter_append, List.map_append]
        have : ([x'].filter test).map f = [f x'] := by simp [List.filter, hb]
        rw [this]
        exact (hacc.mono fun a b q => m _ _ _ _ hle' q).snoc hr'
    | false =>
      rw [if_neg (by simp)]
      refine ⟨hkp _ hle, hle, ?_, ?_⟩
      · intro k hk; simp only [stc, if_neg hk]
      · rw [htk, List.filter_append, List.map_append]
        have : ([x'].filter test).map f = [] := by simp [List.filter, hb]
        rw [this, List.append_nil]
        exact hacc
  · rintro acc st₂ ⟨hle, hloc, hacc⟩ a ha
    have hl : sk.one.length = xs.length := hall.length
    rw [hl, List.take_length] at hacc
    exact hK _ _ (hle.none ha) (hle.put (hle.none ha)) ⟨a, acc, rfl, hset_self _ _ _, hacc.mono fun y b q => m _ _ _ _ (Le.new ha) q⟩
theorem ev_map (B : Blk C scope) (i : Nat) {x : Str} {p pos : Pos} {iter elt : Expr} {ifs : List Expr} {scope' : Scope} (caps : List Nat) {α β : Type} {R0 : Rel α} {R : Rel β} (m0 : Mono R0) (m : Mono R) {test : α → Bool} (f : α → β) {K : AV → St → Prop}
    (h : LMap prog w G C i iter scope' caps R0 R test f ifs elt st K) (hc : autoParam (i ∉ caps) tDec) (hx : autoParam (C.ns i = x) tRfl) (hN : autoParam (i < C.N) tLe) (hi : autoParam (locB scope' (C.ns i) = true) tRfl)
    (hb : autoParam (compB scope scope' C.ns C.N caps = true) tRfl) (hs : autoParam (∀ x, foldedSetIterable iter C.env x = pure x) tAll) (hk : autoParam (scope'.kind = .function) tRfl) : Ev prog w G C (.ListComp elt [⟨.Name x p, iter, ifs, 0⟩] scope' pos) st K :=
  ev_lc B caps (h.to m0 m hc hx hN hi) hb hs hk
theorem set_map (B : Blk C scope) (n : Nat) (i : Nat) {xn x : Str} {pn q p pos : Pos} {iter elt : Expr} {ifs : List Expr} {scope' : Scope} (caps : List Nat) {α β : Type} {R0 : Rel α} {R : Rel β} (m0 : Mono R0) (m : Mono R) {test : α → Bool} (f : α → β) {K : AFlow → St → Prop}
    (h : LMap prog w G C i iter scope' caps R0 R test f ifs elt st fun v st₁ => K .next (st₁.set n v)) (hc : autoParam (i ∉ caps) tDec)
    (hlk : autoParam (scope.names.lookup xn = some .local) tRfl) (hpl : autoParam ((pn.line == pos.line) = true) tRfl) (hsn : autoParam ((scope'.names.any fun y => y.1 == xn && (y.2 == .local || y.2 == .cell)) = false) tRfl)
    (hxn : autoParam (C.ns n = xn) tRfl) (hNn : autoParam (n < C.N) tLe) (hin : autoParam (locB scope (C.ns n) = true) tRfl)
    (hx : autoParam (C.ns i = x) tRfl) (hN : autoParam (i < C.N) tLe) (hi : autoParam (locB scope' (C.ns i) = true) tRfl)
    (hb : autoParam (compB scope scope' C.ns C.N caps = true) tRfl) (hs : autoParam (∀ x, foldedSetIterable iter C.env x = pure x) tAll) (hk : autoParam (scope'.kind = .function) tRfl) : Ex prog w G C (.Assign [.Name xn pn] (.ListComp elt [⟨.Name x p, iter, ifs, 0⟩] scope' pos) q) st K :=
  set_lc B n caps (h.to m0 m hc hx hN hi) hlk hpl hsn hxn hNn hin hb hs hk
noncomputable def NatR : Rel Nat := fun _ v n => v = .int n
theorem NatR.mono : Mono NatR := fun _ _ _ _ _ h => h
theorem rng_nats {hp : Hp} : ∀ (n a : Nat), All2 (NatR hp) ((rng a n).map .int) (List.range' a n) := by
  intro n
  induction n with
  | zero =>
    intro _
    exact .nil
  | succ n ih =>
    intro a
    rw [List.range'_succ]
    exact .cons rfl (ih (a + 1))
theorem range_nats {hp : Hp} (n : Nat) : All2 (NatR hp) ((rng 0 n).map .int) (List.range n) := by
  rw [List.range_eq_range']; exact rng_nats n 0
theorem map_range (gk : GOk G) (B : Blk C scope) {i : Nat} {np rp cp : Pos} {kk : Nat} {n : Nat} {scope' : Scope} {caps : List Nat} {β : Type} {R : Rel β} {test : Nat → Bool} {f : Nat → β} {ifs : List Expr} {elt : Expr} {K : AV → St → Prop} (hm : nsIn G.K mainGlobals (Str.ofString "range") = some none) (hn : n ≤ 1000)
    (hel : ∀ env own fr, Blk ⟨C.A, env, C.ns, C.N, own, fr⟩ scope' → ∀ x, x < n → ∀ hp, Le st.hp hp →
      Ts prog w G ⟨C.A, env, C.ns, C.N, own, fr⟩ ifs (stc caps i (.int x) st hp) fun b st' => A3 (st' = stc caps i (.int x) st hp) (b = test x) (test x = true → Ev prog w G ⟨C.A, env, C.ns, C.N, own, fr⟩ elt (stc caps i (.int x) st hp) fun z st' => A3 (st'.loc = (stc caps i (.int x) st hp).loc) (Le hp st'.hp) (R st'.hp z (f x))))
    (hK : ∀ a hp', st.hp a = none → Le st.hp hp' → LstR R hp' (.ref a) (((List.range n).filter test).map f) → K (.ref a) ⟨st.loc, hp'⟩) (hk : autoParam (gloB scope (Str.ofString "range") = true) tRfl) :
    LMap prog w G C i (.Call (.Name (Str.ofString "range") np) [.Constant (.int n) kk cp] [] rp) scope' caps NatR R test f ifs elt st K :=
  src_rng gk B hm (es_c (ev_int (es_nil ⟨0, n, rfl, by decide, by lia, trivial, keeps_range, List.range n, by show All2 _ ((rng 0 ((n : Int) - 0).toNat).map AV.int) _; simpa using range_nats n, by simpa using hn, fun env own fr B' x hx y hp hle hy => by
    subst hy; exact hel env own fr B' x (by simpa using hx) hp hle, hK⟩))) rfl hk
end
end Mine
end
section
open PySem PySem.W PyProof.Rows
set_option Elab.async false
set_option maxRecDepth 100000
set_option maxHeartbeats 8000000
namespace Mine
noncomputable def vw : Program := view PySem.Challenge.pw_mj0227_01 [0, 2, 3, 4, 6, 7, 8, 9, 10, 12, 13, 14, 15, 16, 17, 18, 19, 20, 21, 22, 23, 24, 25]
abbrev theRow : OpenRow := OpenLaw.row PySem.Challenge.rw_mj0227_01
theorem rowSaid : theRow.wellSaid = true := by
  rw [Fast.te17960256430627541270]
  kernel_rfl
theorem said0 : PySem.Challenge.rw_mj0227_01.wellSaid = true := by
  unfold OpenLaw.wellSaid
  rw [show (OpenLaw.row PySem.Challenge.rw_mj0227_01).wellSaid = true from rowSaid]
  kernel_rfl
section
open PySem.W.Fast
noncomputable def opened (p : Program) (w : World) (N : Nat) : Option Shared := (tw10274390034422433532 tw14364793385576792824 (opening p) w N (tw1435165496053646825 (opening p)).1 (tw1435165496053646825 (opening p)).2).bind (tw14289696077712309145 p)
theorem opened_eq (p : Program) (w : World) (N : Nat) : fencedOpening treeTable p w N = opened p w N := by
  unfold fencedOpening opened
  rw [te10274390034422433532, te14364793385576792824, te1435165496053646825, te14289696077712309145]
noncomputable def ranTop (p : Program) (w : World) (N : Nat) (s₀ : Shared) : Option Shared := tw14082659384304107361 tw14364793385576792824 p w s₀.heap.objs.size (tw8920871248978507458 s₀.heap mainGlobals "__annotations__") N s₀ (topStub p)
theorem ranTop_eq (p : Program) (w : World) (N : Nat) (s₀ : Shared) : topRun treeTable p w s₀.heap.objs.size (s₀.heap.nsMap mainGlobals "__annotations__") N s₀ (topStub p) = ranTop p w N s₀ := by
  unfold ranTop
  rw [te14082659384304107361, te14364793385576792824, te8920871248978507458]
end
noncomputable def endsQ (p : Program) (w : World) (N : Nat) : Option Shared := (opened p w N).bind fun s₀ => match s₀.heap.isNs mainGlobals && s₀.gens.size == 0 with
  | true => (ranTop p w N s₀).bind fun s₁ => match staticsOk (importedModules p.main.body) s₀.heap s₁.heap && namesBound p s₁.heap && gensDone s₁ && laidKept s₀.heap s₁.heap with
      | true => some s₁
      | false => none
  | false => none
theorem ends_eq (p : Program) (w : World) (N : Nat) : openEnds treeTable p w N = endsQ p w N := by
  unfold openEnds endsQ
  rw [opened_eq]
  congr 1
  funext s₀
  unfold topFrom
  rw [ranTop_eq]
  rfl
noncomputable def xt (s : Shared) : Bool := xlAt vw [] s && recOk (RowW.records (OpenRow.toRowW theRow)) s
abbrev LeftQ (H : Hook) : Prop := ∀ w, (endsQ theRow.prog w 3292).map (fun s => (Fast.tw4187177175401517315 vw [Str.ofString "_NodeInfo"] (importedModules theRow.prog.main.body) xt true s, H.obs s)) = some (openGood vw [Str.ofString "_NodeInfo"], H.val w)
theorem head_ok (H : Hook) {d : DefRec} {kwd : List (Str × Expr)} (hdef : defOf vw theRow.name = some (d, kwd)) (hp : theRow.prog.theDef theRow.name = some (d.params, d.body, d.scope)) (hk : kwWritten? d.params.kwonlyargs d.params.kw_defaults = some kwd)
    (hl : LeftQ H) (hw : theRow.toRowW.promised)
    (hc : WalkO vw [Str.ofString "_NodeInfo"] (XL vw []) (Hook.says H) theRow.toRowW d kwd fun f vs => PySem.call f vs) : theRow.Holds :=
  holds_open (Xt := xt) (N := 3292) (fun w => by rw [ends_eq, Fast.te4187177175401517315]; exact hl w) (Hook.of H) (Hook.keeps H) (fun s e => xl_of s (Bool.and_eq_true_iff.mp e).1) XL.keeps hdef hp hk (fun s e => recFacts_of (Bool.and_eq_true_iff.mp e).2) rfl rowSaid (by decide +kernel) ⟨rfl, rfl, rfl, rfl, rfl, by decide +kernel⟩ hw hc
local macro_rules | `(tactic| o_law) => `(tactic| refine holds_law said0 fun said => ?_)
local macro_rules | `(tactic| o_head $H) => `(tactic| (refine head_ok $H (by rfl) (by rfl) (by rfl) ?hl ?hw ?hc; case hl => (intro w; kernel_rfl)))
open_top hd for PySem.Challenge.rw_mj0227_01
end Mine
end
section
open PySem PySem.W PySem.Calls PyProof.Rows
set_option Elab.async false
set_option linter.unusedVariables false
set_option maxRecDepth 100000
set_option maxHeartbeats 4000000
namespace Mine
variable {prog : Program} {w : World}
section
variable {G : Gl} {P : Params}
noncomputable def dsum (es : List (Str × Int)) : Int := (es.map (·.2)).sum
theorem count_calls_ok (gk : GOk G) (hK : G.K = hd.heap_1 P) {n : Nat} {v : AV} {es : List (Str × Int)} {hp : Hp} (e : DctR IntR hp v es) : FnC prog w G (n + 1) 42 [v] hp fun v hp' => hp' = hp ∧ v = .int (dsum es) := by
  obtain ⟨d, ys, ep, rfl, hd, ha, hnd⟩ := e
  have hys : ys.map (·.2) = (es.map (·.2)).map AV.int := by
    clear hd hnd
    induction ha with
    | nil => rfl
    | cons r _ ih => simp only [List.map_cons, ih]; rw [show _ = _ from r.2]
  refine fn_b gk ["callers", "nc", "calls"] 1 (by exact lkK hK rfl) (by exact cdK hK rfl) fun A env own fr B rm hcd => ?_
  refine Exs.hide fun κ hκ => ?_
  refine exs_cons (set_n B 1 (ev_int ?_))
  refine exs_cons (for_n B 2 (src_vals gk rfl rfl (ev_n B 0 rfl ?_)))
  refine ⟨d, _, ep, rfl, hd, trivial, ?_⟩
  refine for_inv (fun i st => st.hp = hp ∧ st.loc 1 = some (.int ((es.map (·.2)).take i).sum)) ⟨rfl, by simp [St.set]⟩ ?_ ?_
  · intro i x rr2 hx rr4
    refine Exs.hide fun κ hκ => ?_
    obtain ⟨loc, hp'⟩ := rr2
    obtain ⟨h1, h2⟩ := rr4
    subst h1
    simp only [one_l, one_t, one_r, one_v, one_k] at hx
    rw [hys, List.getElem?_map, Option.map_eq_some_iff] at hx
    obtain ⟨p, hp1, rfl⟩ := hx
    refine exs_cons (aug_n B 1 h2 (ev_n B 2 rfl ⟨_, _, rfl, rfl, exs_nil (hκ _ _ ⟨hd, rfl, ?_⟩)⟩))
    simp only [St.set, if_true, Function.comp]
    rw [List.take_add_one, hp1]
    simp
  · intro rr0 rr1
    obtain ⟨loc, hp'⟩ := rr0
    obtain ⟨h1, h2⟩ := rr1
    refine exs_cons (ex_return (ev_n B 1 h2 (hκ _ _ ⟨h1, ?_⟩)))
    have : (SrcK.vals d ys ep).one.length = (es.map (·.2)).length := by simp only [one_l, one_t, one_r, one_v, one_k]; rw [hys]; simp
    rw [this, List.take_length]; rfl
noncomputable def lawNames : List Str := ["main", "b", "", "a", "b2"]
theorem law_names_ok (gk : GOk G) (hK : G.K = hd.heap_1 P) {n : Nat} {hp : Hp} : FnC prog w G (n + 1) 169 [] hp fun v hp' => Le hp hp' ∧ LstR StrR hp' v lawNames := by
  refine fn_b gk [] 0 (by exact lkK hK rfl) (by exact cdK hK rfl) fun A env own fr B rm hcd => ?_
  refine Exs.hide fun κ hκ => ?_
  refine exs_cons (ex_return (ev_list (es_c (ev_str (es_c (ev_str (es_c (ev_str (es_c (ev_str (es_c (ev_str (es_nil ?_)))))))))))))
  exact ⟨by decide, fun a ha => hκ _ _ ⟨Le.new ha, a, _, rfl, hset_self _ _ _, strs_all lawNames⟩⟩
noncomputable def AnyR : Rel Unit := fun _ v _ => ∃ i, v = .int i
theorem AnyR.mono : Mono AnyR := fun _ _ _ _ _ h => h
theorem any_ints_of {hp : Hp} : ∀ {ys : List AV} {us : List Unit}, All2 (AnyR hp) ys us → ∃ ns : List Int, ns.length = us.length ∧ All2 (IntR hp) ys ns := by
  intro ys us h
  induction h with
  | nil => exact ⟨[], rfl, .nil⟩
  | cons r _ ih => obtain ⟨i, hi⟩ := r; obtain ⟨ns, hl, ha⟩ := ih; exact ⟨i :: ns, congrArg (· + 1) hl, .cons hi ha⟩
theorem law_cells_ok (gk : GOk G) (hK : G.K = hd.heap_1 P) {n : Nat} {l : Addr} {o : Obj} {xs : List Int} {hp : Hp} (e : hp l = some (.scr o xs)) (hxs : xs.length ≤ 1000) : FnC prog w G (n + 1) 174 [.ref l] hp fun v hp' => Le hp hp' ∧ ∃ cs : List Int, cs.length = 10 ∧ LstR IntR hp' v cs := by
  refine fn_b gk ["script", "start", "turn"] 1 (by exact lkK hK rfl) (by exact cdK hK rfl) fun A env own fr B rm hcd => ?_
  refine Exs.hide fun κ hκ => ?_
  refine exs_cons (set_n B 1 (ev_list ?_))
  iterate 6 refine es_c (ev_int ?_)
  refine es_c (ev_neg (ev_int ⟨_, rfl, ?_⟩))
  iterate 3 refine es_c (ev_int ?_)
  refine es_nil ?_
  refine ⟨by decide, fun a ha => ?_⟩
  have hL : LstR IntR (hset hp a (.list [.int 4, .int 9, .int 27, .int 54, .int 11, .int 3, .int (-27), .int 1, .int 18, .int 81])) (.ref a) [4, 9, 27, 54, 11, 3, -27, 1, 18, 81] := ⟨a, _, rfl, hset_self _ _ _, ints_all [4, 9, 27, 54, 11, 3, -27, 1, 18, 81]⟩
  refine exs_cons (ex_return ?_)
  refine ev_map B 2 [0, 1] NatR.mono AnyR.mono (test := fun _ => true) (fun _ => ()) ?_
  refine map_range (n := 10) gk B (by exact nsK hK rfl) (by decide) ?_ ?_
  refine fun env' own' fr' B' x hx hp1 hle => ts_nil ⟨rfl, rfl, fun _ => ?_⟩
  rotate_left
  refine fun v hp' _ hle hL' => ?_
  rotate_left
  · have hx' : ∃ y, [4, 9, 27, 54, 11, 3, -27, 1, 18, 81][x]? = some (y : Int) := ⟨_, List.getElem?_eq_getElem (by simpa using hx)⟩
    obtain ⟨y, hy⟩ := hx'
    refine ev_iop (ev_lx (R := IntR) (ev_n B' 1 rfl (ev_n B' 2 rfl ?_)))
    refine ⟨_, x, y, LstR.mono IntR.mono _ _ _ _ hle hL, by decide, rfl, hy, fun z hz => ?_⟩
    refine ev_bi gk B' (by exact nsK hK rfl) rfl ?_
    refine es_c ?_
    refine ev_slice_scr (ev_n B' 0 rfl (ev_n B' 2 rfl (ev_int ?_)))
    refine ⟨l, o, xs, _, _, rfl, rfl, rfl, by decide, hle _ _ ((Le.new ha) _ _ e), hxs, fun b ns hb => es_nil fun vs hvs => ?_⟩
    obtain ⟨v1, rfl, hv1⟩ := hvs.one
    rw [vabs_ref hv1]
    refine op_sum B'.ok (hset_self _ _ _) ⟨_, _, _, hz, rfl, rfl, rfl, Le.new hb, _, rfl⟩
  · refine hκ _ _ ⟨(Le.new ha).trans hle, ?_⟩
    obtain ⟨b, ys, e1, e2, e3⟩ := hL'
    obtain ⟨ns, h1, h2⟩ := any_ints_of e3
    exact ⟨ns, by rw [h1]; decide, b, ys, e1, e2, h2⟩
end
end Mine
end
section
open PySem PySem.W PySem.Calls PyProof.Rows
set_option Elab.async false
set_option linter.unusedVariables false
set_option maxRecDepth 100000
set_option maxHeartbeats 2000000
namespace Mine
variable {prog : Program} {w : World}
noncomputable def BRow (D : Hp) (hi : Int) (hp : Hp) (r : Addr) : Prop := D r = none ∧ ∃ xs : List Int, A3 (hp r = some (.list (xs.map .int))) (xs.length = 5) (∀ x ∈ xs, 0 ≤ x ∧ x ≤ hi)
noncomputable def BMat (D : Hp) (hi : Int) (hp : Hp) (v : AV) : Prop := E2 fun (a : Addr) (rs : List Addr) => A5 (v = .ref a) (D a = none) (hp a = some (.list (rs.map .ref))) (rs.length = 5) (∀ r ∈ rs, BRow D hi hp r)
theorem BMat.mono {D hp hp' : Hp} {hi : Int} {v : AV} (h : BMat D hi hp v) (l : Le hp hp') : BMat D hi hp' v := by
  obtain ⟨a, rs, e, d, ha, hl, hr⟩ := h
  exact ⟨a, rs, e, d, l _ _ ha, hl, fun r q => by obtain ⟨d', xs, b, c, f⟩ := hr r q; exact ⟨d', xs, l _ _ b, c, f⟩⟩
theorem BMat.wide {D hp : Hp} {hi hi' : Int} {v : AV} (h : BMat D hi hp v) (l : hi ≤ hi') : BMat D hi' hp v := by
  obtain ⟨a, rs, e, d, ha, hl, hr⟩ := h
  exact ⟨a, rs, e, d, ha, hl, fun r q => by obtain ⟨d', xs, b, c, f⟩ := hr r q; exact ⟨d', xs, b, c, fun x hx => ⟨(f x hx).1, Int.le_trans (f x hx).2 l⟩⟩⟩
theorem BMat.old {D hp : Hp} {hi : Int} {v : AV} {q : Addr} {A A' : AObj} (h : BMat D hi hp v) (hq : D q = some A') : BMat D hi (hset hp q A) v := by
  obtain ⟨a, rs, e, d, ha, hl, hr⟩ := h
  refine ⟨a, rs, e, d, (hset_other _ _ fun z => ?_).trans ha, hl, fun r hm => ?_⟩
  · rw [z, hq] at d; cases d
  · obtain ⟨d', xs, b, c, f⟩ := hr r hm
    exact ⟨d', xs, (hset_other _ _ fun z => by rw [z, hq] at d'; cases d').trans b, c, f⟩
theorem BMat.row {D hp : Hp} {hi : Int} {v : AV} {r : Addr} {xs xs' : List Int} (h : BMat D hi hp v) (hr : hp r = some (.list (xs.map .int))) (hl : xs.length = 5) (hl' : xs'.length = 5) (hx : ∀ x ∈ xs', 0 ≤ x ∧ x ≤ hi) : BMat D hi (hset hp r (.list (xs'.map .int))) v := by
  obtain ⟨a, rs, e, d, ha, hl2, hrs⟩ := h
  refine ⟨a, rs, e, d, (hset_other _ _ fun z => ?_).trans ha, hl2, fun r' hm => ?_⟩
  · rw [z, hr] at ha
    have ha := AObj.list.inj (Option.some.inj ha)
    cases xs with
    | nil => simp at hl
    | cons x xs => cases rs with
      | nil => simp at hl2
      | cons y ys => simp at ha
  · obtain ⟨d', ys, b, c, f⟩ := hrs r' hm
    by_cases z : r' = r
    · subst z; exact ⟨d', xs', hset_self _ _ _, hl', hx⟩
    · exact ⟨d', ys, (hset_other _ _ z).trans b, c, f⟩
noncomputable def PsOk (ps : List (List (List Int))) : Prop := ps.length = 3 ∧ ∀ m ∈ ps, m.length = 5 ∧ ∀ r ∈ m, r.length = 5 ∧ ∀ x ∈ r, 0 ≤ x ∧ x ≤ 3
theorem BMat.read {D hp : Hp} {v : AV} (h : BMat D 3 hp v) : ∃ m : List (List Int), A3 (LstR (LstR IntR) hp v m) (m.length = 5) (∀ r ∈ m, r.length = 5 ∧ ∀ x ∈ r, 0 ≤ x ∧ x ≤ 3) := by
  obtain ⟨a, rs, e, d, ha, hl, hr⟩ := h
  have key : ∀ rs : List Addr, (∀ r ∈ rs, BRow D 3 hp r) → ∃ m : List (List Int), All2 (LstR IntR hp) (rs.map .ref) m ∧ ∀ r ∈ m, r.length = 5 ∧ ∀ x ∈ r, 0 ≤ x ∧ x ≤ 3 := by
    intro rs
    induction rs with
    | nil => exact fun _ => ⟨[], .nil, fun r h => by cases h⟩
    | cons r rs ih =>
      intro h
      obtain ⟨m, h1, h2⟩ := ih fun r' q => h r' (.tail _ q)
      obtain ⟨_, xs, b, c, f⟩ := h r (.head _)
      exact ⟨xs :: m, .cons ⟨r, _, rfl, b, ints_all xs⟩ h1, fun r' q => by
        rcases List.mem_cons.mp q with rfl | q
        · exact ⟨c, f⟩
        · exact h2 r' q⟩
  obtain ⟨m, h1, h2⟩ := key rs hr
  exact ⟨m, ⟨a, _, e, ha, h1⟩, by rw [← h1.length]; simpa using hl, h2⟩
noncomputable def off : Nat → Nat
  | 0 => 0 | 1 => 4 | 2 => 7 | 3 => 9 | _ => 10
theorem off_lt {c j : Nat} (hc : c < 5) (hj : j < 4 - c) : off c + j < 10 := (by decide +kernel : ∀ c, c < 5 → ∀ j, j < 4 - c → off c + j < 10) c hc j hj
theorem z1 (c : Nat) : (0 : Int) + c + 1 = ((c + 1 : Nat) : Int) := by lia
theorem z2 {c k : Nat} (h : k < ((5 : Int) - (0 + c + 1)).toNat) : k < 4 - c := by lia
theorem z3 (c k : Nat) : (0 : Int) + c + 1 + k = ((c + 1 + k : Nat) : Int) := by lia
theorem z4 {c k : Nat} (h : k < 4 - c) : c + 1 + k < 5 := by lia
theorem z5 (c : Nat) : ((5 : Int) - (0 + c + 1)).toNat = 4 - c := by lia
theorem off_succ {c : Nat} (hc : c < 5) : off (c + 1) = off c + (4 - c) := (by decide +kernel : ∀ c, c < 5 → off (c + 1) = off c + (4 - c)) c hc
section
variable {G : Gl} {P : Params}
noncomputable def dig (c : Int) (run : Nat) : Int := (c.fdiv (3 ^ run)).fmod 3
theorem dig_ok (c : Int) (run : Nat) : 0 ≤ dig c run ∧ dig c run ≤ 2 := by
  unfold dig
  have h1 := Int.fmod_nonneg_of_pos (c.fdiv (3 ^ run)) (by decide : (0 : Int) < 3)
  have h2 := Int.fmod_lt_of_pos (c.fdiv (3 ^ run)) (by decide : (0 : Int) < 3)
  exact ⟨h1, Int.le_of_lt_add_one h2⟩
theorem law_profiles_ok (gk : GOk G) (hK : G.K = hd.heap_1 P) {n : Nat} {vc : AV} {cs : List Int} {total : Int} {hp : Hp} (ec : LstR IntR hp vc cs) (hcs : cs.length = 10) :
    FnC prog w G (n + 1) 179 [vc, .int total] hp fun v hp' => Le hp hp' ∧ ∃ ps, PsOk ps ∧ LstR (LstR (LstR IntR)) hp' v ps := by
  refine fn_b gk ["cells", "total", "profiles", "run", "calls", "turn", "caller", "called"] 2 (by exact lkK hK rfl) (by exact cdK hK rfl) fun A env own fr B rm hcd => ?_
  refine Exs.hide fun κ hκ => ?_
  refine exs_cons (set_n B 2 (ev_list (es_nil ⟨by decide, fun p hp0 => ?_⟩)))
  have hp0' : hp p = none := hp0
  let D : Hp := hset hp p (.list [])
  have Dp : D p = some (.list []) := hset_self _ _ _
  have leD : Le hp D := Le.new hp0'
  refine exs_cons (for_r gk B 3 (fun j st => A5 (st.loc 0 = some vc) (st.loc 1 = some (.int total)) (st.loc 2 = some (.ref p)) (Le hp st.hp) (∃ ys, A3 (st.hp p = some (.list ys)) (ys.length = j) (∀ y ∈ ys, BMat D 2 st.hp y))) (by exact nsK hK rfl)
    (es_c (ev_int (es_nil ⟨0, 3, rfl, by decide, by decide, ⟨rfl, rfl, rfl, leD, [], hset_self _ _ _, rfl, fun y hy => by cases hy⟩, ?_, ?_⟩))))
  · intro j rr1 hj rr3
    refine Exs.hide fun κ hκ => ?_
    obtain ⟨loc, hp1⟩ := rr1
    obtain ⟨l0, l1, l2, hle, ys, hys, hyl, hyb⟩ := rr3
    refine exs_cons (set_map B 4 6 [] NatR.mono (R := fun hp v (_ : Unit) => ∃ r, A3 (v = .ref r) (BRow D 2 hp r) True) (fun h h' v x l hq197 => by obtain ⟨r, e, ⟨d, xs, b, c, f⟩, _⟩ := hq197; exact ⟨r, e, ⟨d, xs, l _ _ b, c, f⟩, trivial⟩) (test := fun _ => true) (fun _ => ()) (map_range (n := 5) gk B (by exact nsK hK rfl) (by decide) ?_ ?_))
    · refine fun env' own' fr' B' x hx hp2 hle2 => ts_nil ⟨rfl, rfl, fun _ => ?_⟩
      refine ev_bin (ev_list (es_c (ev_int (es_nil ⟨by decide, fun b hb => ev_int fun va vb hva hvb => ?_⟩))))
      refine op_mul_list (k := 5) hva hvb (hset_self _ _ _) (by decide) fun r hr => ?_
      have hr' : hset hp2 b (.list [.int 0]) r = none := hr
      have le2 : Le hp2 (hset (hset hp2 b (.list [.int 0])) r (.list (List.replicate 5 (.int 0)))) := (Le.new hb).trans (Le.new hr)
      refine ⟨rfl, le2, r, rfl, ⟨?_, [0, 0, 0, 0, 0], hset_self _ _ _, rfl, by decide⟩, trivial⟩
      have h1 : hp2 r = none := (Le.new (A := .list [.int 0]) hb).none hr'
      by_cases z : r = p
      · have := hle2 _ _ hys; rw [← z, h1] at this; cases this
      · show hset hp p _ r = none
        rw [hset_other _ _ z]
        exact (hle.trans hle2).none h1
    · intro a hp2 hna hle2 hL
      obtain ⟨a', ws, e1, e2, e3⟩ := hL
      cases e1
      have hla : ws.length = 5 := by rw [e3.length]; rfl
      have hrs : ∃ rs : List Addr, ws = rs.map .ref ∧ ∀ r ∈ rs, BRow D 2 hp2 r := by
        clear e2 hla
        generalize (List.map (fun _ => ()) (List.filter (fun _ => true) (List.range 5))) = us at e3
        induction e3 with
        | nil => exact ⟨[], rfl, fun r h => by cases h⟩
        | cons h _ ih =>
          obtain ⟨rs, q1, q2⟩ := ih
          obtain ⟨r, q3, q4, _⟩ := h
          exact ⟨r :: rs, by rw [q3, q1]; rfl, fun r' h' => by
            rcases List.mem_cons.mp h' with rfl | h'
            · exact q4
            · exact q2 r' h'⟩
      obtain ⟨rs, hws, hrs⟩ := hrs
      subst hws
      have hap : a ≠ p := fun z => by have h1 : hp1 a = none := hna; have h2 : hp1 p = some (.list ys) := hys; rw [z, h2] at h1; cases h1
      have hDa : D a = none := (hset_other _ _ hap).trans (hle.none hna)
      have M0 : BMat D 2 hp2 (.ref a) := ⟨a, rs, rfl, hDa, e2, by simpa using hla, hrs⟩
      refine exs_cons (set_n B 5 (ev_int ?_))
      refine exs_cons (for_r gk B 6 (fun c st => A10 (st.loc 0 = some vc) (st.loc 1 = some (.int total)) (st.loc 2 = some (.ref p)) (st.loc 3 = some (.int j)) (st.loc 4 = some (.ref a)) (st.loc 5 = some (.int (off c))) (Le hp st.hp) (st.hp p = some (.list ys)) (BMat D 2 st.hp (.ref a)) (∀ y ∈ ys, BMat D 2 st.hp y)) (by exact nsK hK rfl)
        (es_c (ev_int (es_nil ⟨0, 5, rfl, by decide, by decide, ⟨l0, l1, l2, by simp [St.set], by simp [St.set], by simp [St.set, off], hle.trans hle2, hle2 _ _ hys, M0, fun y hy => (hyb y hy).mono hle2⟩, ?_, ?_⟩))))
      · intro c rr1 hc rr3
        refine Exs.hide fun κ hκ => ?_
        obtain ⟨loc3, hp3⟩ := rr1
        refine hide fun Pz hPz => ?_; (rcases rr3 with ⟨m0, m1, m2, m3, m4, m5, hle3, hys3, M3, hyb3⟩) <;> (refine hPz ?_; clear hPz Pz)
        have hc' : c < 5 := by simpa using hc
        refine exs_cons (for_r gk B 7 (fun k st => A10 (st.loc 0 = some vc) (st.loc 1 = some (.int total)) (st.loc 2 = some (.ref p)) (st.loc 3 = some (.int j)) (st.loc 4 = some (.ref a)) (st.loc 6 = some (.int c)) (st.loc 5 = some (.int (off c + k : Nat))) (Le hp st.hp) (st.hp p = some (.list ys)) (And (BMat D 2 st.hp (.ref a)) (∀ y ∈ ys, BMat D 2 st.hp y))) (by exact nsK hK rfl)
          (es_c (ev_iop (ev_n B 6 rfl (ev_int ⟨_, _, _, rfl, rfl, rfl, es_c (ev_int (es_nil ⟨((0 : Int) + c + 1), 5, rfl, nab (z1 c) (Nat.lt_trans (Nat.succ_lt_succ hc') (by decide)), by decide, ⟨m0, m1, m2, m3, m4, by simp [St.set], by simpa [St.set] using m5, hle3, hys3, M3, hyb3⟩, ?_, ?_⟩))⟩)))))
        · intro k rr1 hk rr3
          refine Exs.hide fun κ hκ => ?_
          obtain ⟨loc4, hp4⟩ := rr1
          refine hide fun Pz hPz => ?_; (rcases rr3 with ⟨n0, n1, n2, n3, n4, n6, n5, hle4, hys4, M4, hyb4⟩) <;> (refine hPz ?_; clear hPz Pz)
          have hk' : k < 4 - c := z2 hk
          have hlt := off_lt hc' hk'
          obtain ⟨y, hy⟩ : ∃ y, cs[off c + k]? = some y := get_at hcs hlt
          have hj3 : j < 3 := by simpa using hj
          obtain ⟨a', rs4, e4, d4, ha4, hl4, hr4⟩ := id M4
          cases e4
          obtain ⟨r, hr⟩ : ∃ r, rs4[c]? = some r := get_at hl4 hc'
          obtain ⟨dr, xs, hxs, hxl, hxb⟩ := hr4 r (List.mem_of_getElem? hr)
          have hcalled : ((0 : Int) + c + 1 + k) = ((c + 1 + k : Nat) : Int) := z3 c k
          rw [hcalled]
          refine exs_cons (set_item_l (ev_iop (ev_iop (ev_lx (R := IntR) (ev_n B 0 n0 (ev_n B 5 n5 ⟨cs, off c + k, y, LstR.mono IntR.mono _ _ _ _ hle4 ec, le_at hcs, rfl, hy, fun z hz => ?_⟩))))))
          refine ev_iop (ev_int (ev_n B 3 n3 ⟨3, j, (3 : Int) ^ j, rfl, rfl, ?_, y, _, y.fdiv (3 ^ j), hz, rfl, ?_, ev_int ⟨_, _, dig y j, rfl, rfl, rfl, ?_⟩⟩))
          · show (if (0 : Int) ≤ j ∧ ((j : Int) ≤ 1000 ∧ (3 : Int).natAbs < 2 ^ 63) then some ((3 : Int) ^ (j : Int).toNat) else none) = some ((3 : Int) ^ j)
            rw [if_pos ⟨Int.natCast_nonneg j, Int.ofNat_le.mpr (Nat.le_trans (Nat.le_of_lt hj3) (by decide)), by decide⟩]; simp
          · show (if (3 : Int) ^ j ≠ 0 ∧ ((3 : Int) ^ j).natAbs < 1073741824 then some (y.fdiv (3 ^ j)) else none) = some (y.fdiv (3 ^ j))
            rw [if_pos]
            exact (by decide +kernel : ∀ j, j < 3 → (3 : Int) ^ j ≠ 0 ∧ ((3 : Int) ^ j).natAbs < 1073741824) j hj3
          · refine ev_at (ev_n B 4 n4 (ev_n B 6 n6 ⟨.ref r, .nat ha4 (get_map hr) (le_map hl4), ?_⟩))
            refine ev_n B 7 rfl ⟨r, _, c + 1 + k, rfl, rfl, hxs, lt_map hxl (z4 hk'), le_map hxl, ?_⟩
            have hset' : (xs.map AV.int).set (c + 1 + k) (.int (dig y j)) = (xs.set (c + 1 + k) (dig y j)).map .int := by rw [List.map_set]
            rw [hset']
            have hxb' : ∀ x ∈ xs.set (c + 1 + k) (dig y j), 0 ≤ x ∧ x ≤ 2 := fun x hx => by
              rcases List.mem_or_eq_of_mem_set hx with h | h
              · exact hxb x h
              · rw [h]; exact dig_ok y j
            have hxl' : (xs.set (c + 1 + k) (dig y j)).length = 5 := by simpa using hxl
            have hrp : r ≠ p := fun z => by rw [z, Dp] at dr; cases dr
            refine exs_cons (set_n B 5 (ev_iop (ev_n B 5 n5 (ev_int ⟨_, _, _, rfl, rfl, rfl, exs_nil (hκ _ _ ⟨n0, n1, n2, n3, n4, n6, ?_, hle4.put ?_, (hset_other _ _ (Ne.symm hrp)).trans hys4, M4.row hxs hxl hxl' hxb', fun y' hy' => (hyb4 y' hy').row hxs hxl hxl' hxb'⟩)⟩))))
            · simp only [St.set, if_true]; congr 1
            · have : hset hp p (.list []) r = none := dr
              rwa [hset_other _ _ hrp] at this
        · intro rr0 rr1
          obtain ⟨loc4, hp4⟩ := rr0
          refine hide fun Pz hPz => ?_; (rcases rr1 with ⟨n0, n1, n2, n3, n4, n6, n5, hle4, hys4, M4, hyb4⟩) <;> (refine hPz ?_; clear hPz Pz)
          refine exs_nil (hκ _ _ ⟨n0, n1, n2, n3, n4, ?_, hle4, hys4, M4, hyb4⟩)
          rw [n5, off_succ hc', z5]
      · intro rr0 rr1
        obtain ⟨loc3, hp3⟩ := rr0
        refine hide fun Pz hPz => ?_; (rcases rr1 with ⟨m0, m1, m2, m3, m4, m5, hle3, hys3, M3, hyb3⟩) <;> (refine hPz ?_; clear hPz Pz)
        refine exs_cons (do_append B (ev_n B 2 m2 ⟨p, rfl, ⟨_, hys3⟩, ev_n B 4 m4 ⟨ys, hys3, le_at hyl (Nat.le_trans (Nat.le_of_lt (show j < 3 from hj)) (by decide)), exs_nil (hκ _ _ ⟨m0, m1, m2, hle3.put hp0', (ys ++ [AV.ref a] : List AV), hset_self _ _ _, by simp [hyl], fun y hy => ?_⟩)⟩⟩))
        rcases List.mem_append.mp hy with h | h
        · exact (hyb3 y h).old Dp
        · rw [List.mem_singleton.mp h]; exact M3.old Dp
  · intro rr0 rr1
    obtain ⟨loc, hp1⟩ := rr0
    obtain ⟨l0, l1, l2, hle, ys, hys, hyl, hyb⟩ := rr1
    have hyl : ys.length = 3 := hyl
    have fin : ∀ hp2 : Hp, Le hp hp2 → hp2 p = some (.list ys) → (∀ y ∈ ys, BMat D 3 hp2 y) → Le hp hp2 ∧ ∃ ps, PsOk ps ∧ LstR (LstR (LstR IntR)) hp2 (.ref p) ps := by
      intro hp2 h1 h2 h3
      refine ⟨h1, ?_⟩
      have key : ∀ ys : List AV, (∀ y ∈ ys, BMat D 3 hp2 y) → ∃ ps : List (List (List Int)), All2 (LstR (LstR IntR) hp2) ys ps ∧ ∀ m ∈ ps, m.length = 5 ∧ ∀ r ∈ m, r.length = 5 ∧ ∀ x ∈ r, 0 ≤ x ∧ x ≤ 3 := by
        intro ys
        induction ys with
        | nil => exact fun _ => ⟨[], .nil, fun m h => by cases h⟩
        | cons y ys ih =>
          intro h
          obtain ⟨ps, q1, q2⟩ := ih fun y' h' => h y' (.tail _ h')
          obtain ⟨m, q3, q4, q5⟩ := (h y (.head _)).read
          exact ⟨m :: ps, .cons q3 q1, fun m' h' => by
            rcases List.mem_cons.mp h' with rfl | h'
            · exact ⟨q4, q5⟩
            · exact q2 m' h'⟩
      obtain ⟨ps, q1, q2⟩ := key ys h3
      exact ⟨ps, ⟨by rw [← q1.length]; exact hyl, q2⟩, p, ys, rfl, h2, q1⟩
    refine exs_cons (ex_if (tr_icmp (ev_iop (ev_n B 1 l1 (ev_int ⟨_, _, _, rfl, rfl, rfl, ev_int ⟨_, _, _, rfl, rfl, rfl, ?_⟩⟩)))))
    split
    · -- one call more
      obtain ⟨q50, f50, g50⟩ : ∃ q : Nat, (total.fdiv 50).fmod 3 = (q : Int) ∧ q < 3 := fmod_at _ 3
      obtain ⟨q2, f2, g2⟩ : ∃ q : Nat, (total.fdiv 2).fmod 5 = (q : Int) ∧ q < 5 := fmod_at _ 5
      obtain ⟨q10, f10, g10⟩ : ∃ q : Nat, (total.fdiv 10).fmod 5 = (q : Int) ∧ q < 5 := fmod_at _ 5
      obtain ⟨m, hm⟩ : ∃ m, ys[q50]? = some m := get_at hyl g50
      obtain ⟨a, rs, e4, d4, ha4, hl4, hr4⟩ := id (hyb m (List.mem_of_getElem? hm))
      subst e4
      obtain ⟨r, hr⟩ : ∃ r, rs[q2]? = some r := get_at hl4 g2
      obtain ⟨dr, xs, hxs, hxl, hxb⟩ := hr4 r (List.mem_of_getElem? hr)
      obtain ⟨x, hx⟩ : ∃ x, xs[q10]? = some x := get_at hxl g10
      refine exs_cons (set_n B 4 (ev_at (ev_n B 2 l2 (ev_iop (ev_iop (ev_n B 1 l1 (ev_int ⟨_, _, total.fdiv 50, rfl, rfl, rfl, ev_int ⟨_, _, _, rfl, rfl, rfl, ?_⟩⟩)))))))
      rw [f50]
      refine ⟨.ref a, .nat hys hm (le_at hyl), ?_⟩
      refine exs_cons (aug_item_l (ev_at (ev_n B 4 rfl (ev_iop (ev_iop (ev_n B 1 l1 (ev_int ⟨_, _, total.fdiv 2, rfl, rfl, rfl, ev_int ⟨_, _, _, rfl, rfl, rfl, ?_⟩⟩)))))))
      rw [f2]
      refine ⟨.ref r, .nat ha4 (get_map hr) (le_map hl4), ?_⟩
      refine ev_iop (ev_iop (ev_n B 1 l1 (ev_int ⟨_, _, total.fdiv 10, rfl, rfl, rfl, ev_int ⟨_, _, _, rfl, rfl, rfl, ?_⟩⟩)))
      rw [f10]
      refine ⟨r, _, q10, x, rfl, rfl, hxs, get_map hx, le_map hxl, ev_int ⟨1, rfl, hxs, exs_nil ?_⟩⟩
      have hset' : (xs.map AV.int).set q10 (.int (x + 1)) = (xs.set q10 (x + 1)).map .int := by rw [List.map_set]
      rw [hset']
      have hxb' : ∀ z ∈ xs.set q10 (x + 1), 0 ≤ z ∧ z ≤ 3 := fun z hz => by
        have := hxb x (List.mem_of_getElem? hx)
        rcases List.mem_or_eq_of_mem_set hz with h | h
        · exact ⟨(hxb z h).1, Int.le_trans (hxb z h).2 (by decide)⟩
        · rw [h]; exact ⟨Int.le_add_one this.1, Int.add_le_add_right this.2 1⟩
      have hrp : r ≠ p := fun z => by rw [z, Dp] at dr; cases dr
      refine exs_cons (ex_return (ev_n B 2 l2 (hκ _ _ (fin _ (Le.put hle ?_) ((hset_other _ _ (Ne.symm hrp)).trans hys) fun y hy => ((hyb y hy).wide (by decide)).row hxs hxl (by simpa using hxl) hxb'))))
      have : hset hp p (.list []) r = none := dr
      rwa [hset_other _ _ hrp] at this
    · refine exs_nil (exs_cons (ex_return (ev_n B 2 l2 (hκ _ _ (fin _ hle hys fun y hy => (hyb y hy).wide (by decide))))))
end
end Mine
end
section
open PySem PySem.W PySem.Calls PyProof.Rows
set_option Elab.async false
set_option linter.unusedVariables false
set_option maxRecDepth 100000
set_option maxHeartbeats 2000000
namespace Mine
variable {prog : Program} {w : World}
abbrev V := Int ⊕ List Int
noncomputable def VR : Rel V := fun hp v x => match x with | .inl i => v = .int i | .inr l => TupR IntR hp v l
theorem VR.mono : Mono VR := fun h h' v x l r => by
  cases x with
  | inl i => exact r
  | inr t => exact TupR.mono IntR.mono _ _ _ _ l r
theorem VR.putd {hp : Hp} {d : Addr} {ys : List (Str × AV)} {ep : Nat} {A : AObj} {y : AV} {x : V} (hd : hp d = some (.dict ys ep)) (r : VR hp y x) : VR (hset hp d A) y x := by
  cases x with
  | inl i => exact r
  | inr t =>
    obtain ⟨b, zs, r1, r2, r3⟩ := r
    refine ⟨b, zs, r1, (hset_other _ _ fun z => ?_).trans r2, r3⟩
    rw [z, hd] at r2; cases r2
noncomputable def vadd : V → V → V
  | .inl a, .inl b => .inl (a + b)
  | .inr xs, .inr ys => .inr (List.zipWith (· + ·) ys xs)
  | u, _ => u
noncomputable def vok : V → V → Prop
  | .inl _, .inl _ => True
  | .inr xs, .inr ys => xs.length = ys.length ∧ xs.length ≤ 1000
  | _, _ => False
noncomputable def comb {α : Type} (add : α → α → α) : Option α → Option α → Option α
  | some u, some v => some (add u v)
  | some u, none => some u
  | none, v => v
theorem look_snoc {α : Type} {es : List (Str × α)} {p : Str × α} {k : Str} (h : p.1 ∉ es.map (·.1)) : look (es ++ [p]) k = if k = p.1 then some p.2 else look es k := by
  rw [look_append, look_cons, look_nil]
  by_cases z : k = p.1
  · subst z
    rw [look_none.mpr h]; simp
  · have : p.1 ≠ k := fun e => z e.symm
    simp [z, this]
theorem take_nodup {α : Type} {es : List (Str × α)} (h : (es.map (·.1)).Nodup) {j : Nat} {p : Str × α} (e : es[j]? = some p) : p.1 ∉ (es.take j).map (·.1) := by
  intro hm
  obtain ⟨q, hq, e'⟩ := List.mem_map.mp hm
  obtain ⟨i, hi⟩ := List.getElem?_of_mem hq
  rw [List.getElem?_take] at hi
  split at hi
  · rename_i hij
    have h1 : (es.map (·.1))[i]? = some p.1 := by simp [hi, e']
    have h2 : (es.map (·.1))[j]? = some p.1 := by simp [e]
    have := (List.getElem?_inj (List.getElem?_eq_some_iff.mp h1).1 h).mp (h1.trans h2.symm)
    lia
  · cases hi
theorem take_snoc {α : Type} {es : List α} {j : Nat} {p : α} (e : es[j]? = some p) : es.take (j + 1) = es.take j ++ [p] := by rw [List.take_add_one, e]; rfl
section
variable {G : Gl} {P : Params}
theorem add_callers_ok (gk : GOk G) (hK : G.K = hd.heap_1 P) {bm : Addr} {ob : Obj} (gb : GBm G bm ob) (gc : GCode G 34) {n : Nat} {vt vs : AV} {es fs : List (Str × V)} {hp : Hp} (ht : DctR VR hp vt es) (hs : DctR VR hp vs fs) (hl : es.length + fs.length ≤ 900)
    (hv : ∀ k u v, look es k = some u → look fs k = some v → vok u v) :
    FnC prog w G (n + 2) 35 [vt, vs] hp fun v hp' => Le hp hp' ∧ E2 fun a es' => A5 (v = .ref a) (hp a = none) (DctR VR hp' v es') (es'.length ≤ es.length + fs.length) (∀ k, look es' k = comb vadd (look es k) (look fs k)) := by
  obtain ⟨dt, yt, et, e1, ht1, ht2, ht3⟩ := ht
  obtain ⟨ds, ys, ess, e2, hs1, hs2, hs3⟩ := hs
  subst e1 e2
  refine fn_b gk ["target", "source", "new_callers", "func", "caller"] 2 (by exact lkK hK rfl) (by exact cdK hK rfl) fun A env own fr B rm hcd => ?_
  refine Exs.hide fun κ hκ => ?_
  refine exs_cons (set_n B 2 (ev_dict0 fun d hd0 => ?_))
  have hd0 : hp d = none := hd0
  have hle0 : ∀ A : AObj, Le hp (hset hp d A) := fun A => Le.new hd0
  refine exs_cons (for_nn B 3 4 (src_it gk (ev_n B 0 rfl ⟨dt, yt, et, rfl, hle0 _ _ _ ht1, trivial, ?_⟩)))
  refine for_inv (fun j st => A5 (st.loc 0 = some (.ref dt)) (st.loc 1 = some (.ref ds)) (st.loc 2 = some (.ref d)) (Le hp st.hp) (∃ acc, A3 (DctR VR st.hp (.ref d) acc) (acc.length ≤ j) (∀ k, look acc k = look (es.take j) k))) ⟨rfl, rfl, rfl, hle0 _, [], ⟨d, [], 0, rfl, hset_self _ _ _, .nil, .nil⟩, by simp, fun k => by simp [look_nil]⟩ ?_ ?_
  · intro j rr1 rr2 hx rr4
    refine Exs.hide fun κ hκ => ?_
    obtain ⟨kx, vx⟩ := rr1
    obtain ⟨loc, hp1⟩ := rr2
    obtain ⟨l0, l1, l2, hle, acc, ha, hal, hlk⟩ := rr4
    change Le hp hp1 at hle; change DctR VR hp1 (.ref d) acc at ha
    simp only [two_i, List.getElem?_map, Option.map_eq_some_iff] at hx
    obtain ⟨q, hq, hq2⟩ := hx
    obtain ⟨rfl, rfl⟩ := Prod.mk.inj hq2
    obtain ⟨p, hp1', hr⟩ := ht2.get' hq
    obtain ⟨d', ya, ea, e1, ha1, ha2, ha3⟩ := id ha
    cases e1
    have hj : j < es.length := (List.getElem?_eq_some_iff.mp hp1').1
    refine exs_cons (set_item_d (ev_n B 4 rfl (ev_n B 2 l2 (ev_n B 3 rfl ⟨d, ya, ea, q.1, rfl, rfl, ha1, by rw [ha2.length]; lia, fun ep' => exs_nil ?_⟩))))
    have hle' : Le hp (hset hp1 d (.dict (aput ya q.1 q.2) ep')) := hle.put hd0
    have hds : hp1 ds = some (.dict ys ess) := hle _ _ hs1
    have hdt : hset hp1 d (.dict (aput ya q.1 q.2) ep') dt = some (.dict yt et) := (hset_other _ _ (ne_of_none hd0 ht1)).trans (hle _ _ ht1)
    refine hκ _ _ ⟨hdt, l0, l1, l2, hle', putk acc q.1 p.2, ?_, ?_, fun k => ?_⟩
    · refine ⟨d, _, ep', rfl, hset_self _ _ _, ?_, nodup_putk ha3⟩
      have hr1 : VR hp1 q.2 p.2 := VR.mono _ _ _ _ hle hr.2
      exact (aput_rel ha2 q.1 hr1).mono fun a b h => ⟨h.1, h.2.putd ha1⟩
    · have := @length_putk _ acc q.1 p.2; lia
    · rw [look_putk, take_snoc hp1', look_snoc (take_nodup ht3 hp1'), hr.1, hlk]
  · intro rr0 rr1
    obtain ⟨loc, hp1⟩ := rr0
    obtain ⟨l0, l1, l2, hle, acc, ha, hal, hlk⟩ := rr1
    have hyt : (SrcK.items dt yt et).two.length = es.length := by simp [two_i, ht2.length]
    rw [hyt] at hal hlk
    simp only [List.take_length] at hlk
    refine exs_cons (for_nn B 3 4 (src_it gk (ev_n B 1 l1 ⟨ds, ys, ess, rfl, hle _ _ hs1, trivial, ?_⟩)))
    refine for_inv (fun j st => A4 (st.loc 1 = some (.ref ds)) (st.loc 2 = some (.ref d)) (Le hp st.hp) (∃ acc, A3 (DctR VR st.hp (.ref d) acc) (acc.length ≤ es.length + j) (∀ k, look acc k = comb vadd (look es k) (look (fs.take j) k)))) ⟨l1, l2, hle, acc, ha, hal, fun k => by rw [hlk]; simp only [List.take_zero, look_nil]; cases look es k <;> rfl⟩ ?_ ?_
    · intro j rr1 rr2 hx rr4
      refine Exs.hide fun κ hκ => ?_
      obtain ⟨kx, vx⟩ := rr1
      obtain ⟨loc, hp1⟩ := rr2
      obtain ⟨l1, l2, hle, acc, ha, hal, hlk⟩ := rr4
      change Le hp hp1 at hle; change DctR VR hp1 (.ref d) acc at ha
      simp only [two_i, List.getElem?_map, Option.map_eq_some_iff] at hx
      obtain ⟨q, hq, hq2⟩ := hx
      obtain ⟨rfl, rfl⟩ := Prod.mk.inj hq2
      obtain ⟨p, hp1', hr⟩ := hs2.get' hq
      obtain ⟨d', ya, ea, e1, ha1, ha2, ha3⟩ := id ha
      cases e1
      have hj : j < fs.length := (List.getElem?_eq_some_iff.mp hp1').1
      have hr1 : VR hp1 q.2 p.2 := VR.mono _ _ _ _ hle hr.2
      have hnt : p.1 ∉ (fs.take j).map (·.1) := take_nodup hs3 hp1'
      have hfl : look fs p.1 = some p.2 := (look_mem hs3).mp (List.mem_of_getElem? hp1')
      have hacl : look acc q.1 = look es q.1 := by
        rw [hlk, hr.1, look_none.mpr hnt]; cases look es p.1 <;> rfl
      have hds : ∀ A : AObj, hset hp1 d A ds = some (.dict ys ess) := fun A => (hset_other _ _ (ne_of_none hd0 hs1)).trans (hle _ _ hs1)
      have fin : ∀ hp2 y x, Le hp1 hp2 → VR hp2 y x → comb vadd (look es q.1) (some p.2) = some x → ∀ ep', A3 ((SrcK.items ds ys ess).P (hset hp2 d (.dict (aput ya q.1 y) ep'))) (Le hp (hset hp2 d (.dict (aput ya q.1 y) ep'))) (∃ acc', A3 (DctR VR (hset hp2 d (.dict (aput ya q.1 y) ep')) (.ref d) acc') (acc'.length ≤ es.length + (j + 1)) (∀ k, look acc' k = comb vadd (look es k) (look (fs.take (j + 1)) k))) := by
        intro hp2 y x hle2 hrx hx ep'
        have hd2 : hp2 d = some (.dict ya ea) := hle2 _ _ ha1
        refine ⟨(hset_other _ _ (ne_of_none hd0 hs1)).trans (hle2 _ _ (hle _ _ hs1)), (hle.trans hle2).put hd0, putk acc q.1 x, ⟨d, _, ep', rfl, hset_self _ _ _, ?_, nodup_putk ha3⟩, ?_, fun k => ?_⟩
        · exact (aput_rel (ha2.mono fun a b h => ⟨h.1, VR.mono _ _ _ _ hle2 h.2⟩) q.1 hrx).mono fun a b h => ⟨h.1, h.2.putd hd2⟩
        · have := @length_putk _ acc q.1 x; lia
        · rw [look_putk, take_snoc hp1', look_snoc hnt, hr.1]
          by_cases z : k = p.1
          · subst z
            rw [if_pos rfl, if_pos rfl, ← hr.1, hx]
          · rw [if_neg z, if_neg z, hlk]
      have hlen : ya.length ≤ 1000 := by rw [ha2.length]; lia
      refine exs_cons (ex_if (tr_in_d gk (ev_n B 3 rfl (ev_n B 2 l2 ⟨q.1, d, ya, ea, rfl, rfl, ha1, ?_⟩))))
      rcases aget_look ha2 q.1 with ⟨g1, g2⟩ | ⟨yu, u, g1, g2, g3⟩
      · rw [g1]
        refine exs_cons (set_item_d (ev_n B 4 rfl (ev_n B 2 l2 (ev_n B 3 rfl ⟨d, ya, ea, q.1, rfl, rfl, ha1, hlen, fun ep' => exs_nil (exs_nil ?_)⟩))))
        rw [hacl] at g2
        obtain ⟨h1, h2, h3⟩ := fin hp1 q.2 p.2 (Le.refl _) hr1 (by rw [g2]; rfl) ep'
        exact hκ _ _ ⟨h1, l1, l2, h2, h3⟩
      · rw [g1]
        have g2' : look es q.1 = some u := by rw [← hacl]; exact g2
        have hvo := hv p.1 u p.2 (by rw [← hr.1]; exact g2') hfl
        have hcx : comb vadd (look es q.1) (some p.2) = some (vadd u p.2) := by rw [g2']; rfl
        cases hu : u with
        | inl a =>
          cases hpv : p.2 with
          | inr _ => rw [hu, hpv] at hvo; exact hvo.elim
          | inl b =>
            rw [hu] at g3; rw [hpv] at hr1
            have e3 : yu = .int a := g3
            have e4 : q.2 = .int b := hr1
            subst e3
            refine exs_cons (ex_if (tr_v (ev_bi gk B (by exact nsK hK rfl) rfl (es_c (ev_n B 4 rfl (es_c (ev_ty gk B (by exact nsK hK rfl) rfl (es_nil fun vs hvs => ?_))))))))
            obtain ⟨v1, v2, rfl, hv1, hv2⟩ := hvs.two
            rw [e4] at hv1
            refine op_isi_int_tuple hv1 hv2 ⟨false, .bool, ?_⟩
            refine exs_cons (aug_item_d (ev_n B 2 l2 (ev_n B 3 rfl ⟨d, ya, ea, q.1, a, rfl, rfl, ha1, g1, hlen, ev_n B 4 rfl ⟨b, e4, ha1, fun ep' => exs_nil (exs_nil (exs_nil ?_))⟩⟩)))
            rw [hu, hpv] at hcx
            obtain ⟨h1, h2, h3⟩ := fin hp1 (.int (a + b)) (.inl (a + b)) (Le.refl _) rfl (by rw [hpv]; exact hcx) ep'
            exact hκ _ _ ⟨h1, l1, l2, h2, h3⟩
        | inr xs =>
          cases hpv : p.2 with
          | inl _ => rw [hu, hpv] at hvo; exact hvo.elim
          | inr zs =>
            rw [hu] at g3; rw [hpv] at hr1
            obtain ⟨b1, w1, e3, k1, m1⟩ := g3
            obtain ⟨b2, w2, e4, k2, m2⟩ := hr1
            subst e3
            rw [hu, hpv] at hvo
            rw [ints_of m1] at k1
            rw [ints_of m2] at k2
            refine exs_cons (ex_if (tr_v (ev_bi gk B (by exact nsK hK rfl) rfl (es_c (ev_n B 4 rfl (es_c (ev_ty gk B (by exact nsK hK rfl) rfl (es_nil fun vs hvs => ?_))))))))
            obtain ⟨v1, v2, rfl, hv1, hv2⟩ := hvs.two
            rw [e4] at hv1
            refine op_isi_tup_tuple hv1 hv2 k2 ⟨true, .bool, ?_⟩
            refine exs_cons (set_item_d (ev_zipsum gk gb B rm gc hcd.1 (by exact nsK hK rfl) (by exact nsK hK rfl) (ev_n B 4 rfl (ev_at (ev_n B 2 l2 (ev_n B 3 rfl ⟨.ref b1, .dict ha1 g1, ?_⟩))))))
            refine ⟨b2, b1, zs, xs, e4, rfl, k2, k1, hvo.1.symm, (by have h1 := hvo.1; have h2 := hvo.2; lia), fun r hr0 => ?_⟩
            refine ev_n B 2 l2 (ev_n B 3 rfl ⟨d, ya, ea, q.1, rfl, rfl, (Le.new hr0) _ _ ha1, hlen, fun ep' => exs_nil (exs_nil (exs_nil ?_))⟩)
            rw [hu, hpv] at hcx
            obtain ⟨h1, h2, h3⟩ := fin _ (.ref r) (.inr (List.zipWith (· + ·) zs xs)) (Le.new hr0) ⟨r, _, rfl, hset_self _ _ _, ints_all _⟩ (by rw [hpv]; exact hcx) ep'
            exact hκ _ _ ⟨h1, l1, l2, h2, h3⟩
    · intro rr0 rr1
      obtain ⟨loc, hp1⟩ := rr0
      obtain ⟨l1, l2, hle, acc, ha, hal, hlk⟩ := rr1
      have hyt : (SrcK.items ds ys ess).two.length = fs.length := by simp [two_i, hs2.length]
      rw [hyt] at hal hlk
      simp only [List.take_length] at hlk
      exact exs_cons (ex_return (ev_n B 2 l2 (hκ _ _ ⟨hle, d, acc, rfl, hd0, ha, hal, hlk⟩)))
end
end Mine
end
section
open PySem PySem.W PySem.Calls PyProof.Rows
set_option Elab.async false
set_option linter.unusedVariables false
set_option maxRecDepth 100000
namespace Mine
section
variable {α : Type}
theorem nodup_of_keys {es : List (Str × α)} (h : (es.map (·.1)).Nodup) : es.Nodup := by
  have := List.pairwise_map.mp h
  exact this.imp fun {a b} hab e => hab (by rw [e])
theorem perm_of_look {es fs : List (Str × α)} (he : (es.map (·.1)).Nodup) (hf : (fs.map (·.1)).Nodup) (h : ∀ k, look es k = look fs k) : es.Perm fs :=
  (List.perm_ext_iff_of_nodup (nodup_of_keys he) (nodup_of_keys hf)).mpr fun hq218 => by obtain ⟨k, v⟩ := hq218; rw [look_mem he, look_mem hf, h]
theorem perm_sum {l₁ l₂ : List Int} (h : l₁.Perm l₂) : l₁.sum = l₂.sum := by
  induction h with
  | nil => rfl
  | cons x _ ih => simp [ih]
  | swap x y l => simp only [List.sum_cons]; exact Int.add_left_comm _ _ _
  | trans _ _ ih1 ih2 => exact ih1.trans ih2
theorem keys_of_look {β : Type} {es : List (Str × α)} {fs : List (Str × β)} (h : ∀ k, (look es k).isSome = (look fs k).isSome) (k : Str) : k ∈ es.map (·.1) ↔ k ∈ fs.map (·.1) := by
  have h1 := @look_none _ es k
  have h2 := @look_none _ fs k
  have h3 := h k
  cases q1 : look es k <;> cases q2 : look fs k <;> simp only [q1, q2] at h1 h2 h3 <;> simp at h1 h2 h3
  · exact ⟨fun z => by have ⟨b, hb⟩ := List.mem_map.mp z; exact absurd hb.1 (by obtain ⟨a, c⟩ := b; simp only at hb; obtain ⟨x, y⟩ := hb; subst y; exact h1 c), fun z => by have ⟨b, hb⟩ := List.mem_map.mp z; exact absurd hb.1 (by obtain ⟨a, c⟩ := b; simp only at hb; obtain ⟨x, y⟩ := hb; subst y; exact h2 c)⟩
  · exact ⟨fun _ => by simpa using h2, fun _ => by simpa using h1⟩
end
noncomputable def nm (c : Nat) : Str := lawNames.getD c ""
theorem nm_get {c : Nat} (h : c < 5) : lawNames[c]? = some (nm c) := by
  unfold nm
  rw [List.getD_eq_getElem?_getD, List.getElem?_eq_getElem (by simpa [lawNames] using h)]; rfl
theorem names_nodup : lawNames.Nodup := by decide
theorem nm_inj {c d : Nat} (hc : c < 5) (hd : d < 5) (h : nm c = nm d) : c = d := by
  have h1 := nm_get hc
  have h2 := nm_get hd
  rw [← h] at h2
  exact (List.getElem?_inj (List.getElem?_eq_some_iff.mp h1).1 names_nodup).mp (h1.trans h2.symm)
theorem mem_names {k : Str} : k ∈ lawNames ↔ ∃ c, c < 5 ∧ k = nm c := by
  constructor
  · intro h
    obtain ⟨c, hc⟩ := List.getElem?_of_mem h
    have hl : c < 5 := (List.getElem?_eq_some_iff.mp hc).1
    rw [nm_get hl] at hc
    exact ⟨c, hl, (Option.some.inj hc).symm⟩
  · rintro ⟨c, hc, rfl⟩
    exact List.mem_of_getElem? (nm_get hc)
section
variable {α : Type}
noncomputable def tabl (n : Nat) (t : Nat → Bool) (f : Nat → α) : List (Str × α) := ((List.range n).filter t).map fun c => (nm c, f c)
theorem tabl_keys {n : Nat} (hn : n ≤ 5) {t : Nat → Bool} {f : Nat → α} : ((tabl n t f).map (·.1)).Nodup := by
  unfold tabl
  rw [List.map_map, List.nodup_iff_pairwise_ne, List.pairwise_map]
  have h := (List.nodup_range (n := n)).filter t
  refine (List.Pairwise.and_mem.mp h).imp fun {a b} hy48 e => ?_
  obtain ⟨ha, hb, hne⟩ := hy48
  refine hne ?_
  have ha' := List.mem_range.mp (List.mem_filter.mp ha).1
  have hb' := List.mem_range.mp (List.mem_filter.mp hb).1
  exact nm_inj (Nat.lt_of_lt_of_le ‹_› ‹_›) (Nat.lt_of_lt_of_le ‹_› ‹_›) e
theorem tabl_look {n : Nat} (hn : n ≤ 5) {t : Nat → Bool} {f : Nat → α} {c : Nat} (hc : c < 5) : look (tabl n t f) (nm c) = if c < n ∧ t c = true then some (f c) else none := by
  by_cases h : c < n ∧ t c = true
  · rw [if_pos h]
    refine (look_mem (tabl_keys hn)).mp (List.mem_map.mpr ⟨c, List.mem_filter.mpr ⟨List.mem_range.mpr h.1, h.2⟩, rfl⟩)
  · rw [if_neg h]
    refine look_none.mpr fun hm => h ?_
    obtain ⟨p, hp, e⟩ := List.mem_map.mp hm
    obtain ⟨d, hd, rfl⟩ := List.mem_map.mp hp
    obtain ⟨h1, h2⟩ := List.mem_filter.mp hd
    have h1' := List.mem_range.mp h1
    have : d = c := nm_inj (Nat.lt_of_lt_of_le ‹_› ‹_›) hc e
    subst this; exact ⟨h1', h2⟩
theorem tabl_other {n : Nat} (hn : n ≤ 5) {t : Nat → Bool} {f : Nat → α} {k : Str} (hk : k ∉ lawNames) : look (tabl n t f) k = none := by
  refine look_none.mpr fun hm => hk ?_
  obtain ⟨p, hp, e⟩ := List.mem_map.mp hm
  obtain ⟨d, hd, rfl⟩ := List.mem_map.mp hp
  have h1 := List.mem_range.mp (List.mem_filter.mp hd).1
  exact mem_names.mpr ⟨d, Nat.lt_of_lt_of_le ‹_› ‹_›, e.symm⟩
theorem tabl_succ {n : Nat} {t : Nat → Bool} {f : Nat → α} : tabl (n + 1) t f = if t n = true then tabl n t f ++ [(nm n, f n)] else tabl n t f := by
  unfold tabl
  rw [List.range_succ, List.filter_append, List.map_append]
  cases q : t n <;> simp [List.filter, q]
theorem tabl_len {n : Nat} {t : Nat → Bool} {f : Nat → α} : (tabl n t f).length ≤ n := by
  unfold tabl
  have := List.length_filter_le t (List.range n)
  simp at this ⊢; exact this
end
noncomputable def nzl (f : Nat → Int) : List (Str × Int) := tabl 5 (fun c => decide (0 < f c)) f
theorem nzl_look {f : Nat → Int} {c : Nat} (hc : c < 5) : look (nzl f) (nm c) = if 0 < f c then some (f c) else none := by
  unfold nzl
  rw [tabl_look (Nat.le_refl _) hc]
  simp [hc]
theorem nzl_other {f : Nat → Int} {k : Str} (hk : k ∉ lawNames) : look (nzl f) k = none := tabl_other (Nat.le_refl _) hk
theorem nzl_keys (f : Nat → Int) : ((nzl f).map (·.1)).Nodup := tabl_keys (Nat.le_refl _)
theorem nzl_add {f g : Nat → Int} (hf : ∀ c, c < 5 → 0 ≤ f c) (hg : ∀ c, c < 5 → 0 ≤ g c) (k : Str) : comb (· + ·) (look (nzl f) k) (look (nzl g) k) = look (nzl fun c => f c + g c) k := by
  by_cases hk : k ∈ lawNames
  · obtain ⟨c, hc, rfl⟩ := mem_names.mp hk
    rw [nzl_look hc, nzl_look hc, nzl_look hc]
    have h1 := hf c hc
    have h2 := hg c hc
    by_cases a : 0 < f c
    · by_cases b : 0 < g c
      · rw [if_pos a, if_pos b, if_pos (Int.add_pos a b)]; rfl
      · have gz : g c = 0 := Int.le_antisymm (Int.not_lt.mp b) h2
        rw [if_pos a, if_neg b, gz, Int.add_zero, if_pos a]; rfl
    · have fz : f c = 0 := Int.le_antisymm (Int.not_lt.mp a) h1
      rw [if_neg a]
      by_cases b : 0 < g c
      · rw [fz, Int.zero_add, if_pos b]; rfl
      · rw [fz, Int.zero_add, if_neg b]; rfl
  · rw [nzl_other hk, nzl_other hk, nzl_other hk]; rfl
theorem nzl_congr {f g : Nat → Int} (h : ∀ c, c < 5 → f c = g c) : nzl f = nzl g := by
  unfold nzl tabl
  have e : (List.range 5).filter (fun c => decide (0 < f c)) = (List.range 5).filter (fun c => decide (0 < g c)) := List.filter_congr fun c hc => by rw [h c (List.mem_range.mp hc)]
  rw [e]
  exact List.map_congr_left fun c hc => by rw [h c (List.mem_range.mp (List.mem_filter.mp hc).1)]
theorem nzl_zero : nzl (fun _ => 0) = [] := by decide
noncomputable def sum5 (f : Nat → Int) : Int := f 0 + f 1 + f 2 + f 3 + f 4
theorem comm4 (a b c d : Int) : a + b + (c + d) = a + c + (b + d) := by rw [Int.add_assoc, Int.add_left_comm b, ← Int.add_assoc]
theorem sum5_add (a b : Nat → Int) : (sum5 fun c => a c + b c) = sum5 a + sum5 b := by
  show a 0 + b 0 + (a 1 + b 1) + (a 2 + b 2) + (a 3 + b 3) + (a 4 + b 4) = a 0 + a 1 + a 2 + a 3 + a 4 + (b 0 + b 1 + b 2 + b 3 + b 4)
  rw [comm4 (a 0), comm4 (a 0 + a 1), comm4 (a 0 + a 1 + a 2), comm4 (a 0 + a 1 + a 2 + a 3)]
theorem sum5_list (f : Nat → Int) : f 0 + (f 1 + (f 2 + (f 3 + f 4))) = sum5 f := by
  unfold sum5; rw [← Int.add_assoc (f 2), ← Int.add_assoc (f 1), ← Int.add_assoc (f 1), ← Int.add_assoc (f 0), ← Int.add_assoc (f 0), ← Int.add_assoc (f 0)]
theorem pair0 {a b : Int} (h1 : 0 ≤ a) (h2 : 0 ≤ b) (h : a + b = 0) : a = 0 ∧ b = 0 := by omega
theorem nzl_sum {f : Nat → Int} (hf : ∀ c, c < 5 → 0 ≤ f c) : dsum (nzl f) = sum5 f := by
  have key : ∀ n, n ≤ 5 → dsum (tabl n (fun c => decide (0 < f c)) f) = ((List.range n).map f).sum := by
    intro n
    induction n with
    | zero => intro _; rfl
    | succ n ih =>
      intro hn
      rw [tabl_succ, List.range_succ, List.map_append, List.sum_append]
      have h0 := hf n (Nat.le_trans ‹_› (by decide))
      split
      · unfold dsum at *
        rw [List.map_append, List.sum_append, ih (Nat.le_of_lt ‹_›)]; simp
      · rename_i h
        have : f n = 0 := Int.le_antisymm (Int.not_lt.mp fun z => h (decide_eq_true z)) h0
        rw [ih (Nat.le_of_lt ‹_›)]; simp [this]
  rw [nzl, key 5 (Nat.le_refl _)]
  show f 0 + (f 1 + (f 2 + (f 3 + (f 4 + 0)))) = _
  rw [Int.add_zero, sum5_list]
end Mine
end
section
open PySem PySem.W PySem.Calls PyProof.Rows
set_option Elab.async false
set_option linter.unusedVariables false
set_option maxRecDepth 100000
set_option maxHeartbeats 2000000
namespace Mine
variable {prog : Program} {w : World}
theorem look_map {α β : Type} (g : α → β) (es : List (Str × α)) (k : Str) : look (es.map fun p => (p.1, g p.2)) k = (look es k).map g := by
  induction es with
  | nil => rfl
  | cons p r ih => simp only [List.map_cons, look_cons, ih]; split <;> rfl
theorem keys_map {α β : Type} (g : α → β) (es : List (Str × α)) : (es.map fun p => (p.1, g p.2)).map (·.1) = es.map (·.1) := by simp [Function.comp_def]
theorem dct_map {α β : Type} {R : Rel α} {R' : Rel β} {g : α → β} {hp : Hp} {v : AV} {es : List (Str × α)} (h : DctR R hp v es) (hr : ∀ y x, R hp y x → R' hp y (g x)) : DctR R' hp v (es.map fun p => (p.1, g p.2)) := by
  obtain ⟨a, ys, ep, e, ha, hy, hn⟩ := h
  refine ⟨a, ys, ep, e, ha, ?_, by rw [keys_map]; exact hn⟩
  clear ha hn
  induction hy with
  | nil => exact .nil
  | cons r _ ih => exact .cons ⟨r.1, hr _ _ r.2⟩ ih
theorem dct_unmap {α β : Type} {R : Rel α} {R' : Rel β} {g : α → β} {hp : Hp} {v : AV} {es : List (Str × β)} (h : DctR R' hp v es) (hg : ∀ k x, look es k = some x → ∃ z, x = g z) (hr : ∀ y x, R' hp y (g x) → R hp y x) : ∃ fs : List (Str × α), es = fs.map (fun p => (p.1, g p.2)) ∧ DctR R hp v fs := by
  obtain ⟨a, ys, ep, e, ha, hy, hn⟩ := h
  have hg' : ∀ p ∈ es, ∃ z, p.2 = g z := fun p hp => hg p.1 p.2 ((look_mem hn).mp hp)
  have key : ∃ fs : List (Str × α), es = fs.map (fun p => (p.1, g p.2)) ∧ All2 (fun p q => p.1 = q.1 ∧ R hp p.2 q.2) ys fs := by
    clear hg hn ha
    induction hy with
    | nil => exact ⟨[], rfl, .nil⟩
    | @cons p q ps qs r _ ih =>
      obtain ⟨fs, e1, e2⟩ := ih fun p hp => hg' p (.tail _ hp)
      obtain ⟨z, hz⟩ := hg' q (.head _)
      refine ⟨(q.1, z) :: fs, by rw [e1]; simp [← hz], .cons ⟨r.1, hr _ _ (by rw [← hz]; exact r.2)⟩ e2⟩
  obtain ⟨fs, e1, e2⟩ := key
  exact ⟨fs, e1, a, ys, ep, e, ha, e2, by rw [e1, keys_map] at hn; exact hn⟩
section
variable {G : Gl} {P : Params}
theorem comb_map {α : Type} {f : α → α → α} {g : α → V} (hF : ∀ a b, vadd (g a) (g b) = g (f a b)) (u v : Option α) : comb vadd (u.map g) (v.map g) = (comb f u v).map g := by
  cases u <;> cases v <;> first | rfl | exact congrArg some (hF _ _)
theorem add_gen (gk : GOk G) (hK : G.K = hd.heap_1 P) {bm : Addr} {ob : Obj} (gb : GBm G bm ob) (gc : GCode G 34) {α : Type} {R : Rel α} {f : α → α → α} {g : α → V} (hF : ∀ a b, vadd (g a) (g b) = g (f a b)) (hi : ∀ a b, g a = g b → a = b) (hR : ∀ hp y x, R hp y x ↔ VR hp y (g x)) {n : Nat} {vt vs : AV} {es fs : List (Str × α)} {hp : Hp} (ht : DctR R hp vt es) (hs : DctR R hp vs fs) (hl : es.length + fs.length ≤ 900) (hv : ∀ k u v, look es k = some u → look fs k = some v → vok (g u) (g v)) :
    FnC prog w G (n + 2) 35 [vt, vs] hp fun v hp' => Le hp hp' ∧ E2 fun a es' => A5 (v = .ref a) (hp a = none) (DctR R hp' v es') (es'.length ≤ es.length + fs.length) (∀ k, look es' k = comb f (look es k) (look fs k)) := by
  refine FnC.mono (add_callers_ok gk hK gb gc (dct_map (R' := VR) (g := g) ht fun y x r => (hR _ y x).mp r) (dct_map (R' := VR) (g := g) hs fun y x r => (hR _ y x).mp r) (by simpa using hl) fun k u v hu hv' => ?_) fun v hp' hq => ?_
  · rw [look_map] at hu hv'
    obtain ⟨x, hx, rfl⟩ := Option.map_eq_some_iff.mp hu
    obtain ⟨y, hy, rfl⟩ := Option.map_eq_some_iff.mp hv'
    exact hv k x y hx hy
  · obtain ⟨hle, a, es', e, ha, hd, hlen, hlk⟩ := hq
    have hlk : ∀ k, look es' k = (comb f (look es k) (look fs k)).map g := fun k => by rw [hlk k, look_map, look_map, comb_map hF]
    obtain ⟨gs, e1, e2⟩ := dct_unmap (R := R) (g := g) hd (fun k x hx => by
      rw [hlk] at hx; obtain ⟨y, _, e⟩ := Option.map_eq_some_iff.mp hx; exact ⟨y, e.symm⟩) fun y x r => (hR _ y x).mpr r
    subst e1
    refine ⟨hle, a, gs, e, ha, e2, by simpa using hlen, fun k => ?_⟩
    have := hlk k
    rw [look_map] at this
    cases q1 : look gs k <;> cases q2 : comb f (look es k) (look fs k) <;> rw [q1, q2] at this <;> first | rfl | cases this | exact congrArg some (hi _ _ (Option.some.inj this))
theorem add_int_ok (gk : GOk G) (hK : G.K = hd.heap_1 P) {bm : Addr} {ob : Obj} (gb : GBm G bm ob) (gc : GCode G 34) {n : Nat} {vt vs : AV} {es fs : List (Str × Int)} {hp : Hp} (ht : DctR IntR hp vt es) (hs : DctR IntR hp vs fs) (hl : es.length + fs.length ≤ 900) :
    FnC prog w G (n + 2) 35 [vt, vs] hp fun v hp' => Le hp hp' ∧ E2 fun a es' => A5 (v = .ref a) (hp a = none) (DctR IntR hp' v es') (es'.length ≤ es.length + fs.length) (∀ k, look es' k = comb (· + ·) (look es k) (look fs k)) :=
  add_gen gk hK gb gc (g := Sum.inl) (fun _ _ => rfl) (fun _ _ e => Sum.inl.inj e) (fun _ _ _ => Iff.rfl) ht hs hl fun _ _ _ _ _ => trivial
noncomputable def add4 (xs ys : List Int) : List Int := List.zipWith (· + ·) ys xs
theorem add_tup_ok (gk : GOk G) (hK : G.K = hd.heap_1 P) {bm : Addr} {ob : Obj} (gb : GBm G bm ob) (gc : GCode G 34) {n : Nat} {vt vs : AV} {es fs : List (Str × List Int)} {hp : Hp} (ht : DctR (TupR IntR) hp vt es) (hs : DctR (TupR IntR) hp vs fs) (hl : es.length + fs.length ≤ 900) (h4 : ∀ k x, look es k = some x → x.length = 4) (h4' : ∀ k x, look fs k = some x → x.length = 4) :
    FnC prog w G (n + 2) 35 [vt, vs] hp fun v hp' => Le hp hp' ∧ E2 fun a es' => A5 (v = .ref a) (hp a = none) (DctR (TupR IntR) hp' v es') (es'.length ≤ es.length + fs.length) (∀ k, look es' k = comb add4 (look es k) (look fs k)) :=
  add_gen gk hK gb gc (g := Sum.inr) (fun _ _ => rfl) (fun _ _ e => Sum.inr.inj e) (fun _ _ _ => Iff.rfl) ht hs hl fun k x y hx hy => ⟨by rw [h4 _ _ hx, h4' _ _ hy], by rw [h4 _ _ hx]; decide⟩
set_option genSizeOf false in
set_option genInjectivity false in
structure Ent where
  a : Int
  b : Int
  c : Int
  d : Int
  e : List (Str × Int)
noncomputable def EntR : Rel Ent := fun hp v x => E2 fun t vd => A3 (v = .ref t) (hp t = some (.tup [.int x.a, .int x.b, .int x.c, .int x.d, vd])) (DctR IntR hp vd x.e)
theorem EntR.mono : Mono EntR := fun h h' v x l hq200 => by obtain ⟨t, vd, e, ht, hd⟩ := hq200; exact ⟨t, vd, e, l _ _ ht, DctR.mono IntR.mono _ _ _ _ l hd⟩
noncomputable def EntN (D : Hp) : Rel Ent := fun hp v x => E2 fun t dd => A4 (v = .ref t) (hp t = some (.tup [.int x.a, .int x.b, .int x.c, .int x.d, .ref dd])) (D dd = none) (DctR IntR hp (.ref dd) x.e)
theorem EntN.mono {D : Hp} : Mono (EntN D) := fun h h' v x l hq201 => by obtain ⟨t, dd, e, ht, hd0, hd⟩ := hq201; exact ⟨t, dd, e, l _ _ ht, hd0, DctR.mono IntR.mono _ _ _ _ l hd⟩
theorem EntN.to {D hp : Hp} {v : AV} {x : Ent} (h : EntN D hp v x) : EntR hp v x := by obtain ⟨t, dd, e, ht, _, hd⟩ := h; exact ⟨t, .ref dd, e, ht, hd⟩
theorem add_func_stats_ok (gk : GOk G) (hK : G.K = hd.heap_1 P) {bm : Addr} {ob : Obj} (gb : GBm G bm ob) (gc : GCode G 34) {n : Nat} {vt vs : AV} {x y : Ent} {hp : Hp} (ht : EntR hp vt x) (hs : EntR hp vs y) (hl : x.e.length + y.e.length ≤ 900) :
    FnC prog w G (n + 3) 28 [vt, vs] hp fun v hp' => Le hp hp' ∧ ∃ es, A3 (EntN hp hp' v ⟨y.a + x.a, y.b + x.b, y.c + x.c, y.d + x.d, es⟩) (es.length ≤ x.e.length + y.e.length) (∀ k, look es k = comb (· + ·) (look x.e k) (look y.e k)) := by
  obtain ⟨t1, d1, e1, ht1, hd1⟩ := ht
  obtain ⟨t2, d2, e2, ht2, hd2⟩ := hs
  subst e1 e2
  refine fn_b gk ["target", "source", "cc", "nc", "tt", "ct", "callers", "t_cc", "t_nc", "t_tt", "t_ct", "t_callers"] 2 (by exact lkK hK rfl) (by exact cdK hK rfl) fun A env own fr B rm hcd => ?_
  refine Exs.hide fun κ hκ => ?_
  refine exs_cons (set_tup B [(2, _), (3, _), (4, _), (5, _), (6, _)] (ev_n B 1 rfl ⟨t2, _, rfl, ht2, rfl, ?_⟩))
  refine exs_cons (set_tup B [(7, _), (8, _), (9, _), (10, _), (11, _)] (ev_n B 0 rfl ⟨t1, _, rfl, ht1, rfl, ?_⟩))
  refine exs_cons (ex_return (ev_tup ?_))
  refine es_c (ev_iop (ev_n B 2 rfl (ev_n B 7 rfl ⟨_, _, _, rfl, rfl, rfl, ?_⟩)))
  refine es_c (ev_iop (ev_n B 3 rfl (ev_n B 8 rfl ⟨_, _, _, rfl, rfl, rfl, ?_⟩)))
  refine es_c (ev_iop (ev_n B 4 rfl (ev_n B 9 rfl ⟨_, _, _, rfl, rfl, rfl, ?_⟩)))
  refine es_c (ev_iop (ev_n B 5 rfl (ev_n B 10 rfl ⟨_, _, _, rfl, rfl, rfl, ?_⟩)))
  refine es_c (ev_fn gk B rm (by exact nsK hK rfl) (by exact fbK hK rfl) (es_c (ev_n B 11 rfl (es_c (ev_n B 6 rfl (es_nil ?_))))))
  refine FnC.mono (add_int_ok gk hK gb gc hd1 hd2 hl) fun v hp' hq202 => by obtain ⟨hle, a, es', e, ha, hd, hlen, hlk⟩ := hq202; exact es_nil ⟨(by show 5 ≤ 1000; decide), fun b hb => hκ _ _ ⟨hle.put (hle.none hb), es', ⟨b, a, rfl, by rw [e]; exact hset_self _ _ _, ha, by rw [← e]; exact DctR.mono IntR.mono _ _ _ _ (Le.new hb) hd⟩, hlen, hlk⟩⟩
end
end Mine
end
section
open PySem PySem.W PySem.Calls PyProof.Rows
set_option Elab.async false
set_option linter.unusedVariables false
set_option maxRecDepth 100000
set_option maxHeartbeats 2000000
namespace Mine
variable {prog : Program} {w : World}
noncomputable def at2 (m : List (List Int)) (i j : Nat) : Int := (m.getD i []).getD j 0
noncomputable def Wn (ps : List (List (List Int))) (c p : Nat) : Int := (ps.map fun m => at2 m c p).sum
theorem getD_of {α : Type} {l : List α} {i : Nat} {d x : α} (h : l[i]? = some x) : l.getD i d = x := by rw [List.getD_eq_getElem?_getD, h]; rfl
theorem PsOk.get {ps : List (List (List Int))} (h : PsOk ps) {m : List (List Int)} (hm : m ∈ ps) {c p : Nat} (hc : c < 5) (hp : p < 5) : ∃ r, A5 (m[c]? = some r) (r.length = 5) (r[p]? = some (at2 m c p)) (0 ≤ at2 m c p) (at2 m c p ≤ 3) := by
  obtain ⟨h1, h2⟩ := h.2 m hm
  obtain ⟨r, hr⟩ : ∃ r, m[c]? = some r := get_at h1 hc
  obtain ⟨h3, h4⟩ := h2 r (List.mem_of_getElem? hr)
  obtain ⟨x, hx⟩ : ∃ x, r[p]? = some x := get_at h3 hp
  have e : at2 m c p = x := by unfold at2; rw [getD_of hr, getD_of hx]
  have h5 := h4 x (List.mem_of_getElem? hx)
  rw [← e] at h5
  exact ⟨r, hr, h3, by rw [e]; exact hx, h5.1, h5.2⟩
theorem Wn_nonneg {ps : List (List (List Int))} (h : PsOk ps) {c p : Nat} (hc : c < 5) (hp : p < 5) (j : Nat) : 0 ≤ Wn (ps.take j) c p := by
  have key : ∀ l : List (List (List Int)), (∀ m ∈ l, m ∈ ps) → 0 ≤ Wn l c p := by
    intro l
    induction l with
    | nil => intro _; exact Int.le_refl _
    | cons m l ih =>
      intro hl
      obtain ⟨_, _, _, _, h0, _⟩ := h.get (hl m (.head _)) hc hp
      have := ih fun m' h' => hl m' (.tail _ h')
      exact Int.add_nonneg h0 this
  exact key _ fun m hm => List.mem_of_mem_take hm
theorem Wn_snoc {ps : List (List (List Int))} {j : Nat} {m : List (List Int)} (h : ps[j]? = some m) (c p : Nat) : Wn (ps.take (j + 1)) c p = Wn (ps.take j) c p + at2 m c p := by
  unfold Wn
  rw [take_snoc h]; simp
section
variable {G : Gl} {P : Params}
noncomputable def entAt (ps : List (List (List Int))) (cs : List Int) (p j : Nat) (es : List (Str × Int)) : Ent := ⟨sum5 fun c => Wn (ps.take j) c p, sum5 fun c => Wn (ps.take j) c p, j * cs.getD p 0, j * p, es⟩
theorem law_entries_ok (gk : GOk G) (hK : G.K = hd.heap_1 P) {bm : Addr} {ob : Obj} (gb : GBm G bm ob) (gc : GCode G 34) {n : Nat} {vp vc : AV} {ps : List (List (List Int))} {cs : List Int} {total : Int} {hp : Hp} (hps : PsOk ps) (hvp : LstR (LstR (LstR IntR)) hp vp ps) (hvc : LstR IntR hp vc cs) (hcs : cs.length = 10) :
    FnC prog w G (n + 4) 186 [vp, vc, .int total] hp fun v hp' => Le hp hp' ∧ ∃ ents, A3 (DctR EntR hp' v ents) (ents.length = 5) (∀ q ∈ ents, E2 fun p es => A5 (p < 5) (q = (nm p, entAt ps cs p 3 es)) ((es.map (·.1)).Nodup) (es.length ≤ 15) (∀ k, look es k = look (nzl fun c => Wn ps c p) k)) := by
  refine fn_b gk ["profiles", "cells", "total", "names", "entries", "turn", "place", "entry", "calls", "callers", "caller", "often"] 3 (by exact lkK hK rfl) (by exact cdK hK rfl) fun A env own fr B rm hcd => ?_
  refine Exs.hide fun κ hκ => ?_
  refine exs_cons (set_n B 3 (ev_fn gk B rm (by exact nsK hK rfl) (by exact fbK hK rfl) (es_nil (FnC.mono (law_names_ok gk hK) fun vn hp1 hz40 => ?_))))
  obtain ⟨hle1, hn1⟩ := hz40
  refine exs_cons (set_n B 4 (ev_dict0 fun d hd0 => ?_))
  have hd0 : hp1 d = none := hd0
  let pl : Nat → Nat := fun j => (((j : Int) + total).fmod 5).toNat
  have hpl : ∀ j : Nat, ((j : Int) + total).fmod 5 = (pl j : Int) ∧ pl j < 5 := fun j => by
    have h1 := Int.fmod_nonneg_of_pos ((j : Int) + total) (by decide : (0 : Int) < 5)
    have h2 := Int.fmod_lt_of_pos ((j : Int) + total) (by decide : (0 : Int) < 5)
    exact ⟨(Int.toNat_of_nonneg h1).symm, (Int.toNat_lt h1).mpr h2⟩
  have hinj : ∀ i j, i < 5 → j < 5 → pl i = pl j → i = j := fun i j hi hj e => by
    have h1 := (hpl i).1
    have h2 := (hpl j).1
    rw [← e, ← h1, Int.fmod_eq_emod_of_nonneg _ (by decide), Int.fmod_eq_emod_of_nonneg _ (by decide)] at h2
    lia
  let D : Hp := hset hp1 d (.dict [] 0)
  have Dd : D d = some (.dict [] 0) := hset_self _ _ _
  have Dn : ∀ (h : Hp) (a : Addr) (o : AObj), Le hp1 h → h d = some o → h a = none → D a = none := fun h a o l h1 h2 => by
    have hne : a ≠ d := fun z => by rw [z, h1] at h2; cases h2
    exact (hset_other _ _ hne).trans (l.none h2)
  refine exs_cons (for_r gk B 5 (fun j st => A7 (st.loc 0 = some vp) (st.loc 1 = some vc) (st.loc 2 = some (.int total)) (st.loc 3 = some vn) (st.loc 4 = some (.ref d)) (Le hp1 st.hp) (∃ ents, A3 (DctR (EntN D) st.hp (.ref d) ents) (ents.map (·.1) = (List.range j).map (fun i => nm (pl i))) (∀ q ∈ ents, E2 fun p es => A5 (p < 5) (q = (nm p, entAt ps cs p 3 es)) ((es.map (·.1)).Nodup) (es.length ≤ 15) (∀ k, look es k = look (nzl fun c => Wn ps c p) k)))) (by exact nsK hK rfl)
    (es_c (ev_int (es_nil ⟨0, 5, rfl, by decide, by decide, ⟨rfl, rfl, rfl, rfl, rfl, Le.new hd0, [], ⟨d, [], 0, rfl, hset_self _ _ _, .nil, .nil⟩, rfl, fun q h => by cases h⟩, ?_, ?_⟩))))
  · intro j rr1 hj rr3
    refine Exs.hide fun κ hκ => ?_
    obtain ⟨loc, hp2⟩ := rr1
    refine hide fun Pz hPz => ?_; (rcases rr3 with ⟨l0, l1, l2, l3, l4, hle, ents, hd, hkeys, hents⟩) <;> (refine hPz ?_; clear hPz Pz)
    change Le hp1 hp2 at hle; change DctR (EntN D) hp2 (.ref d) ents at hd
    have hdd2 : ∃ o, hp2 d = some o := by obtain ⟨d', ya, ea, e1, ha1, _⟩ := hd; cases e1; exact ⟨_, ha1⟩
    obtain ⟨od2, hdd2⟩ := hdd2
    have hj5 : j < 5 := by simpa using hj
    obtain ⟨hp_eq, hp5⟩ := hpl j
    refine exs_cons (set_n B 6 (ev_iop (ev_iop (ev_n B 5 rfl (ev_n B 2 l2 ⟨_, _, _, rfl, rfl, rfl, ev_int ⟨_, _, _, rfl, rfl, rfl, ?_⟩⟩)))))
    rw [show ((0 : Int) + j + total).fmod 5 = ((j : Int) + total).fmod 5 by rw [Int.zero_add], hp_eq]
    generalize hpj : pl j = p at *
    refine exs_cons (set_n B 7 (ev_tup ?_))
    iterate 4 refine es_c (ev_int ?_)
    refine es_c (ev_dict0 fun d1 hd1 => es_nil ⟨(by show 5 ≤ 1000; decide), fun t1 ht1 => ?_⟩)
    have hd1 : hp2 d1 = none := hd1
    have ht1 : hset hp2 d1 (.dict [] 0) t1 = none := ht1
    let hp3 : Hp := hset (hset hp2 d1 (.dict [] 0)) t1 (.tup [.int 0, .int 0, .int 0, .int 0, .ref d1])
    have le23 : Le hp2 hp3 := (Le.new hd1).trans (Le.new ht1)
    have E0 : EntN D hp3 (.ref t1) (entAt ps cs p 0 []) := by
      refine ⟨t1, d1, rfl, ?_, Dn hp2 d1 _ hle hdd2 hd1, d1, [], 0, rfl, (Le.new ht1) _ _ (hset_self _ _ _), .nil, .nil⟩
      show hset _ t1 _ t1 = _
      rw [hset_self]; simp [entAt, Wn, sum5]
    have hvp3 : LstR (LstR (LstR IntR)) hp3 vp ps := LstR.mono (LstR.mono (LstR.mono IntR.mono)) _ _ _ _ (hle1.trans (hle.trans le23)) hvp
    obtain ⟨lp, yps, ep1, ep2, ep3⟩ := id hvp3
    subst ep1
    refine exs_cons (for_n B 8 (src_list (ev_n B 0 l0 ⟨lp, yps, rfl, ep2, trivial, ?_⟩)))
    refine for_inv (fun i st => A8 (st.loc 0 = some (.ref lp)) (st.loc 1 = some vc) (st.loc 2 = some (.int total)) (st.loc 3 = some vn) (st.loc 4 = some (.ref d)) (st.loc 6 = some (.int p)) (Le hp3 st.hp) (E2 fun ve es => A4 (st.loc 7 = some ve) (EntN D st.hp ve (entAt ps cs p i es)) (es.length ≤ 5 * i) (∀ k, look es k = look (nzl fun c => Wn (ps.take i) c p) k))) ⟨l0, l1, l2, l3, l4, rfl, Le.refl _, .ref t1, [], rfl, E0, by simp, fun k => by
      rw [show (fun c => Wn (ps.take 0) c p) = fun _ => 0 from rfl, nzl_zero]⟩ ?_ ?_
    · intro i ym rr2 hym rr4
      refine Exs.hide fun κ hκ => ?_
      obtain ⟨loc3, hp4⟩ := rr2
      refine hide fun Pz hPz => ?_; (rcases rr4 with ⟨m0, m1, m2, m3, m4, m6, hle4, ve, es, m7, hE, hel, hlk⟩) <;> (refine hPz ?_; clear hPz Pz)
      change Le hp3 hp4 at hle4; change EntN D hp4 ve _ at hE
      obtain ⟨m, hm, hrm⟩ := ep3.get' hym
      have hmem : m ∈ ps := List.mem_of_getElem? hm
      have hi3 : i < 3 := by have := (List.getElem?_eq_some_iff.mp hm).1; rw [hps.1] at this; exact this
      have hL4 : LstR (LstR IntR) hp4 ym m := LstR.mono (LstR.mono IntR.mono) _ _ _ _ hle4 hrm
      have hn4 : LstR StrR hp4 vn lawNames := LstR.mono StrR.mono _ _ _ _ (hle.trans (le23.trans hle4)) hn1
      have hc4 : LstR IntR hp4 vc cs := LstR.mono IntR.mono _ _ _ _ (hle1.trans (hle.trans (le23.trans hle4))) hvc
      let f : Nat → Int := fun c => at2 m c p
      have hf : ∀ c, c < 5 → 0 ≤ f c := fun c hc => by obtain ⟨_, _, _, _, h0, _⟩ := hps.get hmem hc hp5; exact h0
      refine exs_cons (set_n B 9 (ev_dict0 fun d2 hd2 => ?_))
      have hd2 : hp4 d2 = none := hd2
      refine exs_cons (for_r gk B 10 (fun c st => A10 (st.loc 0 = some (.ref lp)) (st.loc 1 = some vc) (st.loc 2 = some (.int total)) (st.loc 3 = some vn) (st.loc 4 = some (.ref d)) (st.loc 6 = some (.int p)) (st.loc 7 = some ve) (st.loc 8 = some ym) (st.loc 9 = some (.ref d2)) (And (Le hp4 st.hp) (DctR IntR st.hp (.ref d2) (tabl c (fun c => decide (0 < f c)) f)))) (by exact nsK hK rfl)
        (es_c (ev_int (es_nil ⟨0, 5, rfl, by decide, by decide, ⟨m0, m1, m2, m3, m4, m6, m7, rfl, rfl, Le.new hd2, d2, [], 0, rfl, hset_self _ _ _, .nil, .nil⟩, ?_, ?_⟩))))
      · intro c rr1 hc rr3
        refine Exs.hide fun κ hκ => ?_
        obtain ⟨loc5, hp5'⟩ := rr1
        refine hide fun Pz hPz => ?_; (rcases rr3 with ⟨n0, n1, n2, n3, n4, n6, n7, n8, n9, hle5, hD⟩) <;> (refine hPz ?_; clear hPz Pz)
        change Le hp4 hp5' at hle5; change DctR IntR hp5' (.ref d2) _ at hD
        have hc5 : c < 5 := by simpa using hc
        obtain ⟨r, hr, hrl, hx, h0, h3⟩ := hps.get hmem hc5 hp5
        have hL5 : LstR (LstR IntR) hp5' ym m := LstR.mono (LstR.mono IntR.mono) _ _ _ _ hle5 hL4
        rw [Int.zero_add]
        have hml : m.length = 5 := (hps.2 m hmem).1
        have cell : ∀ {st : St} {K : AV → St → Prop} {q1 q2 q3 q4 q5 : Pos}, st.hp = hp5' → st.loc 8 = some ym → st.loc 10 = some (.int c) → st.loc 6 = some (.int p) → K (.int (f c)) st → Ev prog w G ⟨A, env, nsF ["profiles", "cells", "total", "names", "entries", "turn", "place", "entry", "calls", "callers", "caller", "often"], 12, own, fr⟩ (.Subscript (.Subscript (.Name "calls" q1) (.Name "caller" q2) q3) (.Name "place" q4) q5) st K := by
          intro st K q1 q2 q3 q4 q5 e1 e2 e3 e4 hk
          refine ev_lx (R := IntR) (ev_lx (R := LstR IntR) (ev_n B 8 e2 (ev_n B 10 e3 ⟨m, c, r, by rw [e1]; exact hL5, le_at ‹_›, rfl, hr, fun y hy => ev_n B 6 e4 ⟨r, p, at2 m c p, hy, le_at ‹_›, rfl, hx, fun z hz => ?_⟩⟩)))
          rw [show z = _ from hz]; exact hk
        refine exs_cons (ex_if (tr_icmp (cell rfl n8 rfl n6 (ev_int ⟨_, _, _, rfl, rfl, rfl, ?_⟩))))
        split
        · rename_i hpos
          have hpos' : 0 < f c := by simpa using hpos
          obtain ⟨d2', ya, ea, e1, ha1, ha2, ha3⟩ := id hD
          cases e1
          refine exs_cons (set_item_d (cell rfl n8 rfl n6 (ev_n B 9 n9 (ev_lx (R := StrR) (ev_n B 3 n3 (ev_n B 10 rfl ⟨lawNames, c, nm c, LstR.mono StrR.mono _ _ _ _ hle5 hn4, by decide, rfl, nm_get hc5, fun y hy => ?_⟩))))))
          refine ⟨d2, ya, ea, nm c, rfl, hy, ha1, Nat.le_trans (Nat.le_of_eq ha2.length) (Nat.le_trans tabl_len (Nat.le_trans (Nat.le_of_lt ‹_›) (by decide))), fun ep' => exs_nil (exs_nil (hκ _ _ ⟨n0, n1, n2, n3, n4, n6, n7, n8, n9, hle5.put hd2, ?_⟩))⟩
          have hnk : nm c ∉ (tabl c (fun c => decide (0 < f c)) f).map (·.1) := by
            intro hmm
            have := look_none.mp (show look (tabl c (fun c => decide (0 < f c)) f) (nm c) = none by rw [tabl_look (Nat.le_of_lt ‹_›) hc5]; simp)
            exact this hmm
          have e2 : putk (tabl c (fun c => decide (0 < f c)) f) (nm c) (f c) = tabl (c + 1) (fun c => decide (0 < f c)) f := by
            rw [tabl_succ, if_pos (by simpa using hpos')]
            unfold putk
            rw [if_neg (fun z => hnk (any_iff.mp z))]
          refine ⟨d2, _, ep', rfl, hset_self _ _ _, ?_, tabl_keys (Nat.le_trans ‹_› (by decide))⟩
          rw [← e2]
          exact (aput_rel (R := IntR) (hp := hp5') ha2 (nm c) rfl).mono fun a b h => h
        · rename_i hpos
          have e2 : tabl (c + 1) (fun c => decide (0 < f c)) f = tabl c (fun c => decide (0 < f c)) f := by
            rw [tabl_succ, if_neg (by simpa using hpos)]
          refine exs_nil (exs_nil (hκ _ _ ⟨n0, n1, n2, n3, n4, n6, n7, n8, n9, hle5, ?_⟩))
          rw [e2]; exact hD
      · intro rr0 rr1
        obtain ⟨loc5, hp5'⟩ := rr0
        refine hide fun Pz hPz => ?_; (rcases rr1 with ⟨n0, n1, n2, n3, n4, n6, n7, n8, n9, hle5, hD⟩) <;> (refine hPz ?_; clear hPz Pz)
        change Le hp4 hp5' at hle5; change DctR IntR hp5' (.ref d2) (nzl f) at hD
        refine exs_cons (set_n B 11 (ev_fn gk B rm (by exact nsK hK rfl) (by exact fbK hK rfl) (es_c (ev_n B 9 n9 (es_nil (FnC.mono (count_calls_ok gk hK hD) fun vo hp6 hz41 => ?_))))))
        obtain ⟨e6, e7⟩ := hz41
        subst e6 e7
        rw [nzl_sum hf]
        refine exs_cons (set_n B 7 (ev_fn gk B rm (by exact nsK hK rfl) (by exact fbK hK rfl) (es_c (ev_n B 7 n7 (es_c (ev_tup ?_))))))
        refine es_c (ev_n B 11 rfl (es_c (ev_n B 11 rfl (es_c (ev_lx (R := IntR) (ev_n B 1 n1 (ev_n B 6 n6 ⟨cs, p, cs.getD p 0, LstR.mono IntR.mono _ _ _ _ hle5 hc4, le_at ‹_›, rfl, ?_, fun yc hyc => es_c (ev_n B 6 n6 (es_c (ev_n B 9 n9 (es_nil ?_))))⟩)))))))
        · obtain ⟨_, e⟩ := get_at hcs (Nat.lt_trans hp5 (by decide)); rw [getD_of e]; exact e
        refine ⟨(by show 5 ≤ 1000; decide), fun t2 ht2 => es_nil ?_⟩
        have ht2 : hp6 t2 = none := ht2
        have le56 : Le hp6 (hset hp6 t2 (.tup [.int (sum5 f), .int (sum5 f), yc, .int p, .ref d2])) := Le.new ht2
        have E2 : EntR (hset hp6 t2 (.tup [.int (sum5 f), .int (sum5 f), yc, .int p, .ref d2])) (.ref t2) ⟨sum5 f, sum5 f, cs.getD p 0, p, nzl f⟩ := ⟨t2, .ref d2, rfl, by rw [hset_self, show yc = _ from hyc], DctR.mono IntR.mono _ _ _ _ le56 hD⟩
        refine FnC.mono (add_func_stats_ok gk hK gb gc (EntR.mono _ _ _ _ (hle5.trans le56) hE.to) E2 ?_) fun v7 hp7 hq7 => ?_
        · have h1 : (entAt ps cs p i es).e.length = es.length := rfl
          have h2 : (nzl f).length ≤ 5 := tabl_len
          show es.length + (nzl f).length ≤ 900
          lia
        obtain ⟨hle7, es7, hE7, hel7, hlk7⟩ := hq7
        refine exs_nil (hκ _ _ ⟨hle7 _ _ (le56 _ _ (hle5 _ _ (hle4 _ _ ep2))), n0, n1, n2, n3, n4, n6, hle4.trans (hle5.trans (le56.trans hle7)), v7, es7, rfl, ?_, ?_, fun k => ?_⟩)
        · have : (⟨sum5 f + (entAt ps cs p i es).a, sum5 f + (entAt ps cs p i es).b, cs.getD p 0 + (entAt ps cs p i es).c, (p : Int) + (entAt ps cs p i es).d, es7⟩ : Ent) = entAt ps cs p (i + 1) es7 := by
            have h1 : sum5 f + (sum5 fun c => Wn (ps.take i) c p) = sum5 fun c => Wn (ps.take (i + 1)) c p := by
              show sum5 (fun c => at2 m c p) + _ = _
              rw [← sum5_add]
              exact congrArg sum5 (funext fun c => (Int.add_comm _ _).trans (Wn_snoc hm c p).symm)
            have h2 : cs.getD p 0 + (i : Int) * cs.getD p 0 = ((i + 1 : Nat) : Int) * cs.getD p 0 := by
              rw [Int.natCast_add, Int.add_mul]; simp; exact Int.add_comm _ _
            have h3 : (p : Int) + (i : Int) * p = ((i + 1 : Nat) : Int) * p := by
              rw [Int.natCast_add, Int.add_mul]; simp; exact Int.add_comm _ _
            simp only [entAt, h1, h2, h3]
          rw [← this]
          obtain ⟨t7, dd7, f1, f2, f3, f4⟩ := hE7
          exact ⟨t7, dd7, f1, f2, Dn _ _ _ ((hle.trans le23).trans (hle4.trans (hle5.trans le56))) (le56 _ _ (hle5 _ _ (hle4 _ _ (le23 _ _ hdd2)))) f3, f4⟩
        · have h2 : (nzl f).length ≤ 5 := tabl_len
          have h3 : es7.length ≤ es.length + (nzl f).length := hel7
          lia
        · have h4 := hlk7 k
          have h5 : look es7 k = comb (· + ·) (look es k) (look (nzl f) k) := h4
          rw [h5, hlk, nzl_add (fun c hc => Wn_nonneg hps hc hp5 i) hf]
          congr 1
          exact nzl_congr fun c hc => (Wn_snoc hm c p).symm
    · intro rr0 rr1
      obtain ⟨loc3, hp4⟩ := rr0
      refine hide fun Pz hPz => ?_; (rcases rr1 with ⟨m0, m1, m2, m3, m4, m6, hle4, ve, es, m7, hE, hel, hlk⟩) <;> (refine hPz ?_; clear hPz Pz)
      change Le hp3 hp4 at hle4; change EntN D hp4 ve _ at hE
      have h3l : (SrcK.list lp yps).one.length = 3 := by show yps.length = 3; rw [ep3.length, hps.1]
      rw [h3l] at hE hlk hel
      have htk : ps.take 3 = ps := by rw [← hps.1, List.take_length]
      rw [htk] at hlk
      refine hide fun Pz hPz => ?_; (rcases id hE with ⟨t4, vd4, _, _, _, _, _, _, _, _, _, hnd4⟩) <;> (refine hPz ?_; clear hPz Pz)
      obtain ⟨d', ya, ea, e1, ha1, ha2, ha3⟩ := DctR.mono EntN.mono _ _ _ _ (le23.trans hle4) hd
      cases e1
      have hel5 : ents.length = j := by have := congrArg List.length hkeys; simpa using this
      have hn4 : LstR StrR hp4 vn lawNames := LstR.mono StrR.mono _ _ _ _ (hle.trans (le23.trans hle4)) hn1
      refine exs_cons (set_item_d (ev_n B 7 m7 (ev_n B 4 m4 (ev_lx (R := StrR) (ev_n B 3 m3 (ev_n B 6 m6 ⟨lawNames, p, nm p, hn4, by decide, rfl, nm_get hp5, fun y hy => ⟨d, ya, ea, nm p, rfl, hy, ha1, by rw [ha2.length]; exact Nat.le_trans (Nat.le_of_eq ‹_›) (Nat.le_trans (Nat.le_of_lt ‹_›) (by decide)), fun ep' => exs_nil (hκ _ _ ⟨m0, m1, m2, m3, m4, (hle.trans (le23.trans hle4)).put hd0, ents ++ [(nm p, entAt ps cs p 3 es)], ?_, ?_, ?_⟩)⟩⟩))))))
      · have hnk : nm p ∉ ents.map (·.1) := by
          rw [hkeys]
          intro hmm
          obtain ⟨i, hi, e⟩ := List.mem_map.mp hmm
          have hi' := List.mem_range.mp hi
          have := hinj i j (Nat.lt_trans ‹_› ‹_›) hj5 (nm_inj (hpl i).2 (hpl j).2 (by rw [e, hpj]))
          lia
        have e2 : putk ents (nm p) (entAt ps cs p 3 es) = ents ++ [(nm p, entAt ps cs p 3 es)] := by
          unfold putk
          rw [if_neg (fun z => hnk (any_iff.mp z))]
        refine ⟨d, _, ep', rfl, hset_self _ _ _, ?_, by rw [← e2]; exact nodup_putk ha3⟩
        rw [← e2]
        have hEd : ∀ y x, EntN D hp4 y x → EntN D (hset hp4 d (.dict (aput ya (nm p) ve) ep')) y x := fun y x hq206 => by
          refine hide fun Pz hPz => ?_; (rcases hq206 with ⟨t, vd, r1, r2, r0, d9, y9, p9, r3, r4, r5, r6⟩) <;> (refine hPz ?_; clear hPz Pz)
          refine ⟨t, vd, r1, (hset_other _ _ fun z => ?_).trans r2, r0, d9, y9, p9, r3, (hset_other _ _ fun z => ?_).trans r4, r5, r6⟩
          · rw [z, ha1] at r2; cases r2
          · cases r3; rw [z, Dd] at r0; cases r0
        exact (aput_rel (R := EntN D) (hp := hp4) ha2 (nm p) hE).mono fun a b h => ⟨h.1, hEd _ _ h.2⟩
      · rw [List.map_append, hkeys, List.range_succ, List.map_append]; simp [hpj]
      · intro q hq
        rcases List.mem_append.mp hq with h | h
        · exact hents q h
        · exact ⟨p, es, hp5, List.mem_singleton.mp h, hnd4, Nat.le_trans ‹_› (by decide), hlk⟩
  · intro rr0 rr1
    obtain ⟨loc, hp2⟩ := rr0
    refine hide fun Pz hPz => ?_; (rcases rr1 with ⟨l0, l1, l2, l3, l4, hle, ents, hd, hkeys, hents⟩) <;> (refine hPz ?_; clear hPz Pz)
    refine exs_cons (ex_return (ev_n B 4 l4 (hκ _ _ ⟨hle1.trans hle, ents, ?_, ?_, hents⟩)))
    · obtain ⟨a, ys, ep, e1, e2, e3, e4⟩ := hd
      exact ⟨a, ys, ep, e1, e2, e3.mono fun a b h => ⟨h.1, h.2.to⟩, e4⟩
    have := congrArg List.length hkeys
    simpa using this
end
end Mine
end
section
open PySem PySem.W PySem.Calls PyProof.Rows
set_option Elab.async false
set_option linter.unusedVariables false
set_option maxRecDepth 100000
set_option maxHeartbeats 2000000
namespace Mine
variable {prog : Program} {w : World}
section
variable {G : Gl} {C : Cx} {scope : Scope} {st : St}
theorem map_list {i : Nat} {iter : Expr} {scope' : Scope} {caps : List Nat} {α β : Type} {R0 : Rel α} {R : Rel β} {test : α → Bool} {f : α → β} {ifs : List Expr} {elt : Expr} {K : AV → St → Prop}
    (h : Ev prog w G C iter st fun v st₁ => ∃ xs : List α, A4 (LstR R0 st₁.hp v xs) (xs.length ≤ 1000) (∀ env own fr, Blk ⟨C.A, env, C.ns, C.N, own, fr⟩ scope' → ∀ x ∈ xs, ∀ y hp, Le st₁.hp hp → R0 hp y x →
        Ts prog w G ⟨C.A, env, C.ns, C.N, own, fr⟩ ifs (stc caps i y st₁ hp) fun b st' => A3 (st' = stc caps i y st₁ hp) (b = test x) (test x = true → Ev prog w G ⟨C.A, env, C.ns, C.N, own, fr⟩ elt (stc caps i y st₁ hp) fun z st' => A3 (st'.loc = (stc caps i y st₁ hp).loc) (Le hp st'.hp) (R st'.hp z (f x)))) (∀ a hp', st₁.hp a = none → Le st₁.hp hp' → LstR R hp' (.ref a) ((xs.filter test).map f) → K (.ref a) ⟨st₁.loc, hp'⟩)) :
    LMap prog w G C i iter scope' caps R0 R test f ifs elt st K :=
  src_list (Ev.mono h fun v st₁ hq207 => by obtain ⟨xs, ⟨l, ys, e1, e2, e3⟩, hl, hel, hK⟩ := hq207; exact ⟨l, ys, e1, e2, trivial, keeps_list e2, xs, e3, hl, hel, hK⟩)
theorem ev_sum (gk : GOk G) (B : Blk C scope) {e : Expr} {np p : Pos} {K : AV → St → Prop} (hm : nsIn G.K mainGlobals (Str.ofString "sum") = some none) (h : Ev prog w G C e st fun v st₁ => ∃ ns, LstR IntR st₁.hp v ns ∧ K (.int ns.sum) st₁) (hp : autoParam (plainE e = true) tRfl) (hk : autoParam (gloB scope (Str.ofString "sum") = true) tRfl) :
    Ev prog w G C (.Call (.Name (Str.ofString "sum") np) [e] [] p) st K :=
  ev_bi gk B hm (by rfl) (es_c (Ev.mono h fun v st₁ hq => es_nil fun vs hvs => by
    obtain ⟨ns, ⟨l, ys, e1, e2, e3⟩, hK⟩ := hq
    subst e1
    obtain ⟨v1, rfl, hv1⟩ := hvs.one
    rw [vabs_ref hv1]
    rw [ints_of e3] at e2
    exact op_sum B.ok e2 hK) hp) (by simp [hp]) hk
end
theorem swap_cell {C : Cx} {scope : Scope} (B : Blk C scope) {elt : Expr} {gens : List Comprehension} {sc : Scope} {pos p : Pos} {x : Str} {l : Nat} (h : scope.names.lookup x = some .cell) : swapsWith (.ListComp elt gens sc pos) (some (.Name x p)) l C.env = pure false := by
  show (pure (C.env.blockKind == .function && C.env.kindOf x == some .local && p.line == pos.line && !(sc.names.any fun (n, k) => n == x && (k == .local || k == .cell))) : Sem Bool) = pure false
  rw [B.kinds _ _ (by rintro ⟨⟩) h]
  have : ((some NameKind.cell : Option NameKind) == some NameKind.local) = false := by decide
  rw [this]; simp
noncomputable def mk2 (f : Nat → Nat → Int) : List (List Int) := (List.range 5).map fun i => (List.range 5).map fun j => f i j
theorem range5_get {α : Type} (f : Nat → α) {i : Nat} (h : i < 5) : ((List.range 5).map f)[i]? = some (f i) := by simp [h]
theorem mk2_row (f : Nat → Nat → Int) {i : Nat} (h : i < 5) : (mk2 f)[i]? = some ((List.range 5).map fun j => f i j) := range5_get _ h
theorem sum_range5 (f : Nat → Int) : ((List.range 5).map f).sum = sum5 f := by
  show f 0 + (f 1 + (f 2 + (f 3 + (f 4 + 0)))) = _
  rw [Int.add_zero, sum5_list]
theorem filter_true {α : Type} (l : List α) : l.filter (fun _ => true) = l := List.filter_eq_self.mpr fun _ _ => rfl
noncomputable def PW (W : Nat → Nat → Int) : Nat → Nat → Nat → Int
  | 0, i, j => W i j
  | t + 1, i, j => sum5 fun m => PW W t i m * W m j
theorem Wn_le {ps : List (List (List Int))} (h : PsOk ps) {c p : Nat} (hc : c < 5) (hp : p < 5) : 0 ≤ Wn ps c p ∧ Wn ps c p ≤ 9 := by
  have h0 := Wn_nonneg h hc hp 3
  rw [← h.1, List.take_length] at h0
  refine ⟨h0, ?_⟩
  obtain ⟨a, b, c', e⟩ := len_three h.1
  subst e
  have h1 := h.get (m := a) (by simp) hc hp
  have h2 := h.get (m := b) (by simp) hc hp
  have h3 := h.get (m := c') (by simp) hc hp
  obtain ⟨_, _, _, _, _, h1⟩ := h1
  obtain ⟨_, _, _, _, _, h2⟩ := h2
  obtain ⟨_, _, _, _, _, h3⟩ := h3
  show at2 a c p + (at2 b c p + (at2 c' c p + 0)) ≤ 9
  rw [Int.add_zero]
  exact Int.add_le_add h1 (Int.add_le_add h2 h3)
abbrev Mat := LstR (LstR IntR)
theorem Mat.mono : Mono Mat := LstR.mono (LstR.mono IntR.mono)
theorem Mat.keep {hp : Hp} {ap : Addr} {zs : List AV} {z0 : AV} {m0 : List (List Int)} {A : AObj} (h : hp ap = some (.list zs)) (hz : z0 ∈ zs) (hm : Mat hp z0 m0) (hne : m0 ≠ []) {z : AV} {x : List (List Int)} (hx : Mat hp z x) : Mat (hset hp ap A) z x := by
  obtain ⟨q, us, e0, h1, h2⟩ := hm
  subst e0
  obtain ⟨a', zs', e, h3, h4⟩ := hx
  have h5 : a' ≠ ap := fun w => by
    rw [w, h] at h3
    cases h3
    obtain ⟨i, hi⟩ := List.getElem?_of_mem hz
    obtain ⟨row, _, q', us', e', h6, h7⟩ := h4.get' hi
    cases e'
    rw [h1] at h6; cases h6
    cases h2 with
    | nil => exact hne rfl
    | cons r _ =>
      obtain ⟨_, _, r1, _⟩ := r
      cases h7 with
      | cons r2 _ => rw [r1] at r2; cases r2
  refine ⟨a', zs', e, (hset_other _ _ h5).trans h3, h4.mono fun y row hq => ?_⟩
  obtain ⟨r, us', e', h6, h7⟩ := hq
  refine ⟨r, us', e', (hset_other _ _ fun w => ?_).trans h6, h7⟩
  rw [w, h] at h6
  cases h6
  obtain ⟨i, hi⟩ := List.getElem?_of_mem hz
  obtain ⟨_, _, e6⟩ := h7.get' hi
  cases e6
section
variable {G : Gl} {P : Params}
theorem law_powers_ok (gk : GOk G) (hK : G.K = hd.heap_1 P) {n : Nat} {vp : AV} {ps : List (List (List Int))} {hp : Hp} (hps : PsOk ps) (hvp : LstR Mat hp vp ps) :
    FnC prog w G (n + 1) 212 [vp] hp fun v hp' => Le hp hp' ∧ LstR Mat hp' v ((List.range 5).map fun t => mk2 (PW (Wn ps) t)) := by
  refine fn_b gk ["profiles", "whole", "powers", "turn", "last", "one", "two", "calls", "mid"] 1 (by exact lkK hK rfl) (by exact cdK hK rfl) fun A env own fr B rm hcd => ?_
  refine Exs.hide fun κ hκ => ?_
  have hr : nsIn G.K mainGlobals (Str.ofString "range") = some none := by exact nsK hK rfl
  have hsm : nsIn G.K mainGlobals (Str.ofString "sum") = some none := by exact nsK hK rfl
  refine exs_cons (set_n B 1 (ev_map B 5 [0] NatR.mono (LstR.mono IntR.mono) (test := fun _ => true) (fun i => (List.range 5).map fun j => Wn ps i j) (map_range (n := 5) gk B hr (by decide) ?_ ?_)) (swap_cell B rfl))
  · refine fun env1 own1 fr1 B1 i hi hp1 hle1 => ts_nil ⟨rfl, rfl, fun _ => ?_⟩
    refine ev_map B1 6 [0, 5] NatR.mono IntR.mono (test := fun _ => true) (fun j => Wn ps i j) (map_range (n := 5) gk B1 hr (by decide) ?_ ?_)
    · refine fun env2 own2 fr2 B2 j hj hp2 hle2 => ts_nil ⟨rfl, rfl, fun _ => ?_⟩
      refine ev_sum gk B2 hsm (ev_map B2 7 [5, 6] Mat.mono IntR.mono (test := fun _ => true) (fun m => at2 m i j) (map_list (ev_n B2 0 rfl ⟨ps, LstR.mono Mat.mono _ _ _ _ (Le.trans hle1 hle2) hvp, by rw [hps.1]; decide, ?_, ?_⟩)))
      · refine fun env3 own3 fr3 B3 m hm ym hp3 hle3 hr3 => ts_nil ⟨rfl, rfl, fun _ => ?_⟩
        obtain ⟨r, e1, e2, e3, _⟩ := hps.get hm hi hj
        refine ev_lx (R := IntR) (ev_lx (R := LstR IntR) (ev_n B3 7 rfl (ev_n B3 5 rfl ⟨m, i, r, hr3, by rw [(hps.2 m hm).1]; decide, rfl, e1, fun y hy => ev_n B3 6 rfl ⟨r, j, _, hy, le_at ‹_›, rfl, e3, fun z hz => ⟨rfl, Le.refl _, hz⟩⟩⟩)))
      · intro a hp3 _ hle3 hL
        rw [filter_true] at hL
        exact ⟨_, hL, rfl, hle3, rfl⟩
    · intro a hp2 _ hle2 hL
      rw [filter_true] at hL
      exact ⟨rfl, hle2, hL⟩
  · intro aw hp1 _ hle1 hW
    rw [filter_true] at hW
    change LstR (LstR IntR) hp1 (.ref aw) (mk2 (PW (Wn ps) 0)) at hW
    change Le hp hp1 at hle1
    refine exs_cons (set_n B 2 (ev_list (es_c (ev_n B 1 rfl (es_nil ⟨(by show 1 ≤ 1000; decide), fun ap hap => ?_⟩)))))
    have hap : hp1 ap = none := hap
    have hW0 := Mat.mono _ (hset hp1 ap (.list [.ref aw])) _ _ (Le.new hap) hW
    have start : E2 fun (ys : List AV) (y : AV) => A3 (hset hp1 ap (.list [.ref aw]) ap = some (.list (ys ++ [y]))) (All2 (Mat (hset hp1 ap (.list [.ref aw]))) (ys ++ [y]) ((List.range (0 + 1)).map fun t => mk2 (PW (Wn ps) t))) (Mat (hset hp1 ap (.list [.ref aw])) y (mk2 (PW (Wn ps) 0))) := by
      refine ⟨[], .ref aw, by rw [hset_self]; rfl, ?_, hW0⟩
      exact All2.cons hW0 All2.nil
    refine exs_cons (for_r gk B 3 (fun t st => A4 (st.loc 1 = some (.ref aw)) (st.loc 2 = some (.ref ap)) (Le hp1 st.hp) (E2 fun ys y => A3 (st.hp ap = some (.list (ys ++ [y]))) (All2 (Mat st.hp) (ys ++ [y]) ((List.range (t + 1)).map fun t => mk2 (PW (Wn ps) t))) (Mat st.hp y (mk2 (PW (Wn ps) t))))) hr
      (es_c (ev_int (es_nil ⟨0, 4, rfl, by decide, by decide, ⟨rfl, rfl, Le.new hap, start⟩, ?_, ?_⟩))))
    · intro t rr1 ht rr3
      refine Exs.hide fun κ hκ => ?_
      obtain ⟨loc, hp2⟩ := rr1
      obtain ⟨l1, l2, hle2, ys, y, hys, hall, hy⟩ := rr3
      change Le hp1 hp2 at hle2; change Mat hp2 y _ at hy; change All2 (Mat hp2) _ _ at hall; change hp2 ap = _ at hys
      have ht4 : t < 4 := by simpa using ht
      have hlen : ys.length = t := by have := hall.length; simp at this; lia
      refine exs_cons (set_n B 4 (ev_at (ev_n B 2 l2 (ev_neg (ev_int ⟨_, rfl, y, .last hys (Nat.le_trans (Nat.le_of_eq ‹_›) (Nat.le_trans (Nat.le_of_lt ‹_›) (by decide))), ?_⟩)))))
      refine exs_cons (do_append B (ev_n B 2 l2 ⟨ap, rfl, ⟨_, hys⟩, ?_⟩))
      refine ev_map B 5 [1, 4] NatR.mono (LstR.mono IntR.mono) (test := fun _ => true) (fun i => (List.range 5).map fun j => PW (Wn ps) (t + 1) i j) (map_range (n := 5) gk B hr (by decide) ?_ ?_)
      · refine fun env1 own1 fr1 B1 i hi hp3 hle3 => ts_nil ⟨rfl, rfl, fun _ => ?_⟩
        change Le hp2 hp3 at hle3
        refine ev_map B1 6 [1, 4, 5] NatR.mono IntR.mono (test := fun _ => true) (fun j => PW (Wn ps) (t + 1) i j) (map_range (n := 5) gk B1 hr (by decide) ?_ ?_)
        · refine fun env2 own2 fr2 B2 j hj hp4 hle4 => ts_nil ⟨rfl, rfl, fun _ => ?_⟩
          change Le hp3 hp4 at hle4
          refine ev_sum gk B2 hsm (ev_map B2 8 [1, 4, 5, 6] NatR.mono IntR.mono (test := fun _ => true) (fun m => PW (Wn ps) t i m * Wn ps m j) (map_range (n := 5) gk B2 hr (by decide) ?_ ?_))
          · refine fun env3 own3 fr3 B3 m hm hp5 hle5 => ts_nil ⟨rfl, rfl, fun _ => ?_⟩
            change Le hp4 hp5 at hle5
            refine ev_iop (ev_lx (R := IntR) (ev_lx (R := LstR IntR) (ev_n B3 4 (v := y) rfl (ev_n B3 5 rfl ⟨_, i, _, Mat.mono _ _ _ _ (hle3.trans (hle4.trans hle5)) hy, by simp [mk2], rfl, mk2_row _ hi, fun y1 hy1 => ev_n B3 8 rfl ⟨_, m, _, hy1, by simp, rfl, range5_get _ hm, fun z1 hz1 => ?_⟩⟩))))
            refine ev_lx (R := IntR) (ev_lx (R := LstR IntR) (ev_n B3 1 (v := .ref aw) l1 (ev_n B3 8 rfl ⟨_, m, _, Mat.mono _ _ _ _ (hle2.trans (hle3.trans (hle4.trans hle5))) hW, by simp [mk2], rfl, mk2_row _ hm, fun y2 hy2 => ev_n B3 6 rfl ⟨_, j, _, hy2, by simp, rfl, range5_get _ hj, fun z2 hz2 => ⟨_, _, _, hz1, hz2, ?_, rfl, Le.refl _, rfl⟩⟩⟩)))
            have hw := Wn_le hps hm hj
            have hw' : (PW (Wn ps) 0 m j).natAbs < 2 ^ 63 := by show (Wn ps m j).natAbs < 2 ^ 63; lia
            show (if (PW (Wn ps) t i m).natAbs < 2 ^ 63 ∨ (PW (Wn ps) 0 m j).natAbs < 2 ^ 63 then some (PW (Wn ps) t i m * PW (Wn ps) 0 m j) else none) = _
            rw [if_pos (.inr hw')]; rfl
          · intro a hp5 _ hle5 hL
            rw [filter_true] at hL
            refine ⟨_, hL, rfl, hle5, ?_⟩
            rw [sum_range5]; rfl
        · intro a hp4 _ hle4 hL
          rw [filter_true] at hL
          exact ⟨rfl, hle4, hL⟩
      · intro a hp3 hna hle3 hL
        rw [filter_true] at hL
        change Le hp2 hp3 at hle3
        refine ⟨ys ++ [y], hle3 _ _ hys, by simp; exact Nat.le_trans (Nat.le_of_eq ‹_›) (Nat.le_trans (Nat.le_of_lt ‹_›) (by decide)), exs_nil (hκ _ _ ⟨l1, l2, (hle2.trans hle3).put hap, ys ++ [y], .ref a, hset_self _ _ _, ?_, ?_⟩)⟩
        · have hmem : y ∈ ys ++ [y] := by simp
          have hne : mk2 (PW (Wn ps) t) ≠ [] := by simp [mk2]
          have hy3 := Mat.mono _ _ _ _ hle3 hy
          rw [List.range_succ, List.map_append]
          exact (hall.mono fun z x hz => Mat.keep (hle3 _ _ hys) hmem hy3 hne (Mat.mono _ _ _ _ hle3 hz)).snoc (Mat.keep (hle3 _ _ hys) hmem hy3 hne hL)
        · exact Mat.keep (hle3 _ _ hys) (by simp) (Mat.mono _ _ _ _ hle3 hy) (by simp [mk2]) hL
    · intro rr0 rr1
      obtain ⟨loc, hp2⟩ := rr0
      obtain ⟨l1, l2, hle2, ys, y, hys, hall, hy⟩ := rr1
      exact exs_cons (ex_return (ev_n B 2 l2 (hκ _ _ ⟨hle1.trans hle2, ap, _, rfl, hys, hall⟩)))
end
end Mine
end
section
open PySem PySem.W PySem.Calls PyProof.Rows
set_option Elab.async false
set_option linter.unusedVariables false
set_option maxRecDepth 100000
set_option maxHeartbeats 2000000
namespace Mine
variable {prog : Program} {w : World}
noncomputable def pws (X : Nat → Nat → Nat → Int) : List (List (List Int)) := (List.range 5).map fun t => mk2 (X t)
theorem pws_get {X : Nat → Nat → Nat → Int} {t : Nat} (h : t < 5) : (pws X)[t]? = some (mk2 (X t)) := range5_get _ h
theorem pws_len {X : Nat → Nat → Nat → Int} : (pws X).length ≤ 1000 := by simp [pws]
theorem mk2_len {f : Nat → Nat → Int} : (mk2 f).length ≤ 1000 := by simp [mk2]
theorem row_len {f : Nat → Int} : ((List.range 5).map f).length ≤ 1000 := by simp
theorem mul_left {a b : Int} (h : a.natAbs < 2 ^ 63) : intOp .Mult a b = some (a * b) := by
  show (if a.natAbs < 2 ^ 63 ∨ b.natAbs < 2 ^ 63 then some (a * b) else none) = some (a * b)
  rw [if_pos (.inl h)]
theorem mul_right {a b : Int} (h : b.natAbs < 2 ^ 63) : intOp .Mult a b = some (a * b) := by
  show (if a.natAbs < 2 ^ 63 ∨ b.natAbs < 2 ^ 63 then some (a * b) else none) = some (a * b)
  rw [if_pos (.inr h)]
noncomputable def rkf (q : Nat → Bool) : Nat → Nat
  | 0 => 0
  | j + 1 => if q j = true then j + 1 else rkf q j
noncomputable def rank (X : Nat → Nat → Nat → Int) (p : Nat) : Nat := rkf (fun t => decide (0 < sum5 fun o => X t o p)) 5
section
variable {G : Gl} {P : Params}
theorem law_ranks_ok (gk : GOk G) (hK : G.K = hd.heap_1 P) {n : Nat} {vp : AV} {X : Nat → Nat → Nat → Int} {hp : Hp} (hvp : LstR Mat hp vp (pws X)) :
    FnC prog w G (n + 1) 217 [vp] hp fun v hp' => Le hp hp' ∧ LstR IntR hp' v ((List.range 5).map fun p => (rank X p : Int)) := by
  refine fn_b gk ["powers", "ranks", "place", "rank", "turn", "one"] 1 (by exact lkK hK rfl) (by exact cdK hK rfl) fun A env own fr B rm hcd => ?_
  refine Exs.hide fun κ hκ => ?_
  have hr : nsIn G.K mainGlobals (Str.ofString "range") = some none := by exact nsK hK rfl
  have hsm : nsIn G.K mainGlobals (Str.ofString "sum") = some none := by exact nsK hK rfl
  refine exs_cons (set_n B 1 (ev_list (es_nil ⟨by decide, fun l hl0 => ?_⟩)))
  have hl0 : hp l = none := hl0
  refine exs_cons (for_r gk B 2 (fun p st => A4 (st.loc 0 = some vp) (st.loc 1 = some (.ref l)) (Le hp st.hp) (st.hp l = some (.list (((List.range p).map fun p => (rank X p : Int)).map .int)))) hr
    (es_c (ev_int (es_nil ⟨0, 5, rfl, by decide, by decide, ⟨rfl, rfl, Le.new hl0, hset_self _ _ _⟩, ?_, ?_⟩))))
  · intro p rr1 hp5 rr3
    refine Exs.hide fun κ hκ => ?_
    obtain ⟨loc, hp1⟩ := rr1
    obtain ⟨l0, l1, hle, hls⟩ := rr3
    change Le hp hp1 at hle; change hp1 l = _ at hls
    have hp5 : p < 5 := by simpa using hp5
    rw [Int.zero_add]
    refine exs_cons (set_n B 3 (ev_int ?_))
    refine exs_cons (for_r gk B 4 (fun t st => A5 (st.loc 0 = some vp) (st.loc 1 = some (.ref l)) (st.loc 2 = some (.int p)) (st.loc 3 = some (.int (rkf (fun t => decide (0 < sum5 fun o => X t o p)) t))) (Le hp1 st.hp)) hr
      (es_c (ev_int (es_nil ⟨0, 5, rfl, by decide, by decide, ⟨l0, l1, rfl, rfl, Le.refl _⟩, ?_, ?_⟩))))
    · intro t rr1 ht rr3
      refine Exs.hide fun κ hκ => ?_
      obtain ⟨loc2, hp2⟩ := rr1
      obtain ⟨m0, m1, m2, m3, hle2⟩ := rr3
      change Le hp1 hp2 at hle2
      have ht : t < 5 := by simpa using ht
      rw [Int.zero_add]
      refine exs_cons (ex_if (tr_icmp (ev_sum gk B hsm (ev_map B 5 [0, 2, 4] NatR.mono IntR.mono (test := fun _ => true) (fun o => X t o p) (map_range (n := 5) gk B hr (by decide) ?_ ?_)))))
      · refine fun env1 own1 fr1 B1 o ho hp3 hle3 => ts_nil ⟨rfl, rfl, fun _ => ?_⟩
        change Le hp2 hp3 at hle3
        exact ev_lx (R := IntR) (ev_lx (R := LstR IntR) (ev_lx (R := Mat) (ev_n B1 0 m0 (ev_n B1 4 rfl ⟨_, t, _, LstR.mono Mat.mono _ _ _ _ (hle.trans (hle2.trans hle3)) hvp, pws_len, rfl, pws_get ht, fun y1 hy1 => ev_n B1 5 rfl ⟨_, o, _, hy1, mk2_len, rfl, mk2_row _ ho, fun y2 hy2 => ev_n B1 2 m2 ⟨_, p, _, hy2, row_len, rfl, range5_get _ hp5, fun y3 hy3 => ⟨rfl, Le.refl _, hy3⟩⟩⟩⟩))))
      · intro a hp3 _ hle3 hL
        change Le hp2 hp3 at hle3
        rw [filter_true] at hL
        refine ⟨_, hL, ev_int ⟨_, _, _, rfl, rfl, rfl, ?_⟩⟩
        rw [sum_range5]
        split
        · rename_i hpos
          refine exs_cons (set_n B 3 (ev_iop (ev_n B 4 rfl (ev_int ⟨_, _, _, rfl, rfl, rfl, exs_nil (exs_nil (hκ _ _ ⟨m0, m1, m2, ?_, hle2.trans hle3⟩))⟩))))
          have : rkf (fun t => decide (0 < sum5 fun o => X t o p)) (t + 1) = t + 1 := if_pos hpos
          simp only [St.set, if_true, this]; rfl
        · rename_i hpos
          refine exs_nil (exs_nil (hκ _ _ ⟨m0, m1, m2, ?_, hle2.trans hle3⟩))
          have : rkf (fun t => decide (0 < sum5 fun o => X t o p)) (t + 1) = rkf (fun t => decide (0 < sum5 fun o => X t o p)) t := if_neg hpos
          rw [this]; exact m3
    · intro rr0 rr1
      obtain ⟨loc2, hp2⟩ := rr0
      obtain ⟨m0, m1, m2, m3, hle2⟩ := rr1
      change Le hp1 hp2 at hle2
      refine exs_cons (do_append B (ev_n B 1 m1 ⟨l, rfl, ⟨_, hle2 _ _ hls⟩, ev_n B 3 m3 ⟨_, hle2 _ _ hls, by simp; exact Nat.le_trans (Nat.le_of_lt ‹_›) (by decide), exs_nil (hκ _ _ ⟨m0, m1, (hle.trans hle2).put hl0, ?_⟩)⟩⟩))
      show hset hp2 l _ l = _
      rw [hset_self, List.range_succ, List.map_append, List.map_append]; rfl
  · intro rr0 rr1
    obtain ⟨loc, hp1⟩ := rr0
    obtain ⟨l0, l1, hle, hls⟩ := rr1
    exact exs_cons (ex_return (ev_n B 1 l1 (hκ _ _ ⟨hle, l, _, rfl, hls, ints_all _⟩)))
noncomputable def entOf (X : Nat → Nat → Nat → Int) (cs : List Int) (p : Nat) : Ent := ⟨sum5 fun o => X 0 o p, sum5 fun o => X 0 o p, 3 * cs.getD p 0, 3 * p, nzl fun o => X 0 o p⟩
theorem law_sums_ok (gk : GOk G) (hK : G.K = hd.heap_1 P) {n : Nat} {vp vc : AV} {X : Nat → Nat → Nat → Int} {cs : List Int} {hp : Hp} (hvp : LstR Mat hp vp (pws X)) (hvc : LstR IntR hp vc cs) (hcs : cs.length = 10) :
    FnC prog w G (n + 2) 222 [vp, vc] hp fun v hp' => Le hp hp' ∧ DctR EntR hp' v (tabl 5 (fun _ => true) (entOf X cs)) := by
  refine fn_b gk ["powers", "cells", "names", "entries", "place", "callers", "one", "often"] 2 (by exact lkK hK rfl) (by exact cdK hK rfl) fun A env own fr B rm hcd => ?_
  refine Exs.hide fun κ hκ => ?_
  have hr : nsIn G.K mainGlobals (Str.ofString "range") = some none := by exact nsK hK rfl
  have hsm : nsIn G.K mainGlobals (Str.ofString "sum") = some none := by exact nsK hK rfl
  refine exs_cons (set_n B 2 (ev_fn gk B rm (by exact nsK hK rfl) (by exact fbK hK rfl) (es_nil (FnC.mono (law_names_ok gk hK) fun vn hp1 hz44 => ?_))))
  obtain ⟨hle1, hn1⟩ := hz44
  refine exs_cons (set_n B 3 (ev_dict0 fun d hd0 => ?_))
  have hd0 : hp1 d = none := hd0
  let D : Hp := hset hp1 d (.dict [] 0)
  have Dd : D d = some (.dict [] 0) := hset_self _ _ _
  have Dn : ∀ (h : Hp) (a : Addr) (o : AObj), Le hp1 h → h d = some o → h a = none → D a = none := fun h a o l h1 h2 => by
    have hne : a ≠ d := fun z => by rw [z, h1] at h2; cases h2
    exact (hset_other _ _ hne).trans (l.none h2)
  refine exs_cons (for_r gk B 4 (fun p st => A6 (st.loc 0 = some vp) (st.loc 1 = some vc) (st.loc 2 = some vn) (st.loc 3 = some (.ref d)) (Le hp1 st.hp) (DctR (EntN D) st.hp (.ref d) (tabl p (fun _ => true) (entOf X cs)))) hr
    (es_c (ev_int (es_nil ⟨0, 5, rfl, by decide, by decide, ⟨rfl, rfl, rfl, rfl, Le.new hd0, d, [], 0, rfl, hset_self _ _ _, .nil, .nil⟩, ?_, ?_⟩))))
  · intro p rr1 hp5 rr3
    refine Exs.hide fun κ hκ => ?_
    obtain ⟨loc, hp2⟩ := rr1
    obtain ⟨l0, l1, l2, l3, hle, hd⟩ := rr3
    change Le hp1 hp2 at hle; change DctR (EntN D) hp2 (.ref d) _ at hd
    have hp5 : p < 5 := by simpa using hp5
    rw [Int.zero_add]
    obtain ⟨d', ya, ea, e1, ha1, ha2, ha3⟩ := id hd
    cases e1
    refine exs_cons (set_n B 5 (ev_dict0 fun d2 hd2 => ?_))
    have hd2 : hp2 d2 = none := hd2
    let f : Nat → Int := fun o => X 0 o p
    refine exs_cons (for_r gk B 6 (fun o st => A8 (st.loc 0 = some vp) (st.loc 1 = some vc) (st.loc 2 = some vn) (st.loc 3 = some (.ref d)) (st.loc 4 = some (.int p)) (st.loc 5 = some (.ref d2)) (Le hp2 st.hp) (DctR IntR st.hp (.ref d2) (tabl o (fun c => decide (0 < f c)) f))) hr
      (es_c (ev_int (es_nil ⟨0, 5, rfl, by decide, by decide, ⟨l0, l1, l2, l3, rfl, rfl, Le.new hd2, d2, [], 0, rfl, hset_self _ _ _, .nil, .nil⟩, ?_, ?_⟩))))
    · intro c rr1 hc rr3
      refine Exs.hide fun κ hκ => ?_
      obtain ⟨loc5, hp5'⟩ := rr1
      obtain ⟨n0, n1, n2, n3, n4, n5, hle5, hD⟩ := rr3
      change Le hp2 hp5' at hle5; change DctR IntR hp5' (.ref d2) _ at hD
      have hc5 : c < 5 := by simpa using hc
      rw [Int.zero_add]
      have cell : ∀ {st : St} {K : AV → St → Prop} {q1 q2 q3 q4 q5 q6 q7 : Pos} {kk : Nat}, st.hp = hp5' → st.loc 0 = some vp → st.loc 6 = some (.int c) → st.loc 4 = some (.int p) → K (.int (f c)) st → Ev prog w G ⟨A, env, nsF ["powers", "cells", "names", "entries", "place", "callers", "one", "often"], 8, own, fr⟩ (.Subscript (.Subscript (.Subscript (.Name "powers" q1) (.Constant (.int 0) kk q2) q3) (.Name "one" q4) q5) (.Name "place" q6) q7) st K := by
        intro st K q1 q2 q3 q4 q5 q6 q7 kk e1 e2 e3 e4 hk
        refine ev_lx (R := IntR) (ev_lx (R := LstR IntR) (ev_lx (R := Mat) (ev_n B 0 e2 (ev_int ⟨_, 0, _, by rw [e1]; exact LstR.mono Mat.mono _ _ _ _ (hle1.trans (hle.trans hle5)) hvp, pws_len, rfl, pws_get (by decide), fun y1 hy1 => ev_n B 6 e3 ⟨_, c, _, hy1, mk2_len, rfl, mk2_row _ hc5, fun y2 hy2 => ev_n B 4 e4 ⟨_, p, _, hy2, row_len, rfl, range5_get _ hp5, fun y3 hy3 => ?_⟩⟩⟩))))
        rw [show y3 = _ from hy3]; exact hk
      refine exs_cons (ex_if (tr_icmp (cell rfl n0 rfl n4 (ev_int ⟨_, _, _, rfl, rfl, rfl, ?_⟩))))
      split
      · rename_i hpos
        have hpos' : 0 < f c := by simpa using hpos
        obtain ⟨d2', yb, eb, e1, hb1, hb2, hb3⟩ := id hD
        cases e1
        refine exs_cons (set_item_d (cell rfl n0 rfl n4 (ev_n B 5 n5 (ev_lx (R := StrR) (ev_n B 2 n2 (ev_n B 6 rfl ⟨lawNames, c, nm c, LstR.mono StrR.mono _ _ _ _ (hle.trans hle5) hn1, by decide, rfl, nm_get hc5, fun y hy => ?_⟩))))))
        refine ⟨d2, yb, eb, nm c, rfl, hy, hb1, Nat.le_trans (Nat.le_of_eq hb2.length) (Nat.le_trans tabl_len (Nat.le_trans (Nat.le_of_lt ‹_›) (by decide))), fun ep' => exs_nil (exs_nil (hκ _ _ ⟨n0, n1, n2, n3, n4, n5, hle5.put hd2, ?_⟩))⟩
        have hnk : nm c ∉ (tabl c (fun c => decide (0 < f c)) f).map (·.1) := look_none.mp (by rw [tabl_look (Nat.le_of_lt ‹_›) hc5]; simp)
        have e2 : putk (tabl c (fun c => decide (0 < f c)) f) (nm c) (f c) = tabl (c + 1) (fun c => decide (0 < f c)) f := by
          rw [tabl_succ, if_pos (by simpa using hpos')]
          unfold putk
          rw [if_neg (fun z => hnk (any_iff.mp z))]
        refine ⟨d2, _, ep', rfl, hset_self _ _ _, ?_, tabl_keys (Nat.le_trans ‹_› (by decide))⟩
        rw [← e2]
        exact (aput_rel (R := IntR) (hp := hp5') hb2 (nm c) rfl).mono fun a b h => h
      · rename_i hpos
        have e2 : tabl (c + 1) (fun c => decide (0 < f c)) f = tabl c (fun c => decide (0 < f c)) f := by
          rw [tabl_succ, if_neg (by simpa using hpos)]
        refine exs_nil (exs_nil (hκ _ _ ⟨n0, n1, n2, n3, n4, n5, hle5, ?_⟩))
        rw [e2]; exact hD
    · intro rr0 rr1
      obtain ⟨loc5, hp5'⟩ := rr0
      obtain ⟨n0, n1, n2, n3, n4, n5, hle5, hD⟩ := rr1
      change Le hp2 hp5' at hle5; change DctR IntR hp5' (.ref d2) (nzl f) at hD
      refine exs_cons (set_n B 7 (ev_sum gk B hsm (ev_map B 6 [0, 4] NatR.mono IntR.mono (test := fun _ => true) f (map_range (n := 5) gk B hr (by decide) ?_ ?_))))
      · refine fun env1 own1 fr1 B1 o ho hp3 hle3 => ts_nil ⟨rfl, rfl, fun _ => ?_⟩
        change Le hp5' hp3 at hle3
        exact ev_lx (R := IntR) (ev_lx (R := LstR IntR) (ev_lx (R := Mat) (ev_n B1 0 n0 (ev_int ⟨_, 0, _, LstR.mono Mat.mono _ _ _ _ (hle1.trans (hle.trans (hle5.trans hle3))) hvp, pws_len, rfl, pws_get (by decide), fun y1 hy1 => ev_n B1 6 rfl ⟨_, o, _, hy1, mk2_len, rfl, mk2_row _ ho, fun y2 hy2 => ev_n B1 4 n4 ⟨_, p, _, hy2, row_len, rfl, range5_get _ hp5, fun y3 hy3 => ⟨rfl, Le.refl _, hy3⟩⟩⟩⟩))))
      · intro a6 hp6 _ hle6 hL
        change Le hp5' hp6 at hle6
        rw [filter_true] at hL
        refine ⟨_, hL, ?_⟩
        rw [sum_range5]
        have hc6 : LstR IntR hp6 vc cs := LstR.mono IntR.mono _ _ _ _ (hle1.trans (hle.trans (hle5.trans hle6))) hvc
        refine exs_cons (set_item_d (ev_tup ?_))
        refine es_c (ev_n B 7 rfl (es_c (ev_n B 7 rfl (es_c (ev_iop (ev_int (ev_lx (R := IntR) (ev_n B 1 n1 (ev_n B 4 n4 ⟨cs, p, cs.getD p 0, hc6, le_at ‹_›, rfl, ?_, fun yc hyc => ⟨3, _, 3 * cs.getD p 0, rfl, hyc, ?_, ?_⟩⟩)))))))))
        · obtain ⟨_, e⟩ := get_at hcs (Nat.lt_trans hp5 (by decide)); rw [getD_of e]; exact e
        · exact mul_left (by decide)
        refine es_c (ev_iop (ev_int (ev_n B 4 n4 ⟨3, p, 3 * p, rfl, rfl, ?_, ?_⟩)))
        · exact mul_left (by decide)
        refine es_c (ev_n B 5 n5 (es_nil ⟨(by show 5 ≤ 1000; decide), fun t ht => ?_⟩))
        have ht : hp6 t = none := ht
        have hd6 : DctR (EntN D) hp6 (.ref d) (tabl p (fun _ => true) (entOf X cs)) := DctR.mono EntN.mono _ _ _ _ (hle5.trans hle6) hd
        let hp7 : Hp := hset hp6 t (.tup [.int (sum5 f), .int (sum5 f), .int (3 * cs.getD p 0), .int (3 * p), .ref d2])
        have le67 : Le hp6 hp7 := Le.new ht
        have E7 : EntN D hp7 (.ref t) (entOf X cs p) := ⟨t, d2, rfl, hset_self _ _ _, Dn hp2 d2 _ hle ha1 hd2, DctR.mono IntR.mono _ _ _ _ (hle6.trans le67) hD⟩
        have ha7 : hp7 d = some (.dict ya ea) := le67 _ _ (hle6 _ _ (hle5 _ _ ha1))
        refine ev_n B 3 n3 (ev_lx (R := StrR) (ev_n B 2 n2 (ev_n B 4 n4 ⟨lawNames, p, nm p, LstR.mono StrR.mono _ _ _ _ (hle.trans (hle5.trans (hle6.trans le67))) hn1, by decide, rfl, nm_get hp5, fun y hy => ⟨d, ya, ea, nm p, rfl, hy, ha7, Nat.le_trans (Nat.le_of_eq ha2.length) (Nat.le_trans tabl_len (Nat.le_trans (Nat.le_of_lt ‹_›) (by decide))), fun ep' => exs_nil (hκ _ _ ⟨n0, n1, n2, n3, (hle.trans (hle5.trans (hle6.trans le67))).put hd0, ?_⟩)⟩⟩)))
        have hnk : nm p ∉ (tabl p (fun _ => true) (entOf X cs)).map (·.1) := look_none.mp (by rw [tabl_look (Nat.le_of_lt ‹_›) hp5]; simp)
        have e2 : putk (tabl p (fun _ => true) (entOf X cs)) (nm p) (entOf X cs p) = tabl (p + 1) (fun _ => true) (entOf X cs) := by
          rw [tabl_succ, if_pos rfl]
          unfold putk
          rw [if_neg (fun z => hnk (any_iff.mp z))]
        refine ⟨d, _, ep', rfl, hset_self _ _ _, ?_, tabl_keys (Nat.le_trans ‹_› (by decide))⟩
        rw [← e2]
        have hEd : ∀ y x, EntN D hp7 y x → EntN D (hset hp7 d (.dict (aput ya (nm p) (.ref t)) ep')) y x := fun y x hq211 => by
          refine hide fun Pz hPz => ?_; (rcases hq211 with ⟨t, vd, r1, r2, r0, d9, y9, p9, r3, r4, r5, r6⟩) <;> (refine hPz ?_; clear hPz Pz)
          refine ⟨t, vd, r1, (hset_other _ _ fun z => ?_).trans r2, r0, d9, y9, p9, r3, (hset_other _ _ fun z => ?_).trans r4, r5, r6⟩
          · rw [z, ha7] at r2; cases r2
          · cases r3; rw [z, Dd] at r0; cases r0
        exact (aput_rel (R := EntN D) (hp := hp7) (ha2.mono fun a b h => ⟨h.1, EntN.mono _ _ _ _ (hle5.trans (hle6.trans le67)) h.2⟩) (nm p) E7).mono fun a b h => ⟨h.1, hEd _ _ h.2⟩
  · intro rr0 rr1
    obtain ⟨loc, hp2⟩ := rr0
    refine hide fun Pz hPz => ?_; (rcases rr1 with ⟨l0, l1, l2, l3, hle, a, ys, ep, e1, e2, e3, e4⟩) <;> (refine hPz ?_; clear hPz Pz)
    exact exs_cons (ex_return (ev_n B 3 l3 (hκ _ _ ⟨hle1.trans hle, a, ys, ep, e1, e2, e3.mono fun a b h => ⟨h.1, h.2.to⟩, e4⟩)))
end
end Mine
end
section
open PySem PySem.W PySem.Calls PyProof.Rows
set_option Elab.async false
set_option linter.unusedVariables false
set_option maxRecDepth 100000
set_option maxHeartbeats 2000000
namespace Mine
variable {prog : Program} {w : World}
noncomputable def DctN {α : Type} (D : Hp) (R : Rel α) : Rel (List (Str × α)) := fun hp v es => (∃ a, v = .ref a ∧ D a = none) ∧ DctR R hp v es
theorem DctN.mono {α : Type} {D : Hp} {R : Rel α} (m : Mono R) : Mono (DctN D R) := fun h h' v x l hq212 => by obtain ⟨a, b⟩ := hq212; exact ⟨a, DctR.mono m _ _ _ _ l b⟩
theorem TupI.put {hp : Hp} {d : Addr} {ys : List (Str × AV)} {ep : Nat} {A : AObj} {y : AV} {x : List Int} (hd : hp d = some (.dict ys ep)) (r : TupR IntR hp y x) : TupR IntR (hset hp d A) y x := by
  obtain ⟨b, zs, r1, r2, r3⟩ := r
  refine ⟨b, zs, r1, (hset_other _ _ fun z => ?_).trans r2, r3⟩
  rw [z, hd] at r2; cases r2
theorem DctN.put {D hp : Hp} {d : Addr} {ys : List (Str × AV)} {ep : Nat} {A A' : AObj} (hd : hp d = some (.dict ys ep)) (Dd : D d = some A') {y : AV} {x : List (Str × List Int)} (r : DctN D (TupR IntR) hp y x) : DctN D (TupR IntR) (hset hp d A) y x := by
  refine hide fun Pz hPz => ?_; (rcases r with ⟨⟨a, e, h0⟩, a', zs, ep', e', r2, r3, r4⟩) <;> (refine hPz ?_; clear hPz Pz)
  subst e; cases e'
  have hne : a ≠ d := fun z => by rw [z, Dd] at h0; cases h0
  exact ⟨⟨a, rfl, h0⟩, a, zs, ep', rfl, (hset_other _ _ hne).trans r2, r3.mono fun p q h => ⟨h.1, TupI.put hd h.2⟩, r4⟩
theorem putk_new {α : Type} {es : List (Str × α)} {k : Str} {v : α} (h : k ∉ es.map (·.1)) : putk es k v = es ++ [(k, v)] := by
  unfold putk
  rw [if_neg (fun z => h (any_iff.mp z))]
theorem tabl_put {α : Type} {n : Nat} (hn : n < 5) {t : Nat → Bool} {f : Nat → α} (ht : t n = true) : putk (tabl n t f) (nm n) (f n) = tabl (n + 1) t f := by
  rw [tabl_succ, if_pos ht]
  exact putk_new (look_none.mp (by rw [tabl_look (Nat.le_of_lt ‹_›) hn]; simp))
noncomputable def four (X : Nat → Nat → Nat → Int) (o p : Nat) : List Int := (List.range 4).map fun m => sum5 fun t => ((t : Int) + 1) ^ m * X t o p
noncomputable def colT (X : Nat → Nat → Nat → Int) (p : Nat) : List (Str × List Int) := tabl 5 (fun o => decide (0 < sum5 fun t => X t o p)) fun o => four X o p
theorem pow_ok {a : Int} {m : Nat} (ha : a.natAbs < 2 ^ 63) (hm : m ≤ 1000) : intOp .Pow a m = some (a ^ m) := by
  show (if (0 : Int) ≤ m ∧ ((m : Int) ≤ 1000 ∧ a.natAbs < 2 ^ 63) then some (a ^ (m : Int).toNat) else none) = _
  rw [if_pos ⟨Int.natCast_nonneg _, by lia, ha⟩]; simp
theorem pow_small {t m : Nat} (ht : t < 5) (hm : m < 4) : (((t : Int) + 1) ^ m).natAbs < 2 ^ 63 := by
  exact (by decide +kernel : ∀ t, t < 5 → ∀ m, m < 4 → (((t : Int) + 1) ^ m).natAbs < 2 ^ 63) t ht m hm
section
variable {G : Gl} {P : Params}
theorem law_columns_ok (gk : GOk G) (hK : G.K = hd.heap_1 P) {n : Nat} {vp vr : AV} {X : Nat → Nat → Nat → Int} {rk : Nat → Int} {hp : Hp} (hvp : LstR Mat hp vp (pws X)) (hvr : LstR IntR hp vr ((List.range 5).map rk)) :
    FnC prog w G (n + 2) 227 [vp, vr] hp fun v hp' => Le hp hp' ∧ DctR (DctR (TupR IntR)) hp' v (tabl 5 (fun p => decide (rk p < 5)) (colT X)) := by
  refine fn_b gk ["powers", "ranks", "names", "tables", "place", "table", "one", "power", "turn", "part"] 2 (by exact lkK hK rfl) (by exact cdK hK rfl) fun A env own fr B rm hcd => ?_
  refine Exs.hide fun κ hκ => ?_
  have hr : nsIn G.K mainGlobals (Str.ofString "range") = some none := by exact nsK hK rfl
  have hsm : nsIn G.K mainGlobals (Str.ofString "sum") = some none := by exact nsK hK rfl
  refine exs_cons (set_n B 2 (ev_fn gk B rm (by exact nsK hK rfl) (by exact fbK hK rfl) (es_nil (FnC.mono (law_names_ok gk hK) fun vn hp1 hz45 => ?_))))
  obtain ⟨hle1, hn1⟩ := hz45
  refine exs_cons (set_n B 3 (ev_dict0 fun d hd0 => ?_))
  have hd0 : hp1 d = none := hd0
  let D : Hp := hset hp1 d (.dict [] 0)
  have Dd : D d = some (.dict [] 0) := hset_self _ _ _
  have Dn : ∀ (h : Hp) (a : Addr) (o : AObj), Le hp1 h → h d = some o → h a = none → D a = none := fun h a o l h1 h2 => by
    have hne : a ≠ d := fun z => by rw [z, h1] at h2; cases h2
    exact (hset_other _ _ hne).trans (l.none h2)
  let tst : Nat → Bool := fun p => decide (rk p < 5)
  refine exs_cons (for_r gk B 4 (fun p st => A6 (st.loc 0 = some vp) (st.loc 1 = some vr) (st.loc 2 = some vn) (st.loc 3 = some (.ref d)) (Le hp1 st.hp) (DctR (DctN D (TupR IntR)) st.hp (.ref d) (tabl p tst (colT X)))) hr
    (es_c (ev_int (es_nil ⟨0, 5, rfl, by decide, by decide, ⟨rfl, rfl, rfl, rfl, Le.new hd0, d, [], 0, rfl, hset_self _ _ _, .nil, .nil⟩, ?_, ?_⟩))))
  · intro p rr1 hp5 rr3
    refine Exs.hide fun κ hκ => ?_
    obtain ⟨loc, hp2⟩ := rr1
    obtain ⟨l0, l1, l2, l3, hle, hd⟩ := rr3
    change Le hp1 hp2 at hle; change DctR (DctN D (TupR IntR)) hp2 (.ref d) _ at hd
    have hp5 : p < 5 := by simpa using hp5
    rw [Int.zero_add]
    refine exs_cons (ex_if (tr_icmp (ev_lx (R := IntR) (ev_n B 1 l1 (ev_n B 4 rfl ⟨_, p, _, LstR.mono IntR.mono _ _ _ _ (hle1.trans hle) hvr, row_len, rfl, range5_get _ hp5, fun yr hyr => ev_int ⟨_, _, _, hyr, rfl, rfl, ?_⟩⟩)))))
    split
    · rename_i hlt
      obtain ⟨d', ya, ea, e1, ha1, ha2, ha3⟩ := id hd
      cases e1
      refine exs_cons (set_n B 5 (ev_dict0 fun d2 hd2 => ?_))
      have hd2 : hp2 d2 = none := hd2
      let tt : Nat → Bool := fun o => decide (0 < sum5 fun t => X t o p)
      refine exs_cons (for_r gk B 6 (fun o st => A8 (st.loc 0 = some vp) (st.loc 1 = some vr) (st.loc 2 = some vn) (st.loc 3 = some (.ref d)) (st.loc 4 = some (.int p)) (st.loc 5 = some (.ref d2)) (Le hp2 st.hp) (DctR (TupR IntR) st.hp (.ref d2) (tabl o tt fun o => four X o p))) hr
        (es_c (ev_int (es_nil ⟨0, 5, rfl, by decide, by decide, ⟨l0, l1, l2, l3, rfl, rfl, Le.new hd2, d2, [], 0, rfl, hset_self _ _ _, .nil, .nil⟩, ?_, ?_⟩))))
      · intro c rr1 hc rr3
        refine Exs.hide fun κ hκ => ?_
        obtain ⟨loc5, hp5'⟩ := rr1
        obtain ⟨n0, n1, n2, n3, n4, n5, hle5, hD⟩ := rr3
        change Le hp2 hp5' at hle5; change DctR (TupR IntR) hp5' (.ref d2) _ at hD
        have hc5 : c < 5 := by simpa using hc
        rw [Int.zero_add]
        have hvp5 := LstR.mono Mat.mono _ _ _ _ (hle1.trans (hle.trans hle5)) hvp
        refine exs_cons (ex_if (tr_icmp (ev_sum gk B hsm (ev_map B 7 [4, 6] Mat.mono IntR.mono (test := fun _ => true) (fun m => at2 m c p) (map_list (ev_n B 0 n0 ⟨pws X, hvp5, pws_len, ?_, ?_⟩))))))
        · refine fun env3 own3 fr3 B3 m hm ym hp3 hle3 hr3 => ts_nil ⟨rfl, rfl, fun _ => ?_⟩
          obtain ⟨t, ht, e⟩ := List.mem_map.mp hm
          subst e
          have hat : at2 (mk2 (X t)) c p = X t c p := by unfold at2; rw [getD_of (mk2_row _ hc5), getD_of (range5_get _ hp5)]
          rw [hat]
          exact ev_lx (R := IntR) (ev_lx (R := LstR IntR) (ev_n B3 7 rfl (ev_n B3 6 rfl ⟨_, c, _, hr3, mk2_len, rfl, mk2_row _ hc5, fun y hy => ev_n B3 4 n4 ⟨_, p, _, hy, row_len, rfl, range5_get _ hp5, fun z hz => ⟨rfl, Le.refl _, hz⟩⟩⟩)))
        · intro a6 hp6 _ hle6 hL
          change Le hp5' hp6 at hle6
          rw [filter_true] at hL
          have hsum : ((pws X).map fun m => at2 m c p).sum = sum5 fun t => X t c p := by
            rw [pws, List.map_map, ← sum_range5]
            congr 1
            refine List.map_congr_left fun t ht => ?_
            show at2 (mk2 (X t)) c p = X t c p
            unfold at2; rw [getD_of (mk2_row _ hc5), getD_of (range5_get _ hp5)]
          refine ⟨_, hL, ev_int ⟨_, _, _, rfl, rfl, rfl, ?_⟩⟩
          rw [hsum]
          have hvp6 := LstR.mono Mat.mono _ _ _ _ hle6 hvp5
          split
          · rename_i hpos
            refine exs_cons (set_item_d (ev_tyc gk B (by exact nsK hK rfl) rfl (es_c (ev_map B 9 [0, 4, 6] NatR.mono IntR.mono (test := fun _ => true) (fun m => sum5 fun t => ((t : Int) + 1) ^ m * X t c p) (map_range (n := 4) gk B hr (by decide) ?_ ?_)))))
            · refine fun env1 own1 fr1 B1 m hm hp7 hle7 => ts_nil ⟨rfl, rfl, fun _ => ?_⟩
              change Le hp6 hp7 at hle7
              refine ev_sum gk B1 hsm (ev_map B1 8 [0, 4, 6, 9] NatR.mono IntR.mono (test := fun _ => true) (fun t => ((t : Int) + 1) ^ m * X t c p) (map_range (n := 5) gk B1 hr (by decide) ?_ ?_))
              · refine fun env2 own2 fr2 B2 t ht hp8 hle8 => ts_nil ⟨rfl, rfl, fun _ => ?_⟩
                change Le hp7 hp8 at hle8
                refine ev_iop (ev_iop (ev_iop (ev_n B2 8 rfl (ev_int ⟨_, _, _, rfl, rfl, rfl, ev_n B2 9 rfl ⟨(t : Int) + 1, m, ((t : Int) + 1) ^ m, rfl, rfl, pow_ok (nab rfl (Nat.lt_of_le_of_lt ‹_› (by decide))) (Nat.le_trans (Nat.le_of_lt ‹_›) (by decide)), ?_⟩⟩))))
                exact ev_lx (R := IntR) (ev_lx (R := LstR IntR) (ev_lx (R := Mat) (ev_n B2 0 n0 (ev_n B2 8 rfl ⟨_, t, _, LstR.mono Mat.mono _ _ _ _ (hle7.trans hle8) hvp6, pws_len, rfl, pws_get ht, fun y1 hy1 => ev_n B2 6 rfl ⟨_, c, _, hy1, mk2_len, rfl, mk2_row _ hc5, fun y2 hy2 => ev_n B2 4 n4 ⟨_, p, _, hy2, row_len, rfl, range5_get _ hp5, fun y3 hy3 => ⟨_, _, _, rfl, hy3, mul_left (pow_small ht hm), rfl, Le.refl _, rfl⟩⟩⟩⟩))))
              · intro a8 hp8 _ hle8 hL8
                rw [filter_true] at hL8
                refine ⟨_, hL8, rfl, hle8, ?_⟩
                rw [sum_range5]; rfl
            · intro a7 hp7 _ hle7 hL7
              change Le hp6 hp7 at hle7
              rw [filter_true] at hL7
              refine es_nil fun vs hvs => ?_
              obtain ⟨v1, rfl, hv1⟩ := hvs.one
              obtain ⟨a7', ws, e7, h71, h72⟩ := hL7
              cases e7
              refine op_tuple_list hv1 h71 (by rw [h72.length]; simp) fun t8 ht8 => ?_
              have ht8 : hp7 t8 = none := ht8
              have le78 : Le hp7 (hset hp7 t8 (.tup ws)) := Le.new ht8
              have hT8 : TupR IntR (hset hp7 t8 (.tup ws)) (.ref t8) (four X c p) := ⟨t8, ws, rfl, hset_self _ _ _, h72⟩
              obtain ⟨d2', yb, eb, e1, hb1, hb2, hb3⟩ := id hD
              cases e1
              have hb8 : hset hp7 t8 (.tup ws) d2 = some (.dict yb eb) := le78 _ _ (hle7 _ _ (hle6 _ _ hb1))
              refine ev_n B 5 n5 (ev_lx (R := StrR) (ev_n B 2 n2 (ev_n B 6 rfl ⟨lawNames, c, nm c, LstR.mono StrR.mono _ _ _ _ (hle.trans (hle5.trans (hle6.trans (hle7.trans le78)))) hn1, by decide, rfl, nm_get hc5, fun y hy => ?_⟩)))
              refine ⟨d2, yb, eb, nm c, rfl, hy, hb8, Nat.le_trans (Nat.le_of_eq hb2.length) (Nat.le_trans tabl_len (Nat.le_trans (Nat.le_of_lt ‹_›) (by decide))), fun ep' => exs_nil (exs_nil (hκ _ _ ⟨n0, n1, n2, n3, n4, n5, (hle5.trans (hle6.trans (hle7.trans le78))).put hd2, ?_⟩))⟩
              refine ⟨d2, _, ep', rfl, hset_self _ _ _, ?_, tabl_keys (Nat.le_trans ‹_› (by decide))⟩
              rw [← tabl_put (f := fun o => four X o p) hc5 hpos]
              exact (aput_rel (R := TupR IntR) (hp := hset hp7 t8 (.tup ws)) (hb2.mono fun a b h => ⟨h.1, TupR.mono IntR.mono _ _ _ _ (hle6.trans (hle7.trans le78)) h.2⟩) (nm c) hT8).mono fun a b h => ⟨h.1, TupI.put hb8 h.2⟩
          · rename_i hpos
            refine exs_nil (exs_nil (hκ _ _ ⟨n0, n1, n2, n3, n4, n5, hle5.trans hle6, ?_⟩))
            rw [tabl_succ, if_neg hpos]
            exact DctR.mono (TupR.mono IntR.mono) _ _ _ _ hle6 hD
      · intro rr0 rr1
        obtain ⟨loc5, hp5'⟩ := rr0
        obtain ⟨n0, n1, n2, n3, n4, n5, hle5, hD⟩ := rr1
        change Le hp2 hp5' at hle5; change DctR (TupR IntR) hp5' (.ref d2) (colT X p) at hD
        have ha5 : hp5' d = some (.dict ya ea) := hle5 _ _ ha1
        refine exs_cons (set_item_d (ev_n B 5 n5 (ev_n B 3 n3 (ev_lx (R := StrR) (ev_n B 2 n2 (ev_n B 4 n4 ⟨lawNames, p, nm p, LstR.mono StrR.mono _ _ _ _ (hle.trans hle5) hn1, by decide, rfl, nm_get hp5, fun y hy => ⟨d, ya, ea, nm p, rfl, hy, ha5, Nat.le_trans (Nat.le_of_eq ha2.length) (Nat.le_trans tabl_len (Nat.le_trans (Nat.le_of_lt ‹_›) (by decide))), fun ep' => exs_nil (exs_nil (hκ _ _ ⟨n0, n1, n2, n3, (hle.trans hle5).put hd0, ?_⟩))⟩⟩))))))
        refine ⟨d, _, ep', rfl, hset_self _ _ _, ?_, tabl_keys (Nat.le_trans ‹_› (by decide))⟩
        rw [← tabl_put (f := colT X) hp5 (show tst p = true from hlt)]
        exact (aput_rel (R := DctN D (TupR IntR)) (hp := hp5') (ha2.mono fun a b h => ⟨h.1, DctN.mono (TupR.mono IntR.mono) _ _ _ _ hle5 h.2⟩) (nm p) ⟨⟨d2, rfl, Dn hp2 d2 _ hle ha1 hd2⟩, hD⟩).mono fun a b h => ⟨h.1, DctN.put ha5 Dd h.2⟩
    · rename_i hlt
      refine exs_nil (exs_nil (hκ _ _ ⟨l0, l1, l2, l3, hle, ?_⟩))
      rw [tabl_succ, if_neg (show ¬ tst p = true from hlt)]
      exact hd
  · intro rr0 rr1
    obtain ⟨loc, hp2⟩ := rr0
    refine hide fun Pz hPz => ?_; (rcases rr1 with ⟨l0, l1, l2, l3, hle, a, ys, ep, e1, e2, e3, e4⟩) <;> (refine hPz ?_; clear hPz Pz)
    exact exs_cons (ex_return (ev_n B 3 l3 (hκ _ _ ⟨hle1.trans hle, a, ys, ep, e1, e2, e3.mono fun a b h => ⟨h.1, h.2.2⟩, e4⟩)))
end
end Mine
end
section
open PySem PySem.W PySem.Calls PyProof.Rows
set_option Elab.async false
set_option linter.unusedVariables false
set_option maxRecDepth 100000
set_option maxHeartbeats 2000000
namespace Mine
variable {prog : Program} {w : World}
noncomputable def grp (rk : Nat → Int) (r : Nat) : List Str := ((List.range 5).filter fun p => decide (rk p = r)).map nm
noncomputable def Srt (l s : List Str) : Prop := s.Perm l ∧ sortedS s = true
theorem LstS.keep {hp : Hp} {l : Addr} {A : AObj} {D : Hp} {A' : AObj} (Dl : D l = some A') {v : AV} {x : List Str} (h : (∃ a, v = .ref a ∧ D a = none) ∧ LstR StrR hp v x) : (∃ a, v = .ref a ∧ D a = none) ∧ LstR StrR (hset hp l A) v x := by
  obtain ⟨⟨a, e, h0⟩, a', ys, e', h1, h2⟩ := h
  subst e; cases e'
  exact ⟨⟨a, rfl, h0⟩, a, ys, rfl, (hset_other _ _ fun z => by rw [z, Dl] at h0; cases h0).trans h1, h2⟩
section
variable {G : Gl} {P : Params}
theorem law_groups_ok (gk : GOk G) (hK : G.K = hd.heap_1 P) {n : Nat} {vr : AV} {rk : Nat → Int} {hp : Hp} (hvr : LstR IntR hp vr ((List.range 5).map rk)) :
    FnC prog w G (n + 2) 232 [vr] hp fun v hp' => Le hp hp' ∧ ∃ gs, LstR (LstR StrR) hp' v gs ∧ All2 Srt (((List.range 5).map (grp rk)).filter fun g => !g.isEmpty) gs := by
  refine fn_b gk ["ranks", "names", "groups", "rank", "group", "place"] 1 (by exact lkK hK rfl) (by exact cdK hK rfl) fun A env own fr B rm hcd => ?_
  refine Exs.hide fun κ hκ => ?_
  have hr : nsIn G.K mainGlobals (Str.ofString "range") = some none := by exact nsK hK rfl
  refine exs_cons (set_n B 1 (ev_fn gk B rm (by exact nsK hK rfl) (by exact fbK hK rfl) (es_nil (FnC.mono (law_names_ok gk hK) fun vn hp1 hz46 => ?_))))
  obtain ⟨hle1, hn1⟩ := hz46
  refine exs_cons (set_n B 2 (ev_list (es_nil ⟨by decide, fun l hl0 => ?_⟩)))
  have hl0 : hp1 l = none := hl0
  let D : Hp := hset hp1 l (.list [])
  have Dl : D l = some (.list []) := hset_self _ _ _
  have Dn : ∀ (h : Hp) (a : Addr) (o : AObj), Le hp1 h → h l = some o → h a = none → D a = none := fun h a o le h1 h2 => by
    have hne : a ≠ l := fun z => by rw [z, h1] at h2; cases h2
    exact (hset_other _ _ hne).trans (le.none h2)
  refine exs_cons (for_r gk B 3 (fun r st => A5 (st.loc 0 = some vr) (st.loc 1 = some vn) (st.loc 2 = some (.ref l)) (Le hp1 st.hp) (E2 fun gs ys => A4 (st.hp l = some (.list ys)) (All2 (fun y x => (∃ a, y = .ref a ∧ D a = none) ∧ LstR StrR st.hp y x) ys gs) (gs.length ≤ r) (All2 Srt (((List.range r).map (grp rk)).filter fun g => !g.isEmpty) gs))) hr
    (es_c (ev_int (es_nil ⟨0, 5, rfl, by decide, by decide, ⟨rfl, rfl, rfl, Le.new hl0, [], [], hset_self _ _ _, .nil, by simp, .nil⟩, ?_, ?_⟩))))
  · intro r rr1 hr5 rr3
    refine Exs.hide fun κ hκ => ?_
    obtain ⟨loc, hp2⟩ := rr1
    refine hide fun Pz hPz => ?_; (rcases rr3 with ⟨l0, l1, l2, hle, gs, ys, hls, hall, hgl, hsrt⟩) <;> (refine hPz ?_; clear hPz Pz)
    change Le hp1 hp2 at hle; change hp2 l = _ at hls
    have hr5 : r < 5 := by simpa using hr5
    rw [Int.zero_add]
    refine exs_cons (set_n B 4 (ev_bi gk B (by exact nsK hK rfl) rfl (es_c (ev_map B 5 [0, 1, 3] NatR.mono StrR.mono (test := fun p => decide (rk p = r)) nm (map_range (n := 5) gk B hr (by decide) ?_ ?_)))))
    · refine fun env1 own1 fr1 B1 p hp5 hp3 hle3 => ts_one (tr_icmp (ev_lx (R := IntR) (ev_n B1 0 l0 (ev_n B1 5 rfl ⟨_, p, _, LstR.mono IntR.mono _ _ _ _ (hle1.trans (hle.trans hle3)) hvr, row_len, rfl, range5_get _ hp5, fun yr hyr => ev_n B1 3 rfl ⟨_, _, _, hyr, rfl, rfl, rfl, ?_, fun _ => ?_⟩⟩))))
      · rfl
      · exact ev_lx (R := StrR) (ev_n B1 1 l1 (ev_n B1 5 rfl ⟨lawNames, p, nm p, LstR.mono StrR.mono _ _ _ _ (hle.trans hle3) hn1, by decide, rfl, nm_get hp5, fun y hy => ⟨rfl, Le.refl _, hy⟩⟩))
    · intro a3 hp3 _ hle3 hL
      change Le hp2 hp3 at hle3
      refine es_nil fun vs hvs => ?_
      obtain ⟨v1, rfl, hv1⟩ := hvs.one
      obtain ⟨a3', ws, e3, h31, h32⟩ := hL
      cases e3
      rw [strs_of h32] at h31
      have hgl5 : (grp rk r).length ≤ 5 := by
        unfold grp; rw [List.length_map]
        have := List.length_filter_le (fun p => decide (rk p = (r : Int))) (List.range 5)
        simpa using this
      refine op_sorted hv1 (.inl h31) (Nat.lt_of_le_of_lt hgl5 (by decide)) fun a4 ss' ha4 hperm hsort => ?_
      have ha4 : hp3 a4 = none := ha4
      have le34 : Le hp3 (hset hp3 a4 (.list (ss'.map .str))) := Le.new ha4
      have hls4 : hset hp3 a4 (.list (ss'.map .str)) l = some (.list ys) := le34 _ _ (hle3 _ _ hls)
      have hall4 : All2 (fun y x => (∃ a, y = .ref a ∧ D a = none) ∧ LstR StrR (hset hp3 a4 (.list (ss'.map .str))) y x) ys gs := hall.mono fun y x h => ⟨h.1, LstR.mono StrR.mono _ _ _ _ (hle3.trans le34) h.2⟩
      have hsl : ss'.length = (grp rk r).length := hperm.length_eq
      refine exs_cons (ex_if (tr_v (ev_n B 4 rfl ⟨_, .list (hset_self _ _ _) (by simp; lia), ?_⟩)))
      have hemp : (ss'.map AV.str).isEmpty = (grp rk r).isEmpty := by
        cases h1 : ss' with
        | nil => rw [h1] at hsl; simp at hsl; rw [List.eq_nil_of_length_eq_zero hsl.symm]; rfl
        | cons a b =>
          rw [h1] at hsl
          cases h2 : grp rk r with
          | nil => rw [h2] at hsl; simp at hsl
          | cons c d => rfl
      rw [hemp]
      split
      · rename_i hne
        refine exs_cons (do_append B (ev_n B 2 l2 ⟨l, rfl, ⟨_, hls4⟩, ev_n B 4 rfl ⟨ys, hls4, by rw [hall4.length]; exact Nat.le_trans ‹_› (Nat.le_trans (Nat.le_of_lt ‹_›) (by decide)), exs_nil (exs_nil (hκ _ _ ⟨l0, l1, l2, (hle.trans (hle3.trans le34)).put hl0, gs ++ [ss'], (ys ++ [AV.ref a4] : List AV), hset_self _ _ _, ?_, by simp; lia, ?_⟩))⟩⟩))
        · refine (hall4.mono fun y x h => LstS.keep Dl h).snoc (LstS.keep Dl ⟨⟨a4, rfl, Dn hp3 a4 _ (hle.trans hle3) (hle3 _ _ hls) ha4⟩, a4, _, rfl, hset_self _ _ _, strs_all _⟩)
        · rw [List.range_succ, List.map_append, List.filter_append]
          have : ([r].map (grp rk)).filter (fun g => !g.isEmpty) = [grp rk r] := by simp [List.filter, hne]
          rw [this]
          exact hsrt.snoc ⟨hperm, hsort⟩
      · rename_i hne
        refine exs_nil (exs_nil (hκ _ _ ⟨l0, l1, l2, hle.trans (hle3.trans le34), gs, ys, hls4, hall4, Nat.le_succ_of_le ‹_›, ?_⟩))
        rw [List.range_succ, List.map_append, List.filter_append]
        have : ([r].map (grp rk)).filter (fun g => !g.isEmpty) = [] := by simp [List.filter, hne]
        rw [this, List.append_nil]
        exact hsrt
  · intro rr0 rr1
    obtain ⟨loc, hp2⟩ := rr0
    refine hide fun Pz hPz => ?_; (rcases rr1 with ⟨l0, l1, l2, hle, gs, ys, hls, hall, hgl, hsrt⟩) <;> (refine hPz ?_; clear hPz Pz)
    exact exs_cons (ex_return (ev_n B 2 l2 (hκ _ _ ⟨hle1.trans hle, gs, ⟨l, ys, rfl, hls, hall.mono fun y x h => h.2⟩, hsrt⟩)))
end
end Mine
end
section
open PySem PySem.W PySem.Calls PyProof.Rows
set_option Elab.async false
set_option linter.unusedVariables false
set_option maxRecDepth 100000
set_option maxHeartbeats 2000000
namespace Mine
variable {prog : Program} {w : World}
section
variable {G : Gl} {P : Params}
theorem same_ints {hp : Hp} {d : Nat} {y : AV} {x : List Int} (h : TupR IntR hp y x) : Same hp (d + 1) y y := by
  obtain ⟨a, ys, e, h1, h2⟩ := h
  subst e
  refine .tup h1 h1 rfl fun i u v hu hv => ?_
  rw [hu] at hv; cases hv
  obtain ⟨z, _, hz⟩ := h2.get' hu
  rw [show u = _ from hz]; exact .int
theorem same_items {hp : Hp} {L L' : Addr} {as bs : List Addr} {es : List (Str × AV)} {xs : List (Str × List Int)} (h1 : hp L = some (.list (as.map .ref))) (h2 : hp L' = some (.list (bs.map .ref))) (l1 : as.length = es.length) (l2 : bs.length = es.length)
    (ha : ∀ (j : Nat) (a : Addr), as[j]? = some a → E2 fun k v => es[j]? = some (k, v) ∧ hp a = some (.tup [.str k, v])) (hb : ∀ (j : Nat) (a : Addr), bs[j]? = some a → E2 fun k v => es[j]? = some (k, v) ∧ hp a = some (.tup [.str k, v]))
    (hx : All2 (fun p q => p.1 = q.1 ∧ TupR IntR hp p.2 q.2) es xs) : Same hp 3 (.ref L) (.ref L') := by
  refine .list h1 h2 (by simp [l1, l2]) fun i x y hx1 hy1 => ?_
  rw [List.getElem?_map, Option.map_eq_some_iff] at hx1 hy1
  obtain ⟨a, ha1, rfl⟩ := hx1
  obtain ⟨b, hb1, rfl⟩ := hy1
  obtain ⟨k, v, e1, e2⟩ := ha i a ha1
  obtain ⟨k', v', e3, e4⟩ := hb i b hb1
  rw [e1] at e3; cases e3
  obtain ⟨q, hq, _, hr⟩ := hx.get' e1
  refine .tup e2 e4 rfl fun j u u' hu hu' => ?_
  rw [hu] at hu'; cases hu'
  rcases j with _ | _ | j
  · cases hu; exact .str
  · cases hu; exact same_ints hr
  · cases hu
theorem law_added_ok (gk : GOk G) (hK : G.K = hd.heap_1 P) {bm : Addr} {ob : Obj} (gb : GBm G bm ob) (gc : GCode G 34) {n : Nat} {vt vs : AV} {es fs : List (Str × List Int)} {hp : Hp} (ht : DctR (TupR IntR) hp vt es) (hs : DctR (TupR IntR) hp vs fs) (hl : es.length + fs.length ≤ 900) (h4 : ∀ k x, look es k = some x → x.length = 4) (h4' : ∀ k x, look fs k = some x → x.length = 4) :
    FnC prog w G (n + 3) 200 [vt, vs] hp fun v hp' => Le hp hp' ∧ E2 fun a es' => A5 (v = .ref a) (hp a = none) (DctR (TupR IntR) hp' v es') (es'.length ≤ es.length + fs.length) (∀ k, look es' k = comb add4 (look es k) (look fs k)) := by
  obtain ⟨d1, y1, p1, q1, t1, t2, t3⟩ := id ht
  obtain ⟨d2, y2, p2, q2, s1, s2, s3⟩ := id hs
  subst q1 q2
  refine fn_b gk ["one", "two", "before", "added"] 2 (by exact lkK hK rfl) (by exact cdK hK rfl) fun A env own fr B rm hcd => ?_
  refine Exs.hide fun κ hκ => ?_
  have hm : nsIn G.K mainGlobals (Str.ofString "list") = some none := by exact nsK hK rfl
  refine exs_cons (set_n B 2 (ev_tup (es_c (ev_list_items gk B hm (ev_n B 0 rfl ⟨d1, y1, p1, rfl, t1, by rw [t2.length]; exact Nat.le_trans (Nat.le_add_right _ _) (Nat.le_trans ‹_› (by decide)), fun L1 as1 hp1 hle1 hn1 hL1 hl1 ha1 => ?_⟩)))))
  have t1' := hle1 _ _ t1
  have s1' := hle1 _ _ s1
  refine es_c (ev_list_items gk B hm (ev_n B 1 rfl ⟨d2, y2, p2, rfl, s1', by rw [s2.length]; exact Nat.le_trans (Nat.le_add_left _ _) (Nat.le_trans ‹_› (by decide)), fun L2 as2 hp2 hle2 hn2 hL2 hl2 ha2 => es_nil ⟨(by show 2 ≤ 1000; decide), fun tb htb => ?_⟩⟩))
  have htb : hp2 tb = none := htb
  let hp3 : Hp := hset hp2 tb (.tup [.ref L1, .ref L2])
  have le23 : Le hp2 hp3 := Le.new htb
  have le03 : Le hp hp3 := hle1.trans (hle2.trans le23)
  refine exs_cons (set_n B 3 (ev_fn gk B rm (by exact nsK hK rfl) (by exact fbK hK rfl) (es_c (ev_n B 0 rfl (es_c (ev_n B 1 rfl (es_nil ?_)))))))
  refine FnC.mono (add_tup_ok gk hK gb gc (DctR.mono (TupR.mono IntR.mono) _ _ _ _ le03 ht) (DctR.mono (TupR.mono IntR.mono) _ _ _ _ le03 hs) hl h4 h4') fun v hp4 hq215 => ?_
  obtain ⟨hle4, a, es', e, ha, hd, hlen, hlk⟩ := hq215
  subst e
  have ha3 : hp3 a = none := ha
  have le04 : Le hp hp4 := le03.trans hle4
  obtain ⟨da, ya, ea, qa, u1, u2, u3⟩ := id hd
  cases qa
  have n1 : a ≠ d1 := fun z => by have := le03 _ _ t1; rw [← z, ha3] at this; cases this
  have n2 : a ≠ d2 := fun z => by have := le03 _ _ s1; rw [← z, ha3] at this; cases this
  refine exs_cons (ex_if (tr_or (tr_cmp (ev_n B 3 rfl (ev_n B 0 rfl fun va vb hva hvb => op_is_other hva hvb u1 (le04 _ _ t1) n1 (by rintro vs ⟨⟩) ⟨false, rfl, ?_⟩)) rfl)))
  rw [if_neg (by decide)]
  refine tr_or (tr_cmp (ev_n B 3 rfl (ev_n B 1 rfl fun va vb hva hvb => op_is_other hva hvb u1 (le04 _ _ s1) n2 (by rintro vs ⟨⟩) ⟨false, rfl, ?_⟩)) rfl)
  rw [if_neg (by decide)]
  refine tr_or1 (tr_cmp ?_ rfl)
  refine ev_tup (es_c (ev_list_items gk B hm (ev_n B 0 rfl ⟨d1, y1, p1, rfl, le04 _ _ t1, by rw [t2.length]; exact Nat.le_trans (Nat.le_add_right _ _) (Nat.le_trans ‹_› (by decide)), fun L3 as3 hp5 hle5 hn3 hL3 hl3 ha3' => ?_⟩)))
  refine es_c (ev_list_items gk B hm (ev_n B 1 rfl ⟨d2, y2, p2, rfl, hle5 _ _ (le04 _ _ s1), by rw [s2.length]; exact Nat.le_trans (Nat.le_add_left _ _) (Nat.le_trans ‹_› (by decide)), fun L4 as4 hp6 hle6 hn4 hL4 hl4 ha4 => es_nil ⟨(by show 2 ≤ 1000; decide), fun tc htc => ?_⟩⟩))
  have htc : hp6 tc = none := htc
  refine ev_n B 2 rfl fun va vb hva hvb => ?_
  let hp7 : Hp := hset hp6 tc (.tup [.ref L3, .ref L4])
  have le67 : Le hp6 hp7 := Le.new htc
  have le37 : Le hp3 hp7 := hle4.trans (hle5.trans (hle6.trans le67))
  have hu := rm.2
  refine op_ne_same gk (d := 3) (xs := [.ref L3, .ref L4]) (ys := [.ref L1, .ref L2]) (hset_self _ _ _) (le37 _ _ (hset_self _ _ _)) rfl ?_ (by simp only at hu ⊢; lia) hva hvb ⟨false, rfl, ?_⟩
  · intro i x y hx hy
    have x1 : All2 (fun p q => p.1 = q.1 ∧ TupR IntR hp7 p.2 q.2) y1 es := t2.mono fun p q h => ⟨h.1, TupR.mono IntR.mono _ _ _ _ (le03.trans le37) h.2⟩
    have x2 : All2 (fun p q => p.1 = q.1 ∧ TupR IntR hp7 p.2 q.2) y2 fs := s2.mono fun p q h => ⟨h.1, TupR.mono IntR.mono _ _ _ _ (le03.trans le37) h.2⟩
    have up : ∀ {h h' : Hp} {as : List Addr} {es : List (Str × AV)}, Le h h' → (∀ (j : Nat) (a : Addr), as[j]? = some a → E2 fun k v => es[j]? = some (k, v) ∧ h a = some (.tup [.str k, v])) → (∀ (j : Nat) (a : Addr), as[j]? = some a → E2 fun k v => es[j]? = some (k, v) ∧ h' a = some (.tup [.str k, v])) := fun l z j a e => by obtain ⟨k, v, f1, f2⟩ := z j a e; exact ⟨k, v, f1, l _ _ f2⟩
    have le27 : Le hp2 hp7 := le23.trans le37
    rcases i with _ | _ | i
    · cases hx; cases hy
      exact same_items ((hle6.trans le67) _ _ hL3) (le27 _ _ (hle2 _ _ hL1)) hl3 hl1 (up (hle6.trans le67) ha3') (up (hle2.trans le27) ha1) x1
    · cases hx; cases hy
      exact same_items (le67 _ _ hL4) (le27 _ _ hL2) hl4 hl2 (up le67 ha4) (up le27 ha2) x2
    · cases hx
  · rw [if_neg (by decide)]
    refine exs_nil (exs_cons (ex_return (ev_n B 3 rfl (hκ _ _ ⟨le03.trans le37, a, es', rfl, le03.none ha3, DctR.mono (TupR.mono IntR.mono) _ _ _ _ (hle5.trans (hle6.trans le67)) hd, hlen, hlk⟩))))
end
end Mine
end
section
open PySem PySem.W PySem.Calls PyProof.Rows
set_option Elab.async false
set_option linter.unusedVariables false
set_option maxRecDepth 100000
set_option maxHeartbeats 2000000
namespace Mine
variable {prog : Program} {w : World}
theorem nodup_sub_len : ∀ {l₁ l₂ : List Str}, l₁.Nodup → (∀ x ∈ l₁, x ∈ l₂) → l₁.length ≤ l₂.length := by
  intro l₁
  induction l₁ with
  | nil =>
    intro _ _ _
    exact Nat.zero_le _
  | cons a l ih =>
    intro l₂ h hs
    rw [List.nodup_cons] at h
    have ha := hs a (.head _)
    have ih := ih (l₂ := l₂.erase a) h.2 fun x hx => (List.mem_erase_of_ne (fun e : x = a => h.1 (by rw [← e]; exact hx))).mpr (hs x (.tail _ hx))
    have := List.length_erase_of_mem ha
    have := List.length_pos_of_mem ha
    simp only [List.length_cons]; lia
theorem names_len {α : Type} {es : List (Str × α)} (h : (es.map (·.1)).Nodup) (hs : ∀ k, look es k ≠ none → k ∈ lawNames) : es.length ≤ 5 := by
  have := nodup_sub_len h (l₂ := lawNames) fun x hx => hs x fun e => look_none.mp e hx
  simpa [lawNames] using this
noncomputable def shift (o : Int) (x : List Int) : List Int := [x.getD 0 0 * o, (x.getD 0 0 + x.getD 1 0) * o, (x.getD 0 0 + 2 * x.getD 1 0 + x.getD 2 0) * o, (x.getD 0 0 + 3 * x.getD 1 0 + 3 * x.getD 2 0 + x.getD 3 0) * o]
noncomputable def stepF (F : Str → Str → Option (List Int)) (acc : Str → Option (List Int)) (q : Str × Int) : Str → Option (List Int) := fun far =>
  comb add4 (comb add4 (acc far) (if far = q.1 then some [q.2, q.2, q.2, q.2] else none)) ((F q.1 far).map (shift q.2))
theorem len_four {α : Type} {l : List α} (h : l.length = 4) : E4 fun a b c d => l = [a, b, c, d] := by
  cases l with
  | nil => cases h
  | cons a t => obtain ⟨b, c, d, rfl⟩ := len_three (Nat.succ.inj h); exact ⟨a, b, c, d, rfl⟩
structure TabOk (g : List (Str × List (Str × Int))) (ord : List Str) (F : Str → Str → Option (List Int)) : Prop where
  nodup : ord.Nodup
  len : ord.length ≤ 5
  has : ∀ name ∈ ord, ∃ es, look g name = some es
  small : ∀ name es, look g name = some es → ∀ q ∈ es, q.2.natAbs < 2 ^ 63 ∧ q.1 ∈ lawNames
  before : ∀ (i : Nat) name es, ord[i]? = some name → look g name = some es → ∀ q ∈ es, q.1 ∈ ord.take i
  four : ∀ name far x, F name far = some x → x.length = 4 ∧ far ∈ lawNames
  fix : ∀ name ∈ ord, ∀ es, look g name = some es → ∀ far, F name far = es.foldl (stepF F) (fun _ => none) far
theorem step_names {F : Str → Str → Option (List Int)} (h4 : ∀ name far x, F name far = some x → x.length = 4 ∧ far ∈ lawNames) {acc : Str → Option (List Int)} {q : Str × Int} (hq : q.1 ∈ lawNames) (ha : ∀ far x, acc far = some x → x.length = 4 ∧ far ∈ lawNames) : ∀ far x, stepF F acc q far = some x → x.length = 4 ∧ far ∈ lawNames := by
  have comb4 : ∀ {a b : Option (List Int)} {x : List Int} {S : Prop}, (∀ x, a = some x → x.length = 4 ∧ S) → (∀ x, b = some x → x.length = 4 ∧ S) → comb add4 a b = some x → x.length = 4 ∧ S := by
    intro a b x S h1 h2 h
    cases a with
    | none => exact h2 x h
    | some u =>
      cases b with
      | none => exact h1 x h
      | some v =>
        have e := Option.some.inj h
        rw [← e]
        obtain ⟨a1, a2⟩ := h1 u rfl
        obtain ⟨b1, _⟩ := h2 v rfl
        exact ⟨by simp [add4, a1, b1], a2⟩
  intro far x hx
  refine comb4 (fun y hy => comb4 (ha far) (fun z hz => ?_) hy) (fun y hy => ?_) hx
  · split at hz
    · rename_i e; cases hz; exact ⟨rfl, e ▸ hq⟩
    · cases hz
  · obtain ⟨z, hz, rfl⟩ := Option.map_eq_some_iff.mp hy
    exact ⟨rfl, (h4 _ _ _ hz).2⟩
abbrev Tab := DctR (TupR IntR)
theorem Tab.mono : Mono Tab := DctR.mono (TupR.mono IntR.mono)
section
variable {G : Gl} {P : Params}
theorem law_tables_ok (gk : GOk G) (hK : G.K = hd.heap_1 P) {bm : Addr} {ob : Obj} (gb : GBm G bm ob) (gc : GCode G 34) {n : Nat} {vr vc : AV} {rs : List (List Str)} {g : List (Str × List (Str × Int))} {F : Str → Str → Option (List Int)} {hp : Hp} (hr : LstR (TupR StrR) hp vr rs) (hg : DctR (DctR IntR) hp vc g) (hF : TabOk g rs.flatten F) (hrl : rs.length ≤ 1000) :
    FnC prog w G (n + 4) 207 [vr, vc] hp fun v hp' => Le hp hp' ∧ ∃ tabs, A3 (DctR Tab hp' v tabs) (tabs.map (·.1) = rs.flatten) (∀ q ∈ tabs, ∀ far, look q.2 far = F q.1 far) := by
  obtain ⟨lr, yr, e1, hr1, hr2⟩ := id hr
  subst e1
  refine fn_b gk ["rounds", "callers", "tables", "group", "name", "table", "caller", "often", "farther", "far", "four", "ways", "steps", "squares", "cubes"] 2 (by exact lkK hK rfl) (by exact cdK hK rfl) fun A env own fr B rm hcd => ?_
  refine Exs.hide fun κ hκ => ?_
  refine exs_cons (set_n B 2 (ev_dict0 fun d hd0 => ?_))
  have hd0 : hp d = none := hd0
  let D : Hp := hset hp d (.dict [] 0)
  have Dd : D d = some (.dict [] 0) := hset_self _ _ _
  have Dn : ∀ (h : Hp) (a : Addr) (o : AObj), Le hp h → h d = some o → h a = none → D a = none := fun h a o l h1 h2 => by
    have hne : a ≠ d := fun z => by rw [z, h1] at h2; cases h2
    exact (hset_other _ _ hne).trans (l.none h2)
  let Inv : Nat → St → Prop := fun i st => A5 (st.loc 0 = some (.ref lr)) (st.loc 1 = some vc) (st.loc 2 = some (.ref d)) (Le hp st.hp) (∃ tabs, A3 (DctR (DctN D (TupR IntR)) st.hp (.ref d) tabs) (tabs.map (·.1) = rs.flatten.take i) (∀ q ∈ tabs, ∀ far, look q.2 far = F q.1 far))
  refine exs_cons (for_n B 3 (src_list (ev_n B 0 rfl ⟨lr, yr, rfl, (Le.new hd0) _ _ hr1, trivial, ?_⟩)))
  refine for_inv (fun i st => Inv ((rs.take i).flatten).length st) ⟨rfl, rfl, rfl, Le.new hd0, [], ⟨d, [], 0, rfl, hset_self _ _ _, .nil, .nil⟩, rfl, fun q h => by cases h⟩ ?_ ?_
  · intro i y rr2 hy rr4
    refine Exs.hide fun κ hκ => ?_
    obtain ⟨loc, hp1⟩ := rr2
    obtain ⟨l0, l1, l2, hle, hinv⟩ := rr4
    change Le hp hp1 at hle
    obtain ⟨grp, hgr, hrg⟩ := hr2.get' hy
    obtain ⟨lg, yg, e2, hg1, hg2⟩ := id hrg
    subst e2
    have hstr := strs_of hg2
    subst hstr
    refine exs_cons (for_n B 4 (src_tup (ev_n B 3 rfl ⟨lg, _, rfl, hle _ _ hg1, trivial, ?_⟩)))
    refine for_inv (fun j st => st.loc 3 = some (.ref lg) ∧ Inv (((rs.take i).flatten).length + j) st) ⟨rfl, l0, l1, l2, hle, hinv⟩ ?_ ?_
    · intro j ynm rr2 hynm rr4
      refine Exs.hide fun κ hκ => ?_
      obtain ⟨loc2, hp2⟩ := rr2
      obtain ⟨m3, m0, m1, m2, hle2, tabs, hd, hkeys, htabs⟩ := rr4
      change Le hp hp2 at hle2; change DctR (DctN D (TupR IntR)) hp2 (.ref d) tabs at hd
      simp only [one_l, one_t, one_r, one_v, one_k, List.getElem?_map, Option.map_eq_some_iff] at hynm
      obtain ⟨name, hname, rfl⟩ := hynm
      have hpos : rs.flatten[((rs.take i).flatten).length + j]? = some name := by
        have e : rs.flatten = (rs.take i).flatten ++ (rs.drop i).flatten := by rw [← List.flatten_append, List.take_append_drop]
        rw [e, List.getElem?_append_right (Nat.le_add_right _ _), Nat.add_sub_cancel_left]
        have hi : i < rs.length := (List.getElem?_eq_some_iff.mp hgr).1
        rw [List.drop_eq_getElem_cons hi, List.flatten_cons]
        have : rs[i] = grp := by rw [List.getElem?_eq_getElem hi] at hgr; exact Option.some.inj hgr
        rw [this, List.getElem?_append_left (List.getElem?_eq_some_iff.mp hname).1]
        exact hname
      generalize hN : ((rs.take i).flatten).length + j = N at hpos hkeys
      have hmem : name ∈ rs.flatten := List.mem_of_getElem? hpos
      obtain ⟨es, hes⟩ := hF.has name hmem
      obtain ⟨d', ya, ea, e1, ha1, ha2, ha3⟩ := id hd
      cases e1
      refine exs_cons (set_n B 5 (ev_dict0 fun t0 ht0 => ?_))
      have ht0 : hp2 t0 = none := ht0
      let hp3 : Hp := hset hp2 t0 (.dict [] 0)
      have le23 : Le hp2 hp3 := Le.new ht0
      refine exs_cons (for_nn B 6 7 (src_it gk (ev_dx (R := DctR IntR) (ev_n B 1 m1 (ev_n B 4 rfl ⟨g, name, es, DctR.mono (DctR.mono IntR.mono) _ _ _ _ (hle2.trans le23) hg, rfl, hes, fun ye hye => ?_⟩)))))
      obtain ⟨de, yes, ee, e3, he1, he2, he3⟩ := hye
      refine ⟨de, yes, ee, e3, he1, trivial, ?_⟩
      refine for_inv (fun c st => A7 (st.loc 0 = some (.ref lr)) (st.loc 1 = some vc) (st.loc 2 = some (.ref d)) (st.loc 3 = some (.ref lg)) (st.loc 4 = some (.str name)) (Le hp3 st.hp) (E2 fun a tb => A4 (st.loc 5 = some (.ref a)) (hp2 a = none) (Tab st.hp (.ref a) tb) (∀ far, look tb far = (es.take c).foldl (stepF F) (fun _ => none) far))) ⟨m0, m1, m2, m3, rfl, Le.refl _, t0, [], rfl, ht0, ⟨t0, [], 0, rfl, hset_self _ _ _, .nil, .nil⟩, fun far => rfl⟩ ?_ ?_
      · intro c rr1 rr2 hx rr4
        refine Exs.hide fun κ hκ => ?_
        obtain ⟨kx, ox⟩ := rr1
        obtain ⟨loc3, hp4⟩ := rr2
        refine hide fun Pz hPz => ?_; (rcases rr4 with ⟨n0, n1, n2, n3, n4, hle4, a, tb, n5, ha0, hT, hlk⟩) <;> (refine hPz ?_; clear hPz Pz)
        change Le hp3 hp4 at hle4; change Tab hp4 (.ref a) tb at hT
        simp only [two_i, List.getElem?_map, Option.map_eq_some_iff] at hx
        obtain ⟨q, hq, hq2⟩ := hx
        obtain ⟨rfl, rfl⟩ := Prod.mk.inj hq2
        obtain ⟨p, hp1', hrk, hro⟩ := he2.get' hq
        have hqo : q.2 = .int p.2 := hro
        have hpm : p ∈ es := List.mem_of_getElem? hp1'
        obtain ⟨hsm, hpn⟩ := hF.small name es hes p hpm
        have hbef := hF.before N name es hpos hes p hpm
        have hacc : ∀ c, ∀ far x, (es.take c).foldl (stepF F) (fun _ => none) far = some x → x.length = 4 ∧ far ∈ lawNames := by
          intro c
          have gen : ∀ (l : List (Str × Int)) (acc : Str → Option (List Int)), (∀ q ∈ l, q.1 ∈ lawNames) → (∀ far x, acc far = some x → x.length = 4 ∧ far ∈ lawNames) → ∀ far x, l.foldl (stepF F) acc far = some x → x.length = 4 ∧ far ∈ lawNames := by
            intro l
            induction l with
            | nil => intro acc _ h; exact h
            | cons q l ih => intro acc hq h; exact ih _ (fun q' h' => hq q' (.tail _ h')) (step_names hF.four (hq q (.head _)) h)
          exact gen _ _ (fun q hq => (hF.small name es hes q (List.mem_of_mem_take hq)).2) fun far x h => by cases h
        have hkm : p.1 ∈ tabs.map (·.1) := by rw [hkeys]; exact hbef
        obtain ⟨tq, htq, etq⟩ := List.mem_map.mp hkm
        have hltq : look tabs p.1 = some tq.2 := by rw [← etq]; exact (look_mem ha3).mp htq
        have hFq : ∀ far, look tq.2 far = F p.1 far := fun far => by rw [← etq]; exact htabs tq htq far
        refine exs_cons (set_n B 8 (ev_dict0 fun d5 hd5 => ?_))
        have hd5 : hp4 d5 = none := hd5
        let hp5 : Hp := hset hp4 d5 (.dict [] 0)
        have le45 : Le hp4 hp5 := Le.new hd5
        have hag : ∃ yt, aget ya p.1 = some yt ∧ DctN D (TupR IntR) hp2 yt tq.2 := by
          rcases aget_look ha2 p.1 with ⟨_, z⟩ | ⟨yt, x, z1, z2, z3⟩
          · rw [hltq] at z; cases z
          · rw [hltq] at z2; cases z2; exact ⟨yt, z1, z3⟩
        refine hide fun Pz hPz => ?_; (rcases hag with ⟨yt, hag, _, dt, yts, et, e4, ht1, ht2, ht3⟩) <;> (refine hPz ?_; clear hPz Pz)
        subst e4
        have ha5 : hp5 d = some (.dict ya ea) := le45 _ _ (hle4 _ _ (le23 _ _ ha1))
        have le25 : Le hp2 hp5 := le23.trans (hle4.trans le45)
        refine exs_cons (for_nn B 9 10 (src_it gk (ev_at (ev_n B 2 n2 (ev_n B 6 rfl ⟨.ref dt, ?_, dt, yts, et, rfl, le25 _ _ ht1, trivial, ?_⟩)))))
        · rw [hrk]; exact .dict ha5 hag
        let fsh : List (Str × List Int) → List (Str × List Int) := fun l => l.map fun z => (z.1, shift p.2 z.2)
        refine for_inv (fun i st => A10 (st.loc 0 = some (.ref lr)) (st.loc 1 = some vc) (st.loc 2 = some (.ref d)) (st.loc 3 = some (.ref lg)) (st.loc 4 = some (.str name)) (st.loc 5 = some (.ref a)) (st.loc 6 = some (.str p.1)) (st.loc 7 = some (.int p.2)) (st.loc 8 = some (.ref d5)) (And (Le hp4 st.hp) (Tab st.hp (.ref d5) (fsh (tq.2.take i))))) ⟨n0, n1, n2, n3, n4, n5, by rw [← hrk]; rfl, by rw [← hqo]; rfl, rfl, le45, d5, [], 0, rfl, hset_self _ _ _, .nil, .nil⟩ ?_ ?_
        · intro i2 rr1 rr2 hx6 rr4
          refine Exs.hide fun κ hκ => ?_
          obtain ⟨kf, vf⟩ := rr1
          obtain ⟨loc5, hp6⟩ := rr2
          refine hide fun Pz hPz => ?_; (rcases rr4 with ⟨k0, k1, k2, k3, k4, k5, k6, k7, k8, hle6, hT6⟩) <;> (refine hPz ?_; clear hPz Pz)
          change Le hp4 hp6 at hle6; change Tab hp6 (.ref d5) _ at hT6
          simp only [two_i, List.getElem?_map, Option.map_eq_some_iff] at hx6
          obtain ⟨z, hz, hz2⟩ := hx6
          obtain ⟨rfl, rfl⟩ := Prod.mk.inj hz2
          obtain ⟨x, hx1, hxk, hxt⟩ := ht2.get' hz
          have hx4 : x.2.length = 4 := (hF.four p.1 x.1 x.2 (by rw [← hFq]; exact (look_mem ht3).mp (List.mem_of_getElem? hx1))).1
          have hxt6 : TupR IntR hp6 z.2 x.2 := TupR.mono IntR.mono _ _ _ _ ((le23.trans hle4).trans hle6) hxt
          obtain ⟨tz, ws, e5, hw1, hw2⟩ := hxt6
          obtain ⟨x0, x1, x2, x3, ex⟩ := len_four hx4
          have hws : ws = [.int x0, .int x1, .int x2, .int x3] := by rw [ints_of hw2, ex]; rfl
          subst hws
          refine exs_cons (set_tup B [(11, _), (12, _), (13, _), (14, _)] (ev_n B 10 rfl ⟨tz, _, e5, hw1, rfl, ?_⟩))
          have hmul : ∀ i : Int, intOp .Mult i p.2 = some (i * p.2) := fun i => mul_right hsm
          have hm3 : ∀ i : Int, intOp .Mult 3 i = some (3 * i) := fun i => mul_left (by decide)
          have hm2 : ∀ i : Int, intOp .Mult 2 i = some (2 * i) := fun i => mul_left (by decide)
          refine exs_cons (set_item_d (ev_tup ?_))
          refine es_c (ev_iop (ev_n B 11 rfl (ev_n B 7 k7 ⟨_, _, _, rfl, rfl, hmul _, ?_⟩)))
          refine es_c (ev_iop (ev_iop (ev_n B 11 rfl (ev_n B 12 rfl ⟨_, _, _, rfl, rfl, rfl, ev_n B 7 k7 ⟨_, _, _, rfl, rfl, hmul _, ?_⟩⟩))))
          refine es_c (ev_iop (ev_iop (ev_iop (ev_n B 11 rfl (ev_iop (ev_int (ev_n B 12 rfl ⟨_, _, _, rfl, rfl, hm2 _, ⟨_, _, _, rfl, rfl, rfl, ev_n B 13 rfl ⟨_, _, _, rfl, rfl, rfl, ev_n B 7 k7 ⟨_, _, _, rfl, rfl, hmul _, ?_⟩⟩⟩⟩)))))))
          refine es_c (ev_iop (ev_iop (ev_iop (ev_iop (ev_n B 11 rfl (ev_iop (ev_int (ev_n B 12 rfl ⟨_, _, _, rfl, rfl, hm3 _, ⟨_, _, _, rfl, rfl, rfl, ?_⟩⟩))))))))
          refine ev_iop (ev_int (ev_n B 13 rfl ⟨_, _, _, rfl, rfl, hm3 _, ⟨_, _, _, rfl, rfl, rfl, ev_n B 14 rfl ⟨_, _, _, rfl, rfl, rfl, ev_n B 7 k7 ⟨_, _, _, rfl, rfl, hmul _, es_nil ⟨(by show 4 ≤ 1000; decide), fun t7 ht7 => ?_⟩⟩⟩⟩⟩))
          have ht7 : hp6 t7 = none := ht7
          let sh : List Int := [x0 * p.2, (x0 + x1) * p.2, (x0 + 2 * x1 + x2) * p.2, (x0 + 3 * x1 + 3 * x2 + x3) * p.2]
          have esh : shift p.2 x.2 = sh := by rw [ex]; rfl
          let hp7 : Hp := hset hp6 t7 (.tup (sh.map .int))
          have le67 : Le hp6 hp7 := Le.new ht7
          have hS7 : TupR IntR hp7 (.ref t7) sh := ⟨t7, _, rfl, hset_self _ _ _, ints_all _⟩
          obtain ⟨d6, y6, p6, e6, hb1, hb2, hb3⟩ := hT6
          cases e6
          have hb7 : hp7 d5 = some (.dict y6 p6) := le67 _ _ hb1
          have hl6 : y6.length ≤ 1000 := by
            rw [hb2.length]
            have h5 : tq.2.length ≤ 5 := names_len ht3 fun k hk => by
              cases e : look tq.2 k with
              | none => exact absurd e hk
              | some v => exact (hF.four p.1 k v (by rw [← hFq]; exact e)).2
            simp only [fsh, List.length_map, List.length_take]; exact Nat.le_trans (Nat.min_le_right _ _) (Nat.le_trans ‹_› (by decide))
          refine ev_n B 8 k8 (ev_n B 9 rfl ⟨d5, y6, p6, z.1, rfl, rfl, hb7, hl6, fun ep' => exs_nil (hκ _ _ ⟨?_, k0, k1, k2, k3, k4, k5, k6, k7, k8, (hle6.trans le67).put hd5, ?_⟩)⟩)
          · show hset hp7 d5 _ dt = _
            rw [hset_other _ _ (fun e => by have := (le23.trans hle4) _ _ ht1; rw [e, hd5] at this; cases this)]
            exact le67 _ _ (hle6 _ _ ((le23.trans hle4) _ _ ht1))
          · have hnk : z.1 ∉ (fsh (tq.2.take i2)).map (·.1) := by
              rw [keys_map, hxk]; exact take_nodup ht3 hx1
            have e8 : fsh (tq.2.take (i2 + 1)) = putk (fsh (tq.2.take i2)) z.1 sh := by
              rw [putk_new hnk, take_snoc hx1]
              simp only [fsh, List.map_append, List.map_cons, List.map_nil, esh, hxk]
            rw [e8]
            refine ⟨d5, _, ep', rfl, hset_self _ _ _, ?_, nodup_putk hb3⟩
            exact (aput_rel (R := TupR IntR) (hp := hp7) (hb2.mono fun a b h => ⟨h.1, TupR.mono IntR.mono _ _ _ _ le67 h.2⟩) z.1 hS7).mono fun a b h => ⟨h.1, TupI.put hb7 h.2⟩
        · intro rr0 rr1
          obtain ⟨loc5, hp6⟩ := rr0
          refine hide fun Pz hPz => ?_; (rcases rr1 with ⟨k0, k1, k2, k3, k4, k5, k6, k7, k8, hle6, hT6⟩) <;> (refine hPz ?_; clear hPz Pz)
          change Le hp4 hp6 at hle6
          have hl6 : (SrcK.items dt yts et).two.length = tq.2.length := by simp [two_i, ht2.length]
          rw [hl6, List.take_length] at hT6
          change Tab hp6 (.ref d5) (fsh tq.2) at hT6
          have htbl : tb.length ≤ 5 := by
            obtain ⟨_, _, _, _, _, _, hnd⟩ := hT
            exact names_len hnd fun k hk => by
              cases e : look tb k with
              | none => exact absurd e hk
              | some v => exact (hacc c k v (by rw [← hlk]; exact e)).2
          have hfl : (fsh tq.2).length ≤ 5 := by
            have h5 : tq.2.length ≤ 5 := names_len ht3 fun k hk => by
              cases e : look tq.2 k with
              | none => exact absurd e hk
              | some v => exact (hF.four p.1 k v (by rw [← hFq]; exact e)).2
            simpa [fsh] using h5
          have hflk : ∀ far, look (fsh tq.2) far = (F p.1 far).map (shift p.2) := fun far => by rw [← hFq]; exact look_map _ _ _
          refine exs_cons (set_n B 5 (ev_fn gk B rm (by exact nsK hK rfl) (by exact fbK hK rfl) (es_c (ev_n B 5 k5 (es_c (ev_dict1 (ev_n B 6 k6 (ev_tup ?_))))))))
          iterate 4 refine es_c (ev_n B 7 k7 ?_)
          refine es_nil ⟨(by show 4 ≤ 1000; decide), fun t7 ht7 => ⟨p.1, rfl, fun d8 ep8 hd8 => es_nil ?_⟩⟩
          have ht7 : hp6 t7 = none := ht7
          let hp7 : Hp := hset hp6 t7 (.tup [.int p.2, .int p.2, .int p.2, .int p.2])
          have le67 : Le hp6 hp7 := Le.new ht7
          have hd8 : hp7 d8 = none := hd8
          let hp8 : Hp := hset hp7 d8 (.dict [(p.1, .ref t7)] ep8)
          have le78 : Le hp7 hp8 := Le.new hd8
          have hC8 : Tab hp8 (.ref d8) [(p.1, [p.2, p.2, p.2, p.2])] := ⟨d8, _, ep8, rfl, hset_self _ _ _, .cons ⟨rfl, t7, _, rfl, le78 _ _ (hset_self _ _ _), ints_all [p.2, p.2, p.2, p.2]⟩ .nil, by simp⟩
          have hT8 := Tab.mono _ _ _ _ (hle6.trans (le67.trans le78)) hT
          have h4tb : ∀ k x, look tb k = some x → x.length = 4 := fun k x h => (hacc c k x (by rw [← hlk]; exact h)).1
          have hc1 : ∀ k x, look [(p.1, [p.2, p.2, p.2, p.2])] k = some x → x.length = 4 := fun k x h => by
            rw [look_cons, look_nil] at h
            split at h
            · cases h; rfl
            · cases h
          refine FnC.mono (law_added_ok gk hK gb gc hT8 hC8 (by simp; exact Nat.le_trans ‹_› (by decide)) h4tb hc1) fun v9 hp9 hz47 => ?_
          obtain ⟨hle9, a9, es9, e9, ha9, hd9, hl9, hlk9⟩ := hz47
          subst e9
          have hT9 := Tab.mono _ _ _ _ (le67.trans (le78.trans hle9)) hT6
          refine exs_cons (set_n B 5 (ev_fn gk B rm (by exact nsK hK rfl) (by exact fbK hK rfl) (es_c (ev_n B 5 rfl (es_c (ev_n B 8 k8 (es_nil ?_)))))))
          have h49 : ∀ k x, look es9 k = some x → x.length = 4 := fun k x h => by
            rw [hlk9] at h
            cases q1 : look tb k with
            | none => rw [q1] at h; exact hc1 k x h
            | some u =>
              cases q2 : look [(p.1, [p.2, p.2, p.2, p.2])] k with
              | none => rw [q1, q2] at h; have := Option.some.inj h; rw [← this]; exact h4tb k _ q1
              | some v =>
                rw [q1, q2] at h
                have := Option.some.inj h
                rw [← this]; simp [add4, h4tb k u q1, hc1 k v q2]
          have h4f : ∀ k x, look (fsh tq.2) k = some x → x.length = 4 := fun k x h => by
            rw [hflk] at h
            obtain ⟨z, _, rfl⟩ := Option.map_eq_some_iff.mp h
            rfl
          refine FnC.mono (law_added_ok gk hK gb gc hd9 hT9 (by have : ([(p.1, [p.2, p.2, p.2, p.2])] : List (Str × List Int)).length = 1 := rfl; lia) h49 h4f) fun v10 hp10 hz48 => ?_
          obtain ⟨hle10, a10, es10, e10, ha10, hd10, hl10, hlk10⟩ := hz48
          subst e10
          have le410 : Le hp4 hp10 := hle6.trans (le67.trans (le78.trans (hle9.trans hle10)))
          have le310 : Le hp3 hp10 := hle4.trans le410
          have ha10' : hp2 a10 = none := (le23.trans (hle4.trans (hle6.trans (le67.trans (le78.trans hle9))))).none ha10
          refine exs_nil (hκ _ _ ⟨?_, k0, k1, k2, k3, k4, le310, a10, es10, rfl, ha10', hd10, fun far => ?_⟩)
          · exact le310 _ _ he1
          · rw [hlk10, hlk9, hlk, hflk, take_snoc hp1', List.foldl_append]
            show _ = stepF F _ p far
            unfold stepF
            rw [look_cons, look_nil]
            by_cases z : far = p.1
            · rw [if_pos z.symm, if_pos z]
            · rw [if_neg (fun e => z e.symm), if_neg z]
      · intro rr0 rr1
        obtain ⟨loc3, hp4⟩ := rr0
        refine hide fun Pz hPz => ?_; (rcases rr1 with ⟨n0, n1, n2, n3, n4, hle4, a, tb, n5, ha0, hT, hlk⟩) <;> (refine hPz ?_; clear hPz Pz)
        change Le hp3 hp4 at hle4; change Tab hp4 (.ref a) tb at hT
        have hl6 : (SrcK.items de yes ee).two.length = es.length := by simp [two_i, he2.length]
        rw [hl6, List.take_length] at hlk
        have ha4 : hp4 d = some (.dict ya ea) := hle4 _ _ (le23 _ _ ha1)
        have hlt : tabs.length ≤ 5 := by
          have := congrArg List.length hkeys
          rw [List.length_map, List.length_take] at this
          have := hF.len; lia
        refine exs_cons (set_item_d (ev_n B 5 n5 (ev_n B 2 n2 (ev_n B 4 n4 ⟨d, ya, ea, name, rfl, rfl, ha4, by rw [ha2.length]; exact Nat.le_trans ‹_› (by decide), fun ep' => exs_nil (hκ _ _ ⟨?_, n3, n0, n1, n2, (hle2.trans (le23.trans hle4)).put hd0, tabs ++ [(name, tb)], ?_, ?_, ?_⟩)⟩))))
        · show hset hp4 d _ lg = _
          rw [hset_other _ _ (ne_of_none hd0 hg1)]
          exact (hle2.trans (le23.trans hle4)) _ _ hg1
        · have hnk : name ∉ tabs.map (·.1) := by
            rw [hkeys]
            intro hm
            obtain ⟨i', hi'⟩ := List.getElem?_of_mem hm
            rw [List.getElem?_take] at hi'
            split at hi'
            · rename_i hlt'
              have := (List.getElem?_inj (List.getElem?_eq_some_iff.mp hi').1 hF.nodup).mp (hi'.trans hpos.symm)
              lia
            · cases hi'
          rw [← putk_new hnk]
          refine ⟨d, _, ep', rfl, hset_self _ _ _, ?_, nodup_putk ha3⟩
          exact (aput_rel (R := DctN D (TupR IntR)) (hp := hp4) (ha2.mono fun a b h => ⟨h.1, DctN.mono (TupR.mono IntR.mono) _ _ _ _ (le23.trans hle4) h.2⟩) name ⟨⟨a, rfl, Dn hp2 a _ hle2 ha1 ha0⟩, hT⟩).mono fun a b h => ⟨h.1, DctN.put ha4 Dd h.2⟩
        · rw [List.map_append, hkeys, show ((rs.take i).flatten).length + (j + 1) = N + 1 by lia, take_snoc hpos]; rfl
        · intro q hq far
          rcases List.mem_append.mp hq with h | h
          · exact htabs q h far
          · rw [List.mem_singleton.mp h]
            show look tb far = F name far
            rw [hlk, hF.fix name hmem es hes]
    · intro rr0 rr1
      obtain ⟨loc2, hp2⟩ := rr0
      obtain ⟨m3, hinv2⟩ := rr1
      refine exs_nil (hκ _ _ ⟨?_, ?_⟩)
      · obtain ⟨_, _, _, hle9, _⟩ := hinv2
        exact hle9 _ _ hr1
      · have : ((rs.take (i + 1)).flatten).length = ((rs.take i).flatten).length + grp.length := by rw [take_snoc hgr]; simp
        rw [this]
        have h2 : (SrcK.tup lg (grp.map AV.str)).one.length = grp.length := by simp [one_l, one_t, one_r, one_v, one_k]
        rw [h2] at hinv2
        exact hinv2
  · intro rr0 rr1
    obtain ⟨loc, hp1⟩ := rr0
    obtain ⟨l0, l1, l2, hle, tabs, hd, hkeys, htabs⟩ := rr1
    have h3 : (SrcK.list lr yr).one.length = rs.length := by show yr.length = _; exact hr2.length
    rw [h3, List.take_length, List.take_length] at hkeys
    refine exs_cons (ex_return (ev_n B 2 l2 (hκ _ _ ⟨hle, tabs, ?_, hkeys, htabs⟩)))
    obtain ⟨a, ys, ep, e1, e2, e3, e4⟩ := hd
    exact ⟨a, ys, ep, e1, e2, e3.mono fun a b h => ⟨h.1, h.2.2⟩, e4⟩
end
end Mine
end
section
open PySem PySem.W PySem.Calls PyProof.Rows
set_option Elab.async false
set_option linter.unusedVariables false
set_option maxRecDepth 100000
set_option maxHeartbeats 2000000
namespace Mine
variable {prog : Program} {w : World}
structure RingOk (g : List (Str × List (Str × Int))) (nodes : List Str) : Prop where
  two : 2 ≤ nodes.length
  len : nodes.length ≤ 900
  ends : E2 fun x mid => nodes = x :: mid ++ [x]
  step : ∀ (i : Nat) a b, nodes[i]? = some a → nodes[i + 1]? = some b → ∃ es, look g b = some es ∧ (look es a).isSome = true
  once : ∀ (i : Nat) b, nodes[i + 1]? = some b → (nodes.drop 1).count b = 1
noncomputable def cycMsg : Str := Str.ofString "nodes are in a cycle"
section
variable {G : Gl} {P : Params}
theorem law_ring_none_ok (gk : GOk G) (hK : G.K = hd.heap_1 P) {n : Nat} {vc vr : AV} {rk : List Int} {hp : Hp} (hvr : LstR IntR hp vr rk) (h5 : rk.any (· == 5) = false) :
    FnC prog w G (n + 1) 239 [.none, vc, vr] hp fun v hp' => hp' = hp ∧ v = .bool true := by
  obtain ⟨l, ys, e, h1, h2⟩ := hvr
  subst e
  rw [ints_of h2] at h1
  refine fn_b gk ["ring", "callers", "ranks", "nodes", "turn"] 3 (by exact lkK hK rfl) (by exact cdK hK rfl) fun A env own fr B rm hcd => ?_
  refine Exs.hide fun κ hκ => ?_
  refine exs_cons (ex_if (tr_none (ev_n B 0 rfl (ev_none ⟨rfl, ?_⟩))))
  rw [if_pos (by decide)]
  refine exs_cons (ex_return (ev_cmp (ev_int (ev_n B 2 rfl fun va vb hva hvb => op_notin_ints hva hvb h1 (hκ _ _ ⟨rfl, ?_⟩))) rfl))
  rw [h5]; rfl
theorem law_ring_some_ok (gk : GOk G) (hK : G.K = hd.heap_1 P) {n : Nat} {t nl : Addr} {nodes : List Str} {vc vr : AV} {g : List (Str × List (Str × Int))} {rk : List Int} {hp : Hp} (ht : hp t = some (.tup [.str cycMsg, .ref nl])) (hn : hp nl = some (.list (nodes.map .str))) (hg : DctR (DctR IntR) hp vc g) (hvr : LstR IntR hp vr rk) (h5 : rk.any (· == 5) = true) (hR : RingOk g nodes) :
    FnC prog w G (n + 1) 239 [.ref t, vc, vr] hp fun v hp' => Le hp hp' ∧ v = .bool true := by
  obtain ⟨l, ys, e, h1, h2⟩ := hvr
  subst e
  rw [ints_of h2] at h1
  refine fn_b gk ["ring", "callers", "ranks", "nodes", "turn"] 3 (by exact lkK hK rfl) (by exact cdK hK rfl) fun A env own fr B rm hcd => ?_
  refine Exs.hide fun κ hκ => ?_
  have hlen : nsIn G.K mainGlobals (Str.ofString "len") = some none := by exact nsK hK rfl
  refine exs_cons (ex_if (tr_none (ev_n B 0 rfl (ev_none ⟨rfl, ?_⟩))))
  rw [if_neg (by exact Bool.false_ne_true)]
  refine exs_nil ?_
  refine exs_cons (ex_if (tr_or (tr_cmp (ev_int (ev_n B 2 rfl fun va vb hva hvb => op_notin_ints hva hvb h1 ⟨_, rfl, ?_⟩)) rfl)))
  rw [h5, if_neg (by decide)]
  refine tr_or (tr_icmp (ev_bi gk B hlen rfl (es_c (ev_n B 0 rfl (es_nil fun vs hvs => ?_)))))
  obtain ⟨v1, rfl, hv1⟩ := hvs.one
  refine op_len_tup hv1 ht (by show 2 ≤ 1000; decide) (ev_int ⟨2, 2, false, rfl, rfl, rfl, ?_⟩)
  rw [if_neg (by decide)]
  refine tr_or1 (tr_ne_str (ev_at (ev_n B 0 rfl (ev_int ⟨.str cycMsg, .tup ht (by decide) rfl (by show 2 ≤ 1000; decide), ev_str ⟨_, _, rfl, rfl, ?_⟩⟩))))
  rw [show (!decide (cycMsg = Str.ofString "nodes are in a cycle")) = false by simp [cycMsg], if_neg (by decide)]
  refine exs_nil ?_
  refine exs_cons (set_n B 3 (ev_at (ev_n B 0 rfl (ev_int ⟨.ref nl, .tup ht (by decide) rfl (by show 2 ≤ 1000; decide), ?_⟩))))
  refine exs_cons (ex_if (tr_or (tr_not (tr_v (ev_bi gk B (by exact nsK hK rfl) rfl (es_c (ev_n B 3 rfl (es_c (ev_ty gk B (by exact nsK hK rfl) rfl (es_nil fun vs hvs => ?_)))))))) ))
  obtain ⟨v1, v2, rfl, hv1, hv2⟩ := hvs.two
  refine op_isi_list_list hv1 hv2 hn ⟨true, .bool, ?_⟩
  rw [if_neg (by decide)]
  have hl := hR.len
  have h2 := hR.two
  refine tr_or (tr_icmp (ev_bi gk B hlen rfl (es_c (ev_n B 3 rfl (es_nil fun vs hvs => ?_)))))
  obtain ⟨v1, rfl, hv1⟩ := hvs.one
  refine op_len_list hv1 hn (by simp; exact Nat.le_trans ‹_› (by decide)) (ev_int ⟨_, 2, false, rfl, rfl, ?_, ?_⟩)
  · show some (decide (((nodes.map AV.str).length : Int) < 2)) = some false
    rw [decide_eq_false (by simp; exact Int.ofNat_lt.mpr ‹_›)]
  rw [if_neg (by decide)]
  obtain ⟨x, mid, hends⟩ := hR.ends
  have hls : nodes.map AV.str = (x :: mid).map AV.str ++ [.str x] := by rw [hends]; simp
  refine tr_or1 (tr_ne_str (ev_at (ev_n B 3 rfl (ev_int ⟨.str x, .nat (k := 0) hn (by rw [hends]; rfl) (by simp; exact Nat.le_trans ‹_› (by decide)), ev_at (ev_n B 3 rfl (ev_neg (ev_int ⟨_, rfl, .str x, .last (by rw [← hls]; exact hn) (by have := congrArg List.length hends; simp at this ⊢; lia), _, _, rfl, rfl, ?_⟩)))⟩))))
  rw [show (!decide (x = x)) = false by simp, if_neg (by decide)]
  refine exs_nil ?_
  refine exs_cons (for_r gk B 4 (fun i st => A3 (st.loc 1 = some vc) (st.loc 3 = some (.ref nl)) (Le hp st.hp)) (by exact nsK hK rfl)
    (es_c (ev_int (es_c (ev_bi gk B hlen rfl (es_c (ev_n B 3 rfl (es_nil fun vs hvs => ?_))))))))
  obtain ⟨v1, rfl, hv1⟩ := hvs.one
  refine op_len_list hv1 hn (by simp; exact Nat.le_trans ‹_› (by decide)) (es_nil ⟨1, _, rfl, by decide, by simp; exact nab rfl (Nat.lt_of_le_of_lt ‹_› (by decide)), ⟨rfl, rfl, Le.refl _⟩, ?_, ?_⟩)
  · intro i rr1 hi rr3
    refine Exs.hide fun κ hκ => ?_
    obtain ⟨loc, hp1⟩ := rr1
    obtain ⟨l1, l3, hle⟩ := rr3
    change Le hp hp1 at hle
    have hi' : i + 1 < nodes.length := by simp at hi; lia
    obtain ⟨a, ha⟩ : ∃ a, nodes[i]? = some a := ⟨_, List.getElem?_eq_getElem (Nat.le_of_lt ‹_›)⟩
    obtain ⟨b, hb⟩ : ∃ b, nodes[i + 1]? = some b := ⟨_, List.getElem?_eq_getElem (Nat.succ_le_of_lt ‹_›)⟩
    obtain ⟨es, he, hes⟩ := hR.step i a b ha hb
    have hn1 := hle _ _ hn
    have e1 : ((1 : Int) + i) = ((i + 1 : Nat) : Int) := Int.add_comm _ _
    rw [e1]
    have hg1 := DctR.mono (DctR.mono IntR.mono) _ _ _ _ hle hg
    refine exs_cons (ex_if (tr_or (tr_notin_d gk (ev_at (ev_n B 3 l3 (ev_iop (ev_n B 4 rfl (ev_int ⟨_, _, (i : Int), rfl, rfl, ?_, .str a, .nat hn1 (by simp [ha]) (by simp; exact Nat.le_trans ‹_› (by decide)), ?_⟩))))))))
    · show some (((i + 1 : Nat) : Int) - 1) = some (i : Int)
      congr 1; lia
    refine ev_dx (R := DctR IntR) (ev_n B 1 l1 (ev_at (ev_n B 3 l3 (ev_n B 4 rfl ⟨.str b, .nat hn1 (by simp [hb]) (by simp; exact Nat.le_trans ‹_› (by decide)), g, b, es, hg1, rfl, he, fun ye hye => ?_⟩))))
    obtain ⟨de, yes, ee, e3, he1, he2, he3⟩ := hye
    refine ⟨a, de, yes, ee, rfl, e3, he1, ?_⟩
    have hag : (aget yes a).isSome = true := by
      rcases aget_look he2 a with ⟨_, z⟩ | ⟨y, x, z1, z2, _⟩
      · rw [z] at hes; cases hes
      · rw [z1]; rfl
    rw [hag, if_neg (by decide)]
    refine tr_or1 (tr_icmp (ev_count (ev_slice (ev_n B 3 l3 (ev_int ⟨nl, _, 1, rfl, rfl, hn1, by simp; exact Nat.le_trans ‹_› (by decide), fun sl hsl => ?_⟩)))))
    have hsl : hp1 sl = none := hsl
    refine ⟨sl, rfl, ⟨_, hset_self _ _ _⟩, ev_at (ev_n B 3 l3 (ev_n B 4 rfl ⟨.str b, .nat ((Le.new hsl) _ _ hn1) (by simp [hb]) (by simp; exact Nat.le_trans ‹_› (by decide)), nodes.drop 1, b, rfl, ?_, ev_int ⟨_, 1, false, rfl, rfl, ?_, ?_⟩⟩))⟩
    · show hset hp1 sl _ sl = _
      rw [hset_self, List.map_drop]
    · show some ((((nodes.drop 1).count b : Nat) : Int) != 1) = some false
      rw [hR.once i b hb]; rfl
    · rw [if_neg (by decide)]
      exact exs_nil (exs_nil (hκ _ _ ⟨l1, l3, hle.trans (Le.new hsl)⟩))
  · intro rr0 rr1
    obtain ⟨loc, hp1⟩ := rr0
    obtain ⟨l1, l3, hle⟩ := rr1
    exact exs_cons (ex_return (ev_bool (hκ _ _ ⟨hle, rfl⟩)))
end
end Mine
end
section
open PySem PySem.W PySem.Calls PyProof.Rows
set_option Elab.async false
set_option linter.unusedVariables false
set_option maxRecDepth 100000
set_option maxHeartbeats 2000000
namespace Mine
variable {prog : Program} {w : World}
set_option genSizeOf false in
set_option genInjectivity false in
structure Sor where
  x : Addr
  dx : Addr
  N : Addr
  keys : List Str
  a : Str → Addr
  dn : Str → Addr
  sl : Str → Addr
  np : Str → Int
  succ : Str → List Str
  rd : Option (Addr × List Str)
  po : Int
  nf : Int
noncomputable def rdv : Option (Addr × List Str) → AV
  | none => .none
  | some (r, _) => .ref r
noncomputable def sAttrs (S : Sor) : List (Str × AV) := [("_node2info", .ref S.N), ("_ready_nodes", rdv S.rd), ("_npassedout", .int S.po), ("_nfinished", .int S.nf)]
structure Holds (D hp : Hp) (S : Sor) : Prop where
  le : Le D hp
  hx : hp S.x = some (.inst 158 S.dx)
  hdx : hp S.dx = some (.attrs (sAttrs S))
  hN : ∃ ep, hp S.N = some (.dict (S.keys.map fun k => (k, .ref (S.a k))) ep)
  hn : ∀ k ∈ S.keys, A3 (hp (S.a k) = some (.node 61 (S.dn k) [some (.str k), some (.int (S.np k)), some (.ref (S.sl k))])) (hp (S.dn k) = some (.attrs [])) (hp (S.sl k) = some (.list ((S.succ k).map .str)))
  nd : S.keys.Nodup
  inj : ∀ k ∈ S.keys, ∀ k' ∈ S.keys, S.sl k = S.sl k' → k = k'
  rd : ∀ r l, S.rd = some (r, l) → A3 (hp r = some (.list (l.map .str))) (D r = none) (∀ k ∈ S.keys, S.sl k ≠ r)
  nx : A3 (D S.x = none) (D S.dx = none) (D S.N = none)
  nn : ∀ k ∈ S.keys, D (S.a k) = none ∧ D (S.sl k) = none
  dflt : ∀ k, k ∉ S.keys → S.np k = 0 ∧ S.succ k = []
theorem Holds.mono {D hp hp' : Hp} {S : Sor} (h : Holds D hp S) (l : Le hp hp') : Holds D hp' S :=
  ⟨h.le.trans l, l _ _ h.hx, l _ _ h.hdx, by obtain ⟨ep, e⟩ := h.hN; exact ⟨ep, l _ _ e⟩, fun k hk => by obtain ⟨a, b, c⟩ := h.hn k hk; exact ⟨l _ _ a, l _ _ b, l _ _ c⟩, h.nd, h.inj, fun r q e => by obtain ⟨a, b, c⟩ := h.rd r q e; exact ⟨l _ _ a, b, c⟩, h.nx, h.nn, h.dflt⟩
theorem Holds.setNp {D hp : Hp} {S : Sor} (h : Holds D hp S) {k : Str} (hk : k ∈ S.keys) (i : Int) : Holds D (hset hp (S.a k) (.node 61 (S.dn k) [some (.str k), some (.int i), some (.ref (S.sl k))])) { S with np := fun k' => if k' = k then i else S.np k' } := by
  obtain ⟨h1, h2, h3⟩ := h.hn k hk
  have o : ∀ b A, hp b = some A → (∀ d l, A ≠ .node 61 d l) → hset hp (S.a k) (.node 61 (S.dn k) [some (.str k), some (.int i), some (.ref (S.sl k))]) b = some A := fun b A e hA => (hset_other _ _ fun z => by
    rw [z, h1] at e; cases e; exact hA _ _ rfl).trans e
  refine ⟨h.le.put (h.nn k hk).1, o _ _ h.hx (by rintro _ _ ⟨⟩), o _ _ h.hdx (by rintro _ _ ⟨⟩), by obtain ⟨ep, e⟩ := h.hN; exact ⟨ep, o _ _ e (by rintro _ _ ⟨⟩)⟩, fun k' hk' => ?_, h.nd, h.inj, fun r q e => by obtain ⟨a, b, c⟩ := h.rd r q e; exact ⟨o _ _ a (by rintro _ _ ⟨⟩), b, c⟩, h.nx, h.nn, fun k' hk' => ?_⟩
  · obtain ⟨g1, g2, g3⟩ := h.hn k' hk'
    refine ⟨?_, o _ _ g2 (by rintro _ _ ⟨⟩), o _ _ g3 (by rintro _ _ ⟨⟩)⟩
    by_cases z : k' = k
    · subst z; simp only [if_true]; exact hset_self _ _ _
    · simp only [if_neg z]
      refine (hset_other _ _ fun y => z ?_).trans g1
      rw [y, h1] at g1
      have := (AObj.node.inj (Option.some.inj g1)).2.2
      simp only [List.cons.injEq, Option.some.injEq, AV.str.injEq] at this
      exact this.1.symm
  · have hne : k' ≠ k := fun z => hk' (z ▸ hk)
    simp only [if_neg hne]; exact h.dflt k' hk'
theorem Holds.setSucc {D hp : Hp} {S : Sor} (h : Holds D hp S) {k : Str} (hk : k ∈ S.keys) (l : List Str) : Holds D (hset hp (S.sl k) (.list (l.map .str))) { S with succ := fun k' => if k' = k then l else S.succ k' } := by
  obtain ⟨h1, h2, h3⟩ := h.hn k hk
  have o : ∀ b A, hp b = some A → (∀ l, A ≠ .list l) → hset hp (S.sl k) (.list (l.map .str)) b = some A := fun b A e hA => (hset_other _ _ fun z => by
    rw [z, h3] at e; cases e; exact hA _ rfl).trans e
  refine ⟨h.le.put (h.nn k hk).2, o _ _ h.hx (by rintro _ ⟨⟩), o _ _ h.hdx (by rintro _ ⟨⟩), by obtain ⟨ep, e⟩ := h.hN; exact ⟨ep, o _ _ e (by rintro _ ⟨⟩)⟩, fun k' hk' => ?_, h.nd, h.inj, fun r q e => by obtain ⟨a, b, c⟩ := h.rd r q e; exact ⟨(hset_other _ _ fun z => c k hk z.symm).trans a, b, c⟩, h.nx, h.nn, fun k' hk' => ?_⟩
  · obtain ⟨g1, g2, g3⟩ := h.hn k' hk'
    refine ⟨o _ _ g1 (by rintro _ ⟨⟩), o _ _ g2 (by rintro _ ⟨⟩), ?_⟩
    by_cases z : k' = k
    · subst z; simp only [if_true]; exact hset_self _ _ _
    · simp only [if_neg z]
      exact (hset_other _ _ fun y => z (h.inj k' hk' k hk y)).trans g3
  · have hne : k' ≠ k := fun z => hk' (z ▸ hk)
    simp only [if_neg hne]; exact h.dflt k' hk'
theorem Holds.setAttrs {D hp : Hp} {S S' : Sor} (h : Holds D hp S) (e : S' = { S with rd := S'.rd, po := S'.po, nf := S'.nf }) (hr : ∀ r l, S'.rd = some (r, l) → A3 (hp r = some (.list (l.map .str))) (D r = none) (∀ k ∈ S.keys, S.sl k ≠ r)) : Holds D (hset hp S.dx (.attrs (sAttrs S'))) S' := by
  have o : ∀ b A, hp b = some A → A ≠ .attrs (sAttrs S) → hset hp S.dx (.attrs (sAttrs S')) b = some A := fun b A e hA => (hset_other _ _ fun z => by
    rw [z, h.hdx] at e; exact hA (Option.some.inj e).symm).trans e
  have e1 : S'.x = S.x := by rw [e]
  have e2 : S'.dx = S.dx := by rw [e]
  have e3 : S'.N = S.N := by rw [e]
  have e4 : S'.keys = S.keys := by rw [e]
  have e5 : S'.a = S.a := by rw [e]
  have e6 : S'.dn = S.dn := by rw [e]
  have e7 : S'.sl = S.sl := by rw [e]
  have e8 : S'.np = S.np := by rw [e]
  have e9 : S'.succ = S.succ := by rw [e]
  refine ⟨h.le.put h.nx.2, by rw [e1, e2]; exact o _ _ h.hx (by rintro ⟨⟩), by rw [e2]; exact hset_self _ _ _, by rw [e3, e4, e5]; exact by obtain ⟨ep, e⟩ := h.hN; exact ⟨ep, o _ _ e (by rintro ⟨⟩)⟩, ?_, by rw [e4]; exact h.nd, by rw [e4, e7]; exact h.inj, fun r l q => ?_, by rw [e1, e2, e3]; exact h.nx, by rw [e4, e5, e7]; exact h.nn, by rw [e4, e8, e9]; exact h.dflt⟩
  · rw [e4, e5, e6, e7, e8, e9]
    intro k hk
    obtain ⟨g1, g2, g3⟩ := h.hn k hk
    exact ⟨o _ _ g1 (by rintro ⟨⟩), o _ _ g2 (by simp [sAttrs]), o _ _ g3 (by rintro ⟨⟩)⟩
  · obtain ⟨a, b, c⟩ := hr r l q
    rw [e4, e7]
    exact ⟨o _ _ a (by rintro ⟨⟩), b, c⟩
section
variable {G : Gl} {P : Params}
theorem node_init_ok (gk : GOk G) (hK : G.K = hd.heap_1 P) {n : Nat} {a dn : Addr} {k : Str} {hp : Hp} (ha : hp a = some (.node 61 dn [])) (hdn : hp dn = some (.attrs [])) :
    FnC prog w G (n + 1) 57 [.ref a, .str k] hp fun v hp' => v = .none ∧ ∃ sl, A3 (hp sl = none) (sl ≠ a) (hp' = hset (hset hp sl (.list [])) a (.node 61 dn [some (.str k), some (.int 0), some (.ref sl)])) := by
  refine fn_b gk ["self", "node"] 2 (by exact lkK hK rfl) (by exact cdK hK rfl) fun A env own fr B rm hcd => ?_
  refine Exs.hide fun κ hκ => ?_
  refine exs_cons (set_slot_e gk (ev_n B 1 rfl (ev_n B 0 rfl ⟨a, 61, dn, 62, 0, [], [], rfl, ha, hdn, by exact p4K hK rfl, by decide, ?_⟩)))
  have hne : dn ≠ a := fun z => by rw [z, ha] at hdn; cases hdn
  refine exs_cons (set_slot_e gk (ev_int (ev_n B 0 rfl ⟨a, 61, dn, 63, 1, [some (.str k)], [], rfl, hset_self _ _ _, (hset_other _ _ hne).trans hdn, by exact p4K hK rfl, by decide, ?_⟩)))
  refine exs_cons (set_slot_e gk (ev_list (es_nil ⟨by decide, fun sl hsl => ?_⟩)))
  have hsl' : hset (hset hp a (.node 61 dn [some (.str k)])) a (.node 61 dn [some (.str k), some (.int 0)]) sl = none := hsl
  have hsa : sl ≠ a := fun z => by rw [z, hset_self] at hsl'; cases hsl'
  have hs0 : hp sl = none := by rwa [hset_other _ _ hsa, hset_other _ _ hsa] at hsl'
  have hsd : dn ≠ sl := fun z => by rw [z, hs0] at hdn; cases hdn
  refine ev_n B 0 rfl ⟨a, 61, dn, 64, 2, [some (.str k), some (.int 0)], [], rfl, (hset_other _ _ (Ne.symm hsa)).trans (hset_self _ _ _), (hset_other _ _ hsd).trans ((hset_other _ _ hne).trans ((hset_other _ _ hne).trans hdn)), by exact p4K hK rfl, by decide, exs_nil (hκ _ _ ⟨rfl, sl, hs0, hsa, ?_⟩)⟩
  show hset (hset (hset (hset hp a _) a _) sl _) a _ = _
  funext b
  by_cases z : b = a
  · subst z; rw [hset_self, hset_self]; rfl
  · rw [hset_other _ _ z, hset_other _ _ z]
    by_cases y : b = sl
    · subst y; rw [hset_self, hset_self]
    · rw [hset_other _ _ y, hset_other _ _ y, hset_other _ _ z, hset_other _ _ z]
noncomputable def ins (keys : List Str) (k : Str) : List Str := if k ∈ keys then keys else keys ++ [k]
theorem mem_ins {keys : List Str} {k x : Str} : x ∈ ins keys k ↔ x ∈ keys ∨ x = k := by
  unfold ins
  split
  · rename_i h
    exact ⟨.inl, fun z => z.elim id fun e => e ▸ h⟩
  · simp
theorem aget_keys {keys : List Str} {f : Str → AV} {k : Str} : aget (keys.map fun k => (k, f k)) k = if k ∈ keys then some (f k) else none := by
  induction keys with
  | nil => rfl
  | cons y r ih =>
    have : aget ((y :: r).map fun k => (k, f k)) k = if y = k then some (f y) else aget (r.map fun k => (k, f k)) k := look_cons _ _ _
    rw [this, ih]
    by_cases z : y = k
    · subst z; simp
    · have : k ≠ y := fun e => z e.symm
      simp [z, this]
theorem aput_keys {keys : List Str} {f f' : Str → AV} {k : Str} {v : AV} (h : k ∉ keys) (hf : ∀ k' ∈ keys, f' k' = f k') (hv : f' k = v) : aput (keys.map fun k => (k, f k)) k v = (keys ++ [k]).map fun k => (k, f' k) := by
  have : aput (keys.map fun k => (k, f k)) k v = putk (keys.map fun k => (k, f k)) k v := rfl
  rw [this, putk_new (by simpa using h), List.map_append]
  congr 1
  · exact List.map_congr_left fun k' hk' => by rw [hf k' hk']
  · simp [hv]
theorem get_info_ok (gk : GOk G) (hK : G.K = hd.heap_1 P) {n : Nat} {D hp : Hp} {S : Sor} {k : Str} (h : Holds D hp S) (hl : S.keys.length ≤ 500) :
    FnC prog w G (n + 3) 101 [.ref S.x, .str k] hp fun v hp' => ∃ S' : Sor, A4 (Holds D hp' S') (v = .ref (S'.a k)) (S' = { S with keys := ins S.keys k, a := S'.a, dn := S'.dn, sl := S'.sl }) (∀ A b, hp b = some A → b ≠ S.N → hp' b = some A) := by
  obtain ⟨ep, hN⟩ := h.hN
  refine fn_b gk ["self", "node", "result"] 2 (by exact lkK hK rfl) (by exact cdK hK rfl) fun A env own fr B rm hcd => ?_
  refine Exs.hide fun κ hκ => ?_
  refine exs_cons (ex_if (tr_none (ev_walrus B 2 (ev_dget gk (ev_attr gk (ev_n B 0 rfl ⟨S.x, 158, S.dx, sAttrs S, .ref S.N, rfl, h.hx, h.hdx, by exact p2K hK rfl, rfl, S.N, _, ep, rfl, hN, ev_n B 1 rfl ⟨k, rfl, hN, ev_none ⟨rfl, ?_⟩⟩⟩))))))
  rw [aget_keys]
  by_cases hk : k ∈ S.keys
  · rw [if_pos hk, if_neg (by exact Bool.false_ne_true)]
    refine exs_nil (exs_cons (ex_return (ev_n B 2 rfl ?_)))
    refine hκ _ _ ⟨S, h, rfl, ?_, fun A b e _ => e⟩
    have : ins S.keys k = S.keys := by unfold ins; rw [if_pos hk]
    rw [this]
  · rw [if_neg hk, if_pos (by rfl)]
    refine exs_cons (set_dn B 2 (ev_make gk B rm (fun dx => .node 61 dx []) (fun dx => ⟨#[], rfl, rfl⟩) (fI := 57) (by exact nsK hK rfl) (by exact p2K hK rfl) (es_c (ev_n B 1 rfl (es_nil fun a dn ha hdn hne => ?_)))))
    have ha : hp a = none := ha
    have hdn : hp dn = none := hdn
    let hp1 : Hp := hset (hset hp dn (.attrs [])) a (.node 61 dn [])
    have ha1 : hset hp dn (.attrs []) a = none := by rw [hset_other _ _ hne]; exact ha
    have le01 : Le hp hp1 := (Le.new hdn).trans (Le.new ha1)
    refine FnC.mono (node_init_ok gk hK (hset_self _ _ _) ((hset_other _ _ (Ne.symm hne)).trans (hset_self _ _ _))) fun v hp2 hy50 => ?_
    obtain ⟨e1, sl, hsl, hsa, e2⟩ := hy50
    refine ⟨e1, ?_⟩
    have hsl1 : hp1 sl = none := hsl
    have hs0 : hp sl = none := le01.none hsl1
    have le02 : Le hp hp2 := by
      rw [e2]
      exact (le01.trans (Le.new hsl1)).put ha
    have g1 : hp2 a = some (.node 61 dn [some (.str k), some (.int 0), some (.ref sl)]) := by rw [e2]; exact hset_self _ _ _
    have g2 : hp2 sl = some (.list []) := by rw [e2, hset_other _ _ hsa]; exact hset_self _ _ _
    have hdnsl : dn ≠ sl := fun z => by
      have : hp1 dn = some (.attrs []) := (hset_other _ _ (Ne.symm hne)).trans (hset_self _ _ _)
      rw [z, hsl1] at this; cases this
    have g3 : hp2 dn = some (.attrs []) := by
      rw [e2, hset_other _ _ (Ne.symm hne), hset_other _ _ hdnsl]
      exact (hset_other _ _ (Ne.symm hne)).trans (hset_self _ _ _)
    refine ev_attr gk (ev_n B 0 rfl ⟨S.x, 158, S.dx, sAttrs S, .ref S.N, rfl, le02 _ _ h.hx, le02 _ _ h.hdx, by exact p2K hK rfl, rfl, ?_⟩)
    refine ev_n B 1 rfl ⟨S.N, _, ep, k, rfl, rfl, le02 _ _ hN, by simp; lia, fun ep' => ?_⟩
    refine exs_nil (exs_cons (ex_return (ev_n B 2 rfl ?_)))
    have e3 : ins S.keys k = S.keys ++ [k] := by unfold ins; rw [if_neg hk]
    let S' : Sor := { S with keys := S.keys ++ [k], a := fun k' => if k' = k then a else S.a k', dn := fun k' => if k' = k then dn else S.dn k', sl := fun k' => if k' = k then sl else S.sl k' }
    have hput : aput (S.keys.map fun k => (k, AV.ref (S.a k))) k (.ref a) = S'.keys.map fun k => (k, AV.ref (S'.a k)) := aput_keys hk (fun k' hk' => by
      have : k' ≠ k := fun z => hk (z ▸ hk')
      simp only [S', if_neg this]) (by simp only [S', if_true])
    rw [hput]
    let hp3 : Hp := hset hp2 S.N (.dict (S'.keys.map fun k => (k, AV.ref (S'.a k))) ep')
    have o : ∀ b A, hp2 b = some A → (∀ es ep, A ≠ .dict es ep) → hp3 b = some A := fun b A e hA => (hset_other _ _ fun z => by
      rw [z, le02 _ _ hN] at e; cases e; exact hA _ _ rfl).trans e
    have kk : ∀ k', k' ∈ S'.keys → k' = k ∨ (k' ≠ k ∧ k' ∈ S.keys) := fun k' hk' => by
      by_cases z : k' = k
      · exact .inl z
      · rcases List.mem_append.mp hk' with y | y
        · exact .inr ⟨z, y⟩
        · exact absurd (List.mem_singleton.mp y) z
    refine hκ _ _ ⟨S', ⟨(h.le.trans le02).put h.nx.3, o _ _ (le02 _ _ h.hx) (by rintro _ _ ⟨⟩), o _ _ (le02 _ _ h.hdx) (by rintro _ _ ⟨⟩), ⟨ep', hset_self _ _ _⟩, fun k' hk' => ?_, ?_, fun k1 hk1 k2 hk2 e => ?_, fun r l e => ?_, h.nx, fun k' hk' => ?_, fun k' hk' => ?_⟩, ?_, ?_, fun A b e hb => (hset_other _ _ hb).trans (le02 _ _ e)⟩
    · rcases kk k' hk' with z | ⟨z, y⟩
      · subst z
        have d0 := h.dflt k' hk
        refine ⟨o _ _ ?_ (by rintro _ _ ⟨⟩), o _ _ ?_ (by rintro _ _ ⟨⟩), o _ _ ?_ (by rintro _ _ ⟨⟩)⟩
        · simp only [S', if_true]; rw [d0.1]; exact g1
        · simp only [S', if_true]; exact g3
        · simp only [S', if_true]; rw [d0.2]; exact g2
      · obtain ⟨q1, q2, q3⟩ := h.hn k' y
        simp only [S', if_neg z]
        exact ⟨o _ _ (le02 _ _ q1) (by rintro _ _ ⟨⟩), o _ _ (le02 _ _ q2) (by rintro _ _ ⟨⟩), o _ _ (le02 _ _ q3) (by rintro _ _ ⟨⟩)⟩
    · show (S.keys ++ [k]).Nodup
      rw [List.nodup_append]
      exact ⟨h.nd, by simp, fun x hx y hy => by rw [List.mem_singleton.mp hy]; exact fun z => hk (z ▸ hx)⟩
    · rcases kk k1 hk1 with z1 | ⟨z1, y1⟩ <;> rcases kk k2 hk2 with z2 | ⟨z2, y2⟩
      · rw [z1, z2]
      · simp only [S', if_pos z1, if_neg z2] at e
        have := (h.hn k2 y2).3; rw [← e, hs0] at this; cases this
      · simp only [S', if_neg z1, if_pos z2] at e
        have := (h.hn k1 y1).3; rw [e, hs0] at this; cases this
      · simp only [S', if_neg z1, if_neg z2] at e
        exact h.inj k1 y1 k2 y2 e
    · obtain ⟨q1, q2, q3⟩ := h.rd r l e
      refine ⟨o _ _ (le02 _ _ q1) (by rintro _ _ ⟨⟩), q2, fun k' hk' => ?_⟩
      rcases kk k' hk' with z | ⟨z, y⟩
      · simp only [S', if_pos z]; intro e'; rw [← e', hs0] at q1; cases q1
      · simp only [S', if_neg z]; exact q3 k' y
    · rcases kk k' hk' with z | ⟨z, y⟩
      · simp only [S', if_pos z]; exact ⟨h.le.none ha, h.le.none hs0⟩
      · simp only [S', if_neg z]; exact h.nn k' y
    · exact h.dflt k' fun y => hk' (List.mem_append_left _ y)
    · simp only [S', if_true]
    · rw [e3]
end
end Mine
end
section
open PySem PySem.W PySem.Calls PyProof.Rows
set_option Elab.async false
set_option linter.unusedVariables false
set_option maxRecDepth 100000
set_option maxHeartbeats 2000000
namespace Mine
variable {prog : Program} {w : World}
theorem len_ins {keys : List Str} {k : Str} : (ins keys k).length ≤ keys.length + 1 := by
  unfold ins; split <;> simp
theorem len_fold : ∀ (l : List Str) (keys : List Str), (l.foldl ins keys).length ≤ keys.length + l.length := by
  intro l
  induction l with
  | nil =>
    intro _
    simp
  | cons k r ih =>
    intro keys
    have := ih (ins keys k)
    have := @len_ins keys k
    simp only [List.foldl_cons, List.length_cons]; lia
theorem mem_fold : ∀ (l : List Str) (keys : List Str) (x : Str), x ∈ l.foldl ins keys ↔ x ∈ keys ∨ x ∈ l := by
  intro l
  induction l with
  | nil =>
    intro _ x
    simp
  | cons k r ih =>
    intro keys x
    rw [List.foldl_cons, ih, mem_ins, List.mem_cons]
    constructor
    · rintro ((h | h) | h)
      · exact .inl h
      · exact .inr (.inl h)
      · exact .inr (.inr h)
    · rintro (h | h | h)
      · exact .inl (.inl h)
      · exact .inl (.inr h)
      · exact .inr h
section
variable {G : Gl} {P : Params}
theorem add_ok (gk : GOk G) (hK : G.K = hd.heap_1 P) {n : Nat} {D hp : Hp} {S : Sor} {node : Str} {preds : List Str} (h : Holds D hp S) (hrd : S.rd = none) (hnd : preds.Nodup) (hl : S.keys.length + preds.length ≤ 400) (hsu : ∀ k, (S.succ k).length ≤ 400) :
    FnC prog w G (n + 4) 108 (.ref S.x :: .str node :: preds.map .str) hp fun v hp' => v = .none ∧ ∃ S' : Sor, Holds D hp' S' ∧ S' = { S with keys := preds.foldl ins (ins S.keys node), a := S'.a, dn := S'.dn, sl := S'.sl, np := fun k => if k = node then S.np k + preds.length else S.np k, succ := fun k => if k ∈ preds then S.succ k ++ [node] else S.succ k } := by
  refine fn_bg gk ["self", "node", "predecessors", "nodeinfo", "pred", "pred_info"] 3 (by exact lkK hK rfl) (by exact cdK hK rfl) (bind_var2 (x := "self") (y := "node") (z := "predecessors") (fun va vb vs => by cases vs <;> rfl) rfl (by simp; exact Nat.le_trans (Nat.le_add_left _ _) (Nat.le_trans ‹_› (by decide)))) fun xs hp0 hz52 A env own fr B rm hcd => ?_
  refine Exs.hide fun κ hκ => ?_
  obtain ⟨t, ht, e1, e2⟩ := hz52
  subst e1 e2
  have h0 : Holds D (hset hp t (.tup (preds.map .str))) S := h.mono (Le.new ht)
  have ht0 : hset hp t (.tup (preds.map .str)) t = some (.tup (preds.map .str)) := hset_self _ _ _
  generalize hset hp t (.tup (preds.map .str)) = hp0 at h0 ht0
  have hr0 : eget (sAttrs S) "_ready_nodes" = some .none := by
    have : eget (sAttrs S) "_ready_nodes" = some (rdv S.rd) := rfl
    rw [this, hrd]; rfl
  refine exs_cons (ex_if (tr_some (ev_attr gk (ev_n B 0 rfl ⟨S.x, 158, S.dx, sAttrs S, .none, rfl, h0.hx, h0.hdx, by exact p2K hK rfl, hr0, ev_none ⟨rfl, ?_⟩⟩))))
  rw [if_neg (by decide)]
  refine exs_nil ?_
  refine exs_cons (set_n B 3 (ev_meth gk B rm (f := 101) (by exact fbK hK rfl) (ev_n B 0 rfl ⟨S.x, 158, S.dx, sAttrs S, rfl, h0.hx, h0.hdx, by exact p3K hK rfl, rfl, es_c (ev_n B 1 rfl (es_nil (FnC.mono (get_info_ok gk hK h0 (Nat.le_trans (Nat.le_add_right _ _) (Nat.le_trans ‹_› (by decide)))) fun v1 hp1 hz53 => ?_)))⟩)))
  obtain ⟨S1, h1, ev1, eS1, hk1⟩ := hz53
  subst ev1
  have e1x : S1.x = S.x := by rw [eS1]
  have e1N : S1.N = S.N := by rw [eS1]
  have e1k : S1.keys = ins S.keys node := by rw [eS1]
  have e1np : S1.np = S.np := by rw [eS1]
  have e1su : S1.succ = S.succ := by rw [eS1]
  have hnode : node ∈ S1.keys := by rw [e1k]; exact mem_ins.mpr (.inr rfl)
  have ht1 : hp1 t = some (.tup (preds.map .str)) := by
    refine hk1 _ _ ht0 fun z => ?_
    obtain ⟨ep, hN⟩ := h0.hN
    rw [← z, ht0] at hN; cases hN
  obtain ⟨n1, n2, n3⟩ := h1.hn node hnode
  refine exs_cons (aug_slot gk (.inl rfl) (ev_n B 3 rfl ⟨S1.a node, 61, S1.dn node, 63, 1, _, [], S1.np node, rfl, n1, n2, by exact p4K hK rfl, by exact p4K hK rfl, by decide, rfl, ev_bi gk B (by exact nsK hK rfl) rfl (es_c (ev_n B 2 rfl (es_nil fun vs hvs => ?_)))⟩))
  obtain ⟨v1, rfl, hv1⟩ := hvs.one
  refine op_len_tup hv1 ht1 (by simp; exact Nat.le_trans (Nat.le_add_left _ _) (Nat.le_trans ‹_› (by decide))) ⟨_, rfl, n1, n2, ?_⟩
  have h2 := h1.setNp hnode (S1.np node + preds.length)
  have hlen : (preds.map AV.str).length = preds.length := by simp
  rw [hlen]
  have ht2 : hset hp1 (S1.a node) (.node 61 (S1.dn node) [some (.str node), some (.int (S1.np node + preds.length)), some (.ref (S1.sl node))]) t = some (.tup (preds.map .str)) := (hset_other _ _ fun z => by rw [← z, ht1] at n1; cases n1).trans ht1
  refine exs_cons (for_n B 4 (src_tup (ev_n B 2 rfl ⟨t, _, rfl, ht2, trivial, ?_⟩)))
  refine for_inv (fun j st => A5 (st.loc 0 = some (.ref S.x)) (st.loc 1 = some (.str node)) (st.loc 2 = some (.ref t)) (st.hp t = some (.tup (preds.map .str))) (∃ S' : Sor, Holds D st.hp S' ∧ S' = { S with keys := (preds.take j).foldl ins (ins S.keys node), a := S'.a, dn := S'.dn, sl := S'.sl, np := fun k => if k = node then S.np k + preds.length else S.np k, succ := fun k => if k ∈ preds.take j then S.succ k ++ [node] else S.succ k })) ⟨rfl, rfl, rfl, ht2, _, h2, ?_⟩ ?_ ?_
  · simp only [List.take_zero, List.foldl_nil, List.not_mem_nil, if_false]
    rw [eS1]
    congr 1
    funext k
    by_cases z : k = node
    · subst z; simp
    · simp [z]
  · intro j y rr2 hy rr4
    refine Exs.hide fun κ hκ => ?_
    obtain ⟨loc, hp3⟩ := rr2
    obtain ⟨l0, l1, l2, ht3, S3, h3, eS3⟩ := rr4
    change hp3 t = _ at ht3; change Holds D hp3 S3 at h3
    simp only [one_l, one_t, one_r, one_v, one_k, List.getElem?_map, Option.map_eq_some_iff] at hy
    obtain ⟨pred, hpred, rfl⟩ := hy
    have e3x : S3.x = S.x := by rw [eS3]
    have e3k : S3.keys = (preds.take j).foldl ins (ins S.keys node) := by rw [eS3]
    have hl3 : S3.keys.length ≤ 500 := by
      rw [e3k]
      have a1 := len_fold (preds.take j) (ins S.keys node)
      have a2 := @len_ins S.keys node
      have a3 : (preds.take j).length ≤ preds.length := by simp; exact Nat.min_le_right _ _
      lia
    have hx3 := h3.hx
    rw [e3x] at hx3
    refine exs_cons (set_n B 5 (ev_meth gk B rm (f := 101) (by exact fbK hK rfl) (ev_n B 0 l0 ⟨S.x, 158, S3.dx, sAttrs S3, rfl, hx3, h3.hdx, by exact p3K hK rfl, rfl, es_c (ev_n B 4 rfl (es_nil ?_))⟩)))
    have gi := @get_info_ok prog w G P gk hK n D hp3 S3 pred h3 hl3
    rw [e3x] at gi
    refine FnC.mono gi fun v4 hp4 hq225 => ?_
    obtain ⟨S4, h4, ev4, eS4, hk4⟩ := hq225
    subst ev4
    have hmem : pred ∈ S4.keys := by rw [eS4]; exact mem_ins.mpr (.inr rfl)
    have ht4 : hp4 t = some (.tup (preds.map .str)) := by
      refine hk4 _ _ ht3 fun z => ?_
      obtain ⟨ep, hN⟩ := h3.hN
      rw [← z, ht3] at hN; cases hN
    obtain ⟨m1, m2, m3⟩ := h4.hn pred hmem
    have hnp : pred ∉ preds.take j := by
      intro hm
      obtain ⟨i', hi'⟩ := List.getElem?_of_mem hm
      rw [List.getElem?_take] at hi'
      split at hi'
      · have := (List.getElem?_inj (List.getElem?_eq_some_iff.mp hi').1 hnd).mp (hi'.trans hpred.symm)
        lia
      · cases hi'
    have hs4 : S4.succ = S3.succ := by rw [eS4]
    have hs3 : S3.succ = fun k => if k ∈ preds.take j then S.succ k ++ [node] else S.succ k := by rw [eS3]
    have hsp : S4.succ pred = S.succ pred := by rw [hs4, hs3]; simp only [if_neg hnp]
    have hsucl : ((S4.succ pred).map AV.str).length ≤ 1000 := by
      rw [hsp, List.length_map]; have := hsu pred; exact Nat.le_trans ‹_› (by decide)
    have h5 := h4.setSucc hmem (S4.succ pred ++ [node])
    have hmap : (S4.succ pred ++ [node]).map AV.str = (S4.succ pred).map AV.str ++ [.str node] := by simp
    rw [hmap] at h5
    have ht5 : hset hp4 (S4.sl pred) (.list ((S4.succ pred).map AV.str ++ [.str node])) t = some (.tup (preds.map .str)) := (hset_other _ _ fun z => by rw [← z, ht4] at m3; cases m3).trans ht4
    refine exs_cons (do_append B (ev_slot gk (ev_n B 5 rfl ⟨S4.a pred, 61, S4.dn pred, 64, 2, _, [], .ref (S4.sl pred), rfl, m1, m2, by exact p4K hK rfl, rfl, S4.sl pred, rfl, ⟨_, m3⟩, ev_n B 1 l1 ⟨_, m3, hsucl, exs_nil (hκ _ _ ⟨ht5, l0, l1, l2, ht5, _, h5, ?_⟩)⟩⟩)))
    rw [eS4, eS3, take_snoc hpred, List.foldl_append]
    congr 1
    funext k
    by_cases z : k = pred
    · subst z; simp [hnp]
    · simp [z]
  · intro rr0 rr1
    obtain ⟨loc, hp3⟩ := rr0
    obtain ⟨l0, l1, l2, ht3, S3, h3, eS3⟩ := rr1
    have hl' : (SrcK.tup t (preds.map AV.str)).one.length = preds.length := by simp [one_l, one_t, one_r, one_v, one_k]
    rw [hl', List.take_length] at eS3
    exact exs_nil (hκ _ _ ⟨rfl, S3, h3, eS3⟩)
end
end Mine
end
section
open PySem PySem.W PySem.Calls PyProof.Rows
set_option Elab.async false
set_option linter.unusedVariables false
set_option maxRecDepth 100000
set_option maxHeartbeats 2000000
namespace Mine
variable {prog : Program} {w : World}
abbrev Gr := List (Str × List (Str × Int))
structure GrOk (g : Gr) : Prop where
  nd : (g.map (·.1)).Nodup
  nm : ∀ p ∈ g, A3 (p.1 ∈ lawNames) ((p.2.map (·.1)).Nodup) (∀ q ∈ p.2, q.1 ∈ lawNames)
noncomputable def npOf (g : Gr) (k : Str) : Int := match look g k with | some es => es.length | none => 0
noncomputable def sucOf (g : Gr) (k : Str) : List Str := (g.filter fun p => (look p.2 k).isSome).map (·.1)
theorem GrOk.len {g : Gr} (h : GrOk g) : g.length ≤ 5 := by
  have := nodup_sub_len h.nd (l₂ := lawNames) fun x hx => by
    obtain ⟨p, hp, e⟩ := List.mem_map.mp hx
    rw [← e]; exact (h.nm p hp).1
  simpa [lawNames] using this
theorem GrOk.plen {g : Gr} (h : GrOk g) {p : Str × List (Str × Int)} (hp : p ∈ g) : p.2.length ≤ 5 := by
  obtain ⟨_, h2, h3⟩ := h.nm p hp
  have := nodup_sub_len h2 (l₂ := lawNames) fun x hx => by
    obtain ⟨q, hq, e⟩ := List.mem_map.mp hx
    rw [← e]; exact h3 q hq
  simpa [lawNames] using this
theorem mem_isSome {α : Type} {es : List (Str × α)} {k : Str} : k ∈ es.map (·.1) ↔ (look es k).isSome = true := by
  have := @look_none _ es k
  cases q : look es k with
  | none => rw [q] at this; simp only [true_iff] at this; simp [this]
  | some v => rw [q] at this; simp at this; simp; exact this
theorem all2_keys {α : Type} {R : Rel α} {hp : Hp} {ys : List (Str × AV)} {es : List (Str × α)} (h : All2 (fun p q => p.1 = q.1 ∧ R hp p.2 q.2) ys es) : ys.map (·.1) = es.map (·.1) := by
  induction h with
  | nil => rfl
  | cons r _ ih => simp [r.1, ih]
section
variable {G : Gl} {P : Params}
theorem bind_two (gk : GOk G) {fd : FuncData} {ns : List Str} {x y : Str} {d : Addr} {od : Obj} (hd : G.K.lookup d = some od) (hb : ∀ (A : Around) (E : Value → Shared → Prop) (s : Shared) (Q : List (Str × Value) → Shared → Prop) va vb, s.heap.get? d = some od → Q [(x, va), (y, vb)] s → wpAny (model prog w) A (bindArgs fd ⟨[va, vb], []⟩) Q E s)
    (hns : ns.take 2 = [x, y]) {a b : AV} {hp : Hp} :
    ∀ C A ex s E st vs, COk C → st.hp = hp → Real prog w G C ex st s → Absl vs [a, b] → wpAny (model prog w) A (bindArgs fd ⟨vs, []⟩) (fun bs s₁ => E3 fun vs' xs' hp' => A5 (bs = (ns.take 2).zip vs') (Absl vs' xs') (xs'.length = 2) (Real prog w G C ex ⟨st.loc, hp'⟩ s₁) (xs' = [a, b] ∧ hp' = hp)) E s := by
  intro C A ex s E st vs ok hhp R ha
  obtain ⟨va, vb, rfl, h1, h2⟩ := ha.two
  rw [hns]
  subst hhp
  exact hb A E s _ va vb (R.kin gk _ _ hd) ⟨[va, vb], [a, b], _, rfl, .cons h1 (.cons h2 .nil), rfl, R, rfl, rfl⟩
theorem sorter_init_ok (gk : GOk G) (hK : G.K = hd.heap_1 P) {n : Nat} {hp : Hp} {x dx : Addr} {vg : AV} {g : Gr} (hx : hp x = none) (hdx : hp dx = none) (hne : x ≠ dx) (hg : DctR (DctR IntR) hp vg g) (gok : GrOk g) :
    FnC prog w G (n + 5) 94 [.ref x, vg] (hset (hset hp dx (.attrs [])) x (.inst 158 dx)) fun v hp' => v = .none ∧ ∃ S : Sor, A8 (Holds hp hp' S) (S.x = x) (S.rd = none) (S.po = 0) (S.nf = 0) (S.np = npOf g) (S.succ = sucOf g) (∀ k, k ∈ S.keys ↔ k ∈ g.map (·.1) ∨ ∃ p ∈ g, k ∈ p.2.map (·.1)) := by
  obtain ⟨dg, yg, eg, e1, hg1, hg2, hg3⟩ := hg
  subst e1
  refine fn_bg gk ["self", "graph", "node", "predecessors"] 2 (by exact lkK hK rfl) (by exact cdK hK rfl) (bind_two gk (x := "self") (y := "graph") (d := 87) (by exact lkK hK rfl) (fun A E s Q va vb ho hq => by
    unfold bindArgs
    refine wpAny_bind (m := forIn _ _ _) ?_
    refine wpAny_pure ?_
    refine wpAny_bind (wpAny_seqItems ho rfl ?_)
    exact wpAny_pure hq) rfl) fun xs hp0 e12 A env own fr B rm hcd => ?_
  refine Exs.hide fun κ hκ => ?_
  obtain ⟨e1, e2⟩ := e12; subst e1 e2
  have hx1 : ∀ A : AObj, hset (hset hp dx (.attrs [])) x (.inst 158 dx) dx = some (.attrs []) := fun _ => (hset_other _ _ (Ne.symm hne)).trans (hset_self _ _ _)
  refine exs_cons (set_attr gk (ev_dict0 fun N hN => ?_))
  have hN0 : hset (hset hp dx (.attrs [])) x (.inst 158 dx) N = none := hN
  have hNx : N ≠ x := fun z => by rw [z, hset_self] at hN0; cases hN0
  have hNd : N ≠ dx := fun z => by rw [z, hset_other _ _ (Ne.symm hne), hset_self] at hN0; cases hN0
  have hN : hp N = none := by rwa [hset_other _ _ hNx, hset_other _ _ hNd] at hN0
  let H : List (Str × AV) → Hp := fun es => hset (hset (hset (hset hp dx (.attrs [])) x (.inst 158 dx)) N (.dict [] 0)) dx (.attrs es)
  have Hx : ∀ es, H es x = some (.inst 158 dx) := fun es => (hset_other _ _ hne).trans ((hset_other _ _ (Ne.symm hNx)).trans (hset_self _ _ _))
  have Hd : ∀ es, H es dx = some (.attrs es) := fun es => hset_self _ _ _
  have HH : ∀ es es', hset (H es) dx (.attrs es') = H es' := fun es es' => by
    funext b
    by_cases z : b = dx
    · subst z; rw [hset_self]; exact (hset_self _ _ _).symm
    · rw [hset_other _ _ z]; show hset _ dx _ b = hset _ dx _ b; rw [hset_other _ _ z, hset_other _ _ z]
  refine ev_n B 0 rfl ⟨x, 158, dx, [], rfl, (hset_other _ _ (Ne.symm hNx)).trans (hset_self _ _ _), (hset_other _ _ (Ne.symm hNd)).trans ((hset_other _ _ (Ne.symm hne)).trans (hset_self _ _ _)), by exact p2K hK rfl, by decide, ?_⟩
  change Exs prog w G _ _ ⟨_, H [("_node2info", .ref N)]⟩ _
  refine exs_cons (set_attr gk (ev_none (ev_n B 0 rfl ⟨x, 158, dx, _, rfl, Hx _, Hd _, by exact p2K hK rfl, (by show 1 ≤ 900; decide), ?_⟩)))
  show Exs prog w G _ _ ⟨_, hset (H _) dx (.attrs [("_node2info", .ref N), ("_ready_nodes", .none)])⟩ _
  rw [HH]
  refine exs_cons (set_attr gk (ev_int (ev_n B 0 rfl ⟨x, 158, dx, _, rfl, Hx _, Hd _, by exact p2K hK rfl, (by show 2 ≤ 900; decide), ?_⟩)))
  show Exs prog w G _ _ ⟨_, hset (H _) dx (.attrs [("_node2info", .ref N), ("_ready_nodes", .none), ("_npassedout", .int 0)])⟩ _
  rw [HH]
  refine exs_cons (set_attr gk (ev_int (ev_n B 0 rfl ⟨x, 158, dx, _, rfl, Hx _, Hd _, by exact p2K hK rfl, (by show 3 ≤ 900; decide), ?_⟩)))
  show Exs prog w G _ _ ⟨_, hset (H _) dx (.attrs [("_node2info", .ref N), ("_ready_nodes", .none), ("_npassedout", .int 0), ("_nfinished", .int 0)])⟩ _
  rw [HH]
  let S0 : Sor := ⟨x, dx, N, [], fun _ => 0, fun _ => 0, fun _ => 0, fun _ => 0, fun _ => [], none, 0, 0⟩
  have leH : ∀ es, Le hp (H es) := fun es => (((Le.new hdx).put hx).put hN).put hdx
  have hS0 : Holds hp (H (sAttrs S0)) S0 := ⟨leH _, Hx _, Hd _, ⟨0, (hset_other _ _ hNd).trans (hset_self _ _ _)⟩, fun k hk => (by cases hk), .nil, fun k hk => (by cases hk), fun r l e => (by cases e), ⟨hx, hdx, hN⟩, fun k hk => (by cases hk), fun k _ => ⟨rfl, rfl⟩⟩
  change Exs prog w G _ _ ⟨_, H (sAttrs S0)⟩ _
  generalize H (sAttrs S0) = hp1 at hS0
  refine exs_cons (ex_if (tr_some (ev_n B 1 rfl (ev_none ⟨rfl, ?_⟩))))
  rw [if_pos (by rfl)]
  refine exs_cons (for_nn B 2 3 (src_it gk (ev_n B 1 rfl ⟨dg, yg, eg, rfl, hS0.le _ _ hg1, trivial, ?_⟩)))
  refine for_inv (fun i st => st.loc 0 = some (.ref x) ∧ ∃ S : Sor, A8 (Holds hp st.hp S) (S.x = x) (S.rd = none) (S.po = 0) (S.nf = 0) (S.np = npOf (g.take i)) (S.succ = sucOf (g.take i)) (∀ k, k ∈ S.keys ↔ k ∈ (g.take i).map (·.1) ∨ ∃ p ∈ g.take i, k ∈ p.2.map (·.1))) ⟨rfl, S0, hS0, rfl, rfl, rfl, rfl, rfl, rfl, fun k => by simp [S0]⟩ ?_ ?_
  · intro i rr1 rr2 hxx rr4
    refine Exs.hide fun κ hκ => ?_
    obtain ⟨kx, vx⟩ := rr1
    obtain ⟨loc, hp2⟩ := rr2
    refine hide fun Pz hPz => ?_; (rcases rr4 with ⟨l0, S, hS, ex, er, ep, ef, enp, esu, hmem⟩) <;> (refine hPz ?_; clear hPz Pz)
    change Holds hp hp2 S at hS
    simp only [two_i, List.getElem?_map, Option.map_eq_some_iff] at hxx
    obtain ⟨q, hq, hq2⟩ := hxx
    obtain ⟨rfl, rfl⟩ := Prod.mk.inj hq2
    refine hide fun Pz hPz => ?_; (rcases hg2.get' hq with ⟨p, hp1', hrk, de, yes, ee, e3, he1, he2, he3⟩) <;> (refine hPz ?_; clear hPz Pz)
    have hpg : p ∈ g := List.mem_of_getElem? hp1'
    have hkeys : yes.map (·.1) = p.2.map (·.1) := all2_keys he2
    have hpl := gok.plen hpg
    have hSk : S.keys.length ≤ 5 := by
      have := nodup_sub_len hS.nd (l₂ := lawNames) fun k hk => by
        rcases (hmem k).mp hk with h | ⟨p', hp', h⟩
        · obtain ⟨p', hp', e⟩ := List.mem_map.mp h
          rw [← e]; exact (gok.nm p' (List.mem_of_mem_take hp')).1
        · obtain ⟨q', hq', e⟩ := List.mem_map.mp h
          rw [← e]; exact (gok.nm p' (List.mem_of_mem_take hp')).3 q' hq'
      simpa [lawNames] using this
    have hsu : ∀ k, (S.succ k).length ≤ 400 := fun k => by
      rw [esu]; unfold sucOf; rw [List.length_map]
      have h1 := List.length_filter_le (fun p : Str × List (Str × Int) => (look p.2 k).isSome) (g.take i)
      have h2 : (g.take i).length ≤ g.length := by simp; exact Nat.min_le_right _ _
      have := gok.len; lia
    have hx2 := hS.hx
    rw [ex] at hx2
    refine exs_cons (do_e B (ev_star2 gk B rm (f := 108) (ev_n B 0 l0 ⟨x, 158, S.dx, sAttrs S, rfl, hx2, hS.hdx, by exact p3K hK rfl, rfl, es_c (ev_n B 2 rfl (es_star gk B (ev_n B 3 rfl ⟨_, by rw [e3]; exact .dict (hS.le _ _ he1) (by rw [he2.length]; exact Nat.le_trans ‹_› (by decide)), ?_⟩)))⟩)))
    have hpk : (yes.map fun p => AV.str p.1) = (p.2.map (·.1)).map AV.str := by rw [← hkeys, List.map_map]; rfl
    rw [hpk, hrk]
    have ga := @add_ok prog w G P gk hK n hp hp2 S p.1 (p.2.map (·.1)) hS er (gok.nm p hpg).2 (by rw [List.length_map]; lia) hsu
    rw [ex] at ga
    refine FnC.mono ga fun v3 hp3 hy52 => ?_
    obtain ⟨_, S3, hS3, eS3⟩ := hy52
    refine exs_nil (hκ _ _ ⟨hS3.le _ _ hg1, l0, S3, hS3, by rw [eS3]; try exact ex, by rw [eS3]; try exact er, by rw [eS3]; try exact ep, by rw [eS3]; try exact ef, ?_, ?_, fun k => ?_⟩)
    · rw [eS3]
      funext k
      show (if k = p.1 then S.np k + _ else S.np k) = _
      rw [enp, take_snoc hp1']
      have hnk := take_nodup gok.nd hp1'
      unfold npOf
      rw [look_snoc hnk]
      by_cases z : k = p.1
      · subst z
        rw [if_pos rfl, if_pos rfl, look_none.mpr hnk]; simp
      · rw [if_neg z, if_neg z]
    · rw [eS3]
      funext k
      show (if k ∈ p.2.map (·.1) then S.succ k ++ [p.1] else S.succ k) = _
      rw [esu, take_snoc hp1']
      unfold sucOf
      rw [List.filter_append, List.map_append]
      by_cases z : k ∈ p.2.map (·.1)
      · rw [if_pos z]
        have := mem_isSome.mp z
        simp [List.filter, this]
      · rw [if_neg z]
        have : (look p.2 k).isSome = false := by
          cases q : (look p.2 k).isSome with
          | false => rfl
          | true => exact absurd (mem_isSome.mpr q) z
        simp [List.filter, this]
    · rw [show S3.keys = (p.2.map (·.1)).foldl ins (ins S.keys p.1) by rw [eS3], mem_fold, mem_ins, hmem, take_snoc hp1']
      simp only [List.map_append, List.mem_append, List.map_cons, List.map_nil, List.mem_singleton]
      constructor
      · rintro ((((h | ⟨p', h1, h2⟩) | h)) | h)
        · exact .inl (.inl h)
        · exact .inr ⟨p', .inl h1, h2⟩
        · exact .inl (.inr h)
        · exact .inr ⟨p, .inr rfl, h⟩
      · rintro ((h | h) | ⟨p', (h1 | h1), h2⟩)
        · exact .inl (.inl (.inl h))
        · exact .inl (.inr h)
        · exact .inl (.inl (.inr ⟨p', h1, h2⟩))
        · subst h1; exact .inr h2
  · intro rr0 rr1
    obtain ⟨loc, hp2⟩ := rr0
    refine hide fun Pz hPz => ?_; (rcases rr1 with ⟨l0, S, hS, ex, er, ep, ef, enp, esu, hmem⟩) <;> (refine hPz ?_; clear hPz Pz)
    have hl' : (SrcK.items dg yg eg).two.length = g.length := by simp [two_i, hg2.length]
    rw [hl', List.take_length] at enp esu hmem
    exact exs_nil (exs_nil (hκ _ _ ⟨rfl, S, hS, ex, er, ep, ef, enp, esu, hmem⟩))
end
end Mine
end
section
open PySem PySem.W PySem.Calls PyProof.Rows
set_option Elab.async false
set_option linter.unusedVariables false
set_option maxRecDepth 100000
namespace Mine
section
variable {succ : Str → List Str}
abbrev Stk := List (Str × Nat)
structure PI (succ : Str → List Str) (stk : Stk) (fin : List Str) (cur : Option Str) : Prop where
  nd : (stk.map (·.1) ++ fin).Nodup
  fins : ∀ (i : Nat) v, fin[i]? = some v → ∀ u ∈ succ v, u ∈ fin.take i
  le : ∀ x ∈ stk, x.2 ≤ (succ x.1).length
  drawn : ∀ (i : Nat) a p, stk[i]? = some (a, p) → ∀ (j : Nat) u, j < p → (succ a)[j]? = some u → u ∈ fin ∨ (j + 1 = p ∧ ((∃ q, stk[i + 1]? = some (u, q)) ∨ (stk[i + 1]? = none ∧ cur = some u)))
  edge : ∀ (i : Nat) a p b q, stk[i]? = some (a, p) → stk[i + 1]? = some (b, q) → b ∈ succ a
  last : ∀ a p u, stk.getLast? = some (a, p) → cur = some u → u ∈ succ a
theorem PI.start {fin : List Str} {node : Str} (h : PI succ [] fin none) : PI succ [] fin (some node) :=
  ⟨h.nd, h.fins, fun x hx => (by cases hx), fun i a p e => (by simp at e), fun i a p b q e => (by simp at e), fun a p u e => (by simp at e)⟩
theorem PI.push {stk : Stk} {fin : List Str} {node : Str} (h : PI succ stk fin (some node)) (h1 : node ∉ stk.map (·.1)) (h2 : node ∉ fin) : PI succ (stk ++ [(node, 0)]) fin none := by
  refine ⟨?_, h.fins, fun x hx => ?_, fun i a p e j u hj hu => ?_, fun i a p b q e1 e2 => ?_, fun a p u _ e => by cases e⟩
  · have hn := h.nd
    rw [List.map_append, List.append_assoc]
    rw [List.nodup_append] at hn ⊢
    refine ⟨hn.1, List.nodup_cons.mpr ⟨h2, hn.2.1⟩, fun x hx y hy => ?_⟩
    rcases List.mem_cons.mp hy with rfl | hy
    · exact fun z => h1 (z ▸ hx)
    · exact hn.2.2 x hx y hy
  · rcases List.mem_append.mp hx with hx | hx
    · exact h.le x hx
    · rw [List.mem_singleton.mp hx]; exact Nat.zero_le _
  · rcases Nat.lt_or_ge i stk.length with hi | hi
    · rw [List.getElem?_append_left hi] at e
      rcases h.drawn i a p e j u hj hu with z | ⟨z, ⟨q, z2⟩ | ⟨z2, z3⟩⟩
      · exact .inl z
      · exact .inr ⟨z, .inl ⟨q, by rw [List.getElem?_append_left (List.getElem?_eq_some_iff.mp z2).1]; exact z2⟩⟩
      · have hl : i + 1 = stk.length := by have := List.getElem?_eq_none_iff.mp z2; exact Nat.le_antisymm ‹_› ‹_›
        refine .inr ⟨z, .inl ⟨0, ?_⟩⟩
        rw [hl, List.getElem?_append_right (Nat.le_refl _), Nat.sub_self, Option.some.inj z3]; rfl
    · rw [List.getElem?_append_right hi] at e
      have : i - stk.length = 0 := by
        have := (List.getElem?_eq_some_iff.mp e).1; simp at this; lia
      rw [this] at e; cases e; lia
  · have hi2 : i + 1 < (stk ++ [(node, 0)]).length := (List.getElem?_eq_some_iff.mp e2).1
    simp at hi2
    rw [List.getElem?_append_left (Nat.succ_le_of_lt ‹_›)] at e1
    rcases Nat.lt_or_ge (i + 1) stk.length with hi | hi
    · rw [List.getElem?_append_left hi] at e2; exact h.edge i a p b q e1 e2
    · have hl : i + 1 = stk.length := Nat.le_antisymm ‹_› ‹_›
      rw [hl, List.getElem?_append_right (Nat.le_refl _), Nat.sub_self] at e2
      cases e2
      refine h.last a p node ?_ rfl
      rw [List.getLast?_eq_getElem?, ← hl]; exact e1
theorem PI.seen {stk : Stk} {fin : List Str} {node : Str} (h : PI succ stk fin (some node)) (h2 : node ∈ fin) : PI succ stk fin none := by
  refine ⟨h.nd, h.fins, h.le, fun i a p e j u hj hu => ?_, h.edge, fun a p u _ e => by cases e⟩
  rcases h.drawn i a p e j u hj hu with z | ⟨z, z2 | ⟨_, z3⟩⟩
  · exact .inl z
  · exact .inr ⟨z, .inl z2⟩
  · rw [← Option.some.inj z3]; exact .inl h2
theorem PI.draw {stk : Stk} {fin : List Str} {a : Str} {p : Nat} {u : Str} (h : PI succ (stk ++ [(a, p)]) fin none) (hu : (succ a)[p]? = some u) : PI succ (stk ++ [(a, p + 1)]) fin (some u) := by
  have hmap : (stk ++ [(a, p + 1)]).map (·.1) = (stk ++ [(a, p)]).map (·.1) := by simp
  have hp : p < (succ a).length := (List.getElem?_eq_some_iff.mp hu).1
  refine ⟨by rw [hmap]; exact h.nd, h.fins, fun x hx => ?_, fun i b r e j v hj hv => ?_, fun i b r c q e1 e2 => ?_, fun b r v e1 e2 => ?_⟩
  · rcases List.mem_append.mp hx with hx | hx
    · exact h.le x (List.mem_append_left _ hx)
    · rw [List.mem_singleton.mp hx]; exact hp
  · rcases Nat.lt_or_ge i stk.length with hi | hi
    · rw [List.getElem?_append_left hi] at e
      rcases h.drawn i b r (by rw [List.getElem?_append_left hi]; exact e) j v hj hv with z | ⟨z, ⟨q, z2⟩ | ⟨z2, z3⟩⟩
      · exact .inl z
      · rcases Nat.lt_or_ge (i + 1) stk.length with hi2 | hi2
        · exact .inr ⟨z, .inl ⟨q, by rw [List.getElem?_append_left hi2]; rwa [List.getElem?_append_left hi2] at z2⟩⟩
        · have hl : i + 1 = stk.length := Nat.le_antisymm ‹_› ‹_›
          rw [hl, List.getElem?_append_right (Nat.le_refl _), Nat.sub_self] at z2
          cases z2
          exact .inr ⟨z, .inl ⟨p + 1, by rw [hl, List.getElem?_append_right (Nat.le_refl _), Nat.sub_self]; rfl⟩⟩
      · cases z3
    · have hil : i = stk.length := by have := (List.getElem?_eq_some_iff.mp e).1; simp at this; lia
      subst hil
      rw [List.getElem?_append_right (Nat.le_refl _), Nat.sub_self] at e
      cases e
      by_cases hjp : j = p
      · subst hjp
        rw [hu] at hv; cases hv
        exact .inr ⟨rfl, .inr ⟨List.getElem?_eq_none_iff.mpr (by simp), rfl⟩⟩
      · rcases h.drawn stk.length a p (by rw [List.getElem?_append_right (Nat.le_refl _), Nat.sub_self]; rfl) j v (by lia) hv with z | ⟨z, ⟨q, z2⟩ | ⟨_, z3⟩⟩
        · exact .inl z
        · have := (List.getElem?_eq_some_iff.mp z2).1; simp at this
        · cases z3
  · have hi2 : i + 1 < (stk ++ [(a, p + 1)]).length := (List.getElem?_eq_some_iff.mp e2).1
    simp at hi2
    rcases Nat.lt_or_ge (i + 1) stk.length with hi | hi
    · rw [List.getElem?_append_left hi] at e2
      rw [List.getElem?_append_left (Nat.le_of_lt ‹_›)] at e1
      exact h.edge i b r c q (by rw [List.getElem?_append_left (Nat.le_of_lt ‹_›)]; exact e1) (by rw [List.getElem?_append_left hi]; exact e2)
    · have hl : i + 1 = stk.length := Nat.le_antisymm ‹_› ‹_›
      rw [List.getElem?_append_left (Nat.succ_le_of_lt ‹_›)] at e1
      rw [hl, List.getElem?_append_right (Nat.le_refl _), Nat.sub_self] at e2
      cases e2
      exact h.edge i b r a p (by rw [List.getElem?_append_left (Nat.succ_le_of_lt ‹_›)]; exact e1) (by rw [hl, List.getElem?_append_right (Nat.le_refl _), Nat.sub_self]; rfl)
  · cases e2
    rw [List.getLast?_append] at e1
    simp at e1
    obtain ⟨rfl, _⟩ := e1
    exact List.mem_of_getElem? hu
theorem PI.pop {stk : Stk} {fin : List Str} {a : Str} {p : Nat} (h : PI succ (stk ++ [(a, p)]) fin none) (hu : (succ a)[p]? = none) : PI succ stk (fin ++ [a]) none := by
  have hp : p = (succ a).length := by
    have h1 := List.getElem?_eq_none_iff.mp hu
    have h2 := h.le (a, p) (by simp)
    simp only at h2; exact Nat.le_antisymm ‹_› ‹_›
  refine ⟨?_, fun i v e u hv => ?_, fun x hx => h.le x (List.mem_append_left _ hx), fun i b r e j v hj hv => ?_, fun i b r c q e1 e2 => ?_, fun b r v _ e => by cases e⟩
  · have hn := h.nd
    rw [List.map_append, List.append_assoc] at hn
    have hperm : (stk.map (·.1) ++ ([(a, p)].map (·.1) ++ fin)).Perm (stk.map (·.1) ++ (fin ++ [a])) := by
      refine List.Perm.append_left _ ?_
      simpa using (List.perm_append_comm (l₁ := [a]) (l₂ := fin))
    exact hperm.nodup_iff.mp hn
  · rcases Nat.lt_or_ge i fin.length with hi | hi
    · rw [List.getElem?_append_left hi] at e
      have := h.fins i v e u hv
      rw [List.take_append_of_le_length (Nat.le_of_lt ‹_›)]; exact this
    · have hil : i = fin.length := by have := (List.getElem?_eq_some_iff.mp e).1; simp at this; lia
      subst hil
      rw [List.getElem?_append_right (Nat.le_refl _), Nat.sub_self] at e
      cases e
      rw [List.take_append_of_le_length (Nat.le_refl _), List.take_length]
      obtain ⟨j, hj⟩ := List.getElem?_of_mem hv
      have hjl := (List.getElem?_eq_some_iff.mp hj).1
      rcases h.drawn stk.length a p (by rw [List.getElem?_append_right (Nat.le_refl _), Nat.sub_self]; rfl) j u (Nat.lt_of_lt_of_eq ‹_› (Eq.symm ‹_›)) hj with z | ⟨z, ⟨q, z2⟩ | ⟨_, z3⟩⟩
      · exact z
      · have := (List.getElem?_eq_some_iff.mp z2).1; simp at this
      · cases z3
  · have hi : i < stk.length := (List.getElem?_eq_some_iff.mp e).1
    rcases h.drawn i b r (by rw [List.getElem?_append_left hi]; exact e) j v hj hv with z | ⟨z, ⟨q, z2⟩ | ⟨_, z3⟩⟩
    · exact .inl (List.mem_append_left _ z)
    · rcases Nat.lt_or_ge (i + 1) stk.length with hi2 | hi2
      · exact .inr ⟨z, .inl ⟨q, by rwa [List.getElem?_append_left hi2] at z2⟩⟩
      · have hl : i + 1 = stk.length := Nat.le_antisymm ‹_› ‹_›
        rw [hl, List.getElem?_append_right (Nat.le_refl _), Nat.sub_self] at z2
        cases z2
        exact .inl (by simp)
    · cases z3
  · have hi : i + 1 < stk.length := (List.getElem?_eq_some_iff.mp e2).1
    exact h.edge i b r c q (by rw [List.getElem?_append_left (Nat.le_of_lt ‹_›)]; exact e1) (by rw [List.getElem?_append_left hi]; exact e2)
noncomputable def cost (succ : Str → List Str) (stk : Stk) (fin : List Str) : Nat := (stk.map fun x => x.2 + 1).sum + (fin.map fun v => (succ v).length + 1).sum
theorem sum_sub {f : Str → Nat} : ∀ {l₁ l₂ : List Str}, l₁.Nodup → (∀ x ∈ l₁, x ∈ l₂) → (l₁.map f).sum ≤ (l₂.map f).sum := by
  intro l₁
  induction l₁ with
  | nil =>
    intro _ _ _
    exact Nat.zero_le _
  | cons a l ih =>
    intro l₂ h hs
    rw [List.nodup_cons] at h
    have ha := hs a (.head _)
    have ih := ih (l₂ := l₂.erase a) h.2 fun x hx => (List.mem_erase_of_ne (fun e : x = a => h.1 (by rw [← e]; exact hx))).mpr (hs x (.tail _ hx))
    have hp := ((List.perm_cons_erase ha).map f).sum_nat
    simp only [List.map_cons, List.sum_cons] at hp ⊢
    lia
theorem PI.cost_le {stk : Stk} {fin keys : List Str} {cur : Option Str} (h : PI succ stk fin cur) (hk : ∀ x, x ∈ stk.map (·.1) ∨ x ∈ fin → x ∈ keys) : cost succ stk fin ≤ (keys.map fun v => (succ v).length + 1).sum := by
  have h1 : (stk.map fun x => x.2 + 1).sum ≤ ((stk.map (·.1)).map fun v => (succ v).length + 1).sum := by
    have hle := h.le
    clear h hk
    induction stk with
    | nil => simp
    | cons x r ih =>
      have := hle x (.head _)
      have := ih fun y hy => hle y (.tail _ hy)
      simp only [List.map_cons, List.sum_cons]; lia
  have h2 := sum_sub (f := fun v => (succ v).length + 1) (l₂ := keys) h.nd fun x hx => hk x (List.mem_append.mp hx)
  rw [List.map_append, List.sum_append] at h2
  unfold cost; lia
noncomputable def Acyc (succ : Str → List Str) (keys : List Str) : Prop := ∃ fin : List Str, A3 fin.Nodup (∀ k ∈ keys, k ∈ fin) (∀ (i : Nat) v, fin[i]? = some v → ∀ u ∈ succ v, u ∈ fin.take i)
structure Ring (succ : Str → List Str) (keys : List Str) (nodes : List Str) : Prop where
  ends : E2 fun x mid => nodes = x :: mid ++ [x] ∧ (x :: mid).Nodup
  step : ∀ (i : Nat) a b, nodes[i]? = some a → nodes[i + 1]? = some b → b ∈ succ a
  mem : ∀ a ∈ nodes, a ∈ keys
  len : nodes.length ≤ keys.length + 1
theorem PI.ring {stk : Stk} {fin keys : List Str} {node : Str} (h : PI succ stk fin (some node)) (hk : ∀ x ∈ stk.map (·.1), x ∈ keys) {i : Nat} (hi : (stk.map (·.1))[i]? = some node) : Ring succ keys ((stk.map (·.1)).drop i ++ [node]) := by
  have hn := (List.nodup_append.mp h.nd).1
  have hil : i < (stk.map (·.1)).length := (List.getElem?_eq_some_iff.mp hi).1
  have hdrop : (stk.map (·.1)).drop i = node :: (stk.map (·.1)).drop (i + 1) := by
    rw [List.drop_eq_getElem_cons hil]
    congr 1
    rw [List.getElem?_eq_getElem hil] at hi; exact Option.some.inj hi
  refine ⟨⟨node, (stk.map (·.1)).drop (i + 1), by rw [hdrop], by rw [← hdrop]; exact hn.sublist (List.drop_sublist _ _)⟩, fun j a b e1 e2 => ?_, fun a ha => ?_, ?_⟩
  · have hj2 : j + 1 < ((stk.map (·.1)).drop i ++ [node]).length := (List.getElem?_eq_some_iff.mp e2).1
    simp at hj2
    rw [List.getElem?_append_left (by simp; exact Nat.succ_le_of_lt ‹_›), List.getElem?_drop, List.getElem?_map, Option.map_eq_some_iff] at e1
    obtain ⟨⟨a', p⟩, ea, rfl⟩ := e1
    rcases Nat.lt_or_ge (j + 1) ((stk.map (·.1)).drop i).length with hl | hl
    · rw [List.getElem?_append_left hl, List.getElem?_drop, List.getElem?_map, Option.map_eq_some_iff] at e2
      obtain ⟨⟨b', q⟩, eb, rfl⟩ := e2
      exact h.edge (i + j) a' p b' q ea (by rw [Nat.add_assoc]; exact eb)
    · simp at hl
      rw [List.getElem?_append_right (by simp; lia)] at e2
      have : j + 1 - ((stk.map (·.1)).drop i).length = 0 := by simp; lia
      rw [this] at e2
      cases e2
      refine h.last a' p node ?_ rfl
      rw [List.getLast?_eq_getElem?, show stk.length - 1 = i + j by simp at hil; lia]; exact ea
  · rcases List.mem_append.mp ha with z | z
    · exact hk a (List.mem_of_mem_drop z)
    · rw [List.mem_singleton.mp z]; exact hk node (List.mem_of_getElem? hi)
  · have := nodup_sub_len hn hk
    simp; simp at this; lia
end
end Mine
end
section
open PySem PySem.W PySem.Calls PyProof.Rows
set_option Elab.async false
set_option linter.unusedVariables false
set_option maxRecDepth 100000
set_option maxHeartbeats 2000000
namespace Mine
variable {prog : Program} {w : World}
theorem le_del {h h' : Hp} {a : Addr} (l : Le h h') (e : h a = none) : Le h (hdel h' a) := fun b A hb => by
  have hne : b ≠ a := fun z => by rw [z, e] at hb; cases hb
  rw [hdel_other _ hne]; exact l b A hb
noncomputable def enumS (l : List Str) : List (Str × AV) := l.zipIdx.map fun p => (p.1, .int p.2)
theorem enumS_snoc (l : List Str) (k : Str) : enumS (l ++ [k]) = enumS l ++ [(k, .int l.length)] := by
  unfold enumS; rw [List.zipIdx_append, List.map_append]; simp
theorem enumS_keys (l : List Str) : (enumS l).map (·.1) = l := by
  unfold enumS; rw [List.map_map]
  show l.zipIdx.map Prod.fst = l
  simp
theorem enumS_len (l : List Str) : (enumS l).length = l.length := by unfold enumS; simp
theorem enumS_get {l : List Str} (hn : l.Nodup) {i : Nat} {k : Str} (h : l[i]? = some k) : aget (enumS l) k = some (.int i) := by
  refine (look_mem (α := AV) (by rw [enumS_keys]; exact hn)).mp ?_
  unfold enumS
  refine List.mem_map.mpr ⟨(k, i), ?_, rfl⟩
  rw [List.mem_zipIdx_iff_getElem?]; exact h
theorem enumS_none {l : List Str} {k : Str} (h : k ∉ l) : aget (enumS l) k = none := look_none.mpr (by rw [enumS_keys]; exact h)
theorem enumS_put {l : List Str} {k : Str} (h : k ∉ l) : aput (enumS l) k (.int l.length) = enumS (l ++ [k]) := by
  rw [enumS_snoc]; exact putk_new (by rw [enumS_keys]; exact h)
theorem enumS_del {l : List Str} {k : Str} (h : k ∉ l) : adel (enumS (l ++ [k])) k = enumS l := by
  rw [enumS_snoc]; unfold adel
  rw [List.filter_append]
  have h1 : (enumS l).filter (fun p => decide (p.1 ≠ k)) = enumS l := List.filter_eq_self.mpr fun p hp => by
    have : p.1 ∈ l := by rw [← enumS_keys l]; exact List.mem_map_of_mem hp
    simp; intro z; exact h (z ▸ this)
  rw [h1]; simp
set_option genSizeOf false in
set_option genInjectivity false in
structure F4 where
  k : Str
  p : Nat
  bn : Addr
  li : Addr
noncomputable def stkOf (fs : List F4) : Stk := fs.map fun f => (f.k, f.p)
noncomputable def nmsOf (fs : List F4) : List Str := fs.map (·.k)
theorem stk_nms (fs : List F4) : (stkOf fs).map (·.1) = nmsOf fs := by unfold stkOf nmsOf; rw [List.map_map]; rfl
structure DH (sl : Str → Addr) (h0 hp : Hp) (a1 a2 a3 a4 : Addr) (fs : List F4) (seen : List Str) : Prop where
  le : Le h0 hp
  h1 : hp a1 = some (.list ((nmsOf fs).map .str))
  h2 : hp a2 = some (.list (fs.map fun f => .ref f.bn))
  h3 : hp a3 = some (.set seen)
  h4 : ∃ ep, hp a4 = some (.dict (enumS (nmsOf fs)) ep)
  hf : ∀ f ∈ fs, A3 (hp f.bn = some (.bnext f.li)) (hp f.li = some (.liter (sl f.k) f.p)) (h0 f.li = none)
  nd : (fs.map (·.li)).Nodup
  nw : A4 (h0 a1 = none) (h0 a2 = none) (h0 a3 = none) (h0 a4 = none)
  ne : a1 ≠ a2
section
variable {sl : Str → Addr} {h0 hp : Hp} {a1 a2 a3 a4 : Addr} {fs : List F4} {seen : List Str}
theorem DH.draw {f : F4} (h : DH sl h0 hp a1 a2 a3 a4 (fs ++ [f]) seen) : DH sl h0 (hset hp f.li (.liter (sl f.k) (f.p + 1))) a1 a2 a3 a4 (fs ++ [{ f with p := f.p + 1 }]) seen := by
  obtain ⟨f1, f2, f3⟩ := h.hf f (by simp)
  have o : ∀ b A, hp b = some A → (∀ x y, A ≠ .liter x y) → hset hp f.li (.liter (sl f.k) (f.p + 1)) b = some A := fun b A e hA => (hset_other _ _ fun z => by
    rw [z, f2] at e; cases e; exact hA _ _ rfl).trans e
  have e1 : nmsOf (fs ++ [{ f with p := f.p + 1 }]) = nmsOf (fs ++ [f]) := by simp [nmsOf]
  have e2 : (fs ++ [{ f with p := f.p + 1 }]).map (fun f : F4 => AV.ref f.bn) = (fs ++ [f]).map fun f : F4 => AV.ref f.bn := by simp
  have e3 : (fs ++ [{ f with p := f.p + 1 }]).map (fun f : F4 => f.li) = (fs ++ [f]).map (fun f : F4 => f.li) := by simp
  refine ⟨h.le.put f3, by rw [e1]; exact o _ _ h.h1 (by rintro _ _ ⟨⟩), by rw [e2]; exact o _ _ h.h2 (by rintro _ _ ⟨⟩), o _ _ h.h3 (by rintro _ _ ⟨⟩), by rw [e1]; exact by obtain ⟨ep, e⟩ := h.h4; exact ⟨ep, o _ _ e (by rintro _ _ ⟨⟩)⟩, fun g hg => ?_, by rw [e3]; exact h.nd, h.nw, h.ne⟩
  rcases List.mem_append.mp hg with hg | hg
  · obtain ⟨g1, g2, g3⟩ := h.hf g (List.mem_append_left _ hg)
    refine ⟨o _ _ g1 (by rintro _ _ ⟨⟩), (hset_other _ _ fun z => ?_).trans g2, g3⟩
    have hn := h.nd
    rw [List.map_append, List.nodup_append] at hn
    exact hn.2.2 g.li (List.mem_map_of_mem hg) f.li (by simp) z
  · rw [List.mem_singleton.mp hg]
    exact ⟨o _ _ f1 (by rintro _ _ ⟨⟩), hset_self _ _ _, f3⟩
theorem DH.pop {f : F4} (h : DH sl h0 hp a1 a2 a3 a4 (fs ++ [f]) seen) (ep' : Nat) : DH sl h0 (hset (hset (hset (hdel hp f.li) a1 (.list ((nmsOf fs).map .str))) a4 (.dict (enumS (nmsOf fs)) ep')) a2 (.list (fs.map fun f => .ref f.bn))) a1 a2 a3 a4 fs seen := by
  obtain ⟨f1, f2, f3⟩ := h.hf f (by simp)
  obtain ⟨ep, h4⟩ := h.h4
  have n14 : a1 ≠ a4 := fun z => by rw [← z, h.h1] at h4; cases h4
  have n42 : a4 ≠ a2 := fun z => by rw [z, h.h2] at h4; cases h4
  have o : ∀ b A, hp b = some A → (∀ x, A ≠ .list x) → (∀ x y, A ≠ .dict x y) → b ≠ f.li → (hset (hset (hset (hdel hp f.li) a1 (.list ((nmsOf fs).map .str))) a4 (.dict (enumS (nmsOf fs)) ep')) a2 (.list (fs.map fun f => .ref f.bn))) b = some A := fun b A e hA hA' hb => by
    rw [hset_other _ _ (fun z => by rw [z, h.h2] at e; cases e; exact hA _ rfl), hset_other _ _ (fun z => by rw [z, h4] at e; cases e; exact hA' _ _ rfl), hset_other _ _ (fun z => by rw [z, h.h1] at e; cases e; exact hA _ rfl), hdel_other _ hb]
    exact e
  refine ⟨(((le_del h.le f3).put h.nw.1).put h.nw.4).put h.nw.2, ?_, hset_self _ _ _, o _ _ h.h3 (by rintro _ ⟨⟩) (by rintro _ _ ⟨⟩) (fun z => by have := h.h3; rw [z, f2] at this; cases this), ⟨ep', (hset_other _ _ n42).trans (hset_self _ _ _)⟩, fun g hg => ?_, ?_, h.nw, h.ne⟩
  · rw [hset_other _ _ h.ne, hset_other _ _ n14]; exact hset_self _ _ _
  · obtain ⟨g1, g2, g3⟩ := h.hf g (List.mem_append_left _ hg)
    refine ⟨o _ _ g1 (by rintro _ ⟨⟩) (by rintro _ _ ⟨⟩) (fun z => by rw [z, f2] at g1; cases g1), o _ _ g2 (by rintro _ ⟨⟩) (by rintro _ _ ⟨⟩) (fun z => ?_), g3⟩
    have hn := h.nd
    rw [List.map_append, List.nodup_append] at hn
    exact hn.2.2 g.li (List.mem_map_of_mem hg) f.li (by simp) z
  · have hn := h.nd
    rw [List.map_append, List.nodup_append] at hn
    exact hn.1
end
section
variable {G : Gl} {C : Cx} {scope : Scope} {st : St} {ex : Addr → Option Obj} {s : Shared}
theorem ev_nA (B : Blk C scope) (A : Around) (i : Nat) {x : Str} {p : Pos} {v : AV} {K : AV → St → Prop} (hv : st.loc i = some v) (h : K v st) (hx : autoParam (C.ns i = x) tRfl) : Ev prog w G (C.at A) (.Name x p) st K := .mk fun ex s E R => by
  subst hx
  obtain ⟨m, hn, hl⟩ := R.ns
  obtain ⟨hi, u, hu, q⟩ := hl i v hv
  refine wpAny_Name ?_ (B.ok.dbg i hi).1
  rcases q with ⟨hk, hm⟩ | ⟨hk, c, hc, hcell⟩
  · exact wpAny_loadName_local B.ok.kind hk hn hm ⟨v, st, hu, R, h⟩
  · rcases hk with hk | hk
    · exact wpAny_loadName_cell B.ok.kind hk hc hcell ⟨v, st, hu, R, h⟩
    · exact wpAny_loadName_free B.ok.kind hk hc hcell ⟨v, st, hu, R, h⟩ (B.ok.dbg i hi).2
theorem do_eA (B : Blk C scope) (A : Around) {e : Expr} {p : Pos} {K : AFlow → St → Prop} (h : Ev prog w G (C.at A) e st fun _ st₁ => K .next st₁) (hs : autoParam (swapsWith e none p.line C.env = pure false) tRfl) : Ex prog w G (C.at A) (.Expr e p) st K := ex_expr h (by have := inter B.ok; exact this) hs
end
end Mine
end
section
open PySem PySem.W PySem.Calls PyProof.Rows
set_option Elab.async false
set_option linter.unusedVariables false
set_option maxRecDepth 100000
set_option maxHeartbeats 4000000
namespace Mine
variable {prog : Program} {w : World}
theorem DH.push {sl : Str → Addr} {h0 hp : Hp} {a1 a2 a3 a4 : Addr} {fs : List F4} {seen : List Str} (h : DH sl h0 hp a1 a2 a3 a4 fs seen) {k : Str} {li bn : Addr} (hli : hset hp a3 (.set (seen ++ [k])) li = none) (hbn : hset hp a3 (.set (seen ++ [k])) bn = none) (hne : li ≠ bn) (ep' : Nat) :
    DH sl h0 (hset (hset (hset (hset (hset (hset hp a3 (.set (seen ++ [k]))) li (.liter (sl k) 0)) bn (.bnext li)) a2 (.list (fs.map (fun f => .ref f.bn) ++ [.ref bn]))) a4 (.dict (enumS (nmsOf fs ++ [k])) ep')) a1 (.list ((nmsOf fs).map .str ++ [.str k]))) a1 a2 a3 a4 (fs ++ [⟨k, 0, bn, li⟩]) (seen ++ [k]) := by
  obtain ⟨ep, h4⟩ := h.h4
  have ne3 : ∀ b, hset hp a3 (.set (seen ++ [k])) b = none → b ≠ a3 ∧ hp b = none := fun b hb => by
    have : b ≠ a3 := fun z => by rw [z, hset_self] at hb; cases hb
    exact ⟨this, by rwa [hset_other _ _ this] at hb⟩
  obtain ⟨l3, hl⟩ := ne3 li hli
  obtain ⟨b3, hb⟩ := ne3 bn hbn
  have x1 : ∀ b, hp b = none → A3 (b ≠ a1) (b ≠ a2) (b ≠ a4) := fun b e => ⟨(fun z => by rw [z, h.h1] at e; cases e), (fun z => by rw [z, h.h2] at e; cases e), (fun z => by rw [z, h4] at e; cases e)⟩
  obtain ⟨l1, l2, l4⟩ := x1 li hl
  obtain ⟨b1, b2, b4⟩ := x1 bn hb
  have n14 : a1 ≠ a4 := fun z => by rw [← z, h.h1] at h4; cases h4
  have n42 : a4 ≠ a2 := fun z => by rw [z, h.h2] at h4; cases h4
  have n31 : a3 ≠ a1 := fun z => by have := h.h3; rw [z, h.h1] at this; cases this
  have n32 : a3 ≠ a2 := fun z => by have := h.h3; rw [z, h.h2] at this; cases this
  have n34 : a3 ≠ a4 := fun z => by have := h.h3; rw [z, h4] at this; cases this
  refine ⟨(((((h.le.put h.nw.3).put (h.le.none hl)).put (h.le.none hb)).put h.nw.2).put h.nw.4).put h.nw.1, ?_, ?_, ?_, ⟨ep', ?_⟩, fun g hg => ?_, ?_, h.nw, h.ne⟩
  · rw [hset_self]; simp [nmsOf]
  · rw [hset_other _ _ (Ne.symm h.ne), hset_other _ _ (Ne.symm n42), hset_self]; simp
  · rw [hset_other _ _ n31, hset_other _ _ n34, hset_other _ _ n32, hset_other _ _ (Ne.symm b3), hset_other _ _ (Ne.symm l3), hset_self]
  · rw [hset_other _ _ (Ne.symm n14), hset_self]; simp [nmsOf]
  · rcases List.mem_append.mp hg with hg | hg
    · obtain ⟨g1, g2, g3⟩ := h.hf g hg
      have o : ∀ b A, hp b = some A → (∀ x, A ≠ .list x) → (∀ x y, A ≠ .dict x y) → (∀ x, A ≠ .set x) → (hset (hset (hset (hset (hset (hset hp a3 (.set (seen ++ [k]))) li (.liter (sl k) 0)) bn (.bnext li)) a2 (.list (fs.map (fun f => .ref f.bn) ++ [.ref bn]))) a4 (.dict (enumS (nmsOf fs ++ [k])) ep')) a1 (.list ((nmsOf fs).map .str ++ [.str k]))) b = some A := fun b A e hA hA' hA'' => by
        rw [hset_other _ _ (fun z => by rw [z, h.h1] at e; cases e; exact hA _ rfl), hset_other _ _ (fun z => by rw [z, h4] at e; cases e; exact hA' _ _ rfl), hset_other _ _ (fun z => by rw [z, h.h2] at e; cases e; exact hA _ rfl),
          hset_other _ _ (fun z => by rw [z, hb] at e; cases e), hset_other _ _ (fun z => by rw [z, hl] at e; cases e), hset_other _ _ (fun z => by rw [z, h.h3] at e; cases e; exact hA'' _ rfl)]
        exact e
      exact ⟨o _ _ g1 (by rintro _ ⟨⟩) (by rintro _ _ ⟨⟩) (by rintro _ ⟨⟩), o _ _ g2 (by rintro _ ⟨⟩) (by rintro _ _ ⟨⟩) (by rintro _ ⟨⟩), g3⟩
    · rw [List.mem_singleton.mp hg]
      refine ⟨?_, ?_, h.le.none hl⟩
      · rw [hset_other _ _ b1, hset_other _ _ b4, hset_other _ _ b2, hset_self]
      · rw [hset_other _ _ l1, hset_other _ _ l4, hset_other _ _ l2, hset_other _ _ hne, hset_self]
  · rw [List.map_append, List.nodup_append]
    refine ⟨h.nd, by simp, fun x hx y hy => ?_⟩
    obtain ⟨g, hg, e⟩ := List.mem_map.mp hx
    simp at hy
    rw [← e, hy]
    intro z
    have := (h.hf g hg).2
    rw [z, hl] at this; cases this
section
variable {G : Gl} {P : Params}
structure At (S : Sor) (h0 : Hp) (a1 a2 a3 a4 : Addr) (st : St) (fs : List F4) (fin : List Str) (cur : Option Str) (seen : List Str) : Prop where
  l1 : st.loc 1 = some (.ref S.N)
  l2 : st.loc 2 = some (.ref a1)
  l3 : st.loc 3 = some (.ref a2)
  l4 : st.loc 4 = some (.ref a3)
  l5 : st.loc 5 = some (.ref a4)
  dh : DH S.sl h0 st.hp a1 a2 a3 a4 fs seen
  pi : PI S.succ (stkOf fs) fin cur
  mem : ∀ k, k ∈ seen ↔ k ∈ nmsOf fs ∨ k ∈ fin
  sub : ∀ k, k ∈ seen → k ∈ S.keys
  len : seen.length = fs.length + fin.length
theorem At.lens {S : Sor} {h0 : Hp} {a1 a2 a3 a4 : Addr} {st : St} {fs : List F4} {fin : List Str} {cur : Option Str} {seen : List Str} (h : At S h0 a1 a2 a3 a4 st fs fin cur seen) (hk : S.keys.length ≤ 80) : fs.length + fin.length ≤ 80 := by
  have h1 := h.pi.nd
  rw [stk_nms] at h1
  have := nodup_sub_len h1 (l₂ := S.keys) fun x hx => h.sub x ((h.mem x).mpr (List.mem_append.mp hx))
  simp [nmsOf] at this; exact Nat.le_trans ‹_› ‹_›
theorem find_cycle_ok (gk : GOk G) (hK : G.K = hd.heap_1 P) {n : Nat} {D hp : Hp} {S : Sor} (h : Holds D hp S) (hk80 : S.keys.length ≤ 80) (hsl : ∀ k, (S.succ k).length ≤ 400) (hsk : ∀ k ∈ S.keys, ∀ u ∈ S.succ k, u ∈ S.keys) :
    FnC prog w G (n + 1) 148 [.ref S.x] hp fun v hp' => Le hp hp' ∧ ((v = .none ∧ Acyc S.succ S.keys) ∨ E2 fun nl nodes => A4 (v = .ref nl) (hp nl = none) (hp' nl = some (.list (nodes.map .str))) (Ring S.succ S.keys nodes)) := by
  obtain ⟨epN, hN⟩ := h.hN
  refine fn_b gk ["self", "n2i", "stack", "itstack", "seen", "node2stacki", "node"] 1 (by exact lkK hK rfl) (by exact cdK hK rfl) fun A env own fr B rm hcd => ?_
  refine Exs.hide fun κ0 hκ0 => ?_
  refine exs_cons (set_n B 1 (ev_attr gk (ev_n B 0 rfl ⟨S.x, 158, S.dx, sAttrs S, .ref S.N, rfl, h.hx, h.hdx, by exact p2K hK rfl, rfl, ?_⟩)))
  refine exs_cons (set_n B 2 (ev_list (es_nil ⟨by decide, fun a1 ha1 => ?_⟩)))
  have ha1 : hp a1 = none := ha1
  refine exs_cons (set_n B 3 (ev_list (es_nil ⟨by decide, fun a2 ha2 => ?_⟩)))
  have ha2' : hset hp a1 (.list []) a2 = none := ha2
  have n12 : a1 ≠ a2 := fun z => by rw [← z, hset_self] at ha2'; cases ha2'
  have ha2 : hp a2 = none := by rwa [hset_other _ _ (Ne.symm n12)] at ha2'
  refine exs_cons (set_n B 4 (ev_tyc gk B (by exact nsK hK rfl) rfl (es_nil fun vs hvs => ?_)))
  obtain rfl := hvs.nil_inv
  refine op_set0 fun a3 ha3 => ?_
  have ha3' : hset (hset hp a1 (.list [])) a2 (.list []) a3 = none := ha3
  have n32 : a3 ≠ a2 := fun z => by rw [z, hset_self] at ha3'; cases ha3'
  rw [hset_other _ _ n32] at ha3'
  have n31 : a3 ≠ a1 := fun z => by rw [z, hset_self] at ha3'; cases ha3'
  rw [hset_other _ _ n31] at ha3'
  refine exs_cons (set_n B 5 (ev_dict0 fun a4 ha4 => ?_))
  have ha4' : hset (hset (hset hp a1 (.list [])) a2 (.list [])) a3 (.set []) a4 = none := ha4
  have n43 : a4 ≠ a3 := fun z => by rw [z, hset_self] at ha4'; cases ha4'
  rw [hset_other _ _ n43] at ha4'
  have n42 : a4 ≠ a2 := fun z => by rw [z, hset_self] at ha4'; cases ha4'
  rw [hset_other _ _ n42] at ha4'
  have n41 : a4 ≠ a1 := fun z => by rw [z, hset_self] at ha4'; cases ha4'
  rw [hset_other _ _ n41] at ha4'
  have hD0 : DH S.sl hp (hset (hset (hset (hset hp a1 (.list [])) a2 (.list [])) a3 (.set [])) a4 (.dict [] 0)) a1 a2 a3 a4 [] [] := by
    refine ⟨((((Le.refl _).put ha1).put ha2).put ha3').put ha4', ?_, ?_, ?_, ⟨0, hset_self _ _ _⟩, (fun f hf => by cases hf), .nil, ⟨ha1, ha2, ha3', ha4'⟩, n12⟩
    · rw [hset_other _ _ (Ne.symm n41), hset_other _ _ (Ne.symm n31), hset_other _ _ n12, hset_self]; rfl
    · rw [hset_other _ _ (Ne.symm n42), hset_other _ _ (Ne.symm n32), hset_self]; rfl
    · rw [hset_other _ _ (Ne.symm n43), hset_self]
  refine exs_cons (for_n B 6 (src_keys gk (ev_n B 1 rfl ⟨S.N, _, epN, rfl, hD0.le _ _ hN, trivial, ?_⟩)))
  refine for_inv (fun i st => E2 fun fin seen => At S hp a1 a2 a3 a4 st [] fin none seen ∧ ∀ k ∈ S.keys.take i, k ∈ fin) ⟨[], [], ⟨rfl, rfl, rfl, rfl, rfl, hD0, ⟨.nil, (fun i v e => by simp at e), (fun x hx => by cases hx), (fun i a p e => by simp [stkOf] at e), (fun i a p b q e => by simp [stkOf] at e), (fun a p u e => by simp [stkOf] at e)⟩, (fun k => by simp [nmsOf]), (fun k hk => by cases hk), rfl⟩, (fun k hk => by simp at hk)⟩ ?_ ?_
  · intro i y st hy rr4
    refine Exs.hide fun κ hκ => ?_
    obtain ⟨fin0, seen0, hA0, hpre⟩ := rr4
    have hy' : ∃ n0, S.keys[i]? = some n0 ∧ y = .str n0 := by
      simp only [one_l, one_t, one_r, one_v, one_k, List.map_map, List.getElem?_map, Option.map_eq_some_iff] at hy
      obtain ⟨n0, e1, e2⟩ := hy
      exact ⟨n0, e1, e2.symm⟩
    obtain ⟨n0, hn0, rfl⟩ := hy'
    have hn0k : n0 ∈ S.keys := List.mem_of_getElem? hn0
    have hPk : ∀ st' : St, Le hp st'.hp → (SrcK.keys S.N (S.keys.map fun k => (k, .ref (S.a k))) epN).P st'.hp := fun st' l => l _ _ hN
    have hsl0 : seen0.length ≤ 100 := by have := hA0.lens hk80; have := hA0.len; lia
    refine exs_cons (ex_if (tr_in_s (ev_n B 6 rfl (ev_n B 4 hA0.l4 ⟨n0, a3, seen0, rfl, rfl, hA0.dh.h3, hsl0, ?_⟩))))
    by_cases hseen : n0 ∈ seen0
    · rw [decide_eq_true hseen, if_pos rfl]
      refine exs_cons (ex_continue (hκ _ _ ⟨hPk _ hA0.dh.le, fin0, seen0, ⟨hA0.l1, hA0.l2, hA0.l3, hA0.l4, hA0.l5, hA0.dh, hA0.pi, hA0.mem, hA0.sub, hA0.len⟩, fun k hk => ?_⟩))
      rw [take_snoc hn0] at hk
      rcases List.mem_append.mp hk with z | z
      · exact hpre k z
      · rw [List.mem_singleton.mp z]
        rcases (hA0.mem n0).mp hseen with y | y
        · cases y
        · exact y
    · rw [decide_eq_false hseen, if_neg (by decide)]
      refine exs_nil ?_
      let Bd : Nat := (S.keys.map fun v => (S.succ v).length + 1).sum
      have hsubs : ∀ {st : St} {fs : List F4} {fin : List Str} {cur : Option Str} {seen : List Str}, At S hp a1 a2 a3 a4 st fs fin cur seen → cost S.succ (stkOf fs) fin ≤ Bd := fun hA => hA.pi.cost_le fun x hx => hA.sub x ((hA.mem x).mpr (by rw [stk_nms] at hx; exact hx))
      have hend : ∀ (st' : St) (fin : List Str) (seen : List Str), At S hp a1 a2 a3 a4 st' [] fin none seen → n0 ∈ seen → (∀ k ∈ fin0, k ∈ fin) → E2 fun fin seen => At S hp a1 a2 a3 a4 st' [] fin none seen ∧ ∀ k ∈ S.keys.take (i + 1), k ∈ fin := fun st' fin seen hA hn hmono => ⟨fin, seen, hA, fun k hk => by
        rw [take_snoc hn0] at hk
        rcases List.mem_append.mp hk with z | z
        · exact hmono k (hpre k z)
        · rw [List.mem_singleton.mp z]
          rcases (hA.mem n0).mp hn with y | y
          · cases y
          · exact y⟩
      refine exs_cons (ex_while (fun m st => E4 fun fs fin seen node => A6 (At S hp a1 a2 a3 a4 st fs fin (some node) seen) (st.loc 6 = some (.str node)) (node ∈ S.keys) (n0 ∈ seen ∨ node = n0) (∀ k ∈ fin0, k ∈ fin) (m + cost S.succ (stkOf fs) fin = Bd)) (Bd - cost S.succ [] fin0) ⟨[], fin0, seen0, n0, ⟨hA0.l1, hA0.l2, hA0.l3, hA0.l4, hA0.l5, hA0.dh, hA0.pi.start, hA0.mem, hA0.sub, hA0.len⟩, rfl, hn0k, .inr rfl, fun k hk => hk, by have := hsubs hA0; show Bd - cost S.succ [] fin0 + cost S.succ [] fin0 = Bd; have h2 : cost S.succ [] fin0 ≤ Bd := this; exact Nat.sub_add_cancel ‹_›⟩ ?_)
      rintro m st1 ⟨fs, fin, seen, node, hA, hl6, hnk, hn, hmono, hm⟩
      refine tr_true ?_
      rw [if_pos rfl]
      refine Exs.hide fun κw hκw => ?_
      have hlens := hA.lens hk80
      have hslen : seen.length ≤ 80 := by have := hA.len; exact Nat.le_trans (Nat.le_of_eq ‹_›) ‹_›
      have hnodup := (List.nodup_append.mp hA.pi.nd).1
      rw [stk_nms] at hnodup
      refine exs_cons (Ex.mono (K := fun f st2 => match f with | .next => E3 fun fs2 fin2 seen2 => A4 (At S hp a1 a2 a3 a4 st2 fs2 fin2 none seen2) (n0 ∈ seen2) (∀ k ∈ fin0, k ∈ fin2) (cost S.succ (stkOf fs) fin ≤ cost S.succ (stkOf fs2) fin2) | .ret v => Le hp st2.hp ∧ E2 fun nl nodes => A4 (v = .ref nl) (hp nl = none) (st2.hp nl = some (.list (nodes.map .str))) (Ring S.succ S.keys nodes) | _ => False) ?_ fun f st2 hf => ?_)
      · refine Ex.hide fun κ1 hκ1 => ?_
        obtain ⟨ep4, h4⟩ := hA.dh.h4
        refine ex_if (tr_in_s (ev_n B 6 hl6 (ev_n B 4 hA.l4 ⟨node, a3, seen, rfl, rfl, hA.dh.h3, Nat.le_trans ‹_› (by decide), ?_⟩)))
        by_cases hs : node ∈ seen
        · rw [decide_eq_true hs, if_pos rfl]
          refine exs_cons (ex_if (tr_in_d gk (ev_n B 6 hl6 (ev_n B 5 hA.l5 ⟨node, a4, _, ep4, rfl, rfl, h4, ?_⟩))))
          by_cases hst : node ∈ nmsOf fs
          · obtain ⟨ix, hix⟩ := List.getElem?_of_mem hst
            have hag := enumS_get hnodup hix
            rw [hag]
            refine exs_cons (ex_return (ev_bin (ev_slice (ev_n B 2 hA.l2 (ev_at (ev_n B 5 hA.l5 (ev_n B 6 hl6 ?_)))))))
            refine ⟨.int ix, .dict h4 hag, a1, _, ix, rfl, rfl, hA.dh.h1, by simp [nmsOf]; exact Nat.le_trans (Nat.le_add_right _ _) (Nat.le_trans ‹_› (by decide)), fun sa hsa => ?_⟩
            refine ev_list (es_c (ev_n B 6 hl6 (es_nil ⟨(by show 1 ≤ 1000; decide), fun sb hsb va vb hva hvb => ?_⟩)))
            have hsa : st1.hp sa = none := hsa
            have hsb : hset st1.hp sa (.list (((nmsOf fs).map AV.str).drop ix)) sb = none := hsb
            have hne : sa ≠ sb := fun z => by rw [← z, hset_self] at hsb; cases hsb
            refine op_add_list hva hvb ((hset_other _ _ hne).trans (hset_self _ _ _)) (hset_self _ _ _) (by simp [nmsOf]; lia) (by simp) fun nl hnl => ?_
            have hnl' : hset (hset st1.hp sa (.list (((nmsOf fs).map AV.str).drop ix))) sb (.list [.str node]) nl = none := hnl
            have le3 : Le st1.hp (hset (hset st1.hp sa (.list (((nmsOf fs).map AV.str).drop ix))) sb (.list [.str node])) := (Le.new hsa).trans (Le.new hsb)
            refine hκ1 _ _ ⟨hA.dh.le.trans (le3.trans (Le.new hnl')), nl, (nmsOf fs).drop ix ++ [node], rfl, (hA.dh.le.trans le3).none hnl', ?_, ?_⟩
            · show hset _ nl _ nl = _
              rw [hset_self]; simp [List.map_drop]
            · have := hA.pi.ring (keys := S.keys) (i := ix) (fun x hx => hA.sub x ((hA.mem x).mpr (.inl (by rw [stk_nms] at hx; exact hx)))) (by rw [stk_nms]; exact hix)
              rw [stk_nms] at this; exact this
          · rw [enumS_none hst]
            have hfin : node ∈ fin := by
              rcases (hA.mem node).mp hs with y | y
              · exact absurd y hst
              · exact y
            refine exs_nil (exs_nil (hκ1 _ _ ⟨fs, fin, seen, ⟨hA.l1, hA.l2, hA.l3, hA.l4, hA.l5, hA.dh, hA.pi.seen hfin, hA.mem, hA.sub, hA.len⟩, ?_, hmono, Nat.le_refl _⟩))
            rcases hn with y | y
            · exact y
            · rw [← y]; exact hs
        · rw [decide_eq_false hs, if_neg (by decide)]
          have hns : node ∉ nmsOf fs := fun z => hs ((hA.mem node).mpr (.inl z))
          have hnf : node ∉ fin := fun z => hs ((hA.mem node).mpr (.inr z))
          refine exs_cons (do_add B (ev_n B 4 hA.l4 ⟨a3, seen, rfl, hA.dh.h3, Nat.le_trans ‹_› (by decide), ev_n B 6 hl6 ⟨seen, node, rfl, hA.dh.h3, Nat.le_trans ‹_› (by decide), hs, ?_⟩⟩))
          let g1 : Hp := hset st1.hp a3 (.set (seen ++ [node]))
          have g1o : ∀ b A, st1.hp b = some A → (∀ x, A ≠ .set x) → g1 b = some A := fun b A e hAA => (hset_other _ _ fun z => by
            have := hA.dh.h3; rw [← z, e] at this; exact hAA _ (Option.some.inj this)).trans e
          obtain ⟨q1, q2, q3⟩ := h.hn node hnk
          have hg2 : g1 a2 = _ := g1o _ _ hA.dh.h2 (by rintro _ ⟨⟩)
          refine exs_cons (do_append B (ev_n B 3 hA.l3 ⟨a2, rfl, ⟨_, hg2⟩, ?_⟩))
          refine ev_iter_next gk B (by exact nsK hK rfl) (ev_slot gk (ev_at (ev_n B 1 hA.l1 (ev_n B 6 hl6 ⟨.ref (S.a node), .dict (g1o _ _ (hA.dh.le _ _ hN) (by rintro _ ⟨⟩)) (by rw [aget_keys, if_pos hnk]), S.a node, 61, S.dn node, 64, 2, _, [], .ref (S.sl node), rfl, g1o _ _ (hA.dh.le _ _ q1) (by rintro _ ⟨⟩), g1o _ _ (hA.dh.le _ _ q2) (by rintro _ ⟨⟩), by exact p4K hK rfl, rfl, S.sl node, _, rfl, g1o _ _ (hA.dh.le _ _ q3) (by rintro _ ⟨⟩), fun li bn hli hbn hlb => ?_⟩))))
          have hli : g1 li = none := hli
          have hbn : g1 bn = none := hbn
          have hbn2 : hset g1 li (.liter (S.sl node) 0) bn = none := by rw [hset_other _ _ (Ne.symm hlb)]; exact hbn
          have le2 : Le g1 (hset (hset g1 li (.liter (S.sl node) 0)) bn (.bnext li)) := (Le.new hli).trans (Le.new hbn2)
          refine ⟨_, le2 _ _ hg2, by simp; exact Nat.le_trans (Nat.le_add_right _ _) (Nat.le_trans ‹_› (by decide)), ?_⟩
          let g3 : Hp := hset (hset (hset g1 li (.liter (S.sl node) 0)) bn (.bnext li)) a2 (.list (fs.map (fun f => .ref f.bn) ++ [.ref bn]))
          have g3o : ∀ b A, st1.hp b = some A → (∀ x, A ≠ .set x) → b ≠ a2 → g3 b = some A := fun b A e hAA hb => (hset_other _ _ hb).trans (le2 _ _ (g1o b A e hAA))
          have h43 : g3 a4 = _ := g3o _ _ h4 (by rintro _ ⟨⟩) fun z => by rw [z, hA.dh.h2] at h4; cases h4
          have h13 : g3 a1 = _ := g3o _ _ hA.dh.h1 (by rintro _ ⟨⟩) hA.dh.ne
          refine exs_cons (set_item_d (ev_bi gk B (by exact nsK hK rfl) rfl (es_c (ev_n B 2 hA.l2 (es_nil fun vs hvs => ?_)))))
          obtain ⟨v1, rfl, hv1⟩ := hvs.one
          refine op_len_list hv1 h13 (by simp [nmsOf]; exact Nat.le_trans (Nat.le_add_right _ _) (Nat.le_trans ‹_› (by decide))) (ev_n B 5 hA.l5 (ev_n B 6 hl6 ⟨a4, _, ep4, node, rfl, rfl, h43, by rw [enumS_len]; simp [nmsOf]; exact Nat.le_trans (Nat.le_add_right _ _) (Nat.le_trans ‹_› (by decide)), fun ep' => ?_⟩))
          have hput : aput (enumS (nmsOf fs)) node (.int (((nmsOf fs).map AV.str).length : Nat)) = enumS (nmsOf fs ++ [node]) := by rw [List.length_map]; exact enumS_put hns
          rw [hput]
          have n14 : a1 ≠ a4 := fun z => by rw [← z, hA.dh.h1] at h4; cases h4
          refine exs_cons (do_append B (ev_n B 2 hA.l2 ⟨a1, rfl, ⟨_, (hset_other _ _ n14).trans h13⟩, ev_n B 6 hl6 ⟨_, (hset_other _ _ n14).trans h13, by simp [nmsOf]; exact Nat.le_trans (Nat.le_add_right _ _) (Nat.le_trans ‹_› (by decide)), exs_nil ?_⟩⟩))
          have hpi := hA.pi.push (by rw [stk_nms]; exact hns) hnf
          have hstk : stkOf (fs ++ [F4.mk node 0 bn li]) = stkOf fs ++ [(node, 0)] := by simp [stkOf]
          refine hκ1 _ _ ⟨fs ++ [F4.mk node 0 bn li], fin, seen ++ [node], ⟨hA.l1, hA.l2, hA.l3, hA.l4, hA.l5, hA.dh.push hli hbn hlb ep', by rw [hstk]; exact hpi, fun k => ?_, fun k hk => ?_, by simp [hA.len]; exact Nat.add_right_comm _ _ _⟩, ?_, hmono, ?_⟩
          · simp only [List.mem_append, List.mem_singleton, nmsOf, List.map_append, List.map_cons, List.map_nil]
            rw [hA.mem k]
            constructor
            · rintro ((z | z) | z)
              · exact .inl (.inl z)
              · exact .inr z
              · exact .inl (.inr z)
            · rintro ((z | z) | z)
              · exact .inl (.inl z)
              · exact .inr z
              · exact .inl (.inr z)
          · rcases List.mem_append.mp hk with z | z
            · exact hA.sub k z
            · rw [List.mem_singleton.mp z]; exact hnk
          · rcases hn with y | y
            · exact List.mem_append_left _ y
            · rw [← y]; simp
          · rw [hstk]; simp [cost]
      · cases f with
        | brk => exact hf.elim
        | cont => exact hf.elim
        | ret v => exact hκw _ _ (hκ _ _ (hκ0 _ _ ⟨hf.1, .inr hf.2⟩))
        | next =>
          obtain ⟨fs2, fin2, seen2, hA2, hn2, hmono2, hc2⟩ := hf
          refine exs_cons (ex_while (fun m2 st => E3 fun fs fin' seen => A5 (At S hp a1 a2 a3 a4 st fs fin' none seen) (n0 ∈ seen) (∀ k ∈ fin0, k ∈ fin') (cost S.succ (stkOf fs2) fin2 ≤ cost S.succ (stkOf fs) fin') (m2 = fs.length)) fs2.length ⟨fs2, fin2, seen2, hA2, hn2, hmono2, Nat.le_refl _, rfl⟩ ?_)
          rintro m2 st3 ⟨fs3, fin3, seen3, hA3, hn3, hmono3, hc3, hm2⟩
          have hlens3 := hA3.lens hk80
          refine tr_v (ev_n B 2 hA3.l2 ⟨_, .list hA3.dh.h1 (by simp [nmsOf]; exact Nat.le_trans (Nat.le_add_right _ _) (Nat.le_trans ‹_› (by decide))), ?_⟩)
          rcases List.eq_nil_or_concat fs3 with hnil | ⟨fs4, f4, hcat⟩
          · subst hnil
            rw [show (!((nmsOf ([] : List F4)).map AV.str).isEmpty) = false from rfl, if_neg (by decide)]
            exact exs_cons (ex_break (hκw _ _ (exs_nil (hκ _ _ ⟨hPk _ hA3.dh.le, hend _ fin3 seen3 hA3 hn3 hmono3⟩))))
          · rw [List.concat_eq_append] at hcat
            subst hcat
            rw [show (!((nmsOf (fs4 ++ [f4])).map AV.str).isEmpty) = true by simp [nmsOf], if_pos rfl]
            refine Exs.hide fun κx hκx => ?_
            obtain ⟨f1, f2, f3⟩ := hA3.dh.hf f4 (by simp)
            have hks : f4.k ∈ S.keys := hA3.sub f4.k ((hA3.mem f4.k).mpr (.inl (by simp [nmsOf])))
            obtain ⟨q1, q2, q3⟩ := h.hn f4.k hks
            have hbl : st3.hp a2 = some (.list (fs4.map (fun f => AV.ref f.bn) ++ [.ref f4.bn])) := by rw [hA3.dh.h2]; simp
            have hstk : stkOf (fs4 ++ [f4]) = stkOf fs4 ++ [(f4.k, f4.p)] := by simp [stkOf]
            have hpi3 := hA3.pi
            rw [hstk] at hpi3
            simp only [List.length_append, List.length_singleton] at hlens3
            refine exs_cons (ex_try_next gk B hcd.2 6 (by exact nsK hK rfl) (ev_at (ev_n B 3 hA3.l3 (ev_neg (ev_int ⟨_, rfl, .ref f4.bn, .last hbl (by simp; lia), f4.bn, f4.li, S.sl f4.k, f4.p, _, rfl, f1, f2, hA3.dh.le _ _ q3, fun y hy => ?_, fun hnone e => ?_⟩)))))
            · -- something comes
              rw [List.getElem?_map, Option.map_eq_some_iff] at hy
              obtain ⟨u, hu, rfl⟩ := hy
              have hpi4 := hpi3.draw hu
              have hstk' : stkOf (fs4 ++ [{ f4 with p := f4.p + 1 }]) = stkOf fs4 ++ [(f4.k, f4.p + 1)] := by simp [stkOf]
              have hu' : u ∈ S.succ f4.k := List.mem_of_getElem? hu
              have hcost : cost S.succ (stkOf fs4 ++ [(f4.k, f4.p + 1)]) fin3 = cost S.succ (stkOf (fs4 ++ [f4])) fin3 + 1 := by
                rw [hstk]; simp [cost]; lia
              have hA4 : At S hp a1 a2 a3 a4 ((st3.put f4.li (.liter (S.sl f4.k) (f4.p + 1))).set 6 (.str u)) (fs4 ++ [{ f4 with p := f4.p + 1 }]) fin3 (some u) seen3 := ⟨hA3.l1, hA3.l2, hA3.l3, hA3.l4, hA3.l5, hA3.dh.draw, by rw [hstk']; exact hpi4, by intro k; rw [hA3.mem k]; simp [nmsOf], hA3.sub, by rw [hA3.len]; simp⟩
              have hle4 := hsubs hA4
              rw [hstk', hcost] at hle4
              refine hκx _ _ (exs_nil (hκw _ _ ⟨Bd - cost S.succ (stkOf (fs4 ++ [{ f4 with p := f4.p + 1 }])) fin3, ?_, fs4 ++ [{ f4 with p := f4.p + 1 }], fin3, seen3, u, hA4, rfl, hsk _ hks u hu', .inl hn3, hmono3, ?_⟩))
              · rw [hstk', hcost]; lia
              · rw [hstk', hcost]; exact Nat.sub_add_cancel ‹_›
            · -- nothing left: back on the path
              rw [List.getElem?_map, Option.map_eq_none_iff] at hnone
              have hpi5 := hpi3.pop hnone
              have hnf4 : f4.k ∉ nmsOf fs4 := by
                have := (List.nodup_append.mp hA3.pi.nd).1
                rw [stk_nms] at this
                simp only [nmsOf, List.map_append, List.map_cons, List.map_nil] at this
                rw [List.nodup_append] at this
                intro z
                exact this.2.2 f4.k z f4.k (by simp) rfl
              obtain ⟨ep4, h4⟩ := hA3.dh.h4
              have hnms : nmsOf (fs4 ++ [f4]) = nmsOf fs4 ++ [f4.k] := by simp [nmsOf]
              have d1 : ∀ b A, st3.hp b = some A → (∀ x y, A ≠ .liter x y) → hdel st3.hp f4.li b = some A := fun b A e hAA => (hdel_other _ fun z => by rw [z, f2] at e; cases e; exact hAA _ _ rfl).trans e
              have h1d : hdel st3.hp f4.li a1 = some (.list ((nmsOf fs4).map AV.str ++ [.str f4.k])) := d1 _ _ (by rw [hA3.dh.h1, hnms]; simp) (by rintro _ _ ⟨⟩)
              have n14 : a1 ≠ a4 := fun z => by rw [← z, hA3.dh.h1] at h4; cases h4
              have n42 : a4 ≠ a2 := fun z => by rw [z, hA3.dh.h2] at h4; cases h4
              have h4d : hset (hdel st3.hp f4.li) a1 (.list ((nmsOf fs4).map AV.str)) a4 = some (.dict (enumS (nmsOf fs4 ++ [f4.k])) ep4) := (hset_other _ _ (Ne.symm n14)).trans (d1 _ _ (by rw [h4, hnms]) (by rintro _ _ ⟨⟩))
              refine exs_cons (ex_del_d (ev_nA B _ 5 hA3.l5 (ev_pop (ev_nA B _ 2 hA3.l2 ⟨a1, _, _, rfl, h1d, by simp [nmsOf]; lia, a4, _, ep4, f4.k, rfl, rfl, h4d, ?_, by rw [enumS_len]; simp [nmsOf]; lia, fun ep' => ?_⟩))))
              · rw [enumS_get (i := (nmsOf fs4).length) (by
                  rw [List.nodup_append]
                  have := (List.nodup_append.mp hA3.pi.nd).1
                  rw [stk_nms, hnms, List.nodup_append] at this
                  exact this) (by simp)]; rfl
              rw [enumS_del hnf4]
              have h2d : hset (hset (hdel st3.hp f4.li) a1 (.list ((nmsOf fs4).map AV.str))) a4 (.dict (enumS (nmsOf fs4)) ep') a2 = some (.list (fs4.map (fun f => AV.ref f.bn) ++ [.ref f4.bn])) := (hset_other _ _ (Ne.symm n42)).trans ((hset_other _ _ (Ne.symm hA3.dh.ne)).trans (d1 _ _ hbl (by rintro _ _ ⟨⟩)))
              refine exs_cons (do_eA B _ (ev_pop (ev_nA B _ 3 hA3.l3 ⟨a2, _, _, rfl, h2d, by simp; lia, exs_nil (exs_nil (hκx _ _ ⟨fs4.length, by simp at hm2; exact Nat.lt_of_lt_of_le (Nat.lt_succ_self _) (Nat.le_of_eq (Eq.symm ‹_›)), fs4, fin3 ++ [f4.k], seen3, ⟨hA3.l1, hA3.l2, hA3.l3, hA3.l4, hA3.l5, hA3.dh.pop ep', hpi5, fun k => ?_, hA3.sub, by rw [hA3.len]; simp; exact Nat.add_right_comm _ _ _⟩, hn3, fun k hk => List.mem_append_left _ (hmono3 k hk), ?_, rfl⟩))⟩)))
              · rw [hA3.mem k, hnms]
                simp only [List.mem_append, List.mem_singleton]
                constructor
                · rintro ((z | z) | z)
                  · exact .inl z
                  · exact .inr (.inr z)
                  · exact .inr (.inl z)
                · rintro (z | z | z)
                  · exact .inl (.inl z)
                  · exact .inr z
                  · exact .inl (.inr z)
              · have hp4 : f4.p = (S.succ f4.k).length := by
                  have h1 := List.getElem?_eq_none_iff.mp hnone
                  have h2 := hpi3.le (f4.k, f4.p) (by simp)
                  simp only at h2; exact Nat.le_antisymm ‹_› ‹_›
                have : cost S.succ (stkOf (fs4 ++ [f4])) fin3 = cost S.succ (stkOf fs4) (fin3 ++ [f4.k]) := by
                  rw [hstk]; simp [cost, hp4]; lia
                rw [← this]; exact hc3
  · rintro st ⟨fin, seen, hA, hall⟩
    have hl : (SrcK.keys S.N (S.keys.map fun k => (k, AV.ref (S.a k))) epN).one.length = S.keys.length := by simp [one_l, one_t, one_r, one_v, one_k]
    rw [hl, List.take_length] at hall
    refine exs_cons (ex_return (ev_none (hκ0 _ _ ⟨hA.dh.le, .inl ⟨rfl, fin, ?_, hall, hA.pi.fins⟩⟩)))
    have := hA.pi.nd
    simpa [stkOf] using this
end
end Mine
end
section
open PySem PySem.W PySem.Calls PyProof.Rows
set_option Elab.async false
set_option linter.unusedVariables false
set_option maxRecDepth 100000
set_option maxHeartbeats 4000000
namespace Mine
variable {prog : Program} {w : World}
theorem Holds.aside {D hp : Hp} {S : Sor} (h : Holds D hp S) {b : Addr} {A : AObj} (hb : hp b = none) : Holds (hset D b A) (hset hp b A) S := by
  have hD := h.le.none hb
  have l : Le hp (hset hp b A) := Le.new hb
  have o : ∀ c X, hp c = some X → D c = none → hset D b A c = none := fun c X e hc => by
    rw [hset_other _ _ fun z => by rw [z, hb] at e; cases e]; exact hc
  refine ⟨fun c X e => ?_, l _ _ h.hx, l _ _ h.hdx, by obtain ⟨ep, e⟩ := h.hN; exact ⟨ep, l _ _ e⟩, fun k hk => by obtain ⟨a, b, c⟩ := h.hn k hk; exact ⟨l _ _ a, l _ _ b, l _ _ c⟩, h.nd, h.inj, fun r q e => by obtain ⟨a, b, c⟩ := h.rd r q e; exact ⟨l _ _ a, o _ _ a b, c⟩, ⟨o _ _ h.hx h.nx.1, o _ _ h.hdx h.nx.2, by obtain ⟨ep, e⟩ := h.hN; exact o _ _ e h.nx.3⟩, fun k hk => by obtain ⟨a, b, c⟩ := h.hn k hk; exact ⟨o _ _ a (h.nn k hk).1, o _ _ c (h.nn k hk).2⟩, h.dflt⟩
  by_cases z : c = b
  · subst z; rw [hset_self] at e ⊢; exact e
  · rw [hset_other _ _ z] at e ⊢; exact h.le _ _ e
noncomputable def NodR (S : Sor) : Rel Str := fun hp v k => A3 (v = .ref (S.a k)) (hp (S.a k) = some (.node 61 (S.dn k) [some (.str k), some (.int (S.np k)), some (.ref (S.sl k))])) (hp (S.dn k) = some (.attrs []))
theorem NodR.mono {S : Sor} : Mono (NodR S) := fun _ _ _ _ l h => ⟨h.1, l _ _ h.2, l _ _ h.3⟩
theorem Holds.nods {D hp : Hp} {S : Sor} (h : Holds D hp S) : ∀ {ks : List Str}, (∀ k ∈ ks, k ∈ S.keys) → All2 (NodR S hp) ((ks.map fun k => (k, AV.ref (S.a k))).map (·.2)) ks := by
  intro ks
  induction ks with
  | nil => exact fun _ => .nil
  | cons k r ih => exact fun hs => .cons ⟨rfl, (h.hn k (hs k (.head _))).1, (h.hn k (hs k (.head _))).2⟩ (ih fun k' hk' => hs k' (.tail _ hk'))
noncomputable def nsOkL (K : Frag) (N : Addr) : Bool := match K.lookup N with
  | some ⟨_, _, .dict es _, _⟩ => es.toList.all fun e => match e.key with | .str _ _ => true | _ => false
  | _ => false
theorem nsOkL_to {K : Frag} {N : Addr} (h : nsOkL K N = true) : nsOkIn K N = true := by
  unfold nsOkL at h
  split at h
  · rename_i heq
    unfold nsOkIn
    rw [heq]
    simp only [Array.all_toList] at h
    exact h
  · cases h
theorem cyc76 {P : Params} : cycB (hd.heap_1 P) 76 := ⟨_, _, _, _, _, _, _, _, _, _, _, _, _, _, _, rfl, nsOkL_to rfl, rfl⟩
noncomputable def cycStr : Str := "nodes are in a cycle"
section
variable {G : Gl} {P : Params}
theorem prepare_ok (gk : GOk G) (hK : G.K = hd.heap_1 P) {n : Nat} {D hp : Hp} {S : Sor} (h : Holds D hp S) (hrd : S.rd = none) (hk80 : S.keys.length ≤ 80) (hsl : ∀ k, (S.succ k).length ≤ 400) (hsk : ∀ k ∈ S.keys, ∀ u ∈ S.succ k, u ∈ S.keys) :
    FnE prog w G (n + 2) 113 [.ref S.x] hp
      (fun v hp' => ∃ r, Holds D hp' { S with rd := some (r, S.keys.filter fun k => decide (S.np k = 0)) } ∧ Acyc S.succ S.keys)
      (fun cls xs hp' => cls = .ref 76 ∧ E3 fun r nl nodes => A4 (xs = [.str cycStr, .ref nl]) (D nl = none) (Holds (hset D nl (.list (nodes.map .str))) hp' { S with rd := some (r, S.keys.filter fun k => decide (S.np k = 0)) }) (Ring S.succ S.keys nodes)) := by
  obtain ⟨epN, hN⟩ := h.hN
  refine fn_bE gk ["self", "cycle", "i"] 1 (by exact lkK hK rfl) (by exact cdK hK rfl) fun A env own fr B rm hcd => ?_
  have hr0 : eget (sAttrs S) "_ready_nodes" = some .none := by
    have : eget (sAttrs S) "_ready_nodes" = some (rdv S.rd) := rfl
    rw [this, hrd]; rfl
  refine exsE_cons (ex_if (tr_some (ev_attr gk (ev_n B 0 rfl ⟨S.x, 158, S.dx, sAttrs S, .none, rfl, h.hx, h.hdx, by exact p2K hK rfl, hr0, ev_none ⟨rfl, ?_⟩⟩))))
  rw [if_neg (by decide)]
  refine exs_nil ?_
  refine exsE_cons (set_attr gk (ev_map B 2 [] NodR.mono StrR.mono (test := fun k => decide (S.np k = 0)) (fun k => k) (src_vals gk rfl rfl (ev_attr gk (ev_n B 0 rfl ⟨S.x, 158, S.dx, sAttrs S, .ref S.N, rfl, h.hx, h.hdx, by exact p2K hK rfl, rfl, S.N, _, epN, rfl, hN, trivial, keeps_vals hN, S.keys, h.nods fun k hk => hk, Nat.le_trans ‹_› (by decide), ?_, ?_⟩)))))
  · refine fun env1 own1 fr1 B1 k hk y hp1 hle hy => ts_one (tr_icmp (ev_slot gk (ev_n B1 2 rfl ⟨S.a k, 61, S.dn k, 63, 1, _, [], .int (S.np k), hy.1, hy.2, hy.3, by exact p4K hK rfl, rfl, ev_int ⟨S.np k, 0, _, rfl, rfl, rfl, rfl, rfl, fun _ => ?_⟩⟩)))
    exact ev_slot gk (ev_n B1 2 rfl ⟨S.a k, 61, S.dn k, 62, 0, _, [], .str k, hy.1, hy.2, hy.3, by exact p4K hK rfl, rfl, rfl, Le.refl _, rfl⟩)
  · intro r hp1 hr hle hL
    have hr : hp r = none := hr
    have hle : Le hp hp1 := hle
    obtain ⟨r', ys, e1, e2, e3⟩ := hL
    cases e1
    rw [strs_of e3, List.map_id'] at e2
    have h1 := h.mono hle
    have h2 := h1.setAttrs (S' := { S with rd := some (r, S.keys.filter fun k => decide (S.np k = 0)) }) rfl (fun r2 l2 e => by
      cases e
      refine ⟨e2, h.le.none hr, fun k hk z => ?_⟩
      have := (h.hn k hk).3
      rw [z, hr] at this; cases this)
    refine ev_n B 0 rfl ⟨S.x, 158, S.dx, sAttrs S, rfl, h1.hx, h1.hdx, by exact p2K hK rfl, by show (4 : Nat) ≤ 900; decide, ?_⟩
    have e9 : eput (sAttrs S) "_ready_nodes" (.ref r) = sAttrs { S with rd := some (r, S.keys.filter fun k => decide (S.np k = 0)) } := rfl
    rw [e9]
    refine exsE_cons (set_n B 1 (ev_meth gk B rm (f := 148) (by exact fbK hK rfl) (ev_n B 0 rfl ⟨S.x, 158, S.dx, _, rfl, h2.hx, h2.hdx, by exact p3K hK rfl, rfl, es_nil (FnC.mono (find_cycle_ok (S := { S with rd := some (r, S.keys.filter fun k => decide (S.np k = 0)) }) gk hK h2 hk80 hsl hsk) fun v3 hp3 hz56 => ?_)⟩)))
    obtain ⟨hle3, h3⟩ := hz56
    refine exsE_if (tr_v (ev_n B 1 rfl ?_)) fun _ _ x => x
    rcases h3 with ⟨rfl, hac⟩ | ⟨nl, nodes, rfl, hnl, hnl3, hring⟩
    · refine ⟨false, .none, ?_⟩
      rw [if_neg (by decide)]
      exact ⟨r, h2.mono hle3, hac⟩
    · have hlen : nodes.length ≤ 1000 := by have : nodes.length ≤ S.keys.length + 1 := hring.len; lia
      refine ⟨true, ?_, ?_⟩
      · have : (!((nodes.map AV.str).isEmpty)) = true := by
          obtain ⟨x, mid, e, _⟩ := hring.ends
          rw [e]; rfl
        rw [← this]
        exact .list hnl3 (by rw [List.length_map]; exact hlen)
      · rw [if_pos rfl]
        refine exsE_raise gk B (by exact nsK hK rfl) (by rw [hK]; exact cyc76) (es_c (ev_fstr1 (ev_str (es_c (ev_n B 1 rfl (es_nil ⟨by show (2 : Nat) ≤ 1000; decide, ?_⟩))))))
        refine ⟨rfl, r, nl, nodes, rfl, h2.le.none hnl, (h2.aside hnl).mono fun c X e => ?_, hring⟩
        by_cases z : c = nl
        · subst z; rw [hset_self] at e; exact hnl3.trans e
        · rw [hset_other _ _ z] at e; exact hle3 _ _ e
end
end Mine
end
section
open PySem PySem.W PySem.Calls PyProof.Rows
set_option Elab.async false
set_option linter.unusedVariables false
set_option maxRecDepth 100000
set_option maxHeartbeats 4000000
namespace Mine
variable {prog : Program} {w : World}
theorem Holds.setRd {D hp : Hp} {S : Sor} (h : Holds D hp S) {r : Addr} {l : List Str} (hrd : S.rd = some (r, l)) (l' : List Str) : Holds D (hset hp r (.list (l'.map .str))) { S with rd := some (r, l') } := by
  obtain ⟨h1, h2, h3⟩ := h.rd r l hrd
  have o : ∀ b A, hp b = some A → (∀ x, A ≠ .list x) → hset hp r (.list (l'.map .str)) b = some A := fun b A e hA => (hset_other _ _ fun z => by
    rw [z, h1] at e; cases e; exact hA _ rfl).trans e
  have ea : sAttrs { S with rd := some (r, l') } = sAttrs S := by unfold sAttrs; rw [hrd]; rfl
  refine ⟨h.le.put h2, o _ _ h.hx (by rintro _ ⟨⟩), by rw [ea]; exact o _ _ h.hdx (by rintro _ ⟨⟩), by obtain ⟨ep, e⟩ := h.hN; exact ⟨ep, o _ _ e (by rintro _ ⟨⟩)⟩, fun k hk => ?_, h.nd, h.inj, fun r2 q e => ?_, h.nx, h.nn, h.dflt⟩
  · obtain ⟨g1, g2, g3⟩ := h.hn k hk
    exact ⟨o _ _ g1 (by rintro _ ⟨⟩), o _ _ g2 (by rintro _ ⟨⟩), (hset_other _ _ (h3 k hk)).trans g3⟩
  · cases e; exact ⟨hset_self _ _ _, h2, h3⟩
section
variable {G : Gl} {P : Params}
theorem get_ready_ok (gk : GOk G) (hK : G.K = hd.heap_1 P) {n : Nat} {D hp : Hp} {S : Sor} {r : Addr} {l : List Str} (h : Holds D hp S) (hrd : S.rd = some (r, l)) (hl : ∀ k ∈ l, k ∈ S.keys) (hlen : l.length ≤ 100) :
    FnC prog w G (n + 1) 120 [.ref S.x] hp fun v hp' => ∃ t, A3 (v = .ref t) (D t = none) (Holds (hset D t (.tup (l.map .str))) hp' { S with np := fun k => if k ∈ l then -1 else S.np k, rd := some (r, []), po := S.po + l.length }) := by
  refine fn_b gk ["self", "result", "n2i", "node"] 1 (by exact lkK hK rfl) (by exact cdK hK rfl) fun A env own fr B rm hcd => ?_
  refine Exs.hide fun κ hκ => ?_
  have hr0 : eget (sAttrs S) "_ready_nodes" = some (.ref r) := by
    have : eget (sAttrs S) "_ready_nodes" = some (rdv S.rd) := rfl
    rw [this, hrd]; rfl
  refine exs_cons (ex_if (tr_none (ev_attr gk (ev_n B 0 rfl ⟨S.x, 158, S.dx, sAttrs S, .ref r, rfl, h.hx, h.hdx, by exact p2K hK rfl, hr0, ev_none ⟨rfl, ?_⟩⟩))))
  rw [if_neg (by exact Bool.false_ne_true)]
  refine exs_nil ?_
  refine exs_cons (set_n B 1 (ev_tyc gk B (by exact nsK hK rfl) rfl (es_c (ev_attr gk (ev_n B 0 rfl ⟨S.x, 158, S.dx, sAttrs S, .ref r, rfl, h.hx, h.hdx, by exact p2K hK rfl, hr0, es_nil fun vs hvs => ?_⟩)))))
  obtain ⟨v1, rfl, hv1⟩ := hvs.one
  refine op_tuple_list hv1 (h.rd r l hrd).1 (by simp; exact Nat.le_trans ‹_› (by decide)) fun t ht => ?_
  have ht : hp t = none := ht
  have hDt : D t = none := h.le.none ht
  have h1 := h.aside (A := .tup (l.map .str)) ht
  have ht1 : hset D t (.tup (l.map .str)) t = some (.tup (l.map .str)) := hset_self _ _ _
  generalize hD1 : hset D t (.tup (l.map .str)) = D1 at h1 ht1
  have htt : hset hp t (.tup (l.map .str)) t = some (.tup (l.map .str)) := hset_self _ _ _
  refine exs_cons (set_n B 2 (ev_attr gk (ev_n B 0 rfl ⟨S.x, 158, S.dx, sAttrs S, .ref S.N, rfl, h1.hx, h1.hdx, by exact p2K hK rfl, rfl, ?_⟩)))
  refine exs_cons (for_n B 3 (src_tup (ev_n B 1 rfl ⟨t, _, rfl, htt, trivial, ?_⟩)))
  refine for_inv (fun j st => A4 (st.loc 0 = some (.ref S.x)) (st.loc 1 = some (.ref t)) (st.loc 2 = some (.ref S.N)) (Holds D1 st.hp { S with np := fun k => if k ∈ l.take j then -1 else S.np k })) ⟨rfl, rfl, rfl, ?_⟩ ?_ ?_
  · simp only [List.take_zero, List.not_mem_nil, if_false]; exact h1
  · intro j y rr2 hy rr4
    refine Exs.hide fun κ hκ => ?_
    obtain ⟨loc, hp3⟩ := rr2
    obtain ⟨l0, l1, l2, h3⟩ := rr4
    simp only [one_l, one_t, one_r, one_v, one_k, List.getElem?_map, Option.map_eq_some_iff] at hy
    obtain ⟨k, hk, rfl⟩ := hy
    have hkk : k ∈ S.keys := hl k (List.mem_of_getElem? hk)
    obtain ⟨n1, n2, n3⟩ := h3.hn k hkk
    obtain ⟨ep, hN⟩ := h3.hN
    refine exs_cons (set_slot_e gk (ev_g gk B (a := .int (-1)) (by exact nsK hK rfl) rfl (ev_at (ev_n B 2 l2 (ev_n B 3 rfl ⟨.ref (S.a k), .dict hN (by rw [aget_keys, if_pos hkk]), S.a k, 61, S.dn k, 63, 1, _, [], rfl, n1, n2, by exact p4K hK rfl, by decide, exs_nil ?_⟩)))))
    have h4 := h3.setNp hkk (-1)
    refine hκ _ _ ⟨h4.le _ _ ht1, l0, l1, l2, ?_⟩
    have e : (fun k' => if k' = k then (-1 : Int) else if k' ∈ l.take j then -1 else S.np k') = fun k' => if k' ∈ l.take (j + 1) then -1 else S.np k' := by
      funext k'
      rw [take_snoc hk]
      by_cases z : k' = k
      · subst z; simp
      · simp [z]
    rw [← e]; exact h4
  · intro rr0 rr1
    obtain ⟨loc, hp3⟩ := rr0
    obtain ⟨l0, l1, l2, h3⟩ := rr1
    have hl' : (SrcK.tup t (l.map AV.str)).one.length = l.length := by simp [one_l, one_t, one_r, one_v, one_k]
    rw [hl', List.take_length] at h3
    refine exs_cons (do_clear B (ev_attr gk (ev_n B 0 l0 ⟨S.x, 158, S.dx, sAttrs S, .ref r, rfl, h3.hx, h3.hdx, by exact p2K hK rfl, hr0, r, _, rfl, (h3.rd r l hrd).1, by simp; exact Nat.le_trans ‹_› (by decide), ?_⟩)))
    have h4 := h3.setRd (l := l) hrd []
    have ht4 := h4.le _ _ ht1
    refine exs_cons (aug_attr gk (.inl rfl) (ev_n B 0 l0 ⟨S.x, 158, S.dx, _, S.po, rfl, h4.hx, h4.hdx, by exact p2K hK rfl, by exact p2K hK rfl, rfl, by show (4 : Nat) ≤ 900; decide, ev_bi gk B (by exact nsK hK rfl) rfl (es_c (ev_n B 1 l1 (es_nil fun vs hvs => ?_)))⟩))
    obtain ⟨v2, rfl, hv2⟩ := hvs.one
    refine op_len_tup hv2 ht4 (by simp; exact Nat.le_trans ‹_› (by decide)) ⟨_, rfl, h4.hx, h4.hdx, ?_⟩
    have h5 := h4.setAttrs (S' := { S with np := fun k => if k ∈ l then -1 else S.np k, rd := some (r, []), po := S.po + l.length }) rfl (fun r2 l2 e => h4.rd r2 l2 e)
    refine exs_cons (ex_return (ev_n B 1 l1 (hκ _ _ ⟨t, rfl, hDt, ?_⟩)))
    rw [List.length_map, if_pos rfl, hD1]
    exact h5
theorem is_active_ok (gk : GOk G) (hK : G.K = hd.heap_1 P) {n : Nat} {D hp : Hp} {S : Sor} {r : Addr} {l : List Str} (h : Holds D hp S) (hrd : S.rd = some (r, l)) (hlen : l.length ≤ 100) :
    FnC prog w G (n + 1) 127 [.ref S.x] hp fun v hp' => v = .bool (decide (S.nf < S.po) || !l.isEmpty) ∧ hp' = hp := by
  refine fn_b gk ["self"] 1 (by exact lkK hK rfl) (by exact cdK hK rfl) fun A env own fr B rm hcd => ?_
  refine Exs.hide fun κ hκ => ?_
  have hr0 : eget (sAttrs S) "_ready_nodes" = some (.ref r) := by
    have : eget (sAttrs S) "_ready_nodes" = some (rdv S.rd) := rfl
    rw [this, hrd]; rfl
  refine exs_cons (ex_if (tr_none (ev_attr gk (ev_n B 0 rfl ⟨S.x, 158, S.dx, sAttrs S, .ref r, rfl, h.hx, h.hdx, by exact p2K hK rfl, hr0, ev_none ⟨rfl, ?_⟩⟩))))
  rw [if_neg (by exact Bool.false_ne_true)]
  refine exs_nil ?_
  refine exs_cons (ex_return (ev_or (ev_icmp (ev_attr gk (ev_n B 0 rfl ⟨S.x, 158, S.dx, sAttrs S, .int S.nf, rfl, h.hx, h.hdx, by exact p2K hK rfl, rfl, ev_attr gk (ev_n B 0 rfl ⟨S.x, 158, S.dx, sAttrs S, .int S.po, rfl, h.hx, h.hdx, by exact p2K hK rfl, rfl, S.nf, S.po, _, rfl, rfl, rfl, _, .bool, ?_⟩)⟩)))))
  by_cases z : S.nf < S.po
  · rw [decide_eq_true z] at hκ ⊢; rw [if_pos rfl]; exact hκ _ _ ⟨rfl, rfl⟩
  · rw [decide_eq_false z] at hκ ⊢; rw [if_neg (by decide)]
    refine ev_bop1 (ev_tyc gk B (by exact nsK hK rfl) rfl (es_c (ev_attr gk (ev_n B 0 rfl ⟨S.x, 158, S.dx, sAttrs S, .ref r, rfl, h.hx, h.hdx, by exact p2K hK rfl, hr0, es_nil fun vs hvs => ?_⟩))))
    obtain ⟨v1, rfl, hv1⟩ := hvs.one
    refine op_bool_list hv1 (h.rd r l hrd).1 (by simp; exact Nat.le_trans ‹_› (by decide)) (hκ _ _ ⟨?_, rfl⟩)
    cases l <;> rfl
end
end Mine
end
section
open PySem PySem.W PySem.Calls PyProof.Rows
set_option Elab.async false
set_option linter.unusedVariables false
set_option maxRecDepth 100000
set_option maxHeartbeats 4000000
namespace Mine
variable {prog : Program} {w : World}
theorem Holds.less {D D1 hp : Hp} {S : Sor} (l : Le D D1) (h : Holds D1 hp S) : Holds D hp S :=
  ⟨l.trans h.le, h.hx, h.hdx, h.hN, h.hn, h.nd, h.inj, fun r q e => by obtain ⟨a, b, c⟩ := h.rd r q e; exact ⟨a, l.none b, c⟩, ⟨l.none h.nx.1, l.none h.nx.2, l.none h.nx.3⟩, fun k hk => ⟨l.none (h.nn k hk).1, l.none (h.nn k hk).2⟩, h.dflt⟩
abbrev NR := (Str → Int) × List Str
noncomputable def dec1 (s : NR) (u : Str) : NR := (fun k => if k = u then s.1 u - 1 else s.1 k, if s.1 u - 1 = 0 then s.2 ++ [u] else s.2)
noncomputable def don1 (succ : Str → List Str) (s : NR) (node : Str) : NR := (succ node).foldl dec1 (fun k => if k = node then -2 else s.1 k, s.2)
theorem dec1_len (l : List Str) : ∀ s : NR, (l.foldl dec1 s).2.length ≤ s.2.length + l.length := by
  induction l with
  | nil => intro s; simp
  | cons u r ih =>
    intro s
    have := ih (dec1 s u)
    have h2 : (dec1 s u).2.length ≤ s.2.length + 1 := by unfold dec1; dsimp only; split <;> simp
    simp only [List.foldl_cons, List.length_cons]; lia
theorem don1_len {succ : Str → List Str} (hs : ∀ k, (succ k).length ≤ 10) (l : List Str) : ∀ s : NR, (l.foldl (don1 succ) s).2.length ≤ s.2.length + 10 * l.length := by
  induction l with
  | nil => intro s; simp
  | cons u r ih =>
    intro s
    have h1 := ih (don1 succ s u)
    have h2 : (don1 succ s u).2.length ≤ s.2.length + 10 := by
      have h3 := dec1_len (succ u) (fun k => if k = u then -2 else s.1 k, s.2)
      have := hs u
      unfold don1; simp only at h3; lia
    simp only [List.foldl_cons, List.length_cons]; lia
section
variable {G : Gl} {P : Params}
theorem done_ok (gk : GOk G) (hK : G.K = hd.heap_1 P) {n : Nat} {D hp : Hp} {S : Sor} {r : Addr} {l nodes : List Str} (h : Holds D hp S) (hrd : S.rd = some (r, l)) (hl : l.length ≤ 10) (hnl : nodes.length ≤ 10) (hs10 : ∀ k, (S.succ k).length ≤ 10) (hsk : ∀ k ∈ S.keys, ∀ u ∈ S.succ k, u ∈ S.keys)
    (hnk : ∀ k ∈ nodes, k ∈ S.keys) (hst : ∀ (j : Nat) node, nodes[j]? = some node → ((nodes.take j).foldl (don1 S.succ) (S.np, l)).1 node = -1) :
    FnC prog w G (n + 1) 141 (.ref S.x :: nodes.map .str) hp fun v hp' => Holds D hp' { S with np := (nodes.foldl (don1 S.succ) (S.np, l)).1, rd := some (r, (nodes.foldl (don1 S.succ) (S.np, l)).2), nf := S.nf + nodes.length } := by
  refine fn_bg gk ["self", "nodes", "n2i", "node", "nodeinfo", "stat", "successor", "successor_info"] 2 (by exact lkK hK rfl) (by exact cdK hK rfl) (bind_var1 (x := "self") (z := "nodes") (fun va vs => by cases vs <;> rfl) rfl (by simp; exact Nat.le_trans ‹_› (by decide))) fun xs hp0 hz57 A env own fr B rm hcd => ?_
  refine Exs.hide fun κ hκ => ?_
  obtain ⟨t, ht, e1, e2⟩ := hz57
  subst e1 e2
  have h0 := h.aside (A := .tup (nodes.map .str)) ht
  have ht0 : hset D t (.tup (nodes.map .str)) t = some (.tup (nodes.map .str)) := hset_self _ _ _
  have leD : Le D (hset D t (.tup (nodes.map .str))) := Le.new (h.le.none ht)
  have htt : hset hp t (.tup (nodes.map .str)) t = some (.tup (nodes.map .str)) := hset_self _ _ _
  generalize hset D t (.tup (nodes.map .str)) = D1 at h0 ht0 leD
  generalize hset hp t (.tup (nodes.map .str)) = hp0 at h0 htt
  have hrv : ∀ (S' : Sor) l', S'.rd = some (r, l') → eget (sAttrs S') "_ready_nodes" = some (.ref r) := fun S' l' e => by
    have : eget (sAttrs S') "_ready_nodes" = some (rdv S'.rd) := rfl
    rw [this, e]; rfl
  refine exs_cons (ex_if (tr_none (ev_attr gk (ev_n B 0 rfl ⟨S.x, 158, S.dx, sAttrs S, .ref r, rfl, h0.hx, h0.hdx, by exact p2K hK rfl, hrv S l hrd, ev_none ⟨rfl, ?_⟩⟩))))
  rw [if_neg (by exact Bool.false_ne_true)]
  refine exs_nil ?_
  refine exs_cons (set_n B 2 (ev_attr gk (ev_n B 0 rfl ⟨S.x, 158, S.dx, sAttrs S, .ref S.N, rfl, h0.hx, h0.hdx, by exact p2K hK rfl, rfl, ?_⟩)))
  refine exs_cons (for_n B 3 (src_tup (ev_n B 1 rfl ⟨t, _, rfl, htt, trivial, ?_⟩)))
  refine for_inv (fun j st => A3 (st.loc 0 = some (.ref S.x)) (st.loc 2 = some (.ref S.N)) (Holds D1 st.hp { S with np := ((nodes.take j).foldl (don1 S.succ) (S.np, l)).1, rd := some (r, ((nodes.take j).foldl (don1 S.succ) (S.np, l)).2), nf := S.nf + j })) ⟨rfl, rfl, ?_⟩ ?_ ?_
  · have : { S with np := ((nodes.take 0).foldl (don1 S.succ) (S.np, l)).1, rd := some (r, ((nodes.take 0).foldl (don1 S.succ) (S.np, l)).2), nf := S.nf + (0 : Nat) } = S := by
      simp only [List.take_zero, List.foldl_nil]
      rw [← hrd]; simp
    rw [this]; exact h0
  · intro j y rr2 hy rr4
    refine Exs.hide fun κ hκ => ?_
    obtain ⟨loc, hp3⟩ := rr2
    obtain ⟨l0, l2, h3⟩ := rr4
    simp only [one_l, one_t, one_r, one_v, one_k, List.getElem?_map, Option.map_eq_some_iff] at hy
    obtain ⟨node, hnode, rfl⟩ := hy
    have hkk : node ∈ S.keys := hnk node (List.mem_of_getElem? hnode)
    have hnp := hst j node hnode
    have hjl : (nodes.take j).length ≤ nodes.length := by simp; exact Nat.min_le_right _ _
    have hlj := don1_len hs10 (nodes.take j) (S.np, l)
    simp only at hlj
    have efold : (nodes.take (j + 1)).foldl (don1 S.succ) (S.np, l) = don1 S.succ ((nodes.take j).foldl (don1 S.succ) (S.np, l)) node := by rw [take_snoc hnode, List.foldl_append]; rfl
    rw [efold] at hκ
    generalize (nodes.take j).foldl (don1 S.succ) (S.np, l) = s at h3 hnp hlj hκ
    obtain ⟨np, rl⟩ := s
    simp only at h3 hnp hlj
    obtain ⟨n1, n2, n3⟩ := h3.hn node hkk
    obtain ⟨ep, hN⟩ := h3.hN
    refine exs_cons (ex_if (tr_none (ev_walrus B 4 (ev_dget gk (ev_n B 2 l2 ⟨S.N, _, ep, rfl, hN, ev_n B 3 rfl ⟨node, rfl, hN, ev_none ⟨rfl, ?_⟩⟩⟩)))))
    rw [aget_keys, if_pos hkk, if_neg (by exact Bool.false_ne_true)]
    refine exs_nil ?_
    refine exs_cons (set_n B 5 (ev_slot gk (ev_n B 4 rfl ⟨S.a node, 61, S.dn node, 63, 1, _, [], .int (np node), rfl, n1, n2, by exact p4K hK rfl, rfl, ?_⟩)))
    rw [hnp]
    refine exs_cons (ex_if (tr_icmp (ev_n B 5 rfl (ev_g gk B (a := .int (-1)) (by exact nsK hK rfl) rfl ⟨-1, -1, false, rfl, rfl, rfl, ?_⟩))))
    rw [if_neg (by decide)]
    refine exs_nil ?_
    refine exs_cons (set_slot_e gk (ev_g gk B (a := .int (-2)) (by exact nsK hK rfl) rfl (ev_n B 4 rfl ⟨S.a node, 61, S.dn node, 63, 1, _, [], rfl, n1, n2, by exact p4K hK rfl, by decide, ?_⟩)))
    have h4 := h3.setNp hkk (-2)
    obtain ⟨m1, m2, m3⟩ := h4.hn node hkk
    refine exs_cons (for_n B 6 (src_list (ev_slot gk (ev_n B 4 rfl ⟨S.a node, 61, S.dn node, 64, 2, _, [], .ref (S.sl node), rfl, m1, m2, by exact p4K hK rfl, rfl, S.sl node, _, rfl, m3, trivial, ?_⟩))))
    refine for_inv (fun i st => A3 (st.loc 0 = some (.ref S.x)) (st.loc 2 = some (.ref S.N)) (Holds D1 st.hp { S with np := (((S.succ node).take i).foldl dec1 (fun k => if k = node then -2 else np k, rl)).1, rd := some (r, (((S.succ node).take i).foldl dec1 (fun k => if k = node then -2 else np k, rl)).2), nf := S.nf + j })) ⟨l0, l2, h4⟩ ?_ ?_
    · intro i y rr2 hy rr4
      refine Exs.hide fun κ hκ => ?_
      obtain ⟨loc4, hp4⟩ := rr2
      obtain ⟨l0, l2, h5⟩ := rr4
      have hy : ((S.succ node).map AV.str)[i]? = some y := hy
      rw [List.getElem?_map, Option.map_eq_some_iff] at hy
      obtain ⟨u, hu, rfl⟩ := hy
      have huk : u ∈ S.keys := hsk node hkk u (List.mem_of_getElem? hu)
      have hli := dec1_len ((S.succ node).take i) (fun k => if k = node then -2 else np k, rl)
      have hil : ((S.succ node).take i).length ≤ (S.succ node).length := by simp; exact Nat.min_le_right _ _
      have := hs10 node
      simp only at hli
      have ef2 : ((S.succ node).take (i + 1)).foldl dec1 (fun k => if k = node then -2 else np k, rl) = dec1 (((S.succ node).take i).foldl dec1 (fun k => if k = node then -2 else np k, rl)) u := by rw [take_snoc hu, List.foldl_append]; rfl
      rw [ef2] at hκ
      generalize ((S.succ node).take i).foldl dec1 (fun k => if k = node then -2 else np k, rl) = s at h5 hli hκ
      obtain ⟨np5, rl5⟩ := s
      simp only at h5 hli
      obtain ⟨q1, q2, q3⟩ := h5.hn u huk
      obtain ⟨ep5, hN5⟩ := h5.hN
      refine exs_cons (set_n B 7 (ev_at (ev_n B 2 l2 (ev_n B 6 rfl ⟨.ref (S.a u), .dict hN5 (by rw [aget_keys, if_pos huk]), ?_⟩))))
      refine exs_cons (aug_slot gk (.inr rfl) (ev_n B 7 rfl ⟨S.a u, 61, S.dn u, 63, 1, _, [], np5 u, rfl, q1, q2, by exact p4K hK rfl, by exact p4K hK rfl, by decide, rfl, ev_int ⟨_, rfl, q1, q2, ?_⟩⟩))
      rw [if_neg (by decide)]
      have h6 := h5.setNp huk (np5 u - 1)
      obtain ⟨p1, p2, p3⟩ := h6.hn u huk
      have p1' := p1
      simp only [if_true] at p1'
      refine exs_cons (ex_if (tr_icmp (ev_slot gk (ev_n B 7 rfl ⟨S.a u, 61, S.dn u, 63, 1, _, [], .int (np5 u - 1), rfl, p1', p2, by exact p4K hK rfl, rfl, ev_int ⟨np5 u - 1, 0, _, rfl, rfl, rfl, ?_⟩⟩))))
      have sl6 := (h6.hn node hkk).3
      by_cases z : np5 u - 1 = 0
      · rw [show (np5 u - 1 == 0) = true from beq_iff_eq.mpr z, if_pos rfl]
        have hr6 := (h6.rd r rl5 rfl).1
        have h7 := h6.setRd (l := rl5) rfl (rl5 ++ [u])
        refine exs_cons (do_append B (ev_attr gk (ev_n B 0 l0 ⟨S.x, 158, S.dx, _, .ref r, rfl, h6.hx, h6.hdx, by exact p2K hK rfl, rfl, r, rfl, ⟨_, hr6⟩, ev_n B 6 rfl ⟨_, hr6, by simp; lia, exs_nil (exs_nil (hκ _ _ ⟨?_, l0, l2, ?_⟩))⟩⟩)))
        · have := (h7.hn node hkk).3
          rw [List.map_append] at this
          exact this
        · unfold dec1; simp only [z, if_true]
          rw [List.map_append] at h7
          rw [z] at h7
          exact h7
      · rw [show (np5 u - 1 == 0) = false from beq_eq_false_iff_ne.mpr z, if_neg (by decide)]
        refine exs_nil (exs_nil (hκ _ _ ⟨sl6, l0, l2, ?_⟩))
        unfold dec1; simp only [z, if_false]
        exact h6
    · intro rr0 rr1
      obtain ⟨loc4, hp4⟩ := rr0
      obtain ⟨l0, l2, h5⟩ := rr1
      have hl' : (SrcK.list (S.sl node) ((S.succ node).map AV.str)).one.length = (S.succ node).length := by simp [one_l, one_t, one_r, one_v, one_k]
      have h5 : Holds D1 hp4 { S with np := (((S.succ node).take ((S.succ node).length)).foldl dec1 (fun k => if k = node then -2 else np k, rl)).1, rd := some (r, (((S.succ node).take ((S.succ node).length)).foldl dec1 (fun k => if k = node then -2 else np k, rl)).2), nf := S.nf + j } := by rw [← hl']; exact h5
      rw [List.take_length] at h5
      refine exs_cons (aug_attr gk (.inl rfl) (ev_n B 0 l0 ⟨S.x, 158, S.dx, _, S.nf + j, rfl, h5.hx, h5.hdx, by exact p2K hK rfl, by exact p2K hK rfl, rfl, by show (4 : Nat) ≤ 900; decide, ev_int ⟨_, rfl, h5.hx, h5.hdx, ?_⟩⟩))
      rw [if_pos rfl]
      have h8 := h5.setAttrs (S' := { S with np := (don1 S.succ (np, rl) node).1, rd := some (r, (don1 S.succ (np, rl) node).2), nf := S.nf + (j + 1 : Nat) }) rfl (fun r2 l2 e => h5.rd r2 l2 e)
      have ej : S.nf + (j : Int) + 1 = S.nf + (j + 1 : Nat) := Int.add_assoc _ _ _
      rw [ej]
      exact exs_nil (hκ _ _ ⟨h8.le _ _ ht0, l0, l2, h8⟩)
  · intro rr0 rr1
    obtain ⟨loc, hp3⟩ := rr0
    obtain ⟨l0, l2, h3⟩ := rr1
    have hl' : (SrcK.tup t (nodes.map AV.str)).one.length = nodes.length := by simp [one_l, one_t, one_r, one_v, one_k]
    rw [hl', List.take_length] at h3
    exact exs_nil (hκ _ _ (h3.less leD))
end
end Mine
end
section
open PySem PySem.W PySem.Calls PyProof.Rows
set_option Elab.async false
set_option linter.unusedVariables false
set_option maxHeartbeats 1000000
namespace Mine
theorem dec1_fold : ∀ (us : List Str) (np : Str → Int) (rl : List Str), us.Nodup → us.foldl dec1 (np, rl) = (fun k => if k ∈ us then np k - 1 else np k, rl ++ us.filter fun u => decide (np u = 1)) := by
  intro us
  induction us with
  | nil =>
    intro np rl _
    simp
  | cons u r ih =>
    intro np rl h
    obtain ⟨hu, hr⟩ := List.nodup_cons.mp h
    rw [List.foldl_cons]
    unfold dec1
    rw [show (fun (s : NR) (u : Str) => ((fun k => if k = u then s.1 u - 1 else s.1 k, if s.1 u - 1 = 0 then s.2 ++ [u] else s.2) : NR)) = dec1 from rfl, ih _ _ hr]
    refine Prod.ext ?_ ?_
    · funext k
      simp only [List.mem_cons]
      by_cases z : k = u
      · subst z; simp [hu]
      · simp [z]
    · dsimp only
      have e : (r.filter fun u_1 => decide ((if u_1 = u then np u - 1 else np u_1) = 1)) = r.filter fun u => decide (np u = 1) := List.filter_congr fun x hx => by
        have : x ≠ u := fun z => hu (z ▸ hx)
        simp [this]
      rw [e]
      by_cases z : np u = 1
      · have : np u - 1 = 0 := by lia
        simp [z]
      · have : ¬ (np u - 1 = 0) := by lia
        simp [z, this]
section
variable (succ : Str → List Str) (keys : List Str)
noncomputable def wk : Nat → Str → Bool
  | 0, _ => true
  | t + 1, k => keys.any fun p => decide (k ∈ succ p) && wk t p
noncomputable def cnt (t : Nat) (k : Str) : Nat := keys.countP fun p => decide (k ∈ succ p) && wk succ keys t p
noncomputable def rnd (s : NR) : NR := s.2.foldl (don1 succ) (fun k => if k ∈ s.2 then -1 else s.1 k, [])
variable {succ keys}
theorem wk_mono : ∀ {t : Nat} {k : Str}, wk succ keys (t + 1) k = true → wk succ keys t k = true := by
  intro t
  induction t with
  | zero =>
    intro _ _
    rfl
  | succ t ih =>
    intro k h
    simp only [wk, List.any_eq_true, Bool.and_eq_true] at h ⊢
    obtain ⟨p, hp, h1, p', hp', h2, h3⟩ := h
    exact ⟨p, hp, h1, ih (k := p) (by simp only [wk, List.any_eq_true, Bool.and_eq_true]; exact ⟨p', hp', h2, h3⟩)⟩
theorem wk_cnt {t : Nat} {k : Str} : wk succ keys (t + 1) k = true ↔ 0 < cnt succ keys t k := by
  unfold cnt
  rw [List.countP_pos_iff]
  simp only [wk, List.any_eq_true]
structure Lvl (succ : Str → List Str) (keys : List Str) (t : Nat) (s : NR) : Prop where
  old : ∀ k ∈ keys, wk succ keys t k = false → s.1 k = -2
  num : ∀ k ∈ keys, wk succ keys t k = true → s.1 k = cnt succ keys t k
  nd : s.2.Nodup
  mem : ∀ k, k ∈ s.2 ↔ A3 (k ∈ keys) (wk succ keys t k = true) (wk succ keys (t + 1) k = false)
structure Mid (succ : Str → List Str) (grp : List Str) (np : Str → Int) (d : List Str) (s : NR) : Prop where
  num : ∀ k, s.1 k = if k ∈ d then -2 else if k ∈ grp then -1 else np k - (d.countP fun p => decide (k ∈ succ p) : Nat)
  nd : s.2.Nodup
  mem : ∀ k, k ∈ s.2 ↔ (∃ p ∈ d, k ∈ succ p) ∧ s.1 k = 0
theorem Mid.step {grp d : List Str} {np : Str → Int} {s : NR} {node : Str} (h : Mid succ grp np d s) (hsn : ∀ k, (succ k).Nodup) (hg : ∀ p ∈ grp, ∀ k ∈ grp, k ∉ succ p) (hc : ∀ p ∈ grp, ∀ k ∈ succ p, ((grp.countP fun p => decide (k ∈ succ p) : Nat) : Int) ≤ np k)
    (hd : d ++ [node] <+: grp) (hnd : grp.Nodup) : Mid succ grp np (d ++ [node]) (don1 succ s node) := by
  have hsub : ∀ x ∈ d ++ [node], x ∈ grp := fun x hx => hd.subset hx
  have hnode : node ∈ grp := hsub node (by simp)
  have hnn : node ∉ succ node := hg node hnode node hnode
  have hnotd : node ∉ d := by
    have := hd.sublist.nodup hnd
    rw [List.nodup_append] at this
    exact fun z => this.2.2 node z node (by simp) rfl
  obtain ⟨np1, rl⟩ := s
  have hnum := h.num
  have hmem := h.mem
  have hndd := h.nd
  simp only at hnum hmem hndd
  have hdon : don1 succ (np1, rl) node = (fun k => if k ∈ succ node then np1 k - 1 else if k = node then -2 else np1 k, rl ++ (succ node).filter fun u => decide (np1 u = 1)) := by
    unfold don1
    dsimp only
    rw [dec1_fold _ _ _ (hsn node)]
    refine Prod.ext ?_ ?_
    · funext k
      dsimp only
      by_cases z : k ∈ succ node
      · have : k ≠ node := fun y => hnn (y ▸ z)
        simp [z, this]
      · simp [z]
    · dsimp only
      congr 1
      refine List.filter_congr fun x hx => ?_
      have : x ≠ node := fun y => hnn (y ▸ hx)
      simp [this]
  have hsuc : ∀ k ∈ succ node, A3 (np1 k = np k - (d.countP fun p => decide (k ∈ succ p) : Nat)) (1 ≤ np1 k) (k ∉ grp) := fun k hk => by
    have hkg : k ∉ grp := fun z => hg node hnode k z hk
    have hkd : k ∉ d := fun z => hkg (hsub k (by simp [z]))
    have e := hnum k
    rw [if_neg hkd, if_neg hkg] at e
    refine ⟨e, ?_, hkg⟩
    have h1 := hc node hnode k hk
    have h2 : (d ++ [node]).countP (fun p => decide (k ∈ succ p)) ≤ grp.countP fun p => decide (k ∈ succ p) := hd.sublist.countP_le
    rw [List.countP_append] at h2
    simp [hk] at h2
    lia
  have hnum' : ∀ k, (don1 succ (np1, rl) node).1 k = if k ∈ d ++ [node] then -2 else if k ∈ grp then -1 else np k - ((d ++ [node]).countP fun p => decide (k ∈ succ p) : Nat) := fun k => by
    rw [hdon]
    dsimp only
    by_cases z : k ∈ succ node
    · obtain ⟨e1, e2, e3⟩ := hsuc k z
      rw [if_pos z, if_neg fun y => e3 (hsub k y), if_neg e3, e1, List.countP_append]
      simp [z]; lia
    · rw [if_neg z]
      by_cases y : k = node
      · subst y; simp
      · rw [if_neg y, hnum k, List.countP_append]
        simp [y, z]
  refine ⟨hnum', ?_, fun k => ?_⟩
  · rw [hdon]
    dsimp only
    rw [List.nodup_append]
    refine ⟨hndd, (hsn node).filter _, fun a ha b hb => ?_⟩
    rintro rfl
    have h1 := ((hmem a).mp ha).2
    rw [List.mem_filter, decide_eq_true_eq] at hb
    lia
  · rw [hdon]
    dsimp only
    rw [List.mem_append, List.mem_filter, decide_eq_true_eq, hmem k]
    constructor
    · rintro (⟨⟨p, hp, hk⟩, h0⟩ | ⟨hk, h1⟩)
      · refine ⟨⟨p, by simp [hp], hk⟩, ?_⟩
        by_cases z : k ∈ succ node
        · have := (hsuc k z).2; lia
        · rw [if_neg z]
          have : k ≠ node := fun y => hg p (hsub p (by simp [hp])) node hnode (y ▸ hk)
          rw [if_neg this]; exact h0
      · refine ⟨⟨node, by simp, hk⟩, ?_⟩
        rw [if_pos hk]; lia
    · rintro ⟨⟨p, hp, hk⟩, h0⟩
      by_cases z : k ∈ succ node
      · rw [if_pos z] at h0
        exact .inr ⟨z, by lia⟩
      · rw [if_neg z] at h0
        rcases List.mem_append.mp hp with hp | hp
        · refine .inl ⟨⟨p, hp, hk⟩, ?_⟩
          by_cases y : k = node
          · rw [if_pos y] at h0; cases h0
          · rw [if_neg y] at h0; exact h0
        · rw [List.mem_singleton.mp hp] at hk; exact absurd hk z
theorem Mid.all {grp : List Str} {np : Str → Int} (hsn : ∀ k, (succ k).Nodup) (hg : ∀ p ∈ grp, ∀ k ∈ grp, k ∉ succ p) (hc : ∀ p ∈ grp, ∀ k ∈ succ p, ((grp.countP fun p => decide (k ∈ succ p) : Nat) : Int) ≤ np k) (hnd : grp.Nodup) :
    ∀ j, j ≤ grp.length → Mid succ grp np (grp.take j) ((grp.take j).foldl (don1 succ) (fun k => if k ∈ grp then -1 else np k, []))
  | 0, _ => ⟨fun k => by simp, by simp, fun k => by simp⟩
  | j + 1, hj => by
    have hj' : grp[j]? = some grp[j] := List.getElem?_eq_getElem (Nat.succ_le_of_lt ‹_›)
    have := Mid.all hsn hg hc hnd j (Nat.le_of_lt ‹_›)
    rw [take_snoc hj', List.foldl_append]
    exact this.step hsn hg hc (by rw [← take_snoc hj']; exact List.take_prefix _ _) hnd
theorem Lvl.facts {t : Nat} {s : NR} (h : Lvl succ keys t s) (hsk : ∀ p ∈ keys, ∀ k ∈ succ p, k ∈ keys) (hkn : keys.Nodup) : A3 (∀ p ∈ s.2, ∀ k ∈ s.2, k ∉ succ p) (∀ p ∈ s.2, ∀ k ∈ succ p, ((s.2.countP fun p => decide (k ∈ succ p) : Nat) : Int) ≤ s.1 k) (∀ p ∈ s.2, ∀ k ∈ succ p, k ∈ keys ∧ wk succ keys (t + 1) k = true) := by
  have h3 : ∀ p ∈ s.2, ∀ k ∈ succ p, k ∈ keys ∧ wk succ keys (t + 1) k = true := fun p hp k hk => by
    obtain ⟨a, b, c⟩ := (h.mem p).mp hp
    refine ⟨hsk p a k hk, ?_⟩
    simp only [wk, List.any_eq_true, Bool.and_eq_true]
    exact ⟨p, a, by simpa using hk, b⟩
  refine ⟨fun p hp k hk z => ?_, fun p hp k hk => ?_, h3⟩
  · have := (h3 p hp k z).2
    rw [((h.mem k).mp hk).3] at this; cases this
  · obtain ⟨a, b⟩ := h3 p hp k hk
    rw [h.num k a (wk_mono b)]
    unfold cnt
    have h4 : (s.2.filter fun p => decide (k ∈ succ p)).length ≤ (keys.filter fun p => decide (k ∈ succ p) && wk succ keys t p).length := by
      refine nodup_sub_len (h.nd.filter _) fun x hx => ?_
      rw [List.mem_filter] at hx ⊢
      obtain ⟨q1, q2, q3⟩ := (h.mem x).mp hx.1
      exact ⟨q1, by simp [hx.2, q2]⟩
    rw [← List.countP_eq_length_filter, ← List.countP_eq_length_filter] at h4
    exact Int.ofNat_le.mpr ‹_›
theorem Lvl.step {t : Nat} {s : NR} (h : Lvl succ keys t s) (hsk : ∀ p ∈ keys, ∀ k ∈ succ p, k ∈ keys) (hkn : keys.Nodup) (hsn : ∀ k, (succ k).Nodup) : Lvl succ keys (t + 1) (rnd succ s) := by
  obtain ⟨f1, f2, f3⟩ := h.facts hsk hkn
  have m := Mid.all hsn f1 f2 h.nd s.2.length (Nat.le_refl _)
  rw [List.take_length] at m
  have m : Mid succ s.2 s.1 s.2 (rnd succ s) := m
  have hcnt : ∀ k, ((s.2.countP fun p => decide (k ∈ succ p)) : Nat) + cnt succ keys (t + 1) k = cnt succ keys t k := fun k => by
    unfold cnt
    have e1 : s.2.countP (fun p => decide (k ∈ succ p)) = keys.countP fun p => decide (k ∈ succ p) && (wk succ keys t p && !wk succ keys (t + 1) p) := by
      rw [List.countP_eq_length_filter, List.countP_eq_length_filter]
      refine Nat.le_antisymm (nodup_sub_len (h.nd.filter _) fun x hx => ?_) (nodup_sub_len (hkn.filter _) fun x hx => ?_)
      · rw [List.mem_filter] at hx ⊢
        obtain ⟨q1, q2, q3⟩ := (h.mem x).mp hx.1
        exact ⟨q1, by rw [hx.2, q2, q3]; rfl⟩
      · rw [List.mem_filter] at hx ⊢
        simp only [Bool.and_eq_true, Bool.not_eq_true'] at hx
        exact ⟨(h.mem x).mpr ⟨hx.1, hx.2.2.1, hx.2.2.2⟩, hx.2.1⟩
    rw [e1]
    clear e1 m f1 f2 f3 h hsk hkn
    generalize hks : keys = ks
    rw [← hks]
    have gen : ∀ l : List Str, (l.countP fun p => decide (k ∈ succ p) && (wk succ keys t p && !wk succ keys (t + 1) p)) + (l.countP fun p => decide (k ∈ succ p) && wk succ keys (t + 1) p) = l.countP fun p => decide (k ∈ succ p) && wk succ keys t p := fun l => by
      induction l with
      | nil => rfl
      | cons x r ih =>
        simp only [List.countP_cons]
        rw [← ih]
        by_cases a : k ∈ succ x
        · cases b : wk succ keys (t + 1) x
          · cases c : wk succ keys t x <;> simp [a] <;> exact Nat.add_right_comm _ _ _
          · simp [a, wk_mono b]; exact rfl
        · simp [a]
    exact gen keys
  refine ⟨fun k hk hw => ?_, fun k hk hw => ?_, m.nd, fun k => ?_⟩
  · have e := m.num k
    by_cases z : k ∈ s.2
    · rw [if_pos z] at e; exact e
    · rw [if_neg z, if_neg z] at e
      have hwt : wk succ keys t k = false := by
        cases q : wk succ keys t k with
        | false => rfl
        | true => exact absurd ((h.mem k).mpr ⟨hk, q, hw⟩) z
      have hz : (s.2.countP fun p => decide (k ∈ succ p)) = 0 := by
        rw [List.countP_eq_zero]
        intro p hp y
        have := (f3 p hp k (by simpa using y)).2
        rw [hw] at this; cases this
      rw [e, h.old k hk hwt, hz]; rfl
  · have e := m.num k
    have hks : k ∉ s.2 := fun z => by have := ((h.mem k).mp z).3; rw [hw] at this; cases this
    rw [if_neg hks, if_neg hks, h.num k hk (wk_mono hw)] at e
    have := hcnt k
    rw [e]; lia
  · rw [m.mem k]
    constructor
    · rintro ⟨⟨p, hp, hk⟩, h0⟩
      obtain ⟨a, b⟩ := f3 p hp k hk
      refine ⟨a, b, ?_⟩
      have e := m.num k
      have hks : k ∉ s.2 := fun z => by have := ((h.mem k).mp z).3; rw [b] at this; cases this
      rw [if_neg hks, if_neg hks, h.num k a (wk_mono b), h0] at e
      have := hcnt k
      cases q : wk succ keys (t + 1 + 1) k with
      | false => rfl
      | true => rw [wk_cnt] at q; lia
    · rintro ⟨a, b, c⟩
      have hks : k ∉ s.2 := fun z => by have := ((h.mem k).mp z).3; rw [b] at this; cases this
      have c0 : cnt succ keys (t + 1) k = 0 := by
        cases q : cnt succ keys (t + 1) k with
        | zero => rfl
        | succ m => have := (wk_cnt (succ := succ) (keys := keys) (t := t + 1) (k := k)).mpr (by lia); rw [c] at this; cases this
      have h1 := hcnt k
      have h2 := wk_cnt.mp b
      refine ⟨?_, ?_⟩
      · have : 0 < s.2.countP fun p => decide (k ∈ succ p) := by lia
        rw [List.countP_pos_iff] at this
        obtain ⟨p, hp, y⟩ := this
        exact ⟨p, hp, by simpa using y⟩
      · rw [m.num k, if_neg hks, if_neg hks, h.num k a (wk_mono b)]
        lia
noncomputable def rnds (succ : Str → List Str) (s : NR) : Nat → NR
  | 0 => s
  | t + 1 => rnd succ (rnds succ s t)
theorem Lvl.all {s : NR} (h : Lvl succ keys 0 s) (hsk : ∀ p ∈ keys, ∀ k ∈ succ p, k ∈ keys) (hkn : keys.Nodup) (hsn : ∀ k, (succ k).Nodup) : ∀ t, Lvl succ keys t (rnds succ s t)
  | 0 => h
  | t + 1 => (Lvl.all h hsk hkn hsn t).step hsk hkn hsn
theorem rnd_nil {s : NR} (h : s.2 = []) : rnd succ s = s := by
  obtain ⟨np, rl⟩ := s
  cases h
  unfold rnd
  simp
end
end Mine
end
section
open PySem PySem.W PySem.Calls PyProof.Rows
set_option Elab.async false
set_option linter.unusedVariables false
set_option maxRecDepth 100000
set_option maxHeartbeats 4000000
namespace Mine
variable {prog : Program} {w : World}
theorem FnE.mono {G : Gl} {n : Nat} {f : Addr} {xs : List AV} {hp : Hp0} {K K' : AV → Hp0 → Prop} {KE KE' : Value → List AV → Hp0 → Prop} (h : FnE prog w G n f xs hp K KE) (hk : ∀ v hp, K v hp → K' v hp) (hke : ∀ c xs hp, KE c xs hp → KE' c xs hp) : FnE prog w G n f xs hp K' KE' :=
  .mk fun C ex s st vs a b c d e => codeAny_mono (h.run C ex s st vs a b c d e) fun r s' z => by
    cases r with
    | error x => refine hide fun Pz hPz => ?_; (rcases z with ⟨hp', ea, cls, vs, xs, q1, q2, q3, q4, q5⟩) <;> (refine hPz ?_; clear hPz Pz); exact ⟨hp', ea, cls, vs, xs, q1, q2, q3, q4, hke _ _ _ q5⟩
    | ok o =>
      cases o with
      | ret v => obtain ⟨av, hp', q1, q2, q3⟩ := z; exact ⟨av, hp', q1, q2, hk _ _ q3⟩
      | _ => exact z
theorem Holds.swap {D hp : Hp} {S : Sor} (h : Holds D hp S) {l : Addr} {ys zs : List AV} (hl : D l = some (.list ys)) : Holds (hset D l (.list zs)) (hset hp l (.list zs)) S := by
  have hl2 := h.le _ _ hl
  have o : ∀ c X, hp c = some X → D c = none → hset hp l (.list zs) c = some X := fun c X e hc => (hset_other _ _ fun z => by rw [z, hl] at hc; cases hc).trans e
  have o2 : ∀ c, D c = none → hset D l (.list zs) c = none := fun c hc => (hset_other _ _ fun z => by rw [z, hl] at hc; cases hc).trans hc
  refine ⟨fun c X e => ?_, o _ _ h.hx h.nx.1, o _ _ h.hdx h.nx.2, by obtain ⟨ep, e⟩ := h.hN; exact ⟨ep, o _ _ e h.nx.3⟩, fun k hk => ?_, h.nd, h.inj, fun r q e => by obtain ⟨a, b, c⟩ := h.rd r q e; exact ⟨o _ _ a b, o2 _ b, c⟩, ⟨o2 _ h.nx.1, o2 _ h.nx.2, o2 _ h.nx.3⟩, fun k hk => ⟨o2 _ (h.nn k hk).1, o2 _ (h.nn k hk).2⟩, h.dflt⟩
  · by_cases z : c = l
    · subst z; rw [hset_self] at e ⊢; exact e
    · rw [hset_other _ _ z] at e ⊢; exact h.le _ _ e
  · obtain ⟨g1, g2, g3⟩ := h.hn k hk
    exact ⟨o _ _ g1 (h.nn k hk).1, (hset_other _ _ fun z => by rw [z, hl2] at g2; cases g2).trans g2, o _ _ g3 (h.nn k hk).2⟩
theorem mem_look {α : Type} {k : Str} {v : α} : ∀ {es : List (Str × α)}, look es k = some v → (k, v) ∈ es := by
  intro es
  induction es with
  | nil =>
    intro h
    cases h
  | cons p r ih =>
    intro h
    rw [look_cons] at h
    split at h
    · rename_i z; subst z; cases h; exact List.mem_cons_self
    · exact List.mem_cons_of_mem _ (ih h)
noncomputable def s0 (g : Gr) (keys : List Str) : NR := (npOf g, keys.filter fun k => decide (npOf g k = 0))
noncomputable def rsT (g : Gr) (keys : List Str) (t : Nat) : List (List Str) := ((List.range t).map fun i => (rnds (sucOf g) (s0 g keys) i).2).filter fun l => !l.isEmpty
noncomputable def KeyOk (g : Gr) (keys : List Str) : Prop := keys.Nodup ∧ ∀ k, k ∈ keys ↔ k ∈ g.map (·.1) ∨ ∃ p ∈ g, k ∈ p.2.map (·.1)
theorem suc_nodup {g : Gr} (gok : GrOk g) (k : Str) : (sucOf g k).Nodup := by
  unfold sucOf
  exact (List.filter_sublist.map _).nodup gok.nd
theorem mem_suc {g : Gr} {k u : Str} (gok : GrOk g) : u ∈ sucOf g k ↔ ∃ es, look g u = some es ∧ (look es k).isSome = true := by
  unfold sucOf
  rw [List.mem_map]
  constructor
  · rintro ⟨p, hp, rfl⟩
    rw [List.mem_filter] at hp
    exact ⟨p.2, (look_mem gok.nd).mp hp.1, hp.2⟩
  · rintro ⟨es, h1, h2⟩
    exact ⟨(u, es), List.mem_filter.mpr ⟨mem_look h1, h2⟩, rfl⟩
theorem suc_keys {g : Gr} {keys : List Str} (gok : GrOk g) (hk : KeyOk g keys) : ∀ p ∈ keys, ∀ k ∈ sucOf g p, k ∈ keys := fun p _ k h => by
  obtain ⟨es, h1, h2⟩ := (mem_suc gok).mp h
  exact (hk.2 k).mpr (.inl (List.mem_map.mpr ⟨(k, es), mem_look h1, rfl⟩))
theorem key_names {g : Gr} {keys : List Str} (gok : GrOk g) (hk : KeyOk g keys) : ∀ k ∈ keys, k ∈ lawNames := fun k h => by
  rcases (hk.2 k).mp h with h | ⟨p, hp, h⟩
  · obtain ⟨p, hp, rfl⟩ := List.mem_map.mp h
    exact (gok.nm p hp).1
  · obtain ⟨q, hq, rfl⟩ := List.mem_map.mp h
    exact (gok.nm p hp).3 q hq
theorem key_len {g : Gr} {keys : List Str} (gok : GrOk g) (hk : KeyOk g keys) : keys.length ≤ 5 := by
  have := nodup_sub_len hk.1 (key_names gok hk)
  simpa [lawNames] using this
theorem suc_len {g : Gr} (gok : GrOk g) (k : Str) : (sucOf g k).length ≤ 5 := by
  unfold sucOf
  rw [List.length_map]
  exact Nat.le_trans (List.length_filter_le _ _) gok.len
theorem lvl0 {g : Gr} {keys : List Str} (gok : GrOk g) (hk : KeyOk g keys) : Lvl (sucOf g) keys 0 (s0 g keys) := by
  have hn : ∀ k, npOf g k = cnt (sucOf g) keys 0 k := fun k => by
    unfold npOf cnt
    cases q : look g k with
    | none =>
      have : (keys.countP fun p => decide (k ∈ sucOf g p) && wk (sucOf g) keys 0 p) = 0 := by
        rw [List.countP_eq_zero]
        intro p hp z
        simp only [Bool.and_eq_true, decide_eq_true_eq] at z
        obtain ⟨es, h1, h2⟩ := (mem_suc gok).mp z.1
        rw [q] at h1; cases h1
      rw [this]; rfl
    | some es =>
      have hm := mem_look q
      have e : (keys.countP fun p => decide (k ∈ sucOf g p) && wk (sucOf g) keys 0 p) = es.length := by
        rw [List.countP_eq_length_filter, ← List.length_map (f := (·.1)) (as := es)]
        have hnd := (gok.nm _ hm).2
        refine Nat.le_antisymm (nodup_sub_len (hk.1.filter _) fun x hx => ?_) (nodup_sub_len hnd fun x hx => ?_)
        · rw [List.mem_filter] at hx
          simp only [Bool.and_eq_true, decide_eq_true_eq] at hx
          obtain ⟨es', h1, h2⟩ := (mem_suc gok).mp hx.2.1
          rw [q] at h1; cases h1
          obtain ⟨v, hv⟩ := Option.isSome_iff_exists.mp h2
          exact List.mem_map.mpr ⟨(x, v), mem_look hv, rfl⟩
        · rw [List.mem_filter]
          refine ⟨(hk.2 x).mpr (.inr ⟨_, hm, hx⟩), ?_⟩
          simp only [Bool.and_eq_true, decide_eq_true_eq]
          refine ⟨(mem_suc gok).mpr ⟨es, q, ?_⟩, rfl⟩
          obtain ⟨p, hp, rfl⟩ := List.mem_map.mp hx
          rw [(look_mem hnd).mp hp]; rfl
      rw [e]
  refine ⟨fun k _ h => (by cases h), fun k _ _ => hn k, hk.1.filter _, fun k => ?_⟩
  unfold s0
  dsimp only
  rw [List.mem_filter, decide_eq_true_eq, hn k]
  constructor
  · rintro ⟨a, b⟩
    refine ⟨a, rfl, ?_⟩
    cases q : wk (sucOf g) keys (0 + 1) k with
    | false => rfl
    | true => rw [wk_cnt] at q; lia
  · rintro ⟨a, _, b⟩
    refine ⟨a, ?_⟩
    cases q : cnt (sucOf g) keys 0 k with
    | zero => rfl
    | succ m => have := (wk_cnt (succ := sucOf g) (keys := keys) (t := 0) (k := k)).mpr (by lia); rw [b] at this; cases this
theorem lvls {g : Gr} {keys : List Str} (gok : GrOk g) (hk : KeyOk g keys) (t : Nat) : Lvl (sucOf g) keys t (rnds (sucOf g) (s0 g keys) t) := (lvl0 gok hk).all (suc_keys gok hk) hk.1 (suc_nodup gok) t
end Mine
end
section
open PySem PySem.W PySem.Calls PyProof.Rows
set_option Elab.async false
set_option linter.unusedVariables false
set_option maxRecDepth 100000
set_option maxHeartbeats 4000000
namespace Mine
variable {prog : Program} {w : World}
noncomputable def RingV (g : Gr) (keys : List Str) (D : Hp) (ring : AV) : Prop :=
  (ring = .none ∧ Acyc (sucOf g) keys) ∨ E3 fun tr nl nodes => A4 (ring = .ref tr) (D tr = some (.tup [.str cycMsg, .ref nl])) (D nl = some (.list (nodes.map .str))) (Ring (sucOf g) keys nodes)
theorem RingV.mono {g : Gr} {keys : List Str} {D D' : Hp} {ring : AV} (l : Le D D') : RingV g keys D ring → RingV g keys D' ring := fun h => h.imp id fun h => by
  obtain ⟨tr, nl, nodes, h1, h2, h3, h4⟩ := h
  exact ⟨tr, nl, nodes, h1, l _ _ h2, l _ _ h3, h4⟩
theorem rs_len {g : Gr} {keys : List Str} {t : Nat} : (rsT g keys t).length ≤ t := by
  unfold rsT
  exact Nat.le_trans (List.length_filter_le _ _) (by simp)
theorem rs_snoc {g : Gr} {keys : List Str} {t : Nat} : rsT g keys (t + 1) = if (rnds (sucOf g) (s0 g keys) t).2 = [] then rsT g keys t else rsT g keys t ++ [(rnds (sucOf g) (s0 g keys) t).2] := by
  unfold rsT
  rw [List.range_succ, List.map_append, List.filter_append]
  cases q : (rnds (sucOf g) (s0 g keys) t).2 with
  | nil => simp [q]
  | cons a r => simp [q]
theorem take_nodup' {l : List Str} (h : l.Nodup) {j : Nat} {x : Str} (e : l[j]? = some x) : x ∉ l.take j := by
  intro hm
  obtain ⟨i, hi⟩ := List.getElem?_of_mem hm
  rw [List.getElem?_take] at hi
  split at hi
  · have := (List.getElem?_inj (List.getElem?_eq_some_iff.mp hi).1 h).mp (hi.trans e.symm)
    lia
  · cases hi
section
variable {G : Gl} {P : Params}
theorem law_told_ok (gk : GOk G) (hK : G.K = hd.heap_1 P) {n : Nat} {vg : AV} {g : Gr} {hp : Hp} (hg : DctR (DctR IntR) hp vg g) (gok : GrOk g) :
    FnC prog w G (n + 7) 193 [vg] hp fun v hp' => Le hp hp' ∧ E4 fun keys t ring vr => A5 (KeyOk g keys) (v = .ref t) (hp' t = some (.tup [ring, vr, .bool ((rnds (sucOf g) (s0 g keys) 5).2.isEmpty)])) (LstR (TupR StrR) hp' vr (rsT g keys 5)) (RingV g keys hp' ring) := by
  refine fn_b gk ["callers", "sorter", "ring", "error", "rounds", "turn", "group"] 1 (by exact lkK hK rfl) (by exact cdK hK rfl) fun A env own fr B rm hcd => ?_
  refine Exs.hide fun κ hκ => ?_
  refine exs_cons (set_n B 1 (ev_make gk B rm (fun dx => .inst 158 dx) (fun dx => rfl) (fI := 94) (by exact nsK hK rfl) (by exact p2K hK rfl) (es_c (ev_n B 0 rfl (es_nil fun x dx hx hdx hne => ?_)))))
  refine FnC.mono (sorter_init_ok gk hK hx hdx hne hg gok) fun v hp1 hy53 => ?_
  refine hide fun Pz hPz => ?_; (rcases hy53 with ⟨e1, S, hS, ex, er, ep, ef, enp, esu, hmem⟩) <;> (refine hPz ?_; clear hPz Pz)
  refine ⟨e1, ?_⟩
  have hS : Holds hp hp1 S := hS
  subst ex
  have hko : KeyOk g S.keys := ⟨hS.nd, hmem⟩
  refine exs_cons (set_n B 2 (ev_none ?_))
  have hsl5 : ∀ k, (S.succ k).length ≤ 5 := fun k => by rw [esu]; exact suc_len gok k
  have hk5 := key_len gok hko
  have hsk : ∀ k ∈ S.keys, ∀ u ∈ S.succ k, u ∈ S.keys := by rw [esu]; exact suc_keys gok hko
  have hxx := hS.hx
  have es0 : (S.keys.filter fun k => decide (S.np k = 0)) = (s0 g S.keys).2 := by rw [enp]; rfl
  refine exs_cons (Ex.mono (K := fun f st => A3 (f = .next) (st.loc 1 = some (.ref S.x)) (E3 fun ring D1 r => A4 (st.loc 2 = some ring) (Le hp D1) (Holds D1 st.hp { S with rd := some (r, (s0 g S.keys).2) }) (RingV g S.keys D1 ring))) ?_ ?_)
  · have pr := @prepare_ok prog w G P gk hK (n + 4) hp hp1 S hS er (Nat.le_trans ‹_› (by decide)) (fun k => by have := hsl5 k; exact Nat.le_trans ‹_› (by decide)) hsk
    refine ex_try_args gk B hcd.2 rm 2 3 (f := 113) (DC := 76) (by exact fbK hK rfl) (by exact nsK hK rfl) (by rw [hK]; exact cyc76) (ev_n B 1 rfl ⟨S.x, 158, S.dx, sAttrs S, rfl, hxx, hS.hdx, by exact p3K hK rfl, rfl, FnE.mono pr (fun v hp2 ⟨r, h2, hac⟩ => ?_) fun c xs hp2 ⟨e2, r, nl, nodes, exs, hnl, h2, hring⟩ => ⟨e2, fun t ht => ?_⟩⟩)
    · rw [es0] at h2
      rw [esu] at hac
      exact ⟨rfl, rfl, .none, hp, r, rfl, Le.refl _, h2, .inl ⟨rfl, hac⟩⟩
    · rw [es0] at h2
      rw [esu] at hring
      subst exs
      have ht : hp2 t = none := ht
      have h3 := h2.aside (A := .tup [.str cycMsg, .ref nl]) ht
      have lD : Le hp (hset hp nl (.list (nodes.map .str))) := Le.new hnl
      have hDt := h2.le.none ht
      have hnt : nl ≠ t := fun z => by rw [← z, hset_self] at hDt; cases hDt
      refine ⟨rfl, rfl, .ref t, _, r, rfl, lD.trans (Le.new hDt), h3, .inr ⟨t, nl, nodes, rfl, hset_self _ _ _, (hset_other _ _ hnt).trans (hset_self _ _ _), hring⟩⟩
  · rintro f ⟨loc, hp2⟩ ⟨rfl, l1, ring, D1, r, l2, leD, hS1, hrv⟩
    have hS1 : Holds D1 hp2 { S with rd := some (r, (s0 g S.keys).2) } := hS1
    refine exs_cons (set_n B 4 (ev_list (es_nil ⟨by decide, fun l hl => ?_⟩)))
    have hl : hp2 l = none := hl
    have hDl : D1 l = none := hS1.le.none hl
    have hr : nsIn G.K mainGlobals (Str.ofString "range") = some none := by exact nsK hK rfl
    refine exs_cons (for_r gk B 5 (fun t st => A4 (st.loc 1 = some (.ref S.x)) (st.loc 2 = some ring) (st.loc 4 = some (.ref l)) (E3 fun D2 ys S2 => A5 (Le D1 D2) (D2 l = some (.list ys)) (All2 (TupR StrR D2) ys (rsT g S.keys t)) (Holds D2 st.hp S2) (S2 = { S with np := (rnds (sucOf g) (s0 g S.keys) t).1, rd := some (r, (rnds (sucOf g) (s0 g S.keys) t).2), po := S2.po, nf := S2.po }))) hr
      (es_c (ev_int (es_nil ⟨0, 5, rfl, by decide, by decide, ⟨l1, l2, rfl, _, [], { S with rd := some (r, (s0 g S.keys).2) }, Le.new hDl, hset_self _ _ _, .nil, hS1.aside hl, ?_⟩, ?_, ?_⟩))))
    · show ({ S with rd := some (r, (s0 g S.keys).2) } : Sor) = { S with np := npOf g, rd := some (r, (s0 g S.keys).2), po := S.po, nf := S.po }
      rw [← enp]
      have : S.nf = S.po := by rw [ef, ep]
      rw [← this]
    · intro t rr1 ht5 rr3
      refine Exs.hide fun κ hκ => ?_
      obtain ⟨loc3, hp3⟩ := rr1
      refine hide fun Pz hPz => ?_; (rcases rr3 with ⟨l1, l2, l4, D2, ys, S2, le12, hlD, hall, hS2, eS2⟩) <;> (refine hPz ?_; clear hPz Pz)
      have hS2 : Holds D2 hp3 S2 := hS2
      have hlv := lvls gok hko t
      have hfac := hlv.facts (suc_keys gok hko) hko.1
      have hrs := @rs_snoc g S.keys t
      have hrn : rnds (sucOf g) (s0 g S.keys) (t + 1) = rnd (sucOf g) (rnds (sucOf g) (s0 g S.keys) t) := rfl
      have hysl : ys.length ≤ 10 := by
        rw [hall.length]
        have := @rs_len g S.keys t
        have : t < 5 := by simpa using ht5
        exact Nat.le_trans ‹_› (Nat.le_trans (Nat.le_of_lt ‹_›) (by decide))
      rw [hrs, hrn] at hκ
      generalize rnds (sucOf g) (s0 g S.keys) t = s at hlv hfac eS2 hκ
      obtain ⟨np, rl⟩ := s
      simp only at eS2 hfac
      have rlk : ∀ k ∈ rl, k ∈ S.keys := fun k hk => ((hlv.mem k).mp hk).1
      have rll : rl.length ≤ 5 := by
        have := nodup_sub_len hlv.nd rlk
        simp only at this; exact Nat.le_trans ‹_› ‹_›
      have e2x : S2.x = S.x := by rw [eS2]
      have e2rd : S2.rd = some (r, rl) := by rw [eS2]
      have e2k : S2.keys = S.keys := by rw [eS2]
      have e2su : S2.succ = sucOf g := by rw [eS2]; exact esu
      have e2np : S2.np = np := by rw [eS2]
      have e2nf : S2.nf = S2.po := by rw [eS2]
      have hx2 := hS2.hx
      rw [e2x] at hx2
      have ia := @is_active_ok prog w G P gk hK (n + 5) D2 hp3 S2 r rl hS2 e2rd (Nat.le_trans ‹_› (by decide))
      rw [e2x] at ia
      refine exs_cons (ex_if (tr_v (ev_meth gk B rm (f := 127) (by exact fbK hK rfl) (ev_n B 1 l1 ⟨S.x, 158, S2.dx, sAttrs S2, rfl, hx2, hS2.hdx, by exact p3K hK rfl, rfl, es_nil (FnC.mono ia fun v hp4 hz61 => ?_)⟩))))
      obtain ⟨ev, eh⟩ := hz61
      subst ev; subst hp4
      rw [e2nf]
      refine ⟨_, .bool, ?_⟩
      rw [show decide (S2.po < S2.po) = false by simp, Bool.false_or]
      by_cases hrl : rl = []
      · subst hrl
        rw [show (!([] : List Str).isEmpty) = false from rfl, if_neg (by decide)]
        rw [if_pos rfl, rnd_nil rfl] at hκ
        exact exs_nil (exs_nil (hκ _ _ ⟨l1, l2, l4, D2, ys, S2, le12, hlD, hall, hS2, eS2⟩))
      · rw [show (!rl.isEmpty) = true by cases rl with | nil => exact absurd rfl hrl | cons _ _ => rfl, if_pos rfl]
        rw [if_neg hrl] at hκ
        have gr := @get_ready_ok prog w G P gk hK (n + 5) D2 hp3 S2 r rl hS2 e2rd (by rw [e2k]; exact rlk) (Nat.le_trans ‹_› (by decide))
        rw [e2x] at gr
        refine exs_cons (set_n B 6 (ev_meth gk B rm (f := 120) (by exact fbK hK rfl) (ev_n B 1 l1 ⟨S.x, 158, S2.dx, sAttrs S2, rfl, hx2, hS2.hdx, by exact p3K hK rfl, rfl, es_nil (FnC.mono gr fun v hp4 hz62 => ?_)⟩)))
        obtain ⟨tt, ev, hDtt, h4⟩ := hz62
        subst ev
        have htl : tt ≠ l := fun z => by rw [z, hlD] at hDtt; cases hDtt
        have le23 : Le D2 (hset D2 tt (.tup (rl.map .str))) := Le.new hDtt
        have hl3 := le23 _ _ hlD
        have hlh := h4.le _ _ hl3
        refine exs_cons (do_append B (ev_n B 4 l4 ⟨l, rfl, ⟨_, hlh⟩, ev_n B 6 rfl ⟨ys, hlh, Nat.le_trans ‹_› (by decide), ?_⟩⟩))
        have h5 := h4.swap (zs := ys ++ [.ref tt]) hl3
        have htt5 : hset (hset D2 tt (.tup (rl.map .str))) l (.list (ys ++ [.ref tt])) tt = some (.tup (rl.map .str)) := (hset_other _ _ htl).trans (hset_self _ _ _)
        have hx5 : hset hp4 l (.list (ys ++ [.ref tt])) S.x = some (.inst 158 S2.dx) := h5.hx
        have hmid := Mid.all (succ := sucOf g) (grp := rl) (np := np) (suc_nodup gok) hfac.1 hfac.2 hlv.nd
        have dn := @done_ok prog w G P gk hK (n + 5) _ _ { S2 with x := S.x, np := fun k => if k ∈ rl then -1 else S2.np k, rd := some (r, []), po := S2.po + rl.length } r [] rl h5 rfl (by simp) (Nat.le_trans ‹_› (by decide)) (fun k => by show (S2.succ k).length ≤ 10; rw [e2su]; have := suc_len gok k; exact Nat.le_trans ‹_› (by decide))
          (by show ∀ k ∈ S2.keys, ∀ u ∈ S2.succ k, u ∈ S2.keys; rw [e2k, e2su]; exact suc_keys gok hko) (by show ∀ k ∈ rl, k ∈ S2.keys; rw [e2k]; exact rlk) (fun j node hj => by
            show ((rl.take j).foldl (don1 S2.succ) (fun k => if k ∈ rl then -1 else S2.np k, [])).1 node = -1
            rw [e2su, e2np]
            have hjl : j < rl.length := (List.getElem?_eq_some_iff.mp hj).1
            rw [(hmid j (Nat.le_of_lt ‹_›)).num node, if_neg (take_nodup' hlv.nd hj), if_pos (List.mem_of_getElem? hj)])
        refine exs_cons (do_e B (ev_lone gk B rm (f := 141) (ev_n B 1 l1 ⟨S.x, 158, S2.dx, _, rfl, hx5, h5.hdx, by exact p3K hK rfl, rfl, ev_n B 6 rfl ⟨_, .tup (h5.le _ _ htt5) (by simp; exact Nat.le_trans ‹_› (by decide)), ?_⟩⟩)))
        refine FnC.mono dn fun v hp6 h6 => ?_
        refine exs_nil (exs_nil (hκ _ _ ⟨l1, l2, l4, _, ys ++ [.ref tt], _, (le12.trans le23).put hDl, hset_self _ _ _, ?_, h6, ?_⟩))
        · refine All2.snoc (hall.mono fun y gx hy56 => ?_) ⟨tt, _, rfl, htt5, strs_all rl⟩
          obtain ⟨a, zs, q1, q2, q3⟩ := hy56
          refine ⟨a, zs, q1, ?_, q3⟩
          rw [hset_other _ _ fun z => by rw [z, hlD] at q2; cases q2]
          exact le23 _ _ q2
        · dsimp only
          rw [e2nf, e2su, e2np]
          rw [eS2, ← esu]
          rfl
    · intro rr0 rr1
      obtain ⟨loc3, hp3⟩ := rr0
      refine hide fun Pz hPz => ?_; (rcases rr1 with ⟨l1, l2, l4, D2, ys, S2, le12, hlD, hall, hS2, eS2⟩) <;> (refine hPz ?_; clear hPz Pz)
      have hS2 : Holds D2 hp3 S2 := hS2
      have hall : All2 (TupR StrR D2) ys (rsT g S.keys 5) := hall
      have eS2 : S2 = { S with np := (rnds (sucOf g) (s0 g S.keys) 5).1, rd := some (r, (rnds (sucOf g) (s0 g S.keys) 5).2), po := S2.po, nf := S2.po } := eS2
      have e2x : S2.x = S.x := by rw [eS2]
      have e2rd : S2.rd = some (r, (rnds (sucOf g) (s0 g S.keys) 5).2) := by rw [eS2]
      have e2nf : S2.nf = S2.po := by rw [eS2]
      have hx2 := hS2.hx
      rw [e2x] at hx2
      have hl5 : (rnds (sucOf g) (s0 g S.keys) 5).2.length ≤ 100 := by
        have hlv := lvls gok hko 5
        have := nodup_sub_len hlv.nd fun k hk => ((hlv.mem k).mp hk).1
        exact Nat.le_trans ‹_› (Nat.le_trans ‹_› (by decide))
      have ia := @is_active_ok prog w G P gk hK (n + 5) D2 hp3 S2 r _ hS2 e2rd hl5
      rw [e2x] at ia
      refine exs_cons (ex_return (ev_tup (es_c (ev_n B 2 l2 (es_c (ev_n B 4 l4 (es_c (ev_cmp (ev_meth gk B rm (f := 127) (by exact fbK hK rfl) (ev_n B 1 l1 ⟨S.x, 158, S2.dx, sAttrs S2, rfl, hx2, hS2.hdx, by exact p3K hK rfl, rfl, es_nil (FnC.mono ia fun v hp4 hz64 => ?_)⟩)) rfl))))))))
      obtain ⟨ev, eh⟩ := hz64
      subst ev; subst hp4
      refine ev_bool fun va vb ha hb => op_is_bool ha hb (es_nil ⟨by show (3 : Nat) ≤ 1000; decide, fun t ht => ?_⟩)
      have ht : hp3 t = none := ht
      have lel : ∀ A, Le hp3 (hset hp3 t A) := fun A => Le.new ht
      refine hκ _ _ ⟨(leD.trans le12).trans (hS2.le.trans (lel _)), S.keys, t, ring, .ref l, hko, rfl, ?_, ?_, hrv.mono (le12.trans (hS2.le.trans (lel _)))⟩
      · show hset hp3 t _ t = _
        rw [hset_self, e2nf]
        cases (rnds (sucOf g) (s0 g S.keys) 5).2 <;> simp
      · exact ⟨l, ys, rfl, lel _ _ _ (hS2.le _ _ hlD), hall.mono fun y gx h => TupR.mono StrR.mono _ _ _ _ (hS2.le.trans (lel _)) h⟩
end
end Mine
end
section
open PySem PySem.W PySem.Calls PyProof.Rows
set_option Elab.async false
set_option linter.unusedVariables false
set_option maxHeartbeats 1000000
namespace Mine
theorem lt_four {m : Nat} (h : m < 4) : m = 0 ∨ m = 1 ∨ m = 2 ∨ m = 3 := (by decide : ∀ m, m < 4 → m = 0 ∨ m = 1 ∨ m = 2 ∨ m = 3) m h
theorem lt_five {m : Nat} (h : m < 5) : m = 0 ∨ m = 1 ∨ m = 2 ∨ m = 3 ∨ m = 4 := (by decide : ∀ m, m < 5 → m = 0 ∨ m = 1 ∨ m = 2 ∨ m = 3 ∨ m = 4) m h
theorem pos_or {a b : Int} (h : 0 < a + b) : 0 < a ∨ 0 < b := by omega
theorem sum5_pos {f : Nat → Int} (h : ∀ c, c < 5 → 0 ≤ f c) : 0 < sum5 f ↔ ∃ c, c < 5 ∧ 0 < f c := by
  unfold sum5
  have h0 := h 0 (by decide); have h1 := h 1 (by decide); have h2 := h 2 (by decide); have h3 := h 3 (by decide); have h4 := h 4 (by decide)
  have n1 := Int.add_nonneg h0 h1; have n2 := Int.add_nonneg n1 h2; have n3 := Int.add_nonneg n2 h3
  constructor
  · intro hs
    rcases pos_or hs with hs | z
    · rcases pos_or hs with hs | z
      · rcases pos_or hs with hs | z
        · rcases pos_or hs with z | z
          · exact ⟨0, by decide, z⟩
          · exact ⟨1, by decide, z⟩
        · exact ⟨2, by decide, z⟩
      · exact ⟨3, by decide, z⟩
    · exact ⟨4, by decide, z⟩
  · rintro ⟨c, hc, hf⟩
    have r : ∀ {a b : Int}, 0 < a → 0 ≤ b → 0 < a + b := fun x y => Int.add_pos_of_pos_of_nonneg x y
    have l : ∀ {a b : Int}, 0 ≤ a → 0 < b → 0 < a + b := fun x y => Int.add_pos_of_nonneg_of_pos x y
    rcases lt_five hc with rfl | rfl | rfl | rfl | rfl
    · exact r (r (r (r hf h1) h2) h3) h4
    · exact r (r (r (l h0 hf) h2) h3) h4
    · exact r (r (l n1 hf) h3) h4
    · exact r (l n2 hf) h4
    · exact l n3 hf
theorem sum5_nonneg {f : Nat → Int} (h : ∀ c, c < 5 → 0 ≤ f c) : 0 ≤ sum5 f := by
  unfold sum5
  have h0 := h 0 (by decide); have h1 := h 1 (by decide); have h2 := h 2 (by decide); have h3 := h 3 (by decide); have h4 := h 4 (by decide)
  exact Int.add_nonneg (Int.add_nonneg (Int.add_nonneg (Int.add_nonneg h0 h1) h2) h3) h4
noncomputable def WOk (W : Nat → Nat → Int) : Prop := ∀ i j, i < 5 → j < 5 → 0 ≤ W i j ∧ W i j ≤ 9
theorem PW_nonneg {W : Nat → Nat → Int} (hW : WOk W) : ∀ (t : Nat) i j, i < 5 → j < 5 → 0 ≤ PW W t i j := by
  intro t
  induction t with
  | zero =>
    intro i j hi hj
    exact (hW i j hi hj).1
  | succ t ih =>
    intro i j hi hj
    exact sum5_nonneg fun m hm => Int.mul_nonneg (ih i m hi hm) (hW m j hm hj).1
structure GW (g : Gr) (W : Nat → Nat → Int) : Prop where
  ok : GrOk g
  at' : ∀ p, p < 5 → ∃ es, look g (nm p) = some es ∧ ∀ k, look es k = look (nzl fun c => W c p) k
theorem nm_mem {p : Nat} (hp : p < 5) : nm p ∈ lawNames := mem_names.mpr ⟨p, hp, rfl⟩
theorem GW.suc {g : Gr} {W : Nat → Nat → Int} (h : GW g W) {p : Nat} (hp : p < 5) {k : Str} : nm p ∈ sucOf g k ↔ ∃ c, A3 (c < 5) (k = nm c) (0 < W c p) := by
  obtain ⟨es, h1, h2⟩ := h.at' p hp
  rw [mem_suc h.ok]
  constructor
  · rintro ⟨es', e1, e2⟩
    rw [h1] at e1; cases e1
    rw [h2 k] at e2
    by_cases z : k ∈ lawNames
    · obtain ⟨c, hc, rfl⟩ := mem_names.mp z
      refine ⟨c, hc, rfl, ?_⟩
      rw [nzl_look hc] at e2
      split at e2
      · assumption
      · cases e2
    · rw [nzl_other z] at e2; cases e2
  · rintro ⟨c, hc, rfl, hw⟩
    refine ⟨es, h1, ?_⟩
    rw [h2, nzl_look hc, if_pos hw]; rfl
theorem GW.keys {g : Gr} {W : Nat → Nat → Int} (h : GW g W) {keys : List Str} (hk : KeyOk g keys) (k : Str) : k ∈ keys ↔ k ∈ lawNames := by
  refine ⟨key_names h.ok hk k, fun z => ?_⟩
  obtain ⟨p, hp, rfl⟩ := mem_names.mp z
  obtain ⟨es, h1, _⟩ := h.at' p hp
  exact (hk.2 _).mpr (.inl (List.mem_map.mpr ⟨_, mem_look h1, rfl⟩))
theorem GW.wk_succ {g : Gr} {W : Nat → Nat → Int} (h : GW g W) {keys : List Str} (hk : KeyOk g keys) {t p : Nat} (hp : p < 5) : wk (sucOf g) keys (t + 1) (nm p) = true ↔ ∃ c, A3 (c < 5) (0 < W c p) (wk (sucOf g) keys t (nm c) = true) := by
  simp only [wk, List.any_eq_true, Bool.and_eq_true, decide_eq_true_eq]
  constructor
  · rintro ⟨k, hkk, h1, h2⟩
    obtain ⟨c, hc, rfl, hw⟩ := (h.suc hp).mp h1
    exact ⟨c, hc, hw, h2⟩
  · rintro ⟨c, hc, hw, h2⟩
    exact ⟨nm c, (h.keys hk _).mpr (nm_mem hc), (h.suc hp).mpr ⟨c, hc, rfl, hw⟩, h2⟩
theorem GW.wk_pw {g : Gr} {W : Nat → Nat → Int} (h : GW g W) (hW : WOk W) {keys : List Str} (hk : KeyOk g keys) : ∀ (t p : Nat), p < 5 → (wk (sucOf g) keys (t + 1) (nm p) = true ↔ 0 < sum5 fun o => PW W t o p) := by
  intro t
  induction t with
  | zero =>
    intro p hp
    rw [h.wk_succ hk hp, sum5_pos fun c hc => PW_nonneg hW 0 c p hc hp]
    constructor
    · rintro ⟨c, hc, hw, _⟩; exact ⟨c, hc, hw⟩
    · rintro ⟨c, hc, hw⟩; exact ⟨c, hc, hw, rfl⟩
  | succ t ih =>
    intro p hp
    rw [h.wk_succ hk hp, sum5_pos fun c hc => PW_nonneg hW (t + 1) c p hc hp]
    constructor
    · rintro ⟨c, hc, hw, h2⟩
      rw [ih c hc, sum5_pos fun o ho => PW_nonneg hW t o c ho hc] at h2
      obtain ⟨o, ho, h3⟩ := h2
      refine ⟨o, ho, ?_⟩
      show 0 < sum5 fun m => PW W t o m * W m p
      rw [sum5_pos fun m hm => Int.mul_nonneg (PW_nonneg hW t o m ho hm) (hW m p hm hp).1]
      exact ⟨c, hc, Int.mul_pos h3 hw⟩
    · rintro ⟨o, ho, h2⟩
      have h2 : 0 < sum5 fun m => PW W t o m * W m p := h2
      rw [sum5_pos fun m hm => Int.mul_nonneg (PW_nonneg hW t o m ho hm) (hW m p hm hp).1] at h2
      obtain ⟨c, hc, h3⟩ := h2
      have a1 := PW_nonneg hW t o c ho hc
      have a2 := (hW c p hc hp).1
      have b1 : 0 < W c p := by
        rcases Int.lt_or_eq_of_le a2 with z | z
        · exact z
        · rw [← z, Int.mul_zero] at h3; exact absurd h3 (by decide)
      have b2 : 0 < PW W t o c := by
        rcases Int.lt_or_eq_of_le a1 with z | z
        · exact z
        · rw [← z, Int.zero_mul] at h3; exact absurd h3 (by decide)
      refine ⟨c, hc, b1, ?_⟩
      rw [ih c hc, sum5_pos fun o ho => PW_nonneg hW t o c ho hc]
      exact ⟨o, ho, b2⟩
theorem rkf_le (q : Nat → Bool) (n : Nat) : rkf q n ≤ n := by
  induction n with
  | zero => exact Nat.le_refl _
  | succ n ih =>
    show (if q n = true then n + 1 else rkf q n) ≤ n + 1
    split
    · exact Nat.le_refl _
    · exact Nat.le_succ_of_le ih
theorem rkf_hi (q : Nat → Bool) (n : Nat) : ∀ j, rkf q n ≤ j → j < n → q j = false := by
  induction n with
  | zero => exact fun j _ h => absurd h (Nat.not_lt_zero _)
  | succ n ih =>
    intro j h1 h2
    have h1 : (if q n = true then n + 1 else rkf q n) ≤ j := h1
    split at h1
    · exact absurd h2 (Nat.not_lt_of_le h1)
    · rename_i z
      rcases Nat.lt_or_eq_of_le (Nat.le_of_lt_succ h2) with y | y
      · exact ih j h1 y
      · subst y; exact Bool.eq_false_iff.mpr z
theorem rkf_at (q : Nat → Bool) (n : Nat) : ∀ r, rkf q n = r + 1 → q r = true := by
  induction n with
  | zero => exact fun r h => by cases h
  | succ n ih =>
    intro r h
    have h : (if q n = true then n + 1 else rkf q n) = r + 1 := h
    split at h
    · rename_i z; cases h; exact z
    · exact ih r h
theorem wk_anti {succ : Str → List Str} {keys : List Str} {k : Str} : ∀ {t u : Nat}, u ≤ t → wk succ keys t k = true → wk succ keys u k = true := by
  intro t
  induction t with
  | zero =>
    intro u h e
    rw [Nat.le_zero.mp h]; exact e
  | succ t ih =>
    intro u h e
    by_cases z : u = t + 1
    · rw [z]; exact e
    · exact ih (by lia) (wk_mono e)
theorem GW.rank_wk {g : Gr} {W : Nat → Nat → Int} (h : GW g W) (hW : WOk W) {keys : List Str} (hk : KeyOk g keys) {p : Nat} (hp : p < 5) : A3 (wk (sucOf g) keys (rank (PW W) p) (nm p) = true) (rank (PW W) p < 5 → wk (sucOf g) keys (rank (PW W) p + 1) (nm p) = false) (rank (PW W) p ≤ 5) := by
  unfold rank
  have hq : ∀ t, decide (0 < sum5 fun o => PW W t o p) = wk (sucOf g) keys (t + 1) (nm p) := fun t => by
    cases e : wk (sucOf g) keys (t + 1) (nm p) with
    | true => rw [decide_eq_true_eq]; exact (h.wk_pw hW hk t p hp).mp e
    | false =>
      rw [decide_eq_false_iff_not]
      intro z
      rw [(h.wk_pw hW hk t p hp).mpr z] at e; cases e
  refine ⟨?_, fun hr => ?_, rkf_le _ 5⟩
  · cases e : rkf (fun t => decide (0 < sum5 fun o => PW W t o p)) 5 with
    | zero => rfl
    | succ r =>
      have := rkf_at _ 5 r e
      rw [hq] at this; exact this
  · have := rkf_hi (fun t => decide (0 < sum5 fun o => PW W t o p)) 5 _ (Nat.le_refl _) hr
    rw [hq] at this; exact this
theorem GW.rank_iff {g : Gr} {W : Nat → Nat → Int} (h : GW g W) (hW : WOk W) {keys : List Str} (hk : KeyOk g keys) {p r : Nat} (hp : p < 5) (hr : r < 5) : rank (PW W) p = r ↔ wk (sucOf g) keys r (nm p) = true ∧ wk (sucOf g) keys (r + 1) (nm p) = false := by
  obtain ⟨h1, h2, h3⟩ := h.rank_wk hW hk hp
  constructor
  · rintro rfl; exact ⟨h1, h2 hr⟩
  · rintro ⟨a, b⟩
    rcases Nat.lt_trichotomy (rank (PW W) p) r with z | z | z
    · have := wk_anti (t := r) (u := rank (PW W) p + 1) z a
      rw [h2 (Nat.lt_trans ‹_› ‹_›)] at this; cases this
    · exact z
    · have := wk_anti (t := rank (PW W) p) (u := r + 1) z h1
      rw [b] at this; cases this
theorem GW.rank5 {g : Gr} {W : Nat → Nat → Int} (h : GW g W) (hW : WOk W) {keys : List Str} (hk : KeyOk g keys) {p : Nat} (hp : p < 5) : rank (PW W) p = 5 ↔ wk (sucOf g) keys 5 (nm p) = true := by
  obtain ⟨h1, h2, h3⟩ := h.rank_wk hW hk hp
  constructor
  · intro e; rw [e] at h1; exact h1
  · intro e
    rcases Nat.lt_or_ge (rank (PW W) p) 5 with z | z
    · have := wk_anti (t := 5) (u := rank (PW W) p + 1) z e
      rw [h2 z] at this; cases this
    · exact Nat.le_antisymm ‹_› ‹_›
theorem GW.grp_perm {g : Gr} {W : Nat → Nat → Int} (h : GW g W) (hW : WOk W) {keys : List Str} (hk : KeyOk g keys) {r : Nat} (hr : r < 5) : (rnds (sucOf g) (s0 g keys) r).2.Perm (grp (fun p => (rank (PW W) p : Int)) r) := by
  have hl := lvls h.ok hk r
  have hnd : (grp (fun p => (rank (PW W) p : Int)) r).Nodup := by
    unfold grp
    rw [List.nodup_iff_pairwise_ne, List.pairwise_map]
    have h5 := (List.nodup_range (n := 5)).filter (fun p => decide ((rank (PW W) p : Int) = r))
    refine (List.Pairwise.and_mem.mp h5).imp fun {a b} hy49 e => ?_
    obtain ⟨ha, hb, hne⟩ := hy49
    refine hne ?_
    rw [List.mem_filter, List.mem_range] at ha hb
    exact nm_inj ha.1 hb.1 e
  refine (List.perm_ext_iff_of_nodup hl.nd hnd).mpr fun k => ?_
  rw [hl.mem k]
  unfold grp
  rw [List.mem_map]
  constructor
  · rintro ⟨a, b, c⟩
    obtain ⟨p, hp, rfl⟩ := mem_names.mp ((h.keys hk k).mp a)
    refine ⟨p, List.mem_filter.mpr ⟨List.mem_range.mpr hp, ?_⟩, rfl⟩
    have := (h.rank_iff hW hk hp hr).mpr ⟨b, c⟩
    simp [this]
  · rintro ⟨p, hp, rfl⟩
    rw [List.mem_filter, List.mem_range, decide_eq_true_eq] at hp
    obtain ⟨b, c⟩ := (h.rank_iff hW hk hp.1 hr).mp (by have := hp.2; simp only at this; exact Int.ofNat.inj ‹_›)
    exact ⟨(h.keys hk _).mpr (nm_mem hp.1), b, c⟩
theorem lvl_down {g : Gr} {keys : List Str} {t : Nat} {k : Str} (hk : k ∈ keys) (h1 : wk (sucOf g) keys (t + 1) k = true) (h2 : wk (sucOf g) keys (t + 2) k = false) : ∃ p ∈ keys, wk (sucOf g) keys t p = true ∧ wk (sucOf g) keys (t + 1) p = false := by
  have h1' := h1
  simp only [wk, List.any_eq_true, Bool.and_eq_true, decide_eq_true_eq] at h1'
  obtain ⟨p, hp, a, b⟩ := h1'
  refine ⟨p, hp, b, ?_⟩
  cases q : wk (sucOf g) keys (t + 1) p with
  | false => rfl
  | true =>
    have : wk (sucOf g) keys (t + 2) k = true := by
      rw [show t + 2 = (t + 1) + 1 from rfl, wk, List.any_eq_true]
      exact ⟨p, hp, by rw [q]; simpa using a⟩
    rw [h2] at this; cases this
theorem lvl_list {g : Gr} {keys : List Str} : ∀ (t : Nat) (k : Str), k ∈ keys → wk (sucOf g) keys t k = true → wk (sucOf g) keys (t + 1) k = false → ∃ l : List Str, A4 (l.length = t + 1) l.Nodup (∀ x ∈ l, x ∈ keys) (∀ x ∈ l, wk (sucOf g) keys (t + 1) x = false) := by
  intro t
  induction t with
  | zero =>
    intro k hk h1 h2
    exact ⟨[k], rfl, by simp, by simpa using hk, by simpa using h2⟩
  | succ t ih =>
    intro k hk h1 h2
    obtain ⟨p, hp, a, b⟩ := lvl_down hk h1 h2
    obtain ⟨l, l1, l2, l3, l4⟩ := ih p hp a b
    refine ⟨k :: l, by simp [l1], ?_, ?_, ?_⟩
    · rw [List.nodup_cons]
      refine ⟨fun z => ?_, l2⟩
      have := l4 k z
      rw [h1] at this; cases this
    · intro x hx
      rcases List.mem_cons.mp hx with rfl | hx
      · exact hk
      · exact l3 x hx
    · intro x hx
      rcases List.mem_cons.mp hx with rfl | hx
      · exact h2
      · cases q : wk (sucOf g) keys (t + 1 + 1) x with
        | false => rfl
        | true => have := wk_mono q; rw [l4 x hx] at this; cases this
theorem rest_nil {g : Gr} {keys : List Str} (gok : GrOk g) (hk : KeyOk g keys) : (rnds (sucOf g) (s0 g keys) 5).2.isEmpty = true := by
  have hl := lvls gok hk 5
  cases q : (rnds (sucOf g) (s0 g keys) 5).2 with
  | nil => rfl
  | cons k r =>
    obtain ⟨a, b, c⟩ := (hl.mem k).mp (by rw [q]; simp)
    obtain ⟨l, l1, l2, l3, _⟩ := lvl_list 5 k a b c
    have := Nat.le_trans (nodup_sub_len l2 l3) (key_len gok hk)
    rw [l1] at this; exact absurd this (by decide)
theorem acyc_short {succ : Str → List Str} {keys : List Str} (h : Acyc succ keys) : ∃ fin : List Str, A3 fin.Nodup (∀ k ∈ keys, k ∈ fin) (∀ (t i : Nat) (k : Str), fin[i]? = some k → k ∈ keys → wk succ keys t k = true → t + (fin.take i).countP (fun x => decide (x ∈ keys)) + 1 ≤ fin.countP (fun x => decide (x ∈ keys))) := by
  obtain ⟨fin, h1, h2, h3⟩ := h
  refine ⟨fin, h1, h2, fun t => ?_⟩
  have up : ∀ (i : Nat) k, fin[i]? = some k → k ∈ keys → (fin.take (i + 1)).countP (fun x => decide (x ∈ keys)) = (fin.take i).countP (fun x => decide (x ∈ keys)) + 1 := fun i k e hk => by
    rw [take_snoc e, List.countP_append]; simp [hk]
  induction t with
  | zero =>
    intro i k e hk _
    have h4 := up i k e hk
    have h5 : (fin.take (i + 1)).countP (fun x => decide (x ∈ keys)) ≤ fin.countP (fun x => decide (x ∈ keys)) := (List.take_sublist _ _).countP_le
    lia
  | succ t ih =>
    intro i k e hk hw
    simp only [wk, List.any_eq_true, Bool.and_eq_true, decide_eq_true_eq] at hw
    obtain ⟨p, hp, a, b⟩ := hw
    obtain ⟨j, hj⟩ := List.getElem?_of_mem (h2 p hp)
    have h4 := ih j p hj hp b
    have h5 := h3 j p hj k a
    obtain ⟨i', hi'⟩ := List.getElem?_of_mem h5
    rw [List.getElem?_take] at hi'
    split at hi'
    · rename_i hlt
      have hii : i' = i := (List.getElem?_inj (List.getElem?_eq_some_iff.mp hi').1 h1).mp (hi'.trans e.symm)
      subst hii
      have h6 := up i' k e hk
      have h7 : (fin.take (i' + 1)).countP (fun x => decide (x ∈ keys)) ≤ (fin.take j).countP (fun x => decide (x ∈ keys)) := by
        have : fin.take (i' + 1) = (fin.take j).take (i' + 1) := by rw [List.take_take, Nat.min_eq_left (Nat.succ_le_of_lt ‹_›)]
        rw [this]
        exact (List.take_sublist _ _).countP_le
      lia
    · cases hi'
theorem acyc_no5 {g : Gr} {keys : List Str} (gok : GrOk g) (hk : KeyOk g keys) (h : Acyc (sucOf g) keys) {k : Str} (hkk : k ∈ keys) : wk (sucOf g) keys 5 k = false := by
  cases q : wk (sucOf g) keys 5 k with
  | false => rfl
  | true =>
    obtain ⟨fin, f1, f2, f3⟩ := acyc_short h
    obtain ⟨i, hi⟩ := List.getElem?_of_mem (f2 k hkk)
    have h1 := f3 5 i k hi hkk q
    have h2 : fin.countP (fun x => decide (x ∈ keys)) ≤ keys.length := by
      rw [List.countP_eq_length_filter]
      refine nodup_sub_len (f1.filter _) fun x hx => ?_
      rw [List.mem_filter, decide_eq_true_eq] at hx; exact hx.2
    have := key_len gok hk
    lia
theorem ring_wk {succ : Str → List Str} {keys nodes : List Str} (h : Ring succ keys nodes) : ∀ (t : Nat) (k : Str), k ∈ nodes → wk succ keys t k = true := by
  intro t
  induction t with
  | zero =>
    intro _ _
    rfl
  | succ t ih =>
    intro k hk
    obtain ⟨x, mid, e, _⟩ := h.ends
    have hidx : ∃ j : Nat, nodes[j + 1]? = some k := by
      obtain ⟨j, hj⟩ := List.getElem?_of_mem hk
      cases j with
      | succ j => exact ⟨j, hj⟩
      | zero =>
        refine ⟨mid.length, ?_⟩
        rw [e] at hj ⊢
        simp at hj ⊢
        exact hj
    obtain ⟨j, hj⟩ := hidx
    have hlt : j + 1 < nodes.length := (List.getElem?_eq_some_iff.mp hj).1
    have hj0 : nodes[j]? = some nodes[j] := List.getElem?_eq_getElem (Nat.le_of_lt ‹_›)
    have hp : nodes[j] ∈ nodes := List.getElem_mem _
    have hs := h.step j _ k hj0 hj
    simp only [wk, List.any_eq_true, Bool.and_eq_true, decide_eq_true_eq]
    exact ⟨nodes[j], h.mem _ hp, hs, ih _ hp⟩
theorem ring_ok {g : Gr} {keys nodes : List Str} (gok : GrOk g) (hk : KeyOk g keys) (h : Ring (sucOf g) keys nodes) : RingOk g nodes := by
  obtain ⟨x, mid, e, hnd⟩ := h.ends
  refine ⟨by rw [e]; simp, by have := h.len; have := key_len gok hk; lia, ⟨x, mid, e⟩, fun i a b ha hb => (mem_suc gok).mp (h.step i a b ha hb), fun i b hb => ?_⟩
  have hm : b ∈ nodes.drop 1 := by
    have : (nodes.drop 1)[i]? = some b := by rw [List.getElem?_drop, Nat.add_comm]; exact hb
    exact List.mem_of_getElem? this
  have hn : (nodes.drop 1).Nodup := by
    rw [e]
    have : (x :: mid ++ [x]).drop 1 = mid ++ [x] := rfl
    rw [this]
    exact (List.perm_append_singleton x mid).nodup_iff.mpr hnd
  rw [hn.count, if_pos hm]
theorem le_anti : ∀ a ∈ lawNames, ∀ b ∈ lawNames, Spec.ltCps b.cps.toList a.cps.toList = false → Spec.ltCps a.cps.toList b.cps.toList = false → a = b := by decide
theorem le_trans5 : ∀ a ∈ lawNames, ∀ b ∈ lawNames, ∀ c ∈ lawNames, Spec.ltCps b.cps.toList a.cps.toList = false → Spec.ltCps c.cps.toList b.cps.toList = false → Spec.ltCps c.cps.toList a.cps.toList = false := by decide
theorem pw_sorted : ∀ {l : List Str}, (∀ x ∈ l, x ∈ lawNames) → sortedS l = true → l.Pairwise fun a b => Spec.ltCps b.cps.toList a.cps.toList = false := by
  intro l
  induction l with
  | nil => exact fun _ _ => .nil
  | cons x r ih =>
    intro hm h
    cases r with
    | nil => exact .cons (fun _ z => by cases z) .nil
    | cons y r =>
    have h : (!Spec.ltCps y.cps.toList x.cps.toList && risingS y r) = true := h
    rw [Bool.and_eq_true, Bool.not_eq_true'] at h
    have ih := ih (fun z hz => hm z (by simp [List.mem_cons.mp hz])) h.2
    refine .cons (fun z hz => ?_) ih
    rcases List.mem_cons.mp hz with rfl | hz'
    · exact h.1
    · exact le_trans5 x (hm x (by simp)) y (hm y (by simp)) z (hm z (by simp [hz'])) h.1 ((List.pairwise_cons.mp ih).1 z hz')
theorem srt_eq {l l' s s' : List Str} (hl : ∀ x ∈ l, x ∈ lawNames) (hp : l.Perm l') (h : Srt l s) (h' : Srt l' s') : s = s' := by
  have m1 : ∀ x ∈ s, x ∈ lawNames := fun x hx => hl x (h.1.mem_iff.mp hx)
  have m2 : ∀ x ∈ s', x ∈ lawNames := fun x hx => hl x (hp.mem_iff.mpr (h'.1.mem_iff.mp hx))
  exact List.Perm.eq_of_pairwise (fun a b ha hb => le_anti a (m1 a ha) b (m2 b hb)) (pw_sorted m1 h.2) (pw_sorted m2 h'.2) (h.1.trans (hp.trans h'.1.symm))
theorem all2_perm_filter : ∀ {as bs : List (List Str)}, All2 List.Perm as bs → All2 List.Perm (as.filter fun l => !l.isEmpty) (bs.filter fun l => !l.isEmpty) := by
  intro as bs h
  induction h with
  | nil => exact .nil
  | @cons a b _ _ r t ih =>
    have : a.isEmpty = b.isEmpty := by
      rw [Bool.eq_iff_iff, List.isEmpty_iff, List.isEmpty_iff]
      exact ⟨fun z => by subst z; exact List.perm_nil.mp r.symm, fun z => by subst z; exact List.perm_nil.mp r⟩
    rw [List.filter_cons, List.filter_cons, this]
    split
    · exact .cons r ih
    · exact ih
theorem GW.groups {g : Gr} {W : Nat → Nat → Int} (h : GW g W) (hW : WOk W) {keys : List Str} (hk : KeyOk g keys) : All2 List.Perm (rsT g keys 5) (((List.range 5).map (grp fun p => (rank (PW W) p : Int))).filter fun l => !l.isEmpty) := by
  unfold rsT
  refine all2_perm_filter (All2.of (by simp) fun i a b ha hb => ?_)
  rw [List.getElem?_map, Option.map_eq_some_iff] at ha hb
  obtain ⟨r, hr, rfl⟩ := ha
  obtain ⟨r', hr', rfl⟩ := hb
  rw [hr] at hr'; cases hr'
  have := List.mem_range.mp (List.mem_of_getElem? hr)
  exact h.grp_perm hW hk this
end Mine
end
section
open PySem PySem.W PySem.Calls PyProof.Rows
set_option Elab.async false
set_option linter.unusedVariables false
set_option maxHeartbeats 1000000
namespace Mine
noncomputable def vec (f : Nat → Int) : List Int := [f 0, f 1, f 2, f 3]
noncomputable def OV (f : Nat → Int) : Option (List Int) := if 0 < f 0 then some (vec f) else none
noncomputable def Good (f : Nat → Int) : Prop := (∀ m, m < 4 → 0 ≤ f m) ∧ (f 0 = 0 → ∀ m, m < 4 → f m = 0)
theorem vec_congr {f h : Nat → Int} (e : ∀ m, m < 4 → f m = h m) : vec f = vec h := by
  unfold vec; rw [e 0 (by decide), e 1 (by decide), e 2 (by decide), e 3 (by decide)]
theorem OV_congr {f h : Nat → Int} (e : ∀ m, m < 4 → f m = h m) : OV f = OV h := by
  unfold OV; rw [e 0 (by decide), vec_congr e]
theorem Good.add {f h : Nat → Int} (a : Good f) (b : Good h) : Good fun m => f m + h m := by
  refine ⟨fun m hm => Int.add_nonneg (a.1 m hm) (b.1 m hm), fun e m hm => ?_⟩
  have h1 := a.1 0 (by decide); have h2 := b.1 0 (by decide)
  have h3 : f 0 + h 0 = 0 := e
  show f m + h m = 0
  obtain ⟨z1, z2⟩ := pair0 h1 h2 h3
  rw [a.2 z1 m hm, b.2 z2 m hm]; rfl
theorem OV_add {f h : Nat → Int} (a : Good f) (b : Good h) : comb add4 (OV f) (OV h) = OV fun m => f m + h m := by
  have h1 := a.1 0 (by decide); have h2 := b.1 0 (by decide)
  by_cases z1 : 0 < f 0
  · by_cases z2 : 0 < h 0
    · have e1 : OV f = some (vec f) := if_pos z1
      have e2 : OV h = some (vec h) := if_pos z2
      have e3 : OV (fun m => f m + h m) = some (vec fun m => f m + h m) := if_pos (Int.add_pos z1 z2)
      rw [e1, e2, e3]
      show some [h 0 + f 0, h 1 + f 1, h 2 + f 2, h 3 + f 3] = some [f 0 + h 0, f 1 + h 1, f 2 + h 2, f 3 + h 3]
      rw [Int.add_comm (h 0), Int.add_comm (h 1), Int.add_comm (h 2), Int.add_comm (h 3)]
    · have hz := b.2 (Int.le_antisymm (Int.not_lt.mp z2) h2)
      have e2 : OV h = none := if_neg z2
      rw [e2, OV_congr (f := fun m => f m + h m) (h := f) fun m hm => by show f m + h m = f m; rw [hz m hm]; exact Int.add_zero _]
      have e1 : OV f = some (vec f) := if_pos z1
      rw [e1]; rfl
  · have hz := a.2 (Int.le_antisymm (Int.not_lt.mp z1) h1)
    have e1 : OV f = none := if_neg z1
    rw [e1, OV_congr (f := fun m => f m + h m) (h := h) fun m hm => by show f m + h m = h m; rw [hz m hm]; exact Int.zero_add _]
    cases OV h <;> rfl
noncomputable def sh (f : Nat → Int) : Nat → Int
  | 0 => f 0
  | 1 => f 0 + f 1
  | 2 => f 0 + 2 * f 1 + f 2
  | _ => f 0 + 3 * f 1 + 3 * f 2 + f 3
theorem OV_shift {f : Nat → Int} {w : Int} (hw : 0 < w) (a : Good f) : (OV f).map (shift w) = OV fun m => sh f m * w := by
  have h0 := a.1 0 (by decide)
  by_cases z : 0 < f 0
  · have e1 : OV f = some (vec f) := if_pos z
    have e2 : OV (fun m => sh f m * w) = some (vec fun m => sh f m * w) := if_pos (Int.mul_pos z hw)
    rw [e1, e2]; rfl
  · have e1 : OV f = none := if_neg z
    have hz : f 0 = 0 := Int.le_antisymm (Int.not_lt.mp z) h0
    have e2 : OV (fun m => sh f m * w) = none := if_neg (by show ¬ 0 < f 0 * w; rw [hz]; simp)
    rw [e1, e2]; rfl
theorem Good.shift {f : Nat → Int} {w : Int} (hw : 0 < w) (a : Good f) : Good fun m => sh f m * w := by
  have h0 := a.1 0 (by decide); have h1 := a.1 1 (by decide); have h2 := a.1 2 (by decide); have h3 := a.1 3 (by decide)
  have hs : ∀ m, m < 4 → 0 ≤ sh f m := fun m hm => by
    rcases lt_four hm with rfl | rfl | rfl | rfl
    · exact h0
    · show 0 ≤ f 0 + f 1; exact Int.add_nonneg ‹_› ‹_›
    · exact Int.add_nonneg (Int.add_nonneg h0 (Int.mul_nonneg (by decide) h1)) h2
    · exact Int.add_nonneg (Int.add_nonneg (Int.add_nonneg h0 (Int.mul_nonneg (by decide) h1)) (Int.mul_nonneg (by decide) h2)) h3
  refine ⟨fun m hm => Int.mul_nonneg (hs m hm) (Int.le_of_lt ‹_›), fun e m hm => ?_⟩
  have e : f 0 * w = 0 := e
  have z : f 0 = 0 := by
    rcases Int.mul_eq_zero.mp e with z | z
    · exact z
    · rw [z] at hw; exact absurd hw (by decide)
  have q := a.2 z
  have : sh f m = 0 := by
    rcases lt_four hm with rfl | rfl | rfl | rfl
    · exact z
    · show f 0 + f 1 = 0; rw [z, q 1 (by decide)]; rfl
    · show f 0 + 2 * f 1 + f 2 = 0; rw [z, q 1 (by decide), q 2 (by decide)]; rfl
    · show f 0 + 3 * f 1 + 3 * f 2 + f 3 = 0; rw [z, q 1 (by decide), q 2 (by decide), q 3 (by decide)]; rfl
  show sh f m * w = 0
  rw [this, Int.zero_mul]
theorem Good.const {w : Int} (hw : 0 ≤ w) : Good fun _ => w := ⟨fun _ _ => hw, fun e _ _ => e⟩
noncomputable def fr (X : Nat → Nat → Nat → Int) (o p m : Nat) : Int := sum5 fun t => ((t : Int) + 1) ^ m * X t o p
theorem four_vec {X : Nat → Nat → Nat → Int} {o p : Nat} : four X o p = vec (fr X o p) := rfl
theorem fr0 {X : Nat → Nat → Nat → Int} {o p : Nat} : fr X o p 0 = sum5 fun t => X t o p := by simp [fr]
theorem fr_good {X : Nat → Nat → Nat → Int} {o p : Nat} (h : ∀ t, t < 5 → 0 ≤ X t o p) : Good (fr X o p) := by
  have hp : ∀ (t m : Nat), 0 ≤ ((t : Int) + 1) ^ m := fun t m => Int.pow_nonneg (Int.natCast_nonneg _)
  refine ⟨fun m _ => sum5_nonneg fun t ht => Int.mul_nonneg (hp t m) (h t ht), fun e m _ => ?_⟩
  rw [fr0] at e
  have hz : ∀ t, t < 5 → X t o p = 0 := fun t ht => by
    have h1 := h t ht
    by_cases z : 0 < X t o p
    · have := (sum5_pos (f := fun t => X t o p) h).mpr ⟨t, ht, z⟩
      lia
    · lia
  unfold fr sum5
  dsimp only
  rw [hz 0 (by decide), hz 1 (by decide), hz 2 (by decide), hz 3 (by decide), hz 4 (by decide)]
  simp
theorem sh_sum (x : Nat → Int) (w : Int) (m : Nat) (hm : m < 4) : sh (fun m => sum5 fun t => ((t : Int) + 1) ^ m * x t) m * w = sum5 fun t => ((t : Int) + 2) ^ m * (x t * w) := by
  rcases lt_four hm with rfl | rfl | rfl | rfl
  · simp [sh, sum5]; grind
  · simp [sh, sum5]; grind
  · simp [sh, sum5]; grind
  · simp [sh, sum5]; grind
theorem sum5_swap (k : Nat → Int) (y : Nat → Nat → Int) : (sum5 fun c => sum5 fun t => k t * y t c) = sum5 fun t => k t * sum5 fun c => y t c := by
  unfold sum5; grind
theorem sum5_one {o : Nat} (ho : o < 5) (f : Nat → Int) : (sum5 fun c => if o = c then f c else 0) = f o := by
  rcases lt_five ho with rfl | rfl | rfl | rfl | rfl
  · simp [sum5]
  · simp [sum5]
  · simp [sum5]
  · simp [sum5]
  · simp [sum5]
theorem fr_step {W : Nat → Nat → Int} {o p : Nat} (ho : o < 5) (h5 : PW W 5 o p = 0) (m : Nat) (hm : m < 4) : fr (PW W) o p m = sum5 fun c => (if o = c then W c p else 0) + sh (fr (PW W) o c) m * W c p := by
  have e1 : ∀ c, sh (fr (PW W) o c) m * W c p = sum5 fun t => ((t : Int) + 2) ^ m * (PW W t o c * W c p) := fun c => sh_sum (fun t => PW W t o c) (W c p) m hm
  have e2 : (fun c => (if o = c then W c p else 0) + sh (fr (PW W) o c) m * W c p) = fun c => (if o = c then W c p else 0) + sum5 fun t => ((t : Int) + 2) ^ m * (PW W t o c * W c p) := funext fun c => by rw [e1 c]
  rw [e2, sum5_add, sum5_one ho fun c => W c p, sum5_swap (fun t => ((t : Int) + 2) ^ m) fun t c => PW W t o c * W c p]
  have e3 : ∀ t, (sum5 fun c => PW W t o c * W c p) = PW W (t + 1) o p := fun t => rfl
  have e4 : (fun (t : Nat) => ((t : Int) + 2) ^ m * sum5 fun c => PW W t o c * W c p) = fun (t : Nat) => ((t : Int) + 2) ^ m * PW W (t + 1) o p := funext fun t => by rw [e3]
  rw [e4]
  have e5 : PW W 0 o p = W o p := rfl
  rcases lt_four hm with rfl | rfl | rfl | rfl
  · simp [fr, sum5, h5, e5]; lia
  · simp [fr, sum5, h5, e5]; lia
  · simp [fr, sum5, h5, e5]; lia
  · simp [fr, sum5, h5, e5]; lia
end Mine
end
section
open PySem PySem.W PySem.Calls PyProof.Rows
set_option Elab.async false
set_option linter.unusedVariables false
set_option maxHeartbeats 1000000
namespace Mine
noncomputable def Fw (X : Nat → Nat → Nat → Int) (k far : Str) : Option (List Int) := look ((look (tabl 5 (fun _ => true) (colT X)) k).getD []) far
theorem Fw_nm {X : Nat → Nat → Nat → Int} {p : Nat} (hp : p < 5) (far : Str) : Fw X (nm p) far = look (colT X p) far := by
  unfold Fw
  rw [tabl_look (Nat.le_refl _) hp]; simp [hp]
theorem col_look {X : Nat → Nat → Nat → Int} {p o : Nat} (ho : o < 5) : look (colT X p) (nm o) = OV (fr X o p) := by
  unfold colT OV
  rw [tabl_look (Nat.le_refl _) ho, fr0, four_vec]
  simp [ho]
theorem filter_sum (h : Nat → Int) (t : Nat → Bool) : ∀ l : List Nat, ((l.filter t).map h).sum = (l.map fun c => if t c = true then h c else 0).sum
  | [] => rfl
  | c :: r => by
    rw [List.filter_cons]
    by_cases z : t c = true
    · simp [z, filter_sum h t r]
    · simp [z, filter_sum h t r]
noncomputable def Tq (X : Nat → Nat → Nat → Int) (o : Nat) (q : Str × Int) (m : Nat) : Int := (if nm o = q.1 then q.2 else 0) + sh (fun m => ((List.range 5).map fun c => if nm c = q.1 then fr X o c m else 0).sum) m * q.2
theorem pick (f : Nat → Int) {c : Nat} (hc : c < 5) : ((List.range 5).map fun c' => if nm c' = nm c then f c' else 0).sum = f c := by
  have e : (fun c' => if c' < 5 then (if nm c' = nm c then f c' else 0) else 0) = fun c' => if c' < 5 then (if c = c' then f c' else 0) else 0 := funext fun c' => by
    by_cases z : c' < 5
    · by_cases y : c = c'
      · subst y; simp
      · have : nm c' ≠ nm c := fun q => y (nm_inj hc z q.symm)
        simp [this, y]
    · simp [z]
  have e2 : ∀ h : Nat → Int, ((List.range 5).map h) = (List.range 5).map fun c' => if c' < 5 then h c' else 0 := fun h => List.map_congr_left fun x hx => by rw [if_pos (List.mem_range.mp hx)]
  rw [e2, e, ← e2, sum_range5, sum5_one hc]
theorem Tq_nm {X : Nat → Nat → Nat → Int} {o c : Nat} (ho : o < 5) (hc : c < 5) (w : Int) (m : Nat) : Tq X o (nm c, w) m = (if o = c then w else 0) + sh (fr X o c) m * w := by
  unfold Tq
  have e : (fun m => ((List.range 5).map fun c' => if nm c' = nm c then fr X o c' m else 0).sum) = fr X o c := funext fun m => pick (fun c' => fr X o c' m) hc
  dsimp only
  rw [e]
  by_cases z : o = c
  · subst z; simp
  · have : nm o ≠ nm c := fun y => z (nm_inj ho hc y)
    simp [z, this]
theorem fold_ways {X : Nat → Nat → Nat → Int} (hX : ∀ t o p, t < 5 → o < 5 → p < 5 → 0 ≤ X t o p) {o : Nat} (ho : o < 5) : ∀ (es : List (Str × Int)) (acc : Str → Option (List Int)) (a : Nat → Int), (∀ q ∈ es, ∃ c, A3 (c < 5) (q.1 = nm c) (0 < q.2)) → Good a → acc (nm o) = OV a → es.foldl (stepF (Fw X)) acc (nm o) = OV fun m => a m + (es.map fun q => Tq X o q m).sum := by
  intro es
  induction es with
  | nil =>
    intro acc a _ _ e
    rw [List.foldl_nil, e]
    exact OV_congr fun m _ => by simp
  | cons q r ih =>
    intro acc a hq ha e
    obtain ⟨c, hc, e1, hw⟩ := hq q (by simp)
    obtain ⟨k, w⟩ := q
    simp only at e1 hw
    subst e1
    have gf : Good (fr X o c) := fr_good fun t ht => hX t o c ht ho hc
    let d : Nat → Int := fun _ => if o = c then w else 0
    have gd : Good d := Good.const (by split <;> lia)
    have ed : (if nm o = nm c then some [w, w, w, w] else none) = OV d := by
      by_cases z : o = c
      · subst z
        simp only [d, OV, vec, if_true, if_pos hw]
      · have : nm o ≠ nm c := fun y => z (nm_inj ho hc y)
        rw [if_neg this]
        simp [d, OV, z]
    have hst : stepF (Fw X) acc (nm c, w) (nm o) = OV fun m => (a m + d m) + sh (fr X o c) m * w := by
      unfold stepF
      dsimp only
      rw [e, ed, OV_add ha gd, Fw_nm hc, col_look ho, OV_shift hw gf, OV_add (ha.add gd) (gf.shift hw)]
    rw [List.foldl_cons, ih _ _ (fun q' h' => hq q' (by simp [h'])) ((ha.add gd).add (gf.shift hw)) hst]
    refine OV_congr fun m _ => ?_
    rw [List.map_cons, List.sum_cons, Tq_nm ho hc]
    simp only [d]; lia
end Mine
end
section
open PySem PySem.W PySem.Calls PyProof.Rows
set_option Elab.async false
set_option linter.unusedVariables false
set_option maxHeartbeats 1000000
namespace Mine
theorem flat_at {α : Type} : ∀ (L : List (List α)) (i : Nat) (x : α), L.flatten[i]? = some x → E2 fun (r : Nat) (l : List α) => A3 (L[r]? = some l) (x ∈ l) (∀ y ∈ (L.take r).flatten, y ∈ L.flatten.take i) := by
  intro L
  induction L with
  | nil =>
    intro i x h
    simp at h
  | cons l L ih =>
    intro i x h
    rw [List.flatten_cons] at h
    by_cases z : i < l.length
    · rw [List.getElem?_append_left z] at h
      exact ⟨0, l, rfl, List.mem_of_getElem? h, fun y hy => by simp at hy⟩
    · rw [List.getElem?_append_right (Nat.le_of_not_lt ‹_›)] at h
      obtain ⟨r, l', h1, h2, h3⟩ := ih _ x h
      refine ⟨r + 1, l', h1, h2, fun y hy => ?_⟩
      rw [List.take_succ_cons, List.flatten_cons] at hy
      rw [List.flatten_cons, List.take_append]
      rcases List.mem_append.mp hy with y1 | y1
      · rw [List.take_of_length_le (Nat.le_of_not_lt ‹_›)]
        exact List.mem_append_left _ y1
      · exact List.mem_append_right _ (h3 y y1)
theorem flat_filter {α : Type} : ∀ L : List (List α), (L.filter fun l => !l.isEmpty).flatten = L.flatten
  | [] => rfl
  | l :: L => by
    rw [List.filter_cons]
    cases l with
    | nil => simp [flat_filter L]
    | cons a r => simp [flat_filter L]
theorem GW.nn {g : Gr} {W : Nat → Nat → Int} (h : GW g W) {p : Nat} (hp : p < 5) {es : List (Str × Int)} (he : look g (nm p) = some es) : A3 ((es.map (·.1)).Nodup) (∀ k, look es k = look (nzl fun c => W c p) k) (∀ q ∈ es, ∃ c, A4 (c < 5) (q.1 = nm c) (0 < q.2) (q.2 = W c p)) := by
  obtain ⟨es', e1, e2⟩ := h.at' p hp
  rw [he] at e1; cases e1
  have hnd := (h.ok.nm _ (mem_look he)).2
  refine ⟨hnd, e2, fun q hq => ?_⟩
  have h1 := (look_mem hnd).mp (show (q.1, q.2) ∈ es from hq)
  rw [e2] at h1
  by_cases z : q.1 ∈ lawNames
  · obtain ⟨c, hc, e⟩ := mem_names.mp z
    rw [e, nzl_look hc] at h1
    split at h1
    · rename_i hw
      have h2 := Option.some.inj h1
      exact ⟨c, hc, e, by rw [← h2]; exact hw, h2.symm⟩
    · cases h1
  · rw [nzl_other z] at h1; cases h1
theorem GW.ord_mem {g : Gr} {W : Nat → Nat → Int} (h : GW g W) {keys : List Str} (hk : KeyOk g keys) (k : Str) : k ∈ (rsT g keys 5).flatten ↔ k ∈ keys ∧ wk (sucOf g) keys 5 k = false := by
  unfold rsT
  rw [flat_filter, List.mem_flatten]
  constructor
  · rintro ⟨l, hl, hkl⟩
    obtain ⟨r, hr, rfl⟩ := List.mem_map.mp hl
    obtain ⟨a, b, c⟩ := ((lvls h.ok hk r).mem k).mp hkl
    refine ⟨a, ?_⟩
    cases q : wk (sucOf g) keys 5 k with
    | false => rfl
    | true =>
      have := wk_anti (t := 5) (u := r + 1) (by have := List.mem_range.mp hr; exact Nat.le_trans ‹_› (by decide)) q
      rw [c] at this; cases this
  · rintro ⟨a, b⟩
    have lv : ∀ n, wk (sucOf g) keys n k = false → ∃ r, A3 (r < n) (wk (sucOf g) keys r k = true) (wk (sucOf g) keys (r + 1) k = false) := fun n => by
      induction n with
      | zero => intro z; cases z
      | succ n ih =>
        intro z
        cases q : wk (sucOf g) keys n k with
        | false => obtain ⟨r, h1, h2, h3⟩ := ih q; exact ⟨r, Nat.lt_succ_of_lt ‹_›, h2, h3⟩
        | true => exact ⟨n, Nat.lt_succ_self _, q, z⟩
    obtain ⟨r, h1, h2, h3⟩ := lv 5 b
    exact ⟨_, List.mem_map.mpr ⟨r, List.mem_range.mpr h1, rfl⟩, ((lvls h.ok hk r).mem k).mpr ⟨a, h2, h3⟩⟩
theorem ord_nodup {g : Gr} {keys : List Str} (gok : GrOk g) (hk : KeyOk g keys) : (rsT g keys 5).flatten.Nodup := by
  unfold rsT
  rw [flat_filter, List.nodup_iff_pairwise_ne, List.pairwise_flatten]
  refine ⟨fun l hl => ?_, ?_⟩
  · obtain ⟨r, _, rfl⟩ := List.mem_map.mp hl
    exact List.nodup_iff_pairwise_ne.mp (lvls gok hk r).nd
  · rw [List.pairwise_map]
    refine (List.pairwise_lt_range (n := 5)).imp fun {a b} hab x hx y hy e => ?_
    subst e
    obtain ⟨_, _, c⟩ := ((lvls gok hk a).mem x).mp hx
    obtain ⟨_, d, _⟩ := ((lvls gok hk b).mem x).mp hy
    have := wk_anti (t := b) (u := a + 1) hab d
    rw [c] at this; cases this
theorem GW.tab {g : Gr} {W : Nat → Nat → Int} (h : GW g W) (hW : WOk W) {keys : List Str} (hk : KeyOk g keys) : TabOk g (rsT g keys 5).flatten (Fw (PW W)) := by
  have hX : ∀ t o p, t < 5 → o < 5 → p < 5 → 0 ≤ PW W t o p := fun t o p _ ho hp => PW_nonneg hW t o p ho hp
  have hnm : ∀ name ∈ (rsT g keys 5).flatten, ∃ p, A3 (p < 5) (name = nm p) (wk (sucOf g) keys 5 (nm p) = false) := fun name hn => by
    obtain ⟨a, b⟩ := (h.ord_mem hk name).mp hn
    obtain ⟨p, hp, rfl⟩ := mem_names.mp ((h.keys hk _).mp a)
    exact ⟨p, hp, rfl, b⟩
  refine ⟨ord_nodup h.ok hk, ?_, ?_, ?_, ?_, ?_, ?_⟩
  · have := nodup_sub_len (ord_nodup h.ok hk) (l₂ := lawNames) fun x hx => (h.keys hk x).mp ((h.ord_mem hk x).mp hx).1
    simpa [lawNames] using this
  · intro name hn
    obtain ⟨p, hp, rfl, _⟩ := hnm name hn
    obtain ⟨es, e, _⟩ := h.at' p hp
    exact ⟨es, e⟩
  · intro name es he q hq
    obtain ⟨p, hp, rfl⟩ := mem_names.mp (h.ok.nm _ (mem_look he)).1
    obtain ⟨c, hc, e1, e2, e3⟩ := (h.nn hp he).3 q hq
    refine ⟨?_, by rw [e1]; exact nm_mem hc⟩
    have := hW c p hc hp
    lia
  · intro i name es hi he q hq
    unfold rsT at hi ⊢
    rw [flat_filter] at hi ⊢
    obtain ⟨r, l, h1, h2, h3⟩ := flat_at _ i name hi
    rw [List.getElem?_map, Option.map_eq_some_iff] at h1
    obtain ⟨r', hr', rfl⟩ := h1
    have hr5 : r' < 5 := List.mem_range.mp (List.mem_of_getElem? hr')
    have hrr : r = r' := by
      obtain ⟨hlt, e⟩ := List.getElem?_eq_some_iff.mp hr'
      simpa using e
    subst hrr
    obtain ⟨a, b, c⟩ := ((lvls h.ok hk r).mem name).mp h2
    obtain ⟨p, hp, rfl⟩ := mem_names.mp ((h.keys hk _).mp a)
    obtain ⟨d, hd, e1, e2, e3⟩ := (h.nn hp he).3 q hq
    refine h3 q.1 ?_
    have hd0 : wk (sucOf g) keys r (nm d) = false := by
      cases q : wk (sucOf g) keys r (nm d) with
      | false => rfl
      | true =>
        have := (h.wk_succ hk hp (t := r)).mpr ⟨d, hd, by lia, q⟩
        rw [c] at this; cases this
    have lv : ∀ n, wk (sucOf g) keys n (nm d) = false → ∃ r, A3 (r < n) (wk (sucOf g) keys r (nm d) = true) (wk (sucOf g) keys (r + 1) (nm d) = false) := fun n => by
      induction n with
      | zero => intro z; cases z
      | succ n ih =>
        intro z
        cases q : wk (sucOf g) keys n (nm d) with
        | false => obtain ⟨r, h1, h2, h3⟩ := ih q; exact ⟨r, Nat.lt_succ_of_lt ‹_›, h2, h3⟩
        | true => exact ⟨n, Nat.lt_succ_self _, q, z⟩
    obtain ⟨s, hs, h5, h6⟩ := lv r hd0
    rw [e1, List.mem_flatten]
    refine ⟨(rnds (sucOf g) (s0 g keys) s).2, ?_, ((lvls h.ok hk s).mem _).mpr ⟨(h.keys hk _).mpr (nm_mem hd), h5, h6⟩⟩
    rw [← List.map_take, List.take_range, Nat.min_eq_left (Nat.le_of_lt ‹_›)]
    exact List.mem_map.mpr ⟨s, List.mem_range.mpr hs, rfl⟩
  · intro name far x hx
    have hfar : far ∈ lawNames := by
      by_cases z : far ∈ lawNames
      · exact z
      · exfalso
        unfold Fw at hx
        cases q : look (tabl 5 (fun _ => true) (colT (PW W))) name with
        | none => rw [q] at hx; cases hx
        | some T =>
          rw [q] at hx
          have hm := mem_look q
          unfold tabl at hm
          obtain ⟨c, _, e⟩ := List.mem_map.mp hm
          cases e
          rw [Option.getD_some] at hx
          unfold colT at hx
          rw [tabl_other (Nat.le_refl _) z] at hx; cases hx
    refine ⟨?_, hfar⟩
    unfold Fw at hx
    cases q : look (tabl 5 (fun _ => true) (colT (PW W))) name with
    | none => rw [q] at hx; cases hx
    | some T =>
      rw [q] at hx
      have hm := mem_look q
      unfold tabl at hm
      obtain ⟨c, _, e⟩ := List.mem_map.mp hm
      cases e
      rw [Option.getD_some] at hx
      obtain ⟨o, ho, rfl⟩ := mem_names.mp hfar
      rw [col_look ho] at hx
      unfold OV at hx
      split at hx
      · cases hx; rfl
      · cases hx
  · intro name hn es he far
    obtain ⟨p, hp, rfl, hw5⟩ := hnm name hn
    obtain ⟨n1, n2, n3⟩ := h.nn hp he
    by_cases z : far ∈ lawNames
    · obtain ⟨o, ho, rfl⟩ := mem_names.mp z
      rw [Fw_nm hp, col_look ho, fold_ways hX ho es (fun _ => none) (fun _ => 0) (fun q hq => by obtain ⟨c, a, b, d, _⟩ := n3 q hq; exact ⟨c, a, b, d⟩) (Good.const (Int.le_refl _)) (by simp [OV])]
      refine OV_congr fun m hm => ?_
      have hp5 : PW W 5 o p = 0 := by
        have h6 : ¬ 0 < sum5 fun o => PW W 5 o p := fun y => by
          have := wk_anti (t := 6) (u := 5) (by decide) ((h.wk_pw hW hk 5 p hp).mpr y)
          rw [hw5] at this; cases this
        have h7 := PW_nonneg hW 5 o p ho hp
        by_cases y : 0 < PW W 5 o p
        · exact absurd ((sum5_pos fun c hc => PW_nonneg hW 5 c p hc hp).mpr ⟨o, ho, y⟩) h6
        · exact Int.le_antisymm (Int.not_lt.mp y) h7
      rw [fr_step ho hp5 m hm, Int.zero_add]
      have hperm := perm_of_look n1 (nzl_keys fun c => W c p) n2
      rw [perm_sum (hperm.map fun q => Tq (PW W) o q m)]
      unfold nzl tabl
      rw [List.map_map]
      have e1 : (((List.range 5).filter fun c => decide (0 < W c p)).map ((fun q => Tq (PW W) o q m) ∘ fun c => (nm c, W c p))).sum = sum5 fun c => if decide (0 < W c p) = true then Tq (PW W) o (nm c, W c p) m else 0 := by
        rw [filter_sum, sum_range5]; rfl
      rw [e1]
      have e2 : ∀ c, c < 5 → (if decide (0 < W c p) = true then Tq (PW W) o (nm c, W c p) m else 0) = (if o = c then W c p else 0) + sh (fr (PW W) o c) m * W c p := fun c hc => by
        rw [Tq_nm ho hc]
        by_cases y : 0 < W c p
        · rw [if_pos (by simpa using y)]
        · rw [if_neg (by simpa using y)]
          have : W c p = 0 := Int.le_antisymm (Int.not_lt.mp y) (hW c p hc hp).1
          rw [this]; simp
      simp only [sum5]
      rw [← e2 0 (by decide), ← e2 1 (by decide), ← e2 2 (by decide), ← e2 3 (by decide), ← e2 4 (by decide)]
    · rw [Fw_nm hp]
      have e0 : look (colT (PW W) p) far = none := tabl_other (Nat.le_refl _) z
      rw [e0]
      have : ∀ (es : List (Str × Int)) (acc : Str → Option (List Int)), (∀ q ∈ es, ∃ c, c < 5 ∧ q.1 = nm c) → acc far = none → es.foldl (stepF (Fw (PW W))) acc far = none := fun es => by
        induction es with
        | nil => intro acc _ e; exact e
        | cons q r ih =>
          intro acc hq e
          obtain ⟨c, hc, e1⟩ := hq q (by simp)
          refine ih _ (fun q' h' => hq q' (by simp [h'])) ?_
          unfold stepF
          have h1 : far ≠ q.1 := fun y => z (by rw [y, e1]; exact nm_mem hc)
          have h2 : Fw (PW W) q.1 far = none := by rw [e1, Fw_nm hc]; exact tabl_other (Nat.le_refl _) z
          rw [e, if_neg h1, h2]; rfl
      exact (this es _ (fun q hq => by obtain ⟨c, a, b, _, _⟩ := n3 q hq; exact ⟨c, a, b⟩) rfl).symm
end Mine
end
section
open PySem PySem.W PySem.Calls PyProof.Rows
set_option Elab.async false
set_option linter.unusedVariables false
set_option maxHeartbeats 1000000
namespace Mine
variable {prog : Program} {w : World}
theorem look_ys {α : Type} {R : Rel α} {hp : Hp} {ys : List (Str × AV)} {es : List (Str × α)} (h : All2 (fun p q => p.1 = q.1 ∧ R hp p.2 q.2) ys es) (hn : (es.map (·.1)).Nodup) {k : Str} {y : AV} (hy : (k, y) ∈ ys) : ∃ x, look es k = some x ∧ R hp y x := by
  obtain ⟨i, hi⟩ := List.getElem?_of_mem hy
  obtain ⟨q, h1, h2, h3⟩ := h.get' hi
  have : (k, q.2) ∈ es := by
    have := List.mem_of_getElem? h1
    rw [show (k, q.2) = q from Prod.ext h2 rfl]; exact this
  exact ⟨q.2, (look_mem hn).mp this, h3⟩
theorem same_dct {α β : Type} {R : Rel α} {R' : Rel β} {hp : Hp} {d : Nat} {v u : AV} {es : List (Str × α)} {fs : List (Str × β)} (h1 : DctR R hp v es) (h2 : DctR R' hp u fs) (hk : ∀ k, (look es k).isSome = (look fs k).isSome)
    (hv : ∀ k x x', look es k = some x → look fs k = some x' → ∀ y z, R hp y x → R' hp z x' → Same hp d y z) : Same hp (d + 1) v u := by
  obtain ⟨a, ys, ep, rfl, ha, ha2, hn⟩ := h1
  obtain ⟨b, zs, ep', rfl, hb, hb2, hn'⟩ := h2
  refine .dict ha hb ?_ (fun k y hy => ?_) fun k y z hy hz => ?_
  · rw [ha2.length, hb2.length, ← List.length_map (f := (·.1)) (as := es), ← List.length_map (f := (·.1)) (as := fs)]
    exact Nat.le_antisymm (nodup_sub_len hn fun k hk' => (keys_of_look hk k).mp hk') (nodup_sub_len hn' fun k hk' => (keys_of_look hk k).mpr hk')
  · obtain ⟨x, e, _⟩ := look_ys ha2 hn hy
    have h3 := hk k
    rw [e] at h3
    rcases aget_look hb2 k with ⟨_, q⟩ | ⟨z, x', q1, _⟩
    · rw [q] at h3; cases h3
    · rw [q1]; rfl
  · obtain ⟨x, e, hR⟩ := look_ys ha2 hn hy
    rcases aget_look hb2 k with ⟨q, _⟩ | ⟨z', x', q1, q2, q3⟩
    · rw [q] at hz; cases hz
    · rw [hz] at q1; cases q1
      exact hv k x x' e q2 y z hR q3
theorem same_int1 {hp : Hp} {d : Nat} {y z : AV} {x : Int} (h : IntR hp y x) (h' : IntR hp z x) : Same hp d y z := by
  rw [show y = .int x from h, show z = .int x from h']; exact .int
theorem same_itup {hp : Hp} {d : Nat} {y z : AV} {x : List Int} (h : TupR IntR hp y x) (h' : TupR IntR hp z x) : Same hp (d + 1) y z := by
  obtain ⟨a, ys, rfl, ha, ha2⟩ := h
  obtain ⟨b, zs, rfl, hb, hb2⟩ := h'
  refine .tup ha hb (by rw [ha2.length, hb2.length]) fun i p q hp hq => ?_
  obtain ⟨m, e1, r1⟩ := ha2.get' hp
  obtain ⟨m', e2, r2⟩ := hb2.get' hq
  rw [e1] at e2; cases e2
  exact same_int1 r1 r2
theorem same_strs {hp : Hp} {d : Nat} {y z : AV} {x : List Str} (h : LstR StrR hp y x) (h' : LstR StrR hp z x) : Same hp (d + 1) y z := by
  obtain ⟨a, ys, rfl, ha, ha2⟩ := h
  obtain ⟨b, zs, rfl, hb, hb2⟩ := h'
  refine .list ha hb (by rw [ha2.length, hb2.length]) fun i p q hp hq => ?_
  obtain ⟨m, e1, r1⟩ := ha2.get' hp
  obtain ⟨m', e2, r2⟩ := hb2.get' hq
  rw [e1] at e2; cases e2
  rw [show p = .str m from r1, show q = .str m from r2]; exact .str
noncomputable def SrtR : Rel (List Str) := fun hp v x => ∃ s, Srt x s ∧ LstR StrR hp v s
theorem SrtR.mono : Mono SrtR := fun h h' v x l hq221 => by obtain ⟨s, a, b⟩ := hq221; exact ⟨s, a, LstR.mono StrR.mono _ _ _ _ l b⟩
theorem same_groups {hp : Hp} {d : Nat} {v u : AV} {rs gs fs : List (List Str)} (hv : LstR SrtR hp v rs) (hu : LstR (LstR StrR) hp u gs) (hm : ∀ l ∈ rs, ∀ x ∈ l, x ∈ lawNames) (hp1 : All2 List.Perm rs fs) (hs : All2 Srt fs gs) : Same hp (d + 2) v u := by
  obtain ⟨a, ys, rfl, ha, ha2⟩ := hv
  obtain ⟨b, zs, rfl, hb, hb2⟩ := hu
  refine .list ha hb (by rw [ha2.length, hb2.length, hp1.length, hs.length]) fun i p q hpq hq => ?_
  obtain ⟨r, e1, s, s1, s2⟩ := ha2.get' hpq
  obtain ⟨g, e2, r2⟩ := hb2.get' hq
  obtain ⟨f, e3, r3⟩ := hp1.get' e1
  obtain ⟨g', e4, r4⟩ := hs.get' e3
  rw [e2] at e4; cases e4
  have := srt_eq (hm r (List.mem_of_getElem? e1)) r3 s1 r4
  subst this
  exact same_strs s2 r2
theorem same_ent {hp : Hp} {y z : AV} {x x' : Ent} (h : EntR hp y x) (h' : EntR hp z x') (e1 : x.a = x'.a) (e2 : x.b = x'.b) (e3 : x.c = x'.c) (e4 : x.d = x'.d) (e5 : ∀ k, look x.e k = look x'.e k) : Same hp 2 y z := by
  obtain ⟨t, vd, rfl, ht, hd⟩ := h
  obtain ⟨t', vd', rfl, ht', hd'⟩ := h'
  refine .tup ht ht' rfl fun i p q hp hq => ?_
  have last : Same _ 1 vd vd' := same_dct hd hd' (fun k => by rw [e5]) fun k m m' q1 q2 y z r1 r2 => by
    rw [e5, q2] at q1; cases q1
    exact same_int1 r1 r2
  match i with
  | 0 => cases hp; cases hq; rw [e1]; exact .int
  | 1 => cases hp; cases hq; rw [e2]; exact .int
  | 2 => cases hp; cases hq; rw [e3]; exact .int
  | 3 => cases hp; cases hq; rw [e4]; exact .int
  | 4 => cases hp; cases hq; exact last
  | n + 5 => simp at hp
structure EntsOk (ps : List (List (List Int))) (cs : List Int) (ents : List (Str × Ent)) : Prop where
  nd : (ents.map (·.1)).Nodup
  len : ents.length = 5
  each : ∀ q ∈ ents, E2 fun p es => A5 (p < 5) (q = (nm p, entAt ps cs p 3 es)) ((es.map (·.1)).Nodup) (es.length ≤ 15) (∀ k, look es k = look (nzl fun c => Wn ps c p) k)
theorem full_names {l : List Str} (h : l.Nodup) (hl : l.length = 5) (hs : ∀ x ∈ l, x ∈ lawNames) (k : Str) (hk : k ∈ lawNames) : k ∈ l := by
  by_cases z : k ∈ l
  · exact z
  · have := nodup_sub_len (l₁ := k :: l) (List.nodup_cons.mpr ⟨z, h⟩) (l₂ := lawNames) fun x hx => by
      rcases List.mem_cons.mp hx with rfl | hx
      · exact hk
      · exact hs x hx
    simp [lawNames, hl] at this
theorem EntsOk.at' {ps : List (List (List Int))} {cs : List Int} {ents : List (Str × Ent)} (h : EntsOk ps cs ents) {p : Nat} (hp : p < 5) : ∃ es, A3 (look ents (nm p) = some (entAt ps cs p 3 es)) ((es.map (·.1)).Nodup) (∀ k, look es k = look (nzl fun c => Wn ps c p) k) := by
  have hm := full_names h.nd (by rw [List.length_map]; exact h.len) (fun x hx => by
    obtain ⟨q, hq, rfl⟩ := List.mem_map.mp hx
    obtain ⟨p, es, hp, e, _⟩ := h.each q hq
    rw [e]; exact nm_mem hp) (nm p) (nm_mem hp)
  obtain ⟨q, hq, e⟩ := List.mem_map.mp hm
  obtain ⟨p', es, hp', e', h1, _, h2⟩ := h.each q hq
  have : p' = p := by rw [e'] at e; exact nm_inj hp' hp e
  subst this
  exact ⟨es, (look_mem h.nd).mp (by rw [← e']; exact hq), h1, h2⟩
noncomputable def grOf (ents : List (Str × Ent)) : Gr := ents.map fun q => (q.1, q.2.e)
theorem EntsOk.gw {ps : List (List (List Int))} {cs : List Int} {ents : List (Str × Ent)} (h : EntsOk ps cs ents) : GW (grOf ents) (Wn ps) := by
  refine ⟨⟨?_, fun p hp => ?_⟩, fun p hp => ?_⟩
  · unfold grOf; rw [List.map_map]; exact h.nd
  · obtain ⟨q, hq, rfl⟩ := List.mem_map.mp hp
    obtain ⟨p, es, hp5, e, h1, _, h2⟩ := h.each q hq
    subst e
    refine ⟨nm_mem hp5, h1, fun r hr => ?_⟩
    have := (look_mem h1).mp (show (r.1, r.2) ∈ es from hr)
    by_cases z : r.1 ∈ lawNames
    · exact z
    · rw [h2, nzl_other z] at this; cases this
  · obtain ⟨es, h1, h2, h3⟩ := h.at' hp
    refine ⟨es, ?_, h3⟩
    have := look_map (fun x : Ent => x.e) ents (nm p)
    unfold grOf
    rw [this, h1]; rfl
theorem wn_ok {ps : List (List (List Int))} (h : PsOk ps) : WOk (Wn ps) := fun i j hi hj => by
  have hg : ∀ m ∈ ps, 0 ≤ at2 m i j ∧ at2 m i j ≤ 3 := fun m hm => by
    obtain ⟨r, _, _, _, a, b⟩ := h.get hm hi hj; exact ⟨a, b⟩
  have hl := h.1
  unfold Wn
  obtain ⟨a, b, c, rfl⟩ := len_three hl
  have h1 := hg a (by simp); have h2 := hg b (by simp); have h3 := hg c (by simp)
  show 0 ≤ at2 a i j + (at2 b i j + (at2 c i j + 0)) ∧ at2 a i j + (at2 b i j + (at2 c i j + 0)) ≤ 9
  rw [Int.add_zero]
  exact ⟨Int.add_nonneg h1.1 (Int.add_nonneg h2.1 h3.1), Int.add_le_add h1.2 (Int.add_le_add h2.2 h3.2)⟩
theorem same_entries {ps : List (List (List Int))} {cs : List Int} {ents : List (Str × Ent)} (hps : PsOk ps) (h : EntsOk ps cs ents) {hp : Hp} {v u : AV} (hv : DctR EntR hp v ents) (hu : DctR EntR hp u (tabl 5 (fun _ => true) (entOf (PW (Wn ps)) cs))) : Same hp 3 v u := by
  have ht : ∀ p, p < 5 → look (tabl 5 (fun _ => true) (entOf (PW (Wn ps)) cs)) (nm p) = some (entOf (PW (Wn ps)) cs p) := fun p hp => by
    rw [tabl_look (Nat.le_refl _) hp]; simp [hp]
  refine same_dct hv hu (fun k => ?_) fun k x x' q1 q2 y z r1 r2 => ?_
  · by_cases z : k ∈ lawNames
    · obtain ⟨p, hp, rfl⟩ := mem_names.mp z
      obtain ⟨es, h1, _⟩ := h.at' hp
      rw [h1, ht p hp]; rfl
    · rw [tabl_other (Nat.le_refl _) z]
      have : look ents k = none := look_none.mpr fun hm => z (by
        obtain ⟨q, hq, rfl⟩ := List.mem_map.mp hm
        obtain ⟨p, es, hp, e, _⟩ := h.each q hq
        rw [e]; exact nm_mem hp)
      rw [this]
  · have hm := mem_look q1
    obtain ⟨p, es, hp, e, h1, _, h2⟩ := h.each _ hm
    obtain ⟨rfl, rfl⟩ := Prod.mk.inj e
    rw [ht p hp] at q2; cases q2
    have htk : ps.take 3 = ps := List.take_of_length_le (by rw [hps.1]; exact Nat.le_refl _)
    refine same_ent r1 r2 ?_ ?_ rfl rfl h2
    · show sum5 (fun c => Wn (ps.take 3) c p) = sum5 fun o => Wn ps o p
      rw [htk]
    · show sum5 (fun c => Wn (ps.take 3) c p) = sum5 fun o => Wn ps o p
      rw [htk]
theorem same_tables {ps : List (List (List Int))} {g : Gr} {keys : List Str} (hps : PsOk ps) (h : GW g (Wn ps)) (hk : KeyOk g keys) {hp : Hp} {v u : AV} {tabs : List (Str × List (Str × List Int))} (hv : DctR Tab hp v tabs) (ht1 : tabs.map (·.1) = (rsT g keys 5).flatten) (ht2 : ∀ q ∈ tabs, ∀ far, look q.2 far = Fw (PW (Wn ps)) q.1 far)
    (hu : DctR Tab hp u (tabl 5 (fun p => decide ((rank (PW (Wn ps)) p : Int) < 5)) (colT (PW (Wn ps))))) : Same hp 3 v u := by
  have hW := wn_ok hps
  have hlk : ∀ p, p < 5 → look (tabl 5 (fun p => decide ((rank (PW (Wn ps)) p : Int) < 5)) (colT (PW (Wn ps)))) (nm p) = if wk (sucOf g) keys 5 (nm p) = true then none else some (colT (PW (Wn ps)) p) := fun p hp => by
    rw [tabl_look (Nat.le_refl _) hp]
    have h5 := h.rank5 hW hk hp
    have hle := (h.rank_wk hW hk hp).3
    by_cases z : wk (sucOf g) keys 5 (nm p) = true
    · rw [if_pos z, if_neg]
      rintro ⟨_, q⟩
      rw [decide_eq_true_eq] at q
      have := h5.mpr z
      lia
    · rw [if_neg z, if_pos]
      refine ⟨hp, ?_⟩
      rw [decide_eq_true_eq]
      have : rank (PW (Wn ps)) p ≠ 5 := fun e => z (h5.mp e)
      lia
  have hmem : ∀ k, (look tabs k).isSome = true ↔ k ∈ keys ∧ wk (sucOf g) keys 5 k = false := fun k => by
    rw [← h.ord_mem hk, ← ht1]
    cases q : look tabs k with
    | none => simpa using look_none.mp q
    | some x => simp; exact ⟨x, mem_look q⟩
  refine same_dct hv hu (fun k => ?_) fun k x x' q1 q2 y z r1 r2 => ?_
  · rw [Bool.eq_iff_iff, hmem k]
    by_cases z : k ∈ lawNames
    · obtain ⟨p, hp, rfl⟩ := mem_names.mp z
      rw [hlk p hp]
      cases q : wk (sucOf g) keys 5 (nm p) with
      | true => simp
      | false => simp; exact (h.keys hk _).mpr z
    · rw [tabl_other (Nat.le_refl _) z]
      simp
      exact fun y => absurd ((h.keys hk k).mp y) z
  · obtain ⟨a, b⟩ := (hmem k).mp (by rw [q1]; rfl)
    obtain ⟨p, hp, rfl⟩ := mem_names.mp ((h.keys hk k).mp a)
    rw [hlk p hp, b] at q2
    cases q2
    have e : ∀ far, look x far = look (colT (PW (Wn ps)) p) far := fun far => by
      rw [ht2 _ (mem_look q1) far, Fw_nm hp]
    exact same_dct r1 r2 (fun far => by rw [e]) fun far m m' e1 e2 y' z' s1 s2 => by
      rw [e, e2] at e1; cases e1
      exact same_itup s1 s2
end Mine
end
section
open PySem PySem.W PySem.Calls PyProof.Rows
set_option Elab.async false
set_option linter.unusedVariables false
set_option maxRecDepth 100000
set_option maxHeartbeats 4000000
namespace Mine
variable {prog : Program} {w : World}
section
variable {G : Gl}
variable (prog w) in
inductive FnBdy (G : Gl) (n : Nat) (f : Addr) (ns : List Str) (k : Nat) (xs : List AV) (hp : Hp0) (K : AV → Hp0 → Prop) (oc : Value) (od : Option Addr) (osl : Array (Option Value)) (name qual : Str) (params : Arguments) (body : List Stmt) (scope : Scope) (dV kV doc pm cdv ct : Value) (an : Option Addr) : Prop
  | mk (hf : G.K.lookup f = some ⟨oc, od, .func (fnOf name qual params body scope dV kV doc pm an cdv ct), osl⟩) (hcd : codeIn G.K cdv qual = true) (h : ∀ A env own fr, Blk ⟨A, env, nsF ns, ns.length, own, fr⟩ scope → Room n ⟨A, env, nsF ns, ns.length, own, fr⟩ → env.code = cdv ∧ FrTop ⟨A, env, nsF ns, ns.length, own, fr⟩ → Exs prog w G ⟨A, env, nsF ns, ns.length, own, fr⟩ body ⟨fun i => xs[i]?, hp⟩ fun fl st => K (match fl with | .ret v => v | _ => .none) st.hp) (hbind : ∀ vs : List Value, vs.length = k → bindArgs (fnOf name qual params body scope dV kV doc pm an cdv ct) ⟨vs, []⟩ = pure ((ns.take k).zip vs)) (hx : xs.length = k) (hco : scope.isCoroutine = false) (hgen : scope.isGenerator = false) (hk : scope.kind = .function) (hkl : k ≤ ns.length) (hN : namesB ns = true) (hkind : paramB scope (ns.take k) = true) (hfree : (scope.names.all fun y => !isFree y.2) = true)
variable (prog w) in
noncomputable def Bdy (G : Gl) (n : Nat) (f : Addr) (xs : List AV) (hp : Hp0) (K : AV → Hp0 → Prop) : Prop := E9 fun ns k oc od osl name qual params body => E8 fun scope dV kV doc pm cdv ct an => FnBdy prog w G n f ns k xs hp K oc od osl name qual params body scope dV kV doc pm cdv ct an
theorem fn_bdy {n : Nat} {f : Addr} (ns : List Str) (k : Nat) {oc : Value} {od : Option Addr} {osl : Array (Option Value)} {name qual : Str} {params : Arguments} {body : List Stmt} {scope : Scope} {dV kV doc pm cdv ct : Value} {an : Option Addr}
    (hf : G.K.lookup f = some ⟨oc, od, .func (fnOf name qual params body scope dV kV doc pm an cdv ct), osl⟩) (hcd : codeIn G.K cdv qual = true)
    {xs : List AV} {hp : Addr → Option AObj} {K : AV → (Addr → Option AObj) → Prop}
    (h : ∀ A env own fr, Blk ⟨A, env, nsF ns, ns.length, own, fr⟩ scope → Room n ⟨A, env, nsF ns, ns.length, own, fr⟩ → env.code = cdv ∧ FrTop ⟨A, env, nsF ns, ns.length, own, fr⟩ → Exs prog w G ⟨A, env, nsF ns, ns.length, own, fr⟩ body ⟨fun i => xs[i]?, hp⟩ fun fl st => K (match fl with | .ret v => v | _ => .none) st.hp)
    (hbind : autoParam (BindN (fnOf name qual params body scope dV kV doc pm an cdv ct) ns k) tAll)
    (hx : autoParam (xs.length = k) tRfl)
    (hco : autoParam (scope.isCoroutine = false) tRfl) (hgen : autoParam (scope.isGenerator = false) tRfl) (hk : autoParam (scope.kind = .function) tRfl) (hkl : autoParam (k ≤ ns.length) tDec)
    (hN : autoParam (namesB ns = true) tRfl) (hkind : autoParam (paramB scope (ns.take k) = true) tRfl) (hfree : autoParam ((scope.names.all fun y => !isFree y.2) = true) tRfl) : Bdy prog w G n f xs hp K :=
  ⟨ns, k, oc, od, osl, name, qual, params, body, scope, dV, kV, doc, pm, cdv, ct, an, ⟨hf, hcd, h, BindN.all hbind, hx, hco, hgen, hk, hkl, hN, hkind, hfree⟩⟩
theorem Bdy.top (gk : GOk G) {n : Nat} {f : Addr} {xs : List AV} {hp : Hp0} {K : AV → Hp0 → Prop} (h : Bdy prog w G n f xs hp K) {A : Around} {s : Shared} (hA : A.depth + (n + 1) < recursionLimit) (hu : A.units + 20 * (n + 1) < cLine) (hfr : A.frames = some []) (hhand : A.handled = none)
    {ex : Addr → Option Obj} (keep : ∀ b o, ex b = some o → s.heap.get? b = some o) (base : ∀ b o, G.B b = some o → ex b = some o) (hhp : ∀ a A, hp a = some A → ex a = none ∧ ∃ o, s.heap.get? a = some o ∧ A.is prog w o)
    (tab : ex G.tabP = none ∧ ∃ more : { m : Array Value // TriplesOk (G.tab0 ++ m).toList }, s.heap.get? G.tabP = some (X.tableObj (G.tab0 ++ more.1))) (gens : AllBare s.gens) (os : s.os = G.os) {vs : List Value} (ha : Absl vs xs) :
    codeAny (model prog w) A (.call (.ref f) ⟨vs, []⟩) (endsIn (fun v s' => E2 fun av hp' => A7 (vabs v = some av) (∀ b o, ex b = some o → s'.heap.get? b = some o) (∀ a A, hp' a = some A → ∃ o, s'.heap.get? a = some o ∧ A.is prog w o) (∃ more : { m : Array Value // TriplesOk (G.tab0 ++ m).toList }, s'.heap.get? G.tabP = some (X.tableObj (G.tab0 ++ more.1))) (AllBare s'.gens) (s'.os = G.os) (K av hp')) fun _ _ => False) s := by
  refine hide fun Pz hPz => ?_; (rcases h with ⟨ns, k, oc, od, osl, name, qual, params, body, scope, dV, kV, doc, pm, cdv, ct, an, hf, hcd, h, hbind, hx, hco, hgen, hk, hkl, hN0, hkind0, hfree⟩) <;> (refine hPz ?_; clear hPz Pz)
  have hN := names_of (scope := scope) hN0
  have hkind := hkind0
  have bot : ∀ b o, G.B b = some o → s.heap.get? b = some o := fun b o e => keep b o (base b o e)
  have kin : G.K.In s.heap := fun a o e => bot a o (gk.frag a o e)
  refine (codeAny_call_function (fd := fnOf name qual params body scope dV kV doc pm an cdv ct) (body := body) (Nat.lt_of_le_of_lt (Nat.le_add_right _ _) ‹_›) (kin _ _ hf) rfl hco hgen rfl (codeRec_of kin hcd) ?_)
  rw [hbind vs (ha.length.trans hx)]
  refine wpAny_pure ?_
  have hlen : vs.length = k := ha.length.trans hx
  have hkX : ∀ m, ∀ x ∈ (ns.take k).zip vs, scope.names.lookup x.1 = some .local ∨ (scope.names.lookup x.1 = some .cell ∧ ((cellsFrom m scope.names []).lookup x.1).isSome = true) :=
    kindsX (List.all_eq_true.mpr fun y hy => (List.all_eq_true.mp hkind) y.1 (List.of_mem_zip (show (y.1, y.2) ∈ _ from hy)).1)
  refine wpAny_newFunctionEnv_cells hk (hkX _) fun env' he s' x => ?_
  have x' := x
  obtain ⟨h₁, tk, rfl, hk₁⟩ := x.done
  refine ⟨(gk.lim _ bot).keeps hk₁, codeAny_func ?_⟩
  have hL : env'.locals = s.heap.objs.size := by rw [he]; rfl
  have hsc : env'.scope = scope := by rw [he]; rfl
  have hcl : env'.cells = cellsFrom (s.heap.objs.size + 1) scope.names [] := by rw [he]; rfl
  have hnd : ((ns.take k).zip vs).map (·.1) = ns.take k := by
    rw [List.map_fst_zip]
    rw [List.length_take]; lia
  have hndp : (((ns.take k).zip vs).map (·.1)).Nodup := by rw [hnd]; exact hN.nodup.sublist (List.take_sublist _ _)
  let C' : Cx := ⟨A.deeper env', env', nsF ns, ns.length, ns.filterMap fun x => env'.cells.lookup x, []⟩
  have ok' : COk C' := by
    refine ⟨by show env'.scope.kind = _; rw [hsc]; exact hk, fun i hi => ?_, fun i j hi hj e => ?_, fun a b c ha hb => lookup_inj x'.apart ha hb, hhand, by show env'.globals = _; rw [he]; rfl, by show env'.builtins = _; rw [he]; rfl⟩
    · have hi' : i < ns.length := hi
      have : nsF ns i = ns[i] := by simp [nsF, List.getD, hi']
      show (nsF ns i == _) = false ∧ (nsF ns i == _) = false
      rw [this]; exact hN.dbg _ (List.getElem_mem hi')
    · have hi' : i < ns.length := hi
      have hj' : j < ns.length := hj
      have e1 : nsF ns i = ns[i] := by simp [nsF, List.getD, hi']
      have e2 : nsF ns j = ns[j] := by simp [nsF, List.getD, hj']
      have e' : nsF ns i = nsF ns j := e
      rw [e1, e2] at e'
      exact (List.getElem_inj hN.nodup).mp e'
  have hnew : ∀ b, s.heap.objs.size ≤ b → s.heap.get? b = none := fun b hb => by
    cases q : s.heap.get? b with
    | none => rfl
    | some o => exact absurd (Heap.lt_size q) (Nat.not_lt.mpr hb)
  have exnew : ∀ b, s.heap.objs.size ≤ b → ex b = none := fun b hb => by
    cases q : ex b with
    | none => rfl
    | some o => have := keep b o q; rw [hnew b hb] at this; cases this
  have hcellge : ∀ y c, (y, c) ∈ env'.cells → s.heap.objs.size < c := fun y c hm => by
    have := x'.above y c hm; rw [hL] at this; exact this
  have R' : Real prog w G C' ex ⟨fun i => xs[i]?, hp⟩ { s with heap := h₁, toks := tk } := by
    refine ⟨⟨_, x'.toInCall.ns, fun i av e => ?_⟩, fun b o e => hk₁ b o (keep b o e), base, ?_, fun c hc => ?_, fun a A e => ?_, ⟨tab.1, by obtain ⟨more, ht⟩ := tab.2; exact ⟨more, hk₁ _ _ ht⟩⟩, gens, os, fun y c hy => ⟨_, x'.cell y c hy⟩, fun p hp => by cases hp⟩
    · have hi : i < k := by have := (List.getElem?_eq_some_iff.mp e).1; exact Nat.lt_of_lt_of_eq ‹_› ‹_›
      have hi' : i < ns.length := Nat.lt_of_lt_of_le ‹_› ‹_›
      refine ⟨hi', ?_⟩
      obtain ⟨v, hv, hva⟩ := ha.get e
      refine ⟨v, hva, ?_⟩
      have hb : ((ns.take k).zip vs)[i]? = some (nsF ns i, v) := by
        rw [List.getElem?_zip_eq_some]
        refine ⟨?_, hv⟩
        rw [List.getElem?_take, if_pos hi]
        simp [nsF, List.getD, hi']
      have hm : nsF ns i ∈ ns.take k := (List.of_mem_zip (List.mem_of_getElem? hb)).1
      have hkk := (List.all_eq_true.mp hkind) _ hm
      show VarIs env' _ h₁ (nsF ns i) v
      have hko : env'.kindOf (nsF ns i) = scope.names.lookup (nsF ns i) := by unfold Env.kindOf; rw [hsc]
      rcases Bool.or_eq_true_iff.mp hkk with q | q
      · have q' : env'.kindOf (nsF ns i) = some .local := hko.trans (knB_at q)
        exact .inl ⟨q', bindL_get hndp hb q'⟩
      · have q0 : scope.names.lookup (nsF ns i) = some .cell := knB_at q
        have q' : env'.kindOf (nsF ns i) = some .cell := by rw [hko]; exact q0
        have hs := cellsFrom_some (x := nsF ns i) scope.names (s.heap.objs.size + 1) [] (.inl q0)
        rw [← hcl] at hs
        cases hc : env'.cells.lookup (nsF ns i) with
        | none => rw [hc] at hs; cases hs
        | some c =>
          refine .inr ⟨.inl q', c, hc, ?_⟩
          have := x'.cell _ c hc
          rwa [bindC_get hndp hb (by rw [q']; rintro ⟨⟩)] at this
    · show ex env'.locals = none
      rw [hL]; exact exnew _ (Nat.le_refl _)
    · obtain ⟨y, _, hy⟩ := List.mem_filterMap.mp hc
      have hgt := hcellge y c (mem_of_lookup hy)
      exact ⟨exnew _ (Nat.le_of_lt hgt), _, x'.cell y c hy⟩
    · obtain ⟨a1, o, ho, hA⟩ := hhp a A e
      refine ⟨a1, ?_, o, hk₁ a o ho, hA⟩
      show a ≠ env'.locals
      rw [hL]; exact Nat.ne_of_lt (Heap.lt_size ho)
  have hfrm : env'.frame = some env'.locals := by rw [he]; rfl
  have frT : FrTop C' := ⟨hfrm, by show env'.scope.kind ≠ _; rw [hsc, hk]; rintro ⟨⟩, [], Around.frames_deeper hfr, fun env he => by cases he⟩
  have frO : FrOk C' := by
    obtain ⟨f1, f2, outer, f3, f4⟩ := frT
    refine ⟨_, f3, fun env he => ?_⟩
    rcases List.mem_cons.mp he with rfl | he
    · exact ⟨f2, _, f1, .inl rfl⟩
    · obtain ⟨k1, L, m', k2, k3⟩ := f4 env he; exact ⟨k1, L, k2, .inr ⟨m', k3⟩⟩
  have rm' : Room n C' := ⟨by show (A.deeper env').depth + n < _; simp only [Around.deeper]; lia, by show (A.deeper env').units + 20 * n < _; simp only [Around.deeper]; lia, frO⟩
  have hB : Blk C' scope := by
    refine blk_of ok' hsc (fun i hi hki => ⟨hi, ?_⟩) hfree (fun y hy => by show (env'.cells.lookup y).isSome = true; rw [hcl]; exact cellsFrom_some (x := y) scope.names (s.heap.objs.size + 1) [] (.inl hy))
    have hko : env'.kindOf (nsF ns i) = scope.names.lookup (nsF ns i) := by unfold Env.kindOf; rw [hsc]
    show env'.kindOf (nsF ns i) = _ ∨ (env'.kindOf (nsF ns i) = _ ∧ ∃ c, env'.cells.lookup (nsF ns i) = some c ∧ c ∈ ns.filterMap fun x => env'.cells.lookup x)
    rw [hko]
    rcases hki with q | q
    · exact .inl q
    · have hs := cellsFrom_some (x := nsF ns i) scope.names (s.heap.objs.size + 1) [] (.inl q)
      rw [← hcl] at hs
      obtain ⟨c, hc⟩ := Option.isSome_iff_exists.mp hs
      have hi' : i < ns.length := hi
      exact .inr ⟨q, c, hc, List.mem_filterMap.mpr ⟨nsF ns i, by simp [nsF, List.getD, hi'], hc⟩⟩
  refine wpAny_mono ((h _ _ _ _ hB rm' ⟨by show env'.code = _; rw [he]; rfl, frT⟩).run _ _ (fun _ _ => False) R') (fun fl s₂ hz76 => ?_) fun e s₂ y => y.elim
  obtain ⟨af, st₂, hf₂, R₂, h₂⟩ := hz76
  have rest : ∀ av v, vabs v = some av → K av st₂.hp → endsIn (fun v s' => E2 fun av hp' => A7 (vabs v = some av) (∀ b o, ex b = some o → s'.heap.get? b = some o) (∀ a A, hp' a = some A → ∃ o, s'.heap.get? a = some o ∧ A.is prog w o) (∃ more : { m : Array Value // TriplesOk (G.tab0 ++ m).toList }, s'.heap.get? G.tabP = some (X.tableObj (G.tab0 ++ more.1))) (AllBare s'.gens) (s'.os = G.os) (K av hp')) (fun _ _ => False) (.ok (.ret v)) s₂ :=
    fun av v hv hK => ⟨av, st₂.hp, hv, R₂.keep, fun a A e => (R₂.hp a A e).3, R₂.tab.2, R₂.gens, R₂.os, hK⟩
  cases fl with
  | next => cases hf₂; exact rest _ _ rfl h₂
  | brk => cases hf₂; exact rest _ _ rfl h₂
  | cont => cases hf₂; exact rest _ _ rfl h₂
  | ret v =>
    obtain ⟨av, hv, rfl⟩ := Option.map_eq_some_iff.mp hf₂
    exact rest _ _ hv h₂
end
end Mine
end
section
open PySem PySem.W PySem.Calls PyProof.Rows
set_option Elab.async false
set_option linter.unusedVariables false
set_option maxRecDepth 100000
set_option maxHeartbeats 4000000
namespace Mine
variable {prog : Program} {w : World}
section
variable {G : Gl} {P : Params} {C : Cx} {st : St}
theorem dcomp_inv {α : Type} {bind : α → St → St} {Pp : St → Prop} {D : Addr} {kx vx : Expr} {xs : List α} {K : St → Prop} (I : Nat → St → Prop) (h0 : I 0 st)
    (hs : ∀ i x st, xs[i]? = some x → I i st → Ev prog w G C kx (bind x st) fun k st₁ => Ev prog w G C vx st₁ fun v st₂ => E3 fun kk es ep => A4 (k = .str kk) (st₂.hp D = some (.dict es ep)) (es.length ≤ 1000) (∀ ep', Pp (st₂.put D (.dict (aput es kk v) ep')) ∧ I (i + 1) (st₂.put D (.dict (aput es kk v) ep'))))
    (hf : ∀ st, I xs.length st → K st) : dcompL bind Pp D (fun st K => Ev prog w G C kx st K) (fun st K => Ev prog w G C vx st K) xs st K := by
  suffices key : ∀ (r : List α) (i : Nat) (st : St), xs.drop i = r → i ≤ xs.length → I i st → dcompL bind Pp D (fun st K => Ev prog w G C kx st K) (fun st K => Ev prog w G C vx st K) r st K from key xs 0 st (by simp) (Nat.zero_le _) h0
  intro r
  induction r with
  | nil =>
    intro i st hd hi h
    have : i = xs.length := by have := congrArg List.length hd; simp at this; lia
    subst this
    exact hf st h
  | cons x r ih =>
    intro i st hd hi h
    have hlt : i < xs.length := by have := congrArg List.length hd; simp at this; lia
    have hx : xs[i]? = some x := by
      have : (xs.drop i)[0]? = some x := by rw [hd]; rfl
      rw [List.getElem?_drop] at this; simpa using this
    have hd' : xs.drop (i + 1) = r := by
      have : (xs.drop i).drop 1 = r := by rw [hd]; rfl
      rw [List.drop_drop] at this; exact this
    exact Ev.mono (hs i x st hx h) fun k st₁ h₁ => Ev.mono h₁ fun v st₂ hq237 => by obtain ⟨kk, es, ep, a, b, c, d⟩ := hq237; exact ⟨kk, es, ep, a, b, c, fun ep' => ⟨(d ep').1, ih (i + 1) _ hd' hlt (d ep').2⟩⟩
end
section
variable {G : Gl} {P : Params}
theorem law_ok (gk : GOk G) (hK : G.K = hd.heap_1 P) {bm : Addr} {ob : Obj} (gb : GBm G bm ob) (gc : GCode G 34) {n : Nat} {l : Addr} {o : Obj} {xs : List Int} {hp : Hp} (e : hp l = some (.scr o xs)) (hxs : xs.length ≤ 1000) :
    Bdy prog w G (n + 7) 244 [.ref l] hp fun v hp' => v = .bool true ∧ Le hp hp' := by
  refine fn_bdy ["script", "cells", "total", "profiles", "entries", "callers", "told", "powers", "ranks", "name", "entry", "group"] 1 (by exact lkK hK rfl) (by exact cdK hK rfl) fun A env own fr B rm hcd => ?_
  refine Exs.hide fun κ hκ => ?_
  refine exs_cons (set_n B 1 (ev_fn gk B rm (f := 174) (by exact nsK hK rfl) (by exact fbK hK rfl) (es_c (ev_n B 0 rfl (es_nil (FnC.mono (law_cells_ok gk hK e hxs) fun vc hp1 hz65 => ?_))))))
  obtain ⟨le1, cs, hcs, hvc⟩ := hz65
  refine exs_cons (set_n B 2 (ev_iop (ev_bi gk B (by exact nsK hK rfl) rfl (es_c (ev_n B 0 rfl (es_nil fun vs hvs => ?_))))))
  obtain ⟨v1, rfl, hv1⟩ := hvs.one
  rw [vabs_ref hv1]
  refine op_sum_scr B.ok (le1 _ _ e) (ev_int ⟨_, 76, _, rfl, rfl, rfl, ?_⟩)
  refine exs_cons (set_n B 3 (ev_fn gk B rm (f := 179) (by exact nsK hK rfl) (by exact fbK hK rfl) (es_c (ev_n B 1 rfl (es_c (ev_n B 2 rfl (es_nil (FnC.mono (law_profiles_ok gk hK hvc hcs) fun vp hp2 hz66 => ?_))))))))
  obtain ⟨le2, ps, hps, hvp⟩ := hz66
  have hvc2 := LstR.mono IntR.mono _ _ _ _ le2 hvc
  refine exs_cons (set_n B 4 (ev_fn gk B rm (f := 186) (by exact nsK hK rfl) (by exact fbK hK rfl) (es_c (ev_n B 3 rfl (es_c (ev_n B 1 rfl (es_c (ev_n B 2 rfl (es_nil (FnC.mono (law_entries_ok gk hK gb gc hps hvp hvc2 hcs) fun ve hp3 hz67 => ?_))))))))))
  refine hide fun Pz hPz => ?_
  obtain ⟨le3, ents, hve, hel, hee⟩ := hz67
  obtain ⟨de, ye, epe, ede, he1, he2, he3⟩ := id hve
  refine hPz ?_
  clear hPz Pz
  subst ede
  have hok : EntsOk ps cs ents := ⟨he3, hel, hee⟩
  have hgw := hok.gw
  have hW := wn_ok hps
  refine exs_cons (set_dc B 5 [] (src_it gk (ev_n B 4 rfl ⟨de, ye, epe, rfl, he1, fun env1 own1 fr1 B1 => ⟨_, _, _, tg_nn B1 9 10, fun D hD => ⟨fun hp l => l _ _ he1, ?_⟩⟩⟩)))
  have hD : hp3 D = none := hD
  refine dcomp_inv (fun j st => Le hp3 st.hp ∧ E2 fun zs ep => st.hp D = some (.dict zs ep) ∧ All2 (fun p q => p.1 = q.1 ∧ DctR IntR hp3 p.2 q.2) zs (grOf (ents.take j))) ⟨Le.new hD, [], 0, hset_self _ _ _, .nil⟩ ?_ ?_
  · rintro j ⟨kx, vx⟩ ⟨loc, hp4⟩ hxx ⟨le4, zs, ep, hz, hall⟩
    change Le hp3 hp4 at le4; change hp4 D = _ at hz
    simp only [two_i, List.getElem?_map, Option.map_eq_some_iff] at hxx
    obtain ⟨q, hq, hq2⟩ := hxx
    obtain ⟨rfl, rfl⟩ := Prod.mk.inj hq2
    refine hide fun Pz hPz => ?_
    obtain ⟨p, hpj, hrk, t, vd, et, ht, hd⟩ := he2.get' hq
    refine hPz ?_
    clear hPz Pz
    have hlen : zs.length ≤ 1000 := by rw [hall.length]; simp [grOf]; lia
    have hnew : p.1 ∉ (grOf (ents.take j)).map (·.1) := by
      have := take_nodup he3 hpj
      unfold grOf; rw [List.map_map]; exact this
    refine ev_n B1 9 rfl (ev_at (ev_n B1 10 rfl (ev_int ⟨vd, by rw [et]; exact .tup (le4 _ _ ht) (by decide) rfl (Nat.le_of_ble_eq_true rfl), q.1, zs, ep, rfl, hz, hlen, fun ep' => ⟨?_, ?_⟩⟩)))
    · exact (Le.put le4 hD) _ _ he1
    · refine ⟨Le.put le4 hD, _, ep', hset_self _ _ _, ?_⟩
      have hr := aput_rel (R := DctR IntR) (hp := hp3) hall (k := q.1) hd
      rw [hrk, putk_new hnew] at hr
      rw [take_snoc hpj, hrk]
      unfold grOf at hr ⊢
      rw [List.map_append]
      exact hr
  · rintro ⟨loc, hp4⟩ ⟨le4, zs, ep, hz, hall⟩
    change Le hp3 hp4 at le4; change hp4 D = _ at hz
    have hall : All2 (fun p q => p.1 = q.1 ∧ DctR IntR hp3 p.2 q.2) zs (grOf ents) := by
      have hl : (SrcK.items de ye epe).two.length = ents.length := by
        have := he2.length
        simpa [two_i] using this
      rw [hl, List.take_length] at hall; exact hall
    refine ⟨zs, ep, hz, ?_⟩
    have hg : DctR (DctR IntR) hp4 (.ref D) (grOf ents) := ⟨D, zs, ep, rfl, hz, hall.mono fun p q r => ⟨r.1, DctR.mono IntR.mono _ _ _ _ le4 r.2⟩, hgw.ok.nd⟩
    refine exs_cons (set_n B 6 (ev_fn gk B rm (f := 193) (by exact nsK hK rfl) (by exact fbK hK rfl) (es_c (ev_n B 5 rfl (es_nil (FnC.mono (law_told_ok gk hK hg hgw.ok) fun vt hp5 hz68 => ?_))))))
    refine hide fun Pz hPz => ?_; (rcases hz68 with ⟨le5, keys, t, ring, vr, hk, et, ht, hrs, hrv⟩) <;> (refine hPz ?_; clear hPz Pz)
    subst et
    rw [rest_nil hgw.ok hk] at ht
    have hvp5 := LstR.mono Mat.mono _ _ _ _ ((le3.trans le4).trans le5) hvp
    refine exs_cons (set_n B 7 (ev_fn gk B rm (f := 212) (by exact nsK hK rfl) (by exact fbK hK rfl) (es_c (ev_n B 3 rfl (es_nil (FnC.mono (law_powers_ok gk hK hps hvp5) fun vw hp6 hz69 => ?_))))))
    obtain ⟨le6, hvw⟩ := hz69
    have hvw : LstR Mat hp6 vw (pws (PW (Wn ps))) := hvw
    refine exs_cons (set_n B 8 (ev_fn gk B rm (f := 217) (by exact nsK hK rfl) (by exact fbK hK rfl) (es_c (ev_n B 7 rfl (es_nil (FnC.mono (law_ranks_ok gk hK hvw) fun vk hp7 hz70 => ?_))))))
    obtain ⟨le7, hvk⟩ := hz70
    have hvw7 := LstR.mono Mat.mono _ _ _ _ le7 hvw
    have hvc7 := LstR.mono IntR.mono _ _ _ _ ((((le3.trans le4).trans le5).trans le6).trans le7) hvc2
    have hve7 := DctR.mono EntR.mono _ _ _ _ (((le4.trans le5).trans le6).trans le7) hve
    have hu : A.units + 3 < cLine := by have := rm.2; show A.units + 3 < cLine; have h2 : A.units + 20 * (n + 7) < cLine := this; lia
    refine exs_cons (ex_return (ev_and (ev_cmp (ev_n B 4 rfl (ev_fn gk B rm (f := 222) (by exact nsK hK rfl) (by exact fbK hK rfl) (es_c (ev_n B 7 rfl (es_c (ev_n B 1 rfl (es_nil (FnC.mono (law_sums_ok gk hK hvw7 hvc7 hcs) fun vs hp8 hz71 => ?_)))))))) rfl)))
    obtain ⟨le8, hvs⟩ := hz71
    intro va vb ha hb
    refine hide fun Pz hPz => ?_
    obtain ⟨ds, ys, eps, eds, hs1, hs2, hs3⟩ := id hvs
    refine hPz ?_
    clear hPz Pz
    subst eds
    refine op_eq_same gk (same_entries hps hok (DctR.mono EntR.mono _ _ _ _ le8 hve7) hvs) hu ha hb ⟨true, .bool, ?_⟩
    rw [if_pos rfl]
    have le58 : Le hp5 hp8 := (le6.trans le7).trans le8
    have hg8 := DctR.mono (DctR.mono IntR.mono) _ _ _ _ (le5.trans le58) hg
    have hvk8 := LstR.mono IntR.mono _ _ _ _ le8 hvk
    have ht8 := le58 _ _ ht
    have ringc : FnC prog w G (n + 7) 239 [ring, .ref D, vk] hp8 fun v hp' => Le hp8 hp' ∧ v = .bool true := by
      rcases hrv.mono le58 with ⟨rfl, hac⟩ | ⟨tr, nl, nodes, rfl, h1, h2, hring⟩
      · refine FnC.mono (law_ring_none_ok gk hK hvk8 ?_) fun v hp' hq245 => by obtain ⟨e1, e2⟩ := hq245; exact ⟨by rw [e1]; exact Le.refl _, e2⟩
        rw [List.any_eq_false]
        intro x hx
        obtain ⟨p, hp, rfl⟩ := List.mem_map.mp hx
        have hp5 := List.mem_range.mp hp
        have h5 := acyc_no5 hgw.ok hk hac ((hgw.keys hk _).mpr (nm_mem hp5))
        intro z
        have z : rank (PW (Wn ps)) p = 5 := by have := beq_iff_eq.mp z; exact Int.ofNat.inj ‹_›
        rw [hgw.rank5 hW hk hp5, h5] at z; cases z
      · refine law_ring_some_ok gk hK h1 h2 hg8 hvk8 ?_ (ring_ok hgw.ok hk hring)
        rw [List.any_eq_true]
        obtain ⟨x, mid, en, _⟩ := hring.ends
        have hx : x ∈ nodes := by rw [en]; simp
        obtain ⟨p, hp, rfl⟩ := mem_names.mp ((hgw.keys hk _).mp (hring.mem x hx))
        refine ⟨_, List.mem_map.mpr ⟨p, List.mem_range.mpr hp, rfl⟩, ?_⟩
        rw [(hgw.rank5 hW hk hp).mpr (ring_wk hring 5 _ hx)]; rfl
    refine ev_and (ev_fn gk B rm (f := 239) (by exact nsK hK rfl) (by exact fbK hK rfl) (es_c (ev_at (ev_n B 6 rfl (ev_int ⟨ring, .tup ht8 (by decide) rfl (Nat.le_of_ble_eq_true rfl), es_c (ev_n B 5 rfl (es_c (ev_n B 8 rfl (es_nil (FnC.mono ringc fun v hp9 hz72 => ?_)))))⟩)))))
    obtain ⟨le9, ev⟩ := hz72
    subst ev
    refine ⟨true, .bool, ?_⟩
    rw [if_pos rfl]
    have ht9 := le9 _ _ ht8
    have hrs9 := LstR.mono (TupR.mono StrR.mono) _ _ _ _ (le58.trans le9) hrs
    have hrsl : (rsT (grOf ents) keys 5).length ≤ 5 := rs_len
    have hrm : ∀ l ∈ rsT (grOf ents) keys 5, ∀ x ∈ l, x ∈ lawNames := fun l hl x hx => (hgw.keys hk x).mp ((hgw.ord_mem hk x).mp (List.mem_flatten.mpr ⟨l, hl, hx⟩)).1
    refine ev_and (ev_cmp (ev_map B 11 [] (TupR.mono StrR.mono) SrtR.mono (test := fun _ => true) (fun x => x) (map_list (ev_at (ev_n B 6 rfl (ev_int ⟨vr, .tup ht9 (by decide) rfl (Nat.le_of_ble_eq_true rfl), rsT (grOf ents) keys 5, hrs9, Nat.le_trans ‹_› (by decide), ?_, ?_⟩))))) rfl)
    · refine fun env2 own2 fr2 B2 x hx y hp10 hle10 hy => ts_nil ⟨rfl, rfl, fun _ => ?_⟩
      refine hide fun Pz hPz => ?_
      obtain ⟨ty, yy, ety, hy1, hy2⟩ := hy
      refine hPz ?_
      clear hPz Pz
      rw [strs_of hy2] at hy1
      have hxl : x.length < 64 := by
        have hnd : x.Nodup := by
          have := (ord_nodup hgw.ok hk)
          exact (List.sublist_flatten_of_mem hx).nodup this
        have := nodup_sub_len hnd (hrm x hx)
        simp [lawNames] at this; exact nab rfl (Nat.lt_of_le_of_lt ‹_› (by decide))
      refine ev_bi gk B2 (by exact nsK hK rfl) rfl (es_c (ev_n B2 11 rfl (es_nil fun vs hvs => ?_)))
      obtain ⟨v3, rfl, hv3⟩ := hvs.one
      rw [ety] at hv3
      exact op_sorted hv3 (.inr hy1) hxl fun a ss' ha hpm hst => ⟨rfl, Le.new ha, ss', ⟨hpm, hst⟩, a, _, rfl, hset_self _ _ _, strs_all ss'⟩
    · intro a10 hp10 _ hle10 hL
      have hle10 : Le hp9 hp10 := hle10
      rw [List.map_id'] at hL
      rw [List.filter_eq_self.mpr fun _ _ => rfl] at hL
      have hvk10 := LstR.mono IntR.mono _ _ _ _ (le9.trans hle10) hvk8
      refine ev_fn gk B rm (f := 232) (by exact nsK hK rfl) (by exact fbK hK rfl) (es_c (ev_n B 8 rfl (es_nil (FnC.mono (law_groups_ok gk hK hvk10) fun vg hp11 hz73 => ?_))))
      obtain ⟨le11, gs, hgs, hsr⟩ := hz73
      intro va vb ha hb
      refine hide fun Pz hPz => ?_
      obtain ⟨dg, yg, edg, _, _⟩ := id hgs
      refine hPz ?_
      clear hPz Pz
      subst edg
      refine op_eq_same gk (same_groups (d := 0) (LstR.mono SrtR.mono _ _ _ _ le11 hL) hgs hrm (hgw.groups hW hk) hsr) (by show A.units + 2 < cLine; exact Nat.le_of_lt ‹_›) ha hb ⟨true, .bool, ?_⟩
      rw [if_pos rfl]
      have ht11 := le11 _ _ (hle10 _ _ ht9)
      refine ev_and (ev_at (ev_n B 6 rfl (ev_int ⟨.bool true, .tup ht11 (by decide) rfl (Nat.le_of_ble_eq_true rfl), true, .bool, ?_⟩)))
      rw [if_pos rfl]
      have hrs11 := LstR.mono (TupR.mono StrR.mono) _ _ _ _ (hle10.trans le11) hrs9
      have hg11 := DctR.mono (DctR.mono IntR.mono) _ _ _ _ ((le9.trans hle10).trans le11) hg8
      refine ev_bop1 (ev_cmp (ev_fn gk B rm (f := 207) (by exact nsK hK rfl) (by exact fbK hK rfl) (es_c (ev_at (ev_n B 6 rfl (ev_int ⟨vr, .tup ht11 (by decide) rfl (Nat.le_of_ble_eq_true rfl), es_c (ev_n B 5 rfl (es_nil (FnC.mono (law_tables_ok gk hK gb gc hrs11 hg11 (hgw.tab hW hk) (Nat.le_trans ‹_› (by decide))) fun vtb hp12 hz74 => ?_)))⟩))))) rfl)
      refine hide fun Pz hPz => ?_
      obtain ⟨le12, tabs, htb, htk, htl⟩ := hz74
      refine hPz ?_
      clear hPz Pz
      have hvw12 := LstR.mono Mat.mono _ _ _ _ ((((le8.trans le9).trans hle10).trans le11).trans le12) hvw7
      have hvk12 := LstR.mono IntR.mono _ _ _ _ (le11.trans le12) hvk10
      refine ev_fn gk B rm (f := 227) (by exact nsK hK rfl) (by exact fbK hK rfl) (es_c (ev_n B 7 rfl (es_c (ev_n B 8 rfl (es_nil (FnC.mono (law_columns_ok gk hK hvw12 hvk12) fun vcl hp13 hz75 => ?_))))))
      obtain ⟨le13, hcl⟩ := hz75
      intro va2 vb2 ha2 hb2
      refine hide fun Pz hPz => ?_
      obtain ⟨d1, y1, p1, ed1, _⟩ := id htb
      obtain ⟨d2, y2, p2, ed2, _⟩ := id hcl
      refine hPz ?_
      clear hPz Pz
      subst ed1 ed2
      exact op_eq_same gk (same_tables hps hgw hk (DctR.mono Tab.mono _ _ _ _ le13 htb) htk htl hcl) hu ha2 hb2 (hκ _ _ ⟨rfl, ((((((((((((le1.trans le2).trans le3).trans le4).trans le5).trans le6).trans le7).trans le8).trans le9).trans hle10).trans le11).trans le12).trans le13)⟩)
end
end Mine
end
open PySem PySem.W PySem.Calls PyProof.Rows
set_option Elab.async false
set_option linter.unusedVariables false
set_option maxRecDepth 100000
set_option maxHeartbeats 8000000
namespace Mine
noncomputable def seqOk (o : Obj) : Bool := !(o.data.ctorIdx == 2) || !(o.cls == .type "list")
noncomputable def dcode : Data → Option Value
  | .func fd => some fd.code
  | .fields vs => vs[11]?
  | _ => none
noncomputable def codeOf (K : Frag) (f : Addr) : Option Value := (K.lookup f).bind fun o => dcode o.data
theorem codeOf_at {K : Frag} {h : Heap} (KX : K.In h) {f : Addr} {v : Value} {o : Obj} (e : codeOf K f = some v) (ho : h.get? f = some o) : dcode o.data = some v := by
  obtain ⟨o', q, r⟩ := Option.bind_eq_some_iff.mp e
  have := (KX _ _ q).symm.trans ho
  cases this; exact r
theorem lookup_mem {K : Frag} {a : Addr} {o : Obj} : K.lookup a = some o → (a, o) ∈ K := by
  induction K with
  | nil => intro h; cases h
  | cons p r ih =>
    intro h
    obtain ⟨b, q⟩ := p
    rw [List.lookup_cons] at h
    split at h
    · rename_i e; cases h; rw [beq_iff_eq.mp e]; exact .head _
    · exact .tail _ (ih h)
theorem heap_seq (P : Params) : ((hd.heap_1 P).all fun p => seqOk p.2) = true := by rfl
theorem heap_30 (P : Params) : (hd.heap_1 P).lookup 30 = none := by rfl
theorem heap_c (P : Params) : codeOf (hd.heap_1 P) 35 = some (.ref 34) := by rfl
theorem heap_t (P : Params) : codeOf (hd.heap_1 P) 34 = some (.ref 30) := by rfl
theorem heap_law (P : Params) : nsIn (hd.heap_1 P) mainGlobals (Str.ofString "law") = some (some (.ref 244)) := by rfl
theorem heap_ac (P : Params) : nsIn (hd.heap_1 P) mainGlobals (Str.ofString "add_callers") = some (some (.ref 35)) := by rfl
theorem no_imports : importsNone vw = true := by decide +kernel
theorem ns_at {h h' : Heap} {a : Addr} {m : Str → Option Value} (x : h.Ns a m) (e : ∀ o, h.get? a = some o → (∀ vs n, o.data ≠ .seq vs n) → (∀ vs, o.data ≠ .fields vs) → h'.get? a = some o) : h'.Ns a m :=
  by obtain ⟨o, es, ep, ho, hd, r⟩ := x; exact ⟨o, es, ep, e o ho (fun vs n q => by rw [hd] at q; cases q) (fun vs q => by rw [hd] at q; cases q), hd, r⟩
theorem law_runs {prog : Program} {loose : List Str} {R : WRecords} {XP : (Str → Option Value) → Heap → Prop} {w : World} {s₀ s₁ : Shared} {mg mb : Str → Option Value} (G0 : Ground vw loose R XP w s₀ mg mb s₁.heap) (KX : (hd.heap_1 w.params).In s₁.heap) (hg : s₁.gens = #[])
    {l : Addr} {vs : List Value} {xs : List Int} (hl : s₁.heap.get? l = some (listO vs.toArray 0)) (hI : IntsAre vs xs) (hlen : xs.length ≤ 1000) :
    codeAny (model prog w) callerA (.call (.ref 244) ⟨[.ref l], []⟩) (endsIn (fun v s' => A4 (v = .bool true) (OldK s₁.heap s'.heap) (s'.os = s₁.os) (AllBare s'.gens)) fun _ _ => False) s₁ := by
  have T := G0.T
  refine hide fun Pz hPz => ?_
  have hac : mg (Str.ofString "add_callers") = some (.ref 35) := mg_of KX T.g (heap_ac _)
  obtain ⟨d, hdf⟩ : ∃ d, (recsOf vw).find? (fun e => e.name == Str.ofString "add_callers") = some d := ⟨_, rfl⟩
  obtain ⟨d', o35, fd35, hm35, ho35, hf35⟩ : E3 fun (d' : DefRec) (o : Obj) (fd : FuncData) => A3 (mg d'.name = some (.ref 35)) (s₁.heap.get? 35 = some o) (o.data = .func fd) := by
    obtain ⟨a, o, pm, code, doc, h1, h2, h3, _⟩ := T.fn d (List.mem_of_find?_eq_some hdf)
    have hn : d.name = Str.ofString "add_callers" := beq_iff_eq.mp (List.find?_some (p := fun e : DefRec => e.name == Str.ofString "add_callers") hdf)
    rw [hn, hac] at h1; cases h1
    exact ⟨d, o, _, by rw [hn]; exact hac, h2, h3⟩
  obtain ⟨c, P, hc, hB⟩ := based_of_top T hdf hac ho35 hf35
  have hc34 : c = 34 := by
    have := codeOf_at KX (heap_c _) ho35
    rw [hf35] at this; cases hc.symm.trans (Option.some.inj this); rfl
  subst hc34
  obtain ⟨⟨oc, vc, hoc, hcc, hcd, hc11⟩, htab⟩ := id hB.tab
  have hP : P = 30 := by
    have := codeOf_at KX (heap_t _) hoc
    rw [hcd] at this; cases hc11.symm.trans this; rfl
  subst hP
  have l30 : l ≠ 30 := fun q => by rw [q, htab] at hl; cases hl
  let B : Addr → Option Obj := fun b => if b = l ∨ b = 30 then none else s₁.heap.get? b
  have hBk : ∀ b o, B b = some o → s₁.heap.get? b = some o := fun b o e => by
    simp only [B] at e
    split at e
    · cases e
    · exact e
  have hBg : ∀ b o, s₁.heap.get? b = some o → b ≠ l → b ≠ 30 → B b = some o := fun b o e h1 h2 => by
    simp only [B]
    rw [if_neg (fun q => q.elim h1 h2)]; exact e
  have hBn : ∀ b o, s₁.heap.get? b = some o → (∀ vs n, o.data ≠ .seq vs n) → (∀ vs, o.data ≠ .fields vs) → B b = some o := fun b o e h1 h2 => hBg b o e (fun q => by
    rw [q, hl] at e; cases e; exact h1 _ _ rfl) (fun q => by rw [q, htab] at e; cases e; exact h2 _ rfl)
  have hns : ∀ h : Heap, (∀ b o, B b = some o → h.get? b = some o) → ∀ a m, s₁.heap.Ns a m → h.Ns a m := fun h k a m x => ns_at x fun o e h1 h2 => k a o (hBn a o e h1 h2)
  obtain ⟨bm, ob, b1, b2, b3, b4, b5, b6⟩ := T.bmain
  have hcode : s₁.heap.IsCode 34 30 #[] := hB.code
  obtain ⟨o', vs', file, tf, flags, tg, inF, text, tt, op, c1, c2, c3, c4, c5, c6, c7, c8, c9, c10, c11⟩ := hcode
  rw [hoc] at c1; cases c1
  rw [hcd] at c2; cases c2
  let G : Gl := ⟨B, s₁.os, 30, #[], hd.heap_1 w.params, mg, mb⟩
  have gk : GOk G := {
    gns := fun h k => hns h k _ _ T.g
    bns := fun h k => hns h k _ _ T.b
    lim := fun h k => by obtain ⟨mc, a, b⟩ := T.nolimit; exact ⟨mc, hns h k _ _ a, b⟩
    bi := T.builtins
    frag := fun a o e => hBg a o (KX a o e) (fun q => by
      have := List.all_eq_true.mp (heap_seq w.params) _ (lookup_mem e)
      have e' := KX a o e
      rw [q, hl] at e'; cases e'; cases this) (fun q => by
      have e : (hd.heap_1 w.params).lookup a = some o := e
      rw [q, heap_30] at e; cases e)
    sys := by
      obtain ⟨mm, ⟨o, es, ep, ho, hdd, _⟩, _⟩ := (T.seer no_imports).mods
      show B sysModules ≠ none
      rw [hBn _ o ho (fun vs n q => by rw [hdd] at q; cases q) (fun vs q => by rw [hdd] at q; cases q)]; rintro ⟨⟩
    gl := fun x v e => by
      cases v with
      | some v => exact mg_of KX T.g e
      | none => exact mg_none_of KX T.g e }
  have gb : GBm G bm ob := ⟨b1, b2, hBn _ _ b3 (fun vs n q => by rw [b6] at q; cases q) (fun vs q => by rw [b6] at q; cases q), b4, b5, b6⟩
  have gc : GCode G 34 := ⟨oc, vc, file, tf, flags, tg, inF, text, tt, hBg _ _ hoc (fun q => by rw [q, hl] at hoc; cases hoc; cases hcd) (by decide), hcc, hcd, hc11, c4, c5, c6, c7⟩
  let hp : Hp0 := fun a => if a = l then some (.scr (listO vs.toArray 0) xs) else none
  have hpl : hp l = some (.scr (listO vs.toArray 0) xs) := if_pos rfl
  refine hPz ?_
  clear hPz Pz
  refine codeAny_mono ((law_ok (prog := prog) (w := w) gk rfl gb gc (n := 0) hpl hlen).top gk (s := s₁) (A := callerA) (ex := B) (by decide) (by decide) rfl rfl hBk (fun _ _ e => e) (fun a A e => ?_) ⟨if_pos (.inr rfl), ⟨#[], c10⟩, htab⟩ (.of_eq hg) rfl (vs := [.ref l]) (.cons rfl .nil)) fun r s' z => ?_
  · by_cases q : a = l
    · subst q
      rw [hpl] at e; cases e
      exact ⟨if_pos (.inl rfl), _, hl, rfl, _, _, rfl, hI⟩
    · simp only [hp] at e; rw [if_neg q] at e; cases e
  · cases r with
    | error x => exact z
    | ok fl =>
      cases fl with
      | ret v =>
        refine hide fun Pz hPz => ?_; (rcases z with ⟨av, hp', hv, hkeep, hhp, ⟨more, ht⟩, hgen, hos, rfl, hle⟩) <;> (refine hPz ?_; clear hPz Pz)
        refine ⟨vabs_bool hv, ⟨fun b o e => ?_, fun b o e => ?_⟩, hos, hgen⟩
        · by_cases q : b = l
          · subst q
            obtain ⟨o', ho', e1, _⟩ := hhp _ _ (hle _ _ hpl)
            rw [hl] at e; cases e
            exact .inl (by rw [ho', e1])
          · by_cases q2 : b = 30
            · subst q2
              rw [htab] at e; cases e
              exact .inr (.inl ⟨⟨34, oc, vc, hoc, hcc, hcd, hc11⟩, rfl, #[], more.1, rfl, ht⟩)
            · exact .inl (hkeep b o (hBg b o e q q2))
        · by_cases q : b = l
          · subst q
            obtain ⟨o', ho', _⟩ := hhp _ _ (hle _ _ hpl)
            exact ⟨o', ho'⟩
          · by_cases q2 : b = 30
            · subst q2; exact ⟨_, ht⟩
            · exact ⟨o, hkeep b o (hBg b o e q q2)⟩
      | _ => exact z
end Mine
open Mine in
theorem PySem.Challenge.cw_mj0227_01_holds : PySem.Challenge.rw_mj0227_01.Holds := by
  refine hd ?_
  intro w s₀ s₁ mg mb G Y fa o pm cd doc dV kV ho hd hcd hD hmg hg args vals as hpre hlay hrd hwl hlo
  have KX := kIn_of Y
  have hfa : fa = 244 := by
    have h := mg_of KX G.T.g (heap_law _)
    have h2 : mg (Str.ofString "law") = some (.ref fa) := hmg
    rw [h] at h2; cases h2; rfl
  clear ho hd hcd hD hmg
  subst hfa
  refine hide fun Pz hPz => ?_
  wrow_args hpre hlay hrd hwl hlo
  refine hPz ?_
  clear hPz Pz
  rename_i xs _ _ _ _ _ _ _ l vs _ hL ra w1 r0 hI _ hcond _
  refine enter_call ?_
  cases w1 with
  | list h1 h2 =>
    obtain ⟨o, ho, _, n, hd⟩ := hL
    rw [h1] at ho; cases ho
    cases hd
    refine codeAny_mono (law_runs G KX hg h1 hI (by lia)) fun r s' z => ?_
    cases r with
    | error x => exact z.elim
    | ok fl =>
      cases fl with
      | ret v =>
        obtain ⟨rfl, hK, hos, hgen⟩ := z
        refine ⟨.inl ⟨_, _, _, rfl, raisesW_false ?_, .bool true, ?_, unshared_nil⟩, hK, hos, hgen⟩
        · wrow_none_raised
        · wrow_post
      | _ => exact z.elim
