import PyProof.Rows.All
import Wide.All
import OpenK.AllK
import Wide.FinOn
import KE.KSortTup
import KE.KOpsOwn
import PySem.Challenge.RW_ta0032_02
open PySem PySem.W PyProof.Rows PySem.Calls
set_option Elab.async false
set_option maxRecDepth 100000
set_option maxHeartbeats 4000000
set_option linter.unusedVariables false
set_option linter.unusedSimpArgs false
namespace Mine

section
inductive D where
  | none | bool (b : Bool) | int (i : Int) | str (x : Str) | bytes (b : Array UInt8)
  | tuple (ds : List D) | list (ds : List D)
  | own (a : Addr) | hdr (a l : Addr) | val (v : Value)
  | rng (a b : Int)
  | slc (lo hi st : Option Int)

abbrev Store := Addr → Option (List D)

abbrev tupO (vs : List Value) (n : Nat) : Obj := { cls := .type "tuple", data := .seq vs.toArray n }
abbrev lstO (vs : List Value) (n : Nat) : Obj := { cls := .type "list", data := .seq vs.toArray n }
abbrev dicO (es : List DictEntry) (n : Nat) : Obj := { cls := .type "dict", data := .dict es.toArray n }

mutual
inductive Rep (C : Addr) (τ : Store) (h : Heap) : Value → D → Prop
  | none : Rep C τ h Value.none D.none
  | bool (b : Bool) : Rep C τ h (Value.bool b) (D.bool b)
  | int (i : Int) (t : Tok) : Rep C τ h (Value.int i t) (D.int i)
  | str (x : Str) (t : Tok) : Rep C τ h (Value.str x t) (D.str x)
  | bytes (b : Array UInt8) (t : Tok) : Rep C τ h (Value.bytes b t) (D.bytes b)
  | tuple {a : Addr} {vs : List Value} {n : Nat} {ds : List D} : τ a = Option.none → h.get? a = some (tupO vs n) → RepAll C τ h vs ds → Rep C τ h (Value.ref a) (D.tuple ds)
  | list {a : Addr} {vs : List Value} {n : Nat} {ds : List D} : τ a = Option.none → h.get? a = some (lstO vs n) → RepAll C τ h vs ds → Rep C τ h (Value.ref a) (D.list ds)
  | own (a : Addr) : Rep C τ h (Value.ref a) (D.own a)
  | hdr {a dx l : Addr} {n : Nat} {hs : Int} {t : Tok} : τ a = Option.none → τ dx = Option.none → h.get? a = some (instObj C dx) →
      h.get? dx = some (dicO [⟨hs, .str "_headers" t, .ref l⟩] n) → Rep C τ h (Value.ref a) (D.hdr a l)
  | val (v : Value) : Rep C τ h v (D.val v)
  | rng {a : Addr} {i j : Int} {t u v : Tok} : τ a = Option.none → IsRange h a i j 1 t u v → Rep C τ h (Value.ref a) (D.rng i j)
  | slc {a : Addr} {l u k : Value} {lo hi st : Option Int} : τ a = Option.none → h.get? a = some { cls := .type "slice", data := .fields #[l, u, k] } → IsPart l lo → IsPart u hi → IsPart k st → Rep C τ h (Value.ref a) (D.slc lo hi st)
inductive RepAll (C : Addr) (τ : Store) (h : Heap) : List Value → List D → Prop
  | nil : RepAll C τ h [] []
  | cons {v : Value} {vs : List Value} {d : D} {ds : List D} : Rep C τ h v d → RepAll C τ h vs ds → RepAll C τ h (v :: vs) (d :: ds)
end

/-- what a value is that bears a datum -/
noncomputable def RepI (C : Addr) (τ : Store) (h : Heap) (v : Value) (d : D) : Prop := match d with
    | .none => v = .none
    | .bool b => v = .bool b
    | .int i => ∃ t, v = .int i t
    | .str x => ∃ t, v = .str x t
    | .bytes b => ∃ t, v = .bytes b t
    | .tuple ds => ∃ a vs n, v = .ref a ∧ τ a = Option.none ∧ h.get? a = some (tupO vs n) ∧ RepAll C τ h vs ds
    | .list ds => ∃ a vs n, v = .ref a ∧ τ a = Option.none ∧ h.get? a = some (lstO vs n) ∧ RepAll C τ h vs ds
    | .own a => v = .ref a
    | .hdr a l => ∃ dx n hs t, v = .ref a ∧ τ a = Option.none ∧ τ dx = Option.none ∧ h.get? a = some (instObj C dx) ∧ h.get? dx = some (dicO [⟨hs, .str "_headers" t, .ref l⟩] n)
    | .val w => v = w
    | .rng i j => ∃ a t u w, v = .ref a ∧ τ a = Option.none ∧ IsRange h a i j 1 t u w
    | .slc lo hi st => ∃ a l u k, v = .ref a ∧ τ a = Option.none ∧ h.get? a = some { cls := .type "slice", data := .fields #[l, u, k] } ∧ IsPart l lo ∧ IsPart u hi ∧ IsPart k st
theorem Rep.inv {C : Addr} {τ : Store} {h : Heap} {v : Value} {d : D} (r : Rep C τ h v d) : RepI C τ h v d :=
  Rep.rec (motive_1 := fun v d _ => RepI C τ h v d) (motive_2 := fun _ _ _ => True) rfl (fun _ => rfl) (fun _ t => ⟨t, rfl⟩) (fun _ t => ⟨t, rfl⟩) (fun _ t => ⟨t, rfl⟩) (fun o e r _ => ⟨_, _, _, rfl, o, e, r⟩) (fun o e r _ => ⟨_, _, _, rfl, o, e, r⟩) (fun _ => rfl)
    (fun a b c d => ⟨_, _, _, _, rfl, a, b, c, d⟩) (fun _ => rfl) (fun o e => ⟨_, _, _, _, rfl, o, e⟩) (fun o e a b c => ⟨_, _, _, _, rfl, o, e, a, b, c⟩) trivial (fun _ _ _ _ => trivial) r
theorem RepAll.inv {C : Addr} {τ : Store} {h : Heap} {vs : List Value} {ds : List D} (r : RepAll C τ h vs ds) : match ds with
    | [] => vs = []
    | d :: ds => ∃ v ws, vs = v :: ws ∧ Rep C τ h v d ∧ RepAll C τ h ws ds := by
  cases r with
  | nil => rfl
  | cons a r => exact ⟨_, _, rfl, a, r⟩

theorem RepAll.nil_inv {C : Addr} {τ : Store} {h : Heap} {vs : List Value} (r : RepAll C τ h vs []) : vs = [] := r.inv
theorem Rep.val_inv {C : Addr} {τ : Store} {h : Heap} {v w : Value} (r : Rep C τ h v (.val w)) : v = w := r.inv
theorem Rep.none_inv {C : Addr} {τ : Store} {h : Heap} {v : Value} (r : Rep C τ h v .none) : v = Value.none := r.inv
theorem Rep.bool_inv {C : Addr} {τ : Store} {h : Heap} {v : Value} {b : Bool} (r : Rep C τ h v (.bool b)) : v = Value.bool b := r.inv
theorem Rep.own_inv {C : Addr} {τ : Store} {h : Heap} {v : Value} {a : Addr} (r : Rep C τ h v (.own a)) : v = Value.ref a := r.inv

/-- what a piece of the walk may change: the lists of the store, and new objects -/
structure Steps (τ : Store) (h : Heap) (τ' : Store) (h' : Heap) : Prop where
  keep : ∀ b o, h.get? b = some o → τ b = none → h'.get? b = some o
  doms : ∀ b, τ' b ≠ none → τ b ≠ none ∨ h.get? b = none

theorem Steps.refl (τ : Store) (h : Heap) : Steps τ h τ h := ⟨fun _ _ e _ => e, fun _ e => .inl e⟩
theorem Steps.off {τ : Store} {h : Heap} {τ' : Store} {h' : Heap} (S : Steps τ h τ' h') {b : Addr} {o : Obj} (e : h.get? b = some o) (k : τ b = none) : τ' b = none := by
  cases q : τ' b with
  | none => rfl
  | some x =>
    rcases S.doms b (by rw [q]; exact fun e => nomatch e) with r | r
    · exact absurd k r
    · rw [e] at r; cases r
theorem Steps.trans {τ τ₁ τ₂ : Store} {h h₁ h₂ : Heap} (S : Steps τ h τ₁ h₁) (R : Steps τ₁ h₁ τ₂ h₂) : Steps τ h τ₂ h₂ where
  keep := fun b o e k => R.keep b o (S.keep b o e k) (S.off e k)
  doms := fun b k => by
    rcases R.doms b k with r | r
    · exact S.doms b r
    · cases q : τ b with
      | some x => exact .inl (fun e => nomatch e)
      | none =>
        cases p : h.get? b with
        | none => exact .inr rfl
        | some o => rw [S.keep b o p q] at r; cases r

/-- the objects that bear data -/
inductive Bears (C : Addr) : Obj → Prop
  | tup (vs : List Value) (n : Nat) : Bears C (tupO vs n)
  | lst (vs : List Value) (n : Nat) : Bears C (lstO vs n)
  | ins (d : Addr) : Bears C (instObj C d)
  | dic (hs : Int) (t : Tok) (l : Addr) (n : Nat) : Bears C (dicO [⟨hs, .str "_headers" t, .ref l⟩] n)
  | rng (vs : Array Value) : Bears C { cls := .type "range", data := .fields vs }
  | slc (vs : Array Value) : Bears C { cls := .type "slice", data := .fields vs }

theorem Rep.carry_both {C : Addr} {τ : Store} {h : Heap} {τ' : Store} {h' : Heap} (S : ∀ b o, h.get? b = some o → τ b = Option.none → Bears C o → h'.get? b = some o ∧ τ' b = Option.none) :
    (∀ {v : Value} {d : D}, Rep C τ h v d → Rep C τ' h' v d) ∧ ∀ {vs : List Value} {ds : List D}, RepAll C τ h vs ds → RepAll C τ' h' vs ds := by
  have f1 : ∀ {a : Addr} {vs : List Value} {n : Nat} {ds : List D}, τ a = Option.none → h.get? a = some (tupO vs n) → RepAll C τ h vs ds → RepAll C τ' h' vs ds → Rep C τ' h' (.ref a) (.tuple ds) := fun o e _ ih => let ⟨x, y⟩ := S _ _ e o (.tup _ _); .tuple y x ih
  have f2 : ∀ {a : Addr} {vs : List Value} {n : Nat} {ds : List D}, τ a = Option.none → h.get? a = some (lstO vs n) → RepAll C τ h vs ds → RepAll C τ' h' vs ds → Rep C τ' h' (.ref a) (.list ds) := fun o e _ ih => let ⟨x, y⟩ := S _ _ e o (.lst _ _); .list y x ih
  have f3 : ∀ {a dx l : Addr} {n : Nat} {hs : Int} {t : Tok}, τ a = Option.none → τ dx = Option.none → h.get? a = some (instObj C dx) → h.get? dx = some (dicO [⟨hs, .str "_headers" t, .ref l⟩] n) → Rep C τ' h' (.ref a) (.hdr a l) := fun o1 o2 e1 e2 => let ⟨x1, y1⟩ := S _ _ e1 o1 (.ins _); let ⟨x2, y2⟩ := S _ _ e2 o2 (.dic _ _ _ _); .hdr y1 y2 x1 x2
  have f4 : ∀ {a : Addr} {i j : Int} {t u v : Tok}, τ a = Option.none → IsRange h a i j 1 t u v → Rep C τ' h' (.ref a) (.rng i j) := fun o e => let ⟨x, y⟩ := S _ _ e o (.rng _); .rng y x
  have f5 : ∀ {a : Addr} {l u k : Value} {lo hi st : Option Int}, τ a = Option.none → h.get? a = some { cls := .type "slice", data := .fields #[l, u, k] } → IsPart l lo → IsPart u hi → IsPart k st → Rep C τ' h' (.ref a) (.slc lo hi st) := fun o e a b c => let ⟨x, y⟩ := S _ _ e o (.slc _); .slc y x a b c
  exact ⟨fun r => Rep.rec (motive_1 := fun v d _ => Rep C τ' h' v d) (motive_2 := fun vs ds _ => RepAll C τ' h' vs ds) .none .bool .int .str .bytes f1 f2 .own f3 .val f4 f5 .nil (fun _ _ a b => .cons a b) r,
    fun r => RepAll.rec (motive_1 := fun v d _ => Rep C τ' h' v d) (motive_2 := fun vs ds _ => RepAll C τ' h' vs ds) .none .bool .int .str .bytes f1 f2 .own f3 .val f4 f5 .nil (fun _ _ a b => .cons a b) r⟩

theorem Rep.step {C : Addr} {τ : Store} {h : Heap} {τ' : Store} {h' : Heap} (S : Steps τ h τ' h') {v : Value} {d : D} (r : Rep C τ h v d) : Rep C τ' h' v d := (Rep.carry_both fun b o e k _ => ⟨S.keep b o e k, S.off e k⟩).1 r
theorem RepAll.step {C : Addr} {τ : Store} {h : Heap} {τ' : Store} {h' : Heap} (S : Steps τ h τ' h') {vs : List Value} {ds : List D} (r : RepAll C τ h vs ds) : RepAll C τ' h' vs ds := (Rep.carry_both fun b o e k _ => ⟨S.keep b o e k, S.off e k⟩).2 r
end

section
/-- what stands fixed while the law runs -/
structure Cx where
  prog : Program
  w : World
  K : Frag
  C : Addr
  hB : Heap
  p : Program
  loose : List Str
  mg : Str → Option Value
  mb : Str → Option Value
  inB : K.In hB
  top : TopRead p loose mg mb hB

abbrev Cx.M (X : Cx) : Model := model X.prog X.w

structure Ok (X : Cx) (τ : Store) (h : Heap) : Prop where
  base : ∀ b o, X.hB.get? b = some o → h.get? b = some o
  off : ∀ b, τ b ≠ none → X.hB.get? b = none
  store : ∀ a ds, τ a = some ds → ∃ vs n, h.get? a = some (lstO vs n) ∧ RepAll X.C τ h vs ds

inductive VK where
  | loc | cel | fre | glob | no
  deriving DecidableEq
/-- what the compiler says of a name -/
abbrev Sk := Str → VK

structure FrameOk (X : Cx) (sk : Sk) (env : Env) (ρ : Str → Option D) (τ : Store) (h : Heap) : Prop where
  stat : ∀ x, match sk x with
    | .loc => env.kindOf x = some .local
    | .cel => env.kindOf x = some .cell ∧ (env.cells.lookup x).isSome = true
    | .fre => (env.kindOf x = some .cell ∨ env.kindOf x = some .free) ∧ (env.cells.lookup x).isSome = true
    | .glob => env.kindOf x = some .globalImplicit
    | .no => True
  kind : env.scope.kind = .function
  glob : env.globals = mainGlobals
  bui : env.builtins = builtinsNs
  ns : ∃ m, h.Ns env.locals m ∧ m "_headers" = none ∧ ∀ x d, ρ x = some d → sk x = .loc → ∃ v, m x = some v ∧ Rep X.C τ h v d
  cells : ∀ x c, env.cells.lookup x = some c → ∃ v, h.IsCell c v ∧ ∀ d, sk x ≠ .loc → ρ x = some d → ∃ u, v = some u ∧ Rep X.C τ h u d
  offL : τ env.locals = none
  offC : ∀ x c, env.cells.lookup x = some c → τ c = none
  newL : X.hB.get? env.locals = none
  newC : ∀ x c, env.cells.lookup x = some c → X.hB.get? c = none
  apart : ∀ x y c, env.cells.lookup x = some c → env.cells.lookup y = some c → x = y

theorem FrameOk.step {X : Cx} {sk : Sk} {env : Env} {ρ : Str → Option D} {τ τ' : Store} {h h' : Heap} (F : FrameOk X sk env ρ τ h) (S : Steps τ h τ' h') : FrameOk X sk env ρ τ' h' where
  stat := F.stat
  kind := F.kind
  glob := F.glob
  bui := F.bui
  ns := by
    obtain ⟨m, hn, hm, k⟩ := F.ns
    obtain ⟨o, es, ep, ho, r⟩ := hn
    exact ⟨m, ⟨o, es, ep, S.keep _ _ ho F.offL, r⟩, hm, fun x d e l => let ⟨v, a, b⟩ := k x d e l; ⟨v, a, b.step S⟩⟩
  cells := fun x c e => by
    obtain ⟨v, ⟨o, ho, hd⟩, k⟩ := F.cells x c e
    exact ⟨v, ⟨o, S.keep _ _ ho (F.offC x c e), hd⟩, fun d l q => let ⟨u, a, b⟩ := k d l q; ⟨u, a, b.step S⟩⟩
  offL := by
    obtain ⟨m, hn, hm, k⟩ := F.ns
    obtain ⟨o, es, ep, ho, r⟩ := hn
    exact S.off ho F.offL
  offC := fun x c e => by
    obtain ⟨v, ⟨o, ho, hd⟩, k⟩ := F.cells x c e
    exact S.off ho (F.offC x c e)
  newL := F.newL
  newC := F.newC
  apart := F.apart

/-- the post of a piece of the walk that hands on a value -/
inductive Post (X : Cx) (τ : Store) (s : Shared) (Q : D → Store → Prop) (v : Value) (s' : Shared) : Prop
  | intro (d : D) (τ' : Store) : Q d τ' → Rep X.C τ' s'.heap v d → Ok X τ' s'.heap → Steps τ s.heap τ' s'.heap → s'.os = s.os → s'.gens = s.gens → Post X τ s Q v s'
/-- the post of a test -/
inductive PostT (X : Cx) (τ : Store) (s : Shared) (P : Bool → Store → Prop) (b : Bool) (s' : Shared) : Prop
  | intro (τ' : Store) : P b τ' → Ok X τ' s'.heap → Steps τ s.heap τ' s'.heap → s'.os = s.os → s'.gens = s.gens → PostT X τ s P b s'

theorem Post.trans {X : Cx} {τ τ₁ : Store} {s s₁ : Shared} {Q : D → Store → Prop} {v : Value} {s' : Shared} (S : Steps τ s.heap τ₁ s₁.heap) (ho : s₁.os = s.os) (hg : s₁.gens = s.gens)
    (P : Post X τ₁ s₁ Q v s') : Post X τ s Q v s' := by
  obtain ⟨d, τ', q, r, k, st, o, g⟩ := P
  exact ⟨d, τ', q, r, k, S.trans st, o.trans ho, g.trans hg⟩

structure Room (n : Nat) (A : Around) : Prop where
  hd : A.handled = none
  dp : A.depth + 3 * n < 900
  un : A.units + 12 * n < 9000

theorem Room.mono {n m : Nat} {A : Around} (R : Room n A) (h : m ≤ n) : Room m A := ⟨R.hd, by have := R.dp; omega, by have := R.un; omega⟩
theorem Room.deeper {n : Nat} {A : Around} (R : Room (n + 1) A) (env : Env) : Room n (A.deeper env) := ⟨R.hd, by have := R.dp; show A.depth + 1 + _ < _; omega, by have := R.un; show A.units + 3 + _ < _; omega⟩
theorem Room.in1 {n : Nat} {A : Around} (R : Room (n + 1) A) : Room n A.in1 := ⟨R.hd, by have := R.dp; show A.depth + _ < _; omega, by have := R.un; show A.units + 1 + _ < _; omega⟩
theorem Room.limit {n : Nat} {A : Around} (R : Room n A) : A.depth < recursionLimit := by have := R.dp; show A.depth < 1000; omega
theorem Room.line {n : Nat} {A : Around} (R : Room n A) : A.units < cLine := by have := R.un; show A.units < 9900; omega
/-- an expression yields a datum -/
noncomputable def Ev (X : Cx) (n : Nat) (sk : Sk) (ρ : Str → Option D) (τ : Store) (e : Expr) (Q : D → Store → Prop) : Prop :=
  ∀ env A s E, Room n A → Ok X τ s.heap → FrameOk X sk env ρ τ s.heap → wpAny X.M A (eval e env) (Post X τ s Q) E s

/-- a test yields a bool -/
noncomputable def Tst (X : Cx) (n : Nat) (sk : Sk) (ρ : Str → Option D) (τ : Store) (e : Expr) (Q : Bool → Store → Prop) : Prop :=
  ∀ env A s E, Room n A → Ok X τ s.heap → FrameOk X sk env ρ τ s.heap → wpAny X.M A (isTrue e env (eval e env)) (PostT X τ s Q) E s

/-- a tree upon two values -/
noncomputable def T2 (X : Cx) (n : Nat) (t : Value → Value → Sem Value) (a b : D) (τ : Store) (Q : D → Store → Prop) : Prop :=
  ∀ A s E va vb, Room n A → Ok X τ s.heap → Rep X.C τ s.heap va a → Rep X.C τ s.heap vb b → wpAny X.M A (t va vb) (Post X τ s Q) E s
noncomputable def T1 (X : Cx) (n : Nat) (t : Value → Sem Value) (a : D) (τ : Store) (Q : D → Store → Prop) : Prop :=
  ∀ A s E va, Room n A → Ok X τ s.heap → Rep X.C τ s.heap va a → wpAny X.M A (t va) (Post X τ s Q) E s

section
variable {X : Cx} {n : Nat} {sk : Sk} {ρ : Str → Option D} {τ : Store} {Q : D → Store → Prop}

theorem Ev.mono {e : Expr} {Q' : D → Store → Prop} (h : Ev X n sk ρ τ e Q) (k : ∀ d τ', Q d τ' → Q' d τ') : Ev X n sk ρ τ e Q' := fun env A s E R O F =>
  wpAny_mono (h env A s E R O F) (fun _ _ ⟨d, τ', q, r, O, S, o, g⟩ => ⟨d, τ', k d τ' q, r, O, S, o, g⟩) fun _ _ e => e

theorem Post.here {s s' : Shared} {v : Value} {d : D} (O : Ok X τ s.heap) (hq : Q d τ) (r : Rep X.C τ s'.heap v d) (hh : s'.heap = s.heap) (ho : s'.os = s.os) (hg : s'.gens = s.gens) : Post X τ s Q v s' :=
  ⟨d, τ, hq, r, by rw [hh]; exact O, by rw [hh]; exact .refl _ _, ho, hg⟩

theorem ev_int {i : Int} {k : Nat} {pos : Pos} (h : Q (.int i) τ) : Ev X n sk ρ τ (.Constant (.int i) k pos) Q := fun env A s E R O F =>
  wpAny_Constant_int (Post.here O h (.int i _) rfl rfl rfl)
theorem ev_str {x : Str} {k : Nat} {pos : Pos} (h : Q (.str x) τ) : Ev X n sk ρ τ (.Constant (.str x) k pos) Q := fun env A s E R O F =>
  Constant_str (Post.here O h (.str x _) rfl rfl rfl)
theorem ev_none {k : Nat} {pos : Pos} (h : Q .none τ) : Ev X n sk ρ τ (.Constant .none k pos) Q := fun env A s E R O F =>
  wpAny_pure (Post.here O h .none rfl rfl rfl)
theorem ev_bool {b : Bool} {k : Nat} {pos : Pos} (h : Q (.bool b) τ) : Ev X n sk ρ τ (.Constant (.bool b) k pos) Q := fun env A s E R O F =>
  wpAny_pure (Post.here O h (.bool b) rfl rfl rfl)
theorem ev_bytes {b : List UInt8} {k : Nat} {pos : Pos} (h : Q (.bytes b.toArray) τ) : Ev X n sk ρ τ (.Constant (.bytes b) k pos) Q := fun env A s E R O F =>
  (fun _ _ _ => Post.here (s' := { s with toks := s.toks + 1 }) O h (.bytes _ _) rfl rfl rfl)

/-- names that stand in the frame -/
noncomputable def varOk (sk : Sk) (x : Str) : Bool := (sk x == .loc || sk x == .cel || sk x == .fre) && x != ("__classdict__" : Str) && x != ("__debug__" : Str)

theorem ev_var {x : Str} {pos : Pos} {d : D} (hd : ρ x = some d) (hk : varOk sk x = true) (h : Q d τ) : Ev X n sk ρ τ (.Name x pos) Q := fun env A s E R O F => by
  unfold varOk at hk
  simp only [Bool.and_eq_true, Bool.or_eq_true, beq_iff_eq, bne_iff_ne] at hk
  obtain ⟨⟨hk, hcd⟩, hdb⟩ := hk
  refine wpAny_Name ?_ (beq_eq_false_iff_ne.mpr hdb)
  have st := F.stat x
  rcases hk with (hk | hk) | hk <;> rw [hk] at st <;> simp only at st
  · obtain ⟨m, hn, _, hm⟩ := F.ns
    obtain ⟨v, hv, r⟩ := hm x d hd hk
    exact wpAny_loadName_local F.kind st hn hv (Post.here O h r rfl rfl rfl)
  all_goals
    obtain ⟨st, hc⟩ := st
    obtain ⟨c, hc⟩ := Option.isSome_iff_exists.mp hc
    obtain ⟨v, hv, k⟩ := F.cells x c hc
    obtain ⟨u, rfl, r⟩ := k d (by rw [hk]; decide) hd
  · exact wpAny_loadName_cell F.kind st hc hv (Post.here O h r rfl rfl rfl)
  · rcases st with st | st
    · exact wpAny_loadName_cell F.kind st hc hv (Post.here O h r rfl rfl rfl)
    · exact wpAny_loadName_free F.kind st hc hv (Post.here O h r rfl rfl rfl) (beq_eq_false_iff_ne.mpr hcd)

noncomputable def globOk (sk : Sk) (x : Str) : Bool := sk x == .glob && x != ("__debug__" : Str) && x != ("__name__" : Str)

theorem ev_glob {x : Str} {pos : Pos} {v : Value} (hv : nsIn X.K mainGlobals x = some (some v)) (hk : globOk sk x = true) (h : Q (.val v) τ) : Ev X n sk ρ τ (.Name x pos) Q := fun env A s E R O F => by
  unfold globOk at hk
  simp only [Bool.and_eq_true, beq_iff_eq, bne_iff_ne] at hk
  have st := F.stat x
  rw [hk.1.1] at st
  refine Name_function_global F.kind st (loadGlobal_global (env := env) (mg := X.mg) (by rw [F.glob]; exact X.top.g.keeps O.base) (mg_of X.inB X.top.g hv) (Post.here O h (.val v) rfl rfl rfl)) (beq_eq_false_iff_ne.mpr hk.1.2)

theorem ev_bui {x : Str} {pos : Pos} {v : Value} (he : nsIn X.K mainGlobals x = some none) (hv : bootBuiltins x = some v) (hk : globOk sk x = true) (h : Q (.val v) τ) : Ev X n sk ρ τ (.Name x pos) Q := fun env A s E R O F => by
  unfold globOk at hk
  simp only [Bool.and_eq_true, beq_iff_eq, bne_iff_ne] at hk
  have st := F.stat x
  rw [hk.1.1] at st
  refine Name_function_global F.kind st (loadGlobal_builtin (env := env) (mg := X.mg) (mb := X.mb) (by rw [F.glob]; exact X.top.g.keeps O.base) (mg_none_of X.inB X.top.g he) (by rw [F.bui]; exact X.top.b.keeps O.base)
    ((X.top.builtins x hk.2).trans hv) (Post.here O h (.val v) rfl rfl rfl)) (beq_eq_false_iff_ne.mpr hk.1.2)

theorem ev_bin {l r : Expr} {op : Operator} {pos : Pos} (h : Ev X n sk ρ τ l (fun a τ₁ => Ev X n sk ρ τ₁ r (fun b τ₂ => T2 X n (binaryOp op) a b τ₂ Q))) : Ev X n sk ρ τ (.BinOp l op r pos) Q := fun env A s E R O F => by
  refine wpAny_BinOp (wpAny_mono (h env A s E R O F) (fun va s₁ P => ?_) fun _ _ e => e)
  obtain ⟨a, τ₁, q, ra, O₁, S₁, o₁, g₁⟩ := P
  refine wpAny_mono (q env A s₁ E R O₁ (F.step S₁)) (fun vb s₂ P => ?_) fun _ _ e => e
  obtain ⟨b, τ₂, q, rb, O₂, S₂, o₂, g₂⟩ := P
  exact wpAny_mono (q A s₂ E va vb R O₂ (ra.step S₂) rb) (fun v s' P => P.trans (S₁.trans S₂) (o₂.trans o₁) (g₂.trans g₁)) fun _ _ e => e

theorem ev_cmp {l r : Expr} {op : CmpOp} {pos : Pos} (h : Ev X n sk ρ τ l (fun a τ₁ => Ev X n sk ρ τ₁ r (fun b τ₂ => T2 X n (compareOp op) a b τ₂ Q))) (hm : behindInMarks op r = false) : Ev X n sk ρ τ (.Compare l [op] [r] pos) Q := fun env A s E R O F => by
  refine wpAny_Compare1 (wpAny_mono (h env A s E R O F) (fun va s₁ P => ?_) fun _ _ e => e) hm
  obtain ⟨a, τ₁, q, ra, O₁, S₁, o₁, g₁⟩ := P
  refine wpAny_mono (q env A s₁ E R O₁ (F.step S₁)) (fun vb s₂ P => ?_) fun _ _ e => e
  obtain ⟨b, τ₂, q, rb, O₂, S₂, o₂, g₂⟩ := P
  exact wpAny_mono (q A s₂ E va vb R O₂ (ra.step S₂) rb) (fun v s' P => P.trans (S₁.trans S₂) (o₂.trans o₁) (g₂.trans g₁)) fun _ _ e => e
end
end

section
inductive Fl where
  | next | brk | cont | ret (d : D)

noncomputable def FlRep (C : Addr) (τ : Store) (h : Heap) : Flow → Fl → Prop
  | .next, .next => True
  | .brk, .brk => True
  | .cont, .cont => True
  | .ret v, .ret d => Rep C τ h v d
  | _, _ => False

noncomputable def upd (ρ : Str → Option D) (x : Str) (d : D) : Str → Option D := fun y => if y = x then some d else ρ y

noncomputable def InFr (env : Env) (b : Addr) : Prop := b = env.locals ∨ ∃ x, env.cells.lookup x = some b

structure StepsF (env : Env) (τ : Store) (h : Heap) (τ' : Store) (h' : Heap) : Prop where
  keep : ∀ b o, h.get? b = some o → τ b = none → ¬ InFr env b → h'.get? b = some o
  doms : ∀ b, τ' b ≠ none → τ b ≠ none ∨ h.get? b = none

theorem Steps.toF {env : Env} {τ : Store} {h : Heap} {τ' : Store} {h' : Heap} (S : Steps τ h τ' h') : StepsF env τ h τ' h' := ⟨fun b o e k _ => S.keep b o e k, S.doms⟩
theorem StepsF.refl (env : Env) (τ : Store) (h : Heap) : StepsF env τ h τ h := (Steps.refl τ h).toF

section
variable {X : Cx} {sk : Sk} {env : Env} {ρ ρ' : Str → Option D} {τ τ' τ₁ τ₂ : Store} {h h' h₁ h₂ : Heap}

theorem StepsF.off (S : StepsF env τ h τ' h') {b : Addr} {o : Obj} (e : h.get? b = some o) (k : τ b = none) : τ' b = none := by
  cases q : τ' b with
  | none => rfl
  | some x =>
    rcases S.doms b (by rw [q]; exact fun e => nomatch e) with r | r
    · exact absurd k r
    · rw [e] at r; cases r

theorem FrameOk.there (F : FrameOk X sk env ρ τ h) {b : Addr} (i : InFr env b) : ∃ o, h.get? b = some o := by
  rcases i with rfl | ⟨x, i⟩
  · obtain ⟨m, ⟨o, es, ep, ho, r⟩, hm, k⟩ := F.ns
    exact ⟨o, ho⟩
  · obtain ⟨v, ⟨o, ho, hd⟩, k⟩ := F.cells x b i
    exact ⟨o, ho⟩

theorem StepsF.trans (F : FrameOk X sk env ρ τ₁ h₁) (S : StepsF env τ h τ₁ h₁) (R : StepsF env τ₁ h₁ τ₂ h₂) : StepsF env τ h τ₂ h₂ where
  keep := fun b o e k i => R.keep b o (S.keep b o e k i) (S.off e k) i
  doms := fun b k => by
    rcases R.doms b k with r | r
    · exact S.doms b r
    · cases q : τ b with
      | some x => exact .inl (fun e => nomatch e)
      | none =>
        cases p : h.get? b with
        | none => exact .inr rfl
        | some o =>
          by_cases i : InFr env b
          · obtain ⟨o', e'⟩ := F.there i
            rw [e'] at r; cases r
          · rw [S.keep b o p q i] at r; cases r

/-- no object that bears a datum is a frame's own -/
theorem FrameOk.bears (F : FrameOk X sk env ρ τ h) {a : Addr} {o : Obj} (e : h.get? a = some o) (B : Bears X.C o) : ¬ InFr env a := by
  have nc : ∀ v, o.data ≠ .cell v := by cases B <;> exact fun _ q => nomatch q
  rintro (rfl | ⟨x, i⟩)
  · obtain ⟨m, ⟨o', es, ep, ho, hd, hk, hf⟩, hm, k⟩ := F.ns
    rw [e] at ho; cases ho
    cases B with
    | dic hs t l n =>
      cases hd
      have := (hf "_headers").trans hm
      simp [nsFind, findBy, Value.isStr] at this
    | _ => cases hd
  · obtain ⟨v, ⟨o', ho, hd⟩, k⟩ := F.cells x a i
    rw [e] at ho; cases ho
    exact nc _ hd
theorem notFr_tup (F : FrameOk X sk env ρ τ h) {a : Addr} {o : Obj} (e : h.get? a = some o) (nd : ∀ es n, o.data ≠ .dict es n) (nc : ∀ v, o.data ≠ .cell v) : ¬ InFr env a := by
  rintro (rfl | ⟨x, i⟩)
  · obtain ⟨m, ⟨o', es, ep, ho, hd, r⟩, hm, k⟩ := F.ns
    rw [e] at ho; cases ho
    exact nd _ _ hd
  · obtain ⟨v, ⟨o', ho, hd⟩, k⟩ := F.cells x a i
    rw [e] at ho; cases ho
    exact nc _ hd

theorem Rep.stepF (F : FrameOk X sk env ρ τ h) (S : StepsF env τ h τ' h') {v : Value} {d : D} (r : Rep X.C τ h v d) : Rep X.C τ' h' v d := (Rep.carry_both fun b o e k B => ⟨S.keep b o e k (F.bears e B), S.off e k⟩).1 r
theorem RepAll.stepF (F : FrameOk X sk env ρ τ h) (S : StepsF env τ h τ' h') {vs : List Value} {ds : List D} (r : RepAll X.C τ h vs ds) : RepAll X.C τ' h' vs ds := (Rep.carry_both fun b o e k B => ⟨S.keep b o e k (F.bears e B), S.off e k⟩).2 r

/-- only one object of the frame has changed -/
theorem StepsF.one {b : Addr} (i : InFr env b) (hs : Heap.SameBut b h h') : StepsF env τ h τ h' :=
  ⟨fun c o e k ni => (hs.2 c (fun q => ni (q ▸ i))).trans e, fun _ k => .inl k⟩

theorem Ok.one {b : Addr} (O : Ok X τ h) (F : FrameOk X sk env ρ τ h) (i : InFr env b) (hs : Heap.SameBut b h h') : Ok X τ h' where
  base := fun c o e => (hs.2 c (by
    rintro rfl
    rcases i with rfl | ⟨x, i⟩
    · rw [F.newL] at e; cases e
    · rw [F.newC x _ i] at e; cases e)).trans (O.base c o e)
  off := O.off
  store := fun a ds e => by
    obtain ⟨vs, n, ha, r⟩ := O.store a ds e
    refine ⟨vs, n, (hs.2 a ?_).trans ha, r.stepF F (.one i hs)⟩
    rintro rfl
    rcases i with rfl | ⟨x, i⟩
    · rw [F.offL] at e; cases e
    · rw [F.offC x _ i] at e; cases e

end

/-- a name that the frame may store -/
noncomputable def storable (sk : Sk) (x : Str) : Bool := (sk x == .loc || sk x == .cel) && x != ("_headers" : Str)

noncomputable def notComp : Expr → Bool
  | .ListComp .. | .SetComp .. | .DictComp .. => false
  | _ => true
theorem swaps_not {e : Expr} (h : notComp e = true) (t : Option Expr) (l : Nat) (env : Env) : swapsWith e t l env = pure false := by
  cases e <;> first | rfl | exact (Bool.false_ne_true h).elim

section
variable {X : Cx} {n : Nat} {sk : Sk} {env : Env} {ρ ρ' : Str → Option D} {τ τ' τ₁ τ₂ : Store} {h h' h₁ h₂ : Heap}

theorem bind_var {M : Model} {A : Around} {E : Value → Shared → Prop} {s : Shared} {x : Str} {v : Value} {d : D} {Q : Unit → Shared → Prop} (O : Ok X τ s.heap) (F : FrameOk X sk env ρ τ s.heap) (r : Rep X.C τ s.heap v d) (hk : storable sk x = true)
    (hq : ∀ h' tk, Ok X τ h' → FrameOk X sk env (upd ρ x d) τ h' → StepsF env τ s.heap τ h' → (∀ b o, s.heap.get? b = some o → b ≠ env.locals → env.cells.lookup x ≠ some b → h'.get? b = some o) → Q () { s with heap := h', toks := tk }) : wpAny M A (bindName env x v) Q E s := by
  unfold storable at hk
  simp only [Bool.and_eq_true, Bool.or_eq_true, beq_iff_eq, bne_iff_ne] at hk
  obtain ⟨hk, hx⟩ := hk
  refine wpAny_bindName ?_
  have st := F.stat x
  rcases hk with hk0 | hk0 <;> rw [hk0] at st <;> simp only at st
  · obtain ⟨m, hn, hm, k⟩ := F.ns
    refine wpAny_storeName_local st hn (fun h' hn' hs => ?_) (by rw [F.kind]; rfl)
    have S : StepsF env τ s.heap τ h' := .one (.inl rfl) hs
    refine hq h' _ (O.one F (.inl rfl) hs) ⟨F.stat, F.kind, F.glob, F.bui, ⟨_, hn', ?_, ?_⟩, ?_, F.offL, F.offC, F.newL, F.newC, F.apart⟩ S (fun b o e n _ => (hs.2 b n).trans e)
    · rw [if_neg (fun e => hx e.symm)]; exact hm
    · intro y d' e l
      unfold upd at e
      by_cases q : y = x
      · rw [if_pos q] at e; cases e
        exact ⟨v, by rw [if_pos q], r.stepF F S⟩
      · rw [if_neg q] at e
        obtain ⟨u, a, b⟩ := k y d' e l
        exact ⟨u, by rw [if_neg q]; exact a, b.stepF F S⟩
    · intro y c e
      obtain ⟨u, ⟨o, ho, hd⟩, k'⟩ := F.cells y c e
      refine ⟨u, ⟨o, (hs.2 c ?_).trans ho, hd⟩, fun d' l q => ?_⟩
      · rintro rfl
        obtain ⟨o', es, ep, ho', hd', _⟩ := hn
        rw [ho] at ho'; cases ho'
        rw [hd] at hd'; cases hd'
      · unfold upd at q
        rw [if_neg (by rintro rfl; exact l hk0)] at q
        obtain ⟨w, a, b⟩ := k' d' l q
        exact ⟨w, a, b.stepF F S⟩
  · obtain ⟨hk, hc⟩ := st
    obtain ⟨c, hc⟩ := Option.isSome_iff_exists.mp hc
    obtain ⟨v₀, hv, k⟩ := F.cells x c hc
    refine wpAny_storeName_cell F.kind hk hc hv fun h' hv' hs => ?_
    have i : InFr env c := .inr ⟨x, hc⟩
    have S : StepsF env τ s.heap τ h' := .one i hs
    refine hq h' _ (O.one F i hs) ⟨F.stat, F.kind, F.glob, F.bui, ?_, ?_, F.offL, F.offC, F.newL, F.newC, F.apart⟩ S (fun b o e _ n => (hs.2 b (fun q => n (q ▸ hc))).trans e)
    · obtain ⟨m, hn, hm, k'⟩ := F.ns
      refine ⟨m, ?_, hm, fun y d' e l => ?_⟩
      · obtain ⟨o, es, ep, ho, hd, rr⟩ := hn
        refine ⟨o, es, ep, (hs.2 _ ?_).trans ho, hd, rr⟩
        rintro rfl
        obtain ⟨o', ho', hd'⟩ := hv
        rw [ho] at ho'; cases ho'
        rw [hd] at hd'; cases hd'
      · unfold upd at e
        rw [if_neg (by rintro rfl; rw [hk0] at l; cases l)] at e
        obtain ⟨u, a, b⟩ := k' y d' e l
        exact ⟨u, a, b.stepF F S⟩
    · intro y c' e
      by_cases q : y = x
      · subst q
        rw [hc] at e; cases e
        refine ⟨_, hv', fun d' l e => ⟨v, rfl, ?_⟩⟩
        unfold upd at e
        rw [if_pos rfl] at e; cases e
        exact r.stepF F S
      · obtain ⟨u, ⟨o, ho, hd⟩, k'⟩ := F.cells y c' e
        refine ⟨u, ⟨o, (hs.2 c' ?_).trans ho, hd⟩, fun d' l z => ?_⟩
        · rintro rfl
          exact q (F.apart y x c' e hc)
        · unfold upd at z
          rw [if_neg q] at z
          obtain ⟨w, a, b⟩ := k' d' l z
          exact ⟨w, a, b.stepF F S⟩

/-- the post of statements -/
inductive PostS (X : Cx) (sk : Sk) (env : Env) (τ : Store) (s : Shared) (Q : Fl → (Str → Option D) → Store → Prop) (f : Flow) (s' : Shared) : Prop
  | intro (fl : Fl) (ρ' : Str → Option D) (τ' : Store) : Q fl ρ' τ' → FlRep X.C τ' s'.heap f fl → Ok X τ' s'.heap → FrameOk X sk env ρ' τ' s'.heap → StepsF env τ s.heap τ' s'.heap → s'.os = s.os → s'.gens = s.gens → PostS X sk env τ s Q f s'

theorem PostS.trans {s s₁ : Shared} {Q : Fl → (Str → Option D) → Store → Prop} {f : Flow} {s' : Shared} (F : FrameOk X sk env ρ τ₁ s₁.heap) (S : StepsF env τ s.heap τ₁ s₁.heap) (ho : s₁.os = s.os) (hg : s₁.gens = s.gens)
    (P : PostS X sk env τ₁ s₁ Q f s') : PostS X sk env τ s Q f s' := by
  obtain ⟨d, ρ', τ', q, r, k, fr, st, o, g⟩ := P
  exact ⟨d, ρ', τ', q, r, k, fr, S.trans F st, o.trans ho, g.trans hg⟩

noncomputable def Ex (X : Cx) (n : Nat) (sk : Sk) (ρ : Str → Option D) (τ : Store) (ss : List Stmt) (Q : Fl → (Str → Option D) → Store → Prop) : Prop :=
  ∀ env A s E, Room n A → Ok X τ s.heap → FrameOk X sk env ρ τ s.heap → wpAny X.M A (execs ss env) (PostS X sk env τ s Q) E s
noncomputable def Ex1 (X : Cx) (n : Nat) (sk : Sk) (ρ : Str → Option D) (τ : Store) (st : Stmt) (Q : Fl → (Str → Option D) → Store → Prop) : Prop :=
  ∀ env A s E, Room n A → Ok X τ s.heap → FrameOk X sk env ρ τ s.heap → wpAny X.M A (exec st env) (PostS X sk env τ s Q) E s

variable {Q : Fl → (Str → Option D) → Store → Prop}

theorem Ex.mono {ss : List Stmt} {Q' : Fl → (Str → Option D) → Store → Prop} (h : Ex X n sk ρ τ ss Q) (k : ∀ f ρ' τ', Q f ρ' τ' → Q' f ρ' τ') : Ex X n sk ρ τ ss Q' := fun env A s E R O F =>
  wpAny_mono (h env A s E R O F) (fun _ _ ⟨d, ρ', τ', q, r, O, F, S, o, g⟩ => ⟨d, ρ', τ', k d ρ' τ' q, r, O, F, S, o, g⟩) fun _ _ e => e

theorem ex_nil (h : Q .next ρ τ) : Ex X n sk ρ τ [] Q := fun env A s E R O F =>
  wpAny_execs_nil ⟨.next, ρ, τ, h, trivial, O, F, .refl _ _ _, rfl, rfl⟩

theorem ex_cons {st : Stmt} {rest : List Stmt} (h : Ex1 X n sk ρ τ st (fun fl ρ₁ τ₁ => match fl with | .next => Ex X n sk ρ₁ τ₁ rest Q | fl => Q fl ρ₁ τ₁)) : Ex X n sk ρ τ (st :: rest) Q := fun env A s E R O F => by
  refine wpAny_execs_cons (wpAny_mono (h env A s E R O F) (fun f s₁ P => ?_) fun _ _ e => e)
  obtain ⟨fl, ρ₁, τ₁, q, r, O₁, F₁, S₁, o₁, g₁⟩ := P
  cases f <;> cases fl <;> first | exact r.elim | skip
  · exact wpAny_mono (q env A s₁ E R O₁ F₁) (fun _ _ P => P.trans F₁ S₁ o₁ g₁) fun _ _ e => e
  · exact ⟨.brk, ρ₁, τ₁, q, trivial, O₁, F₁, S₁, o₁, g₁⟩
  · exact ⟨.cont, ρ₁, τ₁, q, trivial, O₁, F₁, S₁, o₁, g₁⟩
  · exact ⟨.ret _, ρ₁, τ₁, q, r, O₁, F₁, S₁, o₁, g₁⟩

theorem ex_assign {x : Str} {p' pos : Pos} {value : Expr} (hs : notComp value = true) (hk : storable sk x = true)
    (h : Ev X n sk ρ τ value (fun d τ₁ => Q .next (upd ρ x d) τ₁)) : Ex1 X n sk ρ τ (.Assign [.Name x p'] value pos) Q := fun env A s E R O F => by
  rw [exec_Assign_Name _ _ _ _ _ (swaps_not hs _ _ _)]
  refine wpAny_bind (wpAny_standAt (wpAny_bind (wpAny_mono (h env A s E R O F) (fun v s₁ P => ?_) fun _ _ e => e)))
  obtain ⟨d, τ₁, q, r, O₁, S₁, o₁, g₁⟩ := P
  have F₁ := F.step S₁
  refine wpAny_bind (wpAny_standAt (wpAny_bind (bind_var O₁ F₁ r hk fun h' tk O' F' S' _ => wpAny_pure ?_)))
  exact ⟨.next, _, _, q, trivial, O', F', S₁.toF.trans F₁ S', o₁, g₁⟩

theorem ex_ret {e : Expr} {pos : Pos} (h : Ev X n sk ρ τ e (fun d τ₁ => Q (.ret d) ρ τ₁)) : Ex1 X n sk ρ τ (.Return (some e) pos) Q := fun env A s E R O F => by
  rw [exec_Return_some]
  refine wpAny_bind (wpAny_standAt (wpAny_bind (wpAny_mono (h env A s E R O F) (fun v s₁ P => wpAny_pure ?_) fun _ _ e => e)))
  obtain ⟨d, τ₁, q, r, O₁, S₁, o₁, g₁⟩ := P
  exact ⟨.ret d, _, _, q, r, O₁, F.step S₁, S₁.toF, o₁, g₁⟩

theorem ex_if {test : Expr} {body orelse : List Stmt} {pos : Pos} (h : Tst X n sk ρ τ test (fun b τ₁ => if b = true then Ex X n sk ρ τ₁ body Q else Ex X n sk ρ τ₁ orelse Q)) :
    Ex1 X n sk ρ τ (.If test body orelse pos) Q := fun env A s E R O F => by
  rw [exec_If]
  refine wpAny_bind (wpAny_standAt (wpAny_bind (wpAny_mono (h env A s E R O F) (fun b s₁ P => ?_) fun _ _ e => e)))
  obtain ⟨τ₁, q, O₁, S₁, o₁, g₁⟩ := P
  have F₁ := F.step S₁
  cases b
  · rw [if_neg Bool.false_ne_true] at q ⊢
    exact wpAny_mono (q env A s₁ E R O₁ F₁) (fun _ _ P => P.trans F₁ S₁.toF o₁ g₁) fun _ _ e => e
  · rw [if_pos rfl] at q ⊢
    exact wpAny_mono (q env A s₁ E R O₁ F₁) (fun _ _ P => P.trans F₁ S₁.toF o₁ g₁) fun _ _ e => e
end
end

section
section
variable {X : Cx} {n : Nat} {sk : Sk} {env : Env} {ρ : Str → Option D} {τ : Store} {Q : D → Store → Prop} {P : Bool → Store → Prop}

/-- a value's truth -/
noncomputable def Tr (X : Cx) (n : Nat) (a : D) (τ : Store) (P : Bool → Store → Prop) : Prop :=
  ∀ A s E va, Room n A → Ok X τ s.heap → Rep X.C τ s.heap va a → wpAny X.M A (truthy va) (PostT X τ s P) E s

theorem tr_bool {b : Bool} (h : P b τ) : Tr X n (.bool b) τ P := fun A s E va R O r => by
  obtain rfl := r.bool_inv
  exact fun _ _ _ => ⟨τ, h, O, .refl _ _, rfl, rfl⟩
theorem tr_none (h : P false τ) : Tr X n .none τ P := fun A s E va R O r => by
  obtain rfl := r.none_inv
  exact truthy_none ⟨τ, h, O, .refl _ _, rfl, rfl⟩
theorem tr_int {i : Int} (h : P (i != 0) τ) : Tr X n (.int i) τ P := fun A s E va R O r => by
  obtain ⟨_, rfl⟩ := r.inv
  exact PySem.P.truthy_int ⟨τ, h, O, .refl _ _, rfl, rfl⟩

theorem tst_cmp {l r : Expr} {op : CmpOp} {pos : Pos} (h : Ev X n sk ρ τ l (fun a τ₁ => Ev X n sk ρ τ₁ r (fun b τ₂ => T2 X n (compareOp op) a b τ₂ (fun d τ₃ => Tr X n d τ₃ P)))) (hm : behindInMarks op r = false) :
    Tst X n sk ρ τ (.Compare l [op] [r] pos) P := fun env A s E R O F => by
  refine wpAny_isTrue_Compare1 (wpAny_mono (h env A s E R O F) (fun va s₁ Z => ?_) fun _ _ e => e) hm
  obtain ⟨a, τ₁, q, ra, O₁, S₁, o₁, g₁⟩ := Z
  refine wpAny_mono (q env A s₁ E R O₁ (F.step S₁)) (fun vb s₂ Z => ?_) fun _ _ e => e
  obtain ⟨b, τ₂, q, rb, O₂, S₂, o₂, g₂⟩ := Z
  refine wpAny_mono (q A s₂ E va vb R O₂ (ra.step S₂) rb) (fun v s₃ Z => ?_) fun _ _ e => e
  obtain ⟨d, τ₃, q, rd, O₃, S₃, o₃, g₃⟩ := Z
  refine wpAny_mono (q A s₃ E v R O₃ rd) (fun c s' Z => ?_) fun _ _ e => e
  obtain ⟨τ', p, O', S', o', g'⟩ := Z
  exact ⟨τ', p, O', ((S₁.trans S₂).trans S₃).trans S', o'.trans (o₃.trans (o₂.trans o₁)), g'.trans (g₃.trans (g₂.trans g₁))⟩

theorem tst_plain {e : Expr} (h : Ev X n sk ρ τ e (fun d τ₁ => Tr X n d τ₁ P)) (he : ∀ env whole, isTrue e env whole = (do let v ← whole; standAt e.pos; holding [v] (truthy v))) : Tst X n sk ρ τ e P := fun env A s E R O F => by
  refine isTrue_plain (wpAny_mono (h env A s E R O F) (fun va s₁ Z => ?_) fun _ _ e => e) (he _ _)
  obtain ⟨a, τ₁, q, ra, O₁, S₁, o₁, g₁⟩ := Z
  refine wpAny_mono (q A s₁ E va R O₁ ra) (fun c s' Z => ?_) fun _ _ e => e
  obtain ⟨τ', p, O', S', o', g'⟩ := Z
  exact ⟨τ', p, O', S₁.trans S', o'.trans o₁, g'.trans g₁⟩
theorem tst_name {x : Str} {pos : Pos} (h : Ev X n sk ρ τ (.Name x pos) (fun d τ₁ => Tr X n d τ₁ P)) : Tst X n sk ρ τ (.Name x pos) P := tst_plain h fun _ _ => rfl
theorem tst_call {f : Expr} {as : List Expr} {ks : List Keyword} {pos : Pos} (h : Ev X n sk ρ τ (.Call f as ks pos) (fun d τ₁ => Tr X n d τ₁ P)) : Tst X n sk ρ τ (.Call f as ks pos) P := tst_plain h fun _ _ => rfl

theorem Tst.then {e : Expr} {A : Around} {s : Shared} {E : Value → Shared → Prop} (h : Tst X n sk ρ τ e P) (R : Room n A) (O : Ok X τ s.heap) (F : FrameOk X sk env ρ τ s.heap) {K : Bool → Shared → Prop}
    (k : ∀ b s' τ', P b τ' → Ok X τ' s'.heap → FrameOk X sk env ρ τ' s'.heap → Steps τ s.heap τ' s'.heap → s'.os = s.os → s'.gens = s.gens → K b s') : wpAny X.M A (isTrue e env (eval e env)) K E s :=
  wpAny_mono (h env A s E R O F) (fun b s' ⟨τ', p, O', S', o', g'⟩ => k b s' τ' p O' (F.step S') S' o' g') fun _ _ e => e

theorem tst_and_nil {pos : Pos} (h : P true τ) : Tst X n sk ρ τ (.BoolOp .And [] pos) P := fun env A s E R O F => isTrue_and_nil ⟨τ, h, O, .refl _ _, rfl, rfl⟩
theorem tst_or_nil {pos : Pos} (h : P false τ) : Tst X n sk ρ τ (.BoolOp .Or [] pos) P := fun env A s E R O F => isTrue_or_nil ⟨τ, h, O, .refl _ _, rfl, rfl⟩
theorem tst_and {x : Expr} {rest : List Expr} {pos : Pos} (h : Tst X n sk ρ τ x (fun b τ₁ => if b = true then Tst X n sk ρ τ₁ (.BoolOp .And rest pos) P else P false τ₁)) : Tst X n sk ρ τ (.BoolOp .And (x :: rest) pos) P := fun env A s E R O F => by
  refine isTrue_and (h.then R O F fun b s₁ τ₁ p O₁ F₁ S₁ o₁ g₁ => ?_)
  cases b
  · rw [if_neg Bool.false_ne_true] at p ⊢
    exact ⟨τ₁, p, O₁, S₁, o₁, g₁⟩
  · rw [if_pos rfl] at p ⊢
    exact p.then R O₁ F₁ fun b s' τ' p O' F' S' o' g' => ⟨τ', p, O', S₁.trans S', o'.trans o₁, g'.trans g₁⟩
theorem tst_or {x : Expr} {rest : List Expr} {pos : Pos} (h : Tst X n sk ρ τ x (fun b τ₁ => if b = true then P true τ₁ else Tst X n sk ρ τ₁ (.BoolOp .Or rest pos) P)) : Tst X n sk ρ τ (.BoolOp .Or (x :: rest) pos) P := fun env A s E R O F => by
  refine isTrue_or (h.then R O F fun b s₁ τ₁ p O₁ F₁ S₁ o₁ g₁ => ?_)
  cases b
  · rw [if_neg Bool.false_ne_true] at p ⊢
    exact p.then R O₁ F₁ fun b s' τ' p O' F' S' o' g' => ⟨τ', p, O', S₁.trans S', o'.trans o₁, g'.trans g₁⟩
  · rw [if_pos rfl] at p ⊢
    exact ⟨τ₁, p, O₁, S₁, o₁, g₁⟩

theorem Ev.then {e : Expr} {A : Around} {s : Shared} {E : Value → Shared → Prop} (h : Ev X n sk ρ τ e Q) (R : Room n A) (O : Ok X τ s.heap) (F : FrameOk X sk env ρ τ s.heap) {K : Value → Shared → Prop}
    (k : ∀ v s' d τ', Q d τ' → Rep X.C τ' s'.heap v d → Ok X τ' s'.heap → FrameOk X sk env ρ τ' s'.heap → Steps τ s.heap τ' s'.heap → s'.os = s.os → s'.gens = s.gens → K v s') : wpAny X.M A (eval e env) K E s :=
  wpAny_mono (h env A s E R O F) (fun b s' ⟨d, τ', p, r, O', S', o', g'⟩ => k b s' d τ' p r O' (F.step S') S' o' g') fun _ _ e => e

theorem ev_ifexp {test body orelse : Expr} {pos : Pos} (h : Tst X n sk ρ τ test (fun b τ₁ => if b = true then Ev X n sk ρ τ₁ body Q else Ev X n sk ρ τ₁ orelse Q)) : Ev X n sk ρ τ (.IfExp test body orelse pos) Q := fun env A s E R O F => by
  refine IfExp_ (h.then R O F fun b s₁ τ₁ p O₁ F₁ S₁ o₁ g₁ => ?_)
  cases b
  · rw [if_neg Bool.false_ne_true] at p ⊢
    exact wpAny_mono (p env A s₁ E R O₁ F₁) (fun _ _ Z => Z.trans S₁ o₁ g₁) fun _ _ e => e
  · rw [if_pos rfl] at p ⊢
    exact wpAny_mono (p env A s₁ E R O₁ F₁) (fun _ _ Z => Z.trans S₁ o₁ g₁) fun _ _ e => e
theorem ev_un {op : UnaryOp} {x : Expr} {pos : Pos} (h : Ev X n sk ρ τ x (fun a τ₁ => T1 X n (unaryOp op) a τ₁ Q)) : Ev X n sk ρ τ (.UnaryOp op x pos) Q := fun env A s E R O F => by
  refine wpAny_UnaryOp (h.then R O F fun v s₁ d τ₁ p r O₁ F₁ S₁ o₁ g₁ => ?_)
  exact wpAny_mono (p A s₁ E v R O₁ r) (fun _ _ Z => Z.trans S₁ o₁ g₁) fun _ _ e => e

theorem t1_neg {i : Int} (h : Q (.int (-i)) τ) : T1 X n (unaryOp .USub) (.int i) τ Q := fun A s E va R O r => by
  obtain ⟨_, rfl⟩ := r.inv
  exact PySem.P.neg_int (Post.here O h (.int _ _) rfl rfl rfl)

theorem T2.ints {f : Value → Value → Sem Value} {a b : Int} (h : ∀ A s E t u, Room n A → Ok X τ s.heap → wpAny X.M A (f (.int a t) (.int b u)) (Post X τ s Q) E s) : T2 X n f (.int a) (.int b) τ Q := fun A s E va vb R O r q => by
  obtain ⟨t, rfl⟩ := r.inv; obtain ⟨u, rfl⟩ := q.inv; exact h A s E t u R O
theorem T2.strs {f : Value → Value → Sem Value} {a b : Str} (h : ∀ A s E t u, Room n A → Ok X τ s.heap → wpAny X.M A (f (.str a t) (.str b u)) (Post X τ s Q) E s) : T2 X n f (.str a) (.str b) τ Q := fun A s E va vb R O r q => by
  obtain ⟨t, rfl⟩ := r.inv; obtain ⟨u, rfl⟩ := q.inv; exact h A s E t u R O
/-! ints -/
section
variable {a b : Int}
theorem t2_add (h : Q (.int (a + b)) τ) : T2 X n (binaryOp .Add) (.int a) (.int b) τ Q := .ints fun A s E _ _ R O => PySem.P.add_int (Post.here O h (.int _ _) rfl rfl rfl)
theorem t2_sub (h : Q (.int (a - b)) τ) : T2 X n (binaryOp .Sub) (.int a) (.int b) τ Q := .ints fun A s E _ _ R O => PySem.P.sub_int (Post.here O h (.int _ _) rfl rfl rfl)
theorem t2_mul (hm : IntMulOk a b) (h : Q (.int (a * b)) τ) : T2 X n (binaryOp .Mult) (.int a) (.int b) τ Q := .ints fun A s E _ _ R O => PySem.P.mul_int (Post.here O h (.int _ _) rfl rfl rfl) hm
theorem t2_mod (hb : b ≠ 0) (h : Q (.int (a.fmod b)) τ) : T2 X n (binaryOp .Mod) (.int a) (.int b) τ Q := .ints fun A s E _ _ R O => mod_int' hb (Post.here O h (.int _ _) rfl rfl rfl)
theorem t2_div (hb : b ≠ 0) (hs : b.natAbs.log2 < 9000) (h : Q (.int (a.fdiv b)) τ) : T2 X n (binaryOp .FloorDiv) (.int a) (.int b) τ Q := .ints fun A s E _ _ R O => floordiv_int hb (Post.here O h (.int _ _) rfl rfl rfl) (.inl (PyProof.noPylong_of_log2 hs))
theorem t2_pow (hn : 0 ≤ b) (hn2 : b ≤ 1000000) (ha : a.natAbs < 2 ^ 64) (h : Q (.int (a ^ b.toNat)) τ) : T2 X n (binaryOp .Pow) (.int a) (.int b) τ Q := .ints fun A s E _ _ R O => pow_int_small hn hn2 ha (Post.here O h (.int _ _) rfl rfl rfl)
theorem t2_eq (h : Q (.bool (a == b)) τ) : T2 X n (compareOp .Eq) (.int a) (.int b) τ Q := .ints fun A s E _ _ R O => PySem.P.eq_int (Post.here O h (.bool _) rfl rfl rfl)
theorem t2_ne (h : Q (.bool (a != b)) τ) : T2 X n (compareOp .NotEq) (.int a) (.int b) τ Q := .ints fun A s E _ _ R O => PySem.P.ne_int (Post.here O h (.bool _) rfl rfl rfl)
theorem t2_lt (h : Q (.bool (decide (a < b))) τ) : T2 X n (compareOp .Lt) (.int a) (.int b) τ Q := .ints fun A s E _ _ R O => PySem.P.lt_int (Post.here O h (.bool _) rfl rfl rfl)
theorem t2_le (h : Q (.bool (decide (a ≤ b))) τ) : T2 X n (compareOp .LtE) (.int a) (.int b) τ Q := .ints fun A s E _ _ R O => PySem.P.le_int (Post.here O h (.bool _) rfl rfl rfl)
theorem t2_gt (h : Q (.bool (decide (b < a))) τ) : T2 X n (compareOp .Gt) (.int a) (.int b) τ Q := .ints fun A s E _ _ R O => PySem.P.gt_int (Post.here O h (.bool _) rfl rfl rfl)
end

/-! strs -/
section
variable {x y : Str}
theorem t2_adds (hsz : x.length + y.length ≤ sizeLine) (h : Q (.str (x ++ y)) τ) : T2 X n (binaryOp .Add) (.str x) (.str y) τ Q := .strs fun A s E _ _ R O => SB.add (fun t' k => Post.here O h (.str _ _) rfl rfl rfl) hsz
theorem t2_muls {m : Int} (hok : MulOk x m) (h : Q (.str (Txt.mul x m)) τ) : T2 X n (binaryOp .Mult) (.str x) (.int m) τ Q := fun A s E va vb R O r q => by
  obtain ⟨_, rfl⟩ := r.inv; obtain ⟨_, rfl⟩ := q.inv; exact SB.mul hok (fun t' k => Post.here O h (.str _ _) rfl rfl rfl)
theorem t2_eqs (h : Q (.bool (x.cps.toList == y.cps.toList)) τ) : T2 X n (compareOp .Eq) (.str x) (.str y) τ Q := .strs fun A s E _ _ R O => PySem.P.eq_str (Post.here O h (.bool _) rfl rfl rfl)
theorem t2_nes (h : Q (.bool (x.cps.toList != y.cps.toList)) τ) : T2 X n (compareOp .NotEq) (.str x) (.str y) τ Q := .strs fun A s E _ _ R O => PySem.P.ne_str (Post.here O h (.bool _) rfl rfl rfl)
end
/-! new objects -/
theorem get?_size (h : Heap) : h.get? h.objs.size = none := by
  cases e : h.get? h.objs.size with
  | none => rfl
  | some o => exact absurd (Heap.lt_size e) (Nat.lt_irrefl _)
theorem Ok.offNew {h : Heap} (O : Ok X τ h) : τ h.objs.size = none := by
  cases e : τ h.objs.size with
  | none => rfl
  | some ds =>
    obtain ⟨vs, k, hv, _⟩ := O.store _ ds e
    rw [get?_size] at hv; cases hv
theorem Steps.push {h : Heap} (o : Obj) : Steps τ h τ (h.push o) := ⟨fun _ _ e _ => Heap.get?_push_of_some _ e, fun _ k => .inl k⟩
theorem Ok.keeps {h h' : Heap} (O : Ok X τ h) (k : ∀ b o, h.get? b = some o → h'.get? b = some o) : Ok X τ h' where
  base := fun b o e => k b o (O.base b o e)
  off := O.off
  store := fun a ds e => let ⟨vs, m, hv, r⟩ := O.store a ds e; ⟨vs, m, k _ _ hv, r.step ⟨fun b o e _ => k b o e, fun _ q => .inl q⟩⟩
theorem Ok.push {h : Heap} (O : Ok X τ h) (o : Obj) : Ok X τ (h.push o) := O.keeps fun _ _ e => Heap.get?_push_of_some _ e

theorem Post.new {s : Shared} {d : D} {o : Obj} (O : Ok X τ s.heap) (hq : Q d τ) (r : Rep X.C τ (s.heap.push o) (.ref s.heap.objs.size) d) {tk : Nat} : Post X τ s Q (.ref s.heap.objs.size) { s with heap := s.heap.push o, toks := tk } :=
  ⟨d, τ, hq, r, O.push o, .push o, rfl, rfl⟩

theorem RepAll.length {C : Addr} {h : Heap} {vs : List Value} {ds : List D} (r : RepAll C τ h vs ds) : vs.length = ds.length := by
  induction ds generalizing vs with
  | nil => obtain rfl := r.nil_inv; rfl
  | cons d ds ih =>
    obtain ⟨v', vs', e, _, r'⟩ := r.inv
    rw [e]
    exact congrArg (· + 1) (ih r')
theorem RepAll.append {C : Addr} {h : Heap} {vs ws : List Value} {ds es : List D} (r : RepAll C τ h vs ds) (q : RepAll C τ h ws es) : RepAll C τ h (vs ++ ws) (ds ++ es) := by
  induction ds generalizing vs with
  | nil => obtain rfl := r.nil_inv; exact q
  | cons d ds ih =>
    obtain ⟨_, _, rfl, a, r'⟩ := r.inv
    exact .cons a (ih r')
theorem RepAll.get {C : Addr} {h : Heap} {vs : List Value} {ds : List D} {k : Nat} {d : D} (r : RepAll C τ h vs ds) (e : ds[k]? = some d) : ∃ v, vs[k]? = some v ∧ Rep C τ h v d := by
  induction ds generalizing vs k with
  | nil => cases e
  | cons d' ds ih =>
    obtain ⟨_, _, rfl, a, r'⟩ := r.inv
    cases k with
    | zero => cases e; exact ⟨_, rfl, a⟩
    | succ k =>
      have z := ih (k := k) r' e
      exact z
theorem rep_newList {h : Heap} {vs : List Value} {ds : List D} (O : Ok X τ h) (r : RepAll X.C τ h vs ds) : Rep X.C τ (h.push (lstO vs 0)) (.ref h.objs.size) (.list ds) :=
  .list O.offNew (Heap.get?_push_size _ rfl) (r.step (.push _))
theorem rep_newTuple {h : Heap} {vs : List Value} {ds : List D} (O : Ok X τ h) (r : RepAll X.C τ h vs ds) : Rep X.C τ (h.push (tupO vs 0)) (.ref h.objs.size) (.tuple ds) :=
  .tuple O.offNew (Heap.get?_push_size _ rfl) (r.step (.push _))

theorem t2_addl {xs ys : List D} (hsz : xs.length + ys.length ≤ sizeLine) (h : Q (.list (xs ++ ys)) τ) : T2 X n (binaryOp .Add) (.list xs) (.list ys) τ Q := fun A s E va vb R O r q => by
  cases r with
  | @list l vs k _ o1 e1 r1 =>
  obtain ⟨b, ws, k2, rfl, o2, e2, r2⟩ := q.inv
  have e : vs.toArray ++ ws.toArray = (vs ++ ws).toArray := by simp
  refine concat_meets ⟨_, e1, rfl⟩ ⟨_, e2, rfl⟩ noFill_list_add seq_list_add PySem.F.slot_list_add PySem.F.entry_list_add (PySem.F.args_list_add_2 _ _) (list_addW l b vs.toArray ws.toArray k k2 none none #[] #[] (by
    have l1 := r1.length
    have l2 := r2.length
    simp only [List.size_toArray, l1, l2]
    exact hsz)) ⟨e1, e2, ?_⟩
  rw [e]
  exact Post.new O h (rep_newList O (r1.append r2))

end
end

section
/-- the store with one list laid anew -/
noncomputable def put (τ : Store) (a : Addr) (ds : List D) : Store := fun b => if b = a then some ds else τ b
/-- a datum is a list with these items: one of its own, or one that nothing changes -/
noncomputable def IsL (τ : Store) (d : D) (ds : List D) : Prop := d = .list ds ∨ ∃ a, d = .own a ∧ τ a = some ds

theorem IsL.list {τ : Store} {ds : List D} : IsL τ (.list ds) ds := .inl rfl
theorem IsL.own {τ : Store} {a : Addr} {ds : List D} (e : τ a = some ds) : IsL τ (.own a) ds := .inr ⟨a, rfl, e⟩
@[simp] theorem put_same {τ : Store} {a : Addr} {ds : List D} : put τ a ds a = some ds := if_pos rfl
theorem put_other {τ : Store} {a b : Addr} {ds : List D} (h : b ≠ a) : put τ a ds b = τ b := if_neg h

section
variable {X : Cx} {n : Nat} {sk : Sk} {env : Env} {ρ : Str → Option D} {τ : Store} {Q : D → Store → Prop}

theorem IsL.at {h : Heap} {d : D} {ds : List D} {v : Value} (L : IsL τ d ds) (O : Ok X τ h) (r : Rep X.C τ h v d) : ∃ a vs k, v = .ref a ∧ h.get? a = some (lstO vs k) ∧ RepAll X.C τ h vs ds := by
  rcases L with rfl | ⟨a, rfl, e⟩
  · obtain ⟨_, _, _, rfl, o, e, r⟩ := r.inv
    exact ⟨_, _, _, rfl, e, r⟩
  · cases r with
    | own =>
      obtain ⟨vs, k, hv, r⟩ := O.store a ds e
      exact ⟨a, vs, k, rfl, hv, r⟩
/-- the post of a row -/
inductive PostL (X : Cx) (τ : Store) (s : Shared) (Q : List D → Store → Prop) (vs : List Value) (s' : Shared) : Prop
  | intro (ds : List D) (τ' : Store) : Q ds τ' → RepAll X.C τ' s'.heap vs ds → Ok X τ' s'.heap → Steps τ s.heap τ' s'.heap → s'.os = s.os → s'.gens = s.gens → PostL X τ s Q vs s'

/-- expressions in a row -/
noncomputable def Evs (X : Cx) (n : Nat) (sk : Sk) (ρ : Str → Option D) (τ : Store) (es : List Expr) (Q : List D → Store → Prop) : Prop :=
  ∀ env A s E pos, Room n A → Ok X τ s.heap → FrameOk X sk env ρ τ s.heap → wpAny X.M A (spliced (backTo pos (starEach es env)))
    (PostL X τ s Q) E s

theorem evs_nil {Q : List D → Store → Prop} (h : Q [] τ) : Evs X n sk ρ τ [] Q := fun env A s E pos R O F => spliced_none ⟨[], τ, h, .nil, O, .refl _ _, rfl, rfl⟩
theorem evs_cons {e : Expr} {rest : List Expr} {Q : List D → Store → Prop} (h : Ev X n sk ρ τ e (fun d τ₁ => Evs X n sk ρ τ₁ rest (fun ds τ₂ => Q (d :: ds) τ₂)))
    (he : ∀ env, starEach (e :: rest) env = (false, eval e env) :: starEach rest env) : Evs X n sk ρ τ (e :: rest) Q := fun env A s E pos R O F => by
  refine spliced_more (h.then R O F fun v s₁ d τ₁ p r O₁ F₁ S₁ o₁ g₁ => ?_) (he env)
  refine wpAny_mono (p env A s₁ E pos R O₁ F₁) (fun vs s₂ Z => ?_) fun _ _ e => e
  obtain ⟨ds, τ₂, q, rs, O₂, S₂, o₂, g₂⟩ := Z
  exact ⟨d :: ds, τ₂, q, .cons (r.step S₂) rs, O₂, S₁.trans S₂, o₂.trans o₁, g₂.trans g₁⟩

theorem ev_list {es : List Expr} {pos : Pos} (hsz : es.length ≤ sizeLine) (h : Evs X n sk ρ τ es (fun ds τ₁ => ds.length ≤ sizeLine ∧ Q (.list ds) τ₁)) : Ev X n sk ρ τ (.List es pos) Q := fun env A s E R O F => by
  refine List_ (wpAny_mono (h env A s E pos R O F) (fun vs s₁ Z => ?_) fun _ _ e => e)
  obtain ⟨ds, τ₁, ⟨hl, q⟩, rs, O₁, S₁, o₁, g₁⟩ := Z
  refine wpAny_newObj_type ?_ (by show vs.toArray.size ≤ sizeLine; rw [List.size_toArray, rs.length]; exact hl)
  exact (Post.new (tk := s₁.toks) O₁ q (rep_newList O₁ rs)).trans S₁ o₁ g₁

theorem Ok.putNew {h : Heap} {vs : List Value} {ds : List D} (O : Ok X τ h) (rs : RepAll X.C τ h vs ds) : Ok X (put τ h.objs.size ds) (h.push (lstO vs 0)) ∧ Steps τ h (put τ h.objs.size ds) (h.push (lstO vs 0)) := by
  have S : Steps τ h (put τ h.objs.size ds) (h.push (lstO vs 0)) := ⟨fun _ _ e _ => Heap.get?_push_of_some _ e, fun b k => by
    by_cases q : b = h.objs.size
    · rw [q]; exact .inr (get?_size h)
    · rw [put_other q] at k; exact .inl k⟩
  refine ⟨⟨fun b o e => Heap.get?_push_of_some _ (O.base b o e), fun b k => ?_, fun a es e => ?_⟩, S⟩
  · by_cases q : b = h.objs.size
    · cases p : X.hB.get? b with
      | none => rfl
      | some o =>
        have := O.base b o p
        rw [q, get?_size] at this; cases this
    · rw [put_other q] at k; exact O.off b k
  · by_cases q : a = h.objs.size
    · subst q
      rw [put_same] at e; cases e
      exact ⟨vs, 0, Heap.get?_push_size _ rfl, rs.step S⟩
    · rw [put_other q] at e
      obtain ⟨ws, k, hw, r⟩ := O.store a es e
      exact ⟨ws, k, Heap.get?_push_of_some _ hw, r.step S⟩

/-- a list display whose list is to be changed -/
theorem ev_listOwn {es : List Expr} {pos : Pos} (h : Evs X n sk ρ τ es (fun ds τ₁ => ds.length ≤ sizeLine ∧ ∀ a, τ₁ a = none → Q (.own a) (put τ₁ a ds))) : Ev X n sk ρ τ (.List es pos) Q := fun env A s E R O F => by
  refine List_ (wpAny_mono (h env A s E pos R O F) (fun vs s₁ Z => ?_) fun _ _ e => e)
  obtain ⟨ds, τ₁, ⟨hl, q⟩, rs, O₁, S₁, o₁, g₁⟩ := Z
  refine wpAny_newObj_type ?_ (by show vs.toArray.size ≤ sizeLine; rw [List.size_toArray, rs.length]; exact hl)
  obtain ⟨O₂, S₂⟩ := O₁.putNew rs
  exact ⟨.own _, _, q _ O₁.offNew, .own _, O₂, S₁.trans S₂, o₁, g₁⟩

theorem ev_tuple {es : List Expr} {k : Nat} {pos : Pos} (h : Evs X n sk ρ τ es (fun ds τ₁ => ds.length ≤ sizeLine ∧ Q (.tuple ds) τ₁)) : Ev X n sk ρ τ (.Tuple es k pos) Q := fun env A s E R O F => by
  refine Tuple_ (wpAny_mono (h env A s E pos R O F) (fun vs s₁ Z => ?_) fun _ _ e => e)
  obtain ⟨ds, τ₁, ⟨hl, q⟩, rs, O₁, S₁, o₁, g₁⟩ := Z
  refine wpAny_newObj_type ?_ (by show vs.toArray.size ≤ sizeLine; rw [List.size_toArray, rs.length]; exact hl)
  exact (Post.new (tk := s₁.toks) O₁ q (rep_newTuple O₁ rs)).trans S₁ o₁ g₁

/-! calls -/

/-- a call of a value upon data -/
noncomputable def CallV (X : Cx) (n : Nat) (f : Value) (ds : List D) (ks : List (Str × D)) (τ : Store) (Q : D → Store → Prop) : Prop :=
  ∀ A s E vs ws, Room n A → Ok X τ s.heap → RepAll X.C τ s.heap vs ds → RepAll X.C τ s.heap ws (ks.map (·.2)) → wpAny X.M A (call f vs ((ks.map (·.1)).zip ws)) (Post X τ s Q) E s

theorem CallV.mono {f : Value} {ds : List D} {ks : List (Str × D)} {Q' : D → Store → Prop} (h : CallV X n f ds ks τ Q) (k : ∀ d τ', Q d τ' → Q' d τ') : CallV X n f ds ks τ Q' := fun A s E vs ws R O r q =>
  wpAny_mono (h A s E vs ws R O r q) (fun _ _ ⟨d, τ', q, r, O, S, o, g⟩ => ⟨d, τ', k d τ' q, r, O, S, o, g⟩) fun _ _ e => e
theorem CallV.room {m : Nat} {f : Value} {ds : List D} {ks : List (Str × D)} (h : CallV X m f ds ks τ Q) (k : m ≤ n) : CallV X n f ds ks τ Q := fun A s E vs ws R O r q => h A s E vs ws (R.mono k) O r q

/-- keywords in a row -/
noncomputable def Kws (X : Cx) (n : Nat) (sk : Sk) (ρ : Str → Option D) (τ : Store) (kws : List Keyword) (Q : List D → Store → Prop) : Prop :=
  ∀ env A s E pos, Room n A → Ok X τ s.heap → FrameOk X sk env ρ τ s.heap → wpAny X.M A (evalAll ((backToKw pos (keywordEach kws env)).map (·.2)))
    (PostL X τ s Q) E s
theorem kws_nil {Q : List D → Store → Prop} (h : Q [] τ) : Kws X n sk ρ τ [] Q := fun env A s E pos R O F => kwAll_nil ⟨[], τ, h, .nil, O, .refl _ _, rfl, rfl⟩
theorem kws_cons {name : Str} {e : Expr} {p : Pos} {rest : List Keyword} {Q : List D → Store → Prop} (h : Ev X n sk ρ τ e (fun d τ₁ => Kws X n sk ρ τ₁ rest (fun ds τ₂ => Q (d :: ds) τ₂))) :
    Kws X n sk ρ τ (⟨some name, e, p⟩ :: rest) Q := fun env A s E pos R O F => by
  refine kwAll_cons (h.then R O F fun v s₁ d τ₁ p r O₁ F₁ S₁ o₁ g₁ => ?_)
  refine wpAny_mono (p env A s₁ E pos R O₁ F₁) (fun vs s₂ Z => ?_) fun _ _ e => e
  obtain ⟨ds, τ₂, q, rs, O₂, S₂, o₂, g₂⟩ := Z
  exact ⟨d :: ds, τ₂, q, .cons (r.step S₂) rs, O₂, S₁.trans S₂, o₂.trans o₁, g₂.trans g₁⟩

noncomputable def Keepable (X : Cx) (f : Value) : Prop := ∀ h, X.K.In h → ∃ k, (k = Keeper.frame ∨ k = Keeper.machine ∨ k = Keeper.boundFrame) ∧ Looks X.M h (keeperOf f) k
theorem keepable_K {f : Value} (hk : keepIn X.K f = true) : Keepable X f := fun h hx => keeps_K hk h hx
theorem keepable_builtin (id : String) : Keepable X (.builtin id) := fun h hx => ⟨.machine, .inr (.inl rfl), .now⟩
theorem keepable_type (T : String) : Keepable X (.type T) := fun h hx => ⟨.machine, .inr (.inl rfl), .now⟩

theorem Ok.inK {h : Heap} (O : Ok X τ h) : X.K.In h := fun a o e => O.base a o (X.inB a o e)

/-- the names of the keywords -/
noncomputable def kwNames (kws : List Keyword) : List Str := kws.filterMap (·.arg)

theorem callWith_ev {pos : Pos} {f : Value} {first : List Value} {fds : List D} {args : List Expr} {kws : List Keyword} {A : Around} {s : Shared} {E : Value → Shared → Prop} (hk : Keepable X f)
    (hall : ∀ pos, (backToKw pos (keywordEach kws env)).all (·.1.isSome) = true) (hn : ∀ pos, (backToKw pos (keywordEach kws env)).filterMap (·.1) = kwNames kws)
    (hp : ∀ pos, ((backTo pos (starEach args env)).any (·.1) || (backToKw pos (keywordEach kws env)).any (·.1.isNone)) = false)
    (hs : args = [] ∨ ∃ e rest, args = e :: rest ∧ starEach (e :: rest) env = (false, eval e env) :: starEach rest env)
    (h : Evs X n sk ρ τ args (fun ds τ₁ => Kws X n sk ρ τ₁ kws (fun ks τ₂ => (kwNames kws).length = ks.length ∧ CallV X n f (fds ++ ds) ((kwNames kws).zip ks) τ₂ Q)))
    (R : Room n A) (O : Ok X τ s.heap) (F : FrameOk X sk env ρ τ s.heap) (rf : RepAll X.C τ s.heap first fds) :
    wpAny X.M A (callWith pos f first (backTo pos (starEach args env)) (backToKw pos (keywordEach kws env))) (Post X τ s Q) E s := by
  have zipmap : ∀ (a : List Str) (b : List D), a.length = b.length → (a.zip b).map (·.1) = a ∧ (a.zip b).map (·.2) = b := fun a b h => by
    rw [List.map_fst_zip (by omega), List.map_snd_zip (by omega)]; exact ⟨rfl, rfl⟩
  have key : ∀ {vs : List Value} {s₁ : Shared} {ds : List D} {τ₁ : Store}, Kws X n sk ρ τ₁ kws (fun ks τ₂ => (kwNames kws).length = ks.length ∧ CallV X n f (fds ++ ds) ((kwNames kws).zip ks) τ₂ Q) → RepAll X.C τ₁ s₁.heap vs ds → Ok X τ₁ s₁.heap →
      Steps τ s.heap τ₁ s₁.heap → s₁.os = s.os → s₁.gens = s.gens → wpAny X.M A (evalAll ((backToKw pos (keywordEach kws env)).map (·.2)))
        (fun ks s₂ => X.K.In s₂.heap ∧ wpAny X.M A (call f (first ++ vs) (((backToKw pos (keywordEach kws env)).filterMap (·.1)).zip ks)) (Post X τ s Q) E s₂) E s₁ := by
    intro vs s₁ ds τ₁ q rs O₁ S₁ o₁ g₁
    refine wpAny_mono (q env A s₁ E pos R O₁ (F.step S₁)) (fun ws s₂ Z => ?_) fun _ _ e => e
    obtain ⟨ks, τ₂, ⟨hl, q⟩, rw', O₂, S₂, o₂, g₂⟩ := Z
    refine ⟨O₂.inK, ?_⟩
    rw [hn]
    have z := zipmap (kwNames kws) ks hl
    have c := q A s₂ E (first ++ vs) ws R O₂ ((rf.step (S₁.trans S₂)).append (rs.step S₂)) (by rw [z.2]; exact rw')
    rw [z.1] at c
    exact wpAny_mono c (fun _ _ P => P.trans (S₁.trans S₂) (o₂.trans o₁) (g₂.trans g₁)) fun _ _ e => e
  rcases hs with rfl | ⟨e, rest, rfl, he⟩
  · refine callWith_of (hp pos) (P := X.K.In) (fun h hx => hk h hx) (evalArgs_kw2_nil (hall pos) ?_)
    have step : wpAny X.M A (spliced (backTo pos (starEach [] env))) (fun vs s₁ => vs = [] → wpAny X.M A (evalAll ((backToKw pos (keywordEach kws env)).map (·.2)))
        (fun ks s₂ => X.K.In s₂.heap ∧ wpAny X.M A (call f (first ++ []) (((backToKw pos (keywordEach kws env)).filterMap (·.1)).zip ks)) (Post X τ s Q) E s₂) E s₁) E s := by
      refine wpAny_mono (h env A s E pos R O F) (fun vs s₁ Z e => ?_) fun _ _ e => e
      obtain ⟨ds, τ₁, q, rs, O₁, S₁, o₁, g₁⟩ := Z
      subst e
      exact key q rs O₁ S₁ o₁ g₁
    have e0 : spliced (backTo pos (starEach [] env)) = pure [] := rfl
    rw [e0] at step
    exact fun Γ p hΓ => step Γ p hΓ rfl Γ p hΓ
  · refine callWith_of (hp pos) (P := X.K.In) (fun h hx => hk h hx) (evalArgs_kw2 (hall pos) ?_ he)
    refine wpAny_mono (h env A s E pos R O F) (fun vs s₁ Z => ?_) fun _ _ e => e
    obtain ⟨ds, τ₁, q, rs, O₁, S₁, o₁, g₁⟩ := Z
    exact key q rs O₁ S₁ o₁ g₁

/-- whether the arguments are plain -/
noncomputable def plainArgs : List Expr → Bool
  | [] => true
  | .Starred .. :: _ => false
  | _ :: r => plainArgs r
noncomputable def plainKws : List Keyword → Bool
  | [] => true
  | ⟨some _, _, _⟩ :: r => plainKws r
  | ⟨none, _, _⟩ :: _ => false

theorem starEach_plain {e : Expr} {rest : List Expr} (h : plainArgs (e :: rest) = true) : starEach (e :: rest) env = (false, eval e env) :: starEach rest env := by
  cases e <;> first | rfl | exact (Bool.false_ne_true h).elim
theorem plainArgs_tail {e : Expr} {rest : List Expr} (h : plainArgs (e :: rest) = true) : plainArgs rest = true := by
  cases e <;> first | exact h | exact (Bool.false_ne_true h).elim
theorem backTo_plain : ∀ {args : List Expr} (h : plainArgs args = true) (pos : Pos), (backTo pos (starEach args env)).any (·.1) = false
  | [], _, _ => rfl
  | e :: rest, h, pos => by
    rw [starEach_plain h]
    show (false || (backTo pos (starEach rest env)).any (·.1)) = false
    rw [backTo_plain (plainArgs_tail h) pos]; rfl
theorem kws_plain : ∀ {kws : List Keyword} (h : plainKws kws = true) (pos : Pos), (backToKw pos (keywordEach kws env)).all (·.1.isSome) = true ∧ (backToKw pos (keywordEach kws env)).filterMap (·.1) = kwNames kws ∧ (backToKw pos (keywordEach kws env)).any (·.1.isNone) = false
  | [], _, _ => ⟨rfl, rfl, rfl⟩
  | ⟨some x, v, p⟩ :: rest, h, pos => by
    obtain ⟨a, b, c⟩ := kws_plain (kws := rest) h pos
    refine ⟨?_, ?_, ?_⟩
    · show (true && (backToKw pos (keywordEach rest env)).all (·.1.isSome)) = true
      rw [a]; rfl
    · show x :: (backToKw pos (keywordEach rest env)).filterMap (·.1) = x :: kwNames rest
      rw [b]
    · show (false || (backToKw pos (keywordEach rest env)).any (·.1.isNone)) = false
      rw [c]; rfl
  | ⟨none, _, _⟩ :: rest, h, pos => (Bool.false_ne_true h).elim

theorem callWith_plain {pos : Pos} {f : Value} {first : List Value} {fds : List D} {args : List Expr} {kws : List Keyword} {A : Around} {s : Shared} {E : Value → Shared → Prop} (hk : Keepable X f) (ha : plainArgs args = true) (hw : plainKws kws = true)
    (h : Evs X n sk ρ τ args (fun ds τ₁ => Kws X n sk ρ τ₁ kws (fun ks τ₂ => (kwNames kws).length = ks.length ∧ CallV X n f (fds ++ ds) ((kwNames kws).zip ks) τ₂ Q)))
    (R : Room n A) (O : Ok X τ s.heap) (F : FrameOk X sk env ρ τ s.heap) (rf : RepAll X.C τ s.heap first fds) :
    wpAny X.M A (callWith pos f first (backTo pos (starEach args env)) (backToKw pos (keywordEach kws env))) (Post X τ s Q) E s :=
  callWith_ev hk (fun p => (kws_plain hw p).1) (fun p => (kws_plain hw p).2.1) (fun p => by rw [backTo_plain ha, (kws_plain hw p).2.2]; rfl)
    (by cases args with
        | nil => exact .inl rfl
        | cons e rest => exact .inr ⟨e, rest, rfl, starEach_plain ha⟩) h R O F rf

/-- a call of a name -/
theorem ev_call {id : Str} {p pos : Pos} {args : List Expr} {kws : List Keyword} {f : Value} (ha : plainArgs args = true) (hw : plainKws kws = true)
    (hf : ∀ {Q' : D → Store → Prop}, Q' (.val f) τ → Ev X n sk ρ τ (.Name id p) Q') (hk : Keepable X f)
    (h : Evs X n sk ρ τ args (fun ds τ₁ => Kws X n sk ρ τ₁ kws (fun ks τ₂ => (kwNames kws).length = ks.length ∧ CallV X n f ds ((kwNames kws).zip ks) τ₂ Q))) : Ev X n sk ρ τ (.Call (.Name id p) args kws pos) Q := fun env A s E R O F => by
  rw [arm_eval_Call_Name']
  refine wpAny_bind ((hf (Q' := fun d τ' => d = .val f ∧ τ' = τ) ⟨rfl, rfl⟩).then R O F fun v s₁ d τ₁ q r O₁ F₁ S₁ o₁ g₁ => ?_)
  obtain ⟨rfl, rfl⟩ := q
  obtain rfl := r.val_inv
  exact wpAny_mono (callWith_plain (fds := []) hk ha hw h R O₁ F₁ .nil) (fun _ _ P => P.trans S₁ o₁ g₁) fun _ _ e => e

/-- what a name behind a dot is, for a call -/
noncomputable def GM (X : Cx) (n : Nat) (d : D) (name : Str) (τ : Store) (f : Value) : Prop :=
  Keepable X f ∧ ∀ A s E pl ov (Q : Value × List Value → Shared → Prop), Room n A → Ok X τ s.heap → Rep X.C τ s.heap ov d → (∀ tk, Q (f, [ov]) { s with toks := tk }) → wpAny X.M A (getMethod ov name pl) Q E s

/-- a call of a method -/
theorem ev_meth {o : Expr} {name : Str} {apos pos : Pos} {args : List Expr} {kws : List Keyword} (ha : plainArgs args = true) (hw : plainKws kws = true) (hl : (apos.endLine == pos.line) = true)
    (hb : ∀ env, attributeBase o name env (eval o env) = eval o env) (hz : decide (args.length + kws.length + (if kws.isEmpty then 0 else 1) < 30) = true)
    (h : Ev X n sk ρ τ o (fun d τ₁ => ∃ f, GM X n d name τ₁ f ∧ Evs X n sk ρ τ₁ args (fun ds τ₂ => Kws X n sk ρ τ₂ kws (fun ks τ₃ => (kwNames kws).length = ks.length ∧ CallV X n f (d :: ds) ((kwNames kws).zip ks) τ₃ Q)))) :
    Ev X n sk ρ τ (.Call (.Attribute o name apos) args kws pos) Q := fun env A s E R O F => by
  rw [arm_eval_Call, hb env]
  refine wpAny_bind (h.then R O F fun ov s₁ d τ₁ q r O₁ F₁ S₁ o₁ g₁ => wpAny_bind (wpAny_standAt ?_))
  obtain ⟨f, ⟨hk, gm⟩, q⟩ := q
  have klen : (keywordEach kws env).length = kws.length := by
    clear q hw hz h
    induction kws with
    | nil => rfl
    | cons k r ih => obtain ⟨a, b, c⟩ := k; show (keywordEach r env).length + 1 = _; rw [ih]; rfl
  have hform : methodCallForm (args.length + kws.length) (backTo pos (starEach args env)) (backToKw pos (keywordEach kws env)) = true := by
    unfold methodCallForm
    have e1 : (backTo pos (starEach args env)).all (fun x => !x.1) = true := by
      have := backTo_plain (env := env) ha pos
      rw [List.all_eq_not_any_not]
      simpa using this
    have e3 : (backToKw pos (keywordEach kws env)).isEmpty = kws.isEmpty := by
      unfold backToKw
      cases kws with
      | nil => rfl
      | cons k r => obtain ⟨a, b, c⟩ := k; rfl
    rw [e1, (kws_plain hw pos).1, e3]
    exact hz
  have hpos : methodCallPos true o env apos pos = pure pos := by unfold methodCallPos; simp [hl]
  unfold methodCall
  rw [hform]
  refine wpAny_bind (wpAny_holding ?_)
  refine gm A s₁ E _ ov _ R O₁ r fun tk => ?_
  refine wpAny_bind (wpAny_of_eq hpos ?_)
  exact wpAny_mono (callWith_plain (s := { s₁ with toks := tk }) (fds := [d]) hk ha hw q R O₁ F₁ (.cons r .nil)) (fun _ _ P => Post.trans (s := s) (s₁ := { s₁ with toks := tk }) S₁ o₁ g₁ P) fun _ _ e => e
end
end

section
section
variable {X : Cx} {n : Nat} {sk : Sk} {env : Env} {ρ : Str → Option D} {τ : Store} {Q : D → Store → Prop}
/-- data whose type reads items by a built-in -/
noncomputable def GI (τ : Store) (d : D) : Prop := match d with
  | .str _ | .bytes _ | .tuple _ | .list _ => True
  | .own a => (τ a).isSome = true
  | _ => False

theorem GI.at {h : Heap} {s : Shared} {d : D} {v : Value} (g : GI τ d) (O : Ok X τ s.heap) (r : Rep X.C τ s.heap v d) : ∃ T id, typeLookup (.type T) "__getitem__" = pure (some (.builtin id)) ∧ s.TypeIs v T := by
  cases d with
  | str x => obtain ⟨_, rfl⟩ := r.inv; exact ⟨"str", _, F.slot_str_getitem.lookup, typeIs_str _ _ _⟩
  | bytes x => obtain ⟨_, rfl⟩ := r.inv; exact ⟨"bytes", _, FB.slot_bytes_getitem.lookup, typeIs_bytes _ _ _⟩
  | tuple ds =>
    obtain ⟨_, _, _, rfl, o, e, r⟩ := r.inv
    exact ⟨"tuple", _, slot_tuple_getitem.lookup, ⟨_, e, rfl⟩⟩
  | list ds =>
    obtain ⟨_, _, _, rfl, o, e, r⟩ := r.inv
    exact ⟨"list", _, slot_list_getitem.lookup, ⟨_, e, rfl⟩⟩
  | own a =>
    obtain rfl := r.own_inv
    obtain ⟨ds, hd⟩ := Option.isSome_iff_exists.mp g
    obtain ⟨vs, k, hv, r⟩ := O.store a ds hd
    exact ⟨"list", _, slot_list_getitem.lookup, ⟨_, hv, rfl⟩⟩
  | _ => exact g.elim

theorem ev_sub {value slice : Expr} {pos : Pos} (h : Ev X n sk ρ τ value (fun a τ₁ => Ev X n sk ρ τ₁ slice (fun i τ₂ => GI τ₂ a ∧ T2 X n getItem a i τ₂ Q))) : Ev X n sk ρ τ (.Subscript value slice pos) Q := fun env A s E R O F => by
  refine Subscript_ (h.then R O F fun va s₁ a τ₁ q ra O₁ F₁ S₁ o₁ g₁ => q.then R O₁ F₁ fun vi s₂ i τ₂ q ri O₂ F₂ S₂ o₂ g₂ => ?_)
  obtain ⟨g, q⟩ := q
  obtain ⟨T, id, hl, hT⟩ := g.at (h := s₂.heap) O₂ (ra.step S₂)
  unfold subscriptTail
  refine wpAny_bind ?_
  rw [getitemInPython_of_ne hT.not_modules]
  refine wpAny_bind (wpAny_specialOf hT hl ?_)
  have main : wpAny X.M A (getItem va vi) (fun r s₃ => wpAny X.M A (letTemporaryGo value va r >>= fun _ => pure r) (Post X τ s Q) E s₃) E s₂ :=
    wpAny_mono (q A s₂ E va vi R O₂ (ra.step S₂) ri) (fun r s₃ P => wpAny_bind (wpAny_letTemporaryGo (wpAny_pure (P.trans (S₁.trans S₂) (o₂.trans o₁) (g₂.trans g₁))))) fun _ _ e => e
  have fin : wpAny X.M A (subscripted slice false va vi) (fun r s₃ => wpAny X.M A (letTemporaryGo value va r >>= fun _ => pure r) (Post X τ s Q) E s₃) E s₂ := by
    cases slice with
    | Slice lo hi st p =>
      cases st with
      | none => exact wpAny_operating main
      | some st => exact wpAny_operating main
    | _ => exact wpAny_operating main
  first
    | exact wpAny_pure (wpAny_bind fin)
    | exact wpAny_bind (wpAny_pure (wpAny_bind fin))
    | exact wpAny_bind fin

/-- the place that an index names -/
theorem t2_item {ds : List D} {a : D} {i : Int} {j : Nat} {d : D} (L : IsL τ a ds) (hlo : -(2 ^ 63) ≤ i) (hhi : i < 2 ^ 63) (hj : seqIndex? i ds.length = some j) (hd : ds[j]? = some d) (h : Q d τ) : T2 X n getItem a (.int i) τ Q := fun A s E va vb R O ra rb => by
  obtain ⟨l, vs, k, rfl, hv, r⟩ := L.at O ra
  obtain ⟨_, rfl⟩ := rb.inv
  obtain ⟨v, hv', rv⟩ := r.get hd
  have hl : s.heap.IsList l vs.toArray := ⟨_, hv, rfl, k, rfl⟩
  unfold seqIndex? at hj
  by_cases h0 : i < 0
  · rw [if_pos h0] at hj
    simp only at hj
    split at hj
    · rename_i hb
      simp only [Bool.and_eq_true, decide_eq_true_eq] at hb
      cases hj
      refine wpAny_getItem_list_neg hl h0 ?_ hlo (x := v) ?_ (Post.here O h rv rfl rfl rfl)
      · rw [List.size_toArray, r.length]; omega
      · rw [List.size_toArray, r.length, List.getElem?_toArray]; exact hv'
    · cases hj
  · rw [if_neg h0] at hj
    simp only at hj
    split at hj
    · cases hj
      exact wpAny_getItem_list hl (by omega) hhi (x := v) (by rw [List.getElem?_toArray]; exact hv') (Post.here O h rv rfl rfl rfl)
    · cases hj
theorem t2_itemT {ds : List D} {i : Int} {j : Nat} {d : D} (hlo : -(2 ^ 63) ≤ i) (hhi : i < 2 ^ 63) (hj : seqIndex? i ds.length = some j) (hd : ds[j]? = some d) (h : Q d τ) : T2 X n getItem (.tuple ds) (.int i) τ Q := fun A s E va vb R O ra rb => by
  obtain ⟨_, rfl⟩ := rb.inv
  obtain ⟨t, vs, k, rfl, o, e, r⟩ := ra.inv
  obtain ⟨v, hv', rv⟩ := r.get hd
  exact PyProof.Rows.getItem_tuple (items := vs.toArray) ⟨_, e, rfl, k, rfl⟩ hlo hhi (by rw [List.size_toArray, r.length]; exact hj) (by rw [List.getElem?_toArray]; exact hv') (Post.here O h rv rfl rfl rfl)
theorem t2_itemS {x : Str} {i : Int} {c : Nat} (hlo : -(2 ^ 63) ≤ i) (hhi : i < 2 ^ 63) (hc : (seqIndex? i x.length).bind (x.cps[·]?) = some c) (h : Q (.str ⟨#[c]⟩) τ) : T2 X n getItem (.str x) (.int i) τ Q := fun A s E va vb R O ra rb => by
  obtain ⟨_, rfl⟩ := ra.inv; obtain ⟨_, rfl⟩ := rb.inv
  exact PyProof.Rows.getItem_str (by simp only [Bool.or_eq_false_iff, decide_eq_false_iff_not]; omega) hc (Post.here O h (.str _ _) rfl rfl rfl)

/-- the part of a list that a slice names -/
noncomputable def pick {α : Type} (ds : List α) (lo hi st : Option Int) : List α :=
  (sliceRange (sliceBounds lo hi st ds.length).1 (sliceBounds lo hi st ds.length).2.1 (sliceBounds lo hi st ds.length).2.2).filterMap (ds[·]?)

theorem RepAll.places {C : Addr} {h : Heap} {vs : List Value} {ds : List D} (r : RepAll C τ h vs ds) : ∀ js : List Nat, RepAll C τ h (js.filterMap (vs[·]?)) (js.filterMap (ds[·]?))
  | [] => .nil
  | j :: js => by
    have ih := RepAll.places r js
    cases hn : ds[j]? with
    | some d =>
      obtain ⟨v, hv, rv⟩ := r.get hn
      simp only [List.filterMap_cons, hn, hv]
      exact .cons rv ih
    | none =>
      have hv : vs[j]? = none := by
        rw [List.getElem?_eq_none_iff] at hn ⊢
        rw [r.length]; exact hn
      simp only [List.filterMap_cons, hn, hv]
      exact ih

theorem t2_slice {ds : List D} {a : D} {lo hi st : Option Int} (L : IsL τ a ds) (h0 : st ≠ some 0) (hsz : ds.length ≤ sizeLine) (h : Q (.list (pick ds lo hi st)) τ) : T2 X n getItem a (.slc lo hi st) τ Q := fun A s E va vb R O ra rb => by
  obtain ⟨l, vs, k, rfl, hv, r⟩ := L.at O ra
  obtain ⟨_, _, _, _, rfl, o, e, pl, pu, pk⟩ := rb.inv
  have hl : s.heap.IsList l vs.toArray := ⟨_, hv, rfl, k, rfl⟩
  refine wpAny_getItem_list_slice hl ⟨_, e, rfl, rfl⟩ pl pu pk h0 ?_ (by rw [List.size_toArray, r.length]; exact hsz)
  have e : slicePick vs.toArray lo hi st = ((sliceRange (sliceBounds lo hi st ds.length).1 (sliceBounds lo hi st ds.length).2.1 (sliceBounds lo hi st ds.length).2.2).filterMap (vs[·]?)).toArray := by
    simp [slicePick, r.length]
  rw [e]
  exact Post.new (tk := s.toks) O h (rep_newList O (r.places _))
theorem t2_sliceB {b : Array UInt8} {lo hi : Option Int} (hsz : b.size ≤ sizeLine) (h : Q (.bytes (KBy.picked b lo hi)) τ) : T2 X n getItem (.bytes b) (.slc lo hi none) τ Q := fun A s E va vb R O ra rb => by
  obtain ⟨_, rfl⟩ := ra.inv
  obtain ⟨_, _, _, _, rfl, o, e, pl, pu, pk⟩ := rb.inv
  cases pk
  exact getItem_meets (typeIs_bytes _ _ _) (by decide) FB.slot_bytes_getitem FB.entry_bytes_getitem (FB.args_bytes_getitem_2 _ _) (KBc.meets_slice2 b _ _ pl pu)
    ⟨⟨_, e, rfl, rfl⟩, Nat.le_trans (KBc.size_picked_le b lo hi) hsz, fun t' k => Post.here O h (.bytes _ _) rfl rfl rfl⟩
theorem t2_addb {b c : Array UInt8} (hsz : b.size + c.size ≤ 16777216) (h : Q (.bytes (b ++ c)) τ) : T2 X n (binaryOp .Add) (.bytes b) (.bytes c) τ Q := fun A s E va vb R O ra rb => by
  obtain ⟨_, rfl⟩ := ra.inv; obtain ⟨_, rfl⟩ := rb.inv
  exact KBy.add_bytes hsz fun t' k => Post.here O h (.bytes _ _) rfl rfl rfl

/-- a part of a slice: nothing, or an int -/
noncomputable def EvO (X : Cx) (n : Nat) (sk : Sk) (ρ : Str → Option D) (τ : Store) (e : Option Expr) (Q : Option Int → Store → Prop) : Prop := match e with
  | none => Q none τ
  | some e => Ev X n sk ρ τ e (fun d τ₁ => ∃ i, d = .int i ∧ Q (some i) τ₁)

theorem EvO.then {e : Option Expr} {Q : Option Int → Store → Prop} {A : Around} {s : Shared} {E : Value → Shared → Prop} (h : EvO X n sk ρ τ e Q) (R : Room n A) (O : Ok X τ s.heap) (F : FrameOk X sk env ρ τ s.heap) {K : Value → Shared → Prop}
    (k : ∀ v s' p τ', Q p τ' → IsPart v p → Ok X τ' s'.heap → FrameOk X sk env ρ τ' s'.heap → Steps τ s.heap τ' s'.heap → s'.os = s.os → s'.gens = s.gens → K v s') : wpAny X.M A (valueOrNone (evalOpt e env)) K E s := by
  cases e with
  | none => exact wpAny_pure (k .none s none τ h .none O F (.refl _ _) rfl rfl)
  | some e =>
    show wpAny _ _ (eval e env) _ _ _
    refine Ev.then h R O F fun v s₁ d τ₁ q r O₁ F₁ S₁ o₁ g₁ => ?_
    obtain ⟨i, rfl, q⟩ := q
    obtain ⟨t, rfl⟩ := r.inv
    exact k _ s₁ _ τ₁ q (.int i t) O₁ F₁ S₁ o₁ g₁

theorem ev_slice {l u st : Option Expr} {pos : Pos} (h : EvO X n sk ρ τ l (fun lo τ₁ => EvO X n sk ρ τ₁ u (fun hi τ₂ => EvO X n sk ρ τ₂ st (fun k τ₃ => Q (.slc lo hi k) τ₃)))) : Ev X n sk ρ τ (.Slice l u st pos) Q := fun env A s E R O F => by
  show wpAny _ _ (do
    let a ← valueOrNone (evalOpt l env)
    let b ← holding [a] (valueOrNone (evalOpt u env))
    let c ← holding [a, b] (valueOrNone (evalOpt st env))
    newFields "slice" [a, b, c]) _ _ _
  refine wpAny_bind (EvO.then h R O F fun vl s₁ lo τ₁ q pl O₁ F₁ S₁ o₁ g₁ => wpAny_bind (wpAny_holding (EvO.then q R O₁ F₁ fun vu s₂ hi τ₂ q pu O₂ F₂ S₂ o₂ g₂ => wpAny_bind (wpAny_holding (EvO.then q R O₂ F₂ fun vk s₃ k τ₃ q pk O₃ F₃ S₃ o₃ g₃ => ?_)))))
  show wpAny _ _ (newObj (.type "slice") (.fields [vl, vu, vk].toArray)) _ _ _
  refine wpAny_newObj_type ?_ (by show 3 ≤ sizeLine + 2; decide)
  exact (Post.new (tk := s₃.toks) O₃ q (.slc O₃.offNew (Heap.get?_push_size _ rfl) pl pu pk)).trans ((S₁.trans S₂).trans S₃) (o₃.trans (o₂.trans o₁)) (g₃.trans (g₂.trans g₁))
end
end

section
/-- the numbers of a range -/
noncomputable def rngD (a : Int) (k : Nat) : List D := (List.range k).map fun (j : Nat) => D.int (a + j)

/-- what a for goes over: its items, and the list of one's own that must stand -/
inductive Items (τ : Store) : D → List D → Option Addr → Prop
  | list (ds : List D) : Items τ (.list ds) ds none
  | own {a : Addr} {ds : List D} : τ a = some ds → Items τ (.own a) ds (some a)
  | rng {a b : Int} {k : Nat} : b - a = k ∨ (k = 0 ∧ b ≤ a) → -1000000 ≤ a → a ≤ 1000000 → b ≤ 1000000 → -1000000 ≤ b → Items τ (.rng a b) (rngD a k) none

/-- the place of an iterator -/
noncomputable def Cur (X : Cx) (I : Addr) (full : List D) (ow : Option Addr) (i : Nat) (τ : Store) (h : Heap) : Prop :=
  τ I = none ∧ X.hB.get? I = none ∧ ((∃ ax vs k, h.IsListIter I ax i ∧ ax ≠ I ∧ h.get? ax = some (lstO vs k) ∧ RepAll X.C τ h vs full ∧ (match ow with | none => τ ax = none | some a => a = ax ∧ τ ax = some full)) ∨
    (ow = none ∧ ∃ a : Int, full = rngD a full.length ∧ IsRangeIter h I (a + i) ((full.length : Int) - i) 1))

theorem rngD_get {a : Int} {k i : Nat} {d : D} (h : (rngD a k)[i]? = some d) : d = .int (a + i) := by
  unfold rngD at h
  rw [List.getElem?_map] at h
  obtain ⟨x, hx, rfl⟩ := Option.map_eq_some_iff.mp h
  rw [List.getElem?_range (by
    have := (List.getElem?_eq_some_iff.mp hx).1
    simpa using this)] at hx
  cases hx; rfl
theorem rngD_length {a : Int} {k : Nat} : (rngD a k).length = k := by simp [rngD]

section
variable {X : Cx} {n : Nat} {sk : Sk} {env : Env} {ρ ρ' : Str → Option D} {τ τ' τ₁ τ₂ : Store} {I : Addr} {full : List D} {ow : Option Addr} {i : Nat}

theorem Cur.step {h h' : Heap} (c : Cur X I full ow i τ h) (S : Steps τ h τ' h') (O : Ok X τ' h') (k : ∀ a, ow = some a → τ' a = some full) : Cur X I full ow i τ' h' := by
  obtain ⟨hI, hN, ⟨ax, vs, m, ⟨o, ho, hc, hd⟩, hne, hv, r, hw⟩ | ⟨rfl, a, ha, hr⟩⟩ := c
  · refine ⟨S.off ho hI, hN, .inl ?_⟩
    cases ow with
    | none => exact ⟨ax, vs, m, ⟨o, S.keep _ _ ho hI, hc, hd⟩, hne, S.keep _ _ hv hw, r.step S, S.off hv hw⟩
    | some a =>
      obtain ⟨rfl, _⟩ := hw
      have q := k a rfl
      obtain ⟨ws, m', hv', r'⟩ := O.store a full q
      exact ⟨a, ws, m', ⟨o, S.keep _ _ ho hI, hc, hd⟩, hne, hv', r', rfl, q⟩
  · exact ⟨S.off hr hI, hN, .inr ⟨rfl, a, ha, S.keep _ _ hr hI⟩⟩

theorem Cur.notFr {h : Heap} (c : Cur X I full ow i τ h) (F : FrameOk X sk env ρ τ h) : ¬ InFr env I := by
  obtain ⟨hI, hN, ⟨ax, vs, m, ⟨o, ho, hc, hd⟩, hne, hv, r, hw⟩ | ⟨rfl, a, ha, hr⟩⟩ := c
  · exact notFr_tup F ho (fun _ _ q => by rw [hd] at q; cases q) fun _ q => by rw [hd] at q; cases q
  · exact notFr_tup F hr (fun _ _ q => by cases q) fun _ q => by cases q

theorem Cur.stepF {h h' : Heap} (c : Cur X I full ow i τ h) (F : FrameOk X sk env ρ τ h) (S : StepsF env τ h τ' h') (O : Ok X τ' h') (k : ∀ a, ow = some a → τ' a = some full) : Cur X I full ow i τ' h' := by
  have nf := c.notFr F
  obtain ⟨hI, hN, ⟨ax, vs, m, ⟨o, ho, hc, hd⟩, hne, hv, r, hw⟩ | ⟨rfl, a, ha, hr⟩⟩ := c
  · refine ⟨S.off ho hI, hN, .inl ?_⟩
    cases ow with
    | none => exact ⟨ax, vs, m, ⟨o, S.keep _ _ ho hI nf, hc, hd⟩, hne, S.keep _ _ hv hw (notFr_tup F hv (fun _ _ q => by cases q) fun _ q => by cases q), r.stepF F S, S.off hv hw⟩
    | some a =>
      obtain ⟨rfl, _⟩ := hw
      have q := k a rfl
      obtain ⟨ws, m', hv', r'⟩ := O.store a full q
      exact ⟨a, ws, m', ⟨o, S.keep _ _ ho hI nf, hc, hd⟩, hne, hv', r', rfl, q⟩
  · exact ⟨S.off hr hI, hN, .inr ⟨rfl, a, ha, S.keep _ _ hr hI nf⟩⟩

/-- only the iterator has changed, and new objects -/
structure Bump (X : Cx) (I : Addr) (τ : Store) (h h' : Heap) : Prop where
  keep : ∀ b o, b ≠ I → h.get? b = some o → h'.get? b = some o

theorem Rep.seqOff {C : Addr} {h h' : Heap} {I : Addr} (k : ∀ b o, b ≠ I → h.get? b = some o → h'.get? b = some o) {oI : Obj} (hI : h.get? I = some oI) (hn : (∃ T, oI.cls = .type T ∧ T ≠ "tuple" ∧ T ≠ "list" ∧ T ≠ "dict" ∧ T ≠ "range" ∧ T ≠ "slice")) :
    (∀ {v : Value} {d : D}, Rep C τ h v d → Rep C τ h' v d) ∧ ∀ {vs : List Value} {ds : List D}, RepAll C τ h vs ds → RepAll C τ h' vs ds := by
  obtain ⟨T, hT, n1, n2, n3, n4, n5⟩ := hn
  refine Rep.carry_both fun b o e q B => ⟨k b o (fun z => ?_) e, q⟩
  subst z
  rw [e] at hI; cases hI
  cases B with
  | tup => cases hT; exact n1 rfl
  | lst => cases hT; exact n2 rfl
  | ins => cases hT
  | dic => cases hT; exact n3 rfl
  | rng => cases hT; exact n4 rfl
  | slc => cases hT; exact n5 rfl
end
end

section
structure Bmp (X : Cx) (I : Addr) (h h' : Heap) : Prop where
  keep : ∀ b o, b ≠ I → h.get? b = some o → h'.get? b = some o
  iter : ∃ oI T vs, h.get? I = some oI ∧ oI.cls = .type T ∧ oI.data = .fields vs ∧ T ≠ "tuple" ∧ T ≠ "list" ∧ T ≠ "dict" ∧ T ≠ "range" ∧ T ≠ "slice"
  new : X.hB.get? I = none

section
variable {X : Cx} {n : Nat} {sk : Sk} {env : Env} {ρ ρ' : Str → Option D} {τ τ' τ₀ τ₁ τ₂ : Store} {I : Addr} {full : List D} {ow : Option Addr} {i : Nat} {h h' h₀ : Heap}

theorem Bmp.rep (B : Bmp X I h h') {C : Addr} : (∀ {v : Value} {d : D}, Rep C τ h v d → Rep C τ h' v d) ∧ ∀ {vs : List Value} {ds : List D}, RepAll C τ h vs ds → RepAll C τ h' vs ds := by
  obtain ⟨oI, T, vs, h1, h2, h3, n1, n2, n3, n4, n5⟩ := B.iter
  exact Rep.seqOff B.keep h1 ⟨T, h2, n1, n2, n3, n4, n5⟩
theorem Bmp.ok (B : Bmp X I h h') (O : Ok X τ h) : Ok X τ h' where
  base := fun b o e => B.keep b o (by rintro rfl; rw [B.new] at e; cases e) (O.base b o e)
  off := O.off
  store := fun a ds e => by
    obtain ⟨vs, k, hv, r⟩ := O.store a ds e
    obtain ⟨oI, T, ws, h1, h2, h3, n1, n2, n3⟩ := B.iter
    exact ⟨vs, k, B.keep _ _ (by rintro rfl; rw [hv] at h1; cases h1; cases h2; exact n2 rfl) hv, B.rep.2 r⟩
theorem Bmp.frame (B : Bmp X I h h') (F : FrameOk X sk env ρ τ h) : FrameOk X sk env ρ τ h' where
  stat := F.stat
  kind := F.kind
  glob := F.glob
  bui := F.bui
  ns := by
    obtain ⟨m, ⟨o, es, ep, ho, hd, r⟩, hm, k⟩ := F.ns
    obtain ⟨oI, T, ws, h1, h2, h3, _⟩ := B.iter
    exact ⟨m, ⟨o, es, ep, B.keep _ _ (by rintro rfl; rw [ho] at h1; cases h1; rw [hd] at h3; cases h3) ho, hd, r⟩, hm, fun x d e l => let ⟨v, a, b⟩ := k x d e l; ⟨v, a, B.rep.1 b⟩⟩
  cells := fun x c e => by
    obtain ⟨v, ⟨o, ho, hd⟩, k⟩ := F.cells x c e
    obtain ⟨oI, T, ws, h1, h2, h3, _⟩ := B.iter
    exact ⟨v, ⟨o, B.keep _ _ (by rintro rfl; rw [ho] at h1; cases h1; rw [hd] at h3; cases h3) ho, hd⟩, fun d l q => let ⟨u, a, b⟩ := k d l q; ⟨u, a, B.rep.1 b⟩⟩
  offL := F.offL
  offC := F.offC
  newL := F.newL
  newC := F.newC
  apart := F.apart
theorem Bmp.steps (B : Bmp X I h h') (S : StepsF env τ₀ h₀ τ h) (hf : h₀.get? I = none) : StepsF env τ₀ h₀ τ h' :=
  ⟨fun b o e k i => B.keep b o (by rintro rfl; rw [hf] at e; cases e) (S.keep b o e k i), S.doms⟩
theorem cur_next {A : Around} {s : Shared} {E : Value → Shared → Prop} {Q : Option Value → Shared → Prop} {d : D} (c : Cur X I full ow i τ s.heap) (hd : full[i]? = some d)
    (q : ∀ v h' tk, Rep X.C τ h' v d → Cur X I full ow (i + 1) τ h' → Bmp X I s.heap h' → Q (some v) { s with heap := h', toks := tk }) : wpAny X.M A (pyNext (.ref I)) Q E s := by
  obtain ⟨hI, hN, ⟨ax, vs, m, hit, hne, hv, r, hw⟩ | ⟨rfl, a, ha, hr⟩⟩ := c
  · obtain ⟨v, hv', rv⟩ := r.get hd
    have hl : s.heap.IsList ax vs.toArray := ⟨_, hv, rfl, m, rfl⟩
    refine wpAny_pyNext_list_item hit hl (x := v) (by rw [List.getElem?_toArray]; exact hv') fun h' hit' hs => ?_
    obtain ⟨o, ho, hc, hdt⟩ := id hit
    have B : Bmp X I s.heap h' := ⟨fun b o hb e => (hs.2 b hb).trans e, ⟨o, "list_iterator", _, ho, hc, hdt, by decide, by decide, by decide, by decide, by decide⟩, hN⟩
    exact q v h' s.toks (B.rep.1 rv) ⟨hI, hN, .inl ⟨ax, vs, m, hit', hne, (hs.2 ax hne).trans hv, B.rep.2 r, hw⟩⟩ B
  · have hlt : i < full.length := (List.getElem?_eq_some_iff.mp hd).1
    rw [ha] at hd
    have e := rngD_get hd
    subst e
    refine wpAny_pyNext_range_item hr (by omega) fun h' hr' hs => ?_
    have B : Bmp X I s.heap h' := ⟨fun b o hb e => (hs.2 b hb).trans e, ⟨_, "range_iterator", _, hr, rfl, rfl, by decide, by decide, by decide, by decide, by decide⟩, hN⟩
    refine q _ h' _ (.int _ _) ⟨hI, hN, .inr ⟨rfl, a, ha, ?_⟩⟩ B
    have e1 : a + (i : Int) + 1 = a + ((i + 1 : Nat) : Int) := by omega
    have e2 : (full.length : Int) - i - 1 = (full.length : Int) - ((i + 1 : Nat) : Int) := by omega
    rw [e1, e2] at hr'
    exact hr'

theorem cur_done {A : Around} {s : Shared} {E : Value → Shared → Prop} {Q : Option Value → Shared → Prop} (hh : A.handled = none) (c : Cur X I full ow i τ s.heap) (hd : full[i]? = none)
    (hi : i ≤ full.length) (q : ∀ h', Bmp X I s.heap h' → Q none { s with heap := h' }) : wpAny X.M A (pyNext (.ref I)) Q E s := by
  obtain ⟨hI, hN, ⟨ax, vs, m, hit, hne, hv, r, hw⟩ | ⟨rfl, a, ha, hr⟩⟩ := c
  · have hl : s.heap.IsList ax vs.toArray := ⟨_, hv, rfl, m, rfl⟩
    refine wpAny_pyNext_list_end hh hit hl (by rw [List.getElem?_toArray]; rw [List.getElem?_eq_none_iff] at hd ⊢; rw [r.length]; exact hd) fun h' he => ?_
    obtain ⟨o, ho, hc, hdt⟩ := id hit
    exact q h' ⟨fun b o hb e => he b o hb e, ⟨o, "list_iterator", _, ho, hc, hdt, by decide, by decide, by decide, by decide, by decide⟩, hN⟩
  · rw [List.getElem?_eq_none_iff] at hd
    exact wpAny_pyNext_range_end hh hr (by omega) fun h' he => q h' ⟨fun b o hb e => he b o hb e, ⟨_, "range_iterator", _, hr, rfl, rfl, by decide, by decide, by decide, by decide, by decide⟩, hN⟩

theorem cur_start {A : Around} {s : Shared} {E : Value → Shared → Prop} {Q : Value → Shared → Prop} {d : D} {v : Value} (O : Ok X τ s.heap) (r : Rep X.C τ s.heap v d) (it : Items τ d full ow)
    (q : ∀ I h', Cur X I full ow 0 τ h' → Ok X τ h' → Steps τ s.heap τ h' → s.heap.get? I = none → Q (.ref I) { s with heap := h' }) : wpAny X.M A (pyIter v) Q E s := by
  have hNew : X.hB.get? s.heap.objs.size = none := by
    cases p : X.hB.get? s.heap.objs.size with
    | none => rfl
    | some o =>
      have := O.base _ o p
      rw [get?_size] at this; cases this
  cases it with
  | list ds =>
    obtain ⟨l, vs, k, rfl, o, e, rs⟩ := r.inv
    have hl : s.heap.IsList l vs.toArray := ⟨_, e, rfl, k, rfl⟩
    refine wpAny_pyIter_list hl (q _ _ ⟨O.offNew, hNew, .inl ⟨l, vs, k, ⟨_, Heap.get?_push_size _ rfl, rfl, rfl⟩, Nat.ne_of_lt (Heap.lt_size e), Heap.get?_push_of_some _ e, rs.step (.push _), o⟩⟩ (O.push _) (.push _) (get?_size _))
  | @own a _ ha =>
    obtain rfl := r.own_inv
    obtain ⟨vs, k, hv, rs⟩ := O.store a full ha
    have hl : s.heap.IsList a vs.toArray := ⟨_, hv, rfl, k, rfl⟩
    refine wpAny_pyIter_list hl (q _ _ ⟨O.offNew, hNew, .inl ⟨a, vs, k, ⟨_, Heap.get?_push_size _ rfl, rfl, rfl⟩, Nat.ne_of_lt (Heap.lt_size hv), Heap.get?_push_of_some _ hv, rs.step (.push _), rfl, ha⟩⟩ (O.push _) (.push _) (get?_size _))
  | @rng a b k hk h1 h2 h3 h4 =>
    obtain ⟨_, _, _, _, rfl, o, e⟩ := r.inv
    have hsz : Builtin.Range.rangeSize a b 1 = (k : Int) := by
      unfold Builtin.Range.rangeSize
      rw [if_pos (by decide)]
      rcases hk with hk | ⟨rfl, hk⟩
      · by_cases q : a < b
        · rw [if_pos q]; simp only [Int.ediv_one]; omega
        · rw [if_neg q]; omega
      · rw [if_neg (by omega)]; rfl
    have hk0 : (k : Int) ≤ 2000000 := by omega
    have hsm : Builtin.Range.small a b 1 = true := by
      unfold Builtin.Range.small
      rw [hsz]
      simp only [Builtin.Range.rangeFitsLong, Bool.and_eq_true, Bool.or_eq_true, decide_eq_true_eq]
      refine ⟨⟨⟨⟨⟨by omega, by omega⟩, by omega, by omega⟩, by decide⟩, by omega, by omega⟩, .inr ?_⟩
      rw [if_pos (by decide)]
      simp only [Bool.and_eq_true, decide_eq_true_eq]
      omega
    refine wpAny_pyIter_range e hsm ?_
    rw [hsz]
    refine q _ _ ⟨O.offNew, hNew, .inr ⟨rfl, a, by rw [rngD_length], ?_⟩⟩ (O.push _) (.push _) (get?_size _)
    rw [rngD_length]
    have e1 : a + ((0 : Nat) : Int) = a := by omega
    have e2 : (k : Int) - ((0 : Nat) : Int) = k := by omega
    rw [e1, e2]
    exact Heap.get?_push_size _ rfl

/-- names that a row of data is bound to -/
noncomputable def AsgL (sk : Sk) : List Expr → List D → (Str → Option D) → (Str → Option D) → Prop
  | [], [], ρ, ρ' => ρ' = ρ
  | e :: es, d :: ds, ρ, ρ' => ∃ x p, e = .Name x p ∧ storable sk x = true ∧ AsgL sk es ds (upd ρ x d) ρ'
  | _, _, _, _ => False
/-- what a target makes of a datum -/
noncomputable def Asg (sk : Sk) (tgt : Expr) (d : D) (ρ ρ' : Str → Option D) : Prop :=
  (∃ x p, tgt = .Name x p ∧ storable sk x = true ∧ ρ' = upd ρ x d) ∨ ∃ es k p ds, tgt = .Tuple es k p ∧ d = .tuple ds ∧ AsgL sk es ds ρ ρ'

section
variable {x y z : Str} {px py pz p : Pos} {k : Nat} {d d₁ d₂ d₃ : D}
theorem asg1 (h : storable sk x = true) : Asg sk (.Name x px) d ρ (upd ρ x d) := .inl ⟨x, px, rfl, h, rfl⟩
theorem asg2 (h : storable sk x = true) (h' : storable sk y = true) : Asg sk (.Tuple [.Name x px, .Name y py] k p) (.tuple [d₁, d₂]) ρ (upd (upd ρ x d₁) y d₂) := .inr ⟨_, _, _, _, rfl, rfl, x, px, rfl, h, y, py, rfl, h', rfl⟩
end

noncomputable def asName : Expr → Option Str
  | .Name x _ => some x
  | _ => none
noncomputable def tgtNames : Expr → List Str
  | .Name x _ => [x]
  | .Tuple es _ _ => es.filterMap asName
  | _ => []
theorem asgL_ok {A : Around} {E : Value → Shared → Prop} {Q : Unit → Shared → Prop} : ∀ {es : List Expr} {ds : List D} {vs : List Value} {ρ ρ' : Str → Option D} {s : Shared}, AsgL sk es ds ρ ρ' → Ok X τ s.heap → FrameOk X sk env ρ τ s.heap → RepAll X.C τ s.heap vs ds →
    (∀ h' tk, Ok X τ h' → FrameOk X sk env ρ' τ h' → StepsF env τ s.heap τ h' → (∀ b o, s.heap.get? b = some o → b ≠ env.locals → (∀ x ∈ es.filterMap asName, env.cells.lookup x ≠ some b) → h'.get? b = some o) → Q () { s with heap := h', toks := tk }) →
    wpAny X.M A (assignInOrder ((assignEach es env).map (·.2)) vs) Q E s
  | [], ds, vs, ρ, ρ', s, a, O, F, r, hq => by
    cases ds with
    | cons d ds => exact a.elim
    | nil =>
    have e : vs = [] := r.inv
    have a : ρ' = ρ := a
    subst e a
    exact assignInOrder_nil (hq s.heap s.toks O F (.refl _ _ _) fun _ _ e _ _ => e)
  | e :: es, ds, vs, ρ, ρ', s, a, O, F, r, hq => by
    cases ds with
    | nil => exact a.elim
    | cons d ds =>
    obtain ⟨x, px, rfl, hx, a⟩ := a
    obtain ⟨v, ws, rfl, r, rs⟩ := r.inv
    refine assignInOrder_cons ?_
    show wpAny _ _ (assign (.Name x px) env v) _ _ _
    rw [PySem.assign_Name]
    refine wpAny_bind (wpAny_standAt (bind_var O F r hx fun h₂ tk O₂ F₂ S₂ kp₂ => ?_))
    exact asgL_ok (s := { s with heap := h₂, toks := tk }) a O₂ F₂ (rs.stepF F S₂) fun h' tk' O' F' S' kp' => hq h' tk' O' F' (S₂.trans F₂ S') fun b o e n1 n2 => kp' b o (kp₂ b o e n1 (n2 x (.head _))) n1 fun y hy => n2 y (.tail _ hy)
theorem asgL_each : ∀ {es : List Expr} {ds : List D} {ρ ρ' : Str → Option D}, AsgL sk es ds ρ ρ' → (assignEach es env).length = ds.length ∧ (assignEach es env).findIdx? (·.1) = none
  | [], [], _, _, _ => ⟨rfl, rfl⟩
  | e :: es, d :: ds, _, _, a => by
    obtain ⟨x, px, rfl, hx, a⟩ := a
    obtain ⟨h1, h2⟩ := asgL_each a
    refine ⟨congrArg (· + 1) h1, ?_⟩
    have e1 : assignEach (Expr.Name x px :: es) env = (false, assign (.Name x px) env) :: assignEach es env := rfl
    rw [e1, List.findIdx?_cons, h2]
    rfl
theorem asg_ok {A : Around} {s : Shared} {E : Value → Shared → Prop} {Q : Unit → Shared → Prop} {tgt : Expr} {d : D} {v : Value} (hh : A.handled = none) (a : Asg sk tgt d ρ ρ') (O : Ok X τ s.heap) (F : FrameOk X sk env ρ τ s.heap) (r : Rep X.C τ s.heap v d)
    (hq : ∀ h' tk, Ok X τ h' → FrameOk X sk env ρ' τ h' → StepsF env τ s.heap τ h' → (∀ b o, s.heap.get? b = some o → b ≠ env.locals → (∀ x ∈ tgtNames tgt, env.cells.lookup x ≠ some b) → h'.get? b = some o) → Q () { s with heap := h', toks := tk }) : wpAny X.M A (assign tgt env v) Q E s := by
  rcases a with ⟨x, p, rfl, hk, rfl⟩ | ⟨es, k, p, ds, rfl, rfl, a⟩
  · rw [PySem.assign_Name]
    exact wpAny_bind (wpAny_standAt (bind_var O F r hk fun h' tk O' F' S' kp => hq h' tk O' F' S' fun b o e n1 n2 => kp b o e n1 (n2 _ (.head _))))
  · obtain ⟨t, vs, m, rfl, _, e, rs⟩ := r.inv
    obtain ⟨h1, h2⟩ := asgL_each (env := env) a
    refine assign_Tuple_tuple (items := vs.toArray) hh ⟨_, e, rfl, m, rfl⟩ (by rw [h1, List.size_toArray, rs.length]) h2 fun h' he => ?_
    have k' : ∀ b o, s.heap.get? b = some o → h'.get? b = some o := fun b o e => he b o (Nat.ne_of_lt (Heap.lt_size e)) e
    have S : Steps τ s.heap τ h' := ⟨fun b o e _ => k' b o e, fun _ q => .inl q⟩
    have F₁ := F.step S
    exact asgL_ok (s := { s with heap := h' }) a (O.keeps k') F₁ (rs.step S) fun h₂ tk O₂ F₂ S₂ kp => hq h₂ tk O₂ F₂ (S.toF.trans F₁ S₂) fun b o e n1 n2 => kp b o (k' b o e) n1 n2

theorem owned_go {A : Around} {s : Shared} {E : Value → Shared → Prop} {Q : Unit → Shared → Prop} {tgt : Expr} {v : Value} (c : Cur X I full ow i τ s.heap) (h : Q () s) : wpAny X.M A (letOwnedTupleGo tgt (.ref I) v) Q E s := by
  have key : ∃ o T vs, s.heap.get? I = some o ∧ o.cls = .type T ∧ o.data = .fields vs ∧ (T = "list_iterator" ∨ T = "range_iterator") := by
    obtain ⟨hI, hN, ⟨ax, vs, m, ⟨o, ho, hc, hd⟩, _⟩ | ⟨_, a, ha, hr⟩⟩ := c
    · exact ⟨o, _, _, ho, hc, hd, .inl rfl⟩
    · exact ⟨_, _, _, hr, rfl, rfl, .inr rfl⟩
  obtain ⟨o, T, vs, ho, hc, hd, hT⟩ := key
  have no : ∀ b : Bool, (["enumerate", "zip", "dict_itemiterator", "dict_reverseitemiterator", "odict_iterator", "itertools.zip_longest", "itertools.pairwise"].contains T && b) = false := fun b => by
    rcases hT with rfl | rfl <;> rfl
  have tup : wpAny X.M A (letOwnedTupleGo (.Tuple [] 0 default) (.ref I) v) Q E s := by
    cases v with
    | ref a =>
      refine wpAny_bind (wpAny_load ho ?_)
      rw [hc, hd]
      dsimp only
      rw [no, if_neg (by decide)]
      exact wpAny_pure h
    | _ => exact wpAny_pure h
  cases tgt with
  | Tuple => exact tup
  | List => exact tup
  | _ => exact wpAny_pure h

/-- the turns of a for, over what is left of its items -/
noncomputable def LoopW (X : Cx) (n : Nat) (sk : Sk) (tgt : Expr) (body : List Stmt) (full : List D) (ow : Option Addr) (Q : Fl → (Str → Option D) → Store → Prop) : List D → (Str → Option D) → Store → Prop
  | [], ρ, τ => Q .next ρ τ
  | d :: ds, ρ, τ => ∃ ρ₁, Asg sk tgt d ρ ρ₁ ∧ Ex X n sk ρ₁ τ body (fun fl ρ₂ τ₂ => match fl with
      | .next | .cont => (∀ a, ow = some a → τ₂ a = some full) ∧ LoopW X n sk tgt body full ow Q ds ρ₂ τ₂
      | .brk => Q .next ρ₂ τ₂
      | .ret d => Q (.ret d) ρ₂ τ₂)

/-- statements in a frame of which more is known -/
noncomputable def ExL (X : Cx) (n : Nat) (sk : Sk) (G : Env → Around → Store → Heap → Prop) (ρ : Str → Option D) (τ : Store) (ss : List Stmt) (Q : Fl → (Str → Option D) → Store → Prop) : Prop :=
  ∀ env A s E, Room n A → Ok X τ s.heap → FrameOk X sk env ρ τ s.heap → G env A τ s.heap → wpAny X.M A (execs ss env) (PostS X sk env τ s Q) E s
noncomputable def LoopL (X : Cx) (n : Nat) (sk : Sk) (G : Env → Around → Store → Heap → Prop) (tgt : Expr) (body : List Stmt) (full : List D) (ow : Option Addr) (Q : Fl → (Str → Option D) → Store → Prop) : List D → (Str → Option D) → Store → Prop
  | [], ρ, τ => Q .next ρ τ
  | d :: ds, ρ, τ => ∃ ρ₁, Asg sk tgt d ρ ρ₁ ∧ ExL X n sk G ρ₁ τ body (fun fl ρ₂ τ₂ => match fl with
      | .next | .cont => (∀ a, ow = some a → τ₂ a = some full) ∧ LoopL X n sk G tgt body full ow Q ds ρ₂ τ₂
      | .brk => Q .next ρ₂ τ₂
      | .ret d => Q (.ret d) ρ₂ τ₂)

noncomputable def notSet (e : Expr) : Bool := match e with
  | .Set .. => false
  | _ => true
theorem folded_not {e : Expr} (h : notSet e = true) (env : Env) (x : Value) : foldedSetIterable e env x = pure x := by
  cases e <;> first | rfl | exact nomatch h

/-- what holds ahead of a turn -/
inductive ForI (X : Cx) (n : Nat) (sk : Sk) (G : Env → Around → Store → Heap → Prop) (tgt : Expr) (body : List Stmt) (full : List D) (ow : Option Addr) (Q : Fl → (Str → Option D) → Store → Prop) (I : Addr) (env : Env) (τ₁ : Store) (s₁ s : Shared) (m : Nat) (s' : Shared) : Prop
  | intro (i : Nat) (ρ' : Str → Option D) (τ' : Store) : m = full.length + 1 - i → i ≤ full.length → Cur X I full ow i τ' s'.heap → Ok X τ' s'.heap → FrameOk X sk env ρ' τ' s'.heap → StepsF env τ₁ s₁.heap τ' s'.heap → s'.os = s.os → s'.gens = s.gens →
      LoopL X n sk G tgt body full ow Q (full.drop i) ρ' τ' → ForI X n sk G tgt body full ow Q I env τ₁ s₁ s m s'
theorem ex_forL {G : Env → Around → Store → Heap → Prop} (hG : ∀ env A ρ τ h ρ' τ' h', FrameOk X sk env ρ τ h → G env A τ h → StepsF env τ h τ' h' → FrameOk X sk env ρ' τ' h' → G env A τ' h')
    {tgt iter : Expr} {body : List Stmt} {pos : Pos} {Q : Fl → (Str → Option D) → Store → Prop} (hs : notSet iter = true)
    (h : Ev X n sk ρ τ iter (fun d τ₁ => ∃ ds ow, Items τ₁ d ds ow ∧ LoopL X n sk G tgt body ds ow Q ds ρ τ₁)) {A : Around} {s : Shared} {E : Value → Shared → Prop} (R : Room n A) (O : Ok X τ s.heap) (F : FrameOk X sk env ρ τ s.heap) (hg : G env A τ s.heap) :
    wpAny X.M A (exec (.For tgt iter body [] pos) env) (PostS X sk env τ s Q) E s := by
  refine wpAny_For (h.then R O F fun v s₁ d τ₁ q r O₁ F₁ S₁ o₁ g₁ => ?_) (folded_not hs env)
  obtain ⟨full, ow, it, q⟩ := q
  refine cur_start O₁ r it fun I h₂ c O₂ S₂ hf => ?_
  have F₂ := F₁.step S₂
  refine codeAny_forLoop_any (ForI X n sk G tgt body full ow Q I env τ₁ s₁ s) ?_ (full.length + 1) ⟨0, ρ, τ₁, rfl, Nat.zero_le _, c, O₂, F₂, S₂.toF, o₁, g₁, by rw [List.drop_zero]; exact q⟩
  rintro m s' ⟨i, ρ', τ', rfl, hi, c, O', F', S', o', g', q⟩
  cases hd : full[i]? with
  | none =>
    have e : full.drop i = [] := List.drop_eq_nil_of_le (List.getElem?_eq_none_iff.mp hd)
    rw [e] at q
    refine cur_done R.hd c hd hi fun h₃ B => wpAny_execs_nil ?_
    have S₃ := B.steps S' hf
    exact ⟨.next, ρ', τ', q, trivial, B.ok O', B.frame F', S₁.toF.trans F₁ S₃, o', g'⟩
  | some d =>
    have hlt : i < full.length := (List.getElem?_eq_some_iff.mp hd).1
    have e : full.drop i = d :: full.drop (i + 1) := by
      rw [List.drop_eq_getElem_cons hlt]
      congr 1
      exact (List.getElem?_eq_some_iff.mp hd).2
    rw [e] at q
    obtain ⟨ρ₁, a, q⟩ := q
    refine cur_next c hd fun v h₃ tk r₃ c₃ B => ?_
    refine owned_go (s := { s' with heap := h₃, toks := tk }) c₃ ?_
    have F₃ := B.frame F'
    refine asg_ok (s := { s' with heap := h₃, toks := tk }) R.hd a (B.ok O') F₃ r₃ fun h₄ tk' O₄ F₄ S₄ _ => ?_
    have own₃ : ∀ a, ow = some a → τ' a = some full := fun a e => by
      obtain ⟨_, _, ⟨ax, vs, m, _, _, _, _, hw⟩ | ⟨rfl, _⟩⟩ := c₃
      · subst e; exact hw.1 ▸ hw.2
      · cases e
    have c₄ := c₃.stepF F₃ S₄ O₄ own₃
    refine wpAny_mono (q env A { s' with heap := h₄, toks := tk' } _ R O₄ F₄ (hG _ _ _ _ _ _ _ _ F hg (S₁.toF.trans F₁ ((B.steps S' hf).trans F₃ S₄)) F₄)) (fun f s₅ P => ?_) fun _ _ e => e
    obtain ⟨fl, ρ₅, τ₅, q₅, fr, O₅, F₅, S₅, o₅, g₅⟩ := P
    have S34 : StepsF env τ₁ s₁.heap τ' h₄ := (B.steps S' hf).trans F₃ S₄
    have Sall : StepsF env τ₁ s₁.heap τ₅ s₅.heap := S34.trans F₄ S₅
    cases f <;> cases fl <;> first | exact fr.elim | skip
    · exact ⟨full.length + 1 - (i + 1), Nat.sub_lt_sub_left (Nat.lt_succ_of_lt hlt) (Nat.lt_succ_self i), i + 1, ρ₅, τ₅, rfl, hlt, c₄.stepF F₄ S₅ O₅ q₅.1, O₅, F₅, Sall, o₅.trans o', g₅.trans g', q₅.2⟩
    · exact ⟨.next, ρ₅, τ₅, q₅, trivial, O₅, F₅, S₁.toF.trans F₁ Sall, o₅.trans o', g₅.trans g'⟩
    · exact ⟨full.length + 1 - (i + 1), Nat.sub_lt_sub_left (Nat.lt_succ_of_lt hlt) (Nat.lt_succ_self i), i + 1, ρ₅, τ₅, rfl, hlt, c₄.stepF F₄ S₅ O₅ q₅.1, O₅, F₅, Sall, o₅.trans o', g₅.trans g', q₅.2⟩
    · exact ⟨.ret _, ρ₅, τ₅, q₅, fr, O₅, F₅, S₁.toF.trans F₁ Sall, o₅.trans o', g₅.trans g'⟩
theorem loopL_of {tgt : Expr} {body : List Stmt} {full : List D} {ow : Option Addr} {Q : Fl → (Str → Option D) → Store → Prop} : ∀ {ds : List D} {ρ : Str → Option D} {τ : Store}, LoopW X n sk tgt body full ow Q ds ρ τ → LoopL X n sk (fun _ _ _ _ => True) tgt body full ow Q ds ρ τ
  | [], _, _, h => h
  | d :: ds, ρ, τ, h => by
    obtain ⟨ρ₁, a, h⟩ := h
    exact ⟨ρ₁, a, fun env A s E R O F _ => h.mono (fun f ρ₂ τ₂ q => match f, q with
      | .next, q => ⟨q.1, loopL_of q.2⟩
      | .cont, q => ⟨q.1, loopL_of q.2⟩
      | .brk, q => q
      | .ret _, q => q) env A s E R O F⟩
theorem ex_for {tgt iter : Expr} {body : List Stmt} {pos : Pos} {Q : Fl → (Str → Option D) → Store → Prop} (hs : notSet iter = true)
    (h : Ev X n sk ρ τ iter (fun d τ₁ => ∃ ds ow, Items τ₁ d ds ow ∧ LoopW X n sk tgt body ds ow Q ds ρ τ₁)) : Ex1 X n sk ρ τ (.For tgt iter body [] pos) Q := fun env A s E R O F =>
  ex_forL (G := fun _ _ _ _ => True) (fun _ _ _ _ _ _ _ _ _ _ _ _ => trivial) hs (h.mono fun d τ₁ ⟨ds, ow, it, k⟩ => ⟨ds, ow, it, loopL_of k⟩) R O F trivial
end
end

section
/-- what the compiler says of a comprehension's names -/
noncomputable def compSk (sc : Scope) : Sk := fun x => match sc.names.lookup x with
  | some .local => .loc
  | some .cell => .cel
  | some .free => .fre
  | some .globalImplicit => .glob
  | _ => .no

noncomputable def nodupB : List Str → Bool
  | [] => true
  | x :: r => !r.contains x && nodupB r

noncomputable def compOk (sc : Scope) (sk : Sk) : Bool := sc.kind == .function && nodupB (sc.names.map (·.1)) && sc.names.all (fun x => x.2 != .free || sk x.1 == .cel || sk x.1 == .fre)

/-- what a comprehension sees of the frame around it -/
noncomputable def inner (sc : Scope) (ρ : Str → Option D) : Str → Option D := fun x => if sc.names.lookup x = some .free then ρ x else none

theorem lookup_mem {α : Type} : ∀ {l : List (Str × α)} {x : Str} {k : α}, nodupB (l.map (·.1)) = true → (x, k) ∈ l → l.lookup x = some k
  | (y, j) :: r, x, k, h, m => by
    simp only [List.map_cons, nodupB, Bool.and_eq_true, Bool.not_eq_true', List.contains_eq_mem, decide_eq_false_iff_not] at h
    rcases List.mem_cons.mp m with e | m
    · cases e; simp
    · have hne : x ≠ y := fun e => h.1 (e ▸ List.mem_map.mpr ⟨(x, k), m, rfl⟩)
      rw [List.lookup_cons, beq_eq_false_iff_ne.mpr hne]
      exact lookup_mem h.2 m

noncomputable def closOf (env : Env) : List (Str × NameKind) → List (Str × Addr) → List (Str × Addr)
  | [], acc => acc
  | (x, k) :: r, acc => if k == .free then closOf env r ((x, (env.cells.lookup x).getD 0) :: acc) else closOf env r acc

theorem closOf_append (env : Env) : ∀ (l : List (Str × NameKind)) (acc : List (Str × Addr)), closOf env l acc = closOf env l [] ++ acc
  | [], acc => rfl
  | (x, k) :: r, acc => by
    unfold closOf
    split
    · rw [closOf_append env r (_ :: acc), closOf_append env r [_]]; simp
    · exact closOf_append env r acc

theorem closOf_mem (env : Env) : ∀ (l : List (Str × NameKind)) {x : Str} {c : Addr}, (x, c) ∈ closOf env l [] → (x, .free) ∈ l ∧ c = (env.cells.lookup x).getD 0
  | [], _, _, h => (nomatch h)
  | (y, k) :: r, x, c, h => by
    unfold closOf at h
    split at h
    · rename_i hk
      rw [closOf_append] at h
      rcases List.mem_append.mp h with h | h
      · obtain ⟨a, b⟩ := closOf_mem env r h
        exact ⟨.tail _ a, b⟩
      · rcases List.mem_singleton.mp h with e
        cases e
        exact ⟨by rw [beq_iff_eq.mp hk]; exact .head _, rfl⟩
    · obtain ⟨a, b⟩ := closOf_mem env r h
      exact ⟨.tail _ a, b⟩

theorem lookup_isSome_mem {α : Type} : ∀ {l : List (Str × α)} {x : Str} {c : α}, (x, c) ∈ l → (l.lookup x).isSome = true
  | (y, j) :: r, x, c, m => by
    by_cases h : x == y
    · simp [List.lookup_cons, h]
    · rw [List.lookup_cons, Bool.eq_false_iff.mpr h]
      rcases List.mem_cons.mp m with e | m
      · cases e; simp at h
      · exact lookup_isSome_mem m

theorem closOf_has (env : Env) : ∀ (l : List (Str × NameKind)) {x : Str}, (x, .free) ∈ l → ∃ c, (x, c) ∈ closOf env l []
  | (y, k) :: r, x, h => by
    unfold closOf
    rcases List.mem_cons.mp h with e | h
    · cases e
      rw [if_pos (by rfl), closOf_append]
      exact ⟨_, List.mem_append.mpr (.inr (.head _))⟩
    · obtain ⟨c, hc⟩ := closOf_has env r h
      split
      · rw [closOf_append]; exact ⟨c, List.mem_append.mpr (.inl hc)⟩
      · exact ⟨c, hc⟩

theorem closureFor_eq {scope : Scope} {env : Env} (h : ∀ x, (x, .free) ∈ scope.names → (env.cells.lookup x).isSome = true) : closureFor scope env = pure (closOf env scope.names []) := by
  have key : ∀ (l : List (Str × NameKind)) (acc : List (Str × Addr)), (∀ x, (x, .free) ∈ l → (env.cells.lookup x).isSome = true) →
      (forIn l acc (fun x r => if x.2 == .free then (do let c ← cellOf env x.1; pure (ForInStep.yield ((x.1, c) :: r))) else pure (ForInStep.yield r)) : Sem (List (Str × Addr))) = pure (closOf env l acc) := by
    intro l
    induction l with
    | nil => intro acc _; rw [List.forIn_nil]; rfl
    | cons x r ih =>
      intro acc hx
      obtain ⟨y, k⟩ := x
      rw [List.forIn_cons]
      have ih' := fun acc => ih acc fun z hz => hx z (.tail _ hz)
      unfold closOf
      by_cases hk : (k == NameKind.free) = true
      · rw [if_pos hk, if_pos hk]
        have := hx y (by rw [beq_iff_eq.mp hk]; exact .head _)
        obtain ⟨c, hc⟩ := Option.isSome_iff_exists.mp this
        have e : cellOf env y = pure c := by unfold cellOf; rw [hc]
        rw [e, hc]
        exact ih' _
      · rw [if_neg hk, if_neg hk]
        exact ih' _
  have := key scope.names [] h
  exact congrArg (fun m : Sem (List (Str × Addr)) => m >>= fun r => pure r) this
end

section
theorem cellsFrom_app : ∀ (l : List (Str × NameKind)) (n : Nat) (acc : List (Str × Addr)), cellsFrom n l acc = cellsFrom n l [] ++ acc
  | [], _, _ => rfl
  | (x, k) :: r, n, acc => by
    unfold cellsFrom
    split
    · rw [cellsFrom_app r (n + 1) (_ :: acc), cellsFrom_app r (n + 1) [_]]; simp
    · exact cellsFrom_app r n acc
theorem cellsFrom_mem : ∀ (l : List (Str × NameKind)) (n : Nat) {x : Str} {c : Addr}, (x, c) ∈ cellsFrom n l [] → (x, .cell) ∈ l
  | [], _, _, _, h => (nomatch h)
  | (y, k) :: r, n, x, c, h => by
    unfold cellsFrom at h
    split at h
    · rename_i hk
      rw [cellsFrom_app] at h
      rcases List.mem_append.mp h with h | h
      · exact .tail _ (cellsFrom_mem r _ h)
      · rcases List.mem_singleton.mp h with e
        cases e
        rw [beq_iff_eq.mp hk]; exact .head _
    · exact .tail _ (cellsFrom_mem r _ h)
theorem cellsFrom_has : ∀ (l : List (Str × NameKind)) (n : Nat) {x : Str}, (x, .cell) ∈ l → ((cellsFrom n l []).lookup x).isSome = true
  | (y, k) :: r, n, x, h => by
    unfold cellsFrom
    rcases List.mem_cons.mp h with e | h
    · cases e
      rw [if_pos (by rfl), cellsFrom_app]
      exact lookup_isSome_mem (c := n) (List.mem_append.mpr (.inr (.head _)))
    · have ih := fun n => cellsFrom_has r n h
      split
      · rw [cellsFrom_app, List.lookup_append]
        simp [ih]
      · exact ih _

noncomputable def cenvOf (sc : Scope) (L : Addr) (env : Env) : Env :=
  { scope := relabel sc env, locals := L, globals := env.globals, cells := cellsFrom (L + 1) sc.names (closOf env sc.names []), qual := env.qual, func := none, code := env.code, frame := env.frame, builtins := env.builtins }

theorem relabel_kind (env : Env) : ∀ (l : List (Str × NameKind)) (x : Str),
    (l.map fun (n, k) => if (k == NameKind.free && env.scope.kind == .function && env.kindOf n == some .cell) then (n, NameKind.cell) else (n, k)).lookup x =
      (match l.lookup x with | some k => some (if (k == NameKind.free && env.scope.kind == .function && env.kindOf x == some .cell) then .cell else k) | none => none)
  | [], x => rfl
  | (n, k) :: r, x => by
    have ih := relabel_kind env r x
    rw [List.map_cons]
    by_cases hx : (x == n) = true
    · have e := beq_iff_eq.mp hx
      subst e
      by_cases hc : (k == NameKind.free && env.scope.kind == .function && env.kindOf x == some .cell) = true
      · simp only [hc, if_true, List.lookup_cons, beq_self_eq_true]
      · simp only [hc, if_false, List.lookup_cons, beq_self_eq_true, Bool.false_eq_true]
    · have hx' := Bool.eq_false_iff.mpr hx
      by_cases hc : (k == NameKind.free && env.scope.kind == .function && env.kindOf n == some .cell) = true
      · simp only [hc, if_true, List.lookup_cons, hx']; exact ih
      · simp only [hc, if_false, List.lookup_cons, hx', Bool.false_eq_true]; exact ih

section
variable {X : Cx} {n : Nat} {sk : Sk} {env : Env} {ρ ρ' : Str → Option D} {τ τ' τ₁ τ₂ : Store} {h h' h₁ h₂ : Heap}

theorem Ok.freshOff (O : Ok X τ h) {c : Addr} (hc : h.objs.size ≤ c) : τ c = none := by
  cases e : τ c with
  | none => rfl
  | some ds =>
    obtain ⟨vs, k, hv, _⟩ := O.store _ ds e
    exact absurd (Heap.lt_size hv) (Nat.not_lt.mpr hc)
theorem Ok.freshNew (O : Ok X τ h) {c : Addr} (hc : h.objs.size ≤ c) : X.hB.get? c = none := by
  cases p : X.hB.get? c with
  | none => rfl
  | some o => exact absurd (Heap.lt_size (O.base c o p)) (Nat.not_lt.mpr hc)

theorem new_cenv {M : Model} {A : Around} {E : Value → Shared → Prop} {s : Shared} {sc : Scope} {Q : Env → Shared → Prop} (hc : compOk sc sk = true) (O : Ok X τ s.heap) (F : FrameOk X sk env ρ τ s.heap)
    (q : ∀ cenv h', { cenv with scope := relabel sc env } = cenvOf sc s.heap.objs.size env → cenv.locals = s.heap.objs.size → FrameOk X (compSk sc) (cenvOf sc s.heap.objs.size env) (inner sc ρ) τ h' → (∀ b o, s.heap.get? b = some o → h'.get? b = some o) →
      (∀ b, InFr (cenvOf sc s.heap.objs.size env) b → ¬ InFr env b → s.heap.get? b = none) → (∀ x b, compSk sc x ≠ .fre → (cenvOf sc s.heap.objs.size env).cells.lookup x = some b → s.heap.get? b = none) → Q cenv { s with heap := h' }) :
    wpAny M A (newFunctionEnv sc env.globals (closOf env sc.names []) [] env.qual none .none (some env)) Q E s := by
  unfold compOk at hc
  simp only [Bool.and_eq_true, beq_iff_eq] at hc
  obtain ⟨⟨hk, hnd⟩, hfr⟩ := hc
  have hfree : ∀ x, (x, NameKind.free) ∈ sc.names → sk x = .cel ∨ sk x = .fre := fun x hx => by
    have := List.all_eq_true.mp hfr _ hx
    simpa using this
  have hcell : ∀ x, (x, NameKind.free) ∈ sc.names → ∃ c, env.cells.lookup x = some c := fun x hx => by
    have st := F.stat x
    rcases hfree x hx with e | e <;> rw [e] at st <;> exact Option.isSome_iff_exists.mp st.2
  simp only [newFunctionEnv, Option.isSome_some, if_true]
  refine wpAny_bind (wpAny_alloc ?_)
  refine wpAny_bind (wpAny_layCells _ (fun name kind cells => by cases kind == NameKind.cell <;> simp) _ _ _ _ ?_)
  rw [show ({ s with heap := s.heap.push { cls := .type "dict", data := .dict #[] } } : Shared).heap.objs.size = s.heap.objs.size + 1 from Heap.size_push ..]
  refine wpAny_bind (wpAny_pure (wpAny_pure ?_))
  generalize hL : s.heap.objs.size = L at *
  have ok := cellsFrom_ok sc.names (s.heap.push { cls := .type "dict", data := .dict #[] }) (L + 1) [] ⟨fun _ _ hm => (nomatch hm), List.Pairwise.nil⟩ (by rw [Heap.size_push, hL]; exact Nat.le_refl _)
  rw [Heap.size_push, hL] at ok
  have keep : ∀ b o, s.heap.get? b = some o → (pushCells (s.heap.push { cls := .type "dict", data := .dict #[] }) sc.names).get? b = some o := fun b o e => pushCells_keeps _ _ b o (Heap.get?_push_of_some _ e)
  have S : Steps τ s.heap τ (pushCells (s.heap.push { cls := .type "dict", data := .dict #[] }) sc.names) := ⟨fun b o e _ => keep b o e, fun _ k => .inl k⟩
  have F' := F.step S
  -- the cells
  have split : ∀ x c, (cenvOf sc L env).cells.lookup x = some c → ((x, .cell) ∈ sc.names ∧ L + 1 ≤ c ∧ (cellsFrom (L + 1) sc.names []).lookup x = some c) ∨ ((x, .free) ∈ sc.names ∧ env.cells.lookup x = some c) := fun x c e => by
    show _ ∨ _
    have e' : (cellsFrom (L + 1) sc.names (closOf env sc.names [])).lookup x = some c := e
    rw [cellsFrom_app, List.lookup_append] at e'
    cases q : (cellsFrom (L + 1) sc.names []).lookup x with
    | some c' =>
      rw [q] at e'
      cases e'
      have hm := mem_of_lookup q
      exact .inl ⟨cellsFrom_mem _ _ hm, (ok.empty _ _ hm).2, rfl⟩
    | none =>
      rw [q] at e'
      obtain ⟨a, b⟩ := closOf_mem env _ (mem_of_lookup (show (closOf env sc.names []).lookup x = some c from e'))
      obtain ⟨c', hc'⟩ := hcell x a
      rw [hc'] at b
      exact .inr ⟨a, by rw [hc', b]; rfl⟩
  have lt : ∀ x c, env.cells.lookup x = some c → c < L := fun x c e => by
    obtain ⟨v, ⟨o, ho, _⟩, _⟩ := F.cells x c e
    exact hL ▸ Heap.lt_size ho
  refine q _ _ rfl rfl ⟨fun x => ?_, ?_, F.glob, F.bui, ?_, fun x c e => ?_, O.freshOff (by rw [hL]; exact Nat.le_refl _), fun x c e => ?_, O.freshNew (by rw [hL]; exact Nat.le_refl _), fun x c e => ?_, fun x y c e e' => ?_⟩ keep ?_ ?_
  · -- the names
    have kd : (cenvOf sc L env).kindOf x = (match sc.names.lookup x with | some k => some (if (k == NameKind.free && env.scope.kind == .function && env.kindOf x == some .cell) then .cell else k) | none => none) := relabel_kind env sc.names x
    rw [kd]
    unfold compSk
    cases hx : sc.names.lookup x with
    | none => trivial
    | some k =>
      have hm := mem_of_lookup hx
      cases k with
      | free =>
        refine ⟨by by_cases hb : (env.scope.kind == ScopeKind.function && env.kindOf x == some NameKind.cell) = true <;> simp [hb], ?_⟩
        show ((cellsFrom (L + 1) sc.names (closOf env sc.names [])).lookup x).isSome = true
        rw [cellsFrom_app, List.lookup_append]
        obtain ⟨c, hc⟩ := closOf_has env _ hm
        have := lookup_isSome_mem hc
        cases q : (cellsFrom (L + 1) sc.names []).lookup x <;> simp [this]
      | cell =>
        refine ⟨by simp, ?_⟩
        show ((cellsFrom (L + 1) sc.names (closOf env sc.names [])).lookup x).isSome = true
        rw [cellsFrom_app, List.lookup_append]
        have := cellsFrom_has sc.names (L + 1) hm
        simp [this]
      | «local» => simp
      | globalImplicit => simp
      | _ => trivial
  · exact hk
  · refine ⟨fun _ => none, ?_, rfl, fun x d e l => ?_⟩
    · have := (Heap.Ns.new s.heap (.type "dict")).keeps (pushCells_keeps sc.names _)
      rw [hL] at this
      exact this
    · unfold inner at e
      split at e
      · rename_i hx
        unfold compSk at l
        rw [hx] at l; cases l
      · cases e
  · rcases split x c e with ⟨a, b, q⟩ | ⟨a, b⟩
    · refine ⟨none, (ok.empty _ _ (mem_of_lookup q)).1, fun d l e' => ?_⟩
      unfold inner at e'
      rw [lookup_mem hnd a, if_neg (by decide)] at e'
      cases e'
    · obtain ⟨v, hv, k⟩ := F'.cells x c b
      refine ⟨v, hv, fun d l e' => k d ?_ ?_⟩
      · rcases hfree x a with h | h <;> rw [h] <;> decide
      · unfold inner at e'
        rw [lookup_mem hnd a, if_pos rfl] at e'
        exact e'
  · rcases split x c e with ⟨a, b, q⟩ | ⟨a, b⟩
    · exact O.freshOff (by rw [hL]; omega)
    · exact F.offC x c b
  · rcases split x c e with ⟨a, b, q⟩ | ⟨a, b⟩
    · exact O.freshNew (by rw [hL]; omega)
    · exact F.newC x c b
  · rcases split x c e with ⟨a, b, q⟩ | ⟨a, b⟩ <;> rcases split y c e' with ⟨a', b', q'⟩ | ⟨a', b'⟩
    · exact name_of_addr ok.apart (mem_of_lookup q) (mem_of_lookup q')
    · exact absurd (lt y c b') (Nat.not_lt.mpr (Nat.le_of_succ_le b))
    · exact absurd (lt x c b) (Nat.not_lt.mpr (Nat.le_of_succ_le b'))
    · exact F.apart x y c b b'
  · intro b hb hn
    rcases hb with hb | ⟨x, e⟩
    · rw [hb]
      show s.heap.get? L = none
      rw [← hL]; exact get?_size _
    · rcases split x b e with ⟨a, b', q⟩ | ⟨a, b'⟩
      · cases p : s.heap.get? b with
        | none => rfl
        | some o => exact absurd (hL ▸ Heap.lt_size p) (Nat.not_lt.mpr (Nat.le_of_succ_le b'))
      · exact absurd (.inr ⟨x, b'⟩) hn
  · intro x b hx e
    rcases split x b e with ⟨a, b', q⟩ | ⟨a, b'⟩
    · cases p : s.heap.get? b with
      | none => rfl
      | some o => exact absurd (hL ▸ Heap.lt_size p) (Nat.not_lt.mpr (Nat.le_of_succ_le b'))
    · unfold compSk at hx
      rw [lookup_mem hnd a] at hx
      exact absurd rfl hx
end
end

section
noncomputable def SubS (τ σ : Store) : Prop := ∀ a ds, τ a = some ds → σ a = some ds

theorem put_put {τ : Store} {a : Addr} {x y : List D} : put (put τ a x) a y = put τ a y := by
  funext b; unfold put; split <;> rfl

section
variable {X : Cx} {n : Nat} {sk sk' sk₀ : Sk} {env env₀ : Env} {ρ ρ' ρ₀ ρ₁ : Str → Option D} {τ τ' τ₁ τ₂ : Store} {h h' h₁ h₂ : Heap}

/-- a list of one's own is laid anew -/
theorem Ok.lay {a : Addr} {ds ds' : List D} {vs' : List Value} {k' : Nat} (O : Ok X τ h) (e : τ a = some ds) (hs : Heap.SameBut a h h') (hv : h'.get? a = some (lstO vs' k')) (r : RepAll X.C τ h vs' ds') :
    Ok X (put τ a ds') h' ∧ Steps τ h (put τ a ds') h' := by
  have S : Steps τ h (put τ a ds') h' := ⟨fun b o e' k => (hs.2 b (by rintro rfl; rw [e] at k; cases k)).trans e', fun b k => by
    by_cases q : b = a
    · rw [q, e]; exact .inl fun e => nomatch e
    · rw [put_other q] at k; exact .inl k⟩
  refine ⟨⟨fun b o p => (hs.2 b (by rintro rfl; have := O.off b (by rw [e]; exact fun e => nomatch e); rw [p] at this; cases this)).trans (O.base b o p), fun b k => ?_, fun b es q => ?_⟩, S⟩
  · by_cases q : b = a
    · rw [q]; exact O.off a (by rw [e]; exact fun e => nomatch e)
    · rw [put_other q] at k; exact O.off b k
  · by_cases p : b = a
    · subst p
      rw [put_same] at q; cases q
      exact ⟨vs', k', hv, r.step S⟩
    · rw [put_other p] at q
      obtain ⟨ws, m, hw, rr⟩ := O.store b es q
      exact ⟨ws, m, (hs.2 b p).trans hw, rr.step S⟩

theorem frame_other {b : Addr} (F : FrameOk X sk env ρ τ h) (G : FrameOk X sk₀ env₀ ρ₀ τ h) (i : InFr env₀ b) (ni : ¬ InFr env b) (hs : Heap.SameBut b h h') : FrameOk X sk env ρ τ h' := by
  have S : StepsF env₀ τ h τ h' := .one i hs
  refine ⟨F.stat, F.kind, F.glob, F.bui, ?_, fun x c e => ?_, F.offL, F.offC, F.newL, F.newC, F.apart⟩
  · obtain ⟨m, ⟨o, es, ep, ho, r⟩, hm, k⟩ := F.ns
    exact ⟨m, ⟨o, es, ep, (hs.2 _ (by rintro rfl; exact ni (.inl rfl))).trans ho, r⟩, hm, fun x d e l => let ⟨v, a, b⟩ := k x d e l; ⟨v, a, b.stepF G S⟩⟩
  · obtain ⟨v, ⟨o, ho, hd⟩, k⟩ := F.cells x c e
    exact ⟨v, ⟨o, (hs.2 _ (by rintro rfl; exact ni (.inr ⟨x, e⟩))).trans ho, hd⟩, fun d l q => let ⟨u, a, b⟩ := k d l q; ⟨u, a, b.stepF G S⟩⟩

/-- a frame that is nothing but its dict -/
noncomputable def bareEnv (C : Addr) : Env := { scope := { kind := .function, names := [], isGenerator := false, isCoroutine := false }, locals := C, globals := mainGlobals, cells := [], builtins := builtinsNs }
theorem bareFrame {C : Addr} {m : Str → Option Value} (hn : h.Ns C m) (hm : m "_headers" = none) (ho : τ C = none) (hw : X.hB.get? C = none) : FrameOk X (fun _ => .no) (bareEnv C) (fun _ => none) τ h :=
  ⟨fun _ => trivial, rfl, rfl, rfl, ⟨m, hn, hm, fun _ _ e => nomatch e⟩, fun _ _ e => (nomatch e), ho, fun _ _ e => (nomatch e), hw, fun _ _ e => (nomatch e), fun _ _ _ e => (nomatch e)⟩

/-- the tests of a comprehension: none or one -/
noncomputable def IfsW (X : Cx) (n : Nat) (sk : Sk) (ρ : Str → Option D) (τ : Store) (ifs : List Expr) (P : Bool → Store → Prop) : Prop := match ifs with
  | [] => P true τ
  | [c] => Tst X n sk ρ τ c P
  | _ => False

theorem ifs_run {ifs : List Expr} {P : Bool → Store → Prop} {A : Around} {s : Shared} {E : Value → Shared → Prop} (h : IfsW X n sk ρ τ ifs P) (R : Room n A) (O : Ok X τ s.heap) (F : FrameOk X sk env ρ τ s.heap) {K : Bool → Shared → Prop}
    (k : ∀ b s' τ', P b τ' → Ok X τ' s'.heap → FrameOk X sk env ρ τ' s'.heap → Steps τ s.heap τ' s'.heap → s'.os = s.os → s'.gens = s.gens → K b s') :
    wpAny X.M A (forIn ifs true fun c r => if r = true then do let ok ← isTrue c env (eval c env); pure (ForInStep.yield ok) else pure (ForInStep.yield r)) K E s := by
  unfold IfsW at h
  split at h
  · rw [List.forIn_nil]; exact wpAny_pure (k true s τ h O F (.refl _ _) rfl rfl)
  · rename_i c
    rw [List.forIn_cons, if_pos rfl]
    refine wpAny_bind (wpAny_bind (h.then R O F fun b s' τ' p O' F' S' o' g' => wpAny_pure ?_))
    show wpAny _ _ (forIn [] b _) _ _ _
    rw [List.forIn_nil]
    exact wpAny_pure (k b s' τ' p O' F' S' o' g')
  · exact h.elim

theorem ifs_mono {ifs : List Expr} {P P' : Bool → Store → Prop} (h : IfsW X n sk ρ τ ifs P) (k : ∀ b τ', P b τ' → P' b τ') : IfsW X n sk ρ τ ifs P' := by
  match ifs, h with
  | [], h => exact k _ _ h
  | [c], h => exact fun env A s E R O F => h.then R O F fun b s' τ' p O' F' S' o' g' => ⟨τ', k b τ' p, O', S', o', g'⟩

theorem asgL_same : ∀ {es : List Expr} {ds : List D} {ρ ρp ρ₁ : Str → Option D}, AsgL sk es ds ρ ρ₁ → (∀ y, y ∉ es.filterMap asName → ρp y = ρ y) → AsgL sk es ds ρp ρ₁
  | [], [], _, _, _, a, k => a.trans (funext fun y => (k y fun h => nomatch h).symm)
  | e :: es, d :: ds, ρ, ρp, _, a, k => by
    obtain ⟨x, p, rfl, hx, a⟩ := a
    refine ⟨x, p, rfl, hx, asgL_same a fun y hy => ?_⟩
    unfold upd
    by_cases q : y = x
    · rw [if_pos q, if_pos q]
    · rw [if_neg q, if_neg q]
      exact k y fun h => by
        rcases List.mem_cons.mp (show y ∈ x :: es.filterMap asName from h) with h | h
        · exact q h
        · exact hy h
theorem asg_same {tgt : Expr} {d : D} {ρp : Str → Option D} (a : Asg sk tgt d ρ ρ₁) (k : ∀ y, y ∉ tgtNames tgt → ρp y = ρ y) : Asg sk tgt d ρp ρ₁ := by
  rcases a with ⟨x, p, rfl, hx, rfl⟩ | ⟨es, k', p, ds, rfl, rfl, a⟩
  · refine .inl ⟨x, p, rfl, hx, funext fun y => ?_⟩
    unfold upd
    by_cases q : y = x
    · rw [if_pos q, if_pos q]
    · rw [if_neg q, if_neg q]
      exact (k y fun h => q (List.mem_singleton.mp h)).symm
  · exact .inr ⟨es, k', p, ds, rfl, rfl, asgL_same a k⟩
theorem asgL_off : ∀ {es : List Expr} {ds : List D} {ρ ρ₁ : Str → Option D}, AsgL sk es ds ρ ρ₁ → ∀ y, y ∉ es.filterMap asName → ρ₁ y = ρ y
  | [], [], _, _, a, y, _ => congrFun a y
  | e :: es, d :: ds, ρ, _, a, y, hy => by
    obtain ⟨x, p, rfl, hx, a⟩ := a
    exact (asgL_off a y fun h => hy (.tail _ h)).trans (if_neg fun h => hy (by rw [h]; exact .head _))
theorem asg_off {tgt : Expr} {d : D} (a : Asg sk tgt d ρ ρ₁) : ∀ y, y ∉ tgtNames tgt → ρ₁ y = ρ y := fun y hy => by
  rcases a with ⟨x, p, rfl, hx, rfl⟩ | ⟨es, k', p, ds, rfl, rfl, a⟩
  · exact if_neg fun h => hy (List.mem_singleton.mpr h)
  · exact asgL_off a y hy
theorem asgL_storable : ∀ {es : List Expr} {ds : List D} {ρ ρ₁ : Str → Option D}, AsgL sk es ds ρ ρ₁ → ∀ y ∈ es.filterMap asName, storable sk y = true
  | [], [], _, _, _, y, hy => nomatch hy
  | e :: es, d :: ds, ρ, _, a, y, hy => by
    obtain ⟨x, p, rfl, hx, a⟩ := a
    rcases List.mem_cons.mp (show y ∈ x :: es.filterMap asName from hy) with rfl | h
    · exact hx
    · exact asgL_storable a y h
theorem asg_storable {tgt : Expr} {d : D} (a : Asg sk tgt d ρ ρ₁) : ∀ y ∈ tgtNames tgt, storable sk y = true := fun y hy => by
  rcases a with ⟨x, p, rfl, hx, rfl⟩ | ⟨es, k', p, ds, rfl, rfl, a⟩
  · cases List.mem_singleton.mp hy; exact hx
  · exact asgL_storable a y hy
end

section
variable {prog : Program} {w : World} {A : Around} {s : Shared}
theorem compLoop_go {R : Result → Shared → Prop} {elt target iter : Expr} {ifs : List Expr} {scope : Scope} {pos : Pos} {it acc : Value} {env : Env} (I : Nat → Shared → Prop)
    (turn : ∀ n s, I n s → wpAny (model prog w) A (pyNext it) (fun r s₁ => match r with
      | none => R (.ok .next) s₁
      | some v => wpAny (model prog w) A (letOwnedTupleGo target it v) (fun _ s₁' => wpAny (model prog w) A (assign target env v) (fun _ s₂ =>
          wpAny (model prog w) A (forIn ifs true fun c r => if r = true then do let ok ← isTrue c env (eval c env); pure (ForInStep.yield ok) else pure (ForInStep.yield r)) (fun ok s₃ =>
            if ok = true then wpAny (model prog w) A (eval elt env) (fun x s₄ =>
              wpAny (model prog w) A (call (.builtin "list.append") [acc, x]) (fun _ s₅ => ∃ m, m < n ∧ I m s₅) (notedBy (model prog w) A env fun e s' => R (.error e) s') s₄) (notedBy (model prog w) A env fun e s' => R (.error e) s') s₃
            else ∃ m, m < n ∧ I m s₃) (notedBy (model prog w) A env fun e s' => R (.error e) s') s₂) (notedBy (model prog w) A env fun e s' => R (.error e) s') s₁') (notedBy (model prog w) A env fun e s' => R (.error e) s') s₁) (notedBy (model prog w) A env fun e s' => R (.error e) s') s)
    (n : Nat) (h : I n s) : codeAny (model prog w) A (.compLoop (.ListComp elt [⟨target, iter, ifs, 0⟩] scope pos) 0 it acc env) R s := by
  refine codeAny_loop rfl I (fun n s hI => ?_) n h
  show wpAny _ A ((compTurn (.ListComp elt [⟨target, iter, ifs, 0⟩] scope pos) 0 it acc env).onRaise (fun x => do noteFrame x env; theTreesLotGoes x)) _ _ s
  refine wpAny_noted ?_
  rw [compTurn_list]
  refine wpAny_bind (wpAny_standAt (wpAny_bind (wpAny_mono (turn n s hI) (fun r s₁ h₁ => ?_) fun _ _ h' => h')))
  cases r with
  | none => exact wpAny_pure h₁
  | some v =>
    refine wpAny_bind (wpAny_mono h₁ (fun _ s₁' h₁' => ?_) fun _ _ h' => h')
    refine wpAny_bind (wpAny_mono h₁' (fun _ s₂ h₂ => wpAny_bind (wpAny_mono h₂ (fun ok s₃ h₃ => ?_) fun _ _ h' => h')) fun _ _ h' => h')
    cases ok with
    | false => exact wpAny_pure ⟨rfl, h₃⟩
    | true =>
      exact wpAny_bind (wpAny_bind (wpAny_mono h₃ (fun x s₄ h₄ => wpAny_bind (wpAny_mono h₄ (fun _ s₅ h₅ => wpAny_pure (wpAny_pure ⟨rfl, h₅⟩)) fun _ _ h' => h')) fun _ _ h' => h'))
end
end

section
section
variable {X : Cx} {n : Nat} {sk : Sk} {env : Env} {ρ : Str → Option D} {τ : Store}

/-- what a comprehension's element and test do, for each item -/
noncomputable def CompEl (X : Cx) (n : Nat) (sc : Scope) (tgt : Expr) (ifs : List Expr) (elt : Expr) (ρ : Str → Option D) (τ : Store) (ds : List D) (p : D → Bool) (f : D → D) : Prop :=
  ∀ σ d, SubS τ σ → d ∈ ds → ∃ ρ₁, Asg (compSk sc) tgt d (inner sc ρ) ρ₁ ∧ IfsW X n (compSk sc) ρ₁ σ ifs (fun b σ' => σ' = σ ∧ b = p d ∧ (b = true → Ev X n (compSk sc) ρ₁ σ elt (fun v σ' => σ' = σ ∧ v = f d)))

/-- J tells what holds ahead of each item, of what is left and what is made -/
structure CompJ (X : Cx) (n : Nat) (sc : Scope) (tgt : Expr) (ifs : List Expr) (elt : Expr) (ρ : Str → Option D) (full : List D) (ow : Option Addr) (J : List D → List D → Store → Prop) : Prop where
  own : ∀ r acc τ', J r acc τ' → ∀ a, ow = some a → τ' a = some full
  el : ∀ Dd d r acc τ', acc.length + r.length < full.length → τ' Dd = none → J (d :: r) acc τ' → ∃ ρ₁, Asg (compSk sc) tgt d (inner sc ρ) ρ₁ ∧ IfsW X n (compSk sc) ρ₁ (put τ' Dd acc) ifs (fun b σ' =>
    if b = true then Ev X n (compSk sc) ρ₁ σ' elt (fun v σ'' => ∃ τ'', τ'' Dd = none ∧ σ'' = put τ'' Dd acc ∧ J r (acc ++ [v]) τ'') else ∃ τ'', τ'' Dd = none ∧ σ' = put τ'' Dd acc ∧ J r acc τ'')

/-- what holds ahead of an item -/
inductive CmpI (X : Cx) (sc : Scope) (tgt : Expr) (full : List D) (ow : Option Addr) (J : List D → List D → Store → Prop) (I Dd C : Addr) (env : Env) (ρ : Str → Option D) (τ : Store) (s : Shared) (m : Nat) (s' : Shared) : Prop
  | intro (i : Nat) (ρp : Str → Option D) (acc : List D) (τ' : Store) : m = full.length + 1 - i → i ≤ full.length → acc.length ≤ i → J (full.drop i) acc τ' → τ' Dd = none → Cur X I full ow i (put τ' Dd acc) s'.heap → Ok X (put τ' Dd acc) s'.heap →
      FrameOk X (compSk sc) (cenvOf sc C env) ρp (put τ' Dd acc) s'.heap → (∀ y, y ∉ tgtNames tgt → ρp y = inner sc ρ y) →
      (∀ b o, b ≠ I → s.heap.get? b = some o → τ b = none → s'.heap.get? b = some o ∧ τ' b = none) → (∀ b, τ' b ≠ none → τ b ≠ none ∨ s.heap.get? b = none) → s'.os = s.os → s'.gens = s.gens → CmpI X sc tgt full ow J I Dd C env ρ τ s m s'
theorem comp_core {A : Around} {s : Shared} {E : Value → Shared → Prop} {elt tgt iter : Expr} {ifs : List Expr} {sc : Scope} {pos : Pos} {full : List D} {ow : Option Addr} {J : List D → List D → Store → Prop} {I : Addr} {RR : Value → Addr → Result → Shared → Prop}
    (hc : compOk sc sk = true) (R : Room n A) (O : Ok X τ s.heap) (F : FrameOk X sk env ρ τ s.heap) (c : Cur X I full ow 0 τ s.heap) (hsz : full.length ≤ sizeLine)
    (j0 : J full [] τ) (hel : CompJ X n sc tgt ifs elt ρ full ow J)
    (q : ∀ Dd C s' m acc τ', J [] acc τ' → s.heap.get? C = none → s'.heap.Ns C m → m "_headers" = none → τ' C = none → X.hB.get? C = none → Ok X τ' s'.heap → Rep X.C τ' s'.heap (.ref Dd) (.list acc) → (∀ b o, b ≠ I → s.heap.get? b = some o → τ b = none → s'.heap.get? b = some o) → (∀ b, τ' b ≠ none → τ b ≠ none ∨ s.heap.get? b = none) →
      s'.os = s.os → s'.gens = s.gens → RR (.ref Dd) C (.ok .next) s') :
    wpAny X.M A (newList []) (fun acc s₃ => wpAny X.M A (newFunctionEnv sc env.globals (closOf env sc.names []) [] env.qual none .none (some env)) (fun cenv s₄ =>
      codeAny X.M A (.compStart (.ListComp elt [⟨tgt, iter, ifs, 0⟩] sc pos) 0 (.ref I) acc { cenv with scope := relabel sc env }) (RR acc cenv.locals) s₄) E s₃) E s := by
  refine wpAny_newObj_type ?_ (by show ([] : List Value).toArray.size ≤ sizeLine; decide)
  obtain ⟨O₁, S₁⟩ := O.putNew (vs := []) (ds := []) .nil
  have hDoff := O.offNew
  generalize hDd : s.heap.objs.size = Dd at *
  have F₁ := F.step S₁
  have own₁ : ∀ r acc τ' l, J r acc τ' → τ' Dd = none → ∀ a, ow = some a → put τ' Dd l a = some full := fun r acc τ' l j e a oa => by
    have h := hel.own r acc τ' j a oa
    rw [put_other (by rintro rfl; rw [h] at e; cases e)]; exact h
  have c₁ := c.step S₁ O₁ (own₁ _ _ _ _ j0 hDoff)
  refine new_cenv (s := { s with heap := s.heap.push _ }) hc O₁ F₁ fun cenv h₂ he hloc Fc keep₂ fresh₂ freshC => ?_
  dsimp only at he hloc Fc keep₂ fresh₂ freshC
  rw [he]
  generalize hC : (s.heap.push ({ cls := Value.type "list", data := Data.seq ([] : List Value).toArray } : Obj)).objs.size = C at *
  rw [hloc]
  have up : ∀ b o, s.heap.get? b = some o → (s.heap.push ({ cls := Value.type "list", data := Data.seq ([] : List Value).toArray } : Obj)).get? b = some o := fun b o e => Heap.get?_push_of_some _ e
  have hCs : s.heap.get? C = none := by
    cases p : s.heap.get? C with
    | none => rfl
    | some o =>
      have := Heap.lt_size (up _ _ p)
      rw [hC] at this
      exact absurd this (Nat.lt_irrefl _)
  have S₂ : Steps (put τ Dd []) (s.heap.push (lstO [] 0)) (put τ Dd []) h₂ := ⟨fun b o e _ => keep₂ b o e, fun _ k => .inl k⟩
  have O₂ := O₁.keeps keep₂
  have c₂ := c₁.step S₂ O₂ (own₁ _ _ _ _ j0 hDoff)
  have old₂ : ∀ b o, s.heap.get? b = some o → h₂.get? b = some o := fun b o e => keep₂ b o (up b o e)
  -- the loop
  have loop : ∀ s₀ : Shared, s₀.heap = h₂ → s₀.os = s.os → s₀.gens = s.gens → codeAny X.M A (.compLoop (.ListComp elt [⟨tgt, iter, ifs, 0⟩] sc pos) 0 (.ref I) (.ref Dd) (cenvOf sc C env)) (RR (.ref Dd) C) s₀ := by
    intro s₀ hs₀ ho₀ hg₀
    subst hs₀
    refine compLoop_go (CmpI X sc tgt full ow J I Dd C env ρ τ s) ?_ (full.length + 1)
      ⟨0, inner sc ρ, [], τ, rfl, Nat.zero_le _, Nat.le_refl _, j0, hDoff, c₂, O₂, Fc, fun _ _ => rfl, fun b o _ e k => ⟨old₂ b o e, k⟩, fun b k => .inl k, ho₀, hg₀⟩
    rintro m s' ⟨i, ρp, acc, τ', rfl, hi, hac, hJ, hD, c', O', F', hρ, old', dom', o', g'⟩
    have subD : ∀ (τ' : Store) l, τ' Dd = none → SubS τ' (put τ' Dd l) := fun τ' l h a ds e => by
      rw [put_other (by rintro rfl; rw [h] at e; cases e)]; exact e
    cases hd : full[i]? with
    | none =>
      refine cur_done R.hd c' hd hi fun h₃ B => ?_
      have hnil : full.drop i = [] := List.drop_eq_nil_of_le (List.getElem?_eq_none_iff.mp hd)
      rw [hnil] at hJ
      have O₃ := B.ok O'
      have F₃ := B.frame F'
      have up' : ∀ b, τ' b ≠ none → put τ' Dd acc b ≠ none := fun b k e => by
        obtain ⟨x, hx⟩ := Option.ne_none_iff_exists'.mp k
        rw [subD τ' acc hD _ _ hx] at e; cases e
      have S' : Steps (put τ' Dd acc) h₃ τ' h₃ := ⟨fun b o e _ => e, fun b k => .inl (up' b k)⟩
      obtain ⟨vs, k, hv, r⟩ := O₃.store Dd _ put_same
      obtain ⟨mm, hns, hm, _⟩ := F₃.ns
      have hCoff : τ' C = none := Classical.byContradiction fun k => up' C k F₃.offL
      exact q Dd C { s' with heap := h₃ } mm acc τ' hJ hCs hns hm hCoff F₃.newL ⟨O₃.base, fun b k => O₃.off b (up' b k), fun a ds e => by
          obtain ⟨ws, k', hw, rw'⟩ := O₃.store a ds (subD τ' acc hD _ _ e)
          exact ⟨ws, k', hw, rw'.step S'⟩⟩ (.list hD hv (r.step S')) (fun b o nI e k => B.keep b o nI (old' b o nI e k).1) dom' o' g'
    | some d =>
      have hlt : i < full.length := (List.getElem?_eq_some_iff.mp hd).1
      have hcons : full.drop i = d :: full.drop (i + 1) := by
        rw [List.drop_eq_getElem_cons hlt]
        congr 1
        exact (List.getElem?_eq_some_iff.mp hd).2
      have own' := own₁ _ _ _ acc hJ hD
      rw [hcons] at hJ
      obtain ⟨ρ₁, a, hif⟩ := hel.el Dd d _ acc τ' (by rw [List.length_drop]; omega) hD hJ
      refine cur_next c' hd fun v h₃ tk r₃ c₃ B => ?_
      refine owned_go (s := { s' with heap := h₃, toks := tk }) c₃ ?_
      have F₃ := B.frame F'
      refine asg_ok (s := { s' with heap := h₃, toks := tk }) R.hd (asg_same a hρ) (B.ok O') F₃ r₃ fun h₄ tk' O₄ F₄ S₄ kp₄ => ?_
      have c₄ := c₃.stepF F₃ S₄ O₄ own'
      have nD : ∀ b o, s.heap.get? b = some o → b ≠ Dd := fun b o e => by
        rintro rfl
        rw [← hDd, get?_size] at e; cases e
      have old₄ : ∀ b o, b ≠ I → s.heap.get? b = some o → τ b = none → h₄.get? b = some o ∧ put τ' Dd acc b = none := fun b o nI e k => by
        refine ⟨kp₄ b o (B.keep b o nI (old' b o nI e k).1) (fun z => by rw [show b = C from z, hCs] at e; cases e) fun x hx hl => ?_, by rw [put_other (nD b o e)]; exact (old' b o nI e k).2⟩
        have hst := asg_storable a x hx
        have := freshC x b (by
          unfold storable at hst
          intro h
          rw [h] at hst; simp at hst) hl
        rw [up b o e] at this; cases this
      have fin : ∀ τ'' acc' h₅, (∀ b o, h₄.get? b = some o → put τ' Dd acc b = none → h₅.get? b = some o ∧ put τ'' Dd acc' b = none) → Cur X I full ow (i + 1) (put τ'' Dd acc') h₅ →
          (∀ b o, b ≠ I → s.heap.get? b = some o → τ b = none → h₅.get? b = some o ∧ τ'' b = none) ∧ (∀ b, τ'' b ≠ none → τ b ≠ none ∨ s.heap.get? b = none) := fun τ'' acc' h₅ S c₅ => by
        have k1 : ∀ b o, b ≠ I → s.heap.get? b = some o → τ b = none → h₅.get? b = some o ∧ τ'' b = none := fun b o nI e k => by
          obtain ⟨e4, t4⟩ := old₄ b o nI e k
          obtain ⟨e5, t5⟩ := S b o e4 t4
          rw [put_other (nD b o e)] at t5
          exact ⟨e5, t5⟩
        refine ⟨k1, fun b k => Classical.byContradiction fun z => ?_⟩
        have tb : τ b = none := Classical.byContradiction fun q => z (.inl q)
        obtain ⟨o, p⟩ := Option.ne_none_iff_exists'.mp fun q : s.heap.get? b = none => z (.inr q)
        by_cases nI : b = I
        · subst nI
          have t7 := c₅.1
          rw [put_other (nD b o p)] at t7
          exact k t7
        · exact k (k1 b o nI p tb).2
      refine ifs_run hif R O₄ F₄ fun b s₅ τ₅ p₅ O₅ F₅ S₅ o₅ g₅ => ?_
      have k5 : ∀ b o, h₄.get? b = some o → put τ' Dd acc b = none → s₅.heap.get? b = some o ∧ τ₅ b = none := fun b o e k => ⟨S₅.keep b o e k, S₅.off e k⟩
      cases b with
      | false =>
        rw [if_neg (by decide)] at p₅ ⊢
        obtain ⟨τ'', hD'', rfl, hJ'⟩ := p₅
        have c₅ := c₄.step S₅ O₅ (own₁ _ _ _ _ hJ' hD'')
        obtain ⟨f1, f2⟩ := fin τ'' acc _ k5 c₅
        exact ⟨full.length + 1 - (i + 1), Nat.sub_lt_sub_left (Nat.lt_succ_of_lt hlt) (Nat.lt_succ_self i), i + 1, ρ₁, acc, τ'', rfl, hlt, by omega, hJ', hD'', c₅, O₅, F₅, asg_off a, f1, f2, o₅.trans o', g₅.trans g'⟩
      | true =>
        rw [if_pos rfl] at p₅ ⊢
        refine p₅.then R O₅ F₅ fun vx s₆ dx τ₆ q₆ r₆ O₆ F₆ S₆ o₆ g₆ => ?_
        obtain ⟨τ'', hD'', rfl, hJ'⟩ := q₆
        obtain ⟨vs, k, hv, rs⟩ := O₆.store Dd _ put_same
        refine append_at hv (fun h₇ hs₇ hv₇ => ?_) (by
          rw [List.size_toArray, rs.length]
          exact Nat.le_trans (Nat.le_trans hac hi) hsz)
        have hv₇' : h₇.get? Dd = some (lstO (vs ++ [vx]) (k + 1)) := by
          rw [hv₇]; simp
        obtain ⟨O₇, S₇⟩ := O₆.lay put_same hs₇ hv₇' (rs.append (.cons r₆ .nil))
        rw [put_put] at O₇ S₇
        have c₇ := c₄.step (S₅.trans (S₆.trans S₇)) O₇ (own₁ _ _ _ _ hJ' hD'')
        have S := S₅.trans (S₆.trans S₇)
        obtain ⟨f1, f2⟩ := fin τ'' _ _ (fun b o e k => ⟨S.keep b o e k, S.off e k⟩) c₇
        exact ⟨full.length + 1 - (i + 1), Nat.sub_lt_sub_left (Nat.lt_succ_of_lt hlt) (Nat.lt_succ_self i), i + 1, ρ₁, acc ++ [dx], τ'', rfl, hlt, by rw [List.length_append]; show _ + 1 ≤ _; omega, hJ', hD'', c₇, O₇, F₆.step S₇, asg_off a, f1, f2, o₆.trans (o₅.trans o'), g₆.trans (g₅.trans g')⟩
  refine codeAny_compStart_list (loop _ rfl rfl rfl) ?_
  have hcur := c₂
  obtain ⟨_, _, ⟨ax, vs, m, hit, _⟩ | ⟨_, a, _, hr⟩⟩ := c₂
  · exact wpAny_pyIter_listiter hit (loop _ rfl rfl rfl)
  · exact wpAny_pyIter_rangeiter hr (loop _ rfl rfl rfl)
end
end

section
section
variable {X : Cx} {n : Nat} {sk : Sk} {env : Env} {ρ : Str → Option D} {τ : Store} {Q : D → Store → Prop}

theorem compOk_parts {sc : Scope} (hc : compOk sc sk = true) : sc.kind = .function ∧ (∀ x ∈ sc.names, x.2 = .local → sc.names.lookup x.1 = some .local) ∧ ∀ {env : Env} {ρ τ h}, FrameOk X sk env ρ τ h → closureFor sc env = pure (closOf env sc.names []) := by
  unfold compOk at hc
  simp only [Bool.and_eq_true, beq_iff_eq] at hc
  obtain ⟨⟨hk, hnd⟩, hfr⟩ := hc
  refine ⟨hk, fun x hx e => lookup_mem hnd (by obtain ⟨a, b⟩ := x; cases e; exact hx), fun {env ρ τ h} F => closureFor_eq fun x hx => ?_⟩
  have := List.all_eq_true.mp hfr _ hx
  have st := F.stat x
  have h' : sk x = .cel ∨ sk x = .fre := by simpa using this
  rcases h' with e | e <;> rw [e] at st <;> exact st.2

/-- a list comprehension: its source, and J -/
noncomputable def CompQ (X : Cx) (n : Nat) (sc : Scope) (tgt : Expr) (ifs : List Expr) (elt : Expr) (ρ : Str → Option D) (QQ : List D → Store → Prop) (d : D) (τ : Store) : Prop :=
  ∃ ds ow, Items τ d ds ow ∧ ds.length ≤ sizeLine ∧ ∃ J : List D → List D → Store → Prop, J ds [] τ ∧ CompJ X n sc tgt ifs elt ρ ds ow J ∧ ∀ acc τ', J [] acc τ' → QQ acc τ'

theorem ev_compG {elt tgt iter : Expr} {ifs : List Expr} {sc : Scope} {pos : Pos} (hc : compOk sc sk = true) (hs : notSet iter = true)
    (h : Ev X n sk ρ τ iter (CompQ X n sc tgt ifs elt ρ fun acc τ' => Q (.list acc) τ')) :
    Ev X n sk ρ τ (.ListComp elt [⟨tgt, iter, ifs, 0⟩] sc pos) Q := fun env A s E R O F => by
  obtain ⟨hk, hnames, hclos⟩ := compOk_parts (X := X) hc
  rw [eval_ListComp]
  refine wpAny_comprehension_free (use := none) rfl (folded_not hs env) (hclos F) hk hnames (h.then R O F fun v s₁ d τ₁ q r O₁ F₁ S₁ o₁ g₁ => ?_)
  obtain ⟨full, ow, it, hsz, J, j0, hel, q⟩ := q
  refine cur_start O₁ r it fun I h₂ c O₂ S₂ hI => ?_
  refine comp_core (s := { s₁ with heap := h₂ }) (RR := fun acc C => compPost X.M A E none (Post X τ s Q) acc C) hc R O₂ (F₁.step S₂) c hsz j0 hel ?_
  intro Dd C s' m acc τ' hJ hC hns hm hoff hnew O' r' old' dom' o' g'
  refine ⟨m, hns, fun h'' hs'' => ?_⟩
  have bf := bareFrame hns hm hoff hnew
  have S3 : Steps τ₁ s₁.heap τ' h'' := ⟨fun b o e k => (hs''.2 b (by rintro rfl; rw [S₂.keep b o e k] at hC; cases hC)).trans (old' b o (by rintro rfl; rw [hI] at e; cases e) (S₂.keep b o e k) k), fun b k => by
    rcases dom' b k with x | x
    · exact .inl x
    · refine Classical.byContradiction fun z => ?_
      have tb : τ₁ b = none := Classical.byContradiction fun q => z (.inl q)
      obtain ⟨o, p⟩ := Option.ne_none_iff_exists'.mp fun q : s₁.heap.get? b = none => z (.inr q)
      rw [S₂.keep b o p tb] at x; cases x⟩
  exact ⟨_, τ', q acc τ' hJ, r'.stepF bf (.one (.inl rfl) hs''), O'.one bf (.inl rfl) hs'', S₁.trans S3, o'.trans o₁, g'.trans g₁⟩

theorem ex_assignK {x : Str} {p' pos : Pos} {elt : Expr} {gens : List Comprehension} {sc : Scope} {cp : Pos} {QS : Fl → (Str → Option D) → Store → Prop} (hk : sk x = .cel) (hst : storable sk x = true)
    (h : Ev X n sk ρ τ (.ListComp elt gens sc cp) (fun d τ₁ => QS .next (upd ρ x d) τ₁)) : Ex1 X n sk ρ τ (.Assign [.Name x p'] (.ListComp elt gens sc cp) pos) QS := fun env A s E R O F => by
  have hs : swapsWith (.ListComp elt gens sc cp) (some (.Name x p')) pos.line env = pure false := by
    have st := F.stat x
    rw [hk] at st
    show pure (env.blockKind == .function && env.kindOf x == some .local && _ && _) = pure false
    rw [st.1]
    have : (some NameKind.cell == some NameKind.local) = false := by decide
    rw [this, Bool.and_false, Bool.false_and, Bool.false_and]
  rw [exec_Assign_Name _ _ _ _ _ hs]
  refine wpAny_bind (wpAny_standAt (wpAny_bind (h.then R O F fun v s₁ d τ₁ q r O₁ F₁ S₁ o₁ g₁ => ?_)))
  refine wpAny_bind (wpAny_standAt (wpAny_bind (bind_var O₁ F₁ r hst fun h' tk O' F' S' _ => wpAny_pure ?_)))
  exact ⟨.next, _, _, q, trivial, O', F', S₁.toF.trans F₁ S', o₁, g₁⟩

theorem ex_assignG {x : Str} {p' pos : Pos} {elt tgt iter : Expr} {ifs : List Expr} {sc : Scope} {cp : Pos} {QS : Fl → (Str → Option D) → Store → Prop} (hk : sk x = .loc) (hst : storable sk x = true) (hc : compOk sc sk = true) (hs : notSet iter = true)
    (hsw : (p'.line == cp.line && !(sc.names.any fun (n, k) => n == x && (k == .local || k == .cell))) = true)
    (h : Ev X n sk ρ τ iter (CompQ X n sc tgt ifs elt ρ fun acc τ' => QS .next (upd ρ x (.list acc)) τ')) :
    Ex1 X n sk ρ τ (.Assign [.Name x p'] (.ListComp elt [⟨tgt, iter, ifs, 0⟩] sc cp) pos) QS := fun env A s E R O F => by
  have hsw' : swapsWith (.ListComp elt [⟨tgt, iter, ifs, 0⟩] sc cp) (some (.Name x p')) pos.line env = pure true := by
    have st := F.stat x
    rw [hk] at st
    show pure (env.blockKind == .function && env.kindOf x == some .local && p'.line == cp.line && !(sc.names.any fun (n, k) => n == x && (k == .local || k == .cell))) = pure true
    rw [Bool.and_assoc, hsw, st]
    have e : env.blockKind = .function := by unfold Env.blockKind; rw [F.kind]; rfl
    rw [e]; rfl
  obtain ⟨hkd, hnames, hclos⟩ := compOk_parts (X := X) hc
  rw [exec_Assign_Name_used _ _ _ _ hsw']
  refine wpAny_bind (wpAny_standAt (wpAny_bind ?_))
  show wpAny _ A (do let _ ← comprehension (.ListComp elt [⟨tgt, iter, ifs, 0⟩] sc cp) sc env _ (newList []) false (eval iter env) (some (assign (.Name x p') env))) _ _ s
  refine wpAny_bind (wpAny_mono (wpAny_comprehension_free (use := some (assign (.Name x p') env)) (Q := fun _ s' => PostS X sk env τ s QS .next s') rfl (folded_not hs env) (hclos F) hkd hnames (h.then R O F fun v s₁ d τ₁ q r O₁ F₁ S₁ o₁ g₁ => ?_))
    (fun _ s' hq => wpAny_pure (wpAny_pure hq)) fun _ _ e => e)
  obtain ⟨full, ow, it, hsz, J, j0, hel, q⟩ := q
  refine cur_start O₁ r it fun I h₂ c O₂ S₂ hI => ?_
  refine comp_core (s := { s₁ with heap := h₂ }) (RR := fun acc C => compPost X.M A E (some (assign (.Name x p') env)) (fun _ s' => PostS X sk env τ s QS .next s') acc C) hc R O₂ (F₁.step S₂) c hsz j0 hel ?_
  intro Dd C s' m acc τ' hJ hC hns hm hoff hnew O' r' old' dom' o' g'
  have S3 : Steps τ₁ s₁.heap τ' s'.heap := ⟨fun b o e k => old' b o (by rintro rfl; rw [hI] at e; cases e) (S₂.keep b o e k) k, fun b k => by
    rcases dom' b k with x | x
    · exact .inl x
    · refine Classical.byContradiction fun z => ?_
      have tb : τ₁ b = none := Classical.byContradiction fun q => z (.inl q)
      obtain ⟨o, p⟩ := Option.ne_none_iff_exists'.mp fun q : s₁.heap.get? b = none => z (.inr q)
      rw [S₂.keep b o p tb] at x; cases x⟩
  have F₃ := F₁.step S3
  show wpAny _ A (assign (.Name x p') env (.ref Dd)) _ _ _
  rw [PySem.assign_Name]
  have nC : ∀ b, InFr env b → b ≠ C := fun b i => by
    rintro rfl
    obtain ⟨ob, hob⟩ := F₁.there i
    have k : τ₁ b = none := by
      rcases i with rfl | ⟨y, i⟩
      · exact F₁.offL
      · exact F₁.offC y b i
    rw [S₂.keep b ob hob k] at hC; cases hC
  refine wpAny_bind (wpAny_standAt (bind_var O' F₃ r' hst fun h₄ tk O₄ F₄ S₄ kp => ?_))
  obtain ⟨oC, es, ep, hoC, hdC, rC⟩ := hns
  have hC4 : h₄.get? C = some oC := kp C oC hoC (fun z => nC _ (.inl rfl) z.symm) fun z => nC C (.inr ⟨x, z⟩) rfl
  have hns4 : h₄.Ns C m := ⟨oC, es, ep, hC4, hdC, rC⟩
  refine ⟨m, hns4, fun h'' hs'' => ?_⟩
  have bf := bareFrame hns4 hm hoff hnew
  have nIn : ¬ InFr env C := fun i => nC C i rfl
  have S5 : StepsF env τ₁ s₁.heap τ' h'' := ⟨fun b o e k i => (hs''.2 b (by rintro rfl; rw [S₂.keep b o e k] at hC; cases hC)).trans (S₄.keep b o (S3.keep b o e k) (S3.off e k) i), S3.doms⟩
  exact ⟨.next, _, τ', q acc τ' hJ, trivial, O₄.one bf (.inl rfl) hs'', frame_other F₄ bf (.inl rfl) nIn hs'', S₁.toF.trans F₁ S5, o'.trans o₁, g'.trans g₁⟩

/-- J of a comprehension that changes nothing -/
theorem compJ_of {sc : Scope} {tgt elt : Expr} {ifs : List Expr} {full : List D} {d₀ : D} {ow : Option Addr} {p : D → Bool} {f : D → D} (it : Items τ d₀ full ow) (h : CompEl X n sc tgt ifs elt ρ τ full p f) :
    CompJ X n sc tgt ifs elt ρ full ow (fun r acc τ' => τ' = τ ∧ ∃ i, r = full.drop i ∧ acc = ((full.take i).filter p).map f) where
  own := by
    rintro r acc _ ⟨rfl, _⟩ a e
    cases it <;> cases e
    assumption
  el := by
    rintro Dd d r acc _ _ hD ⟨rfl, i, hr, rfl⟩
    have hd : full[i]? = some d := by
      have := List.getElem?_drop (xs := full) (i := i) (j := 0)
      rw [← hr] at this
      simpa using this.symm
    have hr' : r = full.drop (i + 1) := by rw [← List.tail_drop, ← hr]; rfl
    obtain ⟨ρ₁, a, k⟩ := h (put _ Dd (((full.take i).filter p).map f)) d (fun a ds e => by rw [put_other (by rintro rfl; rw [hD] at e; cases e)]; exact e) (List.mem_of_getElem? hd)
    have tk := take_succ_filter p full i d hd
    refine ⟨ρ₁, a, ifs_mono k fun b σ' q => ?_⟩
    obtain ⟨rfl, hb, q⟩ := q
    cases b with
    | false => exact ⟨_, hD, rfl, rfl, i + 1, hr', by rw [tk, ← hb]; simp⟩
    | true =>
      refine (q rfl).mono fun v σ'' q => ?_
      obtain ⟨rfl, rfl⟩ := q
      exact ⟨_, hD, rfl, rfl, i + 1, hr', by rw [tk, ← hb]; simp⟩
theorem compQ_of {sc : Scope} {tgt elt : Expr} {ifs : List Expr} {QQ : List D → Store → Prop} {d : D} (h : ∃ ds ow, Items τ d ds ow ∧ ds.length ≤ sizeLine ∧ ∃ p f, CompEl X n sc tgt ifs elt ρ τ ds p f ∧ QQ ((ds.filter p).map f) τ) : CompQ X n sc tgt ifs elt ρ QQ d τ := by
  obtain ⟨ds, ow, it, hsz, p, f, hel, q⟩ := h
  refine ⟨ds, ow, it, hsz, _, ⟨rfl, 0, rfl, rfl⟩, compJ_of it hel, ?_⟩
  rintro acc _ ⟨rfl, i, hi, rfl⟩
  rw [List.take_of_length_le (List.drop_eq_nil_iff.mp hi.symm)]
  exact q

/-- a list comprehension: its source, and then a function of each item -/
theorem ev_comp {elt tgt iter : Expr} {ifs : List Expr} {sc : Scope} {pos : Pos} (hc : compOk sc sk = true) (hs : notSet iter = true)
    (h : Ev X n sk ρ τ iter (fun d τ₁ => ∃ ds ow, Items τ₁ d ds ow ∧ ds.length ≤ sizeLine ∧ ∃ p f, CompEl X n sc tgt ifs elt ρ τ₁ ds p f ∧ Q (.list ((ds.filter p).map f)) τ₁)) :
    Ev X n sk ρ τ (.ListComp elt [⟨tgt, iter, ifs, 0⟩] sc pos) Q := ev_compG hc hs (h.mono fun d τ₁ k => compQ_of (QQ := fun acc τ' => Q (.list acc) τ') k)
theorem ex_assignC {x : Str} {p' pos : Pos} {elt tgt iter : Expr} {ifs : List Expr} {sc : Scope} {cp : Pos} {QS : Fl → (Str → Option D) → Store → Prop} (hk : sk x = .loc) (hst : storable sk x = true) (hc : compOk sc sk = true) (hs : notSet iter = true)
    (hsw : (p'.line == cp.line && !(sc.names.any fun (n, k) => n == x && (k == .local || k == .cell))) = true)
    (h : Ev X n sk ρ τ iter (fun d τ₁ => ∃ ds ow, Items τ₁ d ds ow ∧ ds.length ≤ sizeLine ∧ ∃ p f, CompEl X n sc tgt ifs elt ρ τ₁ ds p f ∧ QS .next (upd ρ x (.list ((ds.filter p).map f))) τ₁)) :
    Ex1 X n sk ρ τ (.Assign [.Name x p'] (.ListComp elt [⟨tgt, iter, ifs, 0⟩] sc cp) pos) QS := ex_assignG hk hst hc hs hsw (h.mono fun d τ₁ k => compQ_of (QQ := fun acc τ' => QS .next (upd ρ x (.list acc)) τ') k)
end
end

section
/-- names bound to data, one behind the other -/
noncomputable def bindD : List (Str × D) → (Str → Option D) → (Str → Option D)
  | [], ρ => ρ
  | (x, d) :: r, ρ => bindD r (upd ρ x d)

inductive RepB (C : Addr) (τ : Store) (h : Heap) : List (Str × Value) → List (Str × D) → Prop
  | nil : RepB C τ h [] []
  | cons {x : Str} {v : Value} {d : D} {bs : List (Str × Value)} {ds : List (Str × D)} : Rep C τ h v d → RepB C τ h bs ds → RepB C τ h ((x, v) :: bs) ((x, d) :: ds)

theorem RepB.step {C : Addr} {τ τ' : Store} {h h' : Heap} (S : Steps τ h τ' h') {bs : List (Str × Value)} {ds : List (Str × D)} (r : RepB C τ h bs ds) : RepB C τ' h' bs ds := by
  induction r with
  | nil => exact .nil
  | cons r _ ih => exact .cons (r.step S) ih

theorem bind_both {C : Addr} {τ : Store} {h : Heap} (kd : Str → Option NameKind) {bs : List (Str × Value)} {ds : List (Str × D)} {m cm : Str → Option Value} {ρ : Str → Option D} (r : RepB C τ h bs ds)
    (h1 : ∀ x d, ρ x = some d → kd x = some .local → ∃ v, m x = some v ∧ Rep C τ h v d) (h2 : ∀ x d, ρ x = some d → kd x ≠ some .local → ∃ v, cm x = some v ∧ Rep C τ h v d) :
    (∀ x d, bindD ds ρ x = some d → kd x = some .local → ∃ v, bindL kd bs m x = some v ∧ Rep C τ h v d) ∧ (∀ x d, bindD ds ρ x = some d → kd x ≠ some .local → ∃ v, bindC kd bs cm x = some v ∧ Rep C τ h v d) := by
  induction r generalizing m cm ρ with
  | nil => exact ⟨h1, h2⟩
  | @cons y v dd bs ds r rs ih =>
    unfold bindL bindC bindD
    refine ih ?_ ?_
    · intro x d e l
      unfold upd at e
      by_cases q : x = y
      · subst q
        rw [if_pos rfl] at e; cases e
        rw [if_pos l]
        exact ⟨v, if_pos rfl, r⟩
      · rw [if_neg q] at e
        obtain ⟨u, a, b⟩ := h1 x d e l
        refine ⟨u, ?_, b⟩
        split
        · show (if x = y then some v else m x) = some u
          rw [if_neg q]; exact a
        · exact a
    · intro x d e l
      unfold upd at e
      by_cases q : x = y
      · subst q
        rw [if_pos rfl] at e; cases e
        rw [if_neg l]
        exact ⟨v, if_pos rfl, r⟩
      · rw [if_neg q] at e
        obtain ⟨u, a, b⟩ := h2 x d e l
        refine ⟨u, ?_, b⟩
        split
        · exact a
        · show (if x = y then some v else cm x) = some u
          rw [if_neg q]; exact a

theorem bindL_none (kd : Str → Option NameKind) {x : Str} : ∀ (bs : List (Str × Value)) (m : Str → Option Value), (bs.all fun b => b.1 != x) = true → m x = none → bindL kd bs m x = none
  | [], m, _, h => h
  | (y, v) :: bs, m, h, hm => by
    simp only [List.all_cons, Bool.and_eq_true, bne_iff_ne] at h
    unfold bindL
    refine bindL_none kd bs _ h.2 ?_
    split
    · show (if x = y then some v else m x) = none
      rw [if_neg (fun e => h.1 e.symm)]; exact hm
    · exact hm

section
variable {X : Cx} {n : Nat} {τ : Store} {Q : D → Store → Prop}

/-- the call of a value, as a code -/
noncomputable def CodeV (X : Cx) (n : Nat) (f : Value) (ds : List D) (ks : List (Str × D)) (τ : Store) (Q : D → Store → Prop) : Prop :=
  ∀ A s vs ws, Room n A → Ok X τ s.heap → RepAll X.C τ s.heap vs ds → RepAll X.C τ s.heap ws (ks.map (·.2)) →
    codeAny X.M A (.call f ⟨vs, (ks.map (·.1)).zip ws⟩) (fun r s' => match r with | .ok (.ret v) => Post X τ s Q v s' | _ => False) s

theorem CodeV.call {f : Value} {ds : List D} {ks : List (Str × D)} (h : CodeV X n f ds ks τ Q) : CallV X n f ds ks τ Q := fun A s E vs ws R O r q =>
  wpAny_call (codeAny_mono (h A s vs ws R O r q) fun r s' z => by rcases r with e | (v | _ | _ | _) <;> first | exact z | exact z.elim)

/-- what the arguments of a call are bound to -/
noncomputable def BindV (X : Cx) (fd : FuncData) (ds : List D) (ks : List (Str × D)) (τ : Store) (bds : List (Str × D)) : Prop :=
  ∀ A s E vs ws (Q : List (Str × Value) → Shared → Prop), Ok X τ s.heap → RepAll X.C τ s.heap vs ds → RepAll X.C τ s.heap ws (ks.map (·.2)) →
    (∀ bs h' tk, RepB X.C τ h' bs bds → (∀ b o, s.heap.get? b = some o → h'.get? b = some o) → Q bs { s with heap := h', toks := tk }) → wpAny X.M A (bindArgs fd ⟨vs, (ks.map (·.1)).zip ws⟩) Q E s

noncomputable def bodyOf (fd : FuncData) : List Stmt := match fd.body with
  | .stmts b => b
  | _ => []
noncomputable def isStmts (fd : FuncData) : Bool := match fd.body with
  | .stmts _ => true
  | _ => false

/-- a def of the text's, fit to be called -/
noncomputable def fnOk (K : Frag) (fa : Addr) (fd : FuncData) : Bool :=
  (match K.lookup fa with | some ⟨_, _, .func _, _⟩ => true | _ => false) && fd.globals == mainGlobals && fd.builtins == builtinsNs && fd.closure.isEmpty && isStmts fd && codeIn K fd.code fd.qualname && !fd.scope.isCoroutine && !fd.scope.isGenerator && fd.scope.kind == .function && nodupB (fd.scope.names.map (·.1)) && fd.scope.names.all (fun x => x.2 != .free)

noncomputable def fnAt (K : Frag) (fa : Addr) : FuncData := match K.lookup fa with
  | some ⟨_, _, .func fd, _⟩ => fd
  | _ => default

/-- the same, with a fact of the heap behind the binding -/
theorem code_fn_base {fa : Addr} {fd : FuncData} {ks : List (Str × D)} {bds : List (Str × D)} {A : Around} {s : Shared} {vs ws : List Value} {RR : Result → Shared → Prop} {Ph : Heap → Prop} (hfd : fnAt X.K fa = fd) (hok : fnOk X.K fa fd = true) (hb : ∀ E (Q : List (Str × Value) → Shared → Prop), (∀ bs h' tk, RepB X.C τ h' bs bds → (∀ b o, s.heap.get? b = some o → h'.get? b = some o) → Ph h' → Q bs { s with heap := h', toks := tk }) → wpAny X.M A.in1 (bindArgs fd ⟨vs, (ks.map (·.1)).zip ws⟩) Q E s)
    (hloc : (bds.all fun b => (fd.scope.names.lookup b.1 == some .local || fd.scope.names.lookup b.1 == some .cell) && b.1 != ("_headers" : Str)) = true) (R : Room (n + 1) A) (O : Ok X τ s.heap)
    (h : ∀ env s' h₁, Ph h₁ → (∀ b o, s.heap.get? b = some o → h₁.get? b = some o) → (∀ b o, h₁.get? b = some o → s'.heap.get? b = some o) → Room n (A.deeper env) → Ok X τ s'.heap → FrameOk X (compSk fd.scope) env (bindD bds fun _ => none) τ s'.heap → (∀ b, InFr env b → h₁.get? b = none) → s'.os = s.os → s'.gens = s.gens → env.frame = some env.locals →
      wpAny X.M (A.deeper env) (execs (bodyOf fd) env) (fun f s'' => RR (.ok (.ret (match f with | .ret v => v | _ => .none))) s'')
        (fun e s' => wpAny X.M (A.deeper env) (leaving env e) (fun _ s'' => RR (.error e) s'') (fun e' s'' => RR (.error e') s'') s') s') :
    codeAny X.M A (.call (.ref fa) ⟨vs, (ks.map (·.1)).zip ws⟩) RR s := by
  unfold fnOk at hok
  simp only [Bool.and_eq_true, beq_iff_eq, Bool.not_eq_true', List.isEmpty_iff] at hok
  obtain ⟨⟨⟨⟨⟨⟨⟨⟨⟨⟨hf, hg⟩, hbu⟩, hcl⟩, hst⟩, hcd⟩, hco⟩, hge⟩, hk⟩, hnd⟩, hnf⟩ := hok
  obtain ⟨oc, od, osl, hl⟩ : ∃ oc od osl, X.K.lookup fa = some ⟨oc, od, .func fd, osl⟩ := by
    unfold fnAt at hfd
    split at hf
    · rename_i a b c d q
      rw [q] at hfd
      simp only at hfd
      exact ⟨a, b, d, by rw [q, hfd]⟩
    · cases hf
  have ho := O.inK _ _ hl
  have hbody : fd.body = .stmts (bodyOf fd) := by
    unfold isStmts at hst
    unfold bodyOf
    split at hst
    · rename_i b q; rw [q]
    · cases hst
  have hlim := X.top.nolimit.keeps O.base
  refine codeAny_call_function (R.limit) ho rfl hco hge hbody (codeRec_of O.inK hcd) ?_
  refine hb _ _ fun bs h₁ tk rb keep₁ ph => ?_
  rw [hcl]
  have O₁ := O.keeps keep₁
  have hnames : ∀ {bs : List (Str × Value)} {bds : List (Str × D)} {h : Heap}, RepB X.C τ h bs bds → bs.map (·.1) = bds.map (·.1) := by
    intro bs bds h r
    induction r with
    | nil => rfl
    | cons _ _ ih => simp [ih]
  have hn := hnames rb
  have hall : ∀ x ∈ bs, (fd.scope.names.lookup x.1 = some .local ∨ fd.scope.names.lookup x.1 = some .cell) ∧ x.1 ≠ "_headers" := fun x hx => by
    have : x.1 ∈ bds.map (·.1) := hn ▸ List.mem_map_of_mem hx
    obtain ⟨y, hy, e⟩ := List.mem_map.mp this
    have := List.all_eq_true.mp hloc y hy
    rw [e] at this
    simpa using this
  refine wpAny_newFunctionEnv_cells (s := { s with heap := h₁, toks := tk }) hk (fun x hx => (hall x hx).1.imp id fun e => ⟨e, cellsFrom_some _ _ _ (.inl e)⟩) fun env he s' x => ?_
  have hloc' : env.locals = h₁.objs.size := by subst he; rfl
  have hkind : env.kindOf = fun x => fd.scope.names.lookup x := by subst he; rfl
  have hcells : env.cells = cellsFrom (h₁.objs.size + 1) fd.scope.names [] := by subst he; rfl
  have keep₂ : ∀ b o, h₁.get? b = some o → s'.heap.get? b = some o := x.toInCall.keep
  have S₂ : Steps τ h₁ τ s'.heap := ⟨fun b o e _ => keep₂ b o e, fun _ k => .inl k⟩
  have O₂ := O₁.keeps keep₂
  have rb₂ := rb.step S₂
  obtain ⟨b1, b2⟩ := bind_both (C := X.C) (τ := τ) (h := s'.heap) env.kindOf (m := fun _ => none) (cm := fun _ => none) (ρ := fun _ => none) rb₂ (fun _ _ e => nomatch e) (fun _ _ e => nomatch e)
  have fresh : ∀ c, h₁.objs.size ≤ c → τ c = none ∧ X.hB.get? c = none := fun c hc => ⟨O₁.freshOff hc, O₁.freshNew hc⟩
  have above : ∀ y c, env.cells.lookup y = some c → h₁.objs.size ≤ c := fun y c e => by
    have h1 : env.locals < c := x.above y c (mem_of_lookup e)
    rw [hloc'] at h1
    exact Nat.le_of_lt h1
  have Fr : FrameOk X (compSk fd.scope) env (bindD bds fun _ => none) τ s'.heap := by
    refine ⟨fun y => ?_, by subst he; exact hk, by subst he; exact hg, by subst he; exact hbu, ⟨_, x.toInCall.ns, bindL_none _ bs _ (List.all_eq_true.mpr fun z hz => by simpa using (hall z hz).2) rfl, fun y d e l => ?_⟩, fun y c e => ?_, ?_, ?_, ?_, ?_, fun y z c e e' => ?_⟩
    · unfold compSk
      rw [hkind]
      cases q : fd.scope.names.lookup y with
      | none => trivial
      | some k =>
        have hm := mem_of_lookup q
        cases k with
        | cell => exact ⟨q, by rw [hcells]; exact cellsFrom_has _ _ hm⟩
        | free =>
          have := List.all_eq_true.mp hnf _ hm
          simp at this
        | «local» => exact q
        | globalImplicit => exact q
        | _ => trivial
    · refine b1 y d e ?_
      rw [hkind]
      unfold compSk at l
      split at l <;> first | assumption | cases l
    · refine ⟨_, x.cell y c e, fun d l e' => ?_⟩
      obtain ⟨v, a, b⟩ := b2 y d e' (by
        rw [hkind]
        intro q
        have q' : fd.scope.names.lookup y = some .local := q
        apply l
        unfold compSk
        rw [q'])
      exact ⟨v, a, b⟩
    · rw [hloc']; exact (fresh _ (Nat.le_refl _)).1
    · exact fun y c e => (fresh c (above y c e)).1
    · rw [hloc']; exact (fresh _ (Nat.le_refl _)).2
    · exact fun y c e => (fresh c (above y c e)).2
    · exact name_of_addr x.apart (mem_of_lookup e) (mem_of_lookup e')
  have os' : s'.os = s.os ∧ s'.gens = s.gens := by
    obtain ⟨hh, tk', e⟩ := x.toInCall.same
    rw [e]; exact ⟨rfl, rfl⟩
  refine ⟨hlim.keeps fun b o e => keep₂ b o (keep₁ b o e), codeAny_func ?_⟩
  refine h env s' h₁ ph keep₁ keep₂ (R.deeper env) O₂ Fr (fun b i => ?_) os'.1 os'.2 (by subst he; rfl)
  cases hb : h₁.get? b with
  | none => rfl
  | some o =>
    rcases i with rfl | ⟨y, i⟩
    · rw [hloc', get?_size] at hb; cases hb
    · exact absurd (Heap.lt_size hb) (Nat.not_lt.mpr (above y b i))
/-- the call of a def, at one place: with what the heap held at the call -/
theorem code_fn_gen {fa : Addr} {fd : FuncData} {ds : List D} {ks : List (Str × D)} {bds : List (Str × D)} {A : Around} {s : Shared} {vs ws : List Value} {RR : Result → Shared → Prop} (hfd : fnAt X.K fa = fd) (hok : fnOk X.K fa fd = true) (hb : BindV X fd ds ks τ bds)
    (hloc : (bds.all fun b => (fd.scope.names.lookup b.1 == some .local || fd.scope.names.lookup b.1 == some .cell) && b.1 != ("_headers" : Str)) = true) (R : Room (n + 1) A) (O : Ok X τ s.heap) (rv : RepAll X.C τ s.heap vs ds) (rw' : RepAll X.C τ s.heap ws (ks.map (·.2)))
    (h : ∀ env s', Room n (A.deeper env) → Ok X τ s'.heap → FrameOk X (compSk fd.scope) env (bindD bds fun _ => none) τ s'.heap → (∀ b o, s.heap.get? b = some o → s'.heap.get? b = some o) → (∀ b, InFr env b → s.heap.get? b = none) → s'.os = s.os → s'.gens = s.gens → env.frame = some env.locals →
      wpAny X.M (A.deeper env) (execs (bodyOf fd) env) (fun f s'' => RR (.ok (.ret (match f with | .ret v => v | _ => .none))) s'')
        (fun e s' => wpAny X.M (A.deeper env) (leaving env e) (fun _ s'' => RR (.error e) s'') (fun e' s'' => RR (.error e') s'') s') s') :
    codeAny X.M A (.call (.ref fa) ⟨vs, (ks.map (·.1)).zip ws⟩) RR s :=
  code_fn_base (Ph := fun _ => True) hfd hok (fun E Q q => hb A.in1 s E vs ws Q O rv rw' fun bs h' tk r k => q bs h' tk r k trivial) hloc R O fun env s' h₁ _ k1 k2 R' O' F' ni o g f =>
    h env s' R' O' F' (fun b o e => k2 b o (k1 b o e)) (fun b i => by
      cases p : s.heap.get? b with
      | none => rfl
      | some o => rw [← k1 b o p, ni b i]) o g f
theorem codeV_fn {fa : Addr} {fd : FuncData} {ds : List D} {ks : List (Str × D)} {bds : List (Str × D)} (hfd : fnAt X.K fa = fd) (hok : fnOk X.K fa fd = true) (hb : BindV X fd ds ks τ bds)
    (hloc : (bds.all fun b => (fd.scope.names.lookup b.1 == some .local || fd.scope.names.lookup b.1 == some .cell) && b.1 != ("_headers" : Str)) = true)
    (h : Ex X n (compSk fd.scope) (bindD bds fun _ => none) τ (bodyOf fd) (fun fl _ τ' => match fl with | .ret d => Q d τ' | .next => Q .none τ' | _ => False)) : CodeV X (n + 1) (.ref fa) ds ks τ Q := by
  intro A s vs ws R O rv rw'
  refine code_fn_gen hfd hok hb hloc R O rv rw' fun env s' R' O' F' keep ni o g _ => ?_
  refine wpAny_mono (h env _ s' _ R' O' F') (fun f s₃ P => ?_) fun _ _ e => e
  obtain ⟨fl, ρ', τ', q, fr, O', F', S', o', g'⟩ := P
  have S : Steps τ s.heap τ' s₃.heap := ⟨fun b o e k => S'.keep b o (keep b o e) k (fun i => by rw [ni b i] at e; cases e), fun b k => by
    rcases S'.doms b k with r | r
    · exact .inl r
    · cases p : s.heap.get? b with
      | none => exact .inr rfl
      | some o => rw [keep b o p] at r; cases r⟩
  cases f <;> cases fl <;> first | exact fr.elim | exact q.elim | skip
  · exact ⟨.none, τ', q, .none, O', S, o'.trans o, g'.trans g⟩
  · exact ⟨_, τ', q, fr, O', S, o'.trans o, g'.trans g⟩
end
end

section
section
variable {X : Cx} {n : Nat} {sk : Sk} {env : Env} {ρ : Str → Option D} {τ : Store} {Q : D → Store → Prop}

/-- what holds ahead of a turn of a while -/
inductive WhlI (X : Cx) (sk : Sk) (I : Nat → (Str → Option D) → Store → Prop) (env : Env) (τ : Store) (s : Shared) (k : Nat) (s' : Shared) : Prop
  | intro (ρ' : Str → Option D) (τ' : Store) : I k ρ' τ' → Ok X τ' s'.heap → FrameOk X sk env ρ' τ' s'.heap → StepsF env τ s.heap τ' s'.heap → s'.os = s.os → s'.gens = s.gens → WhlI X sk I env τ s k s'
theorem ex_while {test : Expr} {body : List Stmt} {pos : Pos} {QS : Fl → (Str → Option D) → Store → Prop} (I : Nat → (Str → Option D) → Store → Prop) (m : Nat) (h0 : I m ρ τ)
    (turn : ∀ m ρ₁ τ₁, I m ρ₁ τ₁ → Tst X n sk ρ₁ τ₁ test (fun b τ₂ => if b = true then Ex X n sk ρ₁ τ₂ body (fun fl ρ₃ τ₃ => match fl with
        | .next | .cont => ∃ k, k < m ∧ I k ρ₃ τ₃
        | .brk => QS .next ρ₃ τ₃
        | .ret d => QS (.ret d) ρ₃ τ₃) else QS .next ρ₁ τ₂)) : Ex1 X n sk ρ τ (.While test body [] pos) QS := fun env A s E R O F => by
  refine wpAny_While (codeAny_whileLoop (WhlI X sk I env τ s) ?_ m ⟨ρ, τ, h0, O, F, .refl _ _ _, rfl, rfl⟩)
  rintro k s₁ ⟨ρ₁, τ₁, i, O₁, F₁, S₁, o₁, g₁⟩
  refine (turn k ρ₁ τ₁ i).then R O₁ F₁ fun b s₂ τ₂ q O₂ F₂ S₂ o₂ g₂ => ?_
  cases b
  · rw [if_neg Bool.false_ne_true]
    exact wpAny_execs_nil ⟨.next, ρ₁, τ₂, q, trivial, O₂, F₂, S₁.trans F₁ S₂.toF, o₂.trans o₁, g₂.trans g₁⟩
  · rw [if_pos rfl]
    refine wpAny_mono ((show Ex X n sk ρ₁ τ₂ body _ from q) env A s₂ _ R O₂ F₂) (fun f s₃ P => ?_) fun _ _ e => e
    obtain ⟨fl, ρ₃, τ₃, q₃, fr, O₃, F₃, S₃, o₃, g₃⟩ := P
    have Sall : StepsF env τ s.heap τ₃ s₃.heap := (S₁.trans F₁ S₂.toF).trans F₂ S₃
    have oo := o₃.trans (o₂.trans o₁)
    have gg := g₃.trans (g₂.trans g₁)
    cases f <;> cases fl <;> first | exact fr.elim | skip
    · obtain ⟨k', hk, i'⟩ := q₃
      exact ⟨k', hk, ρ₃, τ₃, i', O₃, F₃, Sall, oo, gg⟩
    · exact ⟨.next, ρ₃, τ₃, q₃, trivial, O₃, F₃, Sall, oo, gg⟩
    · obtain ⟨k', hk, i'⟩ := q₃
      exact ⟨k', hk, ρ₃, τ₃, i', O₃, F₃, Sall, oo, gg⟩
    · exact ⟨.ret _, ρ₃, τ₃, q₃, fr, O₃, F₃, Sall, oo, gg⟩

/-- an assignment to a target of two names -/
theorem ex_assign2 {x y : Str} {px py pt pos : Pos} {k : Nat} {value : Expr} {QS : Fl → (Str → Option D) → Store → Prop} (hs : notComp value = true)
    (h : Ev X n sk ρ τ value (fun d τ₁ => ∃ ρ₁, Asg sk (.Tuple [.Name x px, .Name y py] k pt) d ρ ρ₁ ∧ QS .next ρ₁ τ₁))
    (hex : ∀ env : Env, exec (.Assign [.Tuple [.Name x px, .Name y py] k pt] value pos) env = (do standAt pos; let v ← eval value env; assign (.Tuple [.Name x px, .Name y py] k pt) env v; pure .next)) :
    Ex1 X n sk ρ τ (.Assign [.Tuple [.Name x px, .Name y py] k pt] value pos) QS := fun env A s E R O F => by
  rw [hex env]
  refine wpAny_bind (wpAny_standAt (wpAny_bind (h.then R O F fun v s₁ d τ₁ q r O₁ F₁ S₁ o₁ g₁ => ?_)))
  obtain ⟨ρ₁, a, q⟩ := q
  refine wpAny_bind (asg_ok R.hd a O₁ F₁ r fun h' tk O' F' S' _ => wpAny_pure ?_)
  exact ⟨.next, _, _, q, trivial, O', F', S₁.toF.trans F₁ S', o₁, g₁⟩

/-! built-in calls -/
theorem CallV.intro0 {f : Value} {ds : List D} (h : ∀ A s E vs, Room n A → Ok X τ s.heap → RepAll X.C τ s.heap vs ds → wpAny X.M A (call f vs []) (Post X τ s Q) E s) : CallV X n f ds [] τ Q := fun A s E vs ws R O r q => by
  obtain rfl := q.nil_inv
  exact h A s E vs R O r

theorem c_abs {i : Int} (h : Q (.int i.natAbs) τ) : CallV X n (.builtin "abs") [.int i] [] τ Q := .intro0 fun A s E vs R O r => by
  obtain ⟨_, _, rfl, a, r⟩ := r.inv
  obtain rfl := r.nil_inv; obtain ⟨_, rfl⟩ := a.inv
  refine call_abs_int fun u tk => Post.here O h ?_ rfl rfl rfl
  have e : (if i < 0 then -i else i) = (i.natAbs : Int) := by split <;> omega
  rw [e]; exact .int _ _
theorem c_int {i : Int} (h : Q (.int i) τ) : CallV X n (.type "int") [.int i] [] τ Q := .intro0 fun A s E vs R O r => by
  obtain ⟨_, _, rfl, a, r⟩ := r.inv
  obtain rfl := r.nil_inv; obtain ⟨_, rfl⟩ := a.inv; exact call_int_int (Post.here O h (.int _ _) rfl rfl rfl)
theorem c_divmod {a b : Int} (hb : b ≠ 0) (hs : b.natAbs.log2 < 9000) (h : Q (.tuple [.int (a.fdiv b), .int (a.fmod b)]) τ) : CallV X n (.builtin "divmod") [.int a, .int b] [] τ Q := .intro0 fun A s E vs R O r => by
  obtain ⟨_, _, rfl, ra, r⟩ := r.inv
  obtain ⟨_, _, rfl, rb, r⟩ := r.inv
  obtain rfl := r.nil_inv; obtain ⟨_, rfl⟩ := ra.inv; obtain ⟨_, rfl⟩ := rb.inv
  exact divmod_int hb (Post.new (d := .tuple [.int (a.fdiv b), .int (a.fmod b)]) O h (rep_newTuple (vs := [.int (a.fdiv b) s.toks, .int (a.fmod b) (s.toks + 1)]) O (.cons (.int _ _) (.cons (.int _ _) .nil)))) (.inl (PyProof.noPylong_of_log2 hs))
theorem c_range1 {b : Int} (h : Q (.rng 0 b) τ) : CallV X n (.type "range") [.int b] [] τ Q := .intro0 fun A s E vs R O r => by
  obtain ⟨_, _, rfl, a, r⟩ := r.inv
  obtain rfl := r.nil_inv; obtain ⟨_, rfl⟩ := a.inv
  exact call_range_1 (Post.new O h (.rng O.offNew (Heap.get?_push_size _ rfl)))
theorem c_range2 {a b : Int} (h : Q (.rng a b) τ) : CallV X n (.type "range") [.int a, .int b] [] τ Q := .intro0 fun A s E vs R O r => by
  obtain ⟨_, _, rfl, ra, r⟩ := r.inv
  obtain ⟨_, _, rfl, rb, r⟩ := r.inv
  obtain rfl := r.nil_inv; obtain ⟨_, rfl⟩ := ra.inv; obtain ⟨_, rfl⟩ := rb.inv
  exact call_range_2 (Post.new O h (.rng O.offNew (Heap.get?_push_size _ rfl)))
theorem c_len {d : D} {ds : List D} (L : IsL τ d ds) (hsz : ds.length < 2 ^ 63) (h : Q (.int ds.length) τ) : CallV X n (.builtin "len") [d] [] τ Q := .intro0 fun A s E vs R O r => by
  obtain ⟨_, _, rfl, a, r⟩ := r.inv
  obtain rfl := r.nil_inv
  obtain ⟨l, ws, k, rfl, hv, rs⟩ := L.at O a
  have hl : s.heap.IsList l ws.toArray := ⟨_, hv, rfl, k, rfl⟩
  refine call_len_list hl (by rw [List.size_toArray, rs.length]; omega) (Post.here O h ?_ rfl rfl rfl)
  rw [List.size_toArray, rs.length]
  exact .int _ _
end
end

section
section
variable {X : Cx} {n : Nat} {sk : Sk} {env : Env} {ρ : Str → Option D} {τ : Store} {Q : D → Store → Prop}

theorem Post.kept {s s' : Shared} {v : Value} {d : D} (O : Ok X τ s.heap) (hq : Q d τ) (k : ∀ b o, s.heap.get? b = some o → s'.heap.get? b = some o) (r : Rep X.C τ s'.heap v d) (ho : s'.os = s.os) (hg : s'.gens = s.gens) : Post X τ s Q v s' :=
  ⟨d, τ, hq, r, O.keeps k, ⟨fun b o e _ => k b o e, fun _ q => .inl q⟩, ho, hg⟩

/-- a method of a str's -/
theorem gm_str {x : Str} {name : Str} {id : String} (slot : Slot "str" name id) (ty : typeOf (.builtin id) = pure (.type "method_descriptor")) : GM X n (.str x) name τ (.builtin id) :=
  ⟨keepable_builtin _, fun A s E pl ov Q R O r h => by
    obtain ⟨_, rfl⟩ := r.inv
    exact PySem.GM.of _ (typeIs_str _ _ _) slot ty (fun _ e => nomatch e) (h s.toks)⟩
theorem gm_bytes {x : Array UInt8} {name : Str} {id : String} (slot : Slot "bytes" name id) (ty : typeOf (.builtin id) = pure (.type "method_descriptor")) : GM X n (.bytes x) name τ (.builtin id) :=
  ⟨keepable_builtin _, fun A s E pl ov Q R O r h => by
    obtain ⟨_, rfl⟩ := r.inv
    exact KBd.method_of _ (typeIs_bytes _ _ _) slot ty (fun _ e => nomatch e) (h s.toks)⟩
theorem gm_list {d : D} {ds : List D} {name : Str} {id : String} (L : IsL τ d ds) (slot : Slot "list" name id) (ty : typeOf (.builtin id) = pure (.type "method_descriptor")) : GM X n d name τ (.builtin id) :=
  ⟨keepable_builtin _, fun A s E pl ov Q R O r h => by
    obtain ⟨l, ws, k, rfl, hv, rs⟩ := L.at O r
    exact getMethod_builtin (T := "list") ⟨_, hv, rfl⟩ PySem.F.plainAttrs_list slot ty (fun a e => by cases e; exact ⟨_, hv, rfl⟩) (h s.toks)⟩

theorem c_upper {x : Str} (hfit : x.length ≤ 5592405) (h : Q (.str (Txt.upper x)) τ) : CallV X n (.builtin "str.upper") [.str x] [] τ Q := .intro0 fun A s E vs R O r => by
  cases r with
  | cons a r =>
    obtain rfl := r.nil_inv; obtain ⟨_, rfl⟩ := a.inv
    exact SC.upper (fit_upper hfit) (Post.here O h (.str _ _) rfl rfl rfl)
theorem c_lower {x : Str} (hfit : x.length ≤ 5592405) (h : Q (.str (Txt.lower x)) τ) : CallV X n (.builtin "str.lower") [.str x] [] τ Q := .intro0 fun A s E vs R O r => by
  cases r with
  | cons a r =>
    obtain rfl := r.nil_inv; obtain ⟨_, rfl⟩ := a.inv
    exact SC.lower (fit_lower hfit) (Post.here O h (.str _ _) rfl rfl rfl)
theorem strs_of {C : Addr} {h : Heap} : ∀ {vs : List Value} {xs : List Str}, RepAll C τ h vs (xs.map D.str) → ∃ l : List (Str × Tok), vs = strValues l ∧ l.map (·.1) = xs
  | _, [], r => by obtain rfl := r.nil_inv; exact ⟨[], rfl, rfl⟩
  | _, x :: xs, r => by
    cases r with
    | cons a r =>
      cases a with
      | str _ t =>
        obtain ⟨l, rfl, e⟩ := strs_of r
        exact ⟨(x, t) :: l, rfl, by rw [List.map_cons, e]⟩
theorem rep_strs {C : Addr} {h : Heap} : ∀ (l : List (Str × Tok)), RepAll C τ h (strValues l) ((l.map (·.1)).map D.str)
  | [] => .nil
  | (x, t) :: l => .cons (.str x t) (rep_strs l)

theorem c_join {x : Str} {d : D} {xs : List Str} (L : IsL τ d (xs.map D.str)) (hok : JoinOk x xs = true) (h : Q (.str (Txt.join x xs)) τ) : CallV X n (.builtin "str.join") [.str x, d] [] τ Q := .intro0 fun A s E vs R O r => by
  cases r with
  | cons a r => cases r with
    | cons b r =>
      obtain rfl := r.nil_inv; obtain ⟨_, rfl⟩ := a.inv
      obtain ⟨l, ws, k, rfl, hv, rs⟩ := L.at O b
      obtain ⟨lt, rfl, e⟩ := strs_of rs
      exact SC.join ⟨_, hv, rfl, k, rfl⟩ e hok fun t' k => Post.here O h (.str _ _) rfl rfl rfl
theorem rep_newStrs {h : Heap} (O : Ok X τ h) (l : List (Str × Tok)) {xs : List Str} (e : l.map (·.1) = xs) : Rep X.C τ (h.push (lstO (strValues l) 0)) (.ref h.objs.size) (.list (xs.map D.str)) := by
  subst e
  exact rep_newList O (rep_strs l)
theorem c_split {x y : Str} (hy : (y.length == 0) = false) (hsz : x.length ≤ sizeLine) (hsz2 : (PySem.Builtin.Str.partsBetween x (PySem.Builtin.Str.occurrences x y 0 x.length (x.length + 1)) y.length).length ≤ sizeLine) (h : Q (.list ((Txt.split x y).map D.str)) τ) :
    CallV X n (.builtin "str.split") [.str x, .str y] [] τ Q := .intro0 fun A s E vs R O r => by
  cases r with
  | cons a r => cases r with
    | cons b r =>
      obtain rfl := r.nil_inv
      cases a with
      | str _ t =>
      cases b with
      | str _ u =>
      have fin : ∀ (l : List (Str × Tok)) tk, l.map (·.1) = Txt.split x y → Post X τ s Q (.ref s.heap.objs.size) { s with heap := s.heap.push (lstO (strValues l) 0), toks := tk } := fun l tk e =>
        Post.new O h (rep_newStrs O l e)
      cases h1 : (decide (x.length < y.length) || decide (PySem.Builtin.Str.strKind x < PySem.Builtin.Str.strKind y))
      · cases hf : (PySem.Builtin.Str.occurrences x y 0 x.length (x.length + 1)).isEmpty
        · refine call_meets F.slot_str_split (typeIs_str _ _ _) F.entry_str_split (F.args_str_split_2 _ _) (meets_str_split_sep x y t u h1 hy hf hsz hsz2) ?_
          show wants _ E _ { s with toks := _, heap := s.heap.push { cls := .type "list", data := .seq (strsFrom s.toks (PySem.Builtin.Str.partsBetween x (PySem.Builtin.Str.occurrences x y 0 x.length (x.length + 1)) y.length)).toArray } }
          rw [strsFrom_eq]
          exact fin (numbered s.toks _) _ ((numbered_texts _ _).trans ((if_neg (ne_true_of_eq_false h1)).trans (if_neg (ne_true_of_eq_false hf))).symm)
        · exact call_meets F.slot_str_split (typeIs_str _ _ _) F.entry_str_split (F.args_str_split_2 _ _) (meets_str_split_not_found x y t u h1 hy hf)
            (fin [(x, t)] s.toks ((if_neg (ne_true_of_eq_false h1)).trans (if_pos hf)).symm)
      · exact call_meets F.slot_str_split (typeIs_str _ _ _) F.entry_str_split (F.args_str_split_2 _ _) (meets_str_split_cannot_occur x y t u h1)
          (fin [(x, t)] s.toks (if_pos h1).symm)

/-- append to a list of one's own -/
theorem c_append {a : Addr} {ds : List D} {d : D} (e : τ a = some ds) (hsz : ds.length ≤ sizeLine) (h : Q .none (put τ a (ds ++ [d]))) : CallV X n (.builtin "list.append") [.own a, d] [] τ Q := .intro0 fun A s E vs R O r => by
  cases r with
  | cons ra r => cases r with
    | cons rd r =>
      obtain rfl := r.nil_inv; obtain rfl := ra.own_inv
      rename_i vd
      obtain ⟨ws, k, hv, rs⟩ := O.store a ds e
      refine append_at hv (fun h' hs hv' => ?_) (by rw [List.size_toArray, rs.length]; exact hsz)
      have hv2 : h'.get? a = some (lstO (ws ++ [vd]) (k + 1)) := by rw [hv', List.push_toArray]
      obtain ⟨O', S'⟩ := O.lay e hs hv2 (rs.append (.cons rd .nil))
      exact ⟨.none, _, h, .none, O', S', rfl, rfl⟩
theorem c_tuple {d : D} {ds : List D} (L : IsL τ d ds) (hsz : ds.length ≤ sizeLine) (h : Q (.tuple ds) τ) : CallV X n (.type "tuple") [d] [] τ Q := .intro0 fun A s E vs R O r => by
  cases r with
  | cons a r =>
    obtain rfl := r.nil_inv
    obtain ⟨l, ws, k, rfl, hv, rs⟩ := L.at O a
    refine call_tuple_list ⟨_, hv, rfl, k, rfl⟩ (fun h' kp => ?_) (by rw [List.size_toArray, rs.length]; exact hsz)
    have O' : Ok X τ h' := O.keeps kp
    have rs' : RepAll X.C τ h' ws ds := rs.step ⟨fun b o e _ => kp b o e, fun _ q => .inl q⟩
    exact Post.kept O h (fun b o e => Heap.get?_push_of_some _ (kp b o e)) (rep_newTuple O' rs') rfl rfl

theorem ints_of {C : Addr} {h : Heap} : ∀ {vs : List Value} {xs : List Int}, RepAll C τ h vs (xs.map D.int) → ∃ l : List (Int × Tok), vs = l.map (fun p => .int p.1 p.2) ∧ l.map (·.1) = xs
  | _, [], r => by obtain rfl := r.nil_inv; exact ⟨[], rfl, rfl⟩
  | _, x :: xs, r => by
    cases r with
    | cons a r =>
      cases a with
      | int _ t =>
        obtain ⟨l, rfl, e⟩ := ints_of r
        exact ⟨(x, t) :: l, rfl, by rw [List.map_cons, e]⟩
theorem intsAre_of {C : Addr} {h : Heap} : ∀ {vs : List Value} {xs : List Int}, RepAll C τ h vs (xs.map D.int) → IntsAre vs xs
  | _, [], r => by obtain rfl := r.nil_inv; exact .nil
  | _, x :: xs, r => by
    cases r with
    | cons a r => cases a with
      | int _ t => exact .cons x t (intsAre_of r)

theorem c_sum {d : D} {xs : List Int} (L : IsL τ d (xs.map D.int)) (h : Q (.int xs.sum) τ) : CallV X n (.builtin "sum") [d] [] τ Q := .intro0 fun A s E vs R O r => by
  cases r with
  | cons a r =>
    obtain rfl := r.nil_inv
    obtain ⟨l, ws, k, rfl, hv, rs⟩ := L.at O a
    obtain ⟨lt, rfl, e⟩ := ints_of rs
    have hl : s.heap.IsList l (intItems lt.toArray) := ⟨_, hv, rfl, k, by simp [intItems]⟩
    refine sum_intListG R.hd hl fun h' tk t' kp => Post.kept O h kp ?_ rfl rfl
    have e2 : preSum (numAt lt.toArray) lt.toArray.size = xs.sum := by
      rw [preSum_eq, List.take_of_length_le (by simp), ← e]
    rw [e2]; exact .int _ _
theorem c_min2 {a b : Int} (h : Q (.int (min a b)) τ) : CallV X n (.builtin "min") [.int a, .int b] [] τ Q := .intro0 fun A s E vs R O r => by
  cases r with
  | cons ra r => cases r with
    | cons rb r =>
      obtain rfl := r.nil_inv; obtain ⟨_, rfl⟩ := ra.inv; obtain ⟨_, rfl⟩ := rb.inv
      refine min_two_ints R.hd fun h' tk kp => Post.kept O h kp ?_ rfl rfl
      by_cases q : b < a
      · rw [if_pos q, Int.min_eq_right (by omega)]; exact .int _ _
      · rw [if_neg q, Int.min_eq_left (by omega)]; exact .int _ _
end
end

section
mutual
/-- plain data, of which == may be asked: (no bools, so that no bool meets an int) -/
noncomputable def okD : D → Bool
  | .none => true
  | .int _ => true
  | .str x => PyData.strOk x
  | .tuple ds => okDs ds
  | .list ds => okDs ds
  | _ => false
noncomputable def okDs : List D → Bool
  | [] => true
  | d :: ds => okD d && okDs ds
noncomputable def toP : D → PyData
  | .none => .none
  | .int i => .int i
  | .str x => .str x
  | .tuple ds => .tuple (toPs ds)
  | .list ds => .list (toPs ds)
  | _ => .none
noncomputable def toPs : List D → List PyData
  | [] => []
  | d :: ds => toP d :: toPs ds
end

theorem reads_both {C : Addr} {τ : Store} {h : Heap} : (∀ {v : Value} {d : D}, Rep C τ h v d → okD d = true → ∃ as, Reads h v (toP d) as) ∧ ∀ {vs : List Value} {ds : List D}, RepAll C τ h vs ds → okDs ds = true → ∃ as, ReadsAll h vs (toPs ds) as := by
  have f1 : ∀ {a : Addr} {vs : List Value} {n : Nat} {ds : List D}, τ a = none → h.get? a = some (tupO vs n) → RepAll C τ h vs ds → (okDs ds = true → ∃ as, ReadsAll h vs (toPs ds) as) → okD (.tuple ds) = true → ∃ as, Reads h (.ref a) (toP (.tuple ds)) as := fun o e _ ih k => by
    obtain ⟨as, q⟩ := ih k
    exact ⟨as, .tuple e rfl rfl (by simpa using q)⟩
  have f2 : ∀ {a : Addr} {vs : List Value} {n : Nat} {ds : List D}, τ a = none → h.get? a = some (lstO vs n) → RepAll C τ h vs ds → (okDs ds = true → ∃ as, ReadsAll h vs (toPs ds) as) → okD (.list ds) = true → ∃ as, Reads h (.ref a) (toP (.list ds)) as := fun o e _ ih k => by
    obtain ⟨as, q⟩ := ih k
    exact ⟨_, .list e rfl rfl (by simpa using q)⟩
  have f3 : ∀ {v : Value} {d : D} {vs : List Value} {ds : List D}, Rep C τ h v d → RepAll C τ h vs ds → (okD d = true → ∃ as, Reads h v (toP d) as) → (okDs ds = true → ∃ as, ReadsAll h vs (toPs ds) as) → okDs (d :: ds) = true → ∃ as, ReadsAll h (v :: vs) (toPs (d :: ds)) as := fun _ _ i1 i2 k => by
    have k : (okD _ && okDs _) = true := k
    obtain ⟨as, q⟩ := i1 (Bool.and_eq_true_iff.mp k).1
    obtain ⟨bs, p⟩ := i2 (Bool.and_eq_true_iff.mp k).2
    exact ⟨_, .cons q p⟩
  exact ⟨fun r => Rep.rec (motive_1 := fun v d _ => okD d = true → ∃ as, Reads h v (toP d) as) (motive_2 := fun vs ds _ => okDs ds = true → ∃ as, ReadsAll h vs (toPs ds) as)
      (fun _ => ⟨_, .none⟩) (fun _ k => nomatch k) (fun i t _ => ⟨_, .int i t⟩) (fun x t _ => ⟨_, .str x t⟩) (fun _ _ k => nomatch k) f1 f2 (fun _ k => nomatch k) (fun _ _ _ _ k => nomatch k) (fun _ k => nomatch k) (fun _ _ k => nomatch k) (fun _ _ _ _ _ k => nomatch k) (fun _ => ⟨_, .nil⟩) f3 r,
    fun r => RepAll.rec (motive_1 := fun v d _ => okD d = true → ∃ as, Reads h v (toP d) as) (motive_2 := fun vs ds _ => okDs ds = true → ∃ as, ReadsAll h vs (toPs ds) as)
      (fun _ => ⟨_, .none⟩) (fun _ k => nomatch k) (fun i t _ => ⟨_, .int i t⟩) (fun x t _ => ⟨_, .str x t⟩) (fun _ _ k => nomatch k) f1 f2 (fun _ k => nomatch k) (fun _ _ _ _ k => nomatch k) (fun _ k => nomatch k) (fun _ _ k => nomatch k) (fun _ _ _ _ _ k => nomatch k) (fun _ => ⟨_, .nil⟩) f3 r⟩
theorem reads_of {C : Addr} {τ : Store} {h : Heap} {v : Value} {d : D} (r : Rep C τ h v d) (k : okD d = true) : ∃ as, Reads h v (toP d) as := reads_both.1 r k
mutual
noncomputable def dep : D → Nat
  | .tuple ds => deps ds + 1
  | .list ds => deps ds + 1
  | _ => 0
noncomputable def deps : List D → Nat
  | [] => 0
  | d :: ds => max (dep d) (deps ds)
end

mutual
theorem lay_of : ∀ (d : D), okD d = true → (toP d).canLay0 = true ∧ (toP d).depth ≤ dep d
  | .none, _ => by simp [toP, PyData.canLay0, PyData.depth]
  | .int _, _ => by simp [toP, PyData.canLay0, PyData.depth]
  | .str x, h => by simp [okD] at h; simp [toP, PyData.canLay0, PyData.depth, h]
  | .tuple ds, h => by
    have q := lays_of ds h
    simp only [toP, PyData.canLay0, PyData.depth, q.1, true_and, dep]
    have := q.2; omega
  | .list ds, h => by
    have q := lays_of ds h
    simp only [toP, PyData.canLay0, PyData.depth, q.1, true_and, dep]
    have := q.2; omega
  | .bool _, k => (Bool.false_ne_true k).elim
  | .bytes _, k => (Bool.false_ne_true k).elim
  | .own _, k => (Bool.false_ne_true k).elim
  | .hdr .., k => (Bool.false_ne_true k).elim
  | .val _, k => (Bool.false_ne_true k).elim
  | .rng .., k => (Bool.false_ne_true k).elim
  | .slc .., k => (Bool.false_ne_true k).elim
theorem lays_of : ∀ (ds : List D), okDs ds = true → PyData.canLayAll0 (toPs ds) = true ∧ PyData.depthAll (toPs ds) ≤ deps ds
  | [], _ => by simp [toPs, PyData.canLayAll0, PyData.depthAll]
  | d :: ds, h => by
    simp only [okDs, Bool.and_eq_true] at h
    have h1 := lay_of d h.1
    have h2 := lays_of ds h.2
    simp only [toPs, PyData.canLayAll0, PyData.depthAll, h1.1, h2.1, Bool.and_self, true_and, deps]
    exact Nat.max_le.mpr ⟨Nat.le_trans h1.2 (Nat.le_max_left _ _), Nat.le_trans h2.2 (Nat.le_max_right _ _)⟩
end

mutual
theorem eqv_of : ∀ (d e : D), okD d = true → okD e = true → (PyData.eqv (toP d) (toP e) = true ↔ d = e)
  | .none, e, _, k => by cases e <;> simp_all [okD, toP, PyData.eqv]
  | .int _, e, _, k => by cases e <;> simp_all [okD, toP, PyData.eqv]
  | .str x, e, h, k => by cases e <;> simp_all [okD, toP, PyData.eqv]
  | .tuple ds, e, h, k => by
    cases e with
    | tuple es =>
      have q := eqvs_of ds es h k
      simp only [toP, PyData.eqv, D.tuple.injEq]
      exact q
    | _ => simp_all [okD, toP, PyData.eqv]
  | .list ds, e, h, k => by
    cases e with
    | list es =>
      have q := eqvs_of ds es h k
      simp only [toP, PyData.eqv, D.list.injEq]
      exact q
    | _ => simp_all [okD, toP, PyData.eqv]
  | .bool _, _, k, _ => (Bool.false_ne_true k).elim
  | .bytes _, _, k, _ => (Bool.false_ne_true k).elim
  | .own _, _, k, _ => (Bool.false_ne_true k).elim
  | .hdr .., _, k, _ => (Bool.false_ne_true k).elim
  | .val _, _, k, _ => (Bool.false_ne_true k).elim
  | .rng .., _, k, _ => (Bool.false_ne_true k).elim
  | .slc .., _, k, _ => (Bool.false_ne_true k).elim
theorem eqvs_of : ∀ (ds es : List D), okDs ds = true → okDs es = true → (PyData.eqvAll (toPs ds) (toPs es) = true ↔ ds = es)
  | [], es, _, _ => by cases es <;> simp [toPs, PyData.eqvAll]
  | d :: ds, [], _, _ => by simp [toPs, PyData.eqvAll]
  | d :: ds, e :: es, h, k => by
    simp only [okDs, Bool.and_eq_true] at h k
    have q1 := eqv_of d e h.1 k.1
    have q2 := eqvs_of ds es h.2 k.2
    simp only [toPs, PyData.eqvAll, Bool.and_eq_true, q1, q2, List.cons.injEq]
end

section
variable {X : Cx} {n : Nat} {sk : Sk} {env : Env} {ρ : Str → Option D} {τ : Store} {Q : D → Store → Prop}

/-- == of data: lists, tuples and what they hold -/
theorem t2_eqD {a b : D} (ha : okD a = true) (hb : okD b = true) (da : dep a ≤ 60) (db : dep b ≤ 60) (h : ∀ c : Bool, (c = true ↔ a = b) → Q (.bool c) τ) : T2 X n (compareOp .Eq) a b τ Q := fun A s E va vb R O r q => by
  obtain ⟨as, ra⟩ := reads_of r ha
  obtain ⟨bs, rb⟩ := reads_of q hb
  have la := lay_of a ha
  have lb := lay_of b hb
  refine eq_dataH ra rb ?_ ?_ (by have := R.un; show A.units + 64 < 9900; omega) (Post.here O (h _ (eqv_of a b ha hb)) (.bool _) rfl rfl rfl)
  · unfold SeqAt.shaped; rw [la.1, Bool.true_and]; exact decide_eq_true (Nat.le_trans la.2 (by omega))
  · unfold SeqAt.shaped; rw [lb.1, Bool.true_and]; exact decide_eq_true (Nat.le_trans lb.2 (by omega))
theorem t2_neD {a b : D} (ha : okD a = true) (hb : okD b = true) (da : dep a ≤ 60) (db : dep b ≤ 60) (h : ∀ c : Bool, (c = true ↔ a ≠ b) → Q (.bool c) τ) : T2 X n (compareOp .NotEq) a b τ Q := fun A s E va vb R O r q => by
  obtain ⟨as, ra⟩ := reads_of r ha
  obtain ⟨bs, rb⟩ := reads_of q hb
  have la := lay_of a ha
  have lb := lay_of b hb
  refine ne_dataH ra rb ?_ ?_ (by have := R.un; show A.units + 64 < 9900; omega) (Post.here O (h _ ?_) (.bool _) rfl rfl rfl)
  · unfold SeqAt.shaped; rw [la.1, Bool.true_and]; exact decide_eq_true (Nat.le_trans la.2 (by omega))
  · unfold SeqAt.shaped; rw [lb.1, Bool.true_and]; exact decide_eq_true (Nat.le_trans lb.2 (by omega))
  · have := eqv_of a b ha hb
    simp only [Bool.not_eq_true', ← Bool.not_eq_true, this, ne_eq]

theorem any_eqv {x : D} (hx : okD x = true) : ∀ {ds : List D}, okDs ds = true → ((toPs ds).any (fun y => PyData.eqv y (toP x)) = true ↔ x ∈ ds)
  | [], _ => by simp [toPs]
  | d :: ds, h => by
    simp only [okDs, Bool.and_eq_true] at h
    have q1 := eqv_of d x h.1 hx
    have q2 := any_eqv hx h.2
    simp only [toPs, List.any_cons, Bool.or_eq_true, q1, q2, List.mem_cons]
    exact or_congr ⟨Eq.symm, Eq.symm⟩ Iff.rfl

theorem t2_inD {x : D} {ds : List D} (hx : okD x = true) (hd : okDs ds = true) (dx : dep x ≤ 60) (h : ∀ c : Bool, (c = true ↔ x ∈ ds) → Q (.bool c) τ) : T2 X n (compareOp .In) x (.list ds) τ Q := fun A s E va vb R O r q => by
  obtain ⟨as, ra⟩ := reads_of r hx
  have hl : okD (.list ds) = true := hd
  obtain ⟨bs, rb⟩ := reads_of q hl
  have la := lay_of x hx
  have lb := lays_of ds hd
  rw [toP] at rb
  refine SeqAt.in_list_reads rb ra lb.1 la.1 ?_ (Post.here O (h _ (any_eqv hx hd)) (.bool _) rfl rfl rfl)
  have := R.un
  have l2 := la.2
  have : min (PyData.depthAll (toPs ds)) (toP x).depth ≤ (toP x).depth := Nat.min_le_right _ _
  show A.units + 1 + _ < 9900
  omega
/-- is None -/
noncomputable def isNone : D → Option Bool
  | .none => some true
  | .bool _ | .int _ | .str _ | .bytes _ | .tuple _ | .list _ | .own _ | .hdr .. => some false
  | _ => none
theorem noneV {C : Addr} {h : Heap} {v : Value} {d : D} {b : Bool} (r : Rep C τ h v d) (hb : isNone d = some b) : (v == Value.none) = b := by
  cases d with
  | none => obtain rfl := r.none_inv; exact Option.some.inj hb
  | bool => obtain rfl := r.bool_inv; exact Option.some.inj hb
  | int => obtain ⟨_, rfl⟩ := r.inv; exact Option.some.inj hb
  | str => obtain ⟨_, rfl⟩ := r.inv; exact Option.some.inj hb
  | bytes => obtain ⟨_, rfl⟩ := r.inv; exact Option.some.inj hb
  | tuple => obtain ⟨_, _, _, rfl, _⟩ := r.inv; exact Option.some.inj hb
  | list => obtain ⟨_, _, _, rfl, _⟩ := r.inv; exact Option.some.inj hb
  | own => obtain rfl := r.own_inv; exact Option.some.inj hb
  | hdr => obtain ⟨_, _, _, _, rfl, _⟩ := r.inv; exact Option.some.inj hb
  | _ => cases hb
theorem t2_isNot {d : D} {b : Bool} (hb : isNone d = some b) (h : Q (.bool (!b)) τ) : T2 X n (compareOp .IsNot) d .none τ Q := fun A s E va vb R O r q => by
  obtain rfl : vb = Value.none := q.inv
  refine isnot_none_gen ?_
  rw [noneV r hb]
  exact Post.here O h (.bool _) rfl rfl rfl
end
end

section
open PySem.Builtin

theorem list_yield {β : Type} {f : Nat → β → Sem (ForInStep β)} (c : Nat → β) : ∀ (k m : Nat), (∀ i, m ≤ i → i < m + k → f i (c i) = pure (.yield (c (i + 1)))) → forIn (List.range' m k) (c m) f = pure (c (m + k))
  | 0, m, _ => by simp
  | k + 1, m, h => by
    rw [List.range'_succ, List.forIn_cons, h m (Nat.le_refl _) (by omega), pure_bind]
    simp only
    rw [list_yield c k (m + 1) fun i h1 h2 => h i (by omega) (by omega)]
    congr 2; omega
theorem range_yield {β : Type} {f : Nat → β → Sem (ForInStep β)} {n : Nat} {c0 : β} (c : Nat → β) (h0 : c 0 = c0) (h : ∀ i, i < n → f i (c i) = pure (.yield (c (i + 1)))) : forIn [0:n] c0 f = pure (c n) := by
  subst h0
  rw [Std.Legacy.Range.forIn_eq_forIn_range']
  have hsz : ([0:n] : Std.Legacy.Range).size = n := by simp [Std.Legacy.Range.size]
  show forIn (List.range' 0 ([0:n] : Std.Legacy.Range).size 1) (c 0) f = _
  rw [hsz]
  have := list_yield (f := f) c n 0 fun i _ h2 => h i (by omega)
  simpa using this

theorem runAscii {id : String} {b : Array UInt8} (hb : ∀ p, p < b.size → (b.getD p 0).toNat < 128) (hsz : b.size ≤ sizeLine) :
    _codecs.runDecoder id _codecs.asciiDecoder none true b 0 [] = pure (b.map (·.toNat), b.size) := by
  unfold _codecs.runDecoder
  simp only []
  rw [range_yield (n := b.size) (fun i => (i, ((b.toList.map (·.toNat)).take i).toArray, ({ held := [] } : _codecs.Faults))) (by simp)]
  · simp only [pure_bind]
    rw [List.take_of_length_le (by simp), show (b.toList.map (·.toNat)).toArray = b.map (·.toNat) by apply Array.toList_inj.mp; simp]
  · intro i hi
    have h1 : ¬ (((b.toList.map (·.toNat)).take i).toArray).size > sizeLine := by
      simp; omega
    rw [if_neg h1, if_neg (by show ¬ i ≥ b.size; omega)]
    have e : _codecs.asciiDecoder.find true b i = .text [(b.getD i 0).toNat] (i + 1) := by
      show (if (b.getD i 0).toNat < 128 then _ else _) = _
      rw [if_pos (hb i hi)]; rfl
    show (match _codecs.asciiDecoder.find true b i with | _ => _) = _
    rw [e]
    simp only
    congr 3
    have e2 : ((b.toList.map (·.toNat)).take i).toArray ++ [(b.getD i 0).toNat].toArray = ((b.toList.map (·.toNat)).take (i + 1)).toArray := by
      rw [List.append_toArray]
      congr 1
      rw [List.take_succ_eq_append_getElem (by simpa using hi)]
      simp [Array.getD, hi]
    rw [e2]
theorem entry_ascii {c : UInt8} {cs : List UInt8} {t u : Tok} : «bytes.decode» ⟨[.bytes (c :: cs).toArray t, .str (PySem.Str.ofString "ascii") u], []⟩ = (mkStr (PySem.Str.ofString "utf-8") >>= fun _ => mkStr (PySem.Str.ofString "ascii") >>= fun e => mkStr (PySem.Str.ofString "bytes.decode") >>= fun d =>
    call (.builtin "_codecs.decode.text") [.bytes (c :: cs).toArray t, e, .none, d] >>= fun v => ret v) := by kernel_rfl
theorem entry_ascii0 {t u : Tok} : «bytes.decode» ⟨[.bytes #[] t, .str (PySem.Str.ofString "ascii") u], []⟩ = (rule "bytes.decode.empty" >>= fun _ => retStr Str.empty) := by kernel_rfl
theorem road_ascii {id : String} {b : Array UInt8} : _codecs.decodeRoad id b (PySem.Str.ofString "ascii") none [] = (_codecs.runDecoder id _codecs.asciiDecoder none true b 0 [] >>= fun r => mkStr ⟨r.1⟩) := by kernel_rfl
theorem args_dec (a b : Value) : argsOk "bytes.decode" ⟨[a, b], []⟩ := by unfold argsOk; kernel_rfl


theorem meets_text_ascii {b : Array UInt8} {t t1 t2 : Tok} {d : PySem.Str} (hb : ∀ p, p < b.size → (b.getD p 0).toNat < 128) (hsz : b.size ≤ sizeLine) :
    Meets («_codecs.decode.text» ⟨[.bytes b t, .str (PySem.Str.ofString "ascii") t1, .none, .str d t2], []⟩) (fun _ R s => R (.ok (.ret (.str ⟨b.map (·.toNat)⟩ s.toks))) { s with toks := s.toks + 1 }) := by
  refine .of_wp fun prog w A R s hS => ?_
  show wpAny _ _ (Bytes.bytesLike _ (.bytes b t) >>= fun r => _) _ _ s
  refine wpAny_bind (wpAny_of_eq KBd.like_eq ?_)
  refine wpAny_bind (wpAny_of_eq KBd.held_eq ?_)
  show wpAny _ _ (_codecs.decodeRoad _ b (PySem.Str.ofString "ascii") none [] >>= fun v => _) _ _ s
  rw [road_ascii, runAscii hb hsz]
  refine wpAny_bind (wpAny_bind (wpAny_pure ?_))
  exact wpAny_mkStr (wpAny_pure ⟨_, rfl, hS⟩) (by show (b.map (·.toNat)).size ≤ _; rw [Array.size_map]; exact hsz)

section
variable {X : Cx} {n : Nat} {sk : Sk} {env : Env} {ρ : Str → Option D} {τ : Store} {Q : D → Store → Prop}
theorem c_decode {b : Array UInt8} (hb : ∀ p, p < b.size → (b.getD p 0).toNat < 128) (hsz : b.size ≤ sizeLine) (h : Q (.str ⟨b.map (·.toNat)⟩) τ) :
    CallV X n (.builtin "bytes.decode") [.bytes b, .str (PySem.Str.ofString "ascii")] [] τ Q := .intro0 fun A s E vs R O r => by
  obtain ⟨_, _, rfl, a, r⟩ := r.inv
  obtain ⟨_, _, rfl, c, r⟩ := r.inv
  obtain rfl := r.nil_inv
  cases a with
  | bytes _ t =>
  obtain ⟨u, rfl⟩ := c.inv
  have hM : Meets («bytes.decode» ⟨[.bytes b t, .str (PySem.Str.ofString "ascii") u], []⟩) (fun _ R s => ∀ t' k, R (.ok (.ret (.str ⟨b.map (·.toNat)⟩ t'))) { s with toks := k }) := by
    refine .of_wp fun prog w A R s hS => ?_
    rcases hbe : b.toList with _ | ⟨c, cs⟩
    · obtain rfl : b = #[] := Array.toList_inj.mp hbe
      rw [entry_ascii0]
      refine wpAny_bind (wpAny_rule ?_)
      show wpAny _ _ (mkStr Str.empty >>= fun v => ret v) _ _ s
      have ee : (⟨(#[] : Array UInt8).map (·.toNat)⟩ : PySem.Str) = Str.empty := by simp [Str.empty]
      rw [ee] at hS
      exact wpAny_bind (wpAny_mkStr (wpAny_pure ⟨_, rfl, hS _ _⟩) (by decide))
    · obtain rfl : b = (c :: cs).toArray := Array.toList_inj.mp hbe
      rw [entry_ascii]
      refine wpAny_bind (wpAny_mkStr ?_ (by decide))
      refine wpAny_bind (wpAny_mkStr ?_ (by decide))
      refine wpAny_bind (wpAny_mkStr ?_ (by decide))
      exact wpAny_bind (call_function_meets KBd.kind_text KBd.plain_text KBd.entry_text (KBd.args_text _ _ _ _) (meets_text_ascii hb hsz) (wpAny_pure ⟨_, rfl, hS _ _⟩))
  exact call_meets FB.slot_bytes_decode (typeIs_bytes _ _ _) FB.entry_bytes_decode (args_dec _ _) hM (fun t' k => Post.here O h (.str _ _) rfl rfl rfl)
end
end

section
section
variable {X : Cx} {τ : Store} {fd : FuncData} {d d₁ d₂ d₃ : D} {x y z : Str}
theorem bindV_1 (h : ∀ S v, peek X.K S (bindArgs fd ⟨[v], []⟩) = some [(x, v)]) : BindV X fd [d] [] τ [(x, d)] := fun A s E vs ws Q O r q hq => by
  obtain ⟨_, _, rfl, a, r⟩ := r.inv
  obtain rfl := r.nil_inv; obtain rfl := q.nil_inv
  exact kp_binds (K := X.K) O.inK (fun S => h S _) _ _ _ _ (hq _ s.heap s.toks (.cons a .nil) fun b o e => e)
/-- the second parameter has a default: None -/
theorem bindV_1n (h : ∀ S v, peek X.K S (bindArgs fd ⟨[v], []⟩) = some [(x, v), (y, .none)]) : BindV X fd [d] [] τ [(x, d), (y, .none)] := fun A s E vs ws Q O r q hq => by
  obtain ⟨_, _, rfl, a, r⟩ := r.inv
  obtain rfl := r.nil_inv; obtain rfl := q.nil_inv
  exact kp_binds (K := X.K) O.inK (fun S => h S _) _ _ _ _ (hq _ s.heap s.toks (.cons a (.cons .none .nil)) fun b o e => e)
theorem bindV_2 (h : ∀ S v w, peek X.K S (bindArgs fd ⟨[v, w], []⟩) = some [(x, v), (y, w)]) : BindV X fd [d₁, d₂] [] τ [(x, d₁), (y, d₂)] := fun A s E vs ws Q O r q hq => by
  obtain ⟨_, _, rfl, a, r⟩ := r.inv
  obtain ⟨_, _, rfl, b, r⟩ := r.inv
  obtain rfl := r.nil_inv; obtain rfl := q.nil_inv
  exact kp_binds (K := X.K) O.inK (fun S => h S _ _) _ _ _ _ (hq _ s.heap s.toks (.cons a (.cons b .nil)) fun b o e => e)
theorem bindV_2n (h : ∀ S v w, peek X.K S (bindArgs fd ⟨[v, w], []⟩) = some [(x, v), (y, w), (z, .none)]) : BindV X fd [d₁, d₂] [] τ [(x, d₁), (y, d₂), (z, .none)] := fun A s E vs ws Q O r q hq => by
  obtain ⟨_, _, rfl, a, r⟩ := r.inv
  obtain ⟨_, _, rfl, b, r⟩ := r.inv
  obtain rfl := r.nil_inv; obtain rfl := q.nil_inv
  exact kp_binds (K := X.K) O.inK (fun S => h S _ _) _ _ _ _ (hq _ s.heap s.toks (.cons a (.cons b (.cons .none .nil))) fun b o e => e)
theorem bindV_3 (h : ∀ S v w u, peek X.K S (bindArgs fd ⟨[v, w, u], []⟩) = some [(x, v), (y, w), (z, u)]) : BindV X fd [d₁, d₂, d₃] [] τ [(x, d₁), (y, d₂), (z, d₃)] := fun A s E vs ws Q O r q hq => by
  obtain ⟨_, _, rfl, a, r⟩ := r.inv
  obtain ⟨_, _, rfl, b, r⟩ := r.inv
  obtain ⟨_, _, rfl, c, r⟩ := r.inv
  obtain rfl := r.nil_inv; obtain rfl := q.nil_inv
  exact kp_binds (K := X.K) O.inK (fun S => h S _ _ _) _ _ _ _ (hq _ s.heap s.toks (.cons a (.cons b (.cons c .nil))) fun b o e => e)
/-- two by place, one by name -/
theorem bindV_2k (h : ∀ S v w u, peek X.K S (bindArgs fd ⟨[v, w], [(z, u)]⟩) = some [(x, v), (y, w), (z, u)]) : BindV X fd [d₁, d₂] [(z, d₃)] τ [(x, d₁), (y, d₂), (z, d₃)] := fun A s E vs ws Q O r q hq => by
  obtain ⟨_, _, rfl, a, r⟩ := r.inv
  obtain ⟨_, _, rfl, b, r⟩ := r.inv
  obtain rfl := r.nil_inv
  obtain ⟨_, _, rfl, c, q⟩ := q.inv
  obtain rfl := q.nil_inv
  exact kp_binds (K := X.K) O.inK (fun S => h S _ _ _) _ _ _ _ (hq _ s.heap s.toks (.cons a (.cons b (.cons c .nil))) fun b o e => e)

theorem kw0 {n : Nat} {sk : Sk} {ρ : Str → Option D} {Q : D → Store → Prop} {f : Value} {ds : List D} (h : CallV X n f ds [] τ Q) :
    Kws X n sk ρ τ [] (fun ks τ₂ => (kwNames []).length = ks.length ∧ CallV X n f ds ((kwNames []).zip ks) τ₂ Q) := kws_nil ⟨rfl, h⟩
theorem kw1 {n : Nat} {sk : Sk} {ρ : Str → Option D} {Q : D → Store → Prop} {f : Value} {ds : List D} {nm : Str} {e : Expr} {p : Pos} (h : Ev X n sk ρ τ e (fun d τ₁ => CallV X n f ds [(nm, d)] τ₁ Q)) :
    Kws X n sk ρ τ [⟨some nm, e, p⟩] (fun ks τ₂ => (kwNames [⟨some nm, e, p⟩]).length = ks.length ∧ CallV X n f ds ((kwNames [⟨some nm, e, p⟩]).zip ks) τ₂ Q) :=
  kws_cons (h.mono fun d τ' k => kws_nil ⟨rfl, k⟩)
theorem upd_same {ρ : Str → Option D} {x : Str} {d : D} : upd ρ x d x = some d := if_pos rfl
theorem upd_ne {ρ : Str → Option D} {x y : Str} {d : D} (h : y ≠ x) : upd ρ x d y = ρ y := if_neg h
end

noncomputable def ps0 : PySem.Params := { strHash := fun _ => 0, shareClass := fun _ => 0, mergeTok := id, idOf := fun _ => 0, idOfShared := fun _ _ => 0, followText := fun _ => true, idOfImm := fun _ => 0 }
end

section
section
variable {X : Cx} {n : Nat} {sk : Sk} {env : Env} {ρ : Str → Option D} {τ : Store} {Q : D → Store → Prop}

theorem inner_at {sc : Scope} {x : Str} (h : (sc.names.lookup x == some .free) = true) : inner sc ρ x = ρ x := by
  unfold inner
  rw [if_pos (beq_iff_eq.mp h)]

/-- what an element, a test of a comprehension comes to -/
noncomputable def ValQ (σ : Store) (v₀ v : D) (σ' : Store) : Prop := σ' = σ ∧ v = v₀
noncomputable def TestQ (σ : Store) (b₀ : Bool) (K : Prop) (b : Bool) (σ' : Store) : Prop := σ' = σ ∧ b = b₀ ∧ (b = true → K)
theorem valq {σ : Store} {v₀ v : D} (h : v = v₀) : ValQ σ v₀ v σ := ⟨rfl, h⟩
theorem testq {σ : Store} {b₀ b : Bool} {K : Prop} (h : b = b₀ ∧ (b = true → K)) : TestQ σ b₀ K b σ := ⟨rfl, h⟩
/-- what a comprehension does for each of its items -/
noncomputable def CompA (X : Cx) (n : Nat) (sc : Scope) (tgt : Expr) (ifs : List Expr) (elt : Expr) (ρ : Str → Option D) (σ : Store) (d : D) (b₀ : Bool) (v₀ : D) : Prop :=
  ∃ ρ₁, Asg (compSk sc) tgt d (inner sc ρ) ρ₁ ∧ IfsW X n (compSk sc) ρ₁ σ ifs (TestQ σ b₀ (Ev X n (compSk sc) ρ₁ σ elt (ValQ σ v₀)))

noncomputable def CompP (X : Cx) (n : Nat) (sc : Scope) (tgt : Expr) (ifs : List Expr) (elt : Expr) (ρ : Str → Option D) (τ : Store) (d : D) (QQ : List D → Prop) : Prop :=
  ∃ ds ow, Items τ d ds ow ∧ ds.length ≤ sizeLine ∧ ∃ p f, CompEl X n sc tgt ifs elt ρ τ ds p f ∧ QQ ((ds.filter p).map f)
theorem ev_compP {elt tgt iter : Expr} {ifs : List Expr} {sc : Scope} {pos : Pos} (hc : compOk sc sk = true) (hs : notSet iter = true)
    (h : Ev X n sk ρ τ iter (fun d τ₁ => CompP X n sc tgt ifs elt ρ τ₁ d (fun ds => Q (.list ds) τ₁))) : Ev X n sk ρ τ (.ListComp elt [⟨tgt, iter, ifs, 0⟩] sc pos) Q := ev_comp hc hs h
theorem ex_assignP {x : Str} {p' pos : Pos} {elt tgt iter : Expr} {ifs : List Expr} {sc : Scope} {cp : Pos} {QS : Fl → (Str → Option D) → Store → Prop} (hk : (sk x == .loc) = true) (hst : storable sk x = true) (hc : compOk sc sk = true) (hs : notSet iter = true)
    (hsw : (p'.line == cp.line && !(sc.names.any fun (n, k) => n == x && (k == .local || k == .cell))) = true)
    (h : Ev X n sk ρ τ iter (fun d τ₁ => CompP X n sc tgt ifs elt ρ τ₁ d (fun ds => QS .next (upd ρ x (.list ds)) τ₁))) :
    Ex1 X n sk ρ τ (.Assign [.Name x p'] (.ListComp elt [⟨tgt, iter, ifs, 0⟩] sc cp) pos) QS := ex_assignC (beq_iff_eq.mp hk) hst hc hs hsw h
theorem ex_assignQ {x : Str} {p' pos : Pos} {elt : Expr} {gens : List Comprehension} {sc : Scope} {cp : Pos} {QS : Fl → (Str → Option D) → Store → Prop} (hk : (sk x == .cel) = true) (hst : storable sk x = true)
    (h : Ev X n sk ρ τ (.ListComp elt gens sc cp) (fun d τ₁ => QS .next (upd ρ x d) τ₁)) : Ex1 X n sk ρ τ (.Assign [.Name x p'] (.ListComp elt gens sc cp) pos) QS := ex_assignK (beq_iff_eq.mp hk) hst h

open Classical in
theorem comp_of {α : Type} {d : D} {ow : Option Addr} {ds : List D} {sc : Scope} {tgt elt : Expr} {ifs : List Expr} {QQ : List D → Prop} (xs : List α) (c : α → D) (p : α → Bool) (f : α → D) (hc : ∀ a b, c a = c b → a = b) (hds : ds = xs.map c) (hI : Items τ d ds ow) (hsz : ds.length ≤ sizeLine)
    (hel : ∀ σ x, SubS τ σ → x ∈ xs → CompA X n sc tgt ifs elt ρ σ (c x) (p x) (f x)) (hQ : QQ ((xs.filter p).map f)) :
    CompP X n sc tgt ifs elt ρ τ d QQ := by
  subst hds
  let inv : D → Option α := fun d => if h : ∃ x, c x = d then some h.choose else none
  have hinv : ∀ x, inv (c x) = some x := fun x => by
    have h : ∃ y, c y = c x := ⟨x, rfl⟩
    show (if h : ∃ y, c y = c x then some h.choose else none) = some x
    rw [dif_pos h]
    exact congrArg some (hc _ _ h.choose_spec)
  refine ⟨_, ow, hI, hsz, fun d => ((inv d).map p).getD false, fun d => ((inv d).map f).getD .none, fun σ d hs hd => ?_, ?_⟩
  · obtain ⟨x, hx, rfl⟩ := List.mem_map.mp hd
    have := hel σ x hs hx
    simp only [hinv]
    exact this
  · have : (((xs.map c).filter fun d => ((inv d).map p).getD false).map fun d => ((inv d).map f).getD .none) = (xs.filter p).map f := by
      rw [List.filter_map, List.map_map]
      have e1 : ((fun d => ((inv d).map p).getD false) ∘ c) = p := by funext x; simp [hinv]
      have e2 : ((fun d => ((inv d).map f).getD D.none) ∘ c) = f := by funext x; simp [hinv]
      rw [e1, e2]
    rw [this]
    exact hQ

/-- without a test -/
theorem comp_map {α : Type} {d : D} {ow : Option Addr} {ds : List D} {sc : Scope} {tgt elt : Expr} {ifs : List Expr} {QQ : List D → Prop} (xs : List α) (c : α → D) (f : α → D) (hc : ∀ a b, c a = c b → a = b) (hds : ds = xs.map c) (hI : Items τ d ds ow) (hsz : ds.length ≤ sizeLine)
    (hel : ∀ σ x, SubS τ σ → x ∈ xs → CompA X n sc tgt ifs elt ρ σ (c x) true (f x)) (hQ : QQ (xs.map f)) :
    CompP X n sc tgt ifs elt ρ τ d QQ :=
  comp_of xs c (fun _ => true) f hc hds hI hsz hel (by rw [List.filter_eq_self.mpr fun _ _ => rfl]; exact hQ)

theorem compA_of {sc : Scope} {x : Str} {p : Pos} {elt : Expr} {ifs : List Expr} {σ : Store} {d v₀ : D} {b₀ : Bool} (hk : storable (compSk sc) x = true)
    (h : IfsW X n (compSk sc) (upd (inner sc ρ) x d) σ ifs (TestQ σ b₀ (Ev X n (compSk sc) (upd (inner sc ρ) x d) σ elt (ValQ σ v₀)))) : CompA X n sc (.Name x p) ifs elt ρ σ d b₀ v₀ :=
  ⟨_, asg1 hk, h⟩
theorem compA_of1 {sc : Scope} {x : Str} {p : Pos} {elt : Expr} {σ : Store} {d v₀ : D} (hk : storable (compSk sc) x = true)
    (h : Ev X n (compSk sc) (upd (inner sc ρ) x d) σ elt (ValQ σ v₀)) : CompA X n sc (.Name x p) [] elt ρ σ d true v₀ :=
  ⟨_, asg1 hk, rfl, rfl, fun _ => h⟩
theorem compA_of2 {sc : Scope} {x y : Str} {p q r : Pos} {k : Nat} {elt : Expr} {σ : Store} {d₁ d₂ v₀ : D} (hk : (storable (compSk sc) x && storable (compSk sc) y) = true)
    (h : Ev X n (compSk sc) (upd (upd (inner sc ρ) x d₁) y d₂) σ elt (ValQ σ v₀)) : CompA X n sc (.Tuple [.Name x p, .Name y q] k r) [] elt ρ σ (.tuple [d₁, d₂]) true v₀ :=
  ⟨_, asg2 (Bool.and_eq_true_iff.mp hk).1 (Bool.and_eq_true_iff.mp hk).2, rfl, rfl, fun _ => h⟩
theorem ifs1 {c : Expr} {P : Bool → Store → Prop} (h : Tst X n sk ρ τ c P) : IfsW X n sk ρ τ [c] P := h

/-- the items of a range from 0 -/
theorem items_rng {b : Int} {k : Nat} (hb : b = k) (hk : k ≤ 1000000) : Items τ (.rng 0 b) ((List.range k).map fun (j : Nat) => D.int j) none := by
  have := Items.rng (τ := τ) (a := 0) (b := b) (k := k) (.inl (by omega)) (by decide) (by decide) (by omega) (by omega)
  have e : rngD 0 k = (List.range k).map fun (j : Nat) => D.int j := by
    unfold rngD
    exact List.map_congr_left fun j _ => by rw [Int.zero_add]
  rwa [e] at this
theorem items_rng1 {a b : Int} {k : Nat} (hb : b - a = k) (ha : -1000000 ≤ a) (ha' : a ≤ 1000000) (hb' : b ≤ 1000000) (hb2 : -1000000 ≤ b) : Items τ (.rng a b) ((List.range k).map fun (j : Nat) => D.int (a + j)) none :=
  Items.rng (.inl hb) ha ha' hb' hb2
theorem int_inj (a b : Nat) (h : D.int a = D.int b) : a = b := by cases h; rfl
theorem str_inj (a b : Str) (h : D.str a = D.str b) : a = b := by cases h; rfl
noncomputable def pairD (p : Str × Str) : D := .tuple [.str p.1, .str p.2]
theorem pair_inj (a b : Str × Str) (h : pairD a = pairD b) : a = b := by
  obtain ⟨a1, a2⟩ := a
  obtain ⟨b1, b2⟩ := b
  simp only [pairD, D.tuple.injEq, List.cons.injEq, D.str.injEq, and_true] at h
  rw [h.1, h.2]

/-! the same rules, in words that match without unfolding -/
noncomputable def SeqQ (X : Cx) (n : Nat) (sk : Sk) (rest : List Stmt) (Q : Fl → (Str → Option D) → Store → Prop) : Fl → (Str → Option D) → Store → Prop := fun fl ρ₁ τ₁ => match fl with
  | .next => Ex X n sk ρ₁ τ₁ rest Q
  | fl => Q fl ρ₁ τ₁
section
variable {QS : Fl → (Str → Option D) → Store → Prop} {rest body orelse : List Stmt} {st : Stmt} {d : D}
theorem ex_seq (h : Ex1 X n sk ρ τ st (SeqQ X n sk rest QS)) : Ex X n sk ρ τ (st :: rest) QS := ex_cons (by
  intro env A s E R O F
  refine wpAny_mono (h env A s E R O F) (fun f s' ⟨fl, ρ', τ', q, r, O, F, S, o, g⟩ => ⟨fl, ρ', τ', ?_, r, O, F, S, o, g⟩) fun _ _ e => e
  cases fl <;> exact q)
theorem seq_next (h : Ex X n sk ρ τ rest QS) : SeqQ X n sk rest QS .next ρ τ := h
theorem seq_ret (h : QS (.ret d) ρ τ) : SeqQ X n sk rest QS (.ret d) ρ τ := h
noncomputable def IfQ (X : Cx) (n : Nat) (sk : Sk) (ρ : Str → Option D) (body orelse : List Stmt) (QS : Fl → (Str → Option D) → Store → Prop) : Bool → Store → Prop := fun b τ₁ => if b = true then Ex X n sk ρ τ₁ body QS else Ex X n sk ρ τ₁ orelse QS
theorem ex_ifQ {test : Expr} {pos : Pos} (h : Tst X n sk ρ τ test (IfQ X n sk ρ body orelse QS)) : Ex1 X n sk ρ τ (.If test body orelse pos) QS := ex_if h
theorem if_q {b : Bool} (h1 : b = true → Ex X n sk ρ τ body QS) (h2 : b = false → Ex X n sk ρ τ orelse QS) : IfQ X n sk ρ body orelse QS b τ := by
  unfold IfQ
  cases b
  · rw [if_neg Bool.false_ne_true]; exact h2 rfl
  · rw [if_pos rfl]; exact h1 rfl
theorem if_true (h1 : Ex X n sk ρ τ body QS) : IfQ X n sk ρ body orelse QS true τ := if_q (fun _ => h1) fun e => nomatch e
theorem if_false (h1 : Ex X n sk ρ τ orelse QS) : IfQ X n sk ρ body orelse QS false τ := if_q (fun e => nomatch e) fun _ => h1

noncomputable def RetQ (Q : D → Store → Prop) : Fl → (Str → Option D) → Store → Prop := fun fl _ τ' => match fl with
  | .ret d => Q d τ'
  | .next => Q .none τ'
  | _ => False
theorem ret_ret (h : Q d τ) : RetQ Q (.ret d) ρ τ := h
theorem ret_next (h : Q .none τ) : RetQ Q .next ρ τ := h
theorem codeV_fnQ {fa : Addr} {fd : FuncData} {ds : List D} {ks : List (Str × D)} {bds : List (Str × D)} (hfd : fnAt X.K fa = fd) (hok : fnOk X.K fa fd = true) (hb : BindV X fd ds ks τ bds)
    (hloc : (bds.all fun b => (fd.scope.names.lookup b.1 == some .local || fd.scope.names.lookup b.1 == some .cell) && b.1 != ("_headers" : Str)) = true)
    (h : Ex X n (compSk fd.scope) (bindD bds fun _ => none) τ (bodyOf fd) (RetQ Q)) : CodeV X (n + 1) (.ref fa) ds ks τ Q := codeV_fn hfd hok hb hloc (h.mono fun f ρ' τ' q => by cases f <;> exact q)

noncomputable def BodyQ (next : (Str → Option D) → Store → Prop) (QS : Fl → (Str → Option D) → Store → Prop) : Fl → (Str → Option D) → Store → Prop := fun fl ρ₂ τ₂ => match fl with
  | .next | .cont => next ρ₂ τ₂
  | .brk => QS .next ρ₂ τ₂
  | .ret d => QS (.ret d) ρ₂ τ₂
section
variable {nx : (Str → Option D) → Store → Prop}
theorem body_next (h : nx ρ τ) : BodyQ nx QS .next ρ τ := h
theorem body_ret (h : QS (.ret d) ρ τ) : BodyQ nx QS (.ret d) ρ τ := h
end
noncomputable def WhileQ (X : Cx) (n : Nat) (sk : Sk) (ρ₁ : Str → Option D) (body : List Stmt) (I : Nat → (Str → Option D) → Store → Prop) (m : Nat) (QS : Fl → (Str → Option D) → Store → Prop) : Bool → Store → Prop := fun b τ₂ =>
  if b = true then Ex X n sk ρ₁ τ₂ body (BodyQ (fun ρ₃ τ₃ => ∃ k, k < m ∧ I k ρ₃ τ₃) QS) else QS .next ρ₁ τ₂
theorem while_q {I : Nat → (Str → Option D) → Store → Prop} {m : Nat} {b : Bool} (h1 : b = true → Ex X n sk ρ τ body (BodyQ (fun ρ₃ τ₃ => ∃ k, k < m ∧ I k ρ₃ τ₃) QS)) (h2 : b = false → QS .next ρ τ) : WhileQ X n sk ρ body I m QS b τ := by
  unfold WhileQ
  cases b
  · rw [if_neg Bool.false_ne_true]; exact h2 rfl
  · rw [if_pos rfl]; exact h1 rfl
theorem ex_whileQ {test : Expr} {pos : Pos} (I : Nat → (Str → Option D) → Store → Prop) (m : Nat) (h0 : I m ρ τ)
    (turn : ∀ m ρ₁ τ₁, I m ρ₁ τ₁ → Tst X n sk ρ₁ τ₁ test (WhileQ X n sk ρ₁ body I m QS)) : Ex1 X n sk ρ τ (.While test body [] pos) QS := ex_while I m h0 fun m ρ₁ τ₁ i env A s E R O F => by
  refine wpAny_mono (turn m ρ₁ τ₁ i env A s E R O F) (fun b s' ⟨τ', q, r, S, o, g⟩ => ⟨τ', ?_, r, S, o, g⟩) fun _ _ e => e
  unfold WhileQ at q
  cases b
  · rw [if_neg Bool.false_ne_true] at q ⊢; exact q
  · rw [if_pos rfl] at q ⊢
    refine Ex.mono q fun f ρ' τ'' q => ?_
    cases f <;> exact q

/-- a loop over items that come from xs, by what holds ahead of each -/
noncomputable def ForP (X : Cx) (n : Nat) (sk : Sk) (ρ : Str → Option D) (tgt : Expr) (body : List Stmt) (QS : Fl → (Str → Option D) → Store → Prop) (d : D) (τ : Store) : Prop := ∃ ds ow, Items τ d ds ow ∧ LoopW X n sk tgt body ds ow QS ds ρ τ
theorem ex_forP {tgt iter : Expr} {pos : Pos} (hs : notSet iter = true) (h : Ev X n sk ρ τ iter (ForP X n sk ρ tgt body QS)) : Ex1 X n sk ρ τ (.For tgt iter body [] pos) QS := ex_for hs h

theorem loop_of {α : Type} {tgt : Expr} {full : List D} {ow : Option Addr} {c : α → D} {I : List α → (Str → Option D) → Store → Prop} : ∀ (xs : List α) (ρ : Str → Option D) (τ : Store), I xs ρ τ →
    (∀ ρ₁ τ₁, I [] ρ₁ τ₁ → QS .next ρ₁ τ₁) →
    (∀ x r ρ₁ τ₁, I (x :: r) ρ₁ τ₁ → ∃ ρ₂, Asg sk tgt (c x) ρ₁ ρ₂ ∧ Ex X n sk ρ₂ τ₁ body (BodyQ (fun ρ₃ τ₃ => (∀ a, ow = some a → τ₃ a = some full) ∧ I r ρ₃ τ₃) QS)) →
    LoopW X n sk tgt body full ow QS (xs.map c) ρ τ
  | [], ρ, τ, i, h0, _ => h0 ρ τ i
  | x :: r, ρ, τ, i, h0, h => by
    obtain ⟨ρ₂, a, e⟩ := h x r ρ τ i
    refine ⟨ρ₂, a, e.mono fun f ρ₃ τ₃ q => ?_⟩
    cases f with
    | next => exact ⟨q.1, loop_of r ρ₃ τ₃ q.2 h0 h⟩
    | cont => exact ⟨q.1, loop_of r ρ₃ τ₃ q.2 h0 h⟩
    | brk => exact q
    | ret d => exact q
/-- a loop over a frozen list or a range -/
theorem forP_of {α : Type} {tgt : Expr} {d : D} {ds : List D} (xs : List α) (c : α → D) (I : List α → (Str → Option D) → Store → Prop) (hds : ds = xs.map c) (hI : Items τ d ds none) (h0 : I xs ρ τ)
    (h1 : ∀ ρ₁ τ₁, I [] ρ₁ τ₁ → QS .next ρ₁ τ₁)
    (h : ∀ x r ρ₁ τ₁, I (x :: r) ρ₁ τ₁ → ∃ ρ₂, Asg sk tgt (c x) ρ₁ ρ₂ ∧ Ex X n sk ρ₂ τ₁ body (BodyQ (I r) QS)) : ForP X n sk ρ tgt body QS d τ := by
  subst hds
  refine ⟨_, _, hI, loop_of xs ρ τ h0 h1 fun x r ρ₁ τ₁ i => ?_⟩
  obtain ⟨ρ₂, a, e⟩ := h x r ρ₁ τ₁ i
  refine ⟨ρ₂, a, e.mono fun f ρ₃ τ₃ q => ?_⟩
  cases f with
  | next => exact ⟨(fun a e => nomatch e), q⟩
  | cont => exact ⟨(fun a e => nomatch e), q⟩
  | brk => exact q
  | ret d => exact q
/-- a loop over a list of one's own that the body leaves alone -/
theorem forP_own {α : Type} {tgt : Expr} {a : Addr} {ds : List D} (xs : List α) (c : α → D) (I : List α → (Str → Option D) → Store → Prop) (hds : ds = xs.map c) (ha : τ a = some ds) (h0 : I xs ρ τ)
    (h1 : ∀ ρ₁ τ₁, I [] ρ₁ τ₁ → QS .next ρ₁ τ₁)
    (h : ∀ x r ρ₁ τ₁, I (x :: r) ρ₁ τ₁ → ∃ ρ₂, Asg sk tgt (c x) ρ₁ ρ₂ ∧ Ex X n sk ρ₂ τ₁ body (BodyQ (fun ρ₃ τ₃ => τ₃ a = some ds ∧ I r ρ₃ τ₃) QS)) : ForP X n sk ρ tgt body QS (.own a) τ := by
  subst hds
  refine ⟨_, _, .own ha, loop_of xs ρ τ h0 h1 fun x r ρ₁ τ₁ i => ?_⟩
  obtain ⟨ρ₂, b, e⟩ := h x r ρ₁ τ₁ i
  refine ⟨ρ₂, b, e.mono fun f ρ₃ τ₃ q => ?_⟩
  cases f with
  | next => exact ⟨(fun b e => by cases e; exact q.1), q.2⟩
  | cont => exact ⟨(fun b e => by cases e; exact q.1), q.2⟩
  | brk => exact q
  | ret d => exact q
end
end
end

section
theorem filterMap_toArray {α : Type} (ds : List α) (js : List Nat) : js.filterMap (ds[·]?) = js.filterMap (ds.toArray[·]?) := by
  congr 1
  funext j
  simp
theorem pick_nat {α : Type} (ds : List α) (lo hi : Option Int) : pick ds lo hi none = (ds.drop (kms_lo lo ds.length)).take (kms_hi hi ds.length - kms_lo lo ds.length) := by
  unfold pick
  rw [kms_bounds]
  simp only [sliceRange_one]
  rw [filterMap_toArray, pick_run]
theorem pick_rev {α : Type} (ds : List α) : pick ds none none (some (-1)) = ds.reverse := by
  have e : sliceBounds none none (some (-1)) ds.length = ((ds.length : Int) - 1, -1, -1) := krv_bounds _
  unfold pick
  rw [e]
  show (sliceRange ((ds.length : Int) - 1) (-1) (-1)).filterMap (ds[·]?) = _
  rw [krv_sliceRange, krv_range, filterMap_toArray, List.filterMap_reverse]
  congr 1
  have := krv_all ds.toArray
  simpa using this
theorem pick_map {α β : Type} (f : α → β) (ds : List α) (lo hi st : Option Int) : pick (ds.map f) lo hi st = (pick ds lo hi st).map f := by
  unfold pick
  rw [List.length_map, List.map_filterMap]
  congr 1
  funext j
  simp
theorem pick_take {α : Type} (ds : List α) (k : Nat) : pick ds none (some (k : Int)) none = ds.take k := by
  rw [pick_nat]
  have : ¬ ((k : Int) < 0) := by omega
  simp only [kms_lo, kms_hi, if_neg this, List.drop_zero, Nat.sub_zero, Int.toNat_natCast]
  rw [kmk_take_min]
theorem pick_drop {α : Type} (ds : List α) (k : Nat) : pick ds (some (k : Int)) none none = ds.drop k := by
  rw [pick_nat]
  have : ¬ ((k : Int) < 0) := Int.not_lt.mpr (Int.natCast_nonneg k)
  simp only [kms_lo, kms_hi, if_neg this, Int.toNat_natCast]
  rw [kmk_drop_min]
  apply List.take_of_length_le
  rw [List.length_drop]; exact Nat.sub_le_sub_left (Nat.min_le_left _ _) _
/-- [:-k] and [-k:] -/
theorem pick_upto {α : Type} (ds : List α) (k : Nat) (hk : 0 < k) : pick ds none (some (-(k : Int))) none = ds.take (ds.length - k) := by
  rw [pick_nat]
  have : (-(k : Int) < 0) := by omega
  simp only [kms_lo, kms_hi, if_pos this, List.drop_zero, Nat.sub_zero, Int.neg_neg, Int.toNat_natCast]
theorem pick_last {α : Type} (ds : List α) (k : Nat) (hk : 0 < k) : pick ds (some (-(k : Int))) none none = ds.drop (ds.length - k) := by
  rw [pick_nat]
  have : (-(k : Int) < 0) := by omega
  simp only [kms_lo, kms_hi, if_pos this, Int.neg_neg, Int.toNat_natCast]
  apply List.take_of_length_le
  rw [List.length_drop]; omega

/-! strs as lists of signs -/
theorem str_ext {x y : Str} (h : x.cps.toList = y.cps.toList) : x = y := by
  cases x; cases y
  simp only at h
  rw [Array.toList_inj.mp h]
theorem toList_app (x y : Str) : (x ++ y).cps.toList = x.cps.toList ++ y.cps.toList := by
  show (x.cps ++ y.cps).toList = _
  simp
theorem toList_join0 (sep : Str) (h0 : sep.cps.toList = []) (xs : List Str) : (Txt.join sep xs).cps.toList = (xs.map fun (x : Str) => x.cps.toList).flatten := by
  show (PySem.Builtin.Str.glued sep xs).cps.toList = _
  rw [StrLaws.glued_eq_join]
  induction xs with
  | nil => rfl
  | cons x r ih =>
    cases r with
    | nil => simp [Str.join]
    | cons y r =>
      show (x ++ sep ++ Str.join sep (y :: r)).cps.toList = _
      rw [toList_app, toList_app, ih, h0]
      simp
theorem joinOk_of {sep : Str} {xs : List Str} (h : (xs.map (·.length)).sum + xs.length * sep.length ≤ 16777216) : JoinOk sep xs = true := by
  unfold JoinOk
  rw [StrLaws.joinTotal]
  simp only [Bool.not_eq_true']
  unfold PySem.Builtin.Str.tooLong
  rw [decide_eq_false_iff_not, sizeLine_eq]
  omega

section
variable {X : Cx} {n : Nat} {sk : Sk} {env : Env} {ρ : Str → Option D} {τ : Store} {Q : D → Store → Prop}
/-- the method that a name behind a dot gives, and what is done with it -/
noncomputable def MethP (X : Cx) (n : Nat) (d : D) (name : Str) (τ : Store) (K : Value → Prop) : Prop := ∃ f, GM X n d name τ f ∧ K f
theorem ev_methP {o : Expr} {name : Str} {apos pos : Pos} {args : List Expr} {kws : List Keyword} (ha : plainArgs args = true) (hw : plainKws kws = true) (hl : (apos.endLine == pos.line) = true)
    (hb : ∀ env, attributeBase o name env (eval o env) = eval o env) (hz : decide (args.length + kws.length + (if kws.isEmpty then 0 else 1) < 30) = true)
    (h : Ev X n sk ρ τ o (fun d τ₁ => MethP X n d name τ₁ fun f => Evs X n sk ρ τ₁ args (fun ds τ₂ => Kws X n sk ρ τ₂ kws (fun ks τ₃ => (kwNames kws).length = ks.length ∧ CallV X n f (d :: ds) ((kwNames kws).zip ks) τ₃ Q)))) :
    Ev X n sk ρ τ (.Call (.Attribute o name apos) args kws pos) Q := ev_meth ha hw hl hb hz h
variable {x : Str} {b : Array UInt8} {a : Addr} {ds : List D} {K : Value → Prop}
theorem m_join (h : K (.builtin "str.join")) : MethP X n (.str x) "join" τ K := ⟨_, gm_str PySem.F.slot_str_join PySem.F.type_str_join, h⟩
theorem m_lower (h : K (.builtin "str.lower")) : MethP X n (.str x) "lower" τ K := ⟨_, gm_str PySem.F.slot_str_lower PySem.F.type_str_lower, h⟩
theorem m_upper (h : K (.builtin "str.upper")) : MethP X n (.str x) "upper" τ K := ⟨_, gm_str PySem.F.slot_str_upper PySem.F.type_str_upper, h⟩
theorem m_split (h : K (.builtin "str.split")) : MethP X n (.str x) "split" τ K := ⟨_, gm_str PySem.F.slot_str_split PySem.F.type_str_split, h⟩
theorem m_decode (h : K (.builtin "bytes.decode")) : MethP X n (.bytes b) "decode" τ K := ⟨_, gm_bytes FB.slot_bytes_decode FB.type_bytes_decode, h⟩
theorem m_append (e : τ a = some ds) (h : K (.builtin "list.append")) : MethP X n (.own a) "append" τ K := ⟨_, gm_list (.own e) PySem.F.slot_list_append PySem.F.type_list_append, h⟩
section
variable {X : Cx} {n : Nat} {τ : Store} {Q : D → Store → Prop}
theorem c_joinM {α : Type} {x : Str} {ys : List α} {g : α → Str} (hok : JoinOk x (ys.map g) = true) (h : Q (.str (Txt.join x (ys.map g))) τ) : CallV X n (.builtin "str.join") [.str x, .list (ys.map fun y => D.str (g y))] [] τ Q :=
  c_join (xs := ys.map g) (by rw [List.map_map]; exact .list) hok h
end
end
end

section
section
variable {X : Cx} {n : Nat} {sk : Sk} {env : Env} {ρ : Str → Option D} {τ : Store} {Q : D → Store → Prop}

/-- an object of the class: what a read of its one attribute and of its methods needs of the class -/
structure Hd (X : Cx) : Prop where
  ga : findIn X.K (.ref X.C) "__getattribute__" = some (some (.builtin "object.__getattribute__"))
  gt : findIn X.K (.ref X.C) "__getattr__" = some none
  own : ∀ hs t l n, findObj X.K X.C (some (dicO [⟨hs, .str "_headers" t, .ref l⟩] n)) "_headers" = some (.value (.ref l))

theorem instAt_of {h : Heap} {a l : Addr} {v : Value} (r : Rep X.C τ h v (.hdr a l)) : v = .ref a ∧ ∃ dx n hs t, InstAt h a (instObj X.C dx) X.C (some (dicO [⟨hs, .str "_headers" t, .ref l⟩] n)) := by
  cases r with
  | @hdr _ dx _ m hs t o1 o2 e1 e2 => exact ⟨rfl, dx, m, hs, t, e1, rfl, rfl, e2⟩
/-- a method of an object's -/
theorem gm_hdr {a l : Addr} {name : Str} {f : Addr} (H : Hd X) (hf : findIn X.K (.ref X.C) name = some (some (.ref f))) (ht : typeIn X.K (.ref f) = some (.type "function")) (hk : keepIn X.K (.ref f) = true)
    (hs : ∀ hs t l n, shadowIn (some (dicO [⟨hs, .str "_headers" t, .ref l⟩] n)) name = some false) : GM X n (.hdr a l) name τ (.ref f) :=
  ⟨keepable_K hk, fun A s E pl ov Q R O r h => by
    obtain ⟨rfl, dx, m, hs', t, I⟩ := instAt_of r
    exact method_fn O.inK I H.ga H.gt hf ht (hs _ _ _ _) (h s.toks)⟩

theorem m_hdr {a l : Addr} {name : Str} {f : Addr} {K : Value → Prop} (H : Hd X) (hf : findIn X.K (.ref X.C) name = some (some (.ref f))) (ht : typeIn X.K (.ref f) = some (.type "function")) (hk : keepIn X.K (.ref f) = true)
    (hs : ∀ hs t l n, shadowIn (some (dicO [⟨hs, .str "_headers" t, .ref l⟩] n)) name = some false) (h : K (.ref f)) : MethP X n (.hdr a l) name τ K := ⟨_, gm_hdr H hf ht hk hs, h⟩
/-- is not, of two types -/
theorem t2_isNotT {T U : String} (h : Q (.bool (!(Value.type T == Value.type U))) τ) : T2 X n (compareOp .IsNot) (.val (.type T)) (.val (.type U)) τ Q := fun A s E va vb R O r q => by
  obtain rfl := r.val_inv; obtain rfl := q.val_inv
  exact isnot_type (Post.here O h (.bool _) rfl rfl rfl)
theorem t2_isT {T U : String} (h : Q (.bool (Value.type T == Value.type U)) τ) : T2 X n (compareOp .Is) (.val (.type T)) (.val (.type U)) τ Q := fun A s E va vb R O r q => by
  obtain rfl := r.val_inv; obtain rfl := q.val_inv
  exact wpAny_is_plain (by rfl) (Post.here O h (.bool _) rfl rfl rfl)
/-- the type of a datum -/
theorem c_typeL {d : D} {ds : List D} (L : IsL τ d ds) (h : Q (.val (.type "list")) τ) : CallV X n (.type "type") [d] [] τ Q := .intro0 fun A s E vs R O r => by
  obtain ⟨_, _, rfl, a, r⟩ := r.inv
  obtain rfl := r.nil_inv
  obtain ⟨l, ws, k, rfl, hv, rs⟩ := L.at O a
  exact call_type_of (Tx := "list") ⟨_, hv, rfl⟩ (by decide) (Post.here O h (.val _) rfl rfl rfl)
theorem c_typeS {x : Str} (h : Q (.val (.type "str")) τ) : CallV X n (.type "type") [.str x] [] τ Q := .intro0 fun A s E vs R O r => by
  obtain ⟨_, _, rfl, a, r⟩ := r.inv
  obtain rfl := r.nil_inv; obtain ⟨_, rfl⟩ := a.inv
  exact call_type_of (typeIs_str _ _ _) (by decide) (Post.here O h (.val _) rfl rfl rfl)

/-- the call of a def, at one place: with what the heap held at the call -/
theorem code_fn_at {fa : Addr} {fd : FuncData} {ds : List D} {ks : List (Str × D)} {bds : List (Str × D)} {A : Around} {s : Shared} {vs ws : List Value} {RR : Result → Shared → Prop} (hfd : fnAt X.K fa = fd) (hok : fnOk X.K fa fd = true) (hb : BindV X fd ds ks τ bds)
    (hloc : (bds.all fun b => (fd.scope.names.lookup b.1 == some .local || fd.scope.names.lookup b.1 == some .cell) && b.1 != ("_headers" : Str)) = true) (R : Room (n + 1) A) (O : Ok X τ s.heap) (rv : RepAll X.C τ s.heap vs ds) (rw' : RepAll X.C τ s.heap ws (ks.map (·.2)))
    (h : ∀ env A' s' E, Room n A' → Ok X τ s'.heap → FrameOk X (compSk fd.scope) env (bindD bds fun _ => none) τ s'.heap → (∀ b o, s.heap.get? b = some o → s'.heap.get? b = some o) → (∀ b, InFr env b → s.heap.get? b = none) → s'.os = s.os → s'.gens = s.gens →
      wpAny X.M A' (execs (bodyOf fd) env) (fun f s'' => RR (.ok (.ret (match f with | .ret v => v | _ => .none))) s'') E s') :
    codeAny X.M A (.call (.ref fa) ⟨vs, (ks.map (·.1)).zip ws⟩) RR s :=
  code_fn_gen hfd hok hb hloc R O rv rw' fun env s' R' O' F' keep ni o g _ => h env _ s' _ R' O' F' keep ni o g
end
end

section
theorem Rep.other {C : Addr} {τ : Store} {h h' : Heap} {I : Addr} (k : ∀ b o, b ≠ I → h.get? b = some o → h'.get? b = some o) (hI : h.get? I = some emptyDict) :
    (∀ {v : Value} {d : D}, Rep C τ h v d → Rep C τ h' v d) ∧ ∀ {vs : List Value} {ds : List D}, RepAll C τ h vs ds → RepAll C τ h' vs ds := by
  refine Rep.carry_both fun b o e q B => ⟨k b o (fun z => ?_) e, q⟩
  subst z
  rw [e] at hI
  cases B with
  | dic => simp [emptyDict] at hI
  | _ => exact nomatch (Obj.mk.inj (Option.some.inj hI)).2.2.1

section
variable {X : Cx} {n : Nat} {sk : Sk} {env : Env} {ρ : Str → Option D} {τ : Store} {Q : D → Store → Prop}

structure HdS (X : Cx) : Prop where
  sa : findIn X.K (.ref X.C) "__setattr__" = some (some (.builtin "object.__setattr__"))
  po : plainOver X.K X.C = true
  tk : takerIn X.K X.C "_headers" = some none
  hd : (clsIn X.K X.C).any (·.hasDict) = true
  make : makesIn X.K X.C = true

theorem osa_hdr {A : Around} {s : Shared} {x dx : Addr} {v : Value} {tk : Tok} {R : Result → Shared → Prop} (H : HdS X) (KX : X.K.In s.heap) (hx : s.heap.get? x = some (instObj X.C dx)) (hd : s.heap.get? dx = some emptyDict)
    (h : ∀ h' tk k hs t, Heap.SameBut dx s.heap h' → h'.get? dx = some (dicO [⟨hs, .str "_headers" t, v⟩] k) → R (.ok (.ret .none)) { s with heap := h', toks := tk }) :
    codeAny X.M A (.call (.builtin "object.__setattr__") ⟨[.ref x, .str "_headers" tk, v], []⟩) R s := by
  have I : InstAt s.heap x (instObj X.C dx) X.C (some emptyDict) := ⟨hx, rfl, rfl, hd⟩
  refine osa_open KX I H.po H.tk fun b => ?_
  obtain ⟨cd, hc, hd'⟩ := any_some H.hd
  refine wpAny_bind (wpAny_pure (wpAny_bind (wpAny_bind (wpAny_loadPart hx (wpAny_bind ((looks_clsIn KX hc).here ?_))))))
  rw [hd']
  refine wpAny_pure (a := some dx) (wpAny_bind (wpAny_pure (wpAny_bind ?_)))
  unfold nsSet
  refine wpAny_bind (wpAny_bind (wpAny_askSetting (wpAny_pure (wpAny_bind (wpAny_mkText (wpAny_bind (wpAny_loadPart hd ?_)))))))
  dsimp only
  have c : (!(#[] : Array DictEntry).any (·.key.isStr "_headers") && (#[] : Array DictEntry).any (·.refKey)) = false := by simp
  rw [aRefKeyMayBeTheName_at, c]
  refine wpAny_updatePart hd ?_
  have D' : ((s.heap.update dx (Obj.putName "_headers" (PyData.keyHash X.w.params "_headers") (.str "_headers" s.toks) v)).get? dx) = some (dicO [⟨PyData.keyHash X.w.params "_headers", .str "_headers" s.toks, v⟩] 1) := by
    rw [Heap.get?_update_self _ hd (by rfl)]
    rfl
  refine wpAny_bind (wpAny_lookBehind D' (pastItsLine_dict (by rw [List.size_toArray, sizeLine_eq]; show 1 ≤ _; omega)) ?_)
  exact wpAny_pure (h _ _ _ _ _ (Heap.SameBut.update ..) D')
theorem set_hdr {A : Around} {s : Shared} {E : Value → Shared → Prop} {x dx : Addr} {v : Value} {QQ : Unit → Shared → Prop} (H : HdS X) (KX : X.K.In s.heap) (hx : s.heap.get? x = some (instObj X.C dx)) (hd : s.heap.get? dx = some emptyDict)
    (h : ∀ h' tk k hs t, Heap.SameBut dx s.heap h' → h'.get? dx = some (dicO [⟨hs, .str "_headers" t, v⟩] k) → QQ () { s with heap := h', toks := tk }) : wpAny X.M A (setAttr (.ref x) "_headers" v) QQ E s :=
  set_plain KX (⟨hx, rfl, rfl, hd⟩ : InstAt s.heap x (instObj X.C dx) X.C (some emptyDict)) H.sa (osa_hdr (s := { s with toks := s.toks + 1 }) H KX hx hd h)

theorem execs_app : ∀ (a b : List Stmt) (env : Env), execs (a ++ b) env = (do match ← execs a env with | .next => execs b env | f => pure f)
  | [], b, env => rfl
  | st :: a, b, env => by
    rw [List.cons_append, execs_cons, execs_cons, execs_app a b env, bind_assoc]
    congr 1
    funext f
    cases f <;> rfl

theorem Room.make {A : Around} {C : Addr} {vals : List Value} {kw : List (Str × Value)} (R : Room (n + 1) A) : Room n (A.under (.builtin "type.__call__" ⟨.ref C :: vals, kw⟩)) := by
  have h1 : (A.under (.builtin "type.__call__" ⟨.ref C :: vals, kw⟩)).depth = A.depth + 1 := rfl
  have h2 : (A.under (.builtin "type.__call__" ⟨.ref C :: vals, kw⟩)).units = A.units + 1 := by
    first | rfl | simp [Around.under, Code.cUnits, Code.frames, Code.isFrame]
  exact ⟨R.hd, by rw [h1]; have := R.dp; omega, by rw [h2]; have := R.un; omega⟩

theorem c_make {fI : Addr} {fd : FuncData} {pre rest : List Stmt} {p1 p2 p3 p4 : Pos} {ds : List D} {bds : List (Str × D)} (H : HdS X) (hi : findIn X.K (.ref X.C) "__init__" = some (some (.ref fI))) (ht : typeIn X.K (.ref fI) = some (.type "function"))
    (hfd : fnAt X.K fI = fd) (hok : fnOk X.K fI fd = true) (hb : ∀ d, BindV X fd (d :: ds) [] τ (("self", d) :: bds))
    (hloc : ((((("self" : Str), D.none)) :: bds).all fun b => (fd.scope.names.lookup b.1 == some .local || fd.scope.names.lookup b.1 == some .cell) && b.1 != ("_headers" : Str)) = true)
    (hself : compSk fd.scope "self" = .loc) (hbody : bodyOf fd = pre ++ (.Assign [.Attribute (.Name "self" p1) "_headers" p2] (.Name "headers" p3) p4) :: rest) (hvar : varOk (compSk fd.scope) "headers" = true)
    (h : ∀ x, Ex X n (compSk fd.scope) (bindD (("self", .val (.ref x)) :: bds) fun _ => none) τ pre (fun fl ρ₁ τ₁ => fl = .next ∧ ρ₁ "self" = some (.val (.ref x)) ∧ ∃ l, ρ₁ "headers" = some (.own l) ∧
      Ex X n (compSk fd.scope) (upd ρ₁ "self" (.hdr x l)) τ₁ rest (fun fl _ τ₂ => (fl = .next ∨ fl = .ret .none) ∧ Q (.hdr x l) τ₂))) : CodeV X (n + 2) (.ref X.C) ds [] τ Q := by
  intro A s vs ws R O rv rw'
  obtain rfl := rw'.nil_inv
  obtain ⟨hh, g, dr, tk, os⟩ := s
  have KX := O.inK
  refine make_core (makes_of KX H.make) (looks_findIn KX hi) (fun self => bind_fn KX self ht) (.inl rfl) ?_
  have keep0 : ∀ b o, hh.get? b = some o → ((hh.push emptyDict).push (instObj X.C hh.objs.size)).get? b = some o := fun b o e => Heap.get?_push_of_some _ (Heap.get?_push_of_some _ e)
  have O₁ := O.keeps keep0
  have hx : ((hh.push emptyDict).push (instObj X.C hh.objs.size)).get? (hh.objs.size + 1) = some (instObj X.C hh.objs.size) := by
    rw [← Heap.size_push hh emptyDict]; exact Heap.get?_push_size _ rfl
  have hdx : ((hh.push emptyDict).push (instObj X.C hh.objs.size)).get? hh.objs.size = some emptyDict := Heap.get?_push_of_some _ (Heap.get?_push_size _ rfl)
  have S₁ : Steps τ hh τ ((hh.push emptyDict).push (instObj X.C hh.objs.size)) := ⟨fun b o e _ => keep0 b o e, fun _ q => .inl q⟩
  generalize hxe : hh.objs.size + 1 = x at *
  generalize hde : hh.objs.size = dx at *
  have tx : τ x = none := O.freshOff (by rw [hde]; omega)
  have td : τ dx = none := O.freshOff (by rw [hde]; exact Nat.le_refl _)
  have nd : X.hB.get? dx = none := O.freshNew (by rw [hde]; exact Nat.le_refl _)
  generalize hH : (hh.push emptyDict).push (instObj X.C dx) = H₁ at *
  refine code_fn_at (ks := []) (ws := []) (s := ⟨H₁, g, dr, tk, os⟩) (ds := .val (.ref x) :: ds) hfd hok (hb _) ?_ R.make O₁ (.cons (.val _) (rv.step S₁)) .nil fun env A' s' E R' O' F' keep' notIn' ho' hg' => ?_
  · simpa using hloc
  rw [hbody]
  rw [execs_app]
  refine wpAny_bind (wpAny_mono (h x env A' s' E R' O' F') (fun f s₂ P => ?_) fun _ _ e => e)
  obtain ⟨fl, ρ₁, τ₁, ⟨rfl, hself₁, l, hvar₁, hrest⟩, fr, O₂, F₂, S₂, o₂, g₂⟩ := P
  cases f <;> first | exact fr.elim | skip
  dsimp only
  have nfr : ∀ b, hh.objs.size ≤ b → (H₁.get? b).isSome = true → ¬ InFr env b := fun b hb hs i => by
    have := notIn' b i
    simp only at this
    rw [this] at hs; cases hs
  have hx₂ : s₂.heap.get? x = some (instObj X.C dx) := S₂.keep _ _ (keep' _ _ hx) tx (nfr _ (by omega) (by rw [hx]; rfl))
  have hd₂ : s₂.heap.get? dx = some emptyDict := S₂.keep _ _ (keep' _ _ hdx) td (nfr _ (by omega) (by rw [hdx]; rfl))
  have tx₂ : τ₁ x = none := S₂.off (keep' _ _ hx) tx
  have td₂ : τ₁ dx = none := S₂.off (keep' _ _ hdx) td
  refine wpAny_execs_cons ?_
  refine plainObj_wpAny_Assign_Attribute ?_ (by rfl)
  refine (ev_var (Q := fun d τ' => d = .own l ∧ τ' = τ₁) hvar₁ hvar ⟨rfl, rfl⟩).then R' O₂ F₂ fun v s₃ d τ₃ q r O₃ F₃ S₃ o₃ g₃ => ?_
  obtain ⟨rfl, rfl⟩ := q
  obtain rfl := r.own_inv
  clear r
  have hvs : varOk (compSk fd.scope) "self" = true := by
    unfold varOk
    rw [hself]
    decide +kernel
  refine (ev_var (Q := fun d τ' => d = .val (.ref x) ∧ τ' = τ₃) hself₁ hvs ⟨rfl, rfl⟩).then R' O₃ F₃ fun v s₄ d τ₄ q r O₄ F₄ S₄ o₄ g₄ => ?_
  obtain ⟨rfl, rfl⟩ := q
  obtain rfl := r.val_inv
  have S34 := S₃.trans S₄
  have hx₄ := S34.keep _ _ hx₂ tx₂
  have hd₄ := S34.keep _ _ hd₂ td₂
  refine set_hdr H O₄.inK hx₄ hd₄ fun h₅ tk₅ k₅ hs₅ t₅ same₅ hd₅ => ?_
  dsimp only
  have k₅ : ∀ b o, b ≠ dx → s₄.heap.get? b = some o → h₅.get? b = some o := fun b o hb e => (same₅.2 b hb).trans e
  have rp := Rep.other (C := X.C) (τ := τ₄) k₅ hd₄
  have O₅ : Ok X τ₄ h₅ := ⟨fun b o e => k₅ b o (by rintro rfl; rw [nd] at e; cases e) (O₄.base b o e), O₄.off, fun a es e => by
    obtain ⟨us, m, hu, ru⟩ := O₄.store a es e
    exact ⟨us, m, k₅ _ _ (by rintro rfl; rw [td₂] at e; cases e) hu, rp.2 ru⟩⟩
  have ndx : ∀ b, InFr env b → b ≠ dx := fun b i e => by
    subst e
    exact nfr _ (by omega) (by rw [hdx]; rfl) i
  have hxd : x ≠ dx := by omega
  have F₅ : FrameOk X (compSk fd.scope) env (upd ρ₁ "self" (.hdr x l)) τ₄ h₅ := by
    refine ⟨F₄.stat, F₄.kind, F₄.glob, F₄.bui, ?_, fun y c e => ?_, F₄.offL, F₄.offC, F₄.newL, F₄.newC, F₄.apart⟩
    · obtain ⟨m, ⟨o, es, ep, ho, hd, r⟩, hm, k⟩ := F₄.ns
      refine ⟨m, ⟨o, es, ep, k₅ _ _ (ndx _ (.inl rfl)) ho, hd, r⟩, hm, fun y d e loc => ?_⟩
      unfold upd at e
      by_cases q : y = "self"
      · subst q
        rw [if_pos rfl] at e; cases e
        obtain ⟨v, hv, rv⟩ := k _ _ hself₁ loc
        obtain rfl := rv.val_inv
        exact ⟨_, hv, .hdr tx₂ td₂ (k₅ _ _ hxd hx₄) hd₅⟩
      · rw [if_neg q] at e
        obtain ⟨v, hv, rv⟩ := k y d e loc
        exact ⟨v, hv, rp.1 rv⟩
    · obtain ⟨v, ⟨o, ho, hd⟩, k⟩ := F₄.cells y c e
      refine ⟨v, ⟨o, k₅ _ _ (ndx _ (.inr ⟨y, e⟩)) ho, hd⟩, fun d nl q => ?_⟩
      unfold upd at q
      rw [if_neg (by rintro rfl; exact nl hself)] at q
      obtain ⟨u, hu, ru⟩ := k d nl q
      exact ⟨u, hu, rp.1 ru⟩
  refine wpAny_mono (hrest env A' { s₄ with heap := h₅, toks := tk₅ } E R' O₅ F₅) (fun f s₆ P => ?_) fun _ _ e => e
  obtain ⟨fl, ρ₆, τ₆, ⟨hfl, q⟩, fr, O₆, F₆, S₆, o₆, g₆⟩ := P
  have hx₆ : s₆.heap.get? x = some (instObj X.C dx) := S₆.keep _ _ (k₅ _ _ hxd hx₄) tx₂ (nfr _ (by omega) (by rw [hx]; rfl))
  have hd₆ := S₆.keep _ _ hd₅ td₂ (nfr _ (by omega) (by rw [hdx]; rfl))
  have tx₆ : τ₆ x = none := S₆.off (k₅ _ _ hxd hx₄) tx₂
  have td₆ : τ₆ dx = none := S₆.off hd₅ td₂
  have rfin : Rep X.C τ₆ s₆.heap (.ref x) (.hdr x l) := .hdr tx₆ td₆ hx₆ hd₆
  have F₂' := F₂
  have Sall : Steps τ hh τ₆ s₆.heap := by
    have S25 : StepsF env τ s'.heap τ₄ s₄.heap := S₂.trans F₂ S34.toF
    refine ⟨fun b o e k => ?_, fun b k => ?_⟩
    · have hb : b < hh.objs.size := Heap.lt_size e
      have ni : ¬ InFr env b := fun i => by
        have := notIn' b i
        simp only at this
        rw [keep0 b o e] at this; cases this
      have e1 := keep' b o (keep0 b o e)
      have e4 := S25.keep b o e1 k ni
      have t4 := S25.off e1 k
      exact S₆.keep b o (k₅ b o (Nat.ne_of_lt (hde ▸ hb)) e4) t4 ni
    · by_cases tb : τ b = none
      · right
        cases p : hh.get? b with
        | none => rfl
        | some o =>
          have hb : b < hh.objs.size := Heap.lt_size p
          have ni : ¬ InFr env b := fun i => by
            have := notIn' b i
            simp only at this
            rw [keep0 b o p] at this; cases this
          have e1 := keep' b o (keep0 b o p)
          have e4 := S25.keep b o e1 tb ni
          have t4 := S25.off e1 tb
          have e5 := k₅ b o (Nat.ne_of_lt (hde ▸ hb)) e4
          exact absurd (S₆.off e5 t4) k
      · exact .inl tb
  have fin : Post X τ ⟨hh, g, dr, tk, os⟩ Q (.ref x) s₆ := ⟨_, τ₆, q, rfin, O₆, Sall, by rw [o₆]; exact o₄.trans (o₃.trans (o₂.trans ho')), by rw [g₆]; exact g₄.trans (g₃.trans (g₂.trans hg'))⟩
  rcases hfl with rfl | rfl
  · cases f <;> first | exact fr.elim | skip
    exact ⟨rfl, fin⟩
  · cases f <;> first | exact fr.elim | skip
    obtain rfl := Rep.none_inv fr
    exact ⟨rfl, fin⟩
end
end

section
namespace RX
open PySem.Sre PySem.Sre.M

/-- the machine of a pattern without groups -/
noncomputable def S (c t : Array Nat) (lim start last pc pos handed : Nat) (must om : Bool) (fr : List Sre.Frame) (wt : Nat) (ans : Option Bool) (seen : Sre.Seen) (out : Option Sre.Outcome) : M :=
  { code := c, text := t, lim, start, lastStart := last, wholeText := false, mustAdvance := must, pc, pos, handed, outermost := om, marks := #[], lastmark := -1, lastindex := -1, loops := #[], inner := none, frames := fr, weight := wt, answer := ans, seen, outcome := out }

noncomputable def To (m m' : M) (n : Nat) : Prop := ∀ k, runFor (n + k) m = runFor k m'
theorem To.trans {a b c : M} {n k : Nat} (h : To a b n) (h' : To b c k) : To a c (n + k) := fun j => by
  rw [Nat.add_assoc, h, h']
theorem To.step {m m' : M} (h : m.outcome.isSome = false) (e : m.step = m') : To m m' 1 := fun k => by
  rw [Nat.add_comm]
  show (if m.outcome.isSome then m else runFor k m.step) = _
  rw [if_neg (by rw [h]; exact Bool.false_ne_true), e]

section
variable {c t : Array Nat} {lim start last pc pos handed : Nat} {must om : Bool} {fr : List Sre.Frame} {wt : Nat} {seen : Sre.Seen}

theorem lit_yes {w : Nat} (hs : pc < c.size) (h : ops[c.getD pc 0]? = some .LITERAL) (hp : pos < lim) (hw : c.getD (pc + 1) 0 = w) (hc : t.getD pos 0 = w) :
    ∃ seen', To (S c t lim start last pc pos handed must om fr wt none seen none) (S c t lim start last (pc + 2) (pos + 1) handed must om fr wt none seen' none) 1 := by
  refine ⟨seen.add (c.getD pc 0), To.step rfl ?_⟩
  show (if pc < c.size then M.exec _ else _) = _
  rw [if_pos hs]
  unfold M.exec
  simp only [M.word, S, Nat.add_zero, h]
  have hge : (pos ≥ lim) = False := eq_false (by omega)
  simp only [hge]
  have : accepts c pc (t.getD pos 0) (seen.add (c.getD pc 0)) = .ok (true, seen.add (c.getD pc 0)) := by
    unfold accepts
    simp only [h, hw, hc, beq_self_eq_true]
  simp only [this]
  have hi : itemWidth c pc = 2 := by
    unfold itemWidth
    rw [h]
  rw [hi]
  exact if_neg (fun h => h)
theorem lit_no {w : Nat} (hs : pc < c.size) (h : ops[c.getD pc 0]? = some .LITERAL) (hw : c.getD (pc + 1) 0 = w) (hc : pos < lim → t.getD pos 0 ≠ w) :
    ∃ seen', To (S c t lim start last pc pos handed must om fr wt none seen none) (S c t lim start last pc pos handed must om fr wt (some false) seen' none) 1 := by
  by_cases hp : pos < lim
  · refine ⟨seen.add (c.getD pc 0), To.step rfl ?_⟩
    show (if pc < c.size then M.exec _ else _) = _
    rw [if_pos hs]
    unfold M.exec
    simp only [M.word, S, Nat.add_zero, h]
    have hge : (pos ≥ lim) = False := eq_false (by omega)
    simp only [hge]
    have : accepts c pc (t.getD pos 0) (seen.add (c.getD pc 0)) = .ok (false, seen.add (c.getD pc 0)) := by
      unfold accepts
      simp only [h, hw, beq_eq_false_iff_ne.mpr (hc hp)]
    simp only [this]
    exact if_neg (fun h => h)
  · refine ⟨seen.add (c.getD pc 0), To.step rfl ?_⟩
    show (if pc < c.size then M.exec _ else _) = _
    rw [if_pos hs]
    unfold M.exec
    simp only [M.word, S, Nat.add_zero, h]
    split
    · rfl
    · exact absurd (show pos ≥ lim by omega) ‹_›
theorem isAt1 (m : M) : m.isAt 1 = .ok (m.pos == 0 || m.text.getD (m.pos - 1) 0 == 10) := rfl
theorem at_bol (hs : pc < c.size) (h : ops[c.getD pc 0]? = some .AT) (hw : c.getD (pc + 1) 0 = 1) :
    ∃ seen', To (S c t lim start last pc pos handed must om fr wt none seen none)
      (if (pos == 0 || t.getD (pos - 1) 0 == 10) = true then S c t lim start last (pc + 2) pos handed must om fr wt none seen' none else S c t lim start last pc pos handed must om fr wt (some false) seen' none) 1 := by
  refine ⟨(seen.add (c.getD pc 0)).add 44, To.step rfl ?_⟩
  show (if pc < c.size then M.exec _ else _) = _
  rw [if_pos hs]
  unfold M.exec
  simp only [M.word, S, Nat.add_zero, h, hw, isAt1]
  cases (pos == 0 || t.getD (pos - 1) 0 == 10) <;> rfl
theorem success (hs : pc < c.size) (h : ops[c.getD pc 0]? = some .SUCCESS) (hm : om = true → must = true → pos ≠ start) :
    ∃ seen', To (S c t lim start last pc pos handed must om fr wt none seen none) (S c t lim start last pc pos pos must om fr wt (some true) seen' none) 1 := by
  refine ⟨seen.add (c.getD pc 0), To.step rfl ?_⟩
  show (if pc < c.size then M.exec _ else _) = _
  rw [if_pos hs]
  unfold M.exec
  simp only [M.word, S, Nat.add_zero, h]
  have : (om && ((false && pos != lim) || (must && pos == start))) = false := by
    cases om <;> cases must <;> simp_all
  split
  · rename_i hh
    have hh' : (om && ((false && pos != lim) || (must && pos == start))) = true := hh
    rw [this] at hh'; cases hh'
  · rfl
theorem in_yes (hs : pc < c.size) (h : ops[c.getD pc 0]? = some .IN) (hp : pos < lim) (hc : ∀ seen, ∃ seen', inSet c (t.getD pos 0) c.size (pc + 2) true seen = .ok (true, seen')) :
    ∃ seen', To (S c t lim start last pc pos handed must om fr wt none seen none) (S c t lim start last (pc + (1 + c.getD (pc + 1) 0)) (pos + 1) handed must om fr wt none seen' none) 1 := by
  obtain ⟨seen', hc⟩ := hc (seen.add (c.getD pc 0))
  refine ⟨seen', To.step rfl ?_⟩
  show (if pc < c.size then M.exec _ else _) = _
  rw [if_pos hs]
  unfold M.exec
  simp only [M.word, S, Nat.add_zero, h]
  have hge : (pos ≥ lim) = False := eq_false (by omega)
  simp only [hge]
  have : accepts c pc (t.getD pos 0) (seen.add (c.getD pc 0)) = .ok (true, seen') := by
    unfold accepts
    simp only [h, hc]
  simp only [this]
  have hi : itemWidth c pc = 1 + c.getD (pc + 1) 0 := by
    unfold itemWidth
    rw [h]
  rw [hi]
  exact if_neg (fun h => h)
theorem jump (hs : pc < c.size) (h : ops[c.getD pc 0]? = some .JUMP) :
    ∃ seen', To (S c t lim start last pc pos handed must om fr wt none seen none) (S c t lim start last (pc + 1 + c.getD (pc + 1) 0) pos handed must om fr wt none seen' none) 1 := by
  refine ⟨seen.add (c.getD pc 0), To.step rfl ?_⟩
  show (if pc < c.size then M.exec _ else _) = _
  rw [if_pos hs]
  unfold M.exec
  simp only [M.word, S, Nat.add_zero, h]
end
end RX
end

section
namespace RX
open PySem.Sre PySem.Sre.M

noncomputable def kept0 : Sre.Kept := { lastmark := -1, lastindex := -1, whole := false, marks := #[] }
noncomputable def B (a pos : Nat) (om : Bool) : Sre.Frame := { wait := .nextBranch, pc := a, pos := pos, outermost := om, kept := kept0 }
noncomputable def L (pc pos : Nat) (om : Bool) : Sre.Frame := { wait := .lookNot, pc := pc, pos := pos, outermost := om, kept := kept0 }
noncomputable def F (pc pos : Nat) (om : Bool) : Sre.Frame := { wait := .nextStart, pc := pc, pos := pos, outermost := om }

section
variable {c t : Array Nat} {lim start last pc pos handed a p q : Nat} {must om om' : Bool} {fr : List Sre.Frame} {wt : Nat} {seen : Sre.Seen}

theorem branch_in (hs : pc < c.size) (h : ops[c.getD pc 0]? = some .BRANCH) (ha : (c.getD (pc + 1) 0 == 0) = false) (hw : wt < 1000) :
    ∃ seen', To (S c t lim start last pc pos handed must om fr wt none seen none) (S c t lim start last (pc + 2) pos pos must om (B (pc + 1) pos om :: fr) (wt + 1) none seen' none) 1 := by
  refine ⟨seen.add (c.getD pc 0), To.step rfl ?_⟩
  show (if pc < c.size then M.exec _ else _) = _
  rw [if_pos hs]
  unfold M.exec
  simp only [M.word, S, Nat.add_zero, h]
  show (if (c.getD (pc + 1) 0 == 0) = true then _ else M.attempt _ _ _ _ _) = _
  rw [if_neg (by rw [ha]; exact Bool.false_ne_true)]
  unfold M.attempt
  rw [if_neg]
  · rfl
  · show ¬ (wt + 1 + 0 > 16777216)
    omega
theorem branch_yes : To (S c t lim start last pc pos handed must om (B a p om' :: fr) (wt + 1) (some true) seen none) (S c t lim start last a p handed must om' fr wt (some true) seen none) 1 := by
  refine To.step rfl ?_
  have : wt + 1 - (1 + 0) = wt := by omega
  show ({ code := c, text := t, lim, start, lastStart := last, wholeText := false, mustAdvance := must, pc := a, pos := p, handed := handed, outermost := om', marks := #[], lastmark := -1, lastindex := -1, loops := #[], inner := none, frames := fr, weight := wt + 1 - (1 + 0), answer := some true, seen, outcome := none } : M) = _
  rw [this]
  rfl
theorem branch_next (ha : (c.getD (a + c.getD a 0) 0 == 0) = false) (hw : wt < 1000) : To (S c t lim start last pc pos handed must om (B a p om' :: fr) (wt + 1) (some false) seen none) (S c t lim start last (a + c.getD a 0 + 1) p p must om' (B (a + c.getD a 0) p om' :: fr) (wt + 1) none seen none) 1 := by
  refine To.step rfl ?_
  show (if (c.getD (a + c.getD a 0) 0 == 0) = true then _ else M.attempt _ _ _ _ _) = _
  rw [if_neg (by rw [ha]; exact Bool.false_ne_true)]
  unfold M.attempt
  rw [if_neg]
  · have : wt + 1 - (1 + 0) = wt := by omega
    show ({ code := c, text := t, lim, start, lastStart := last, wholeText := false, mustAdvance := must, pc := a + c.getD a 0 + 1, pos := p, handed := p, outermost := om', marks := #[], lastmark := -1, lastindex := -1, loops := #[], inner := none, frames := B (a + c.getD a 0) p om' :: fr, weight := wt + 1 - (1 + 0) + 1 + 0, answer := none, seen, outcome := none } : M) = _
    rw [this]
    rfl
  · show ¬ (wt + 1 - (1 + 0) + 1 + 0 > 16777216)
    omega
theorem branch_out (ha : (c.getD (a + c.getD a 0) 0 == 0) = true) : To (S c t lim start last pc pos handed must om (B a p om' :: fr) (wt + 1) (some false) seen none) (S c t lim start last a p handed must om' fr wt (some false) seen none) 1 := by
  refine To.step rfl ?_
  show (if (c.getD (a + c.getD a 0) 0 == 0) = true then _ else M.attempt _ _ _ _ _) = _
  rw [if_pos ha]
  have : wt + 1 - (1 + 0) = wt := by omega
  show ({ code := c, text := t, lim, start, lastStart := last, wholeText := false, mustAdvance := must, pc := a, pos := p, handed := handed, outermost := om', marks := #[], lastmark := -1, lastindex := -1, loops := #[], inner := none, frames := fr, weight := wt + 1 - (1 + 0), answer := some false, seen, outcome := none } : M) = _
  rw [this]
  rfl
theorem look_in (hs : pc < c.size) (h : ops[c.getD pc 0]? = some .ASSERT_NOT) (hb : c.getD (pc + 2) 0 = 0) (hw : wt < 1000) :
    ∃ seen', To (S c t lim start last pc pos handed must om fr wt none seen none) (S c t lim start last (pc + 3) pos pos must false (L pc pos om :: fr) (wt + 1) none seen' none) 1 := by
  refine ⟨seen.add (c.getD pc 0), To.step rfl ?_⟩
  show (if pc < c.size then M.exec _ else _) = _
  rw [if_pos hs]
  unfold M.exec
  simp only [M.word, S, Nat.add_zero, h, hb]
  have hge : (pos < 0) = False := eq_false (by omega)
  simp only [hge]
  refine (if_neg (fun h => h)).trans ?_
  unfold M.attempt
  rw [if_neg]
  · rfl
  · show ¬ (wt + 1 + 0 > 16777216)
    omega
theorem look_no : To (S c t lim start last pc pos handed must om (L a p om' :: fr) (wt + 1) (some false) seen none) (S c t lim start last (a + 1 + c.getD (a + 1) 0) p handed must om' fr wt none seen none) 1 := by
  refine To.step rfl ?_
  have : wt + 1 - (1 + 0) = wt := by omega
  show ({ code := c, text := t, lim, start, lastStart := last, wholeText := false, mustAdvance := must, pc := a + 1 + c.getD (a + 1) 0, pos := p, handed := handed, outermost := om', marks := #[], lastmark := -1, lastindex := -1, loops := #[], inner := none, frames := fr, weight := wt + 1 - (1 + 0), answer := none, seen, outcome := none } : M) = _
  rw [this]
  rfl

/-- what a run comes to -/
noncomputable def Ends (m : M) (r : Option (Nat × Nat)) (n : Nat) : Prop := ∃ m', To m m' n ∧ match r with
  | some (s, e) => m'.outcome = some .matched ∧ m'.start = s ∧ m'.handed = e ∧ m'.lastmark = -1 ∧ m'.marks = #[] ∧ m'.lastindex = -1
  | none => m'.outcome = some .failed
theorem Ends.after {m m' : M} {r : Option (Nat × Nat)} {n k : Nat} (h : To m m' n) (e : Ends m' r k) : Ends m r (n + k) := by
  obtain ⟨m'', h', e⟩ := e
  exact ⟨m'', h.trans h', e⟩

theorem ends_yes : Ends (S c t lim start last pc pos handed must om [F a p om'] (wt + 1) (some true) seen none) (some (start, handed)) 2 :=
  ⟨_, (To.step rfl rfl).trans (To.step rfl rfl), rfl, rfl, rfl, rfl, rfl, rfl⟩
theorem ends_out : Ends (S c t lim start last pc pos handed must om [] wt (some false) seen none) none 1 := ⟨_, To.step rfl rfl, rfl⟩
theorem start_out (h : ¬ p < last) : To (S c t lim start last pc pos handed must om [F a p om'] (wt + 1) (some false) seen none) (S c t lim start last a p handed must om' [] wt (some false) seen none) 1 := by
  refine To.step rfl ?_
  show (if p < last then _ else _) = _
  rw [if_neg h]
  rfl
theorem start_next (h : p < last) : To (S c t lim start last pc pos handed must om [F a p om'] (wt + 1) (some false) seen none) (M.attemptFrom (S c t lim start last a p handed false om' [] wt none seen none) (p + 1) false) 1 := by
  refine To.step rfl ?_
  show (if p < last then _ else _) = _
  rw [if_pos h]
  rfl
theorem attemptAt_eq {first : Bool} (hw : wt < 1000) : M.attemptAt (S c t lim start last pc pos handed must om [] wt none seen none) p first = S c t lim p last pc p p must first [F pc p first] (wt + 1) none seen none := by
  unfold M.attemptAt M.attempt
  rw [if_neg]
  · rfl
  · show ¬ (wt + 1 + 0 > 16777216)
    omega
end
end RX
end

section
namespace RX
open PySem.Sre PySem.Sre.M

noncomputable def IsFirst (hit : Nat → Option Nat) (s last : Nat) : Option (Nat × Nat) → Prop
  | some (p, e) => s ≤ p ∧ p ≤ last ∧ hit p = some e ∧ ∀ j, s ≤ j → j < p → hit j = none
  | none => ∀ j, s ≤ j → j ≤ last → hit j = none

noncomputable def Att (c t : Array Nat) (lim last pc s : Nat) (h : Option Nat) : Prop :=
  ∀ first must seen, ∃ k, k ≤ 20 ∧ ∃ seen' pc' pos' hd om, To (S c t lim s last pc s s must first [F pc s first] 1 none seen none) (S c t lim s last pc' pos' hd must om [F pc s first] 1 (some h.isSome) seen' none) k ∧ ∀ e, h = some e → hd = e

section
variable {c t : Array Nat} {lim last pc : Nat} {hit : Nat → Option Nat}

theorem search_go (hA : ∀ s, s ≤ last → Att c t lim last pc s (hit s)) (next : ∀ s must seen start pos handed om, s ≤ last → (∃ p must' seen', s ≤ p ∧ p ≤ last ∧ (∀ j, s ≤ j → j < p → hit j = none) ∧ ∀ first, M.attemptFrom (S c t lim start last pc pos handed must om [] 0 none seen none) s first = S c t lim p last pc p p must' first [F pc p first] 1 none seen' none) ∨
      ((∀ j, s ≤ j → j ≤ last → hit j = none) ∧ ∃ seen', ∀ first, M.attemptFrom (S c t lim start last pc pos handed must om [] 0 none seen none) s first = S c t lim start last pc pos handed must om [] 0 (some false) seen' none)) :
    ∀ n s, last - s ≤ n → s ≤ last → ∀ first must seen start pos handed om, ∃ r k, IsFirst hit s last r ∧ k ≤ (n + 1) * 30 ∧ Ends (M.attemptFrom (S c t lim start last pc pos handed must om [] 0 none seen none) s first) r k := by
  intro n
  induction n with
  | zero =>
    intro s hn hs first must seen start pos handed om
    rcases next s must seen start pos handed om hs with ⟨p, must', seen', hp, hpl, hno, e⟩ | ⟨hno, seen', e⟩
    · rw [e]
      obtain ⟨k, hk, seen'', pc', pos', hd, om', ht, hh⟩ := hA p hpl first must' seen'
      cases hc : hit p with
      | some e' =>
        rw [hc] at ht hh
        refine ⟨some (p, e'), k + 2, ⟨hp, hpl, hc, hno⟩, by omega, .after ht ?_⟩
        rw [← hh e' rfl]
        exact ends_yes
      | none =>
        rw [hc] at ht
        refine ⟨none, k + (1 + 1), fun j h1 h2 => ?_, by omega, .after ht (.after (start_out (by omega)) ends_out)⟩
        have : j = p := by omega
        rw [this]; exact hc
    · rw [e]
      exact ⟨none, 1, hno, by omega, ends_out⟩
  | succ n ih =>
    intro s hn hs first must seen start pos handed om
    rcases next s must seen start pos handed om hs with ⟨p, must', seen', hp, hpl, hno, e⟩ | ⟨hno, seen', e⟩
    · rw [e]
      obtain ⟨k, hk, seen'', pc', pos', hd, om', ht, hh⟩ := hA p hpl first must' seen'
      cases hc : hit p with
      | some e' =>
        rw [hc] at ht hh
        refine ⟨some (p, e'), k + 2, ⟨hp, hpl, hc, hno⟩, by omega, .after ht ?_⟩
        rw [← hh e' rfl]
        exact ends_yes
      | none =>
        rw [hc] at ht
        by_cases hl : p < last
        · obtain ⟨r, k', hr, hk', he⟩ := ih (p + 1) (by omega) (by omega) false false seen'' p p hd first
          refine ⟨r, k + (1 + k'), ?_, by omega, .after ht (.after (start_next hl) ?_)⟩
          · have fill : ∀ j, s ≤ j → j < p + 1 → hit j = none := fun j h1 h2 => by
              by_cases q : j < p
              · exact hno j h1 q
              · have : j = p := by omega
                rw [this]; exact hc
            cases r with
            | none =>
              exact fun j h1 h2 => by
                by_cases q : j < p + 1
                · exact fill j h1 q
                · exact hr j (by omega) h2
            | some pe =>
              obtain ⟨p', e'⟩ := pe
              obtain ⟨h1, h2, h3, h4⟩ := hr
              exact ⟨by omega, h2, h3, fun j h5 h6 => by
                by_cases q : j < p + 1
                · exact fill j h5 q
                · exact h4 j (by omega) h6⟩
          · exact he
        · refine ⟨none, k + (1 + 1), fun j h1 h2 => ?_, by omega, .after ht (.after (start_out hl) ends_out)⟩
          by_cases q : j < p
          · exact hno j h1 q
          · have : j = p := by omega
            rw [this]; exact hc
    · rw [e]
      exact ⟨none, 1, hno, by omega, ends_out⟩

/-! searches -/
theorem first_plain {first must om : Bool} {seen : Sre.Seen} {s start pos handed : Nat} (h : M.hasFirstSet (S c t lim start last pc pos handed must om [] 0 none seen none) = false) :
    M.attemptFrom (S c t lim start last pc pos handed must om [] 0 none seen none) s first = S c t lim s last pc s s must first [F pc s first] 1 none seen none := by
  unfold M.attemptFrom
  rw [h]
  exact attemptAt_eq (by decide)

theorem admitted_spec {m : M} {adm : Nat → Bool} (hadm : ∀ ch seen, ∃ seen', inSet m.code ch m.code.size 5 true seen = .ok (adm ch, seen')) :
    ∀ fuel s seen, m.lim + 1 - s ≤ fuel → (∃ p seen', M.admitted m fuel s seen = .ok (some p, seen') ∧ s ≤ p ∧ p < m.lim ∧ adm (m.text.getD p 0) = true ∧ ∀ j, s ≤ j → j < p → adm (m.text.getD j 0) = false) ∨
      (∃ seen', M.admitted m fuel s seen = .ok (none, seen') ∧ ∀ j, s ≤ j → j < m.lim → adm (m.text.getD j 0) = false)
  | 0, s, sn0, h => .inr ⟨sn0, rfl, fun j h1 h2 => absurd (Nat.lt_of_lt_of_le (Nat.sub_pos_of_lt (Nat.lt_succ_of_lt (Nat.lt_of_le_of_lt h1 h2))) h) (Nat.lt_irrefl _)⟩
  | fuel + 1, s, sn0, h => by
    unfold M.admitted
    by_cases hs : s ≥ m.lim
    · rw [if_pos hs]
      exact .inr ⟨sn0, rfl, fun j h1 h2 => absurd (Nat.lt_of_lt_of_le h2 hs) (Nat.not_lt.mpr h1)⟩
    · rw [if_neg hs]
      obtain ⟨seen', e⟩ := hadm (m.text.getD s 0) sn0
      rw [e]
      cases ha : adm (m.text.getD s 0) with
      | true => exact .inl ⟨s, seen', rfl, Nat.le_refl _, Nat.lt_of_not_le hs, ha, fun j h1 h2 => absurd h2 (Nat.not_lt.mpr h1)⟩
      | false =>
        rcases admitted_spec hadm fuel (s + 1) seen' (by rw [Nat.sub_add_eq]; exact Nat.sub_le_of_le_add h) with ⟨p, sn, e1, h1, h2, h3, h4⟩ | ⟨sn, e1, h4⟩
        · refine .inl ⟨p, sn, e1, Nat.le_of_succ_le h1, h2, h3, fun j h5 h6 => ?_⟩
          by_cases q : j = s
          · rw [q]; exact ha
          · exact h4 j (Nat.lt_of_le_of_ne h5 (Ne.symm q)) h6
        · refine .inr ⟨sn, e1, fun j h5 h6 => ?_⟩
          by_cases q : j = s
          · rw [q]; exact ha
          · exact h4 j (Nat.lt_of_le_of_ne h5 (Ne.symm q)) h6

theorem search_set {adm : Nat → Bool} (hf : (match ops[c.getD 0 0]? with | some .INFO => true | _ => false) = true) (h4 : c.getD 2 0 = 4) (hadm : ∀ ch seen, ∃ seen', inSet c ch c.size 5 true seen = .ok (adm ch, seen'))
    (hl : last = lim) (hno : ∀ j, (j < lim → adm (t.getD j 0) = false) → hit j = none) (hA : ∀ s, s ≤ last → Att c t lim last pc s (hit s)) {s start pos handed : Nat} {must om first : Bool} {seen : Sre.Seen} (hs : s ≤ last) :
    ∃ r k, IsFirst hit s last r ∧ k ≤ (last + 1) * 30 ∧ Ends (M.attemptFrom (S c t lim start last pc pos handed must om [] 0 none seen none) s first) r k := by
  have hfs : ∀ start pos handed must om sn, M.hasFirstSet (S c t lim start last pc pos handed must om [] 0 none sn none) = true := fun start pos handed must om sn => by
    unfold M.hasFirstSet
    show ((match ops[c.getD 0 0]? with | some .INFO => true | _ => false) && c.getD 2 0 == 4) = true
    rw [hf, h4]; rfl
  have next : ∀ s must sn0 start pos handed om, s ≤ last → (∃ p must' seen', s ≤ p ∧ p ≤ last ∧ (∀ j, s ≤ j → j < p → hit j = none) ∧ ∀ first, M.attemptFrom (S c t lim start last pc pos handed must om [] 0 none sn0 none) s first = S c t lim p last pc p p must' first [F pc p first] 1 none seen' none) ∨
      ((∀ j, s ≤ j → j ≤ last → hit j = none) ∧ ∃ seen', ∀ first, M.attemptFrom (S c t lim start last pc pos handed must om [] 0 none sn0 none) s first = S c t lim start last pc pos handed must om [] 0 (some false) seen' none) := by
    intro s must sn0 start pos handed om hs
    rcases admitted_spec (m := S c t lim start last pc pos handed must om [] 0 none sn0 none) hadm (lim + 1 - s) s sn0 (Nat.le_refl _) with ⟨p, sn, e1, q1, q2, q3, q4⟩ | ⟨sn, e1, q4⟩
    · have q2 : p < lim := q2
      refine .inl ⟨p, false, sn, q1, by omega, fun j h1 h2 => hno j fun _ => q4 j h1 h2, fun first => ?_⟩
      unfold M.attemptFrom
      rw [hfs]
      show (match M.admitted _ (lim + 1 - s) s sn0 with | .ok (some s, seen) => _ | .ok (none, seen) => _ | .error why => _) = _
      rw [e1]
      show M.attemptAt (S c t lim start last pc pos handed false om [] 0 none sn none) p first = _
      exact attemptAt_eq (by decide)
    · refine .inr ⟨fun j h1 h2 => hno j fun h3 => q4 j h1 h3, sn, fun first => ?_⟩
      unfold M.attemptFrom
      rw [hfs]
      show (match M.admitted _ (lim + 1 - s) s sn0 with | .ok (some s, seen) => _ | .ok (none, seen) => _ | .error why => _) = _
      rw [e1]
      rfl
  obtain ⟨r, k, h1, h2, h3⟩ := search_go hA next (last - s) s (Nat.le_refl _) hs first must seen start pos handed om
  exact ⟨r, k, h1, by omega, h3⟩
theorem search_plain (hfs : ((match ops[c.getD 0 0]? with | some .INFO => true | _ => false) && c.getD 2 0 == 4) = false) (hA : ∀ s, s ≤ last → Att c t lim last pc s (hit s)) {s start pos handed : Nat} {must om first : Bool} {seen : Sre.Seen} (hs : s ≤ last) :
    ∃ r k, IsFirst hit s last r ∧ k ≤ (last + 1) * 30 ∧ Ends (M.attemptFrom (S c t lim start last pc pos handed must om [] 0 none seen none) s first) r k := by
  obtain ⟨r, k, h1, h2, h3⟩ := search_go hA (fun s must seen start pos handed om hs => .inl ⟨s, must, seen, Nat.le_refl _, hs, fun j h1 h2 => by omega, fun first => first_plain hfs⟩) (last - s) s (Nat.le_refl _) hs first must seen start pos handed om
  refine ⟨r, k, h1, Nat.le_trans h2 ?_, h3⟩
  omega
end
end RX
end

section
namespace RX
open PySem.Sre PySem.Sre.M

theorem in_no {c t : Array Nat} {lim start last pc pos handed : Nat} {must om : Bool} {fr : List Sre.Frame} {wt : Nat} {sn : Sre.Seen} (hs : pc < c.size) (h : ops[c.getD pc 0]? = some .IN) (hc : pos < lim → ∀ seen, ∃ seen', inSet c (t.getD pos 0) c.size (pc + 2) true seen = .ok (false, seen')) :
    ∃ seen', To (S c t lim start last pc pos handed must om fr wt none sn none) (S c t lim start last pc pos handed must om fr wt (some false) seen' none) 1 := by
  by_cases hp : pos < lim
  · obtain ⟨seen', hc⟩ := hc hp (sn.add (c.getD pc 0))
    refine ⟨seen', To.step rfl ?_⟩
    show (if pc < c.size then M.exec _ else _) = _
    rw [if_pos hs]
    unfold M.exec
    simp only [M.word, S, Nat.add_zero, h]
    have hge : (pos ≥ lim) = False := eq_false (by omega)
    simp only [hge]
    have : accepts c pc (t.getD pos 0) (sn.add (c.getD pc 0)) = .ok (false, seen') := by
      unfold accepts
      simp only [h, hc]
    simp only [this]
    exact if_neg (fun h => h)
  · refine ⟨sn.add (c.getD pc 0), To.step rfl ?_⟩
    show (if pc < c.size then M.exec _ else _) = _
    rw [if_pos hs]
    unfold M.exec
    simp only [M.word, S, Nat.add_zero, h]
    split
    · rfl
    · exact absurd (show pos ≥ lim by omega) ‹_›

noncomputable def cN : Array Nat := #[14, 10, 4, 1, 1, 22, 0, 31, 16, 127, 0, 13, 7, 22, 0, 31, 16, 127, 0, 1]
noncomputable def cV : Array Nat := #[14, 14, 4, 1, 1, 9, 4294966783, 0, 0, 2147483648, 0, 0, 0, 0, 0, 13, 11, 9, 4294966783, 0, 0, 2147483648, 0, 0, 0, 0, 0, 1]
noncomputable def cD : Array Nat := #[14, 4, 0, 1, 1, 6, 1, 16, 46, 1]
noncomputable def cL : Array Nat := #[14, 9, 4, 1, 2, 16, 10, 16, 13, 0, 7, 7, 16, 13, 16, 10, 15, 18, 5, 16, 10, 15, 13, 11, 16, 13, 5, 5, 0, 16, 10, 1, 15, 2, 0, 1]

noncomputable def admN (ch : Nat) : Bool := decide (ch ≤ 31) || ch == 127
noncomputable def admV (ch : Nat) : Bool := decide (ch < 256) && (cV.getD (6 + ch / 32) 0).testBit (ch % 32)
noncomputable def admL (ch : Nat) : Bool := ch == 10 || ch == 13

theorem inN (i : Nat) (hi : i = 5 ∨ i = 13) (ch : Nat) (sn : Sre.Seen) : ∃ seen', inSet cN ch cN.size i true sn = .ok (admN ch, seen') := by
  have e : ∀ fuel, ∃ seen', inSet cN ch (fuel + 3) i true sn = .ok (admN ch, seen') := fun fuel => by
    rcases hi with rfl | rfl <;>
    · show ∃ seen', (if (decide (0 ≤ ch) && decide (ch ≤ 31)) = true then _ else _) = _
      by_cases h1 : ch ≤ 31
      · rw [if_pos (by simp [h1])]
        exact ⟨_, by rw [show admN ch = true by simp [admN, h1]]⟩
      · rw [if_neg (by simp [h1])]
        show ∃ seen', (if (ch == 127) = true then _ else _) = _
        by_cases h2 : ch = 127
        · rw [if_pos (by simp [h2])]
          exact ⟨_, by rw [show admN ch = true by simp [admN, h2]]⟩
        · rw [if_neg (by simp [h2])]
          exact ⟨_, by rw [show admN ch = false by simp [admN, h1, h2]]; rfl⟩
  exact e 17
theorem inV (i : Nat) (hi : i = 5 ∨ i = 17) (ch : Nat) (sn : Sre.Seen) : ∃ seen', inSet cV ch cV.size i true sn = .ok (admV ch, seen') := by
  have e : ∀ fuel, ∃ seen', inSet cV ch (fuel + 3) i true sn = .ok (admV ch, seen') := fun fuel => by
    have key : ∀ j, j < 8 → cV.getD (6 + j) 0 = cV.getD (18 + j) 0 := by decide
    rcases hi with rfl | rfl
    · show ∃ seen', (if (decide (ch < 256) && (cV.getD (5 + (1 + ch / 32)) 0).testBit (ch % 32)) = true then _ else _) = _
      have e1 : (decide (ch < 256) && (cV.getD (5 + (1 + ch / 32)) 0).testBit (ch % 32)) = admV ch := by
        rw [show 5 + (1 + ch / 32) = 6 + ch / 32 by omega]; rfl
      rw [e1]
      cases h : admV ch
      · rw [if_neg Bool.false_ne_true]
        exact ⟨_, rfl⟩
      · rw [if_pos rfl]; exact ⟨_, rfl⟩
    · show ∃ seen', (if (decide (ch < 256) && (cV.getD (17 + (1 + ch / 32)) 0).testBit (ch % 32)) = true then _ else _) = _
      have e1 : (decide (ch < 256) && (cV.getD (17 + (1 + ch / 32)) 0).testBit (ch % 32)) = admV ch := by
        rw [show 17 + (1 + ch / 32) = 18 + ch / 32 by omega]
        by_cases q : ch < 256
        · rw [← key (ch / 32) (by omega)]; rfl
        · simp [admV, q]
      rw [e1]
      cases h : admV ch
      · rw [if_neg Bool.false_ne_true]
        exact ⟨_, rfl⟩
      · rw [if_pos rfl]; exact ⟨_, rfl⟩
  exact e 25
theorem inL (ch : Nat) (sn : Sre.Seen) : ∃ seen', inSet cL ch cL.size 5 true sn = .ok (admL ch, seen') := by
  have e : ∀ fuel, ∃ seen', inSet cL ch (fuel + 3) 5 true sn = .ok (admL ch, seen') := fun fuel => by
    show ∃ seen', (if (ch == 10) = true then _ else _) = _
    by_cases h1 : ch = 10
    · rw [if_pos (by simp [h1])]
      exact ⟨_, by rw [show admL ch = true by simp [admL, h1]]⟩
    · rw [if_neg (by simp [h1])]
      show ∃ seen', (if (ch == 13) = true then _ else _) = _
      by_cases h2 : ch = 13
      · rw [if_pos (by simp [h2])]
        exact ⟨_, by rw [show admL ch = true by simp [admL, h2]]⟩
      · rw [if_neg (by simp [h2])]
        exact ⟨_, by rw [show admL ch = false by simp [admL, h1, h2]]; rfl⟩
  exact e 33

noncomputable def hitC (adm : Nat → Bool) (t : Array Nat) (lim s : Nat) : Option Nat := if s < lim ∧ adm (t.getD s 0) = true then some (s + 1) else none

theorem attN {t : Array Nat} {lim last s : Nat} : Att cN t lim last 11 s (hitC admN t lim s) := fun first must sn => by
  unfold hitC
  by_cases h : s < lim ∧ admN (t.getD s 0) = true
  · rw [if_pos h]
    obtain ⟨s1, h1⟩ := in_yes (c := cN) (t := t) (lim := lim) (start := s) (last := last) (pc := 11) (pos := s) (handed := s) (must := must) (om := first) (fr := [F 11 s first]) (wt := 1) (seen := sn) (by decide) rfl h.1 (fun sn => by
      obtain ⟨sn', e⟩ := inN 13 (.inr rfl) (t.getD s 0) sn
      exact ⟨sn', e.trans (by rw [h.2])⟩)
    obtain ⟨s2, h2⟩ := success (c := cN) (t := t) (lim := lim) (start := s) (last := last) (pc := 19) (pos := s + 1) (handed := s) (must := must) (om := first) (fr := [F 11 s first]) (wt := 1) (seen := s1) (by decide) rfl (fun _ _ => by omega)
    exact ⟨2, by decide, s2, 19, s + 1, s + 1, first, h1.trans h2, fun e he => by cases he; rfl⟩
  · rw [if_neg h]
    obtain ⟨s1, h1⟩ := in_no (c := cN) (t := t) (lim := lim) (start := s) (last := last) (pc := 11) (pos := s) (handed := s) (must := must) (om := first) (fr := [F 11 s first]) (wt := 1) (sn := sn) (by decide) rfl (fun hp sn => by
      obtain ⟨sn', e⟩ := inN 13 (.inr rfl) (t.getD s 0) sn
      exact ⟨sn', by rw [e]; rw [Bool.eq_false_iff.mpr fun q => h ⟨hp, q⟩]⟩)
    exact ⟨1, by decide, s1, 11, s, s, first, h1, fun e he => by cases he⟩
theorem attV {t : Array Nat} {lim last s : Nat} : Att cV t lim last 15 s (hitC admV t lim s) := fun first must sn => by
  unfold hitC
  by_cases h : s < lim ∧ admV (t.getD s 0) = true
  · rw [if_pos h]
    obtain ⟨s1, h1⟩ := in_yes (c := cV) (t := t) (lim := lim) (start := s) (last := last) (pc := 15) (pos := s) (handed := s) (must := must) (om := first) (fr := [F 15 s first]) (wt := 1) (seen := sn) (by decide) rfl h.1 (fun sn => by
      obtain ⟨sn', e⟩ := inV 17 (.inr rfl) (t.getD s 0) sn
      exact ⟨sn', e.trans (by rw [h.2])⟩)
    obtain ⟨s2, h2⟩ := success (c := cV) (t := t) (lim := lim) (start := s) (last := last) (pc := 27) (pos := s + 1) (handed := s) (must := must) (om := first) (fr := [F 15 s first]) (wt := 1) (seen := s1) (by decide) rfl (fun _ _ => by omega)
    exact ⟨2, by decide, s2, 27, s + 1, s + 1, first, h1.trans h2, fun e he => by cases he; rfl⟩
  · rw [if_neg h]
    obtain ⟨s1, h1⟩ := in_no (c := cV) (t := t) (lim := lim) (start := s) (last := last) (pc := 15) (pos := s) (handed := s) (must := must) (om := first) (fr := [F 15 s first]) (wt := 1) (sn := sn) (by decide) rfl (fun hp sn => by
      obtain ⟨sn', e⟩ := inV 17 (.inr rfl) (t.getD s 0) sn
      exact ⟨sn', by rw [e]; rw [Bool.eq_false_iff.mpr fun q => h ⟨hp, q⟩]⟩)
    exact ⟨1, by decide, s1, 15, s, s, first, h1, fun e he => by cases he⟩

/-- a dot at the beginning of a line -/
noncomputable def hitD (t : Array Nat) (lim s : Nat) : Option Nat := if (s = 0 ∨ t.getD (s - 1) 0 = 10) ∧ s < lim ∧ t.getD s 0 = 46 then some (s + 1) else none
theorem attD {t : Array Nat} {lim last s : Nat} : Att cD t lim last 5 s (hitD t lim s) := fun first must sn => by
  unfold hitD
  obtain ⟨s1, h1⟩ := at_bol (c := cD) (t := t) (lim := lim) (start := s) (last := last) (pc := 5) (pos := s) (handed := s) (must := must) (om := first) (fr := [F 5 s first]) (wt := 1) (seen := sn) (by decide) rfl rfl
  by_cases hb : s = 0 ∨ t.getD (s - 1) 0 = 10
  · rw [if_pos (by simpa using hb)] at h1
    by_cases h : s < lim ∧ t.getD s 0 = 46
    · rw [if_pos ⟨hb, h⟩]
      obtain ⟨s2, h2⟩ := lit_yes (c := cD) (t := t) (lim := lim) (start := s) (last := last) (pc := 7) (pos := s) (handed := s) (must := must) (om := first) (fr := [F 5 s first]) (wt := 1) (seen := s1) (w := 46) (by decide) rfl h.1 rfl h.2
      obtain ⟨s3, h3⟩ := success (c := cD) (t := t) (lim := lim) (start := s) (last := last) (pc := 9) (pos := s + 1) (handed := s) (must := must) (om := first) (fr := [F 5 s first]) (wt := 1) (seen := s2) (by decide) rfl (fun _ _ => by omega)
      exact ⟨3, by decide, s3, 9, s + 1, s + 1, first, (h1.trans h2).trans h3, fun e he => by cases he; rfl⟩
    · rw [if_neg (fun q => h q.2)]
      obtain ⟨s2, h2⟩ := lit_no (c := cD) (t := t) (lim := lim) (start := s) (last := last) (pc := 7) (pos := s) (handed := s) (must := must) (om := first) (fr := [F 5 s first]) (wt := 1) (seen := s1) (w := 46) (by decide) rfl rfl (fun hp q => h ⟨hp, q⟩)
      exact ⟨2, by decide, s2, 7, s, s, first, h1.trans h2, fun e he => by cases he⟩
  · rw [if_neg (by simpa using hb)] at h1
    rw [if_neg (fun q => hb q.1)]
    exact ⟨1, by decide, s1, 5, s, s, first, h1, fun e he => by cases he⟩

/-- an end of a row -/
noncomputable def hitL (t : Array Nat) (lim s : Nat) : Option Nat :=
  if s < lim ∧ t.getD s 0 = 13 then (if s + 1 < lim ∧ t.getD (s + 1) 0 = 10 then some (s + 2) else some (s + 1))
  else if s < lim ∧ t.getD s 0 = 10 then some (s + 1) else none
theorem attL {t : Array Nat} {lim last s : Nat} : Att cL t lim last 10 s (hitL t lim s) := fun first must sn => by
  unfold hitL
  obtain ⟨s1, h1⟩ := branch_in (c := cL) (t := t) (lim := lim) (start := s) (last := last) (pc := 10) (pos := s) (handed := s) (must := must) (om := first) (fr := [F 10 s first]) (wt := 1) (seen := sn) (by decide) rfl rfl (by decide)
  -- the end of a road that was found
  have fin : ∀ a p hd e sn', e ≠ s → ∃ sn'', To (S cL t lim s last 35 e hd must first [B a p first, F 10 s first] 2 none sn' none) (S cL t lim s last a p e must first [F 10 s first] 1 (some true) sn'' none) 2 := fun a p hd e sn' he => by
    obtain ⟨x1, y1⟩ := success (c := cL) (t := t) (lim := lim) (start := s) (last := last) (pc := 35) (pos := e) (handed := hd) (must := must) (om := first) (fr := [B a p first, F 10 s first]) (wt := 2) (seen := sn') (by decide) rfl (fun _ _ => he)
    exact ⟨x1, y1.trans branch_yes⟩
  have next1 : ∀ pc pos hd sn', To (S cL t lim s last pc pos hd must first [B 11 s first, F 10 s first] 2 (some false) sn' none) (S cL t lim s last 19 s s must first [B 18 s first, F 10 s first] 2 none sn' none) 1 := fun pc pos hd sn' => branch_next (a := 11) (wt := 1) rfl (by decide)
  have next2 : ∀ pc pos hd sn', To (S cL t lim s last pc pos hd must first [B 18 s first, F 10 s first] 2 (some false) sn' none) (S cL t lim s last 24 s s must first [B 23 s first, F 10 s first] 2 none sn' none) 1 := fun pc pos hd sn' => branch_next (a := 18) (wt := 1) rfl (by decide)
  by_cases hc : s < lim ∧ t.getD s 0 = 13
  · rw [if_pos hc]
    obtain ⟨s2, h2⟩ := lit_yes (c := cL) (t := t) (lim := lim) (start := s) (last := last) (pc := 12) (pos := s) (handed := s) (must := must) (om := first) (fr := [B 11 s first, F 10 s first]) (wt := 2) (seen := s1) (w := 13) (by decide) rfl hc.1 rfl hc.2
    by_cases hn : s + 1 < lim ∧ t.getD (s + 1) 0 = 10
    · rw [if_pos hn]
      obtain ⟨s3, h3⟩ := lit_yes (c := cL) (t := t) (lim := lim) (start := s) (last := last) (pc := 14) (pos := s + 1) (handed := s) (must := must) (om := first) (fr := [B 11 s first, F 10 s first]) (wt := 2) (seen := s2) (w := 10) (by decide) rfl hn.1 rfl hn.2
      obtain ⟨s4, h4⟩ := jump (c := cL) (t := t) (lim := lim) (start := s) (last := last) (pc := 16) (pos := s + 2) (handed := s) (must := must) (om := first) (fr := [B 11 s first, F 10 s first]) (wt := 2) (seen := s3) (by decide) rfl
      obtain ⟨s5, h5⟩ := fin 11 s s (s + 2) s4 (by omega)
      exact ⟨6, by decide, s5, 11, s, s + 2, first, (((h1.trans h2).trans h3).trans h4).trans h5, fun e he => by cases he; rfl⟩
    · rw [if_neg hn]
      obtain ⟨s3, h3⟩ := lit_no (c := cL) (t := t) (lim := lim) (start := s) (last := last) (pc := 14) (pos := s + 1) (handed := s) (must := must) (om := first) (fr := [B 11 s first, F 10 s first]) (wt := 2) (seen := s2) (w := 10) (by decide) rfl rfl (fun a b => hn ⟨a, b⟩)
      obtain ⟨s4, h4⟩ := lit_no (c := cL) (t := t) (lim := lim) (start := s) (last := last) (pc := 19) (pos := s) (handed := s) (must := must) (om := first) (fr := [B 18 s first, F 10 s first]) (wt := 2) (seen := s3) (w := 10) (by decide) rfl rfl (fun a b => by rw [hc.2] at b; cases b)
      obtain ⟨s5, h5⟩ := lit_yes (c := cL) (t := t) (lim := lim) (start := s) (last := last) (pc := 24) (pos := s) (handed := s) (must := must) (om := first) (fr := [B 23 s first, F 10 s first]) (wt := 2) (seen := s4) (w := 13) (by decide) rfl hc.1 rfl hc.2
      obtain ⟨s6, h6⟩ := look_in (c := cL) (t := t) (lim := lim) (start := s) (last := last) (pc := 26) (pos := s + 1) (handed := s) (must := must) (om := first) (fr := [B 23 s first, F 10 s first]) (wt := 2) (seen := s5) (by decide) rfl rfl (by decide)
      obtain ⟨s7, h7⟩ := lit_no (c := cL) (t := t) (lim := lim) (start := s) (last := last) (pc := 29) (pos := s + 1) (handed := s + 1) (must := must) (om := false) (fr := [L 26 (s + 1) first, B 23 s first, F 10 s first]) (wt := 3) (seen := s6) (w := 10) (by decide) rfl rfl (fun a b => hn ⟨a, b⟩)
      have h8 := look_no (c := cL) (t := t) (lim := lim) (start := s) (last := last) (pc := 29) (pos := s + 1) (handed := s + 1) (must := must) (om := false) (a := 26) (p := s + 1) (om' := first) (fr := [B 23 s first, F 10 s first]) (wt := 2) (seen := s7)
      obtain ⟨s9, h9⟩ := jump (c := cL) (t := t) (lim := lim) (start := s) (last := last) (pc := 32) (pos := s + 1) (handed := s + 1) (must := must) (om := first) (fr := [B 23 s first, F 10 s first]) (wt := 2) (seen := s7) (by decide) rfl
      obtain ⟨s10, h10⟩ := fin 23 s (s + 1) (s + 1) s9 (by omega)
      exact ⟨13, by decide, s10, 23, s, s + 1, first, ((((((((((h1.trans h2).trans h3).trans (next1 _ _ _ _)).trans h4).trans (next2 _ _ _ _)).trans h5).trans h6).trans h7).trans h8).trans h9).trans h10, fun e he => by cases he; rfl⟩
  · rw [if_neg hc]
    obtain ⟨s2, h2⟩ := lit_no (c := cL) (t := t) (lim := lim) (start := s) (last := last) (pc := 12) (pos := s) (handed := s) (must := must) (om := first) (fr := [B 11 s first, F 10 s first]) (wt := 2) (seen := s1) (w := 13) (by decide) rfl rfl (fun a b => hc ⟨a, b⟩)
    by_cases hn : s < lim ∧ t.getD s 0 = 10
    · rw [if_pos hn]
      obtain ⟨s3, h3⟩ := lit_yes (c := cL) (t := t) (lim := lim) (start := s) (last := last) (pc := 19) (pos := s) (handed := s) (must := must) (om := first) (fr := [B 18 s first, F 10 s first]) (wt := 2) (seen := s2) (w := 10) (by decide) rfl hn.1 rfl hn.2
      obtain ⟨s4, h4⟩ := jump (c := cL) (t := t) (lim := lim) (start := s) (last := last) (pc := 21) (pos := s + 1) (handed := s) (must := must) (om := first) (fr := [B 18 s first, F 10 s first]) (wt := 2) (seen := s3) (by decide) rfl
      obtain ⟨s5, h5⟩ := fin 18 s s (s + 1) s4 (by omega)
      exact ⟨7, by decide, s5, 18, s, s + 1, first, ((((h1.trans h2).trans (next1 _ _ _ _)).trans h3).trans h4).trans h5, fun e he => by cases he; rfl⟩
    · rw [if_neg hn]
      obtain ⟨s3, h3⟩ := lit_no (c := cL) (t := t) (lim := lim) (start := s) (last := last) (pc := 19) (pos := s) (handed := s) (must := must) (om := first) (fr := [B 18 s first, F 10 s first]) (wt := 2) (seen := s2) (w := 10) (by decide) rfl rfl (fun a b => hn ⟨a, b⟩)
      obtain ⟨s4, h4⟩ := lit_no (c := cL) (t := t) (lim := lim) (start := s) (last := last) (pc := 24) (pos := s) (handed := s) (must := must) (om := first) (fr := [B 23 s first, F 10 s first]) (wt := 2) (seen := s3) (w := 13) (by decide) rfl rfl (fun a b => hc ⟨a, b⟩)
      have h5 := branch_out (c := cL) (t := t) (lim := lim) (start := s) (last := last) (pc := 24) (pos := s) (handed := s) (must := must) (om := first) (a := 23) (p := s) (om' := first) (fr := [F 10 s first]) (wt := 1) (seen := s4) rfl
      exact ⟨7, by decide, s4, 23, s, s, first, (((((h1.trans h2).trans (next1 _ _ _ _)).trans h3).trans (next2 _ _ _ _)).trans h4).trans h5, fun e he => by cases he⟩
end RX
end

section
namespace RX
open PySem.Sre PySem.Sre.M PySem.Builtin.Re

theorem runFor_done {m : M} (h : m.outcome.isSome = true) : ∀ n, runFor n m = m
  | 0 => rfl
  | n + 1 => by
    show (if m.outcome.isSome then m else _) = m
    rw [if_pos h]
theorem runFor_add : ∀ (a b : Nat) (m : M), runFor (a + b) m = runFor b (runFor a m)
  | 0, b, m => by rw [Nat.zero_add]; rfl
  | a + 1, b, m => by
    rw [show a + 1 + b = (a + b) + 1 by omega]
    show (if m.outcome.isSome then m else runFor (a + b) m.step) = runFor b (if m.outcome.isSome then m else runFor a m.step)
    by_cases h : m.outcome.isSome = true
    · rw [if_pos h, if_pos h, runFor_done h]
    · rw [if_neg h, if_neg h, runFor_add a b]

section
variable {MM : Model} {A : Around} {E : Value → Shared → Prop} {s : Shared}
theorem drive {Q : M → Shared → Prop} {m' : M} (ho : m'.outcome.isSome = true) (q : Q m' s) : ∀ (turns n : Nat) (m : M), To m m' n → n ≤ 4 * turns → 0 < turns → wpAny MM A (reDrive turns m) Q E s
  | 0, n, m, h, hn, h0 => by omega
  | turns + 1, n, m, h, hn, _ => by
    show wpAny MM A (if (runFor 4 m).outcome.isSome then pure (runFor 4 m) else do rule "sre.turn"; reDrive turns (runFor 4 m)) Q E s
    by_cases h4 : n ≤ 4
    · have e : runFor 4 m = m' := by
        have := h (4 - n)
        rw [show n + (4 - n) = 4 by omega, runFor_done ho] at this
        exact this
      rw [e, if_pos ho]
      exact wpAny_pure q
    · have h' : To (runFor 4 m) m' (n - 4) := fun k => by
        rw [← runFor_add, show 4 + (n - 4 + k) = n + k by omega]
        exact h k
      by_cases hd : (runFor 4 m).outcome.isSome = true
      · have e : runFor 4 m = m' := by
          have := h' 0
          rw [runFor_done hd] at this
          exact this
        rw [e, if_pos ho]
        exact wpAny_pure q
      · rw [if_neg hd]
        exact wpAny_bind (wpAny_rule (drive ho q turns (n - 4) _ h' (by omega) (by omega)))

theorem tags {f : Nat → Bool} {g : Nat → String} {Q : PUnit → Shared → Prop} (q : Q ⟨⟩ s) : ∀ l : List Nat, wpAny MM A (forIn l PUnit.unit (fun i r => do
      if f i then rule (g i)
      pure (ForInStep.yield PUnit.unit))) Q E s
  | [] => by rw [List.forIn_nil]; exact wpAny_pure q
  | i :: l => by
    rw [List.forIn_cons]
    refine wpAny_bind ?_
    cases f i
    · exact wpAny_pure (tags q l)
    · exact wpAny_bind (wpAny_rule (wpAny_pure (tags q l)))

theorem run_end {m : M} {r : Option (Nat × Nat)} {n : Nat} {Q : Option M → Shared → Prop} (h : Ends m r n) (hn : n ≤ 1000000000000)
    (q : match r with | some (a, b) => ∀ m' : M, m'.start = a → m'.handed = b → m'.lastmark = -1 → m'.marks = #[] → m'.lastindex = -1 → Q (some m') s | none => Q none s) : wpAny MM A (reRunToEnd m) Q E s := by
  obtain ⟨m', ht, ho⟩ := h
  have hs : m'.outcome.isSome = true := by
    rcases r with _ | ⟨a, b⟩
    · rw [ho]; rfl
    · rw [ho.1]; rfl
  unfold reRunToEnd
  refine wpAny_bind (drive hs ?_ _ n m ht (by omega) (by decide))
  refine wpAny_bind ?_
  refine tags (f := fun i => m'.seen.has i) (g := fun i => Sre.names.getD i "") ?_ _
  rcases r with _ | ⟨a, b⟩
  · rw [ho]; exact wpAny_pure q
  · rw [ho.1]; exact wpAny_pure (q m' ho.2.1 ho.2.2.1 ho.2.2.2.1 ho.2.2.2.2.1 ho.2.2.2.2.2)
end

noncomputable def sn0 : Sre.Seen := ({} : Sre.Seen).add 14
theorem forN {t : Array Nat} {pos lim : Nat} {must : Bool} : Sre.forSearch cN t 0 pos lim must = if (decide (pos > lim) || decide (lim - pos < 1)) = true then S cN t lim pos 0 11 pos pos must true [] 0 (some false) sn0 none else M.attemptFrom (S cN t lim pos lim 11 pos pos must true [] 0 none sn0 none) pos true := rfl
theorem forV {t : Array Nat} {pos lim : Nat} {must : Bool} : Sre.forSearch cV t 0 pos lim must = if (decide (pos > lim) || decide (lim - pos < 1)) = true then S cV t lim pos 0 15 pos pos must true [] 0 (some false) sn0 none else M.attemptFrom (S cV t lim pos lim 15 pos pos must true [] 0 none sn0 none) pos true := rfl
theorem forD {t : Array Nat} {pos lim : Nat} {must : Bool} : Sre.forSearch cD t 0 pos lim must = if (decide (pos > lim) || decide (lim - pos < 1)) = true then S cD t lim pos 0 5 pos pos must true [] 0 (some false) sn0 none else M.attemptFrom (S cD t lim pos lim 5 pos pos must true [] 0 none sn0 none) pos true := rfl
theorem forL {t : Array Nat} {pos lim : Nat} {must : Bool} : Sre.forSearch cL t 0 pos lim must = if (decide (pos > lim) || decide (lim - pos < 1)) = true then S cL t lim pos 0 10 pos pos must true [] 0 (some false) sn0 none else M.attemptFrom (S cL t lim pos lim 10 pos pos must true [] 0 none sn0 none) pos true := rfl

theorem hitC_ge {adm : Nat → Bool} {t : Array Nat} {lim j : Nat} (h : lim ≤ j) : hitC adm t lim j = none := if_neg fun q => by omega
theorem hitD_ge {t : Array Nat} {lim j : Nat} (h : lim ≤ j) : hitD t lim j = none := if_neg fun q => by omega
theorem hitL_ge {t : Array Nat} {lim j : Nat} (h : lim ≤ j) : hitL t lim j = none := by
  unfold hitL
  rw [if_neg fun q => by omega, if_neg fun q => by omega]

/-- a search of the pattern c: it finds the first hit -/
noncomputable def Finds (c t : Array Nat) (hit : Nat → Option Nat) : Prop := ∀ pos must, pos ≤ t.size → ∃ r n, IsFirst hit pos t.size r ∧ n ≤ (t.size + 1) * 30 ∧ Ends (Sre.forSearch c t 0 pos t.size must) r n

theorem findsN (t : Array Nat) : Finds cN t (hitC admN t t.size) := fun pos must h => by
  rw [forN]
  by_cases hp : pos < t.size
  · rw [if_neg (by simp; omega)]
    exact search_set rfl rfl (inN 5 (.inl rfl)) rfl (fun j hj => if_neg fun q => by rw [hj q.1] at q; exact absurd q.2 Bool.false_ne_true) (fun s _ => attN) h
  · rw [if_pos (by simp; omega)]
    exact ⟨none, 1, fun j h1 h2 => hitC_ge (by omega), by omega, ends_out⟩
theorem findsV (t : Array Nat) : Finds cV t (hitC admV t t.size) := fun pos must h => by
  rw [forV]
  by_cases hp : pos < t.size
  · rw [if_neg (by simp; omega)]
    exact search_set rfl rfl (inV 5 (.inl rfl)) rfl (fun j hj => if_neg fun q => by rw [hj q.1] at q; exact absurd q.2 Bool.false_ne_true) (fun s _ => attV) h
  · rw [if_pos (by simp; omega)]
    exact ⟨none, 1, fun j h1 h2 => hitC_ge (by omega), by omega, ends_out⟩
theorem findsD (t : Array Nat) : Finds cD t (hitD t t.size) := fun pos must h => by
  rw [forD]
  by_cases hp : pos < t.size
  · rw [if_neg (by simp; omega)]
    exact search_plain rfl (fun s _ => attD) h
  · rw [if_pos (by simp; omega)]
    exact ⟨none, 1, fun j h1 h2 => hitD_ge (by omega), by omega, ends_out⟩
theorem findsL (t : Array Nat) : Finds cL t (hitL t t.size) := fun pos must h => by
  rw [forL]
  by_cases hp : pos < t.size
  · rw [if_neg (by simp; omega)]
    refine search_set rfl rfl inL rfl (fun j hj => ?_) (fun s _ => attL) h
    unfold hitL
    rw [if_neg fun q => ?_, if_neg fun q => ?_]
    · have := hj q.1; rw [q.2] at this; cases this
    · have := hj q.1; rw [q.2] at this; cases this
  · rw [if_pos (by simp; omega)]
    exact ⟨none, 1, fun j h1 h2 => hitL_ge (by omega), by omega, ends_out⟩
end RX
end

section
namespace RX
open PySem.Sre PySem.Sre.M PySem.Builtin.Re

/-- a pattern's object -/
structure PatAt (h : Heap) (P T : Addr) (c : Array Nat) : Prop where
  pat : ∃ a b t u, h.get? P = some { cls := .type "re.Pattern", data := .fields #[a, b, .int 0 t, .none, .none, .ref T, .int 0 u] }
  code : ∃ items n, h.get? T = some { cls := .type "tuple", data := .seq items n } ∧ (items.map reRawOf).map (·.toNat) = c

section
variable {MM : Model} {A : Around} {E : Value → Shared → Prop} {s : Shared} {P T : Addr} {c : Array Nat} {x : PySem.Str} {tk : Tok}

noncomputable def target (P : Addr) (c : Array Nat) (x : PySem.Str) (tk : Tok) : ReTarget := { pattern := .ref P, string := .str x tk, code := c, text := x.cps, kind := 0, groups := 0, pos := 0, lim := x.cps.size }

theorem textOf {Q : Array Nat × Nat → Shared → Prop} (q : Q (x.cps, 0) s) : wpAny MM A (reTextOf (.str x tk)) Q E s := wpAny_pure q

theorem codeOf {Q : Array Int → Shared → Prop} {items : Array Value} {n : Nat} (hT : s.heap.get? T = some { cls := .type "tuple", data := .seq items n }) (q : Q (items.map reRawOf) s) : wpAny MM A (reRawItems (.ref T)) Q E s := by
  unfold reRawItems
  exact wpAny_bind (wpAny_seqItems hT rfl (wpAny_pure q))

theorem wholeTarget {Q : ReTarget → Shared → Prop} (hP : PatAt s.heap P T c) (q : Q (target P c x tk) s) : wpAny MM A (reWholeTarget (.ref P) (.str x tk)) Q E s := by
  obtain ⟨⟨a, b, t, u, hp⟩, items, n, hT, hc⟩ := hP
  unfold reWholeTarget
  refine wpAny_bind (wpAny_fieldsOf hp rfl ?_)
  refine wpAny_bind (textOf ?_)
  show wpAny _ _ (reNoCollectionInside (.str x tk) 0 >>= fun _ => _) _ _ s
  refine wpAny_bind (wpAny_pure ?_)
  refine wpAny_bind (codeOf hT ?_)
  refine wpAny_pure ?_
  rw [hc]
  exact q
theorem searchTarget {Q : ReTarget → Shared → Prop} (hP : PatAt s.heap P T c) (hx : x.cps.size < 2 ^ 62) (q : Q (target P c x tk) s) : wpAny MM A (reTarget "re.Pattern.search" "search" ⟨[.ref P, .str x tk], []⟩) Q E s := by
  obtain ⟨⟨a, b, t, u, hp⟩, items, n, hT, hc⟩ := hP
  unfold reTarget
  show wpAny _ _ (reNamed _ _ _ _ [.str x tk] [] >>= fun r => _) _ _ s
  have e : ∀ id, reNamed id "search" ["string", "pos", "endpos"] 1 [.str x tk] [] = pure [some (.str x tk), none, none] := fun id => by kernel_rfl
  rw [e]
  refine wpAny_bind (wpAny_pure ?_)
  refine wpAny_bind (wpAny_pure ?_)
  refine wpAny_bind (wpAny_pure ?_)
  refine wpAny_bind (wpAny_fieldsOf hp rfl ?_)
  refine wpAny_bind (textOf ?_)
  show wpAny _ _ (reNoCollectionInside (.str x tk) 0 >>= fun _ => _) _ _ s
  refine wpAny_bind (wpAny_pure ?_)
  refine wpAny_bind (codeOf hT ?_)
  refine wpAny_pure ?_
  rw [hc]
  have e1 : min (2 ^ 63 - 1 : Int).toNat x.cps.size = x.cps.size := Nat.min_eq_right (Nat.le_trans (Nat.le_of_lt hx) (by decide : 2 ^ 62 ≤ (2 ^ 63 - 1 : Int).toNat))
  have e2 : min (0 : Int).toNat x.cps.size = 0 := by simp
  show Q { pattern := .ref P, string := .str x tk, code := c, text := x.cps, kind := 0, groups := 0, pos := min (0 : Int).toNat x.cps.size, lim := min (2 ^ 63 - 1 : Int).toNat x.cps.size } s
  rw [e1, e2]
  exact q
end
end RX
end

section
namespace RX
open PySem.Sre PySem.Sre.M PySem.Builtin.Re PySem.Builtin

theorem plainAttrs_pat : PlainAttrs "re.Pattern" :=
  ⟨⟨"object.__getattribute__", by rw [typeLookup_type, builtinLookup_eq_fast]; kernel_rfl, by decide +kernel⟩, by rw [typeLookup_type, builtinLookup_eq_fast]; kernel_rfl⟩
theorem slot_search : Slot "re.Pattern" "search" "re.Pattern.search" :=
  .of (owner := "re.Pattern") (n := "search") (by rw [typeLookup_type, builtinLookup_eq_fast]; kernel_rfl) (by decide +kernel) (by decide +kernel) (by decide +kernel)
    (by first | exact .inl (by decide +kernel) | exact .inr (by decide +kernel)) (by rw [isSubtype_type]; kernel_rfl)
theorem type_search : typeOf (.builtin "re.Pattern.search") = pure (.type "method_descriptor") := by show builtinType _ = _; rw [builtinType_eq_fast]; kernel_rfl
theorem entry_search : entryFor table "re.Pattern.search" = some Builtin.«re.Pattern.search» := entryFor_of_tree (by kernel_rfl)
theorem args_search (a b : Value) : argsOk "re.Pattern.search" ⟨[a, b], []⟩ := by unfold argsOk; kernel_rfl
theorem slot_sub : Slot "re.Pattern" "sub" "re.Pattern.sub" :=
  .of (owner := "re.Pattern") (n := "sub") (by rw [typeLookup_type, builtinLookup_eq_fast]; kernel_rfl) (by decide +kernel) (by decide +kernel) (by decide +kernel)
    (by first | exact .inl (by decide +kernel) | exact .inr (by decide +kernel)) (by rw [isSubtype_type]; kernel_rfl)
theorem type_sub : typeOf (.builtin "re.Pattern.sub") = pure (.type "method_descriptor") := by show builtinType _ = _; rw [builtinType_eq_fast]; kernel_rfl
theorem entry_sub : entryFor table "re.Pattern.sub" = some Builtin.«re.Pattern.sub» := entryFor_of_tree (by kernel_rfl)
theorem args_sub (a b c : Value) : argsOk "re.Pattern.sub" ⟨[a, b, c], []⟩ := by unfold argsOk; kernel_rfl
theorem entry_loop : entryFor table "re.Pattern.sub.loop" = some Builtin.«re.Pattern.sub.loop» := entryFor_of_tree (by kernel_rfl)
theorem plain_loop : plainId "re.Pattern.sub.loop" = true := by decide +kernel

section
variable {prog : Program} {w : World} {A : Around} {E : Value → Shared → Prop} {s : Shared} {P T : Addr} {c : Array Nat} {x : PySem.Str} {tk : Tok}

theorem PatAt.typeIs (hP : PatAt s.heap P T c) : s.TypeIs (.ref P) "re.Pattern" := by
  obtain ⟨a, b, t, u, hp⟩ := hP.pat
  exact ⟨_, hp, rfl⟩

/-- a search that finds nothing -/
theorem search_none {hit : Nat → Option Nat} {Q : Value → Shared → Prop} (hP : PatAt s.heap P T c) (hx : x.cps.size ≤ 16777216) (hf : Finds c x.cps hit) (hno : ∀ j, j ≤ x.cps.size → hit j = none) (q : Q .none s) :
    wpAny (model prog w) A (call (.builtin "re.Pattern.search") [.ref P, .str x tk]) Q E s := by
  refine wpAny_call_entry slot_search hP.typeIs entry_search ?_ (args_search _ _)
  refine wpAny_bind (searchTarget hP (by omega) ?_)
  refine wpAny_bind ?_
  obtain ⟨r, n, h1, h2, h3⟩ := hf 0 false (Nat.zero_le _)
  cases r with
  | some pe =>
    obtain ⟨p, e⟩ := pe
    obtain ⟨a1, a2, a3, a4⟩ := h1
    rw [hno p a2] at a3; cases a3
  | none => exact run_end h3 (by omega) (wpAny_pure ⟨_, rfl, q⟩)
/-- what a sub comes to, from a place on -/
inductive Sub (hit : Nat → Option Nat) (t rp : List Nat) : Nat → List Nat → Prop
  | done (p : Nat) : (∀ j, p ≤ j → j ≤ t.length → hit j = none) → Sub hit t rp p (t.drop p)
  | step {p q e : Nat} {out : List Nat} : p ≤ q → q ≤ t.length → hit q = some e → (∀ j, p ≤ j → j < q → hit j = none) → Sub hit t rp e out → Sub hit t rp p ((t.take q).drop p ++ (rp ++ out))

theorem slice_text {a b : Nat} {Q : Value → Shared → Prop} (hsz : x.cps.size ≤ 16777216) (q : ∀ t', Q (.str ⟨x.cps.extract a b⟩ t') { s with toks := s.toks + 1 }) : wpAny (model prog w) A (reSlice x.cps 0 a b) Q E s := by
  show wpAny _ _ (mkStr ⟨x.cps.extract a b⟩) _ _ s
  exact wpAny_mkStr (q _) (by show (x.cps.extract a b).size ≤ _; rw [sizeLine_eq, Array.size_extract]; exact Nat.le_trans (Nat.sub_le _ _) (Nat.le_trans (Nat.min_le_right _ _) hsz))

theorem push_piece {l : List (PySem.Str × Tok)} {n : Nat} {D : Addr} {y : PySem.Str} {u : Tok} {Q : Unit → Shared → Prop} (hD : s.heap.get? D = some (lstO (strValues l) n)) (hl : l.length ≤ 16777000)
    (q : ∀ h', Heap.SameBut D s.heap h' → h'.get? D = some (lstO (strValues (l ++ [(y, u)])) (n + 1)) → Q () { s with heap := h' }) : wpAny (model prog w) A (updateSeq D (·.push (.str y u))) Q E s := by
  have hlen : (strValues l).length = l.length := by simp [strValues]
  refine wpAny_updateSeq hD rfl (q _ (Heap.SameBut.update ..) ?_) (by rw [List.size_toArray, hlen, sizeLine_eq]; omega) (by rw [Array.size_push, List.size_toArray, hlen, sizeLine_eq]; omega)
  rw [Heap.get?_update_self _ hD (by rw [mapSeq_push]; rfl), mapSeq_push, List.push_toArray]
  simp [strValues]

noncomputable def textsOf (l : List (PySem.Str × Tok)) : List Nat := (l.map fun p => p.1.cps.toList).flatten

end
end RX
end

section
namespace RX
open PySem.Sre PySem.Sre.M PySem.Builtin.Re PySem.Builtin
section
variable {prog : Program} {w : World} {A : Around} {E : Value → Shared → Prop} {s : Shared} {P T : Addr} {c : Array Nat} {x : PySem.Str} {tk : Tok}

theorem PatAt.keep {h h' : Heap} {D : Addr} (hP : PatAt h P T c) (n1 : P ≠ D) (n2 : T ≠ D) (k : ∀ b o, b ≠ D → h.get? b = some o → h'.get? b = some o) : PatAt h' P T c := by
  obtain ⟨⟨a, b, t, u, hp⟩, items, n, hT, hc⟩ := hP
  exact ⟨⟨a, b, t, u, k _ _ n1 hp⟩, items, n, k _ _ n2 hT, hc⟩

theorem textsOf_app (l l' : List (PySem.Str × Tok)) : textsOf (l ++ l') = textsOf l ++ textsOf l' := by simp [textsOf]
theorem textsOf_one (y : PySem.Str) (u : Tok) : textsOf [(y, u)] = y.cps.toList := by simp [textsOf]

theorem extract_list (x : PySem.Str) (a b : Nat) : (x.cps.extract a b).toList = (x.cps.toList.take b).drop a := by
  simp [List.drop_take]

/-- the end of the loop: the pieces joined -/
theorem sub_end {l : List (PySem.Str × Tok)} {m : Nat} {D : Addr} {Q : PySem.Fin → Shared → Prop} (hx : x.cps.size ≤ 1000000) (hl : (textsOf l).length ≤ 16777216) (hD : s.heap.get? D = some (lstO (strValues l) m))
    (q : ∀ t' tk', Q (.done (.ret (.str ⟨(textsOf l).toArray⟩ t'))) { s with toks := tk' }) :
    wpAny (model prog w) A (do
      let joiner ← reSlice x.cps 0 0 0
      let its ← seqItems? (.ref D)
      if (its.getD #[]).isEmpty = true then (do let text ← pure joiner; ret text) else (do let text ← call (.builtin "str.join") [joiner, .ref D]; ret text)) Q E s := by
  refine wpAny_bind (slice_text (by omega) fun t' => ?_)
  refine wpAny_bind (wpAny_seqItems (s := { s with toks := s.toks + 1 }) hD rfl ?_)
  cases hl0 : l with
  | nil =>
    subst hl0
    refine wpAny_bind (wpAny_pure (wpAny_pure ?_))
    have e : (⟨x.cps.extract 0 0⟩ : PySem.Str) = ⟨(textsOf []).toArray⟩ := by simp [textsOf]
    rw [e]
    exact q _ _
  | cons a r =>
    rw [← hl0]
    have e0 : ((some (strValues l).toArray).getD #[]).isEmpty = false := by rw [hl0]; rfl
    rw [e0, if_neg Bool.false_ne_true]
    have e1 : (⟨x.cps.extract 0 0⟩ : PySem.Str) = "" := by
      apply str_ext
      simp
      decide +kernel
    have hsum : ((l.map (·.1)).map (·.length)).sum = (textsOf l).length := by
      unfold textsOf
      rw [List.length_flatten, List.map_map, List.map_map]
      rfl
    refine wpAny_bind (SC.join (s := { s with toks := s.toks + 1 }) (l := l) ⟨_, hD, rfl, m, rfl⟩ rfl ?_ fun t'' k => wpAny_pure ?_)
    · refine joinOk_of ?_
      rw [hsum, e1]
      have e2 : ("" : PySem.Str).length = 0 := by decide +kernel
      rw [e2]; omega
    · have e3 : Txt.join ⟨x.cps.extract 0 0⟩ (l.map (·.1)) = ⟨(textsOf l).toArray⟩ := by
        apply str_ext
        rw [toList_join0 _ (by simp), List.map_map]
        rfl
      rw [e3]
      exact q _ _

theorem sub_arith {T p q e r : Nat} (h1 : T ≤ 11 * p) (h2 : p ≤ q) (h3 : q < e) (h4 : r ≤ 10) : T + (q - p + r) ≤ 11 * e := by
  obtain ⟨d, rfl⟩ := Nat.exists_eq_add_of_le h2
  rw [Nat.add_sub_cancel_left]
  refine Nat.le_trans (Nat.add_le_add h1 (Nat.add_le_add (Nat.le_mul_of_pos_left d (by decide : 0 < 11)) (Nat.le_succ_of_le h4))) (Nat.le_trans (Nat.le_of_eq ?_) (Nat.mul_le_mul_left 11 (show p + (d + 1) ≤ e from h3)))
  rw [Nat.mul_add, Nat.mul_succ]
theorem sub_loop {hit : Nat → Option Nat} {rp : PySem.Str} {ru : Tok} {R : Result → Shared → Prop} {D : Addr} (hx : x.cps.size ≤ 1000000) (hrp : rp.cps.size ≤ 10) (hf : Finds c x.cps hit) (hh : ∀ q e, hit q = some e → q < e ∧ e ≤ x.cps.size) (n1 : P ≠ D) (n2 : T ≠ D) :
    ∀ (f p n : Nat) (l : List (PySem.Str × Tok)) (m : Nat) (s : Shared), x.cps.size - p < f → p ≤ x.cps.size → l.length ≤ 2 * p → (textsOf l).length ≤ 11 * p → PatAt s.heap P T c → s.heap.get? D = some (lstO (strValues l) m) →
      (∀ out h' tk' t', Sub hit x.cps.toList rp.cps.toList p out → (∀ b o, b ≠ D → s.heap.get? b = some o → h'.get? b = some o) → R (.ok (.ret (.str ⟨(textsOf l ++ out).toArray⟩ t'))) { s with heap := h', toks := tk' }) →
      codeAny (model prog w) A (.builtin "re.Pattern.sub.loop" ⟨[.ref P, .str x tk, .str rp ru, rawInt 0, rawInt 0, rawInt n, rawInt p, rawInt p, .bool false, .ref D, .bool false], []⟩) R s := by
  intro f
  induction f with
  | zero => intro p n l m s h; exact absurd h (Nat.not_lt_zero _)
  | succ f ih =>
    intro p n l m s hfu hp hll htl hP hD hR
    refine codeAny_builtin entry_loop ?_
    unfold Builtin.«re.Pattern.sub.loop»
    refine wpAny_bind (wholeTarget hP ?_)
    show wpAny _ _ (reLiteralCannotBeTurned (.str rp ru) >>= fun _ => _) _ _ s
    refine wpAny_bind ?_
    show wpAny _ _ (pure ()) _ _ s
    refine wpAny_pure ?_
    obtain ⟨r, k, hr, hk, he⟩ := hf p false hp
    have hkk : k ≤ 1000000000000 := Nat.le_trans hk (Nat.le_trans (Nat.mul_le_mul_right 30 (Nat.succ_le_succ hx)) (by decide))
    have hS : x.cps.size ≤ 16777216 := Nat.le_trans hx (by decide)
    have hl2 : l.length ≤ 2000000 := Nat.le_trans hll (Nat.mul_le_mul_left 2 (Nat.le_trans hp hx))
    have ht2 : (textsOf l).length ≤ 11000000 := Nat.le_trans htl (Nat.mul_le_mul_left 11 (Nat.le_trans hp hx))
    show wpAny _ _ (reRunToEnd (Sre.forSearch c x.cps 0 p x.cps.size false) >>= fun r => _) _ _ s
    refine wpAny_bind ?_
    cases r with
    | none =>
      refine run_end he hkk ?_
      have hsub : Sub hit x.cps.toList rp.cps.toList p (x.cps.toList.drop p) := .done p fun j h1 h2 => hr j h1 (by simpa using h2)
      have hlen : x.cps.toList.length = x.cps.size := Array.length_toList
      by_cases hlt : p < x.cps.size
      · show wpAny (model prog w) _ (if (p : Int).toNat < x.cps.size then (reSlice x.cps 0 (p : Int).toNat x.cps.size >>= fun v => updateSeq D (fun xs => xs.push v) >>= fun _ => (do
            let joiner ← reSlice x.cps 0 0 0
            let its ← seqItems? (.ref D)
            if (its.getD #[]).isEmpty = true then (do let text ← pure joiner; ret text) else (do let text ← call (.builtin "str.join") [joiner, .ref D]; ret text))) else _) _ _ s
        rw [if_pos (by simpa using hlt), Int.toNat_natCast]
        refine wpAny_bind (slice_text hS fun t' => ?_)
        refine wpAny_bind (push_piece (s := { s with toks := s.toks + 1 }) hD (Nat.le_trans hl2 (by decide)) fun h' hs hD' => ?_)
        have etx : textsOf (l ++ [((⟨x.cps.extract p x.cps.size⟩ : PySem.Str), t')]) = textsOf l ++ x.cps.toList.drop p := by
          rw [textsOf_app, textsOf_one]
          show _ ++ (x.cps.extract p x.cps.size).toList = _
          rw [extract_list, List.take_of_length_le (Nat.le_of_eq hlen)]
        refine sub_end (s := { s with heap := h', toks := s.toks + 1 }) hx ?_ hD' fun t'' tk'' => ?_
        · rw [etx, List.length_append, List.length_drop]; exact Nat.le_trans (Nat.add_le_add ht2 (Nat.le_trans (Nat.sub_le _ _) (Nat.le_trans (Nat.le_of_eq hlen) hx))) (by decide)
        · rw [etx]
          exact hR _ h' _ _ hsub fun b o hb e => (hs.2 b hb).trans e
      · show wpAny (model prog w) _ (if (p : Int).toNat < x.cps.size then _ else (do
            let joiner ← reSlice x.cps 0 0 0
            let its ← seqItems? (.ref D)
            if (its.getD #[]).isEmpty = true then (do let text ← pure joiner; ret text) else (do let text ← call (.builtin "str.join") [joiner, .ref D]; ret text))) _ _ s
        rw [if_neg (by simpa using hlt)]
        refine sub_end hx (Nat.le_trans ht2 (by decide)) hD fun t'' tk'' => ?_
        have e0 : x.cps.toList.drop p = [] := List.drop_of_length_le (by rw [hlen]; exact Nat.le_of_not_lt hlt)
        have := hR _ s.heap tk'' t'' hsub fun b o hb e => e
        rw [e0, List.append_nil] at this
        exact this
    | some qe =>
      obtain ⟨q, e⟩ := qe
      obtain ⟨a1, a2, a3, a4⟩ := hr
      obtain ⟨a5, a6⟩ := hh q e a3
      refine run_end he hkk fun m' m1 m2 m3 m4 m5 => ?_
      have hlen : x.cps.toList.length = x.cps.size := Array.length_toList
      have hpe : p < e := Nat.lt_of_le_of_lt a1 a5
      have hq : q ≤ x.cps.toList.length := hlen ▸ Nat.le_trans (Nat.le_of_lt a5) a6
      -- what is behind the piece ahead of the hit
      have rest : ∀ (l' : List (PySem.Str × Tok)) (k' : Nat) (h' : Heap) (tk' : Nat), l'.length ≤ l.length + 1 → textsOf l' = textsOf l ++ (x.cps.toList.take q).drop p → h'.get? D = some (lstO (strValues l') k') → (∀ b o, b ≠ D → s.heap.get? b = some o → h'.get? b = some o) →
          wpAny (model prog w) (A.under (.builtin "re.Pattern.sub.loop" ⟨[.ref P, .str x tk, .str rp ru, rawInt 0, rawInt 0, rawInt n, rawInt p, rawInt p, .bool false, .ref D, .bool false], []⟩))
            (updateSeq D (fun xs => xs.push (.str rp ru)) >>= fun _ => again (.builtin "re.Pattern.sub.loop" ⟨[.ref P, .str x tk, .str rp ru, rawInt 0, rawInt 0, rawInt ((n : Int) + 1), rawInt m'.handed, rawInt m'.handed, .bool (m'.handed == m'.start), .ref D, .bool false], []⟩))
            (fun fin s' => match fin with | .done f => R (.ok f) s' | .again c' => c'.quiet = true ∧ codeAny (model prog w) A c' R s') (fun e s' => R (.error e) s') { s with heap := h', toks := tk' } := by
        intro l' k' h' tk' hl' ht' hD' keep'
        refine wpAny_bind (push_piece (s := { s with heap := h', toks := tk' }) hD' (Nat.le_trans hl' (Nat.le_trans (Nat.succ_le_succ hl2) (by decide))) fun h₂ hs₂ hD₂ => ?_)
        refine wpAny_pure ⟨plainId_quiet plain_loop _, ?_⟩
        have keep₂ : ∀ b o, b ≠ D → s.heap.get? b = some o → h₂.get? b = some o := fun b o hb e => (hs₂.2 b hb).trans (keep' b o hb e)
        have et : textsOf (l' ++ [(rp, ru)]) = textsOf l ++ ((x.cps.toList.take q).drop p ++ rp.cps.toList) := by
          rw [textsOf_app, textsOf_one, ht', List.append_assoc]
        have e1 : (m'.handed == m'.start) = false := by
          rw [m1, m2]
          exact beq_eq_false_iff_ne.mpr (Nat.ne_of_gt a5)
        rw [e1, m2]
        have := ih e (n + 1) (l' ++ [(rp, ru)]) (k' + 1) { s with heap := h₂, toks := tk' } (Nat.lt_of_lt_of_le (Nat.sub_lt_sub_left (Nat.lt_of_lt_of_le hpe a6) hpe) (Nat.le_of_lt_succ hfu)) a6 (by rw [List.length_append]; exact Nat.le_trans (Nat.succ_le_succ (Nat.le_trans hl' (Nat.succ_le_succ hll))) (Nat.mul_le_mul_left 2 (show p + 1 ≤ e from hpe))) (by
          rw [et]
          rw [List.length_append, List.length_append, List.length_drop, List.length_take, Nat.min_eq_left hq]
          have hr : rp.cps.toList.length = rp.cps.size := Array.length_toList
          exact sub_arith htl a1 a5 (hr ▸ hrp)) (hP.keep n1 n2 keep₂) hD₂ (fun out h₃ tk₃ t₃ hs hk => by
            have := hR _ h₃ tk₃ t₃ (.step a1 hq a3 a4 hs) fun b o hb e => hk b o hb (keep₂ b o hb e)
            rw [et]
            rw [List.append_assoc, List.append_assoc]
            exact this)
        exact this
      by_cases hlt : p < q
      · show wpAny (model prog w) _ (if (p : Int).toNat < m'.start then (reSlice x.cps 0 (p : Int).toNat m'.start >>= fun v => updateSeq D (fun xs => xs.push v) >>= fun _ => (updateSeq D (fun xs => xs.push (.str rp ru)) >>= fun _ => again (.builtin "re.Pattern.sub.loop" ⟨[.ref P, .str x tk, .str rp ru, rawInt 0, rawInt 0, rawInt ((n : Int) + 1), rawInt m'.handed, rawInt m'.handed, .bool (m'.handed == m'.start), .ref D, .bool false], []⟩))) else _) _ _ s
        rw [if_pos (by rw [m1]; simpa using hlt), Int.toNat_natCast, m1]
        refine wpAny_bind (slice_text hS fun t' => ?_)
        refine wpAny_bind (push_piece (s := { s with toks := s.toks + 1 }) hD (Nat.le_trans hl2 (by decide)) fun h' hs hD' => ?_)
        rw [← m1]
        refine rest _ _ h' _ (by rw [List.length_append]; exact Nat.le_refl _) ?_ hD' fun b o hb e => (hs.2 b hb).trans e
        rw [textsOf_app, textsOf_one]
        show _ ++ (x.cps.extract p q).toList = _
        rw [extract_list]
      · show wpAny (model prog w) _ (if (p : Int).toNat < m'.start then _ else (updateSeq D (fun xs => xs.push (.str rp ru)) >>= fun _ => again (.builtin "re.Pattern.sub.loop" ⟨[.ref P, .str x tk, .str rp ru, rawInt 0, rawInt 0, rawInt ((n : Int) + 1), rawInt m'.handed, rawInt m'.handed, .bool (m'.handed == m'.start), .ref D, .bool false], []⟩))) _ _ s
        rw [if_neg (by rw [m1]; simpa using hlt)]
        refine rest l m s.heap s.toks (Nat.le_succ _) ?_ hD fun b o hb e => e
        have : q = p := Nat.le_antisymm (Nat.le_of_not_lt hlt) a1
        rw [this, List.drop_of_length_le (by rw [List.length_take]; exact Nat.min_le_left _ _), List.append_nil]

/-- the call: sub of a text that holds no backslash -/
theorem sub_call {hit : Nat → Option Nat} {rp : PySem.Str} {ru : Tok} {Q : Value → Shared → Prop} (hP : PatAt s.heap P T c) (hx : x.cps.size ≤ 1000000) (hrp : rp.cps.size ≤ 10) (hb : rp.cps.contains 92 = false) (hf : Finds c x.cps hit) (hh : ∀ q e, hit q = some e → q < e ∧ e ≤ x.cps.size)
    (q : ∀ out h' tk' t', Sub hit x.cps.toList rp.cps.toList 0 out → (∀ b o, s.heap.get? b = some o → h'.get? b = some o) → Q (.str ⟨out.toArray⟩ t') { s with heap := h', toks := tk' }) :
    wpAny (model prog w) A (call (.builtin "re.Pattern.sub") [.ref P, .str rp ru, .str x tk]) Q E s := by
  refine wpAny_call (codeAny_call_builtin slot_sub.plain entry_sub (slot_sub.check _ _ _ _ _ _ _ _ hP.typeIs (args_sub _ _ _) ?_))
  show wpAny _ _ (reNamed "re.Pattern.sub" "sub" ["repl", "string", "count"] 2 [.str rp ru, .str x tk] [] >>= fun r => _) _ _ s
  have e : reNamed "re.Pattern.sub" "sub" ["repl", "string", "count"] 2 [.str rp ru, .str x tk] [] = pure [some (.str rp ru), some (.str x tk), none] := by kernel_rfl
  rw [e]
  refine wpAny_bind (wpAny_pure ?_)
  refine wpAny_bind (wpAny_pure ?_)
  have hc : typeLookup (.type "str") "__call__" = pure none := by rw [typeLookup_type, builtinLookup_eq_fast]; kernel_rfl
  refine wpAny_bind (wpAny_specialOf (typeIs_str _ _ _) hc ?_)
  show wpAny _ _ (asStr? (.str rp ru) >>= fun r => _) _ _ s
  refine wpAny_bind (wpAny_pure ?_)
  show wpAny _ _ (pure (!rp.cps.contains 92) >>= fun r => _) _ _ s
  rw [hb]
  refine wpAny_bind (wpAny_pure ?_)
  show wpAny _ _ (pure ((.str rp ru : Value), (0 : Int)) >>= fun r => _) _ _ s
  refine wpAny_bind (wpAny_pure ?_)
  refine wpAny_bind (wpAny_holding (wholeTarget hP ?_))
  show wpAny _ _ (newList [] >>= fun l => again _) _ _ s
  refine wpAny_bind (wpAny_newList ?_ (Nat.zero_le _))
  refine wpAny_pure ⟨plainId_quiet plain_loop _, ?_⟩
  have hD : (s.heap.push (seqObj "list" #[] 0)).get? s.heap.objs.size = some (lstO (strValues []) 0) := Heap.get?_push_size _ rfl
  have keep : ∀ b o, s.heap.get? b = some o → (s.heap.push (seqObj "list" #[] 0)).get? b = some o := fun b o e => Heap.get?_push_of_some _ e
  obtain ⟨⟨a', b', t', u', hp⟩, items, n', hT, hc'⟩ := id hP
  have n1 : P ≠ s.heap.objs.size := Nat.ne_of_lt (Heap.lt_size hp)
  have n2 : T ≠ s.heap.objs.size := Nat.ne_of_lt (Heap.lt_size hT)
  refine sub_loop (hit := hit) (D := s.heap.objs.size) hx hrp hf hh n1 n2 (x.cps.size + 1) 0 0 [] 0 { s with heap := s.heap.push (seqObj "list" #[] 0) } (by omega) (Nat.zero_le _) (Nat.zero_le _) (Nat.zero_le _) (hP.keep n1 n2 fun b o _ e => keep b o e) hD ?_
  intro out h' tk' t'' hs hk
  exact q out h' tk' t'' hs fun b o e => hk b o (Nat.ne_of_lt (Heap.lt_size e)) (keep b o e)
end
end RX
end

section
namespace RX

theorem sub_is {hit : Nat → Option Nat} {t rp : List Nat} {G : Nat → List Nat} (h0 : ∀ p, t.length ≤ p → G p = []) (h1 : ∀ p (h : p < t.length), hit p = none → G p = t[p] :: G (p + 1)) (h2 : ∀ p e, hit p = some e → G p = rp ++ G e)
    (hh : ∀ q e, hit q = some e → q < e ∧ e ≤ t.length) {p : Nat} {out : List Nat} (h : Sub hit t rp p out) : p ≤ t.length → out = G p := by
  have run : ∀ k p, p + k ≤ t.length → (∀ j, p ≤ j → j < p + k → hit j = none) → G p = (t.take (p + k)).drop p ++ G (p + k) := by
    intro k
    induction k with
    | zero => intro p hp _; rw [Nat.add_zero, List.drop_of_length_le (by rw [List.length_take]; omega)]; rfl
    | succ k ih =>
      intro p hp hn
      have hlt : p < t.length := by omega
      rw [h1 p hlt (hn p (Nat.le_refl _) (by omega)), ih (p + 1) (by omega) fun j a b => hn j (by omega) (by omega)]
      have e1 : p + 1 + k = p + (k + 1) := by omega
      rw [e1]
      have e2 : (t.take (p + (k + 1))).drop p = t[p] :: (t.take (p + (k + 1))).drop (p + 1) := by
        rw [List.drop_eq_getElem_cons (by rw [List.length_take]; omega)]
        congr 1
        simp
      rw [e2]; rfl
  induction h with
  | done p hn =>
    intro hp
    have := run (t.length - p) p (by omega) fun j a b => hn j a (by omega)
    rw [show p + (t.length - p) = t.length by omega, List.take_length, h0 _ (Nat.le_refl _), List.append_nil] at this
    exact this.symm
  | @step p q e out hpq hq hit' hn hs ih =>
    intro hp
    obtain ⟨a, b⟩ := hh q e hit'
    rw [ih b]
    have := run (q - p) p (by omega) fun j a b => hn j a (by omega)
    rw [show p + (q - p) = q by omega] at this
    rw [this, h2 q e hit']

/-- all ends of rows made alike -/
noncomputable def crlf : List Nat → List Nat
  | [] => []
  | c :: r => if c = 13 then 13 :: 10 :: crlf (if r.head? = some 10 then r.tail else r) else if c = 10 then 13 :: 10 :: crlf r else c :: crlf r
termination_by l => l.length
decreasing_by
  · simp only [List.length_cons]
    split
    · rw [List.length_tail]; omega
    · omega
  · simp
  · simp

theorem getD_toList (t : Array Nat) (i : Nat) (h : i < t.toList.length) : t.getD i 0 = t.toList[i] := by
  rw [Array.length_toList] at h
  simp [Array.getD, h]

theorem sub_crlf {t : Array Nat} {out : List Nat} (h : Sub (hitL t t.size) t.toList [13, 10] 0 out) : out = crlf t.toList := by
  have hlen : t.toList.length = t.size := Array.length_toList
  have := sub_is (G := fun p => crlf (t.toList.drop p)) (fun p hp => by rw [List.drop_of_length_le hp, crlf]) (fun p hp hn => ?_) (fun p e he => ?_) (fun q e he => ?_) h (Nat.zero_le _)
  · simpa using this
  · show crlf (t.toList.drop p) = _ :: crlf (t.toList.drop (p + 1))
    rw [List.drop_eq_getElem_cons hp]
    unfold hitL at hn
    rw [getD_toList t p hp] at hn
    have h13 : t.toList[p] ≠ 13 := fun q => by
      rw [if_pos ⟨by omega, q⟩] at hn
      split at hn <;> cases hn
    have h10 : t.toList[p] ≠ 10 := fun q => by
      rw [if_neg (fun z => h13 z.2), if_pos ⟨by omega, q⟩] at hn
      cases hn
    conv => lhs; unfold crlf
    rw [if_neg h13, if_neg h10]
  · show crlf (t.toList.drop p) = [13, 10] ++ crlf (t.toList.drop e)
    unfold hitL at he
    split at he
    · rename_i h1
      have hp : p < t.toList.length := by omega
      rw [getD_toList t p hp] at h1
      rw [List.drop_eq_getElem_cons hp]
      conv => lhs; unfold crlf
      rw [if_pos h1.2]
      split at he
      · rename_i h2
        have hp2 : p + 1 < t.toList.length := by omega
        rw [getD_toList t (p + 1) hp2] at h2
        cases he
        rw [List.drop_eq_getElem_cons hp2]
        simp [h2.2]
      · rename_i h2
        cases he
        have : (t.toList.drop (p + 1)).head? ≠ some 10 := fun q => by
          by_cases hp2 : p + 1 < t.toList.length
          · rw [List.drop_eq_getElem_cons hp2] at q
            simp only [List.head?_cons, Option.some.injEq] at q
            exact h2 ⟨by omega, by rw [getD_toList t (p + 1) hp2]; exact q⟩
          · rw [List.drop_of_length_le (by omega)] at q; cases q
        rw [if_neg this]; rfl
    · rename_i h1
      split at he
      · rename_i h2
        have hp : p < t.toList.length := by omega
        cases he
        rw [List.drop_eq_getElem_cons hp]
        rw [getD_toList t p hp] at h2
        conv => lhs; unfold crlf
        rw [if_neg (by omega), if_pos h2.2]; rfl
      · cases he
  · unfold hitL at he
    split at he
    · split at he
      · cases he; omega
      · cases he; omega
    · split at he
      · cases he; omega
      · cases he

/-- one dot more where a row begins with one -/
noncomputable def dots : Bool → List Nat → List Nat
  | _, [] => []
  | b, c :: r => if b = true ∧ c = 46 then 46 :: 46 :: dots false r else c :: dots (c == 10) r

noncomputable def bol (t : Array Nat) (p : Nat) : Bool := p == 0 || t.getD (p - 1) 0 == 10
theorem sub_dots {t : Array Nat} {out : List Nat} (h : Sub (hitD t t.size) t.toList [46, 46] 0 out) : out = dots true t.toList := by
  have hlen : t.toList.length = t.size := Array.length_toList
  have := sub_is (G := fun p => dots (bol t p) (t.toList.drop p)) (fun p hp => by rw [List.drop_of_length_le hp, dots]) (fun p hp hn => ?_) (fun p e he => ?_) (fun q e he => ?_) h (Nat.zero_le _)
  · have e : bol t 0 = true := by simp [bol]
    simpa [e] using this
  · show dots (bol t p) (t.toList.drop p) = _ :: dots (bol t (p + 1)) (t.toList.drop (p + 1))
    rw [List.drop_eq_getElem_cons hp, dots]
    unfold hitD at hn
    rw [getD_toList t p hp] at hn
    have : ¬ (bol t p = true ∧ t.toList[p] = 46) := fun q => by
      rw [if_pos ⟨by simpa [bol] using q.1, by omega, q.2⟩] at hn
      cases hn
    rw [if_neg this]
    have e : bol t (p + 1) = (t.toList[p] == 10) := by
      unfold bol
      rw [show p + 1 - 1 = p by omega, getD_toList t p hp]
      simp
    rw [e]
  · show dots (bol t p) (t.toList.drop p) = [46, 46] ++ dots (bol t e) (t.toList.drop e)
    unfold hitD at he
    split at he
    · rename_i h1
      cases he
      have hp : p < t.toList.length := by omega
      rw [getD_toList t p hp] at h1
      rw [List.drop_eq_getElem_cons hp, dots, if_pos ⟨by simpa [bol] using h1.1, h1.2.2⟩]
      have e : bol t (p + 1) = false := by
        unfold bol
        rw [show p + 1 - 1 = p by omega, getD_toList t p hp, h1.2.2]
        simp
      rw [e]; rfl
    · cases he
  · unfold hitD at he
    split at he
    · cases he; omega
    · cases he
end RX

section
variable {X : Cx} {n : Nat} {τ : Store} {Q : D → Store → Prop}
open RX
structure PatIn (K : Frag) (P T : Addr) (c : Array Nat) : Prop where
  pat : ∃ a b t u, K.lookup P = some { cls := .type "re.Pattern", data := .fields #[a, b, .int 0 t, .none, .none, .ref T, .int 0 u] }
  code : ∃ items n, K.lookup T = some { cls := .type "tuple", data := .seq items n } ∧ (items.map Builtin.Re.reRawOf).map (·.toNat) = c
theorem PatIn.at {K : Frag} {P T : Addr} {c : Array Nat} {h : Heap} (p : PatIn K P T c) (x : K.In h) : PatAt h P T c := by
  obtain ⟨⟨a, b, t, u, e⟩, items, n, e2, e3⟩ := p
  exact ⟨⟨a, b, t, u, x _ _ e⟩, items, n, x _ _ e2, e3⟩

theorem gm_pat {P T : Addr} {c : Array Nat} {name : Str} {id : String} (p : PatIn X.K P T c) (slot : Slot "re.Pattern" name id) (ty : typeOf (.builtin id) = pure (.type "method_descriptor")) : GM X n (.val (.ref P)) name τ (.builtin id) :=
  ⟨keepable_builtin _, fun A s E pl ov Q R O r h => by
    obtain ⟨_, rfl⟩ := r.inv
    obtain ⟨a, b, t, u, e⟩ := (p.at O.inK).pat
    exact getMethod_builtin (T := "re.Pattern") ⟨_, e, rfl⟩ plainAttrs_pat slot ty (fun a e' => by cases e'; exact ⟨_, e, rfl⟩) (h s.toks)⟩

theorem c_crlf {P T : Addr} {x : Str} (p : PatIn X.K P T cL) (hx : x.cps.size ≤ 1000000) (h : Q (.str ⟨(crlf x.cps.toList).toArray⟩) τ) : CallV X n (.builtin "re.Pattern.sub") [.val (.ref P), .str (PySem.Str.ofString "\r\n"), .str x] [] τ Q := .intro0 fun A s E vs R O r => by
  obtain ⟨_, _, rfl, r1, r⟩ := r.inv
  obtain ⟨_, _, rfl, r2, r⟩ := r.inv
  obtain ⟨_, _, rfl, r3, r⟩ := r.inv
  obtain ⟨_, rfl⟩ := r.inv; obtain ⟨_, rfl⟩ := r1.inv; obtain ⟨_, rfl⟩ := r2.inv; obtain ⟨_, rfl⟩ := r3.inv
  refine sub_call (p.at O.inK) hx (by decide +kernel) (by decide +kernel) (findsL x.cps) (fun q e he => ?_) fun out h' tk' t' hs hk => ?_
  · unfold hitL at he
    split at he
    · split at he
      · cases he; omega
      · cases he; omega
    · split at he
      · cases he; omega
      · cases he
  · have e : (PySem.Str.ofString "\r\n").cps.toList = [13, 10] := by decide +kernel
    rw [e] at hs
    rw [sub_crlf hs]
    exact Post.kept O h hk (.str _ _) rfl rfl
theorem c_dots {P T : Addr} {x : Str} (p : PatIn X.K P T cD) (hx : x.cps.size ≤ 1000000) (h : Q (.str ⟨(dots true x.cps.toList).toArray⟩) τ) : CallV X n (.builtin "re.Pattern.sub") [.val (.ref P), .str (PySem.Str.ofString ".."), .str x] [] τ Q := .intro0 fun A s E vs R O r => by
  obtain ⟨_, _, rfl, r1, r⟩ := r.inv
  obtain ⟨_, _, rfl, r2, r⟩ := r.inv
  obtain ⟨_, _, rfl, r3, r⟩ := r.inv
  obtain ⟨_, rfl⟩ := r.inv; obtain ⟨_, rfl⟩ := r1.inv; obtain ⟨_, rfl⟩ := r2.inv; obtain ⟨_, rfl⟩ := r3.inv
  refine sub_call (p.at O.inK) hx (by decide +kernel) (by decide +kernel) (findsD x.cps) (fun q e he => ?_) fun out h' tk' t' hs hk => ?_
  · unfold hitD at he
    split at he
    · cases he; omega
    · cases he
  · have e : (PySem.Str.ofString "..").cps.toList = [46, 46] := by decide +kernel
    rw [e] at hs
    rw [sub_dots hs]
    exact Post.kept O h hk (.str _ _) rfl rfl
/-- a search that finds nothing -/
theorem c_searchN {P T : Addr} {x : Str} {c : Array Nat} {adm : Nat → Bool} (p : PatIn X.K P T c) (hf : ∀ t : Array Nat, Finds c t (hitC adm t t.size)) (hx : x.cps.size ≤ 1000000) (hno : ∀ a ∈ x.cps.toList, adm a = false) (h : Q .none τ) :
    CallV X n (.builtin "re.Pattern.search") [.val (.ref P), .str x] [] τ Q := .intro0 fun A s E vs R O r => by
  obtain ⟨_, _, rfl, r1, r⟩ := r.inv
  obtain ⟨_, _, rfl, r2, r⟩ := r.inv
  obtain ⟨_, rfl⟩ := r.inv; obtain ⟨_, rfl⟩ := r1.inv; obtain ⟨_, rfl⟩ := r2.inv
  refine search_none (p.at O.inK) (by omega) (hf x.cps) (fun j hj => ?_) (Post.here O h .none rfl rfl rfl)
  unfold hitC
  refine if_neg fun q => ?_
  have := hno _ (List.getElem_mem (l := x.cps.toList) (by rw [Array.length_toList]; exact q.1))
  rw [← getD_toList x.cps j (by rw [Array.length_toList]; exact q.1)] at this
  rw [this] at q; exact absurd q.2 Bool.false_ne_true
end
end

section
open PySem.Builtin

theorem mod2 {a b : Str} {t t1 t2 : Tok} {r : Addr} (ha : a.length ≤ 1000000) (hb : b.length ≤ 1000000) : Meets («str.__mod__» ⟨[.str ⟨#[37, 115, 58, 32, 37, 115]⟩ t, .ref r], []⟩) (fun _ R s => IsTup s.heap r #[.str a t1, .str b t2] ∧ ∀ t' k, R (.ok (.ret (.str (a ++ PySem.Str.ofString ": " ++ b) t'))) { s with toks := k }) := by
  kpt_run

section
variable {X : Cx} {n : Nat} {τ : Store} {Q : D → Store → Prop}
theorem tup_SS {C : Addr} {h : Heap} {v : Value} {y x : Str} (r : Rep C τ h v (.tuple [.str y, .str x])) : ∃ ta t1 t2 m, v = .ref ta ∧ h.get? ta = some (tupO [.str y t1, .str x t2] m) := by
  obtain ⟨ta, vs, m, e, _, e1, r1⟩ := r.inv
  obtain ⟨v1, vs', ev, a1, r2⟩ := r1.inv
  obtain ⟨v2, vs'', ev', a2, r3⟩ := r2.inv
  have e3 : vs'' = [] := r3.inv
  obtain ⟨t1, f1⟩ := a1.inv
  obtain ⟨t2, f2⟩ := a2.inv
  exact ⟨ta, t1, t2, m, e, by rw [e1, ev, ev', e3, f1, f2]⟩
theorem t2_mod2 {a b : Str} (ha : a.length ≤ 1000000) (hb : b.length ≤ 1000000) (h : Q (.str (a ++ PySem.Str.ofString ": " ++ b)) τ) : T2 X n (binaryOp .Mod) (.str (PySem.Str.ofString "%s: %s")) (.tuple [.str a, .str b]) τ Q := fun A s E va vb R O ra rb => by
  have e : PySem.Str.ofString "%s: %s" = ⟨#[37, 115, 58, 32, 37, 115]⟩ := by decide +kernel
  rw [e] at ra
  obtain ⟨t, rfl⟩ := ra.inv
  obtain ⟨r, t1, t2, m, rfl, e'⟩ := tup_SS rb
  have ht : IsTup s.heap r #[.str a t1, .str b t2] := ⟨_, e', rfl, m, rfl⟩
  exact KPt.bin_left (T := "str") (U := "tuple") (op := .Mod) (by decide) (typeIs_str _ _ _) ⟨_, e', rfl⟩ PySem.F.fills_str_mod KPt.fills_tuple PySem.F.slot_str_mod
    (call_meets PySem.F.slot_str_mod (typeIs_str _ _ _) PySem.F.entry_str_mod (PySem.F.args_str_mod_2 _ _) (mod2 ha hb) ⟨ht, fun t' k => ⟨(fun e => nomatch e), Post.here O h (.str _ _) rfl rfl rfl⟩⟩)

variable {sk : Sk} {ρ : Str → Option D}
theorem if_t {body orelse : List Stmt} {QS : Fl → (Str → Option D) → Store → Prop} {b : Bool} (hb : b = true) (h1 : Ex X n sk ρ τ body QS) : IfQ X n sk ρ body orelse QS b τ := by subst hb; exact if_true h1
theorem if_f {body orelse : List Stmt} {QS : Fl → (Str → Option D) → Store → Prop} {b : Bool} (hb : b = false) (h1 : Ex X n sk ρ τ orelse QS) : IfQ X n sk ρ body orelse QS b τ := by subst hb; exact if_false h1
noncomputable def IfE (X : Cx) (n : Nat) (sk : Sk) (ρ : Str → Option D) (body orelse : Expr) (Q : D → Store → Prop) : Bool → Store → Prop := fun b τ₁ => if b = true then Ev X n sk ρ τ₁ body Q else Ev X n sk ρ τ₁ orelse Q
theorem ev_ifE {test body orelse : Expr} {pos : Pos} (h : Tst X n sk ρ τ test (IfE X n sk ρ body orelse Q)) : Ev X n sk ρ τ (.IfExp test body orelse pos) Q := ev_ifexp h
theorem ife_q {body orelse : Expr} {b : Bool} (h1 : b = true → Ev X n sk ρ τ body Q) (h2 : b = false → Ev X n sk ρ τ orelse Q) : IfE X n sk ρ body orelse Q b τ := by
  unfold IfE
  cases b
  · rw [if_neg Bool.false_ne_true]; exact h2 rfl
  · rw [if_pos rfl]; exact h1 rfl
theorem ife_t {body orelse : Expr} {b : Bool} (hb : b = true) (h1 : Ev X n sk ρ τ body Q) : IfE X n sk ρ body orelse Q b τ := ife_q (fun _ => h1) fun e => by rw [hb] at e; cases e
theorem ife_f {body orelse : Expr} {b : Bool} (hb : b = false) (h1 : Ev X n sk ρ τ orelse Q) : IfE X n sk ρ body orelse Q b τ := ife_q (fun e => by rw [hb] at e; cases e) fun _ => h1
/-- conditions joined by and, or -/
noncomputable def AndQ (X : Cx) (n : Nat) (sk : Sk) (ρ : Str → Option D) (rest : List Expr) (pos : Pos) (P : Bool → Store → Prop) : Bool → Store → Prop := fun b τ₁ => if b = true then Tst X n sk ρ τ₁ (.BoolOp .And rest pos) P else P false τ₁
noncomputable def OrQ (X : Cx) (n : Nat) (sk : Sk) (ρ : Str → Option D) (rest : List Expr) (pos : Pos) (P : Bool → Store → Prop) : Bool → Store → Prop := fun b τ₁ => if b = true then P true τ₁ else Tst X n sk ρ τ₁ (.BoolOp .Or rest pos) P
theorem tst_andQ {x : Expr} {rest : List Expr} {pos : Pos} {P : Bool → Store → Prop} (h : Tst X n sk ρ τ x (AndQ X n sk ρ rest pos P)) : Tst X n sk ρ τ (.BoolOp .And (x :: rest) pos) P := tst_and h
theorem tst_orQ {x : Expr} {rest : List Expr} {pos : Pos} {P : Bool → Store → Prop} (h : Tst X n sk ρ τ x (OrQ X n sk ρ rest pos P)) : Tst X n sk ρ τ (.BoolOp .Or (x :: rest) pos) P := tst_or h
theorem and_q {rest : List Expr} {pos : Pos} {P : Bool → Store → Prop} {b : Bool} (h1 : b = true → Tst X n sk ρ τ (.BoolOp .And rest pos) P) (h2 : b = false → P false τ) : AndQ X n sk ρ rest pos P b τ := by
  unfold AndQ
  cases b
  · rw [if_neg Bool.false_ne_true]; exact h2 rfl
  · rw [if_pos rfl]; exact h1 rfl
theorem or_q {rest : List Expr} {pos : Pos} {P : Bool → Store → Prop} {b : Bool} (h1 : b = true → P true τ) (h2 : b = false → Tst X n sk ρ τ (.BoolOp .Or rest pos) P) : OrQ X n sk ρ rest pos P b τ := by
  unfold OrQ
  cases b
  · rw [if_neg Bool.false_ne_true]; exact h2 rfl
  · rw [if_pos rfl]; exact h1 rfl

/-- str of an object -/
theorem c_strH {a l : Addr} {f : Addr} (hs : findIn X.K (.ref X.C) "__str__" = some (some (.ref f))) (hf : isFn X.K (.ref f) = true) (h : CallV X n (.ref f) [.hdr a l] [] τ (fun d τ' => ∃ x, d = .str x ∧ Q d τ')) : CallV X (n + 2) (.type "str") [.hdr a l] [] τ Q := .intro0 fun A s E vs R O r => by
  obtain ⟨_, _, rfl, ra, r⟩ := r.inv
  · obtain rfl := r.nil_inv
    obtain ⟨rfl, dx, m, hs', t, I⟩ := instAt_of ra
    refine kso_call (by have := R.un; show A.units + 1 + 1 < 9900; omega) O.inK I hs hf (wpAny_mono (h A.in1.in1 s E [.ref a] [] (R.in1.in1) O (.cons ra .nil) .nil) (fun v s' P => ?_) fun _ _ e => e)
    obtain ⟨d, τ', ⟨x, rfl, q⟩, rd, O', S', o', g'⟩ := P
    obtain ⟨_, rfl⟩ := rd.inv
    exact ⟨_, τ', q, .str _ _, O', S', o', g'⟩
end
end

section
open PySem.Builtin PySem.Builtin.Str
open StrLaws

/-- lists joined by a separator -/
noncomputable def jl (sep : List Nat) : List (List Nat) → List Nat
  | [] => []
  | [p] => p
  | p :: q :: r => p ++ sep ++ jl sep (q :: r)

theorem toList_jl (sep : Str) : ∀ xs : List Str, (Txt.join sep xs).cps.toList = jl sep.cps.toList (xs.map fun (x : Str) => x.cps.toList) := by
  intro xs
  show (PySem.Builtin.Str.glued sep xs).cps.toList = _
  rw [StrLaws.glued_eq_join]
  induction xs with
  | nil => rfl
  | cons x r ih =>
    cases r with
    | nil => rfl
    | cons y r =>
      show (x ++ sep ++ Str.join sep (y :: r)).cps.toList = _
      rw [toList_app, toList_app, ih]
      rfl

theorem at2 {x : Str} {c d k : Nat} : At x ⟨#[c, d]⟩ x.length k ↔ x.cps.toList[k]? = some c ∧ x.cps.toList[k + 1]? = some d := by
  have hl : (⟨#[c, d]⟩ : Str).length = 2 := rfl
  have hlen : x.cps.toList.length = x.length := Array.length_toList
  have e : subAt x ⟨#[c, d]⟩ k = true ↔ (x.cps.toList.drop k).take 2 = [c, d] := by
    show (x.cps.extract k (k + 2) == #[c, d]) = true ↔ _
    rw [beq_iff_eq, ← Array.toList_inj]
    simp
  unfold At
  rw [hl, e]
  constructor
  · rintro ⟨h1, h2⟩
    have a0 := congrArg (·[0]?) h2
    have a1 := congrArg (·[1]?) h2
    simp at a0 a1
    exact ⟨by simpa using a0, by simpa using a1⟩
  · rintro ⟨h1, h2⟩
    have l2 : k + 1 < x.cps.toList.length := (List.getElem?_eq_some_iff.mp h2).1
    refine ⟨by omega, ?_⟩
    rw [List.drop_eq_getElem_cons (by omega), List.drop_eq_getElem_cons (by omega)]
    rw [List.getElem?_eq_getElem (by omega)] at h1 h2
    simp only [Option.some.injEq] at h1 h2
    rw [h1, h2]
    simp

theorem parts_of {x : Str} {c d : Nat} : ∀ (qs : List (List Nat)) (a f : Nat) (cuts : List Nat), qs ≠ [] → (∀ q ∈ qs, c ∉ q) → a ≤ x.length → x.cps.toList.drop a = jl [c, d] qs → ChainG x ⟨#[c, d]⟩ x.length a cuts f → (∀ k, f ≤ k → ¬ At x ⟨#[c, d]⟩ x.length k) →
    (partsFrom x 2 a cuts).map (fun (y : Str) => y.cps.toList) = qs
  | [], a, f, cuts, hn, _, _, _, _, _ => absurd rfl hn
  | [p], a, f, cuts, _, hc, ha, hx, hg, hf => by
    have hlen : x.cps.toList.length = x.length := Array.length_toList
    have hx : x.cps.toList.drop a = p := hx
    have no : ∀ k, a ≤ k → ¬ At x ⟨#[c, d]⟩ x.length k := fun k hk h => by
      have h1 := (at2.mp h).1
      apply hc p (.head _)
      rw [← hx]
      apply List.mem_of_getElem? (i := k - a)
      rw [List.getElem?_drop, show a + (k - a) = k by omega]
      exact h1
    cases cuts with
    | nil =>
      show [(x.cps.extract a x.length).toList] = [p]
      rw [← hx]
      congr 1
      simp only [Array.toList_extract, List.extract_eq_take_drop]
      apply List.take_of_length_le
      rw [List.length_drop]; omega
    | cons k r => exact absurd hg.2.1 (no k hg.1)
  | p :: q :: r, a, f, cuts, _, hc, ha, hx, hg, hf => by
    have hlen : x.cps.toList.length = x.length := Array.length_toList
    have hx : x.cps.toList.drop a = p ++ [c, d] ++ jl [c, d] (q :: r) := hx
    have hl := congrArg List.length hx
    simp only [List.length_append, List.length_drop, List.length_cons, List.length_nil] at hl
    have get : ∀ j, x.cps.toList[a + j]? = (p ++ [c, d] ++ jl [c, d] (q :: r))[j]? := fun j => by
      rw [← hx, List.getElem?_drop]
    have here : At x ⟨#[c, d]⟩ x.length (a + p.length) := at2.mpr ⟨by
      rw [get, List.append_assoc, List.getElem?_append_right (Nat.le_refl _)]; simp, by
      rw [Nat.add_assoc, get, List.append_assoc, List.getElem?_append_right (by omega)]
      simp⟩
    have no : ∀ k, a ≤ k → k < a + p.length → ¬ At x ⟨#[c, d]⟩ x.length k := fun k h1 h2 h => by
      have h3 := (at2.mp h).1
      rw [show k = a + (k - a) by omega, get, List.append_assoc, List.getElem?_append_left (by omega)] at h3
      exact hc p (.head _) (List.mem_of_getElem? h3)
    cases cuts with
    | nil =>
      have : f = a := hg
      subst this
      exact absurd here (hf _ (by omega))
    | cons k r' =>
      obtain ⟨g1, g2, g3, g4⟩ := hg
      have hk : k = a + p.length := by
        rcases Nat.lt_trichotomy k (a + p.length) with h | h | h
        · exact absurd g2 (no k g1 h)
        · exact h
        · exact absurd here (g3 _ (by omega) h)
      subst hk
      have hd : x.cps.toList.drop (a + p.length + 2) = jl [c, d] (q :: r) := by
        rw [show a + p.length + 2 = a + (p.length + 2) by omega, ← List.drop_drop, hx]
        have : p.length + 2 = (p ++ [c, d]).length := by simp
        rw [this, List.drop_left]
      have ih := parts_of (q :: r) (a + p.length + 2) f r' (fun e => nomatch e) (fun y hy => hc y (.tail _ hy)) (by omega) hd g4 hf
      show (x.cps.extract a (a + p.length)).toList :: _ = _
      rw [ih]
      congr 1
      simp only [Array.toList_extract, List.extract_eq_take_drop]
      rw [hx, show a + p.length - a = p.length by omega, List.append_assoc, List.take_left]

/-- what was joined by two signs, of which the first is in no piece, is split into its pieces -/
theorem split_jl {x : Str} {c d : Nat} {qs : List (List Nat)} (hc2 : c < 256 ∧ d < 256) (hn : qs ≠ []) (hc : ∀ q ∈ qs, c ∉ q) (hx : x.cps.toList = jl [c, d] qs) : (Txt.split x ⟨#[c, d]⟩).map (fun (y : Str) => y.cps.toList) = qs := by
  have hlen : x.cps.toList.length = x.length := Array.length_toList
  obtain ⟨f, hg, hf⟩ := occ_tight x ⟨#[c, d]⟩ (by show 1 ≤ 2; decide)
  have key := parts_of qs 0 f _ hn hc (Nat.zero_le _) (by rw [List.drop_zero]; exact hx) hg hf
  have whole : (strSub x 0 x.length).cps.toList = x.cps.toList := by
    show (x.cps.extract 0 x.length).toList = _
    simp only [Array.toList_extract, List.extract_eq_take_drop, List.drop_zero]
    apply List.take_of_length_le
    omega
  unfold Txt.split
  by_cases h1 : (decide (x.length < (⟨#[c, d]⟩ : Str).length) || decide (PySem.Builtin.Str.strKind x < PySem.Builtin.Str.strKind ⟨#[c, d]⟩)) = true
  · rw [if_pos h1]
    have hk : PySem.Builtin.Str.strKind (⟨#[c, d]⟩ : Str) = 1 := by
      unfold PySem.Builtin.Str.strKind
      rw [if_pos (by simp [hc2])]
    have hk2 : 1 ≤ PySem.Builtin.Str.strKind x := by unfold PySem.Builtin.Str.strKind; split <;> (try split) <;> omega
    have hs : x.length < 2 := by
      rw [hk] at h1
      simp only [Bool.or_eq_true, decide_eq_true_eq] at h1
      rcases h1 with h1 | h1
      · exact h1
      · omega
    match qs, hn, hx with
    | [p], _, hx => show [x.cps.toList] = [p]; rw [hx]; rfl
    | p :: q :: r, _, hx =>
      have := congrArg List.length hx
      simp only [jl, List.length_append, List.length_cons, List.length_nil] at this
      omega
  · rw [if_neg h1]
    by_cases h2 : (occurrences x ⟨#[c, d]⟩ 0 x.length (x.length + 1)).isEmpty = true
    · rw [if_pos h2]
      rw [List.isEmpty_iff.mp h2] at key
      rw [← key]
      show [x.cps.toList] = [(strSub x 0 x.length).cps.toList]
      rw [whole]
    · rw [if_neg h2, partsBetween_eq]
      exact key
end

section
open PySem.Builtin

section
variable {X : Cx} {n : Nat} {τ : Store} {Q : D → Store → Prop}
end
end

section
section
variable {X : Cx} {n : Nat} {τ : Store} {Q : D → Store → Prop}
theorem rep_intsAre {C : Addr} {h : Heap} {vs : List Value} {xs : List Int} (s : IntsAre vs xs) : RepAll C τ h vs (xs.map D.int) := by
  induction s with
  | nil => exact .nil
  | cons x t _ ih => exact .cons (.int x t) ih
theorem c_sortedI {d : D} {xs : List Int} (L : IsL τ d (xs.map D.int)) (h64 : xs.length < 64) (h : ∀ ss : List Int, ss.Perm xs → ss.Pairwise (· ≤ ·) → Q (.list (ss.map D.int)) τ) : CallV X n (.builtin "sorted") [d] [] τ Q := .intro0 fun A s E vs R O r => by
  obtain ⟨_, _, rfl, a, r⟩ := r.inv
  · obtain rfl := r.nil_inv
    obtain ⟨l, ws, k, rfl, hv, rs⟩ := L.at O a
    refine PyProof.Rows.sorted_ints (ns := xs) ⟨_, hv, rfl, k, rfl⟩ (intsAre_of rs) (by rw [rs.length, List.length_map]; exact h64) fun out ss ho hp hso => ?_
    obtain ⟨e, he⟩ := sortedAll_at s.heap ws out
    have keep : ∀ b o, s.heap.get? b = some o → (sortedAll s.heap ws out).get? b = some o := fun b o q => sortedAll_old q
    have off : τ (s.heap.objs.size + 1) = none := O.freshOff (Nat.le_succ _)
    refine Post.kept O (h ss hp hso) keep (.list (vs := out.toList) (n := e) off ?_ (rep_intsAre ho)) rfl rfl
    rw [he]
end
end

section
section
variable {X : Cx} {n : Nat} {sk : Sk} {env : Env} {ρ : Str → Option D} {τ : Store}
end
end

section
/-- the sort's tree of questions, answered by an order -/
noncomputable def goT {α : Type} (lt : Nat → Nat → Bool) (n : Nat) : KasT α → Option α
  | .ret a => some a
  | .ask i j k => if i < n ∧ j < n then goT lt n (k (lt i j)) else none

theorem goT_bind {α β : Type} {lt : Nat → Nat → Bool} {n : Nat} {f : α → KasT β} : ∀ (t : KasT α), goT lt n (t.bind f) = (goT lt n t).bind fun a => goT lt n (f a)
  | .ret a => rfl
  | .ask i j k => by
    show (if i < n ∧ j < n then goT lt n ((k (lt i j)).bind f) else none) = (if i < n ∧ j < n then goT lt n (k (lt i j)) else none).bind _
    split
    · exact goT_bind (k (lt i j))
    · rfl

theorem kasWp_goT {α : Type} {lt : Nat → Nat → Bool} {n : Nat} {cmp : Nat → Nat → (Bool → Shared → Prop) → Shared → Prop} {Q : α → Shared → Prop} {s : Shared} (hc : ∀ i j C, i < n → j < n → C (lt i j) s → cmp i j C s) {a : α} (hq : Q a s) :
    ∀ (t : KasT α), goT lt n t = some a → t.kasWp cmp Q s
  | .ret b, e => by
    have e : some b = some a := e
    cases e; exact hq
  | .ask i j k, e => by
    have e : (if i < n ∧ j < n then goT lt n (k (lt i j)) else none) = some a := e
    split at e
    · rename_i h
      exact hc i j _ h.1 h.2 (kasWp_goT hc hq (k (lt i j)) e)
    · cases e
theorem small_sort {vs : List Value} (h : vs.length < 2) : (vs.toArray.zip vs.toArray).map (·.2) = List.toArray ((List.toArray (List.range vs.length)).toList.map fun i => vs.getD i Value.none) := by
  rcases vs with _ | ⟨v, _ | ⟨w, r⟩⟩
  · simp
  · simp [List.range_succ]
  · simp at h; omega

section
variable {prog : Program} {w : World} {A : Around} {E : Value → Shared → Prop} {s : Shared}

theorem tsort_body {a : Addr} {vs : List Value} {n : Nat} {b : Bool} {lt : Nat → Nat → Bool} {p : Array Nat} {P : PySem.Fin → Shared → Prop} (ho : s.heap.get? a = some (seqObj "list" vs.toArray n)) (h64 : vs.length < 64)
    (hsmall : vs.length < 2 → p = List.toArray (List.range vs.length))
    (hk : 2 ≤ vs.length → ∀ h' : Heap, (∀ b o, b ≠ a → s.heap.get? b = some o → h'.get? b = some o) →
      wpAny (model prog w) A (keyKind' vs.toArray) (fun κ s' => s' = { s with heap := h' } ∧ κ = tuples' b) (fun _ _ => False) { s with heap := h' } ∧ ∀ i j C, i < vs.length → j < vs.length → C (lt i j) { s with heap := h' } → kas_ask prog w A (tuples' b) vs i j C { s with heap := h' })
    (hgo : 2 ≤ vs.length → goT lt vs.length (kas_sort vs.length) = some p) (hp : p.size = vs.length)
    (h : P (.done (.ret .none)) { s with heap := sortedHeap s.heap a vs (List.toArray (p.toList.map fun i => vs.getD i Value.none)) }) :
    wpAny (model prog w) A (Builtin.«list.sort» ⟨[.ref a], []⟩) P E s := by
  have ha : a < s.heap.objs.size := Heap.lt_size ho
  rw [list_sort_plain]
  refine wpAny_bind (listItems_at ho rfl ?_)
  refine wpAny_bind (listUpdate_at ho rfl ?_)
  obtain ⟨e1, ho1⟩ : ∃ e1, (s.heap.update a (Obj.mapSeq fun _ => #[])).get? a = some (seqObj "list" #[] e1) := ⟨_, get?_update_seq ho (fun _ => #[])⟩
  refine wpAny_bind (seqEpoch_at ho1 rfl ?_)
  refine wpAny_bind (wpAny_newTuple ?_)
  refine wpAny_bind (wpAny_newList ?_)
  refine wpAny_holding ?_
  have ho6 : (((s.heap.update a (Obj.mapSeq fun _ => #[])).push (seqObj "tuple" vs.toArray 0)).push (seqObj "list" #[] 0)).get? a = some (seqObj "list" #[] e1) := by
    rw [Heap.get?_push_ne _ _ _ (by rw [size_push', Heap.size_update]; exact Nat.ne_of_lt (Nat.lt_succ_of_lt ha)), Heap.get?_push_ne _ _ _ (by rw [Heap.size_update]; exact Nat.ne_of_lt ha)]
    exact ho1
  have keep : ∀ b o, b ≠ a → s.heap.get? b = some o → (((s.heap.update a (Obj.mapSeq fun _ => #[])).push (seqObj "tuple" vs.toArray 0)).push (seqObj "list" #[] 0)).get? b = some o := fun b o nb e =>
    Heap.get?_push_of_some _ (Heap.get?_push_of_some _ (by rw [Heap.get?_update_ne _ _ _ _ nb]; exact e))
  show wpAny (model prog w) A _ P E { s with heap := ((s.heap.update a (Obj.mapSeq fun _ => #[])).push (seqObj "tuple" vs.toArray 0)).push (seqObj "list" #[] 0) }
  dsimp only
  by_cases h2 : vs.toArray.size < 2
  · rw [if_pos h2, if_pos h2]
    refine wpAny_bind (wpAny_pure ?_)
    rw [StateT.run_pure]
    refine wpAny_bind (wpAny_pure ?_)
    dsimp only
    refine wpAny_bind (seqEpoch_at ho6 rfl ?_)
    refine wpAny_bind (listUpdate_at ho6 rfl ?_ (hsz2 := by rw [Array.size_map]; show (pairsOf vs).size ≤ _; rw [pairsOf_size, sizeLine_eq]; omega))
    simp only [bne_self_eq_false, Bool.false_eq_true, if_false]
    refine wpAny_pure ?_
    have e : ((arrOf (SortSt.mk' general' (vs.toArray.zip vs.toArray) #[] 7 none)).map (·.2)) = List.toArray (p.toList.map fun i => vs.getD i Value.none) := by
      rw [hsmall (by simpa using h2)]
      show (vs.toArray.zip vs.toArray).map (·.2) = _
      exact small_sort (by simpa using h2)
    rw [e]
    exact h
  · rw [if_neg h2, if_neg h2]
    have h2' : 2 ≤ vs.length := by rw [List.size_toArray] at h2; omega
    obtain ⟨k1, k2⟩ := hk h2' _ keep
    refine wpAny_bind (wpAny_mono k1 (fun κ s0 hk => ?_) fun _ _ x => x.elim)
    obtain ⟨rfl, rfl⟩ := hk
    refine wpAny_bind (wpAny_mono (kat_run (Q := fun st' s' => s' = { s with heap := ((s.heap.update a (Obj.mapSeq fun _ => #[])).push (seqObj "tuple" vs.toArray 0)).push (seqObj "list" #[] 0) } ∧ arrOf st' = p.map (kas_item (vs.toArray.zip vs.toArray)) ∧ failedOf st' = none)
      (G := fun p' s' => p' = p ∧ s' = { s with heap := ((s.heap.update a (Obj.mapSeq fun _ => #[])).push (seqObj "tuple" vs.toArray 0)).push (seqObj "list" #[] 0) }) rfl h2' h64 (fun p' st' s' a1 a2 a3 a4 => ⟨a4.2, a4.1 ▸ a2, a3⟩)
      (kasWp_goT k2 ⟨rfl, rfl⟩ _ (hgo h2'))) ?_ fun _ _ e => e)
    rintro ⟨⟨⟩, st'⟩ s' ⟨rfl, har, hf⟩
    dsimp only
    have hout := kat_snds (vs := vs) rfl har
    rw [hout]
    refine wpAny_bind (seqEpoch_at ho6 rfl ?_)
    refine wpAny_bind (listUpdate_at ho6 rfl ?_ (hsz2 := by rw [List.size_toArray, List.length_map, Array.length_toList, hp, sizeLine_eq]; omega))
    rw [hf]
    simp only [bne_self_eq_false, Bool.false_eq_true, if_false]
    exact wpAny_pure h

theorem tsorted {l : Addr} {vs : List Value} {b : Bool} {lt : Nat → Nat → Bool} {p : Array Nat} {Q : Value → Shared → Prop} (hl : s.heap.IsList l vs.toArray) (h64 : vs.length < 64)
    (hsmall : vs.length < 2 → p = List.toArray (List.range vs.length))
    (hk : 2 ≤ vs.length → ∀ h' : Heap, (∀ b o, s.heap.get? b = some o → h'.get? b = some o) →
      wpAny (model prog w) A.in1.in1 (keyKind' vs.toArray) (fun κ s' => s' = { s with heap := h' } ∧ κ = tuples' b) (fun _ _ => False) { s with heap := h' } ∧ ∀ i j C, i < vs.length → j < vs.length → C (lt i j) { s with heap := h' } → kas_ask prog w A.in1.in1 (tuples' b) vs i j C { s with heap := h' })
    (hgo : 2 ≤ vs.length → goT lt vs.length (kas_sort vs.length) = some p) (hp : p.size = vs.length)
    (h : Q (.ref (s.heap.objs.size + 1)) { s with heap := sortedAll s.heap vs (List.toArray (p.toList.map fun i => vs.getD i Value.none)) }) :
    wpAny (model prog w) A (call (.builtin "sorted") [.ref l]) Q E s := by
  refine Calls.call_function_entry kind_sorted plain_sorted entry_sorted (args_sorted1 _) ?_
  unfold Builtin.«sorted»
  refine wpAny_bind (m := checkCount "sorted" 1 1 _) (wpAny_pure ?_)
  refine wpAny_bind (collect_list hl ?_ (by rw [sizeLine_eq]; omega))
  refine wpAny_bind (wpAny_newList ?_ (by rw [sizeLine_eq]; omega))
  have hsz : ((s.heap.push (seqObj "list" #[] 0)).update s.heap.objs.size (Obj.mapSeq (· ++ vs.toArray))).objs.size = s.heap.objs.size + 1 := by
    rw [Heap.size_update, size_push']
  have hoL : (((s.heap.push (seqObj "list" #[] 0)).update s.heap.objs.size (Obj.mapSeq (· ++ vs.toArray))).push (seqObj "list" vs.toArray 0)).get? (s.heap.objs.size + 1) = some (seqObj "list" vs.toArray 0) := by
    rw [← hsz]; exact Heap.get?_push_size _ rfl
  have keep : ∀ b o, s.heap.get? b = some o → (((s.heap.push (seqObj "list" #[] 0)).update s.heap.objs.size (Obj.mapSeq (· ++ vs.toArray))).push (seqObj "list" vs.toArray 0)).get? b = some o := fun b o q => by
    have hlt : b < s.heap.objs.size := Heap.lt_size q
    rw [Heap.get?_push_ne _ _ _ (by rw [hsz]; exact Nat.ne_of_lt (Nat.lt_succ_of_lt hlt)), Heap.get?_update_ne _ _ _ _ (Nat.ne_of_lt hlt), Heap.get?_push_ne _ _ _ (Nat.ne_of_lt hlt)]
    exact q
  show wpAny _ _ _ _ _ { s with heap := ((s.heap.push (seqObj "list" #[] 0)).update s.heap.objs.size (Obj.mapSeq (· ++ vs.toArray))).push (seqObj "list" vs.toArray 0) }
  rw [hsz]
  refine wpAny_bind (wpAny_holding (wpAny_call_entry slot_list_sort ⟨_, hoL, rfl⟩ entry_list_sort
    (tsort_body (b := b) (lt := lt) (p := p) (s := { s with heap := ((s.heap.push (seqObj "list" #[] 0)).update s.heap.objs.size (Obj.mapSeq (· ++ vs.toArray))).push (seqObj "list" vs.toArray 0) }) hoL h64 hsmall
      (fun h2 h' k' => hk h2 h' fun b o e => k' b o (Nat.ne_of_lt (Nat.lt_succ_of_lt (Heap.lt_size e))) (keep b o e)) hgo hp ⟨_, rfl, ?_⟩) (args_list_sort _)))
  exact wpAny_pure ⟨_, rfl, h⟩
end
end

section
open PySem.Builtin
section
variable {prog : Program} {w : World} {C : Addr} {τ : Store} {A : Around} {s : Shared}
end
section
variable {X : Cx} {n : Nat} {τ : Store} {Q : D → Store → Prop}
end
end

section
/-- an order for the sort's questions, in which no two are alike -/
structure WO (lt : Nat → Nat → Bool) (n : Nat) : Prop where
  asym : ∀ {a b}, lt a b = true → lt b a = false
  tr : ∀ {a b c}, lt b a = false → lt c b = false → lt c a = false
  tot : ∀ {a b}, a < n → b < n → lt a b = false → lt b a = false → a = b

abbrev gA (p : Array Nat) (i : Nat) : Nat := p.getD i 0
theorem gA_of {p q : Array Nat} {i j : Nat} (h : p[i]? = q[j]?) : gA p i = gA q j := by
  simp only [gA, Array.getD_eq_getD_getElem?, h]
theorem gA_bubble {p : Array Nat} {k m : Nat} (hs : k < p.size) (hm : m ≤ k) (i : Nat) : gA (bubble p k (k - m)) i = if i = m then gA p k else if m < i ∧ i ≤ k then gA p (i - 1) else gA p i := by
  have e := getElem?_bubble hs (k - m) (Nat.sub_le _ _) i
  rw [Nat.sub_sub_self hm] at e
  by_cases h1 : i = m
  · rw [if_pos h1] at e ⊢; exact gA_of e
  · rw [if_neg h1] at e ⊢
    by_cases h2 : m < i ∧ i ≤ k
    · rw [if_pos h2] at e ⊢; exact gA_of e
    · rw [if_neg h2] at e ⊢; exact gA_of e
theorem gA_rev {p : Array Nat} {j : Nat} (hj : j ≤ p.size) {k : Nat} (hk : k < j) : gA (kas_rev p 0 j) k = gA p (j - 1 - k) := by
  have e := getElem?_mirror_all (i := 0) hj k
  rw [if_pos ⟨Nat.zero_le _, hk⟩, Nat.zero_add] at e
  exact gA_of e

abbrev PermR (p : Array Nat) (n : Nat) : Prop := p.Perm (List.toArray (List.range n))
theorem PermR.size {p : Array Nat} {n : Nat} (h : PermR p n) : p.size = n := by rw [h.size_eq]; simp
theorem gA_mem {p : Array Nat} {i : Nat} (hi : i < p.size) : gA p i = p[i] := by simp [gA, Array.getD_eq_getD_getElem?, hi]
theorem PermR.lt {p : Array Nat} {n : Nat} (h : PermR p n) {i : Nat} (hi : i < n) : gA p i < n := by
  have hs : i < p.size := h.size.symm ▸ hi
  have : p[i] ∈ List.toArray (List.range n) := h.mem_iff.mp (Array.getElem_mem hs)
  rw [gA_mem hs]
  simpa using this
theorem PermR.inj {p : Array Nat} {n : Nat} (h : PermR p n) {i j : Nat} (hi : i < n) (hj : j < n) (e : gA p i = gA p j) : i = j := by
  have hn : p.toList.Nodup := (Array.perm_iff_toList_perm.mp h).nodup_iff.mpr (by simpa using List.nodup_range)
  have h1 : i < p.size := h.size.symm ▸ hi
  have h2 : j < p.size := h.size.symm ▸ hj
  rw [gA_mem h1, gA_mem h2] at e
  exact (List.getElem_inj (h₀ := by simpa using h1) (h₁ := by simpa using h2) hn).mp (by simpa using e)

section
variable {lt : Nat → Nat → Bool} {n : Nat}
/-- each stands behind the one ahead of it, or ahead of it -/
noncomputable def SortA (lt : Nat → Nat → Bool) (p : Array Nat) (k : Nat) : Prop := ∀ i, i + 1 < k → lt (gA p (i + 1)) (gA p i) = false
noncomputable def DescA (lt : Nat → Nat → Bool) (p : Array Nat) (k : Nat) : Prop := ∀ i, i + 1 < k → lt (gA p i) (gA p (i + 1)) = false

theorem WO.irr (W : WO lt n) (a : Nat) : lt a a = false := by
  cases h : lt a a with
  | false => rfl
  | true => exact h.symm.trans (W.asym h)
theorem SortA.le (W : WO lt n) {p : Array Nat} {k : Nat} (h : SortA lt p k) (i : Nat) : ∀ d, i + d < k → lt (gA p (i + d)) (gA p i) = false
  | 0, _ => W.irr _
  | d + 1, hd => W.tr (h.le W i d (Nat.lt_of_succ_lt hd)) (h (i + d) hd)
theorem SortA.more {p : Array Nat} {k : Nat} (hs : SortA lt p (k + 1)) (hc : lt (gA p (k + 1)) (gA p k) = false) : SortA lt p (k + 2) := fun i hi => by
  rcases Nat.lt_or_eq_of_le (Nat.le_of_lt_succ hi) with h | h
  · exact hs i h
  · rw [Nat.succ.inj h]; exact hc
theorem DescA.more {p : Array Nat} {k : Nat} (hs : DescA lt p (k + 1)) (hc : lt (gA p k) (gA p (k + 1)) = false) : DescA lt p (k + 2) := fun i hi => by
  rcases Nat.lt_or_eq_of_le (Nat.le_of_lt_succ hi) with h | h
  · exact hs i h
  · rw [Nat.succ.inj h]; exact hc

theorem goT_ask {α : Type} {i j : Nat} {k : Bool → KasT α} (hi : i < n) (hj : j < n) : goT lt n (.ask i j k) = goT lt n (k (lt i j)) := if_pos ⟨hi, hj⟩

theorem goT_place (W : WO lt n) {p : Array Nat} (hp : PermR p n) {k : Nat} (hk : k < n) (hs : SortA lt p k) : ∀ f l r, l ≤ r → r ≤ k → r ≤ l + f → (∀ i, i < l → lt (gA p k) (gA p i) = false) → (∀ i, r ≤ i → i < k → lt (gA p k) (gA p i) = true) →
    ∃ m, goT lt n (kas_place p k f l r) = some m ∧ m ≤ k ∧ (∀ i, i < m → lt (gA p k) (gA p i) = false) ∧ ∀ i, m ≤ i → i < k → lt (gA p k) (gA p i) = true
  | 0, l, r, hlr, hrk, hf, h1, h2 => ⟨l, rfl, Nat.le_trans hlr hrk, h1, fun i a b => h2 i (Nat.le_trans hf a) b⟩
  | f + 1, l, r, hlr, hrk, hf, h1, h2 => by
    unfold kas_place
    by_cases hge : l ≥ r
    · rw [if_pos hge]
      exact ⟨l, rfl, Nat.le_trans hlr hrk, h1, fun i a b => h2 i (Nat.le_trans hge a) b⟩
    · have hlt := Nat.lt_of_not_le hge
      clear hge hlr
      have a1 : l ≤ (l + r) / 2 ∧ (l + r) / 2 < r ∧ (l + r) / 2 ≤ l + f ∧ r ≤ (l + r) / 2 + 1 + f := by
        have b1 : l ≤ (l + r) / 2 := (Nat.le_div_iff_mul_le (by decide)).mpr (by rw [Nat.mul_two]; exact Nat.add_le_add_left (Nat.le_of_lt hlt) _)
        have b2 : (l + r) / 2 < r := Nat.div_lt_of_lt_mul (by rw [Nat.two_mul]; exact Nat.add_lt_add_right hlt _)
        exact ⟨b1, b2, Nat.le_of_lt_succ (Nat.lt_of_lt_of_le b2 hf), Nat.le_trans hf (by rw [Nat.add_right_comm]; exact Nat.add_le_add_right b1 _)⟩
      rw [if_neg (Nat.not_le_of_lt hlt), goT_ask (hp.lt hk) (hp.lt (Nat.lt_trans (Nat.lt_of_lt_of_le a1.2.1 hrk) hk))]
      generalize (l + r) / 2 = c at a1 ⊢
      obtain ⟨a1, a2, a3, a4⟩ := a1
      have sor : ∀ i j, i ≤ j → j < k → lt (gA p j) (gA p i) = false := fun i j hij hj => by
        obtain ⟨d, rfl⟩ := Nat.exists_eq_add_of_le hij
        exact hs.le W i d hj
      cases hc : lt (gA p k) (gA p c) with
      | true =>
        refine goT_place W hp hk hs f l c a1 (Nat.le_trans (Nat.le_of_lt a2) hrk) a3 h1 fun i a b => ?_
        cases hx : lt (gA p k) (gA p i) with
        | true => rfl
        | false => exact hc.symm.trans (W.tr (sor _ _ a b) hx) |>.symm
      | false => exact goT_place W hp hk hs f (c + 1) r a2 hrk a4 (fun i a => W.tr (sor i c (Nat.le_of_lt_succ a) (Nat.lt_of_lt_of_le a2 hrk)) hc) h2

theorem bubble_sorted (W : WO lt n) {p : Array Nat} {k m : Nat} (hs : SortA lt p k) (hk : k < p.size) (hm : m ≤ k) (h1 : ∀ i, i < m → lt (gA p k) (gA p i) = false) (h2 : ∀ i, m ≤ i → i < k → lt (gA p k) (gA p i) = true) : SortA lt (bubble p k (k - m)) (k + 1) := fun i hi => by
  have hi := Nat.lt_of_succ_lt_succ hi
  rw [gA_bubble hk hm, gA_bubble hk hm]
  rcases Nat.lt_trichotomy i m with h | h | h
  · rw [if_neg (Nat.ne_of_lt h), if_neg (c := m < i ∧ i ≤ k) fun q => Nat.lt_asymm h q.1]
    rcases Nat.lt_or_eq_of_le (Nat.succ_le_of_lt h) with q | q
    · rw [if_neg (c := i + 1 = m) (Nat.ne_of_lt q), if_neg fun z => Nat.lt_asymm q z.1]
      exact hs i (Nat.lt_of_lt_of_le q hm)
    · rw [if_pos (c := i + 1 = m) q]; exact h1 i h
  · rw [if_pos h, if_neg (by rw [h]; exact Nat.succ_ne_self m), if_pos ⟨by rw [h]; exact Nat.lt_succ_self m, hi⟩, Nat.add_sub_cancel]
    exact W.asym (h2 i (Nat.le_of_eq h.symm) hi)
  · obtain ⟨j, rfl⟩ := Nat.exists_eq_succ_of_ne_zero (Nat.ne_of_gt (Nat.lt_of_le_of_lt (Nat.zero_le _) h))
    rw [if_neg (Nat.ne_of_gt h), if_neg (Nat.ne_of_gt (Nat.lt_succ_of_lt h)), if_pos ⟨Nat.lt_succ_of_lt h, hi⟩, if_pos ⟨h, Nat.le_of_lt hi⟩, Nat.add_sub_cancel, Nat.succ_sub_one]
    exact hs j hi
theorem goT_bin (W : WO lt n) : ∀ f (p : Array Nat) k, PermR p n → k + f = n → SortA lt p k → ∃ q, goT lt n (kas_bin f p k) = some q ∧ PermR q n ∧ SortA lt q n
  | 0, p, k, hp, hk, hs => ⟨p, rfl, hp, hk ▸ hs⟩
  | f + 1, p, k, hp, hk, hs => by
    have hkn : k < n := hk ▸ Nat.lt_add_of_pos_right (Nat.succ_pos f)
    unfold kas_bin
    obtain ⟨m, e, hm, h1, h2⟩ := goT_place W hp hkn hs k 0 k (Nat.zero_le _) (Nat.le_refl _) (Nat.le_add_left _ _) (fun i h => absurd h (Nat.not_lt_zero i)) (fun i a b => absurd b (Nat.not_lt_of_le a))
    rw [goT_bind, e]
    exact goT_bin W f _ (k + 1) ((bubble_perm p k (k - m)).trans hp) ((Nat.succ_add_eq_add_succ k f).trans hk) (bubble_sorted W hs (hp.size.symm ▸ hkn) hm h1 h2)

theorem goT_asc2 (W : WO lt n) {p : Array Nat} (hp : PermR p n) : ∀ f k, k + 1 + f = n → SortA lt p (k + 1) → ∃ m, goT lt n (kas_asc p f (k + 1)) = some (m + 1) ∧ k ≤ m ∧ m + 1 ≤ n ∧ SortA lt p (m + 1) ∧ (m + 1 < n → lt (gA p (m + 1)) (gA p m) = true)
  | 0, k, hk, hs => ⟨k, rfl, Nat.le_refl _, Nat.le_of_eq hk, hs, fun h => absurd hk (Nat.ne_of_lt h)⟩
  | f + 1, k, hk, hs => by
    have hkn : k + 1 < n := hk ▸ Nat.lt_add_of_pos_right (Nat.succ_pos f)
    unfold kas_asc
    rw [goT_ask (hp.lt hkn) (hp.lt (Nat.lt_of_le_of_lt (Nat.sub_le _ _) hkn)), Nat.add_sub_cancel]
    cases hc : lt (gA p (k + 1)) (gA p k) with
    | true => exact ⟨k, rfl, Nat.le_refl _, Nat.le_of_lt hkn, hs, fun _ => hc⟩
    | false =>
      obtain ⟨m, e, a, b, c, d⟩ := goT_asc2 W hp f (k + 1) ((Nat.succ_add_eq_add_succ (k + 1) f).trans hk) (hs.more hc)
      exact ⟨m, e, Nat.le_of_succ_le a, b, c, d⟩

theorem goT_desc (W : WO lt n) {p : Array Nat} (hp : PermR p n) : ∀ f k, k + 1 + f = n → DescA lt p (k + 1) → ∃ m, goT lt n (kas_desc f p (k + 1) 0) = some (p, m + 1, 0) ∧ m + 1 ≤ n ∧ DescA lt p (m + 1)
  | 0, k, hk, hd => ⟨k, rfl, Nat.le_of_eq hk, hd⟩
  | f + 1, k, hk, hd => by
    have hkn : k + 1 < n := hk ▸ Nat.lt_add_of_pos_right (Nat.succ_pos f)
    have hk0 : k < n := Nat.lt_of_succ_lt hkn
    unfold kas_desc
    rw [goT_ask (hp.lt hkn) (hp.lt (Nat.lt_of_le_of_lt (Nat.sub_le _ _) hkn)), Nat.add_sub_cancel]
    cases hc : lt (gA p (k + 1)) (gA p k) with
    | true =>
      obtain ⟨m, e, b, c⟩ := goT_desc W hp f (k + 1) ((Nat.succ_add_eq_add_succ (k + 1) f).trans hk) (hd.more (W.asym hc))
      exact ⟨m, e, b, c⟩
    | false =>
      rw [if_neg Bool.false_ne_true, goT_ask (hp.lt hk0) (hp.lt hkn)]
      cases hc2 : lt (gA p k) (gA p (k + 1)) with
      | true => exact ⟨k, rfl, Nat.le_of_lt hkn, hd⟩
      | false => exact absurd (hp.inj hk0 hkn (W.tot (hp.lt hk0) (hp.lt hkn) hc2 hc)) (Nat.ne_of_lt (Nat.lt_succ_self k))

theorem goT_tail3 (W : WO lt n) {p : Array Nat} (hp : PermR p n) {k : Nat} (hk : k + 1 ≤ n) (hd : DescA lt p (k + 1)) : ∃ m q, goT lt n (kas_tail3 (k + 1) n p) = some (m + 1, q) ∧ m + 1 ≤ n ∧ PermR q n ∧ SortA lt q (m + 1) := by
  unfold kas_tail3
  have hp1 : PermR (kas_rev p 0 (k + 1)) n := (mirror_perm p 0 (k + 1) _).trans hp
  obtain ⟨m, e, a, b, c, _⟩ := goT_asc2 W hp1 (n - (k + 1)) k (Nat.add_sub_cancel' hk) (fun i hi => by
    rw [gA_rev (hp.size.symm ▸ hk) hi, gA_rev (hp.size.symm ▸ hk) (Nat.lt_of_succ_lt hi), Nat.add_sub_cancel]
    obtain ⟨j, rfl⟩ := Nat.exists_eq_add_of_lt (Nat.lt_of_succ_lt_succ hi)
    have e1 : i + j + 1 - (i + 1) = j := by rw [Nat.add_right_comm, Nat.add_sub_cancel_left]
    have e2 : i + j + 1 - i = j + 1 := by rw [Nat.add_assoc, Nat.add_sub_cancel_left]
    rw [e1, e2]
    exact hd j (Nat.succ_lt_succ (Nat.lt_succ_of_le (Nat.le_add_left _ _))))
  rw [goT_bind, e]
  exact ⟨m, _, rfl, b, hp1, c⟩

theorem goT_count (W : WO lt n) (h1 : 1 ≤ n) {p : Array Nat} (hp : PermR p n) : ∃ m q, goT lt n (kas_count n p) = some (m + 1, q) ∧ m + 1 ≤ n ∧ PermR q n ∧ SortA lt q (m + 1) := by
  unfold kas_count
  obtain ⟨m, e, a, b, c, d⟩ := goT_asc2 W hp (n - 1) 0 (Nat.add_sub_cancel' h1) (fun i hi => absurd (Nat.lt_of_succ_lt_succ hi) (Nat.not_lt_zero _))
  rw [goT_bind, e]
  show ∃ m' q, goT lt n (if (m + 1 == n) = true then .ret (m + 1, p) else if m + 1 > 1 then .ask (p.getD 0 0) (p.getD (m + 1 - 1) 0) fun c => if c = true then .ret (m + 1, p) else kas_descPart (m + 1) n (kas_rev p 0 (m + 1)) else kas_descPart (m + 1) n p) = some (m' + 1, q) ∧ _
  by_cases hmn : m + 1 = n
  · rw [if_pos (beq_iff_eq.mpr hmn)]
    exact ⟨m, p, rfl, b, hp, c⟩
  · have hlt' := Nat.lt_of_le_of_ne b hmn
    have hlt := d hlt'
    have h0 : 0 < n := h1
    rw [if_neg (fun q => hmn (beq_iff_eq.mp q))]
    by_cases hm1 : m + 1 > 1
    · have hmlt : m < n := Nat.lt_of_succ_lt hlt'
      rw [if_pos hm1, goT_ask (hp.lt h0) (hp.lt (Nat.lt_of_le_of_lt (Nat.sub_le _ _) hlt')), Nat.add_sub_cancel]
      have h3 := c.le W 0 m (by rw [Nat.zero_add]; exact Nat.lt_succ_self m)
      rw [Nat.zero_add] at h3
      cases hc : lt (gA p 0) (gA p m) with
      | true => exact ⟨m, p, rfl, b, hp, c⟩
      | false => exact absurd (hp.inj h0 hmlt (W.tot (hp.lt h0) (hp.lt hmlt) hc h3)) (Nat.ne_of_lt (Nat.lt_of_succ_lt_succ hm1))
    · have hm : m = 0 := Nat.le_zero.mp (Nat.le_of_succ_le_succ (Nat.le_of_not_lt hm1))
      subst hm
      rw [if_neg hm1]
      unfold kas_descPart
      obtain ⟨m, e, b', c'⟩ := goT_desc W hp (n - 2) 1 (Nat.add_sub_cancel' hlt') (fun i hi => by
        have : i = 0 := Nat.lt_one_iff.mp (Nat.lt_of_succ_lt_succ hi)
        rw [this]; exact W.asym hlt)
      rw [goT_bind, e]
      exact goT_tail3 W hp b' c'

theorem goT_sort (W : WO lt n) (h1 : 1 ≤ n) : ∃ q, goT lt n (kas_sort n) = some q ∧ PermR q n ∧ ∀ i j, i ≤ j → j < n → lt (gA q j) (gA q i) = false := by
  unfold kas_sort
  obtain ⟨m, q, e, b, c, d⟩ := goT_count W h1 (p := List.toArray (List.range n)) (.refl _)
  have fin : ∀ {q : Array Nat}, SortA lt q n → ∀ i j, i ≤ j → j < n → lt (gA q j) (gA q i) = false := fun hs i j hij hj => by
    obtain ⟨d, rfl⟩ := Nat.exists_eq_add_of_le hij
    exact hs.le W i d hj
  rw [goT_bind, e]
  show ∃ q', goT lt n (if m + 1 < n then kas_bin (n - max (m + 1) 1) q (max (m + 1) 1) else .ret q) = some q' ∧ _
  rw [Nat.max_eq_left (Nat.succ_pos m)]
  split
  · obtain ⟨q', a1, a2, a3⟩ := goT_bin W _ q (m + 1) c (Nat.add_sub_cancel' b) d
    exact ⟨q', a1, a2, fin a3⟩
  · rename_i h
    have e2 : m + 1 = n := Nat.le_antisymm b (Nat.le_of_not_lt h)
    exact ⟨q, rfl, c, fin (e2 ▸ d)⟩
end
end

section
open PySem.Builtin

noncomputable def ltSS (p q : Str × Str) : Bool := decide (p.1.cps.toList < q.1.cps.toList) || (decide (p.1 = q.1) && decide (p.2.cps.toList < q.2.cps.toList))
theorem str_ext' {x y : Str} (h : x.cps.toList = y.cps.toList) : x = y := by
  cases x; cases y
  simp only at h
  rw [Array.toList_inj.mp h]
theorem lex_iff (p q : Str × Str) : ltSS p q = true ↔ p.1.cps.toList < q.1.cps.toList ∨ (p.1.cps.toList = q.1.cps.toList ∧ p.2.cps.toList < q.2.cps.toList) := by
  unfold ltSS
  rw [Bool.or_eq_true, Bool.and_eq_true, decide_eq_true_eq, decide_eq_true_eq, decide_eq_true_eq]
  exact or_congr Iff.rfl (and_congr ⟨fun e => by rw [e], str_ext'⟩ Iff.rfl)
theorem leSS_iff (p q : Str × Str) : ltSS q p = false ↔ p.1.cps.toList < q.1.cps.toList ∨ (p.1.cps.toList = q.1.cps.toList ∧ p.2.cps.toList ≤ q.2.cps.toList) := by
  rw [← Bool.not_eq_true, lex_iff, not_or, not_and]
  constructor
  · rintro ⟨h1, h2⟩
    by_cases h : p.1.cps.toList < q.1.cps.toList
    · exact .inl h
    · have e := List.le_antisymm (List.not_lt.mp h1) (List.not_lt.mp h)
      exact .inr ⟨e, List.not_lt.mp (h2 e.symm)⟩
  · rintro (h | ⟨h1, h2⟩)
    · exact ⟨fun q => List.lt_irrefl _ (List.lt_trans h q), fun e => absurd h (by rw [e]; exact List.lt_irrefl _)⟩
    · exact ⟨by rw [h1]; exact List.lt_irrefl _, fun _ => List.not_lt.mpr h2⟩
theorem leSS_trans {a b c : Str × Str} (h : ltSS b a = false) (k : ltSS c b = false) : ltSS c a = false := by
  rw [leSS_iff] at h k ⊢
  rcases h with h | ⟨h1, h2⟩ <;> rcases k with k | ⟨k1, k2⟩
  · exact .inl (List.lt_trans h k)
  · exact .inl (by rw [← k1]; exact h)
  · exact .inl (by rw [h1]; exact k)
  · exact .inr ⟨h1.trans k1, List.le_trans h2 k2⟩
theorem ltSS_asym {a b : Str × Str} (h : ltSS a b = true) : ltSS b a = false := by
  rw [leSS_iff]
  rcases (lex_iff a b).mp h with h | ⟨h1, h2⟩
  · exact .inl h
  · exact .inr ⟨h1, List.le_of_lt h2⟩
theorem leSS_anti {a b : Str × Str} (h : ltSS b a = false) (k : ltSS a b = false) : a = b := by
  rw [leSS_iff] at h k
  rcases h with h | ⟨h1, h2⟩
  · rcases k with k | ⟨k1, _⟩
    · exact absurd (List.lt_trans h k) (List.lt_irrefl _)
    · exact absurd h (by rw [k1]; exact List.lt_irrefl _)
  · rcases k with k | ⟨_, k2⟩
    · exact absurd k (by rw [h1]; exact List.lt_irrefl _)
    · exact Prod.ext (str_ext' h1) (str_ext' (List.le_antisymm h2 k2))
abbrev SortP (l : List (Str × Str)) : Prop := l.Pairwise fun a b => ltSS b a = false

section
variable {prog : Program} {w : World} {C : Addr} {τ : Store} {A : Around} {s : Shared}
theorem tups_SS {h : Heap} : ∀ {vs : List Value} {items : List (Str × Str)}, RepAll C τ h vs (items.map pairD) → ∃ fs, KatTups h vs fs ∧ fs.length = vs.length ∧ ∀ v ∈ fs, ∃ i t, v = Value.str i t
  | _, [], r => by cases r; exact ⟨[], .nil, rfl, fun _ m => nomatch m⟩
  | _, p :: items, r => by
    obtain ⟨v, vs, rfl, a, r⟩ := r.inv
    obtain ⟨fs, h1, h2, h3⟩ := tups_SS r
    obtain ⟨t, tk, t2, m, rfl, e⟩ := tup_SS a
    exact ⟨.str p.1 tk :: fs, .cons e rfl rfl (by simp) h1, by simp [h2], fun v m => by
        rcases List.mem_cons.mp m with rfl | m
        · exact ⟨_, _, rfl⟩
        · exact h3 v m⟩

theorem lt_SS {p q : Str × Str} {x y : Value} {E : Value → Shared → Prop} {Q : Bool → Shared → Prop} (rx : Rep C τ s.heap x (pairD p)) (ry : Rep C τ s.heap y (pairD q)) (h : Q (ltSS p q) s) : wpAny (model prog w) A (keyLt' (tuples' true) x y) Q E s := by
  obtain ⟨i, x⟩ := p
  obtain ⟨j, y⟩ := q
  obtain ⟨ta, t1, t2, m, rfl, e1⟩ := tup_SS rx
  obtain ⟨tb, t3, t4, k, rfl, e2⟩ := tup_SS ry
  refine kat_lt e1 rfl e2 rfl ?_
  show KatLex prog w A true _ Q [(.str i t1, .str j t3), (.str x t2, .str y t4)] 0 s
  refine kat_cons (PyProof.Rows.eqBool_str ?_)
  by_cases hij : i = j
  · subst hij
    refine kat_go (fun _ => kat_yes ?_) (fun e => ?_)
    · refine kat_cons (PyProof.Rows.eqBool_str ?_)
      by_cases hxy : x = y
      · subst hxy
        refine kat_go (fun _ => kat_yes (kat_nil ?_)) (fun e => ?_)
        · have e : ltSS (i, x) (i, x) = false := by simp [ltSS, List.lt_irrefl]
          rw [e] at h
          exact h
        · simp at e
      · refine kat_go (fun e => ?_) (fun _ => kat_no ?_)
        · simp at e; exact absurd e hxy
        · refine kat_one _ _ (PySem.P.lt_str ?_)
          have e : ltSS (i, x) (i, y) = decide (x.cps.toList < y.cps.toList) := by simp [ltSS, List.lt_irrefl]
          rw [e] at h
          exact h
    · simp at e
  · refine kat_go (fun e => ?_) (fun _ => kat_no ?_)
    · simp at e; exact absurd e hij
    · refine oneLt_str ?_
      have e : ltSS (i, x) (j, y) = decide (i.cps.toList < j.cps.toList) := by simp [ltSS, hij]
      rw [e] at h
      exact h
end

theorem repAll_getP {C : Addr} {τ : Store} {h : Heap} {items : List (Str × Str)} {vs : List Value} (r : RepAll C τ h vs (items.map pairD)) {i : Nat} (hi : i < vs.length) : Rep C τ h (vs.getD i Value.none) (pairD (items.getD i ("", ""))) := by
  have hl : vs.length = items.length := by rw [r.length, List.length_map]
  obtain ⟨v, hv, rv⟩ := r.get (k := i) (d := pairD (items.getD i ("", ""))) (by rw [List.getElem?_map, List.getElem?_eq_getElem (by omega), List.getD_eq_getElem?_getD, List.getElem?_eq_getElem (by omega)]; rfl)
  rw [List.getD_eq_getElem?_getD, hv]
  exact rv
theorem map_getD {α : Type} (items : List α) (d : α) : (List.range items.length).map (fun i => items.getD i d) = items := by
  apply List.ext_getElem
  · simp
  · intro i h1 h2
    simp [List.getD_eq_getElem?_getD, h2]

section
variable {X : Cx} {n : Nat} {τ : Store} {Q : D → Store → Prop}
/-- sorted of a list of (text, text) -/
theorem c_sortedP {d : D} {items : List (Str × Str)} (L : IsL τ d (items.map pairD)) (h64 : items.length < 64) (hnd : items.Nodup) (h : ∀ ss : List (Str × Str), ss.Perm items → SortP ss → Q (.list (ss.map pairD)) τ) :
    CallV X n (.builtin "sorted") [d] [] τ Q := .intro0 fun A s E vs R O r => by
  obtain ⟨_, _, rfl, a, r⟩ := r.inv
  obtain rfl := r.nil_inv
  obtain ⟨l, ws, k, rfl, hv, rs⟩ := L.at O a
  have hl : ws.length = items.length := by rw [rs.length, List.length_map]
  have W : WO (fun i j => ltSS (items.getD i ("", "")) (items.getD j ("", ""))) ws.length := ⟨fun h => ltSS_asym h, fun h k => leSS_trans h k, fun {a b} ha hb h k => by
    have e := leSS_anti k h
    have ha : a < items.length := hl ▸ ha
    have hb : b < items.length := hl ▸ hb
    rw [List.getD_eq_getElem?_getD, List.getD_eq_getElem?_getD, List.getElem?_eq_getElem ha, List.getElem?_eq_getElem hb] at e
    exact (List.getElem_inj hnd).mp e⟩
  obtain ⟨p, hgo, hsm, hp, hs⟩ : ∃ p, (2 ≤ ws.length → goT (fun i j => ltSS (items.getD i ("", "")) (items.getD j ("", ""))) ws.length (kas_sort ws.length) = some p) ∧ (ws.length < 2 → p = List.toArray (List.range ws.length)) ∧ PermR p ws.length ∧ ∀ i j, i ≤ j → j < ws.length → ltSS (items.getD (gA p j) ("", "")) (items.getD (gA p i) ("", "")) = false := by
    by_cases h2 : 2 ≤ ws.length
    · obtain ⟨p, a, b, c⟩ := goT_sort W (Nat.le_of_succ_le h2)
      exact ⟨p, fun _ => a, fun h => absurd h2 (Nat.not_le_of_lt h), b, c⟩
    · refine ⟨List.toArray (List.range ws.length), fun h => absurd h h2, fun _ => rfl, .refl _, fun i j hij hj => ?_⟩
      have h2 : j = 0 := Nat.lt_one_iff.mp (Nat.lt_of_lt_of_le hj (Nat.le_of_lt_succ (Nat.lt_of_not_le h2)))
      subst h2
      rw [Nat.le_zero.mp hij]
      exact W.irr _
  have hsz := hp.size
  refine tsorted (b := true) (p := p) ⟨_, hv, rfl, k, rfl⟩ (by omega) hsm (fun h2 h' keep => ?_) hgo hsz ?_
  · have rs' : RepAll X.C τ h' ws (items.map pairD) := rs.step (⟨fun b o e _ => keep b o e, fun _ k => .inl k⟩ : Steps τ s.heap τ h')
    obtain ⟨fs, t1, t2, t3⟩ := tups_SS rs'
    refine ⟨kat_kind (T := .type "str") (s := { s with heap := h' }) t1 (by omega) (fun v hv => ?_) (by rfl) ⟨rfl, ?_⟩, fun i j C hi hj hC => ?_⟩
    · obtain ⟨i, t, rfl⟩ := t3 v hv
      exact .now
    · rfl
    · exact lt_SS (s := { s with heap := h' }) (repAll_getP rs' hi) (repAll_getP rs' hj) hC
  · obtain ⟨e, he⟩ := sortedAll_at s.heap ws (List.toArray (p.toList.map fun i => ws.getD i Value.none))
    have keep : ∀ b o, s.heap.get? b = some o → (sortedAll s.heap ws (List.toArray (p.toList.map fun i => ws.getD i Value.none))).get? b = some o := fun b o q => sortedAll_old q
    have off : τ (s.heap.objs.size + 1) = none := O.freshOff (Nat.le_succ _)
    have rs2 : RepAll X.C τ (sortedAll s.heap ws (List.toArray (p.toList.map fun i => ws.getD i Value.none))) ws (items.map pairD) := rs.step (⟨fun b o e _ => keep b o e, fun _ k => .inl k⟩ : Steps τ s.heap τ _)
    have hin : ∀ i ∈ p.toList, i < ws.length := fun i hi => by
      have : i ∈ List.toArray (List.range ws.length) := hp.mem_iff.mp (Array.mem_toList_iff.mp hi)
      simpa using this
    have rall : ∀ l : List Nat, (∀ i ∈ l, i < ws.length) → RepAll X.C τ (sortedAll s.heap ws (List.toArray (p.toList.map fun i => ws.getD i Value.none))) (l.map fun i => ws.getD i Value.none) ((l.map fun i => items.getD i ("", "")).map pairD) := fun l => by
      induction l with
      | nil => exact fun _ => .nil
      | cons i l ih => exact fun h => .cons (repAll_getP rs2 (h i (.head _))) (ih fun j hj => h j (.tail _ hj))
    refine Post.kept O (h (p.toList.map fun i => items.getD i ("", "")) ?_ ?_) keep (.list (vs := p.toList.map fun i => ws.getD i Value.none) (n := e) off ?_ (rall _ hin)) rfl rfl
    · have h1 : p.toList.Perm (List.range ws.length) := by
        have := Array.perm_iff_toList_perm.mp hp
        simpa using this
      have h2 := h1.map fun i => items.getD i ("", "")
      rw [hl, map_getD] at h2
      exact h2
    · refine List.pairwise_iff_getElem.mpr fun i j hi hj hij => ?_
      simp only [List.length_map, Array.length_toList] at hi hj
      have := hs i j (Nat.le_of_lt hij) (by omega)
      simp only [List.getElem_map, Array.getElem_toList]
      have gi : gA p i = p[i] := by simp [gA, Array.getD_eq_getD_getElem?, hi]
      have gj : gA p j = p[j] := by simp [gA, Array.getD_eq_getD_getElem?, hj]
      rw [gi, gj] at this
      exact this
    · rw [he]
end
theorem sortP_unique {l r : List (Str × Str)} (p : l.Perm r) (hl : SortP l) (hr : SortP r) : l = r := by
  induction l generalizing r with
  | nil => exact (List.nil_perm.mp p).symm ▸ rfl
  | cons a l ih =>
    cases r with
    | nil => have := p.length_eq; simp at this
    | cons b r =>
      have e : a = b := by
        have h1 : a ∈ b :: r := p.subset (.head _)
        have h2 : b ∈ a :: l := p.symm.subset (.head _)
        rcases List.mem_cons.mp h1 with e | h1
        · exact e
        · rcases List.mem_cons.mp h2 with e | h2
          · exact e.symm
          · exact leSS_anti ((List.pairwise_cons.mp hl).1 b h2) ((List.pairwise_cons.mp hr).1 a h1)
      subst e
      rw [ih (p.cons_inv) (List.pairwise_cons.mp hl).2 (List.pairwise_cons.mp hr).2]
end

section
open PySem.Builtin

section
variable {X : Cx} {n : Nat} {sk : Sk} {env : Env} {ρ : Str → Option D} {τ : Store}

/-- a store to an item, or its end -/
noncomputable def Do3 (X : Cx) (n : Nat) (t : Value → Value → Value → Sem Unit) (a i v : D) (τ : Store) (P : Store → Prop) : Prop :=
  ∀ A s E va vi vv, Room n A → Ok X τ s.heap → Rep X.C τ s.heap va a → Rep X.C τ s.heap vi i → Rep X.C τ s.heap vv v → wpAny X.M A (t va vi vv) (fun _ s' => PostT X τ s (fun _ τ' => P τ') true s') E s
noncomputable def Do2 (X : Cx) (n : Nat) (t : Value → Value → Sem Unit) (a i : D) (τ : Store) (P : Store → Prop) : Prop :=
  ∀ A s E va vi, Room n A → Ok X τ s.heap → Rep X.C τ s.heap va a → Rep X.C τ s.heap vi i → wpAny X.M A (t va vi) (fun _ s' => PostT X τ s (fun _ τ' => P τ') true s') E s

theorem ex_setSub {o i value : Expr} {p' pos : Pos} {QS : Fl → (Str → Option D) → Store → Prop} (h : Ev X n sk ρ τ value (fun dv τ₁ => Ev X n sk ρ τ₁ o (fun da τ₂ => Ev X n sk ρ τ₂ i (fun di τ₃ => Do3 X n setItem da di dv τ₃ (fun τ₄ => QS .next ρ τ₄))))) :
    Ex1 X n sk ρ τ (.Assign [.Subscript o i p'] value pos) QS := fun env A s E R O F => by
  rw [exec_Assign_Subscript _ _ _ _ _ (by cases value <;> rfl)]
  refine wpAny_bind (wpAny_standAt (wpAny_bind (h.then R O F fun vv s₁ dv τ₁ q rv O₁ F₁ S₁ o₁ g₁ => ?_)))
  rw [assign_Subscript]
  refine wpAny_bind (wpAny_bind (wpAny_holding (q.then R O₁ F₁ fun va s₂ da τ₂ q ra O₂ F₂ S₂ o₂ g₂ => ?_)))
  refine wpAny_bind (wpAny_holding (q.then R O₂ F₂ fun vi s₃ di τ₃ q ri O₃ F₃ S₃ o₃ g₃ => ?_))
  refine wpAny_bind (wpAny_standAt (wpAny_bind (wpAny_holding (wpAny_mono (q A s₃ E va vi vv R O₃ (ra.step S₃) ri (rv.step (S₂.trans S₃))) (fun _ s₄ P => ?_) fun _ _ e => e))))
  obtain ⟨τ₄, q, O₄, S₄, o₄, g₄⟩ := P
  exact wpAny_release (wpAny_pure ⟨.next, ρ, τ₄, q, trivial, O₄, F₃.step S₄, ((S₁.trans S₂).trans (S₃.trans S₄)).toF, ((o₄.trans o₃).trans (o₂.trans o₁)), ((g₄.trans g₃).trans (g₂.trans g₁))⟩)

theorem ex_delSub {o i : Expr} {p' pos : Pos} {QS : Fl → (Str → Option D) → Store → Prop} (h : Ev X n sk ρ τ o (fun da τ₂ => Ev X n sk ρ τ₂ i (fun di τ₃ => Do2 X n delItem da di τ₃ (fun τ₄ => QS .next ρ τ₄)))) :
    Ex1 X n sk ρ τ (.Delete [.Subscript o i p'] pos) QS := fun env A s E R O F => by
  refine wpAny_Delete (wpAny_deleteEach_cons (wpAny_delete_Subscript (h.then R O F fun va s₂ da τ₂ q ra O₂ F₂ S₂ o₂ g₂ => ?_)))
  refine q.then R O₂ F₂ fun vi s₃ di τ₃ q ri O₃ F₃ S₃ o₃ g₃ => ?_
  refine wpAny_mono (q A s₃ E va vi R O₃ (ra.step S₃) ri) (fun _ s₄ P => ?_) fun _ _ e => e
  obtain ⟨τ₄, q, O₄, S₄, o₄, g₄⟩ := P
  exact wpAny_deleteEach_nil ⟨.next, ρ, τ₄, q, trivial, O₄, F₃.step S₄, (S₂.trans (S₃.trans S₄)).toF, ((o₄.trans o₃).trans o₂), ((g₄.trans g₃).trans g₂)⟩

theorem set_hdrI {x l f : Addr} {i v : D} {P : Store → Prop} (hq : noSeq X.K X.C = true) (hs : findIn X.K (.ref X.C) "__setitem__" = some (some (.ref f))) (hf : isFn X.K (.ref f) = true)
    (h : CallV X n (.ref f) [.hdr x l, i, v] [] τ (fun _ τ' => P τ')) : Do3 X n setItem (.hdr x l) i v τ P := fun A s E va vi vv R O ra ri rv => by
  obtain ⟨rfl, dx, m, hs', t, I⟩ := instAt_of ra
  unfold setItem sequenceKey
  refine wpAny_holding (wpAny_bind (wpAny_bind (I.type.here ?_)))
  refine wpAny_bind ((anyM_none O.inK hq).here ?_)
  rw [if_pos (show (!false) = true from rfl)]
  refine wpAny_pure (wpAny_bind (special_fn O.inK I hs (beq_iff_eq.mp hf) (wpAny_mono (h A s E [.ref x, vi, vv] [] R O (.cons ra (.cons ri (.cons rv .nil))) .nil) (fun _ s' P => ?_) fun _ _ z => z)))
  obtain ⟨d, τ', q, r, O', S', o', g'⟩ := P
  exact wpAny_pure ⟨τ', q, O', S', o', g'⟩
theorem del_hdrI {x l f : Addr} {i : D} {P : Store → Prop} (hq : noSeq X.K X.C = true) (hs : findIn X.K (.ref X.C) "__delitem__" = some (some (.ref f))) (hf : isFn X.K (.ref f) = true)
    (h : CallV X n (.ref f) [.hdr x l, i] [] τ (fun _ τ' => P τ')) : Do2 X n delItem (.hdr x l) i τ P := fun A s E va vi R O ra ri => by
  obtain ⟨rfl, dx, m, hs', t, I⟩ := instAt_of ra
  unfold delItem sequenceKey
  refine wpAny_holding (wpAny_bind (wpAny_bind (I.type.here ?_)))
  refine wpAny_bind ((anyM_none O.inK hq).here ?_)
  rw [if_pos (show (!false) = true from rfl)]
  refine wpAny_pure (wpAny_bind (special_fn O.inK I hs (beq_iff_eq.mp hf) (wpAny_mono (h A s E [.ref x, vi] [] R O (.cons ra (.cons ri .nil)) .nil) (fun _ s' P => ?_) fun _ _ z => z)))
  obtain ⟨d, τ', q, r, O', S', o', g'⟩ := P
  exact wpAny_pure ⟨τ', q, O', S', o', g'⟩

/-- l[:] = a list that is done -/
theorem set_all {l : Addr} {ds es : List D} {P : Store → Prop} (hl : τ l = some ds) (hd : ds.length ≤ 100000) (hs : es.length ≤ 100000) (h : P (put τ l es)) : Do3 X n setItem (.own l) (.slc none none none) (.list es) τ P := fun A s E va vi vv R O ra ri rv => by
  obtain rfl := ra.own_inv
  obtain ⟨vs, k, hv, rs⟩ := O.store l ds hl
  obtain ⟨sl, pl, pu, pk, rfl, osl, esl, hpl, hpu, hpk⟩ := ri.inv
  obtain ⟨b, ws, m, rfl, ob, eb, rw'⟩ := rv.inv
  have hT : s.TypeIs (.ref l) "list" := ⟨_, hv, rfl⟩
  have hTs : s.TypeIs (.ref sl) "slice" := ⟨_, esl, rfl⟩
  have hTb : s.TypeIs (.ref b) "list" := ⟨_, eb, rfl⟩
  have hbl : (l == b) = false := beq_eq_false_iff_ne.mpr fun e => by subst e; rw [hl] at ob; cases ob
  have hsz1 : vs.length ≤ 100000 := by rw [rs.length]; exact hd
  have hsz2 : ws.length ≤ 100000 := by rw [rw'.length]; exact hs
  unfold setItem
  refine wpAny_holding (wpAny_bind (wpAny_sequenceKey hT (by decide) ?_))
  refine wpAny_bind (wpAny_callSpecial?_slot (name := Str.ofString "__setitem__") hT slot_list_setitem (wpAny_call_entry slot_list_setitem hT entry_list_setitem ?_ (args_list_setitem _ _ _)))
  unfold Builtin.«list.__setitem__»
  refine wpAny_bind (m := List.listBlankSlotArgs _ _ _) (wpAny_pure ?_)
  show wpAny _ _ (List.listSubscript? (.ref sl) >>= _) _ _ s
  refine wpAny_bind ?_
  unfold List.listSubscript?
  refine wpAny_bind (wpAny_specialOf hTs slice_no_index ?_)
  simp only [Option.isNone_none, if_true]
  refine wpAny_pure ?_
  show wpAny _ _ (typeOf (.ref sl) >>= _) _ _ s
  refine wpAny_bind (wpAny_typeOf hTs ?_)
  rw [if_neg (by decide)]
  rw [listSliceParts_eq]
  refine wpAny_bind (wpAny_bind (wpAny_field esl rfl (x := pk) rfl (wpAny_bind (wpAny_listPart hpk ?_))))
  rw [if_neg (by exact Bool.false_ne_true)]
  refine wpAny_bind (wpAny_field esl rfl (x := pl) rfl (wpAny_bind (wpAny_listPart hpl ?_)))
  refine wpAny_bind (wpAny_field esl rfl (x := pu) rfl (wpAny_bind (wpAny_listPart hpu (wpAny_pure ?_))))
  have e0 : List.listSameRef (.ref l) (.ref b) = false := hbl
  dsimp only
  rw [e0, if_neg Bool.false_ne_true]
  refine wpAny_bind (m := List.listAllItems _ _) ?_
  unfold List.listAllItems
  refine wpAny_bind (wpAny_typeOf hTb ?_)
  rw [if_pos (by rfl)]
  refine wpAny_bind (wpAny_seqItems eb rfl (wpAny_pure ?_))
  refine wpAny_bind (listItems_at hv rfl ?_)
  refine wpAny_bind (wpAny_of_eq (sliceIndices_raw none none none vs.toArray.size (fun e => nomatch e)) ?_)
  have eb0 : sliceBounds none none none vs.toArray.size = (0, (vs.length : Int), 1) := by simp [sliceBounds]
  rw [eb0]
  dsimp only
  rw [if_pos (by rfl)]
  refine wpAny_bind (wpAny_rule ?_)
  rw [if_neg (by unfold List.listTooLong; rw [sizeLine_eq]; simp; omega)]
  refine wpAny_bind (listUpdate_at hv rfl ?_ (by rw [List.size_toArray, sizeLine_eq]; omega) (by rw [sizeLine_eq]; simp; omega))
  refine wpAny_bind (wpAny_letGo ?_)
  refine wpAny_pure ⟨_, rfl, wpAny_pure ?_⟩
  obtain ⟨e1, he⟩ : ∃ e1, (s.heap.update l (Obj.mapSeq fun xs => xs.extract 0 (0 : Int).toNat ++ ws.toArray ++ xs.extract (max 0 (vs.length : Int)).toNat)).get? l = some (lstO ws e1) := ⟨_, (get?_update_seq hv _).trans (by
    congr 2
    have : (max 0 (vs.length : Int)).toNat = vs.length := by omega
    rw [this]
    simp)⟩
  obtain ⟨O', S'⟩ := O.lay hl (Heap.SameBut.update ..) he rw'
  exact ⟨_, h, O', S', rfl, rfl⟩
end
end

section
open PySem.Builtin

section
variable {X : Cx} {n : Nat} {sk : Sk} {env : Env} {ρ : Str → Option D} {τ : Store} {Q : D → Store → Prop}
/-- a loop over the items of a dict that is empty -/
theorem for_items0 {x : Str} {a : Addr} {p1 ap pos pos' : Pos} {tgt : Expr} {body : List Stmt} {QS : Fl → (Str → Option D) → Store → Prop} {A : Around} {s : Shared} {E : Value → Shared → Prop} (hx : sk x = .loc) (hdb : (x == ("__debug__" : Str)) = false) (hr : ρ x = some (.val (.ref a)))
    (R : Room n A) (O : Ok X τ s.heap) (F : FrameOk X sk env ρ τ s.heap) (ha : s.heap.get? a = some emptyDict) (hs : (a == sysModules) = false) (q : QS .next ρ τ) {pl : Sem Bool}
    (he : eval (.Call (.Attribute (.Name x p1) "items" ap) [] [] pos) env = (do
      let ov ← eval (.Name x p1) env
      standAt ap.atName
      let (f, first) ← holding [ov] (getMethod ov "items" pl)
      callWith pos f first (backTo pos (starEach [] env)) [])) :
    wpAny X.M A (exec (.For tgt (.Call (.Attribute (.Name x p1) "items" ap) [] [] pos) body [] pos') env) (PostS X sk env τ s QS) E s := by
  have hm : s.heap.DictOf (PySem.strKind X.prog X.w) a [] := ⟨_, _, _, ha, ⟨rfl, rfl, rfl⟩, rfl, by simp [PySem.KeysOf], .nil, by simp⟩
  refine wpAny_For (MethodCall_ ?_ he) (folded_not rfl env)
  have st := F.stat x
  rw [hx] at st
  obtain ⟨m, hn, _, hmm⟩ := F.ns
  obtain ⟨v, hv, r⟩ := hmm x _ hr hx
  obtain rfl := r.val_inv
  refine wpAny_Name (wpAny_loadName_local F.kind st hn hv ?_) hdb
  refine getMethod_builtin hm.typeIs PySem.F.plainAttrs_dict PySem.F.slot_dict_items PySem.F.type_dict_items hm.mapOf.noDict ?_
  refine callWith_method0 (call_meetsIn PySem.F.slot_dict_items hm.typeIs PySem.F.entry_dict_items (PySem.F.args_dict_items_1 _) (meets_dict_items (PySem.strKind X.prog X.w) a hs) ⟨⟨_, hm⟩, ?_⟩)
  have hv1 : (s.heap.push { cls := .type "dict_items", data := .fields #[.ref a] }).IsItemsView s.heap.objs.size a := ⟨_, Heap.get?_push_size _ rfl, rfl, rfl⟩
  have keep1 : ∀ b o, s.heap.get? b = some o → (s.heap.push { cls := .type "dict_items", data := .fields #[.ref a] }).get? b = some o := fun b o e => Heap.get?_push_of_some _ e
  have at1 : (s.heap.push { cls := .type "dict_items", data := .fields #[.ref a] }).DictAt (PySem.strKind X.prog X.w) a [] 0 := ⟨_, _, keep1 _ _ ha, ⟨rfl, rfl, rfl⟩, rfl, by simp [PySem.KeysOf], .nil, by simp⟩
  generalize s.heap.push { cls := .type "dict_items", data := .fields #[.ref a] } = h1 at hv1 keep1 at1
  refine wpAny_pyIter_items (s := { s with heap := h1 }) hv1 at1 ?_
  have at2 := at1.push { cls := .type "dict_itemiterator", data := .fields #[.none, .bool false, .ref a, .int 0 0, .int 0 0, .int 0 0, .none, .none] }
  have it2 : IsItemIter (h1.push { cls := .type "dict_itemiterator", data := .fields #[.none, .bool false, .ref a, .int 0 0, .int 0 0, .int 0 0, .none, .none] }) h1.objs.size a 0 0 0 .none .none := Heap.get?_push_size _ rfl
  have keep2 : ∀ b o, h1.get? b = some o → b ≠ h1.objs.size ∧ (h1.push { cls := .type "dict_itemiterator", data := .fields #[.none, .bool false, .ref a, .int 0 0, .int 0 0, .int 0 0, .none, .none] }).get? b = some o := fun b o e => ⟨Nat.ne_of_lt (Heap.lt_size e), Heap.get?_push_of_some _ e⟩
  show codeAny _ _ _ _ { s with heap := h1.push { cls := .type "dict_itemiterator", data := .fields #[.none, .bool false, .ref a, .int 0 0, .int 0 0, .int 0 0, .none, .none] } }
  generalize h1.push { cls := .type "dict_itemiterator", data := .fields #[.none, .bool false, .ref a, .int 0 0, .int 0 0, .int 0 0, .none, .none] } = h2 at at2 it2 keep2
  refine codeAny_forLoop_any (fun _ s' => s' = { s with heap := h2 }) ?_ 0 rfl
  rintro _ _ rfl
  refine wpAny_pyNext_items_end (s := { s with heap := h2 }) R.hd it2 at2 rfl fun h3 hx => wpAny_execs_nil ?_
  have keep : ∀ b o, s.heap.get? b = some o → h3.get? b = some o := fun b o e => by
    obtain ⟨n1, e1⟩ := keep2 b o (keep1 b o e)
    exact hx b o n1 e1
  have S : Steps τ s.heap τ h3 := ⟨fun b o e _ => keep b o e, fun _ k => .inl k⟩
  exact ⟨.next, ρ, τ, q, trivial, O.keeps keep, F.step S, S.toF, rfl, rfl⟩
theorem execs_for0 {x : Str} {a : Addr} {p1 ap pos pos' : Pos} {tgt : Expr} {body rest : List Stmt} {QS : Fl → (Str → Option D) → Store → Prop} {A : Around} {s : Shared} {E : Value → Shared → Prop} (hx : sk x = .loc) (hdb : (x == ("__debug__" : Str)) = false) (hr : ρ x = some (.val (.ref a)))
    (R : Room n A) (O : Ok X τ s.heap) (F : FrameOk X sk env ρ τ s.heap) (ha : s.heap.get? a = some emptyDict) (hs : (a == sysModules) = false) {pl : Sem Bool}
    (he : eval (.Call (.Attribute (.Name x p1) "items" ap) [] [] pos) env = (do
      let ov ← eval (.Name x p1) env
      standAt ap.atName
      let (f, first) ← holding [ov] (getMethod ov "items" pl)
      callWith pos f first (backTo pos (starEach [] env)) [])) (q : Ex X n sk ρ τ rest QS) :
    wpAny X.M A (execs (.For tgt (.Call (.Attribute (.Name x p1) "items" ap) [] [] pos) body [] pos' :: rest) env) (PostS X sk env τ s QS) E s := by
  refine wpAny_execs_cons (wpAny_mono (for_items0 (QS := fun fl ρ' τ' => fl = .next ∧ ρ' = ρ ∧ τ' = τ) hx hdb hr R O F ha hs ⟨rfl, rfl, rfl⟩ he) (fun f s₁ P => ?_) fun _ _ e => e)
  obtain ⟨fl, ρ', τ', ⟨rfl, rfl, rfl⟩, fr, O', F', S', o', g'⟩ := P
  cases f <;> first | exact fr.elim | skip
  exact wpAny_mono (q env A s₁ E R O' F') (fun _ _ P => P.trans F' S' o' g') fun _ _ e => e

theorem execs_pre0 {x : Str} {a : Addr} {p1 ap pos pos' : Pos} {tgt : Expr} {all pre body rest : List Stmt} {QS : Fl → (Str → Option D) → Store → Prop} {A : Around} {s : Shared} {E : Value → Shared → Prop} (hbody : all = pre ++ .For tgt (.Call (.Attribute (.Name x p1) "items" ap) [] [] pos) body [] pos' :: rest)
    (hx : sk x = .loc) (hdb : (x == ("__debug__" : Str)) = false) {pl : Sem Bool}
    (he : eval (.Call (.Attribute (.Name x p1) "items" ap) [] [] pos) env = (do
      let ov ← eval (.Name x p1) env
      standAt ap.atName
      let (f, first) ← holding [ov] (getMethod ov "items" pl)
      callWith pos f first (backTo pos (starEach [] env)) [])) (R : Room n A) (O : Ok X τ s.heap) (F : FrameOk X sk env ρ τ s.heap) (ha : s.heap.get? a = some emptyDict) (ta : τ a = none) (na : ¬ InFr env a) (hs : (a == sysModules) = false)
    (h : Ex X n sk ρ τ pre (fun fl ρ₁ τ₁ => fl = .next ∧ ρ₁ x = some (.val (.ref a)) ∧ Ex X n sk ρ₁ τ₁ rest QS)) : wpAny X.M A (execs all env) (PostS X sk env τ s QS) E s := by
  rw [hbody, execs_app]
  refine wpAny_bind (wpAny_mono (h env A s E R O F) (fun f s₁ P => ?_) fun _ _ e => e)
  obtain ⟨fl, ρ₁, τ₁, ⟨rfl, hr, q⟩, fr, O₁, F₁, S₁, o₁, g₁⟩ := P
  cases f <;> first | exact fr.elim | skip
  exact wpAny_mono (execs_for0 hx hdb hr R O₁ F₁ (S₁.keep _ _ ha ta na) hs he q) (fun _ _ P => P.trans F₁ S₁ o₁ g₁) fun _ _ e => e

/-- what a def's body leaves, seen from the call -/
theorem PostS.out {Q : D → Store → Prop} {s s₀ : Shared} {f : Flow} {s₃ : Shared} (keep : ∀ b o, s.heap.get? b = some o → s₀.heap.get? b = some o) (ni : ∀ b, InFr env b → s.heap.get? b = none) (o : s₀.os = s.os) (g : s₀.gens = s.gens)
    (P : PostS X sk env τ s₀ (RetQ Q) f s₃) : Post X τ s Q (match f with | .ret v => v | _ => .none) s₃ := by
  obtain ⟨fl, ρ', τ', q, fr, O', F', S', o', g'⟩ := P
  have S : Steps τ s.heap τ' s₃.heap := ⟨fun b o e k => S'.keep b o (keep b o e) k (fun i => by rw [ni b i] at e; cases e), fun b k => by
    rcases S'.doms b k with r | r
    · exact .inl r
    · cases p : s.heap.get? b with
      | none => exact .inr rfl
      | some o => rw [keep b o p] at r; cases r⟩
  cases f <;> cases fl <;> first | exact fr.elim | exact q.elim | skip
  · exact ⟨.none, τ', q, .none, O', S, o'.trans o, g'.trans g⟩
  · exact ⟨_, τ', q, fr, O', S, o'.trans o, g'.trans g⟩
theorem bindV_4 {fd : FuncData} {d₁ d₂ d₃ d₄ : D} {x y z u : Str} (h : ∀ S a b c d, peek X.K S (bindArgs fd ⟨[a, b, c, d], []⟩) = some [(x, a), (y, b), (z, c), (u, d)]) : BindV X fd [d₁, d₂, d₃, d₄] [] τ [(x, d₁), (y, d₂), (z, d₃), (u, d₄)] := fun A s E vs ws Q O r q hq => by
  obtain ⟨_, _, rfl, a, r⟩ := r.inv
  obtain ⟨_, _, rfl, b, r⟩ := r.inv
  obtain ⟨_, _, rfl, c, r⟩ := r.inv
  obtain ⟨_, _, rfl, d, r⟩ := r.inv
  obtain rfl := r.nil_inv; obtain rfl := q.nil_inv
  exact kp_binds (K := X.K) O.inK (fun S => h S _ _ _ _) _ _ _ _ (hq _ s.heap s.toks (.cons a (.cons b (.cons c (.cons d .nil)))) fun b o e => e)
end
end

section
set_option maxHeartbeats 8000000
open_top hd for PySem.Challenge.rw_ta0032_02
end

noncomputable section
local macro_rules | `(tactic| walk_at "lk") => `(tactic| (repeat (first | exact upd_same | assumption | refine (upd_ne (by decide +kernel)).trans ?_)))
local macro_rules | `(tactic| walk_at "var") => `(tactic| refine ev_var (by walk_at "lk") (by decide +kernel) ?_)

noncomputable def F62 : FuncData := fnAt (hd.heap_39 ps0) 62
theorem fn62 (ps) : fnAt (hd.heap_39 ps) 62 = F62 := by kernel_rfl
theorem ok62 (ps) : fnOk (hd.heap_39 ps) 62 F62 = true := by kernel_rfl

theorem g_abs (ps) : nsIn (hd.heap_39 ps) mainGlobals "abs" = some none := by kernel_rfl
theorem call_abs {X : Cx} {ps : PySem.Params} {n : Nat} {sk : Sk} {ρ : Str → Option D} {τ : Store} {Q : D → Store → Prop} {p pos : Pos} {args : List Expr} {kws : List Keyword} (hK : X.K = hd.heap_39 ps) (ha : plainArgs args = true) (hw : plainKws kws = true) (hk : globOk sk "abs" = true)
    (h : Evs X n sk ρ τ args (fun ds τ₁ => Kws X n sk ρ τ₁ kws (fun ks τ₂ => (kwNames kws).length = ks.length ∧ CallV X n (.builtin "abs") ds ((kwNames kws).zip ks) τ₂ Q))) : Ev X n sk ρ τ (.Call (.Name "abs" p) args kws pos) Q :=
  ev_call ha hw (fun h => ev_bui (by rw [hK]; exact g_abs ps) (by kernel_rfl) hk h) (keepable_builtin _) h
theorem g_int (ps) : nsIn (hd.heap_39 ps) mainGlobals "int" = some none := by kernel_rfl
theorem call_int {X : Cx} {ps : PySem.Params} {n : Nat} {sk : Sk} {ρ : Str → Option D} {τ : Store} {Q : D → Store → Prop} {p pos : Pos} {args : List Expr} {kws : List Keyword} (hK : X.K = hd.heap_39 ps) (ha : plainArgs args = true) (hw : plainKws kws = true) (hk : globOk sk "int" = true)
    (h : Evs X n sk ρ τ args (fun ds τ₁ => Kws X n sk ρ τ₁ kws (fun ks τ₂ => (kwNames kws).length = ks.length ∧ CallV X n (.type "int") ds ((kwNames kws).zip ks) τ₂ Q))) : Ev X n sk ρ τ (.Call (.Name "int" p) args kws pos) Q :=
  ev_call ha hw (fun h => ev_bui (by rw [hK]; exact g_int ps) (by kernel_rfl) hk h) (keepable_type _) h
theorem g_divmod (ps) : nsIn (hd.heap_39 ps) mainGlobals "divmod" = some none := by kernel_rfl
theorem call_divmod {X : Cx} {ps : PySem.Params} {n : Nat} {sk : Sk} {ρ : Str → Option D} {τ : Store} {Q : D → Store → Prop} {p pos : Pos} {args : List Expr} {kws : List Keyword} (hK : X.K = hd.heap_39 ps) (ha : plainArgs args = true) (hw : plainKws kws = true) (hk : globOk sk "divmod" = true)
    (h : Evs X n sk ρ τ args (fun ds τ₁ => Kws X n sk ρ τ₁ kws (fun ks τ₂ => (kwNames kws).length = ks.length ∧ CallV X n (.builtin "divmod") ds ((kwNames kws).zip ks) τ₂ Q))) : Ev X n sk ρ τ (.Call (.Name "divmod" p) args kws pos) Q :=
  ev_call ha hw (fun h => ev_bui (by rw [hK]; exact g_divmod ps) (by kernel_rfl) hk h) (keepable_builtin _) h
theorem g_sum (ps) : nsIn (hd.heap_39 ps) mainGlobals "sum" = some none := by kernel_rfl
theorem call_sum {X : Cx} {ps : PySem.Params} {n : Nat} {sk : Sk} {ρ : Str → Option D} {τ : Store} {Q : D → Store → Prop} {p pos : Pos} {args : List Expr} {kws : List Keyword} (hK : X.K = hd.heap_39 ps) (ha : plainArgs args = true) (hw : plainKws kws = true) (hk : globOk sk "sum" = true)
    (h : Evs X n sk ρ τ args (fun ds τ₁ => Kws X n sk ρ τ₁ kws (fun ks τ₂ => (kwNames kws).length = ks.length ∧ CallV X n (.builtin "sum") ds ((kwNames kws).zip ks) τ₂ Q))) : Ev X n sk ρ τ (.Call (.Name "sum" p) args kws pos) Q :=
  ev_call ha hw (fun h => ev_bui (by rw [hK]; exact g_sum ps) (by kernel_rfl) hk h) (keepable_builtin _) h
theorem g_range (ps) : nsIn (hd.heap_39 ps) mainGlobals "range" = some none := by kernel_rfl
theorem call_range {X : Cx} {ps : PySem.Params} {n : Nat} {sk : Sk} {ρ : Str → Option D} {τ : Store} {Q : D → Store → Prop} {p pos : Pos} {args : List Expr} {kws : List Keyword} (hK : X.K = hd.heap_39 ps) (ha : plainArgs args = true) (hw : plainKws kws = true) (hk : globOk sk "range" = true)
    (h : Evs X n sk ρ τ args (fun ds τ₁ => Kws X n sk ρ τ₁ kws (fun ks τ₂ => (kwNames kws).length = ks.length ∧ CallV X n (.type "range") ds ((kwNames kws).zip ks) τ₂ Q))) : Ev X n sk ρ τ (.Call (.Name "range" p) args kws pos) Q :=
  ev_call ha hw (fun h => ev_bui (by rw [hK]; exact g_range ps) (by kernel_rfl) hk h) (keepable_type _) h
theorem g_len (ps) : nsIn (hd.heap_39 ps) mainGlobals "len" = some none := by kernel_rfl
theorem call_len {X : Cx} {ps : PySem.Params} {n : Nat} {sk : Sk} {ρ : Str → Option D} {τ : Store} {Q : D → Store → Prop} {p pos : Pos} {args : List Expr} {kws : List Keyword} (hK : X.K = hd.heap_39 ps) (ha : plainArgs args = true) (hw : plainKws kws = true) (hk : globOk sk "len" = true)
    (h : Evs X n sk ρ τ args (fun ds τ₁ => Kws X n sk ρ τ₁ kws (fun ks τ₂ => (kwNames kws).length = ks.length ∧ CallV X n (.builtin "len") ds ((kwNames kws).zip ks) τ₂ Q))) : Ev X n sk ρ τ (.Call (.Name "len" p) args kws pos) Q :=
  ev_call ha hw (fun h => ev_bui (by rw [hK]; exact g_len ps) (by kernel_rfl) hk h) (keepable_builtin _) h
theorem g_sorted (ps) : nsIn (hd.heap_39 ps) mainGlobals "sorted" = some none := by kernel_rfl
theorem call_sorted {X : Cx} {ps : PySem.Params} {n : Nat} {sk : Sk} {ρ : Str → Option D} {τ : Store} {Q : D → Store → Prop} {p pos : Pos} {args : List Expr} {kws : List Keyword} (hK : X.K = hd.heap_39 ps) (ha : plainArgs args = true) (hw : plainKws kws = true) (hk : globOk sk "sorted" = true)
    (h : Evs X n sk ρ τ args (fun ds τ₁ => Kws X n sk ρ τ₁ kws (fun ks τ₂ => (kwNames kws).length = ks.length ∧ CallV X n (.builtin "sorted") ds ((kwNames kws).zip ks) τ₂ Q))) : Ev X n sk ρ τ (.Call (.Name "sorted" p) args kws pos) Q :=
  ev_call ha hw (fun h => ev_bui (by rw [hK]; exact g_sorted ps) (by kernel_rfl) hk h) (keepable_builtin _) h
theorem g_tuple (ps) : nsIn (hd.heap_39 ps) mainGlobals "tuple" = some none := by kernel_rfl
theorem call_tuple {X : Cx} {ps : PySem.Params} {n : Nat} {sk : Sk} {ρ : Str → Option D} {τ : Store} {Q : D → Store → Prop} {p pos : Pos} {args : List Expr} {kws : List Keyword} (hK : X.K = hd.heap_39 ps) (ha : plainArgs args = true) (hw : plainKws kws = true) (hk : globOk sk "tuple" = true)
    (h : Evs X n sk ρ τ args (fun ds τ₁ => Kws X n sk ρ τ₁ kws (fun ks τ₂ => (kwNames kws).length = ks.length ∧ CallV X n (.type "tuple") ds ((kwNames kws).zip ks) τ₂ Q))) : Ev X n sk ρ τ (.Call (.Name "tuple" p) args kws pos) Q :=
  ev_call ha hw (fun h => ev_bui (by rw [hK]; exact g_tuple ps) (by kernel_rfl) hk h) (keepable_type _) h
theorem g_str (ps) : nsIn (hd.heap_39 ps) mainGlobals "str" = some none := by kernel_rfl
theorem call_str {X : Cx} {ps : PySem.Params} {n : Nat} {sk : Sk} {ρ : Str → Option D} {τ : Store} {Q : D → Store → Prop} {p pos : Pos} {args : List Expr} {kws : List Keyword} (hK : X.K = hd.heap_39 ps) (ha : plainArgs args = true) (hw : plainKws kws = true) (hk : globOk sk "str" = true)
    (h : Evs X n sk ρ τ args (fun ds τ₁ => Kws X n sk ρ τ₁ kws (fun ks τ₂ => (kwNames kws).length = ks.length ∧ CallV X n (.type "str") ds ((kwNames kws).zip ks) τ₂ Q))) : Ev X n sk ρ τ (.Call (.Name "str" p) args kws pos) Q :=
  ev_call ha hw (fun h => ev_bui (by rw [hK]; exact g_str ps) (by kernel_rfl) hk h) (keepable_type _) h
theorem g_type (ps) : nsIn (hd.heap_39 ps) mainGlobals "type" = some none := by kernel_rfl
theorem call_type {X : Cx} {ps : PySem.Params} {n : Nat} {sk : Sk} {ρ : Str → Option D} {τ : Store} {Q : D → Store → Prop} {p pos : Pos} {args : List Expr} {kws : List Keyword} (hK : X.K = hd.heap_39 ps) (ha : plainArgs args = true) (hw : plainKws kws = true) (hk : globOk sk "type" = true)
    (h : Evs X n sk ρ τ args (fun ds τ₁ => Kws X n sk ρ τ₁ kws (fun ks τ₂ => (kwNames kws).length = ks.length ∧ CallV X n (.type "type") ds ((kwNames kws).zip ks) τ₂ Q))) : Ev X n sk ρ τ (.Call (.Name "type" p) args kws pos) Q :=
  ev_call ha hw (fun h => ev_bui (by rw [hK]; exact g_type ps) (by kernel_rfl) hk h) (keepable_type _) h
end

noncomputable section
open RX

section
variable {X : Cx} {n : Nat} {sk : Sk} {ρ : Str → Option D} {τ : Store}
noncomputable def OInt (d : D) (τ : Store) (Q : Option Int → Store → Prop) : Prop := ∃ i, d = .int i ∧ Q (some i) τ
theorem evo_some {e : Expr} {Q : Option Int → Store → Prop} (h : Ev X n sk ρ τ e (fun d τ₁ => OInt d τ₁ Q)) : EvO X n sk ρ τ (some e) Q := h
theorem evo_none {Q : Option Int → Store → Prop} (h : Q none τ) : EvO X n sk ρ τ none Q := h
/-- the body of a loop, with what stands behind it out of sight -/
theorem body_gen {QS : Fl → (Str → Option D) → Store → Prop} {body : List Stmt} {next : (Str → Option D) → Store → Prop} (h : ∀ QB : Fl → (Str → Option D) → Store → Prop, (∀ ρ' τ', next ρ' τ' → QB .next ρ' τ') → Ex X n sk ρ τ body QB) : Ex X n sk ρ τ body (BodyQ next QS) :=
  h _ fun _ _ q => body_next q
theorem oint {i : Int} {Q : Option Int → Store → Prop} (h : Q (some i) τ) : OInt (.int i) τ Q := ⟨i, rfl, h⟩
end
/-- rules in a row: a name, and behind / a letter for each of its places -/
def alts (s : String) : Lean.MacroM (Array (Lean.TSyntax `tactic)) := do
  let k ← `(by kernel_rfl)
  let a ← `(by assumption)
  let d ← `(by decide +kernel)
  let r ← `(by with_unfolding_all rfl)
  let l ← `(by walk_at "lk")
  let i ← `(by intro _; with_unfolding_all rfl)
  let u ← `(by with_unfolding_all decide)
  let q ← `(?_)
  (s.splitOn " ").toArray.mapM fun w => do
    let p := w.splitOn "/"
    let z := p.getD 1 ""
    let as := (if z.contains '?' then z else z.push '?').toList.toArray.map fun c =>
      if c == 'k' then k else if c == 'a' then a else if c == 'd' then d else if c == 'r' then r else if c == 'l' then l else if c == 'i' then i else if c == 'u' then u else q
    `(tactic| refine $(Lean.mkIdent (Lean.Name.mkSimple (p.getD 0 ""))) $as*)
def firstOf (s : String) : Lean.MacroM (Lean.TSyntax `tactic) := do
  let as ← alts s
  `(tactic| with_reducible first $[| $as:tactic]*)
local macro_rules | `(tactic| walk_at "lk") => `(tactic| (repeat (first | exact upd_same | assumption | refine (upd_ne (by decide +kernel)).trans ?_ | refine (inner_at (by kernel_rfl)).trans ?_)))
local macro_rules | `(tactic| walk_at "ev") => firstOf "valq testq ev_int ev_str ev_none ev_bool ev_bytes ev_var/lk evs_cons/?i evs_nil kw0 kw1 evo_some oint evo_none t2_sliceB/u ev_bin ev_cmp/?k ev_sub ev_slice ev_un ev_ifexp ev_methP/kkkik m_join m_lower m_upper m_lstrip m_split m_decode m_append/a ev_compP/kk tst_name tst_call tst_cmp/?k call_abs/akkk call_int/akkk call_divmod/akkk call_sum/akkk call_range/akkk call_len/akkk t2_add t2_sub c_abs c_int c_range1 c_range2 t2_mod/u t2_div/uu t2_eq t2_ne t2_lt t2_le t2_gt t2_ge t2_eqs t2_nes t1_neg tr_int tr_bool tr_none"
local macro_rules | `(tactic| walk_at "ev") => `(tactic| with_reducible first | refine ⟨by with_unfolding_all exact trivial, ?_⟩ | refine ⟨by with_unfolding_all rfl, ?_⟩)
local macro_rules | `(tactic| walk_at "go") => `(tactic| repeat (walk_at "ev"))
local macro_rules | `(tactic| walk_at "st") => firstOf "ex_seq seq_next seq_ret seq_brk seq_cont ex_assignP/dkkkk ex_assignQ/dk ex_assign/rk ex_ret ret_ret ret_next ex_nil ex_ifQ body_next body_cont body_brk body_ret if_true if_false"
local macro_rules | `(tactic| walk_at "st") => `(tactic| walk_at "ev")
local macro_rules | `(tactic| walk_at "w") => `(tactic| repeat (walk_at "st"))

/-- the figures to the base 16, as signs -/
noncomputable def figs (n : Nat) : List Nat := if h : n = 0 then [] else figs (n / 16) ++ [65 + n % 16]
termination_by n
decreasing_by omega

noncomputable def figB (n : Nat) : Array UInt8 := ((figs n).map UInt8.ofNat).toArray

theorem figs_len : ∀ (k n : Nat), n < 16 ^ k → (figs n).length ≤ k
  | 0, n, h => by
    have : n = 0 := by simpa using h
    subst this; rw [figs]; simp
  | k + 1, n, h => by
    rw [figs]
    split
    · simp
    · have := figs_len k (n / 16) (by rw [Nat.pow_succ] at h; omega)
      simp; omega
theorem figB_step {k : Nat} (h : k ≠ 0) : figB k = figB (k / 16) ++ #[UInt8.ofNat (65 + k % 16)] := by
  unfold figB
  conv => lhs; rw [figs, dif_neg h]
  simp
theorem picked16 : ∀ r, r < 16 → KBy.picked #[65, 66, 67, 68, 69, 70, 71, 72, 73, 74, 75, 76, 77, 78, 79, 80] (some ((r : Nat) : Int)) (some (((r : Nat) : Int) + 1)) = #[UInt8.ofNat (65 + r)] := by decide +kernel
theorem fdiv16 (k : Nat) : ((k : Int)).fdiv 16 = ((k / 16 : Nat) : Int) := by
  rw [Int.fdiv_eq_ediv_of_nonneg _ (by decide)]; omega
theorem fmod16 (k : Nat) : ((k : Int)).fmod 16 = ((k % 16 : Nat) : Int) := by
  rw [Int.fmod_eq_emod_of_nonneg _ (by decide)]; omega

section
variable {X : Cx} {ps : PySem.Params} {τ : Store} {Q : D → Store → Prop}

theorem int2ap (hK : X.K = hd.heap_39 ps) {i : Int} (hi : i.natAbs < 16 ^ 40) (h : Q (.bytes (figB i.natAbs)) τ) : CodeV X 9 (.ref 62) [.int i] [] τ Q := by
  refine codeV_fnQ (fd := F62) (bds := [("num", .int i)]) (by rw [hK]; exact fn62 ps) (by rw [hK]; exact ok62 ps) (bindV_1 fun S v => by rw [hK]; kernel_rfl) (by kernel_rfl) ?_
  simp only [bindD]
  refine ex_seq ?_
  walk_at "w"
  refine ex_whileQ (I := fun k ρ τ' => ∃ m v, k = m ∧ τ' = τ ∧ ρ "num" = some (.int m) ∧ ρ "val" = some (.bytes v) ∧ ρ "AP" = some (.bytes #[65, 66, 67, 68, 69, 70, 71, 72, 73, 74, 75, 76, 77, 78, 79, 80]) ∧ figB m ++ v = figB i.natAbs) i.natAbs ?_ ?_
  · exact ⟨i.natAbs, #[], rfl, rfl, by walk_at "lk", by walk_at "lk", by walk_at "lk", by simp⟩
  rintro k ρ₁ _ ⟨m, v, rfl, rfl, h1, h2, h3, h4⟩
  walk_at "w"
  refine while_q (fun hm => ?_) fun hm => ?_
  · have hm : k ≠ 0 := by simpa using hm
    walk_at "w"
    refine ex_assign2 (by rfl) ?_ (fun _ => rfl)
    walk_at "w"
    refine c_divmod (by decide) (by decide) ?_
    refine ⟨_, asg2 (by decide +kernel) (by decide +kernel), ?_⟩
    walk_at "w"
    have hr : k % 16 < 16 := Nat.mod_lt _ (by decide)
    rw [fmod16, fdiv16, picked16 _ hr]
    have h5 : figB (k / 16) ++ (#[UInt8.ofNat (65 + k % 16)] ++ v) = figB i.natAbs := by rw [← h4, figB_step hm, Array.append_assoc]
    refine t2_addb ?_ ?_
    · have e := congrArg Array.size h5
      have := figs_len 40 _ hi
      simp only [Array.size_append, figB, List.size_toArray, List.length_map] at e ⊢
      omega
    · walk_at "w"
      exact ⟨k / 16, by omega, k / 16, _, rfl, rfl, by walk_at "lk", by walk_at "lk", by walk_at "lk", h5⟩
  · have hm : k = 0 := by simpa using hm
    subst hm
    walk_at "w"
    have : v = figB i.natAbs := by
      rw [← h4, figB, figs, dif_pos rfl]; simp
    subst this
    exact h
end

noncomputable def F217 : FuncData := fnAt (hd.heap_39 ps0) 217
theorem fn217 (ps) : fnAt (hd.heap_39 ps) 217 = F217 := by kernel_rfl
theorem ok217 (ps) : fnOk (hd.heap_39 ps) 217 F217 = true := by kernel_rfl

noncomputable def word (n : Nat) : Str := ⟨(figs n).toArray⟩
noncomputable def digs (m : Nat) : List Nat := ((List.range 10).filter fun (j : Nat) => decide (16 ^ j ≤ m)).map fun (j : Nat) => m / 16 ^ j % 16
theorem fdivN (a b : Nat) : ((a : Int)).fdiv (b : Int) = ((a / b : Nat) : Int) := by
  rw [Int.fdiv_eq_ediv_of_nonneg _ (by omega)]; simp
theorem fmodN (a b : Nat) : ((a : Int)).fmod (b : Int) = ((a % b : Nat) : Int) := by
  rw [Int.fmod_eq_emod_of_nonneg _ (by omega)]; simp

theorem digs_len (m : Nat) : (digs m).length ≤ 10 := by
  unfold digs
  rw [List.length_map]
  exact Nat.le_trans (List.length_filter_le _ _) (by simp)
theorem digs_lt {m j : Nat} (h : j ∈ digs m) : j < 16 := by
  unfold digs at h
  obtain ⟨k, _, rfl⟩ := List.mem_map.mp h
  exact Nat.mod_lt _ (by decide)
theorem digs_gen : ∀ (K m : Nat), m < 16 ^ K → (((List.range K).filter fun (j : Nat) => decide (16 ^ j ≤ m)).map fun (j : Nat) => m / 16 ^ j % 16).reverse.map (65 + ·) = figs m
  | 0, m, h => by
    have : m = 0 := by simpa using h
    subst this
    rw [figs]; simp
  | K + 1, m, h => by
    by_cases h0 : m = 0
    · subst h0
      rw [figs, dif_pos rfl]
      have : ((List.range (K + 1)).filter fun (j : Nat) => decide (16 ^ j ≤ 0)) = [] := by
        rw [List.filter_eq_nil_iff]
        intro a _
        have : 0 < 16 ^ a := Nat.pow_pos (by decide)
        simp
      rw [this]; rfl
    · rw [figs, dif_neg h0, ← digs_gen K (m / 16) (by rw [Nat.pow_succ] at h; omega), List.range_succ_eq_map, List.filter_cons_of_pos (by simp; omega), List.map_cons, List.reverse_cons, List.map_append, List.filter_map, List.map_map]
      have e1 : ((fun (j : Nat) => decide (16 ^ j ≤ m)) ∘ Nat.succ) = fun (j : Nat) => decide (16 ^ j ≤ m / 16) := by
        funext j
        show decide (16 ^ (j + 1) ≤ m) = decide (16 ^ j ≤ m / 16)
        apply decide_eq_decide.mpr
        rw [Nat.pow_succ, Nat.le_div_iff_mul_le (by decide)]
      have e2 : ((fun (j : Nat) => m / 16 ^ j % 16) ∘ Nat.succ) = fun (j : Nat) => m / 16 / 16 ^ j % 16 := by
        funext j
        simp only [Function.comp, Nat.succ_eq_add_one, Nat.pow_succ]
        rw [Nat.mul_comm, Nat.div_div_eq_div_mul]
      rw [e1, e2]
      simp
theorem digs_word {m : Nat} (h : m < 16 ^ 10) : Txt.join "" ((digs m).reverse.map fun k => ⟨#[65 + k]⟩) = word m := by
  apply str_ext
  rw [toList_join0 _ (by decide +kernel)]
  show _ = (figs m).toArray.toList
  rw [← digs_gen 10 m h]
  unfold digs
  rw [List.map_map]
  have : ((fun (x : Str) => x.cps.toList) ∘ fun k : Nat => (⟨#[65 + k]⟩ : Str)) = fun k => [65 + k] := by funext k; rfl
  rw [this]
  generalize (((List.range 10).filter fun (j : Nat) => decide (16 ^ j ≤ m)).map fun (j : Nat) => m / 16 ^ j % 16).reverse = l
  induction l with
  | nil => rfl
  | cons a l ih => simpa using ih
theorem letter : ∀ j, j < 16 → (seqIndex? ((j : Nat) : Int) (Str.ofString "ABCDEFGHIJKLMNOP").length).bind ((Str.ofString "ABCDEFGHIJKLMNOP").cps[·]?) = some (65 + j) := by decide +kernel

section
variable {X : Cx} {ps : PySem.Params} {τ : Store} {Q : D → Store → Prop}

theorem law_word (hK : X.K = hd.heap_39 ps) {m : Nat} (hi : m < 16 ^ 10) (h : Q (.str (word m)) τ) : CodeV X 9 (.ref 217) [.int m] [] τ Q := by
  refine codeV_fnQ (fd := F217) (bds := [("number", .int m)]) (by rw [hK]; exact fn217 ps) (by rw [hK]; exact ok217 ps) (bindV_1 fun S v => by rw [hK]; kernel_rfl) (by kernel_rfl) ?_
  simp only [bindD]
  refine ex_seq ?_
  walk_at "w"
  refine comp_of (List.range 10) (fun (j : Nat) => D.int j) (fun (j : Nat) => decide (16 ^ j ≤ m)) (fun (j : Nat) => .int ((m / 16 ^ j % 16 : Nat) : Int)) int_inj rfl (items_rng rfl (by decide)) (by decide) (fun σ j _ hj => ?_) ?_
  · have hj : j < 10 := by simpa using hj
    refine compA_of (by kernel_rfl) (ifs1 ?_)
    walk_at "w"
    refine t2_pow (by omega) (by omega) (by decide) ?_
    walk_at "w"
    have e : (16 : Int) ^ (j : Int).toNat = ((16 ^ j : Nat) : Int) := by simp
    rw [e]
    refine ⟨by simp only [Int.ofNat_le], fun _ => ?_⟩
    walk_at "w"
    refine t2_pow (by omega) (by omega) (by decide) ?_
    rw [e]
    have hp : 0 < 16 ^ j := Nat.pow_pos (by decide)
    refine t2_div (by omega) ?_ ?_
    · have : 16 ^ j ≤ 16 ^ 10 := Nat.pow_le_pow_right (by decide) (by omega)
      have h2 : ((16 ^ j : Nat) : Int).natAbs.log2 ≤ 40 := by
        rw [Int.natAbs_natCast]
        have := Nat.log2_lt (n := 16 ^ j) (k := 41) (by omega)
        have := this.mpr (by omega)
        omega
      omega
    walk_at "w"
    rw [fdivN]
    exact congrArg D.int (fmodN _ 16)
  have hl : ((List.range 10).filter fun (j : Nat) => decide (16 ^ j ≤ m)).map (fun (j : Nat) => D.int ((m / 16 ^ j % 16 : Nat) : Int)) = (digs m).map fun (k : Nat) => D.int k := by
    unfold digs; rw [List.map_map]; rfl
  rw [hl]
  walk_at "w"
  refine t2_slice .list (by decide) ?_ ?_
  · rw [List.length_map, sizeLine_eq]
    exact Nat.le_trans (digs_len m) (by decide)
  rw [pick_rev, ← List.map_reverse]
  refine comp_map (digs m).reverse (fun (k : Nat) => D.int k) (fun k => .str ⟨#[65 + k]⟩) int_inj rfl (.list _) ?_ (fun σ j _ hj => ?_) ?_
  · rw [List.length_map, List.length_reverse, sizeLine_eq]
    exact Nat.le_trans (digs_len m) (by decide)
  · refine compA_of1 (by kernel_rfl) ?_
    walk_at "w"
    have hj := digs_lt (List.mem_reverse.mp hj)
    exact t2_itemS (by omega) (by omega) (letter j hj) ⟨rfl, rfl⟩
  walk_at "w"
  refine c_joinM ?_ ?_
  · refine joinOk_of ?_
    rw [List.map_map]
    have : ((fun (x : Str) => x.length) ∘ fun k : Nat => (⟨#[65 + k]⟩ : Str)) = fun k => 1 := by funext k; rfl
    rw [this]
    have e0 : (Str.ofString "").length = 0 := by decide +kernel
    rw [e0]
    have : (((digs m).reverse).map fun _ => 1).sum ≤ 10 := by
      have h1 := digs_len m
      have h2 : ∀ l : List Nat, (l.map fun _ => 1).sum = l.length := fun l => by
        induction l with
        | nil => rfl
        | cons a l ih => simp [ih]; omega
      rw [h2, List.length_reverse]
      exact h1
    omega
  walk_at "w"
  rw [digs_word hi]
  exact h
end


structure L3 (X : Cx) (ps : PySem.Params) : Prop where
  K : X.K = hd.heap_39 ps
  C : X.C = 208

section
variable {X : Cx} {ps : PySem.Params} {τ : Store} {Q : D → Store → Prop} {n : Nat} {sk : Sk} {ρ : Str → Option D}

theorem hd3 (L : L3 X ps) : Hd X := ⟨by rw [L.K, L.C]; kernel_rfl, by rw [L.K, L.C]; kernel_rfl, fun hs t l n => by rw [L.K, L.C]; kernel_rfl⟩
theorem hdS3 (L : L3 X ps) : HdS X := ⟨by rw [L.K, L.C]; kernel_rfl, by rw [L.K, L.C]; kernel_rfl, by rw [L.K, L.C]; kernel_rfl, by rw [L.K, L.C]; kernel_rfl, by rw [L.K, L.C]; kernel_rfl⟩
theorem patN (L : L3 X ps) : PatIn X.K 72 71 cN := by rw [L.K]; exact ⟨⟨_, _, _, _, rfl⟩, _, _, rfl, by kernel_rfl⟩
theorem patV (L : L3 X ps) : PatIn X.K 77 76 cV := by rw [L.K]; exact ⟨⟨_, _, _, _, rfl⟩, _, _, rfl, by kernel_rfl⟩
theorem patD (L : L3 X ps) : PatIn X.K 43 42 cD := by rw [L.K]; exact ⟨⟨_, _, _, _, rfl⟩, _, _, rfl, by kernel_rfl⟩
theorem patL (L : L3 X ps) : PatIn X.K 48 47 cL := by rw [L.K]; exact ⟨⟨_, _, _, _, rfl⟩, _, _, rfl, by kernel_rfl⟩
theorem g_name (ps) : nsIn (hd.heap_39 ps) mainGlobals "_name_disallowed_re" = some (some (.ref 72)) := by kernel_rfl
theorem g_value (ps) : nsIn (hd.heap_39 ps) mainGlobals "_value_disallowed_re" = some (some (.ref 77)) := by kernel_rfl
theorem g_list (ps) : nsIn (hd.heap_39 ps) mainGlobals "list" = some none := by kernel_rfl

theorem val_str {p : Pos} (hK : X.K = hd.heap_39 ps) (hk : globOk sk "str" = true) (h : Q (.val (.type "str")) τ) : Ev X n sk ρ τ (.Name "str" p) Q := ev_bui (by rw [hK]; exact g_str ps) (by kernel_rfl) hk h
theorem val_list {p : Pos} (hK : X.K = hd.heap_39 ps) (hk : globOk sk "list" = true) (h : Q (.val (.type "list")) τ) : Ev X n sk ρ τ (.Name "list" p) Q := ev_bui (by rw [hK]; exact g_list ps) (by kernel_rfl) hk h
theorem val_name {p : Pos} (hK : X.K = hd.heap_39 ps) (hk : globOk sk "_name_disallowed_re" = true) (h : Q (.val (.ref 72)) τ) : Ev X n sk ρ τ (.Name "_name_disallowed_re" p) Q := ev_glob (by rw [hK]; exact g_name ps) hk h
theorem val_value {p : Pos} (hK : X.K = hd.heap_39 ps) (hk : globOk sk "_value_disallowed_re" = true) (h : Q (.val (.ref 77)) τ) : Ev X n sk ρ τ (.Name "_value_disallowed_re" p) Q := ev_glob (by rw [hK]; exact g_value ps) hk h
theorem m_searchV {K : Value → Prop} (L : L3 X ps) (h : K (.builtin "re.Pattern.search")) : MethP X n (.val (.ref 77)) "search" τ K := ⟨_, gm_pat (patV L) slot_search type_search, h⟩
theorem m_searchN {K : Value → Prop} (L : L3 X ps) (h : K (.builtin "re.Pattern.search")) : MethP X n (.val (.ref 72)) "search" τ K := ⟨_, gm_pat (patN L) slot_search type_search, h⟩
end

local macro_rules | `(tactic| walk_at "st") => firstOf "val_str/ak val_list/ak val_name/ak val_value/ak call_type/akkk call_str/akkk call_max/akkk call_sorted/akkk call_tuple/akkk call_chr/akkk m_searchN/a m_searchV/a if_t/r if_f/r ev_ifE tst_andQ tst_orQ tst_and_nil tst_or_nil c_typeS t2_isT t2_isNotT"

section
variable {X : Cx} {ps : PySem.Params} {τ : Store} {Q : D → Store → Prop} {n : Nat}
noncomputable def F107 : FuncData := fnAt (hd.heap_39 ps0) 107
theorem fn107 (ps) : fnAt (hd.heap_39 ps) 107 = F107 := by kernel_rfl
theorem ok107 (ps) : fnOk (hd.heap_39 ps) 107 F107 = true := by kernel_rfl

/-- a text without control signs -/
noncomputable def clean (x : Str) : Prop := x.cps.size ≤ 1000000 ∧ (∀ a ∈ x.cps.toList, admN a = false) ∧ ∀ a ∈ x.cps.toList, admV a = false

theorem convert (L : L3 X ps) {d : D} {x : Str} {b : Bool} (hx : clean x) (h : Q (.str x) τ) : CodeV X 9 (.ref 107) [d, .str x] [("name", .bool b)] τ Q := by
  have hK := L.K
  refine codeV_fnQ (fd := F107) (bds := [("self", d), ("value", .str x), ("name", .bool b)]) (by rw [hK]; exact fn107 ps) (by rw [hK]; exact ok107 ps) (bindV_2k fun S v w u => by rw [hK]; kernel_rfl) (by kernel_rfl) ?_
  simp only [bindD]
  refine ex_seq ?_
  walk_at "w"
  cases b
  · walk_at "w"
    refine ife_f rfl ?_
    walk_at "w"
    refine c_searchN (patV L) findsV hx.1 hx.2.2 ?_
    walk_at "w"
    exact h
  · walk_at "w"
    refine ife_t rfl ?_
    walk_at "w"
    refine c_searchN (patN L) findsN hx.1 hx.2.1 ?_
    walk_at "w"
    exact h
end


section
variable {X : Cx} {ps : PySem.Params} {τ : Store} {Q : D → Store → Prop} {n : Nat} {sk : Sk} {ρ : Str → Option D}
noncomputable def HdrQ (d : D) (τ : Store) (Q : D → Store → Prop) : Prop := ∃ a l, d = .hdr a l ∧ Q (.own l) τ
theorem hdr_q {a l : Addr} (h : Q (.own l) τ) : HdrQ (.hdr a l) τ Q := ⟨a, l, rfl, h⟩
theorem ev_attrQ {o : Expr} {pos : Pos} (H : Hd X) (hb : ∀ env, attributeBase o "_headers" env (eval o env) = eval o env) (h : Ev X n sk ρ τ o (fun d τ₁ => HdrQ d τ₁ Q)) : Ev X n sk ρ τ (.Attribute o "_headers" pos) Q := fun env A s E R O F => by
  rw [arm_eval_Attribute, hb env]
  refine wpAny_bind (h.then R O F fun v s₁ d τ₁ q r O₁ F₁ S₁ o₁ g₁ => ?_)
  obtain ⟨a, l, rfl, q⟩ := q
  obtain ⟨rfl, dx, m, hs, t, I⟩ := instAt_of r
  refine wpAny_bind (wpAny_standAt (wpAny_bind (wpAny_holding (get_value O₁.inK I H.ga (H.own _ _ _ _) rfl ?_))))
  refine wpAny_bind (wpAny_letTemporaryGo (wpAny_pure ?_))
  exact Post.trans (s₁ := { s₁ with toks := s₁.toks + 1 }) S₁ o₁ g₁ (Post.here (s := { s₁ with toks := s₁.toks + 1 }) O₁ q (.own l) rfl rfl rfl)
theorem m__convert_string_type {a l : Addr} {K : Value → Prop} (L : L3 X ps) (h : K (.ref 107)) : MethP X n (.hdr a l) "_convert_string_type" τ K :=
  m_hdr (hd3 L) (by rw [L.K, L.C]; kernel_rfl) (by rw [L.K]; kernel_rfl) (by rw [L.K]; kernel_rfl) (fun hs t l n => by kernel_rfl) h
theorem m_get {a l : Addr} {K : Value → Prop} (L : L3 X ps) (h : K (.ref 155)) : MethP X n (.hdr a l) "get" τ K :=
  m_hdr (hd3 L) (by rw [L.K, L.C]; kernel_rfl) (by rw [L.K]; kernel_rfl) (by rw [L.K]; kernel_rfl) (fun hs t l n => by kernel_rfl) h
theorem m_items {a l : Addr} {K : Value → Prop} (L : L3 X ps) (h : K (.ref 172)) : MethP X n (.hdr a l) "items" τ K :=
  m_hdr (hd3 L) (by rw [L.K, L.C]; kernel_rfl) (by rw [L.K]; kernel_rfl) (by rw [L.K]; kernel_rfl) (fun hs t l n => by kernel_rfl) h
theorem ev_attrL {o : Expr} {pos : Pos} (L : L3 X ps) (hb : ∀ env, attributeBase o "_headers" env (eval o env) = eval o env) (h : Ev X n sk ρ τ o (fun d τ₁ => HdrQ d τ₁ Q)) : Ev X n sk ρ τ (.Attribute o "_headers" pos) Q := ev_attrQ (hd3 L) hb h
end

local macro_rules | `(tactic| walk_at "st") => firstOf "ev_attrL/ai hdr_q m__convert_string_type/a m_get/a m_keys/a m_values/a m_setdefault/a"

section
variable {X : Cx} {ps : PySem.Params} {τ : Store} {Q : D → Store → Prop} {n : Nat} {a l : Addr}
noncomputable def F155 : FuncData := fnAt (hd.heap_39 ps0) 155
theorem fn155 (ps) : fnAt (hd.heap_39 ps) 155 = F155 := by kernel_rfl
theorem ok155 (ps) : fnOk (hd.heap_39 ps) 155 F155 = true := by kernel_rfl

noncomputable def low (x : Str) : List Nat := (Txt.lower x).cps.toList
/-- pairs of a table, none too long -/
noncomputable def Tab (prs : List (Str × Str)) : Prop := prs.length ≤ 1000 ∧ ∀ p ∈ prs, p.1.length ≤ 100000 ∧ p.2.length ≤ 100000
noncomputable def found (prs : List (Str × Str)) (nm : Str) : D := match prs.find? (fun p => low p.1 == low nm) with
  | some p => .str p.2
  | none => .none

theorem h_get (L : L3 X ps) {nm : Str} {prs : List (Str × Str)} (hl : τ l = some (prs.map pairD)) (hT : Tab prs) (hn : nm.length ≤ 100000) (hc : clean (Txt.lower nm)) (h : Q (found prs nm) τ) : CodeV X 15 (.ref 155) [.hdr a l, .str nm] [] τ Q := by
  have hK := L.K
  refine codeV_fnQ (fd := F155) (bds := [("self", .hdr a l), ("name", .str nm), ("default", .none)]) (by rw [hK]; exact fn155 ps) (by rw [hK]; exact ok155 ps) (bindV_2n fun S v w => by rw [hK]; kernel_rfl) (by kernel_rfl) ?_
  simp only [bindD]
  refine ex_seq ?_
  walk_at "w"
  refine c_lower (by omega) ?_
  walk_at "w"
  refine CallV.room (CodeV.call (convert L hc ?_)) (by omega)
  walk_at "w"
  refine ex_forP (by kernel_rfl) ?_
  walk_at "w"
  refine forP_own prs pairD (fun r ρ' τ' => τ' = τ ∧ ρ' "name" = some (.str (Txt.lower nm)) ∧ ρ' "default" = some .none ∧ (∀ p ∈ r, p ∈ prs) ∧ found r nm = found prs nm) rfl hl ⟨rfl, by walk_at "lk", by walk_at "lk", fun _ h => h, rfl⟩ ?_ ?_
  · rintro ρ₁ _ ⟨rfl, h1, h2, h3, h4⟩
    walk_at "w"
    rw [← h4] at h
    exact h
  · rintro ⟨k, v⟩ r ρ₁ _ ⟨rfl, h1, h2, h3, h4⟩
    refine ⟨_, asg2 (by decide +kernel) (by decide +kernel), ?_⟩
    have hk := hT.2 (k, v) (h3 _ (.head _))
    walk_at "w"
    refine c_lower (by omega) ?_
    walk_at "w"
    refine if_q (fun hb => ?_) fun hb => ?_
    · walk_at "w"
      have : found ((k, v) :: r) nm = .str v := by
        unfold found
        rw [List.find?_cons_of_pos (p := fun p : Str × Str => low p.1 == low nm) (a := (k, v)) hb]
      rw [← h4, this] at h
      exact h
    · walk_at "w"
      refine ⟨hl, rfl, by walk_at "lk", by walk_at "lk", fun p hp => h3 p (.tail _ hp), ?_⟩
      rw [← h4]
      unfold found
      rw [List.find?_cons_of_neg (p := fun p : Str × Str => low p.1 == low nm) (a := (k, v)) (fun q => by
        have hb : (low k == low nm) = false := hb
        have q : (low k == low nm) = true := q
        rw [hb] at q; cases q)]
end


section
variable {X : Cx} {ps : PySem.Params} {τ : Store} {Q : D → Store → Prop} {n : Nat} {sk : Sk} {ρ : Str → Option D}
theorem ev_globS {x : Str} {pos : Pos} {y : Str} {t : Tok} (hv : nsIn X.K mainGlobals x = some (some (.str y t))) (hk : globOk sk x = true) (h : Q (.str y) τ) : Ev X n sk ρ τ (.Name x pos) Q := fun env A s E R O F => by
  unfold globOk at hk
  simp only [Bool.and_eq_true, beq_iff_eq, bne_iff_ne] at hk
  have st := F.stat x
  rw [hk.1.1] at st
  refine Name_function_global F.kind st (loadGlobal_global (env := env) (mg := X.mg) (by rw [F.glob]; exact X.top.g.keeps O.base) (mg_of X.inB X.top.g hv) (Post.here O h (.str y t) rfl rfl rfl)) (beq_eq_false_iff_ne.mpr hk.1.2)
theorem g_CRLF (ps) : nsIn (hd.heap_39 ps) mainGlobals "CRLF" = some (some (.str (PySem.Str.ofString "\r\n") 349)) := by kernel_rfl
theorem val_CRLF {p : Pos} (hK : X.K = hd.heap_39 ps) (hk : globOk sk "CRLF" = true) (h : Q (.str (PySem.Str.ofString "\r\n")) τ) : Ev X n sk ρ τ (.Name "CRLF" p) Q := ev_globS (by rw [hK]; exact g_CRLF ps) hk h
theorem g__twin_re_1 (ps) : nsIn (hd.heap_39 ps) mainGlobals "_twin_re_1" = some (some (.ref 43)) := by kernel_rfl
theorem val__twin_re_1 {p : Pos} (hK : X.K = hd.heap_39 ps) (hk : globOk sk "_twin_re_1" = true) (h : Q (.val (.ref 43)) τ) : Ev X n sk ρ τ (.Name "_twin_re_1" p) Q := ev_glob (by rw [hK]; exact g__twin_re_1 ps) hk h
theorem g__twin_re_2 (ps) : nsIn (hd.heap_39 ps) mainGlobals "_twin_re_2" = some (some (.ref 48)) := by kernel_rfl
theorem val__twin_re_2 {p : Pos} (hK : X.K = hd.heap_39 ps) (hk : globOk sk "_twin_re_2" = true) (h : Q (.val (.ref 48)) τ) : Ev X n sk ρ τ (.Name "_twin_re_2" p) Q := ev_glob (by rw [hK]; exact g__twin_re_2 ps) hk h
theorem m_sub1 {K : Value → Prop} (L : L3 X ps) (h : K (.builtin "re.Pattern.sub")) : MethP X n (.val (.ref 43)) "sub" τ K := ⟨_, gm_pat (patD L) slot_sub type_sub, h⟩
theorem m_sub2 {K : Value → Prop} (L : L3 X ps) (h : K (.builtin "re.Pattern.sub")) : MethP X n (.val (.ref 48)) "sub" τ K := ⟨_, gm_pat (patL L) slot_sub type_sub, h⟩
theorem g_Headers (ps) : nsIn (hd.heap_39 ps) mainGlobals "Headers" = some (some (.ref 208)) := by kernel_rfl
theorem call_Headers {p pos : Pos} {args : List Expr} {kws : List Keyword} (hK : X.K = hd.heap_39 ps) (ha : plainArgs args = true) (hw : plainKws kws = true) (hk : globOk sk "Headers" = true)
    (h : Evs X n sk ρ τ args (fun ds τ₁ => Kws X n sk ρ τ₁ kws (fun ks τ₂ => (kwNames kws).length = ks.length ∧ CallV X n (.ref 208) ds ((kwNames kws).zip ks) τ₂ Q))) : Ev X n sk ρ τ (.Call (.Name "Headers" p) args kws pos) Q :=
  ev_call ha hw (fun h => ev_glob (by rw [hK]; exact g_Headers ps) hk h) (keepable_K (by rw [hK]; kernel_rfl)) h
theorem g__law_word (ps) : nsIn (hd.heap_39 ps) mainGlobals "_law_word" = some (some (.ref 217)) := by kernel_rfl
theorem call__law_word {p pos : Pos} {args : List Expr} {kws : List Keyword} (hK : X.K = hd.heap_39 ps) (ha : plainArgs args = true) (hw : plainKws kws = true) (hk : globOk sk "_law_word" = true)
    (h : Evs X n sk ρ τ args (fun ds τ₁ => Kws X n sk ρ τ₁ kws (fun ks τ₂ => (kwNames kws).length = ks.length ∧ CallV X n (.ref 217) ds ((kwNames kws).zip ks) τ₂ Q))) : Ev X n sk ρ τ (.Call (.Name "_law_word" p) args kws pos) Q :=
  ev_call ha hw (fun h => ev_glob (by rw [hK]; exact g__law_word ps) hk h) (keepable_K (by rw [hK]; kernel_rfl)) h
theorem g__law_sent (ps) : nsIn (hd.heap_39 ps) mainGlobals "_law_sent" = some (some (.ref 239)) := by kernel_rfl
theorem call__law_sent {p pos : Pos} {args : List Expr} {kws : List Keyword} (hK : X.K = hd.heap_39 ps) (ha : plainArgs args = true) (hw : plainKws kws = true) (hk : globOk sk "_law_sent" = true)
    (h : Evs X n sk ρ τ args (fun ds τ₁ => Kws X n sk ρ τ₁ kws (fun ks τ₂ => (kwNames kws).length = ks.length ∧ CallV X n (.ref 239) ds ((kwNames kws).zip ks) τ₂ Q))) : Ev X n sk ρ τ (.Call (.Name "_law_sent" p) args kws pos) Q :=
  ev_call ha hw (fun h => ev_glob (by rw [hK]; exact g__law_sent ps) hk h) (keepable_K (by rw [hK]; kernel_rfl)) h
theorem g__law_heard (ps) : nsIn (hd.heap_39 ps) mainGlobals "_law_heard" = some (some (.ref 244)) := by kernel_rfl
theorem call__law_heard {p pos : Pos} {args : List Expr} {kws : List Keyword} (hK : X.K = hd.heap_39 ps) (ha : plainArgs args = true) (hw : plainKws kws = true) (hk : globOk sk "_law_heard" = true)
    (h : Evs X n sk ρ τ args (fun ds τ₁ => Kws X n sk ρ τ₁ kws (fun ks τ₂ => (kwNames kws).length = ks.length ∧ CallV X n (.ref 244) ds ((kwNames kws).zip ks) τ₂ Q))) : Ev X n sk ρ τ (.Call (.Name "_law_heard" p) args kws pos) Q :=
  ev_call ha hw (fun h => ev_glob (by rw [hK]; exact g__law_heard ps) hk h) (keepable_K (by rw [hK]; kernel_rfl)) h
theorem g_Int2AP (ps) : nsIn (hd.heap_39 ps) mainGlobals "Int2AP" = some (some (.ref 62)) := by kernel_rfl
theorem call_Int2AP {p pos : Pos} {args : List Expr} {kws : List Keyword} (hK : X.K = hd.heap_39 ps) (ha : plainArgs args = true) (hw : plainKws kws = true) (hk : globOk sk "Int2AP" = true)
    (h : Evs X n sk ρ τ args (fun ds τ₁ => Kws X n sk ρ τ₁ kws (fun ks τ₂ => (kwNames kws).length = ks.length ∧ CallV X n (.ref 62) ds ((kwNames kws).zip ks) τ₂ Q))) : Ev X n sk ρ τ (.Call (.Name "Int2AP" p) args kws pos) Q :=
  ev_call ha hw (fun h => ev_glob (by rw [hK]; exact g_Int2AP ps) hk h) (keepable_K (by rw [hK]; kernel_rfl)) h
theorem g_quotedata (ps) : nsIn (hd.heap_39 ps) mainGlobals "quotedata" = some (some (.ref 55)) := by kernel_rfl
theorem call_quotedata {p pos : Pos} {args : List Expr} {kws : List Keyword} (hK : X.K = hd.heap_39 ps) (ha : plainArgs args = true) (hw : plainKws kws = true) (hk : globOk sk "quotedata" = true)
    (h : Evs X n sk ρ τ args (fun ds τ₁ => Kws X n sk ρ τ₁ kws (fun ks τ₂ => (kwNames kws).length = ks.length ∧ CallV X n (.ref 55) ds ((kwNames kws).zip ks) τ₂ Q))) : Ev X n sk ρ τ (.Call (.Name "quotedata" p) args kws pos) Q :=
  ev_call ha hw (fun h => ev_glob (by rw [hK]; exact g_quotedata ps) hk h) (keepable_K (by rw [hK]; kernel_rfl)) h
end
local macro_rules | `(tactic| walk_at "st") => `(tactic| with_reducible refine ⟨by with_unfolding_all exact Nat.le_of_ble_eq_true rfl, ?_⟩)
local macro_rules | `(tactic| walk_at "st") => firstOf "ex_expr/r ev_tuple ev_list/d val_CRLF/ak val__twin_re_1/ak val__twin_re_2/ak m_sub1/a m_sub2/a call_Headers/akkk call__law_word/akkk call__law_sent/akkk call__law_heard/akkk call_Int2AP/akkk call_quotedata/akkk"

section
variable {X : Cx} {ps : PySem.Params} {τ : Store} {Q : D → Store → Prop} {n : Nat} {a l : Addr} {prs : List (Str × Str)}
noncomputable def F55 : FuncData := fnAt (hd.heap_39 ps0) 55
theorem fn55 (ps) : fnAt (hd.heap_39 ps) 55 = F55 := by kernel_rfl
theorem ok55 (ps) : fnOk (hd.heap_39 ps) 55 F55 = true := by kernel_rfl
noncomputable def F184 : FuncData := fnAt (hd.heap_39 ps0) 184
theorem fn184 (ps) : fnAt (hd.heap_39 ps) 184 = F184 := by kernel_rfl
theorem ok184 (ps) : fnOk (hd.heap_39 ps) 184 F184 = true := by kernel_rfl
noncomputable def quoted (x : Str) : Str := ⟨(dots true (crlf x.cps.toList)).toArray⟩
theorem quote_ (L : L3 X ps) {x : Str} (hx : x.cps.size ≤ 400000) (hx2 : (crlf x.cps.toList).length ≤ 1000000) (h : Q (.str (quoted x)) τ) : CodeV X 9 (.ref 55) [.str x] [] τ Q := by
  have hK := L.K
  refine codeV_fnQ (fd := F55) (bds := [("data", .str x)]) (by rw [hK]; exact fn55 ps) (by rw [hK]; exact ok55 ps) (bindV_1 fun S v => by rw [hK]; kernel_rfl) (by kernel_rfl) ?_
  simp only [bindD]
  refine ex_seq ?_
  walk_at "w"
  refine c_crlf (patL L) (by omega) ?_
  walk_at "w"
  refine c_dots (patD L) (by rw [List.size_toArray]; exact hx2) ?_
  walk_at "w"
  exact h
noncomputable def rowOf (p : Str × Str) : Str := p.1 ++ PySem.Str.ofString ": " ++ p.2
noncomputable def textOf (prs : List (Str × Str)) : Str := Txt.join (PySem.Str.ofString "\r\n") (prs.map rowOf ++ [PySem.Str.ofString "", PySem.Str.ofString ""])
theorem h_str (L : L3 X ps) (hl : τ l = some (prs.map pairD)) (hT : Tab prs) (hsum : ((prs.map rowOf).map (·.length)).sum ≤ 1000000) (h : Q (.str (textOf prs)) τ) : CodeV X 9 (.ref 184) [.hdr a l] [] τ Q := by
  have hK := L.K
  refine codeV_fnQ (fd := F184) (bds := [("self", .hdr a l)]) (by rw [hK]; exact fn184 ps) (by rw [hK]; exact ok184 ps) (bindV_1 fun S v => by rw [hK]; kernel_rfl) (by kernel_rfl) ?_
  simp only [bindD]
  refine ex_seq ?_
  walk_at "w"
  refine comp_map prs pairD (fun p => .str (rowOf p)) pair_inj rfl (.own hl) ?_ (fun σ p _ hp => ?_) ?_
  · rw [List.length_map, sizeLine_eq]; have := hT.1; omega
  · refine compA_of1 (by kernel_rfl) ?_
    have := hT.2 p hp
    walk_at "w"
    exact t2_mod2 (by omega) (by omega) ⟨rfl, rfl⟩
  walk_at "w"
  refine t2_addl (by rw [List.length_map, sizeLine_eq]; show _ + 2 ≤ _; have := hT.1; omega) ?_
  walk_at "w"
  refine c_join (xs := prs.map rowOf ++ [PySem.Str.ofString "", PySem.Str.ofString ""]) (by rw [List.map_append, List.map_map]; exact .list) (joinOk_of ?_) ?_
  · rw [List.map_append, List.sum_append]
    have e0 : (PySem.Str.ofString "").length = 0 := by decide +kernel
    have e2 : (PySem.Str.ofString "\r\n").length = 2 := by decide +kernel
    have e3 : ([PySem.Str.ofString "", PySem.Str.ofString ""].map (·.length)).sum = 0 := by
      show (PySem.Str.ofString "").length + ((PySem.Str.ofString "").length + 0) = 0
      rw [e0]
    rw [e3, e2, List.length_append, List.length_map]
    show _ + 0 + (prs.length + 2) * 2 ≤ _
    have := hT.1
    omega
  walk_at "w"
  exact h
end


section
variable {X : Cx} {ps : PySem.Params} {τ : Store} {Q : D → Store → Prop} {n : Nat} {sk : Sk} {ρ : Str → Option D}
noncomputable def plainD : D → Bool
  | .none | .bool _ | .int _ | .str _ => true
  | _ => false
theorem ex_exprV {e : Expr} {pos : Pos} {QS : Fl → (Str → Option D) → Store → Prop} (hs : notComp e = true)
    (h : Ev X n sk ρ τ e (fun d τ₁ => plainD d = true ∧ QS .next ρ τ₁)) : Ex1 X n sk ρ τ (.Expr e pos) QS := fun env A s E R O F => by
  rw [exec_Expr _ _ _ (by unfold interactive; rw [F.kind]; rfl) (swaps_not hs _ _ _)]
  refine wpAny_bind (wpAny_standAt (wpAny_bind (h.then R O F fun v s₁ d τ₁ q r O₁ F₁ S₁ o₁ g₁ => ?_)))
  obtain ⟨hp, q⟩ := q
  have nr : ∀ a, v ≠ .ref a := fun a e => by
    subst e
    cases r <;> exact nomatch hp
  rw [dropValue_plain nr]
  exact wpAny_pure ⟨.next, ρ, τ₁, q, trivial, O₁, F₁, S₁.toF, o₁, g₁⟩
theorem tst_const {c : Const} {k : Nat} {pos : Pos} {P : Bool → Store → Prop} (h : Ev X n sk ρ τ (.Constant c k pos) (fun d τ₁ => Tr X n d τ₁ P)) : Tst X n sk ρ τ (.Constant c k pos) P := tst_plain h fun _ _ => rfl
end
local macro_rules | `(tactic| walk_at "st") => firstOf "ex_exprV/r ev_debug tst_const"

section
variable {X : Cx} {ps : PySem.Params} {τ : Store} {Q : D → Store → Prop} {n : Nat} {a l : Addr} {prs : List (Str × Str)}
noncomputable def F100 : FuncData := fnAt (hd.heap_39 ps0) 100
theorem fn100 (ps) : fnAt (hd.heap_39 ps) 100 = F100 := by kernel_rfl
theorem ok100 (ps) : fnOk (hd.heap_39 ps) 100 F100 = true := by kernel_rfl

theorem make_rest (L : L3 X ps) {x : Addr} {ρ₁ : Str → Option D} {τ₁ : Store} (hl : τ₁ l = some (prs.map pairD)) (hT : ∀ p ∈ prs, clean p.1 ∧ clean p.2) (h1 : ρ₁ "headers" = some (.own l)) (h : Q (.hdr x l) τ₁) :
    Ex X 10 (compSk F100.scope) (upd ρ₁ "self" (.hdr x l)) τ₁ ((bodyOf F100).drop 3) (fun fl _ τ₂ => (fl = .next ∨ fl = .ret .none) ∧ Q (.hdr x l) τ₂) := by
  have hK := L.K
  refine ex_seq ?_
  walk_at "w"
  refine ex_forP (by kernel_rfl) ?_
  walk_at "w"
  refine forP_own prs pairD (fun r ρ' τ' => τ' = τ₁ ∧ ρ' "self" = some (.hdr x l) ∧ (∀ p ∈ r, p ∈ prs)) rfl hl ⟨rfl, by walk_at "lk", fun _ h => h⟩ ?_ ?_
  · rintro ρ₂ _ ⟨rfl, h2, h3⟩
    walk_at "w"
    exact ⟨.inl rfl, h⟩
  · rintro ⟨k, v⟩ r ρ₂ _ ⟨rfl, h2, h3⟩
    refine ⟨_, asg2 (by decide +kernel) (by decide +kernel), ?_⟩
    have hk := hT (k, v) (h3 _ (.head _))
    walk_at "w"
    refine CallV.room (CodeV.call (convert L hk.1 ?_)) (by omega)
    walk_at "w"
    refine CallV.room (CodeV.call (convert L hk.2 ?_)) (by omega)
    walk_at "w"
    exact ⟨hl, rfl, by walk_at "lk", fun p hp => h3 p (.tail _ hp)⟩

theorem make1 (L : L3 X ps) (hl : τ l = some (prs.map pairD)) (hT : ∀ p ∈ prs, clean p.1 ∧ clean p.2) (h : ∀ x, Q (.hdr x l) τ) : CodeV X 12 (.ref 208) [.own l] [] τ Q := by
  have hK := L.K
  have := c_make (X := X) (n := 10) (Q := Q) (fI := 100) (fd := F100) (ds := [.own l]) (bds := [("headers", .own l)]) (τ := τ) (hdS3 L) (by rw [L.K, L.C]; kernel_rfl) (by rw [L.K]; kernel_rfl) (by rw [hK]; exact fn100 ps) (by rw [hK]; exact ok100 ps) (fun d => bindV_2 fun S v w => by rw [hK]; kernel_rfl) (by kernel_rfl) (by decide +kernel)
    (pre := [_, _]) (rest := [_]) (p1 := _) (p2 := _) (p3 := _) (p4 := _) rfl (by decide +kernel) (fun x => ?_)
  · rw [L.C] at this
    exact this
  simp only [bindD]
  refine ex_seq ?_
  walk_at "w"
  refine t2_isNot (b := false) rfl ?_
  walk_at "w"
  refine ife_t rfl ?_
  walk_at "w"
  refine c_typeL (.own hl) ?_
  walk_at "w"
  exact ⟨l, by walk_at "lk", make_rest L hl hT (by walk_at "lk") (h x)⟩
theorem make0 (L : L3 X ps) (h : ∀ x l, τ l = none → Q (.hdr x l) (put τ l [])) : CodeV X 12 (.ref 208) [] [] τ Q := by
  have hK := L.K
  have := c_make (X := X) (n := 10) (Q := Q) (fI := 100) (fd := F100) (ds := []) (bds := [("headers", .none)]) (τ := τ) (hdS3 L) (by rw [L.K, L.C]; kernel_rfl) (by rw [L.K]; kernel_rfl) (by rw [hK]; exact fn100 ps) (by rw [hK]; exact ok100 ps) (fun d => bindV_1n fun S v => by rw [hK]; kernel_rfl) (by kernel_rfl) (by decide +kernel)
    (pre := [_, _]) (rest := [_]) (p1 := _) (p2 := _) (p3 := _) (p4 := _) rfl (by decide +kernel) (fun x => ?_)
  · rw [L.C] at this
    exact this
  simp only [bindD]
  refine ex_seq ?_
  walk_at "w"
  refine t2_isNot (b := true) rfl ?_
  walk_at "w"
  refine ife_f rfl ?_
  refine ev_listOwn ?_
  walk_at "w"
  intro l hl
  walk_at "w"
  refine c_typeL (.own put_same) ?_
  walk_at "w"
  exact ⟨l, by walk_at "lk", make_rest (prs := []) L put_same (fun p hp => by cases hp) (by walk_at "lk") (h x l hl)⟩
end


noncomputable def endAt (j : Nat) : Str := match j % 3 with
  | 0 => PySem.Str.ofString "\r\n"
  | 1 => PySem.Str.ofString "\n"
  | _ => PySem.Str.ofString "\r"
noncomputable def rowsOf (prs : List (Str × Str)) : List Str := prs.map rowOf ++ [PySem.Str.ofString "", PySem.Str.ofString ""]
/-- the rows with their ends -/
noncomputable def mixed (prs : List (Str × Str)) (turn : Nat) : Str := Txt.join (PySem.Str.ofString "") ((List.range (prs.length + 1)).map fun k => (rowsOf prs).getD k (PySem.Str.ofString "") ++ endAt (k + turn))

theorem map_inj : ∀ {xs ys : List Str}, xs.map (fun (x : Str) => x.cps.toList) = ys.map (fun (x : Str) => x.cps.toList) → xs = ys
  | [], [], _ => rfl
  | [], _ :: _, h => by cases h
  | _ :: _, [], h => by cases h
  | x :: xs, y :: ys, h => by
    simp only [List.map_cons, List.cons.injEq] at h
    rw [str_ext h.1, map_inj h.2]
theorem sum_le {α : Type} {f : α → Nat} {c : Nat} : ∀ {l : List α}, (∀ x ∈ l, f x ≤ c) → (l.map f).sum ≤ l.length * c
  | [], _ => by simp
  | x :: l, h => by
    have h1 := h x (.head _)
    have h2 := sum_le (l := l) fun y hy => h y (.tail _ hy)
    simp only [List.map_cons, List.sum_cons, List.length_cons, Nat.add_mul, Nat.one_mul]
    omega
theorem length_list (x : Str) : x.length = x.cps.toList.length := Array.length_toList.symm
theorem jl_len (sep : List Nat) : ∀ xs : List (List Nat), (jl sep xs).length ≤ (xs.map List.length).sum + xs.length * sep.length
  | [] => by simp [jl]
  | [p] => by simp [jl]
  | p :: q :: r => by
    have := jl_len sep (q :: r)
    simp only [jl, List.length_append, List.map_cons, List.sum_cons, List.length_cons, Nat.add_mul, Nat.one_mul] at this ⊢
    omega

section
variable {X : Cx} {ps : PySem.Params} {τ : Store} {Q : D → Store → Prop} {n : Nat} {a l : Addr} {prs : List (Str × Str)}
theorem hs3 (L : L3 X ps) : findIn X.K (.ref X.C) "__str__" = some (some (.ref 184)) ∧ isFn X.K (.ref 184) = true := ⟨by rw [L.K, L.C]; kernel_rfl, by rw [L.K]; kernel_rfl⟩
theorem c_splitN {x y : Str} (hy : (y.length == 0) = false) (hsz : x.length ≤ 16000000) (h : Q (.list ((Txt.split x y).map D.str)) τ) : CallV X n (.builtin "str.split") [.str x, .str y] [] τ Q := by
  refine c_split hy (by rw [sizeLine_eq]; omega) ?_ h
  have := StrLaws.occ_length_le x y 0 x.length (x.length + 1)
  rw [StrLaws.partsBetween_eq]
  have e : ∀ (cuts : List Nat) (a : Nat), (StrLaws.partsFrom x y.length a cuts).length = cuts.length + 1 := fun cuts => by
    induction cuts with
    | nil => intro a; rfl
    | cons c r ih => intro a; show _ + 1 = _; rw [ih]; rfl
  rw [e, sizeLine_eq]
  omega
theorem seqIndex_nat {k m : Nat} (h : k < m) : seqIndex? (k : Int) m = some k := by
  unfold seqIndex?
  simp only [show ¬ ((k : Int) < 0) by omega, if_false]
  rw [if_pos (by simp; omega)]
  simp
theorem endAt_len (j : Nat) : (endAt j).length ≤ 2 := by
  unfold endAt
  split <;> decide +kernel
noncomputable def F239 : FuncData := fnAt (hd.heap_39 ps0) 239
theorem fn239 (ps) : fnAt (hd.heap_39 ps) 239 = F239 := by kernel_rfl
theorem ok239 (ps) : fnOk (hd.heap_39 ps) 239 F239 = true := by kernel_rfl
noncomputable def F244 : FuncData := fnAt (hd.heap_39 ps0) 244
theorem fn244 (ps) : fnAt (hd.heap_39 ps) 244 = F244 := by kernel_rfl
theorem ok244 (ps) : fnOk (hd.heap_39 ps) 244 F244 = true := by kernel_rfl

theorem split_rows (hr : ∀ p ∈ prs, 13 ∉ (rowOf p).cps.toList) : Txt.split (textOf prs) (PySem.Str.ofString "\r\n") = rowsOf prs := by
  have e : PySem.Str.ofString "\r\n" = ⟨#[13, 10]⟩ := by decide +kernel
  have key := split_jl (x := textOf prs) (c := 13) (d := 10) (qs := (rowsOf prs).map fun (x : Str) => x.cps.toList) (by decide) (by simp [rowsOf]) ?_ ?_
  · rw [e]
    exact map_inj key
  · intro q hq
    obtain ⟨x, hx, rfl⟩ := List.mem_map.mp hq
    rcases List.mem_append.mp hx with hx | hx
    · obtain ⟨p, hp, rfl⟩ := List.mem_map.mp hx
      exact hr p hp
    · have e0 : (PySem.Str.ofString "").cps.toList = [] := by decide +kernel
      have : x = PySem.Str.ofString "" := by simpa using hx
      rw [this, e0]; simp
  · unfold textOf
    rw [toList_jl]
    have e1 : (PySem.Str.ofString "\r\n").cps.toList = [13, 10] := by decide +kernel
    rw [e1]; rfl

theorem piece_len {turn k : Nat} (hrow : ∀ p ∈ prs, (rowOf p).length ≤ 1000) (hk : k < prs.length + 1) : ((rowsOf prs).getD k (PySem.Str.ofString "") ++ endAt (k + turn)).length ≤ 1002 := by
  have hrl : (rowsOf prs).length = prs.length + 2 := by simp [rowsOf]
  have h1 : ((rowsOf prs).getD k (PySem.Str.ofString "")).length ≤ 1000 := by
    rw [List.getD_eq_getElem?_getD, List.getElem?_eq_getElem (by omega)]
    have hm : (rowsOf prs)[k] ∈ rowsOf prs := List.getElem_mem _
    rcases List.mem_append.mp hm with hx | hx
    · obtain ⟨p, hp, e⟩ := List.mem_map.mp hx
      show ((rowsOf prs)[k]).length ≤ 1000
      rw [← e]; exact hrow p hp
    · have : (rowsOf prs)[k] = PySem.Str.ofString "" := by simpa using hx
      show ((rowsOf prs)[k]).length ≤ 1000
      rw [this]
      decide +kernel
  have h2 := endAt_len (k + turn)
  rw [length_list, toList_app, List.length_append, ← length_list, ← length_list]
  omega
theorem pieces_sum {turn : Nat} (hrow : ∀ p ∈ prs, (rowOf p).length ≤ 1000) (hlen : prs.length ≤ 20) : (((List.range (prs.length + 1)).map fun k => (rowsOf prs).getD k (PySem.Str.ofString "") ++ endAt (k + turn)).map (·.length)).sum ≤ 21042 := by
  rw [List.map_map]
  have := sum_le (l := List.range (prs.length + 1)) (f := (fun (x : Str) => x.length) ∘ fun k => (rowsOf prs).getD k (PySem.Str.ofString "") ++ endAt (k + turn)) (c := 1002) fun k hk => piece_len hrow (by simpa using hk)
  rw [List.length_range] at this
  have : (prs.length + 1) * 1002 ≤ 21 * 1002 := Nat.mul_le_mul_right _ (by omega)
  omega
theorem mixed_len {turn : Nat} (hrow : ∀ p ∈ prs, (rowOf p).length ≤ 1000) (hlen : prs.length ≤ 20) : (mixed prs turn).cps.toList.length ≤ 21042 := by
  unfold mixed
  rw [toList_join0 _ (by decide +kernel), List.length_flatten, List.map_map]
  exact pieces_sum hrow hlen
theorem text_len (hlen : prs.length ≤ 20) (hrow : ∀ p ∈ prs, (rowOf p).length ≤ 1000) : (textOf prs).length ≤ 30000 := by
  have hs1 : ((prs.map rowOf).map (·.length)).sum ≤ 20000 := by
    rw [List.map_map]
    have := sum_le (l := prs) (f := (fun (x : Str) => x.length) ∘ rowOf) (c := 1000) fun p hp => hrow p hp
    omega
  rw [length_list]
  unfold textOf
  rw [toList_jl]
  refine Nat.le_trans (jl_len _ _) ?_
  have e1 : (PySem.Str.ofString "\r\n").cps.toList.length = 2 := by decide +kernel
  have e2 : (PySem.Str.ofString "").cps.toList.length = 0 := by decide +kernel
  rw [e1]
  simp only [List.map_append, List.map_map, List.sum_append, List.length_append, List.length_map, List.map_cons, List.map_nil, List.sum_cons, List.sum_nil, List.length_cons, List.length_nil, e2]
  have e3 : (prs.map (List.length ∘ (fun (x : Str) => x.cps.toList) ∘ rowOf)).sum = ((prs.map rowOf).map (·.length)).sum := by
    rw [List.map_map]
    congr 1
  rw [e3]
  omega

theorem law_sent (L : L3 X ps) {turn : Nat} (ht : turn ≤ 1000) (hl : τ l = some (prs.map pairD)) (hT : Tab prs) (hlen : prs.length ≤ 20) (hrow : ∀ p ∈ prs, (rowOf p).length ≤ 1000 ∧ 13 ∉ (rowOf p).cps.toList)
    (hq : (crlf (mixed prs turn).cps.toList).length ≤ 1000000) (h : Q (.str (quoted (mixed prs turn))) τ) : CodeV X 20 (.ref 239) [.hdr a l, .int turn] [] τ Q := by
  have hK := L.K
  refine codeV_fnQ (fd := F239) (bds := [("table", .hdr a l), ("turn", .int turn)]) (by rw [hK]; exact fn239 ps) (by rw [hK]; exact ok239 ps) (bindV_2 fun S v w => by rw [hK]; kernel_rfl) (by kernel_rfl) ?_
  simp only [bindD]
  refine ex_seq ?_
  walk_at "w"
  have hs1 : ((prs.map rowOf).map (·.length)).sum ≤ 20000 := by
    rw [List.map_map]
    have := sum_le (l := prs) (f := (fun (x : Str) => x.length) ∘ rowOf) (c := 1000) fun p hp => (hrow p hp).1
    omega
  have htx := text_len hlen fun p hp => (hrow p hp).1
  have hrl : (rowsOf prs).length = prs.length + 2 := by simp [rowsOf]
  refine c_strH (n := 17) (hs3 L).1 (hs3 L).2 (CallV.room (CodeV.call (h_str L hl hT (by omega) ⟨_, rfl, ?_⟩)) (by omega))
  walk_at "w"
  refine c_splitN (by decide +kernel) (by omega) ?_
  rw [split_rows fun p hp => (hrow p hp).2]
  walk_at "w"
  refine c_len .list (by rw [List.length_map]; omega) ?_
  walk_at "w"
  rw [List.length_map, hrl]
  refine comp_map (List.range (prs.length + 1)) (fun (j : Nat) => D.int j) (fun k => .str ((rowsOf prs).getD k (PySem.Str.ofString "") ++ endAt (k + turn))) int_inj rfl (items_rng (by omega) (by omega)) ?_ (fun σ k _ hk => ?_) ?_
  · rw [List.length_map, List.length_range, sizeLine_eq]; omega
  · have hk : k < prs.length + 1 := by simpa using hk
    refine compA_of1 (by kernel_rfl) ?_
    walk_at "w"
    refine t2_item .list (by omega) (by omega) (j := k) (seqIndex_nat (by rw [List.length_map]; omega)) (d := .str ((rowsOf prs).getD k (PySem.Str.ofString ""))) ?_ ?_
    · rw [List.getElem?_map, List.getD_eq_getElem?_getD, List.getElem?_eq_getElem (by omega)]; rfl
    walk_at "w"
    have em : ((k : Int) + turn).fmod 3 = (((k + turn) % 3 : Nat) : Int) := by
      have := fmodN (k + turn) 3
      rw [← this]
      congr 1
    rw [em]
    have hlt : (k + turn) % 3 < 3 := Nat.mod_lt _ (by decide)
    refine t2_item .list (by omega) (by omega) (j := (k + turn) % 3) (seqIndex_nat hlt) (d := .str (endAt (k + turn))) ?_ ?_
    · unfold endAt
      match (k + turn) % 3, hlt with
      | 0, _ => rfl
      | 1, _ => rfl
      | 2, _ => rfl
    refine t2_adds ?_ ⟨rfl, rfl⟩
    have h1 : ((rowsOf prs).getD k (PySem.Str.ofString "")).length ≤ 1000 := by
      rw [List.getD_eq_getElem?_getD, List.getElem?_eq_getElem (by omega)]
      have hm : (rowsOf prs)[k] ∈ rowsOf prs := List.getElem_mem _
      rcases List.mem_append.mp hm with hx | hx
      · obtain ⟨p, hp, e⟩ := List.mem_map.mp hx
        show ((rowsOf prs)[k]).length ≤ 1000
        rw [← e]; exact (hrow p hp).1
      · have : (rowsOf prs)[k] = PySem.Str.ofString "" := by simpa using hx
        show ((rowsOf prs)[k]).length ≤ 1000
        rw [this]
        decide +kernel
    have h2 := endAt_len (k + turn)
    rw [sizeLine_eq]; omega
  walk_at "w"
  refine c_joinM ?_ ?_
  · refine joinOk_of ?_
    have := pieces_sum (turn := turn) (fun p hp => (hrow p hp).1) hlen
    have e0 : (PySem.Str.ofString "").length = 0 := by decide +kernel
    rw [e0]
    omega
  walk_at "w"
  refine CallV.room (CodeV.call (quote_ L ?_ hq ?_)) (by omega)
  · have := mixed_len (turn := turn) (fun p hp => (hrow p hp).1) hlen
    rw [Array.length_toList] at this
    show (mixed prs turn).cps.size ≤ 400000
    omega
  walk_at "w"
  exact h

theorem split_row {p : Str × Str} (h1 : 58 ∉ p.1.cps.toList) (h2 : 58 ∉ p.2.cps.toList) : Txt.split (rowOf p) (PySem.Str.ofString ": ") = [p.1, p.2] := by
  have e : PySem.Str.ofString ": " = ⟨#[58, 32]⟩ := by decide +kernel
  have e1 : (PySem.Str.ofString ": ").cps.toList = [58, 32] := by decide +kernel
  have key := split_jl (x := rowOf p) (c := 58) (d := 32) (qs := [p.1, p.2].map fun (x : Str) => x.cps.toList) (by decide) (by simp) ?_ ?_
  · rw [e]
    exact map_inj key
  · intro q hq
    simp only [List.map_cons, List.map_nil, List.mem_cons, List.not_mem_nil, or_false] at hq
    rcases hq with rfl | rfl
    · exact h1
    · exact h2
  · unfold rowOf
    rw [toList_app, toList_app, e1]
    rfl

theorem law_heard (L : L3 X ps) (hlen : prs.length ≤ 20) (hrow : ∀ p ∈ prs, (rowOf p).length ≤ 1000 ∧ 13 ∉ (rowOf p).cps.toList ∧ 58 ∉ p.1.cps.toList ∧ 58 ∉ p.2.cps.toList)
    (h : Q (.list (prs.map pairD ++ [.str (PySem.Str.ofString ""), .str (PySem.Str.ofString "")])) τ) : CodeV X 20 (.ref 244) [.str (textOf prs)] [] τ Q := by
  have hK := L.K
  refine codeV_fnQ (fd := F244) (bds := [("sent", .str (textOf prs))]) (by rw [hK]; exact fn244 ps) (by rw [hK]; exact ok244 ps) (bindV_1 fun S v => by rw [hK]; kernel_rfl) (by kernel_rfl) ?_
  simp only [bindD]
  refine ex_seq ?_
  walk_at "w"
  have htx := text_len hlen fun p hp => (hrow p hp).1
  refine c_splitN (by decide +kernel) (by omega) ?_
  rw [split_rows fun p hp => (hrow p hp).2.1]
  walk_at "w"
  have hrl : ((rowsOf prs).map D.str).length = prs.length + 2 := by simp [rowsOf]
  refine t2_slice .list (by decide) (by rw [hrl, sizeLine_eq]; omega) ?_
  have e1 : pick ((rowsOf prs).map D.str) none (some (-2)) none = prs.map fun p => D.str (rowOf p) := by
    rw [show (-2 : Int) = -((2 : Nat) : Int) from rfl, pick_upto _ 2 (by decide), hrl]
    unfold rowsOf
    rw [List.map_append, List.map_map, show prs.length + 2 - 2 = (prs.map (D.str ∘ rowOf)).length by simp, List.take_left]
    rfl
  rw [e1]
  walk_at "w"
  refine comp_map (prs.map rowOf) D.str (fun r => .tuple ((Txt.split r (PySem.Str.ofString ": ")).map D.str)) str_inj (by rw [List.map_map]; rfl) (.list _) ?_ (fun σ r _ hr => ?_) ?_
  · rw [List.length_map, sizeLine_eq]; omega
  · obtain ⟨p, hp, rfl⟩ := List.mem_map.mp hr
    have hp' := hrow p hp
    refine compA_of1 (by kernel_rfl) ?_
    walk_at "w"
    refine c_splitN (by decide +kernel) (by omega) ?_
    walk_at "w"
    refine c_tuple .list ?_ ⟨rfl, rfl⟩
    rw [split_row hp'.2.2.1 hp'.2.2.2]
    show 2 ≤ _
    rw [sizeLine_eq]; omega
  have e2 : (prs.map rowOf).map (fun r => D.tuple ((Txt.split r (PySem.Str.ofString ": ")).map D.str)) = prs.map pairD := by
    rw [List.map_map]
    refine List.map_congr_left fun p hp => ?_
    have hp' := hrow p hp
    show D.tuple ((Txt.split (rowOf p) (PySem.Str.ofString ": ")).map D.str) = pairD p
    rw [split_row hp'.2.2.1 hp'.2.2.2]
    rfl
  rw [e2]
  walk_at "w"
  refine t2_slice .list (by decide) (by rw [hrl, sizeLine_eq]; omega) ?_
  have e3 : pick ((rowsOf prs).map D.str) (some (-2)) none none = [.str (PySem.Str.ofString ""), .str (PySem.Str.ofString "")] := by
    rw [show (-2 : Int) = -((2 : Nat) : Int) from rfl, pick_last _ 2 (by decide), hrl]
    unfold rowsOf
    rw [List.map_append, List.map_map, show prs.length + 2 - 2 = (prs.map (D.str ∘ rowOf)).length by simp, List.drop_left]
    rfl
  rw [e3]
  refine t2_addl ?_ ?_
  · rw [List.length_map, sizeLine_eq]; show _ + 2 ≤ _; omega
  walk_at "w"
  exact h
end


noncomputable def endL (j : Nat) : List Nat := match j % 3 with
  | 0 => [13, 10]
  | 1 => [10]
  | _ => [13]
theorem endAt_list (j : Nat) : (endAt j).cps.toList = endL j := by
  have e0 : (PySem.Str.ofString "\r\n").cps.toList = [13, 10] := by decide +kernel
  have e1 : (PySem.Str.ofString "\n").cps.toList = [10] := by decide +kernel
  have e2 : (PySem.Str.ofString "\r").cps.toList = [13] := by decide +kernel
  have h3 : j % 3 = 0 ∨ j % 3 = 1 ∨ j % 3 = 2 := (by decide : ∀ k, k < 3 → k = 0 ∨ k = 1 ∨ k = 2) _ (Nat.mod_lt _ (by decide))
  unfold endAt endL
  rcases h3 with h | h | h <;> rw [h] <;> assumption
theorem endL0 {j : Nat} (h : j % 3 = 0) : endL j = [13, 10] := by unfold endL; rw [h]; rfl
theorem endL1 {j : Nat} (h : j % 3 = 1) : endL j = [10] := by unfold endL; rw [h]; rfl
theorem endL2 {j : Nat} (h : j % 3 = 2) : endL j = [13] := by unfold endL; rw [h]; rfl
noncomputable def mixL : List (List Nat) → Nat → List Nat
  | [], _ => []
  | r :: rs, j => r ++ (endL j ++ mixL rs (j + 1))
noncomputable def Free (r : List Nat) : Prop := 13 ∉ r ∧ 10 ∉ r

theorem crlf_app : ∀ (r t : List Nat), Free r → crlf (r ++ t) = r ++ crlf t
  | [], t, _ => rfl
  | c :: r, t, h => by
    have h1 : c ≠ 13 := fun e => h.1 (e ▸ .head _)
    have h2 : c ≠ 10 := fun e => h.2 (e ▸ .head _)
    rw [List.cons_append]
    conv => lhs; unfold crlf
    rw [if_neg h1, if_neg h2, crlf_app r t ⟨fun e => h.1 (.tail _ e), fun e => h.2 (.tail _ e)⟩]
    rfl
theorem crlf_mix : ∀ (rs : List (List Nat)) (j : Nat), (∀ r ∈ rs, Free r) → crlf (mixL rs j) = (rs.map (· ++ [13, 10])).flatten
  | [], j, _ => by simp [mixL, crlf]
  | r :: rs, j, h => by
    have ih := crlf_mix rs (j + 1) fun r hr => h r (.tail _ hr)
    show crlf (r ++ (endL j ++ mixL rs (j + 1))) = _
    rw [crlf_app _ _ (h r (.head _))]
    have key : crlf (endL j ++ mixL rs (j + 1)) = [13, 10] ++ crlf (mixL rs (j + 1)) := by
      have h3 : j % 3 = 0 ∨ j % 3 = 1 ∨ j % 3 = 2 := (by decide : ∀ k, k < 3 → k = 0 ∨ k = 1 ∨ k = 2) _ (Nat.mod_lt _ (by decide))
      rcases h3 with hj | hj | hj
      · rw [endL0 hj]
        show crlf (13 :: 10 :: mixL rs (j + 1)) = _
        conv => lhs; unfold crlf
        simp
      · rw [endL1 hj]
        show crlf (10 :: mixL rs (j + 1)) = _
        conv => lhs; unfold crlf
        simp
      · rw [endL2 hj]
        show crlf (13 :: mixL rs (j + 1)) = _
        conv => lhs; unfold crlf
        have hh : (mixL rs (j + 1)).head? ≠ some 10 := by
          cases rs with
          | nil => simp [mixL]
          | cons r' rs' =>
            show (r' ++ (endL (j + 1) ++ mixL rs' (j + 1 + 1))).head? ≠ some 10
            rw [endL0 (show (j + 1) % 3 = 0 by omega)]
            cases r' with
            | nil => simp
            | cons c r'' =>
              have := (h (c :: r'') (.tail _ (.head _))).2
              simp only [List.cons_append, List.head?_cons, ne_eq, Option.some.injEq]
              exact fun e => this (e ▸ .head _)
        rw [if_pos rfl, if_neg hh]; rfl
    rw [key, ih]
    simp

noncomputable def dotL : List Nat → List Nat
  | 46 :: r => 46 :: 46 :: r
  | r => r
theorem dots_false : ∀ (r t : List Nat), Free r → dots false (r ++ 13 :: 10 :: t) = r ++ 13 :: 10 :: dots true t
  | [], t, _ => by simp [dots]
  | c :: r, t, h => by
    have h2 : c ≠ 10 := fun e => h.2 (e ▸ .head _)
    rw [List.cons_append, dots, if_neg (by simp), beq_eq_false_iff_ne.mpr h2, dots_false r t ⟨fun e => h.1 (.tail _ e), fun e => h.2 (.tail _ e)⟩]
    rfl
theorem dots_rows : ∀ (rs : List (List Nat)), (∀ r ∈ rs, Free r) → dots true ((rs.map (· ++ [13, 10])).flatten) = ((rs.map dotL).map (· ++ [13, 10])).flatten
  | [], _ => by simp [dots]
  | r :: rs, h => by
    have ih := dots_rows rs fun r hr => h r (.tail _ hr)
    have hr := h r (.head _)
    have e : ((r :: rs).map (· ++ [13, 10])).flatten = r ++ 13 :: 10 :: (rs.map (· ++ [13, 10])).flatten := by simp
    have e' : (((r :: rs).map dotL).map (· ++ [13, 10])).flatten = dotL r ++ 13 :: 10 :: ((rs.map dotL).map (· ++ [13, 10])).flatten := by simp
    rw [e, e', ← ih]
    cases r with
    | nil => simp [dots, dotL]
    | cons c r =>
      have hf : Free r := ⟨fun e => hr.1 (.tail _ e), fun e => hr.2 (.tail _ e)⟩
      by_cases hc : c = 46
      · subst hc
        rw [List.cons_append, dots, if_pos ⟨rfl, rfl⟩, dots_false r _ hf]
        rfl
      · have h2 : c ≠ 10 := fun e => hr.2 (e ▸ .head _)
        have : dotL (c :: r) = c :: r := by
          unfold dotL
          split
          · rename_i q; cases q; exact absurd rfl hc
          · rfl
        rw [this, List.cons_append, dots, if_neg (fun q => hc q.2), beq_eq_false_iff_ne.mpr h2, dots_false r _ hf]
        rfl
theorem flat_jl (sep : List Nat) : ∀ rs : List (List Nat), (rs.map (· ++ sep)).flatten = jl sep (rs ++ [[]])
  | [] => rfl
  | [r] => by simp [jl]
  | r :: r' :: rs => by
    have := flat_jl sep (r' :: rs)
    rw [List.map_cons, List.flatten_cons, this]
    rfl

noncomputable def dotted (p : Str × Str) : Str × Str := if p.1.cps.toList.head? = some 46 then (PySem.Str.ofString "." ++ p.1, p.2) else p
theorem dotted_row {p : Str × Str} : (rowOf (dotted p)).cps.toList = dotL (rowOf p).cps.toList := by
  have e1 : (PySem.Str.ofString ": ").cps.toList = [58, 32] := by decide +kernel
  have e2 : (PySem.Str.ofString ".").cps.toList = [46] := by decide +kernel
  unfold dotted rowOf
  split
  · rename_i h
    simp only [toList_app, e1, e2]
    cases hp : p.1.cps.toList with
    | nil => rw [hp] at h; cases h
    | cons c r =>
      rw [hp] at h
      simp only [List.head?_cons, Option.some.injEq] at h
      subst h
      rfl
  · rename_i h
    simp only [toList_app, e1]
    cases hp : p.1.cps.toList with
    | nil => rfl
    | cons c r =>
      rw [hp] at h
      simp only [List.head?_cons, Option.some.injEq] at h
      simp only [List.cons_append]
      unfold dotL
      split
      · rename_i q; cases q; exact absurd rfl h
      · rfl

theorem mixed_list (prs : List (Str × Str)) (turn : Nat) : (mixed prs turn).cps.toList = mixL (prs.map (fun p => (rowOf p).cps.toList) ++ [[]]) turn := by
  unfold mixed
  rw [toList_join0 _ (by decide +kernel), List.map_map]
  have e0 : (PySem.Str.ofString "").cps.toList = [] := by decide +kernel
  have gen : ∀ (rs : List (List Nat)) (f : Nat → Str) (j : Nat), (∀ k, k < rs.length → (f k).cps.toList = rs.getD k [] ++ endL (k + j)) → ((List.range rs.length).map ((fun (x : Str) => x.cps.toList) ∘ f)).flatten = mixL rs j := by
    intro rs
    induction rs with
    | nil => intro f j _; rfl
    | cons r rs ih =>
      intro f j hf
      rw [List.length_cons, List.range_succ_eq_map, List.map_cons, List.flatten_cons, List.map_map]
      have := ih (fun k => f (k + 1)) (j + 1) fun k hk => by
        rw [hf (k + 1) (by simpa using hk)]
        rw [show k + 1 + j = k + (j + 1) by omega]
        rfl
      have e : ((fun (x : Str) => x.cps.toList) ∘ f) ∘ Nat.succ = (fun (x : Str) => x.cps.toList) ∘ fun k => f (k + 1) := rfl
      rw [e, this]
      show (f 0).cps.toList ++ _ = _
      rw [hf 0 (by simp)]
      show (r ++ endL (0 + j)) ++ _ = r ++ (endL j ++ _)
      rw [Nat.zero_add, List.append_assoc]
  have := gen (prs.map (fun p => (rowOf p).cps.toList) ++ [[]]) (fun k => (rowsOf prs).getD k (PySem.Str.ofString "") ++ endAt (k + turn)) turn fun k hk => ?_
  · rw [← this]
    simp
  · rw [toList_app, endAt_list]
    congr 1
    unfold rowsOf
    simp only [List.length_append, List.length_map, List.length_cons, List.length_nil] at hk
    by_cases h : k < prs.length
    · simp [List.getD_eq_getElem?_getD, List.getElem?_append_left, h]
    · have : k = prs.length := by omega
      subst this
      simp [List.getD_eq_getElem?_getD, List.getElem?_append_right, e0]

/-- what is sent is the table's text, one dot more ahead of a name that begins with one -/
theorem sent_is {prs : List (Str × Str)} {turn : Nat} (h : ∀ p ∈ prs, Free (rowOf p).cps.toList) : quoted (mixed prs turn) = textOf (prs.map dotted) := by
  apply str_ext
  have hF : ∀ r ∈ prs.map (fun p => (rowOf p).cps.toList) ++ [[]], Free r := fun r hr => by
    rcases List.mem_append.mp hr with hr | hr
    · obtain ⟨p, hp, rfl⟩ := List.mem_map.mp hr
      exact h p hp
    · have : r = [] := by simpa using hr
      subst this
      exact And.intro (fun e => by cases e) (fun e => by cases e)
  have e0 : (PySem.Str.ofString "").cps.toList = [] := by decide +kernel
  have e1 : (PySem.Str.ofString "\r\n").cps.toList = [13, 10] := by decide +kernel
  show (dots true (crlf (mixed prs turn).cps.toList)).toArray.toList = _
  rw [mixed_list, crlf_mix _ _ hF, dots_rows _ hF, flat_jl]
  unfold textOf
  rw [toList_jl, e1]
  congr 1
  simp only [List.map_append, List.map_map, List.map_cons, List.map_nil, e0]
  have e2 : (prs.map (dotL ∘ fun p => (rowOf p).cps.toList)) = prs.map ((fun (x : Str) => x.cps.toList) ∘ rowOf ∘ dotted) := List.map_congr_left fun p _ => dotted_row.symm
  rw [e2]
  simp [dotL]


section
variable {X : Cx} {ps : PySem.Params} {τ : Store} {Q : D → Store → Prop} {n : Nat} {sk : Sk} {ρ : Str → Option D}
theorem g_min (ps) : nsIn (hd.heap_39 ps) mainGlobals "min" = some none := by kernel_rfl
theorem call_min {p pos : Pos} {args : List Expr} {kws : List Keyword} (hK : X.K = hd.heap_39 ps) (ha : plainArgs args = true) (hw : plainKws kws = true) (hk : globOk sk "min" = true)
    (h : Evs X n sk ρ τ args (fun ds τ₁ => Kws X n sk ρ τ₁ kws (fun ks τ₂ => (kwNames kws).length = ks.length ∧ CallV X n (.builtin "min") ds ((kwNames kws).zip ks) τ₂ Q))) : Ev X n sk ρ τ (.Call (.Name "min" p) args kws pos) Q :=
  ev_call ha hw (fun h => ev_bui (by rw [hK]; exact g_min ps) (by kernel_rfl) hk h) (keepable_builtin _) h
theorem m_add_header {a l : Addr} {K : Value → Prop} (L : L3 X ps) (h : K (.ref 205)) : MethP X n (.hdr a l) "add_header" τ K :=
  m_hdr (hd3 L) (by rw [L.K, L.C]; kernel_rfl) (by rw [L.K]; kernel_rfl) (by rw [L.K]; kernel_rfl) (fun hs t l n => by kernel_rfl) h
theorem set_hdr3 {x l : Addr} {i v : D} {P : Store → Prop} (L : L3 X ps) (h : CallV X n (.ref 121) [.hdr x l, i, v] [] τ (fun _ τ' => P τ')) : Do3 X n setItem (.hdr x l) i v τ P :=
  set_hdrI (by rw [L.K, L.C]; kernel_rfl) (by rw [L.K, L.C]; kernel_rfl) (by rw [L.K]; kernel_rfl) h
theorem del_hdr3 {x l : Addr} {i : D} {P : Store → Prop} (L : L3 X ps) (h : CallV X n (.ref 126) [.hdr x l, i] [] τ (fun _ τ' => P τ')) : Do2 X n delItem (.hdr x l) i τ P :=
  del_hdrI (by rw [L.K, L.C]; kernel_rfl) (by rw [L.K, L.C]; kernel_rfl) (by rw [L.K]; kernel_rfl) h
end
local macro_rules | `(tactic| walk_at "st") => firstOf "call_min/akkk m_items/a m_add_header/a ex_setSub ex_delSub"

section
variable {X : Cx} {ps : PySem.Params} {τ : Store} {Q : D → Store → Prop} {n : Nat} {a l : Addr} {prs : List (Str × Str)}
noncomputable def F205 : FuncData := fnAt (hd.heap_39 ps0) 205
theorem fn205 (ps) : fnAt (hd.heap_39 ps) 205 = F205 := by kernel_rfl
theorem ok205 (ps) : fnOk (hd.heap_39 ps) 205 F205 = true := by kernel_rfl
theorem bind_add (a b c : Value) : bindArgs F205 ⟨[a, b, c], []⟩ = (do let d ← alloc { cls := .type "dict", data := .dict #[] }; pure [("self", a), ("_name", b), ("_value", c), ("_params", .ref d)]) := by kernel_rfl

theorem h_add (L : L3 X ps) {nm v : Str} (hl : τ l = some (prs.map pairD)) (hT : prs.length ≤ 1000) (hcn : clean nm) (hcv : clean v)
    (h : ∀ τ', τ' l = some ((prs ++ [(nm, v)]).map pairD) → (∀ b ds, b ≠ l → τ b = some ds → τ' b = some ds) → Q .none τ') : CodeV X 20 (.ref 205) [.hdr a l, .str nm, .str v] [] τ Q := by
  have hK := L.K
  intro A s vs ws R O rv rw'
  obtain ⟨va, _, rfl, ra, rv⟩ := rv.inv
  obtain ⟨vb, _, rfl, rb, rv⟩ := rv.inv
  obtain ⟨vc, _, rfl, rc, rv⟩ := rv.inv
  obtain rfl := rv.nil_inv
  obtain rfl := rw'.nil_inv
  have hmod : (s.heap.objs.size == sysModules) = false := by
    obtain ⟨o, es, ep, ho, _⟩ := X.top.g.keeps O.base
    have := Heap.lt_size ho
    refine beq_eq_false_iff_ne.mpr fun e => ?_
    rw [e] at this
    revert this
    decide
  refine code_fn_base (fd := F205) (ks := []) (ws := []) (bds := [("self", .hdr a l), ("_name", .str nm), ("_value", .str v), ("_params", .val (.ref s.heap.objs.size))]) (Ph := fun h => h.get? s.heap.objs.size = some emptyDict) (by rw [hK]; exact fn205 ps) (by rw [hK]; exact ok205 ps) (fun E QQ q => ?_) (by kernel_rfl) R O
    fun env s' h₁ ph k1 k2 R' O' F' ni o g _ => ?_
  · show wpAny _ _ (bindArgs F205 ⟨[va, vb, vc], []⟩) _ _ _
    rw [bind_add]
    refine wpAny_bind (wpAny_alloc (wpAny_pure ?_))
    have k : ∀ b o, s.heap.get? b = some o → (s.heap.push emptyDict).get? b = some o := fun b o e => Heap.get?_push_of_some _ e
    have S : Steps τ s.heap τ (s.heap.push emptyDict) := ⟨fun b o e _ => k b o e, fun _ k => .inl k⟩
    exact q _ (s.heap.push emptyDict) s.toks (.cons (ra.step S) (.cons (rb.step S) (.cons (rc.step S) (.cons (.val _) .nil)))) k (Heap.get?_push_size _ rfl)
  simp only [bindD] at F'
  have h0 : ∀ b, InFr env b → s.heap.get? b = none := fun b i => by
    cases p : s.heap.get? b with
    | none => rfl
    | some o => rw [← k1 b o p, ni b i]
  refine wpAny_mono (execs_pre0 (a := s.heap.objs.size) (pre := [_, _]) (rest := [_]) (QS := RetQ Q) rfl (by decide +kernel) (by decide +kernel) rfl R' O' F' (k2 _ _ ph) O.offNew (fun i => by rw [ni _ i] at ph; cases ph) hmod ?_) (fun f s₃ P => by have := P.out (fun b o e => k2 b o (k1 b o e)) h0 o g; cases f <;> exact this) fun _ _ e => e
  refine ex_seq (ex_assign (by with_unfolding_all rfl) (by kernel_rfl) (ev_listOwn (evs_nil ⟨by rw [sizeLine_eq]; exact Nat.zero_le _, fun pa hpa => ?_⟩)))
  have hlp : l ≠ pa := by rintro rfl; rw [hl] at hpa; cases hpa
  refine seq_next (ex_seq ?_)
  walk_at "w"
  refine t2_isNot (b := false) rfl ?_
  walk_at "w"
  refine CallV.room (CodeV.call (convert L hcv ?_)) (by omega)
  walk_at "w"
  refine m_append put_same ?_
  walk_at "w"
  refine c_append (ds := []) put_same (by rw [sizeLine_eq]; exact Nat.zero_le _) ?_
  walk_at "w"
  have hl2 : put (put τ pa []) pa ([] ++ [D.str v]) l = some (prs.map pairD) := by rw [put_other hlp, put_other hlp]; exact hl
  refine m_append hl2 ?_
  walk_at "w"
  refine CallV.room (CodeV.call (convert L hcn ?_)) (by omega)
  walk_at "w"
  have ej : Txt.join (PySem.Str.ofString "; ") [v] = v := by apply str_ext; rw [toList_jl]; rfl
  have hv1 := hcv.1
  refine c_join (xs := [v]) (.own put_same) (joinOk_of ?_) ?_
  · have e2 : (PySem.Str.ofString "; ").length = 2 := by decide +kernel
    rw [e2]
    show v.cps.size + 0 + 1 * 2 ≤ _
    omega
  rw [ej]
  walk_at "w"
  refine c_append hl2 (by rw [List.length_map, sizeLine_eq]; omega) ?_
  walk_at "w"
  refine h _ ?_ fun b ds hb e => ?_
  · rw [put_same, List.map_append]; rfl
  · have hbp : b ≠ pa := by rintro rfl; rw [hpa] at e; cases e
    rw [put_other hb, put_other hbp, put_other hbp]; exact e
end


section
variable {X : Cx} {ps : PySem.Params} {τ : Store} {Q : D → Store → Prop} {n : Nat} {a l : Addr} {prs : List (Str × Str)}
noncomputable def F172 : FuncData := fnAt (hd.heap_39 ps0) 172
theorem fn172 (ps) : fnAt (hd.heap_39 ps) 172 = F172 := by kernel_rfl
theorem ok172 (ps) : fnOk (hd.heap_39 ps) 172 F172 = true := by kernel_rfl
noncomputable def F126 : FuncData := fnAt (hd.heap_39 ps0) 126
theorem fn126 (ps) : fnAt (hd.heap_39 ps) 126 = F126 := by kernel_rfl
theorem ok126 (ps) : fnOk (hd.heap_39 ps) 126 F126 = true := by kernel_rfl

theorem pick_all {α : Type} (ds : List α) : pick ds none none none = ds := by
  rw [pick_nat]
  simp [kms_lo, kms_hi]
theorem h_items (L : L3 X ps) (hl : τ l = some (prs.map pairD)) (hT : prs.length ≤ 1000) (h : Q (.list (prs.map pairD)) τ) : CodeV X 9 (.ref 172) [.hdr a l] [] τ Q := by
  have hK := L.K
  refine codeV_fnQ (fd := F172) (bds := [("self", .hdr a l)]) (by rw [hK]; exact fn172 ps) (by rw [hK]; exact ok172 ps) (bindV_1 fun S v => by rw [hK]; kernel_rfl) (by kernel_rfl) ?_
  simp only [bindD]
  refine ex_seq ?_
  walk_at "w"
  refine ⟨by show (τ l).isSome = true; rw [hl]; rfl, t2_slice (.own hl) (by decide) (by rw [List.length_map, sizeLine_eq]; omega) ?_⟩
  rw [pick_all]
  walk_at "w"
  exact h

theorem h_del (L : L3 X ps) {nm : Str} (hl : τ l = some (prs.map pairD)) (hT : Tab prs) (hn : nm.length ≤ 100000) (hc : clean (Txt.lower nm))
    (h : Q .none (put τ l ((prs.filter fun p => low p.1 != low nm).map pairD))) : CodeV X 18 (.ref 126) [.hdr a l, .str nm] [] τ Q := by
  have hK := L.K
  refine codeV_fnQ (fd := F126) (bds := [("self", .hdr a l), ("name", .str nm)]) (by rw [hK]; exact fn126 ps) (by rw [hK]; exact ok126 ps) (bindV_2 fun S v w => by rw [hK]; kernel_rfl) (by kernel_rfl) ?_
  simp only [bindD]
  refine ex_seq ?_
  walk_at "w"
  refine c_lower (by omega) ?_
  walk_at "w"
  refine CallV.room (CodeV.call (convert L hc ?_)) (by omega)
  walk_at "w"
  refine comp_of prs pairD (fun p => low p.1 != low nm) pairD pair_inj rfl (.own hl) (by rw [List.length_map, sizeLine_eq]; have := hT.1; omega) (fun σ p _ hp => ?_) ?_
  · obtain ⟨k, v⟩ := p
    have hk : k.length ≤ 100000 := (hT.2 _ hp).1
    refine compA_of (by kernel_rfl) (ifs1 ?_)
    walk_at "w"
    refine t2_itemT (by omega) (by omega) (j := 0) (by rfl) (d := D.str k) (by rfl) ?_
    walk_at "w"
    refine c_lower (by omega) ?_
    walk_at "w"
    intro _
    walk_at "w"
    rfl
  walk_at "w"
  refine set_all hl (by rw [List.length_map]; have := hT.1; omega) (by rw [List.length_map]; have := List.length_filter_le (fun p => low p.1 != low nm) prs; have := hT.1; omega) ?_
  walk_at "w"
  exact h
end


section
variable {X : Cx} {ps : PySem.Params} {τ : Store} {Q : D → Store → Prop} {n : Nat} {a l : Addr} {prs : List (Str × Str)}
noncomputable def F121 : FuncData := fnAt (hd.heap_39 ps0) 121
theorem fn121 (ps) : fnAt (hd.heap_39 ps) 121 = F121 := by kernel_rfl
theorem ok121 (ps) : fnOk (hd.heap_39 ps) 121 F121 = true := by kernel_rfl

theorem h_set (L : L3 X ps) {nm v : Str} (hl : τ l = some (prs.map pairD)) (hT : Tab prs) (hn : nm.length ≤ 100000) (hc : clean (Txt.lower nm)) (hcn : clean nm) (hcv : clean v)
    (h : Q .none (put τ l (((prs.filter fun p => low p.1 != low nm) ++ [(nm, v)]).map pairD))) : CodeV X 25 (.ref 121) [.hdr a l, .str nm, .str v] [] τ Q := by
  have hK := L.K
  refine codeV_fnQ (fd := F121) (bds := [("self", .hdr a l), ("name", .str nm), ("val", .str v)]) (by rw [hK]; exact fn121 ps) (by rw [hK]; exact ok121 ps) (bindV_3 fun S v w u => by rw [hK]; kernel_rfl) (by kernel_rfl) ?_
  simp only [bindD]
  refine ex_seq ?_
  walk_at "w"
  refine del_hdr3 L (CallV.room (CodeV.call (h_del L hl hT hn hc ?_)) (by omega))
  refine seq_next ?_
  walk_at "w"
  refine m_append put_same ?_
  walk_at "w"
  refine CallV.room (CodeV.call (convert L hcn ?_)) (by omega)
  walk_at "w"
  refine CallV.room (CodeV.call (convert L hcv ?_)) (by omega)
  walk_at "w"
  have hf := List.length_filter_le (fun p => low p.1 != low nm) prs
  refine c_append put_same (by rw [List.length_map, sizeLine_eq]; have := hT.1; omega) ?_
  walk_at "w"
  rw [put_put]
  rw [List.map_append] at h
  exact h
end


noncomputable def intsD (l : List Nat) : D := .list (l.map fun (k : Nat) => D.int k)
noncomputable def wordsD (l : List Nat) : D := .list (l.map fun k => D.str (word k))
theorem okDs_map {α : Type} {f : α → D} : ∀ {l : List α}, (∀ x ∈ l, okD (f x) = true) → okDs (l.map f) = true
  | [], _ => rfl
  | x :: l, h => by
    show (okD (f x) && okDs (l.map f)) = true
    rw [h x (.head _), okDs_map fun y hy => h y (.tail _ hy)]; rfl
theorem deps_map {α : Type} {f : α → D} {k : Nat} : ∀ {l : List α}, (∀ x ∈ l, dep (f x) ≤ k) → deps (l.map f) ≤ k
  | [], _ => Nat.zero_le _
  | x :: l, h => by
    show max (dep (f x)) (deps (l.map f)) ≤ k
    exact Nat.max_le.mpr ⟨h x (.head _), deps_map fun y hy => h y (.tail _ hy)⟩
theorem figs_mem : ∀ {m c : Nat}, c ∈ figs m → 65 ≤ c ∧ c < 81 := by
  intro m
  induction m using Nat.strongRecOn with
  | _ m ih =>
    intro c h
    rw [figs] at h
    split at h
    · cases h
    · rename_i hm
      rcases List.mem_append.mp h with h | h
      · exact ih (m / 16) (by omega) h
      · have := List.mem_singleton.mp h
        omega
theorem word_list (m : Nat) : (word m).cps.toList = figs m := rfl
theorem strOk_of {x : Str} (h : ∀ c ∈ x.cps.toList, c < 1114112) : PyData.strOk x = true := by
  unfold PyData.strOk
  rw [Array.all_eq_true']
  intro c hc
  exact decide_eq_true (h c (Array.mem_toList_iff.mpr hc))
theorem word_ok (m : Nat) : PyData.strOk (word m) = true := strOk_of fun c hc => by have := figs_mem (show c ∈ figs m from hc); omega
theorem figB_word (m : Nat) : (⟨(figB m).map (·.toNat)⟩ : Str) = word m := by
  apply str_ext
  unfold figB word
  simp only [List.map_toArray, List.map_map]
  conv => rhs; rw [← List.map_id (figs m)]
  refine List.map_congr_left fun c hc => ?_
  have := figs_mem hc
  show (UInt8.ofNat c).toNat = c
  rw [UInt8.toNat_ofNat']
  omega
theorem sgn_bits : ∀ t : Nat, t < 8 → Builtin.Int.intBits ((-1) ^ t) ≤ 64 := by decide +kernel
theorem sgn_ok (a : Int) (t : Nat) (h : t < 8) : IntMulOk a ((-1) ^ t) := IntMulOk.of_right (sgn_bits t h)
theorem sgn_abs (a : Nat) (t : Nat) : ((a : Int) * (-1) ^ t).natAbs = a := by
  rw [Int.natAbs_mul, Int.natAbs_pow]; simp
section
variable {X : Cx} {τ : Store} {Q : D → Store → Prop} {n : Nat}
theorem t2_itemN {α : Type} {l : List α} {f : α → D} {k : Nat} (d₀ : α) (hk : k < l.length) (hb : l.length < 2 ^ 62) (h : Q (f (l.getD k d₀)) τ) : T2 X n getItem (.list (l.map f)) (.int (k : Int)) τ Q := by
  refine t2_item .list (by omega) (by omega) (j := k) (seqIndex_nat (by rw [List.length_map]; exact hk)) (d := f (l.getD k d₀)) ?_ h
  rw [List.getElem?_map, List.getElem?_eq_getElem hk, List.getD_eq_getElem?_getD, List.getElem?_eq_getElem hk]
  rfl
theorem c_decW {m : Nat} (hm : m < 16 ^ 40) (h : Q (.str (word m)) τ) : CallV X n (.builtin "bytes.decode") [.bytes (figB m), .str (PySem.Str.ofString "ascii")] [] τ Q := by
  refine c_decode (fun p hp => ?_) ?_ (by rw [figB_word]; exact h)
  · unfold figB at hp ⊢
    simp only [List.size_toArray, List.length_map] at hp
    have hc : (figs m)[p] ∈ figs m := List.getElem_mem hp
    have := figs_mem hc
    simp only [Array.getD_eq_getD_getElem?, List.getElem?_toArray, List.getElem?_map, List.getElem?_eq_getElem hp, Option.map_some, Option.getD_some, UInt8.toNat_ofNat']
    omega
  · unfold figB
    rw [List.size_toArray, List.length_map, sizeLine_eq]
    have := figs_len 40 m hm
    omega
end
theorem word_len {m : Nat} (h : m < 10 ^ 12) : (word m).length ≤ 10 := by
  show (figs m).toArray.size ≤ 10
  rw [List.size_toArray]
  exact figs_len 10 m (by omega)
theorem dot_list : (PySem.Str.ofString ".").cps.toList = [46] := by decide +kernel
theorem dot_size : (PySem.Str.ofString ".").length = 1 := by decide +kernel
noncomputable def forBody : Stmt → List Stmt
  | .For _ _ b _ _ => b
  | _ => []
noncomputable def ifBody : Stmt → List Stmt
  | .If _ b _ _ => b
  | _ => []
noncomputable def hd0 : List Stmt → Stmt
  | s :: _ => s
  | [] => .Pass default
noncomputable def goodC (c : Nat) : Prop := c = 46 ∨ (65 ≤ c ∧ c ≤ 122)
noncomputable def Good (x : Str) (k : Nat) : Prop := x.cps.toList.length ≤ k ∧ ∀ c ∈ x.cps.toList, goodC c
theorem good_adm {c : Nat} (h : goodC c) : admN c = false ∧ admV c = false := by
  have key : ∀ c : Nat, c < 123 → (c = 46 ∨ 65 ≤ c) → admN c = false ∧ admV c = false := by decide +kernel
  unfold goodC at h
  exact key c (by omega) (by omega)
theorem Good.clean {x : Str} {k : Nat} (h : Good x k) (hk : k ≤ 1000) : clean x := by
  refine ⟨?_, fun a ha => (good_adm (h.2 a ha)).1, fun a ha => (good_adm (h.2 a ha)).2⟩
  have := h.1
  rw [Array.length_toList] at this
  omega
theorem good_word {m : Nat} (h : m < 10 ^ 12) : Good (word m) 10 := by
  refine ⟨?_, fun c hc => ?_⟩
  · rw [word_list]; exact figs_len 10 m (by omega)
  · rw [word_list] at hc
    have := figs_mem hc
    right; omega
theorem row_list (p : Str × Str) : (rowOf p).cps.toList = p.1.cps.toList ++ [58, 32] ++ p.2.cps.toList := by
  unfold rowOf
  rw [toList_app, toList_app]
  have e : (PySem.Str.ofString ": ").cps.toList = [58, 32] := by decide +kernel
  rw [e]
theorem row_facts {p : Str × Str} {j k : Nat} (h1 : Good p.1 j) (h2 : Good p.2 k) : (rowOf p).length ≤ j + k + 2 ∧ Free (rowOf p).cps.toList ∧ 58 ∉ p.1.cps.toList ∧ 58 ∉ p.2.cps.toList := by
  have key : ∀ c ∈ (rowOf p).cps.toList, c = 58 ∨ c = 32 ∨ goodC c := fun c hc => by
    rw [row_list] at hc
    rcases List.mem_append.mp hc with hc | hc
    · rcases List.mem_append.mp hc with hc | hc
      · exact .inr (.inr (h1.2 c hc))
      · simp at hc; omega
    · exact .inr (.inr (h2.2 c hc))
  refine ⟨?_, ⟨fun h => ?_, fun h => ?_⟩, fun h => ?_, fun h => ?_⟩
  · rw [length_list, row_list, List.length_append, List.length_append]
    have := h1.1
    have := h2.1
    simp only [List.length_cons, List.length_nil]
    omega
  · exact absurd (key _ h) (by unfold goodC; decide)
  · exact absurd (key _ h) (by unfold goodC; decide)
  · exact absurd (h1.2 _ h) (by unfold goodC; decide)
  · exact absurd (h2.2 _ h) (by unfold goodC; decide)
theorem crlf_two : ∀ t : List Nat, (crlf t).length ≤ 2 * t.length := by
  intro t
  induction hn : t.length using Nat.strongRecOn generalizing t with
  | _ n ih =>
    subst hn
    cases t with
    | nil => simp [crlf]
    | cons c r =>
      rw [crlf]
      split
      · have h0 : (if r.head? = some 10 then r.tail else r).length ≤ r.length := by
          split
          · rw [List.length_tail]; omega
          · exact Nat.le_refl _
        have := ih _ (by rw [List.length_cons]; omega) (if r.head? = some 10 then r.tail else r) rfl
        simp only [List.length_cons]
        omega
      · split
        · have := ih _ (by rw [List.length_cons]; omega) r rfl
          simp only [List.length_cons]
          omega
        · have := ih _ (by rw [List.length_cons]; omega) r rfl
          simp only [List.length_cons]
          omega
theorem good_ok {x : Str} {k : Nat} (h : Good x k) : PyData.strOk x = true := strOk_of fun c hc => by have := h.2 c hc; unfold goodC at this; omega
theorem len1 {α : Type} (x : α) : [x].length ≤ sizeLine := by rw [sizeLine_eq]; show 1 ≤ _; omega
theorem figs_pos {m : Nat} (h : m ≠ 0) : figs m = figs (m / 16) ++ [65 + m % 16] := by rw [figs, dif_neg h]
theorem figs_zero : figs 0 = [] := by rw [figs]; simp
theorem lex_snoc : ∀ {a b : List Nat} {x y : Nat}, a.length = b.length → ((a ++ [x] < b ++ [y]) ↔ (a < b ∨ (a = b ∧ x < y)))
  | [], [], x, y, _ => by simp [List.cons_lt_cons_iff]
  | [], _ :: _, _, _, h => by simp at h
  | _ :: _, [], _, _, h => by simp at h
  | p :: a, q :: b, x, y, hl => by
    have ih := lex_snoc (a := a) (b := b) (x := x) (y := y) (by simpa using hl)
    rw [List.cons_append, List.cons_append, List.cons_lt_cons_iff, List.cons_lt_cons_iff, ih]
    constructor
    · rintro (h | ⟨rfl, h | ⟨rfl, h⟩⟩)
      · exact .inl (.inl h)
      · exact .inl (.inr ⟨rfl, h⟩)
      · exact .inr ⟨rfl, h⟩
    · rintro ((h | ⟨rfl, h⟩) | ⟨h, h2⟩)
      · exact .inl h
      · exact .inr ⟨rfl, .inl h⟩
      · cases h; exact .inr ⟨rfl, .inr ⟨rfl, h2⟩⟩
theorem lin16 {a b c d : Nat} (hc : c < 16) (hd : d < 16) : 16 * a + c < 16 * b + d ↔ a < b ∨ (a = b ∧ c < d) := by
  have key : ∀ {a b c d : Nat}, c < 16 → a < b → 16 * a + c < 16 * b + d := fun {a b c d} hc h => Nat.lt_of_lt_of_le (Nat.add_lt_add_left hc _) (Nat.le_trans (Nat.mul_le_mul_left 16 (show a + 1 ≤ b from h)) (Nat.le_add_right _ _))
  rcases Nat.lt_trichotomy a b with h | h | h
  · exact iff_of_true (key hc h) (.inl h)
  · subst h
    exact ⟨fun q => .inr ⟨rfl, Nat.lt_of_add_lt_add_left q⟩, fun q => q.elim (fun z => absurd z (Nat.lt_irrefl _)) fun z => Nat.add_lt_add_left z.2 _⟩
  · exact ⟨fun q => absurd q (Nat.lt_asymm (key hd h)), fun q => q.elim (fun z => absurd z (Nat.lt_asymm h)) fun z => absurd z.1 (Nat.ne_of_gt h)⟩
theorem key16 (m n : Nat) : m < n ↔ m / 16 < n / 16 ∨ (m / 16 = n / 16 ∧ m % 16 < n % 16) := by
  have h := lin16 (a := m / 16) (b := n / 16) (Nat.mod_lt m (by decide : 16 > 0)) (Nat.mod_lt n (by decide : 16 > 0))
  rwa [Nat.div_add_mod, Nat.div_add_mod] at h
theorem figs_ord : ∀ (n m : Nat), (m < n ↔ ((figs m).length < (figs n).length ∨ ((figs m).length = (figs n).length ∧ figs m < figs n))) ∧ (m = n ↔ figs m = figs n) := by
  intro n
  induction n using Nat.strongRecOn with
  | _ n ih =>
    intro m
    by_cases hn : n = 0
    · subst hn
      by_cases hm : m = 0
      · subst hm; simp
      · rw [figs_pos hm, figs_zero]; simp [hm]
    · by_cases hm : m = 0
      · subst hm
        rw [figs_pos hn, figs_zero]
        refine ⟨⟨fun _ => .inl (by simp), fun _ => by omega⟩, ⟨fun e => absurd e.symm hn, fun e => by simp at e⟩⟩
      · obtain ⟨i1, i2⟩ := ih (n / 16) (by omega) (m / 16)
        rw [figs_pos hn, figs_pos hm]
        constructor
        · rw [List.length_append, List.length_append, List.length_singleton, List.length_singleton]
          by_cases hl : (figs (m / 16)).length = (figs (n / 16)).length
          · rw [lex_snoc hl]
            have key : m < n ↔ m / 16 < n / 16 ∨ (m / 16 = n / 16 ∧ m % 16 < n % 16) := key16 m n
            rw [key, i1, i2]
            constructor
            · rintro ((h | h) | ⟨h, h2⟩)
              · omega
              · exact .inr ⟨by omega, .inl h.2⟩
              · exact .inr ⟨by omega, .inr ⟨h, by omega⟩⟩
            · rintro (h | ⟨_, h | ⟨h, h2⟩⟩)
              · omega
              · exact .inl (.inr ⟨hl, h⟩)
              · exact .inr ⟨h, by omega⟩
          · have hne : m / 16 ≠ n / 16 := fun e => hl (by rw [e])
            have key : m < n ↔ m / 16 < n / 16 := (key16 m n).trans ⟨fun h => h.elim id fun h => absurd h.1 hne, .inl⟩
            rw [key, i1]
            constructor
            · rintro (h | h)
              · exact .inl (by omega)
              · exact absurd h.1 hl
            · rintro (h | h)
              · exact .inl (by omega)
              · exact absurd (by omega) hl
        · constructor
          · rintro rfl; rfl
          · intro e
            have e2 := List.append_inj' e rfl
            have := i2.mpr e2.1
            have h3 := e2.2
            simp at h3
            omega
theorem figs_inj {m n : Nat} (h : figs m = figs n) : m = n := (figs_ord n m).2.mpr h
theorem log_ok {k : Nat} (h0 : 0 < k) (h : k ≤ 1000) : ((k : Int)).natAbs.log2 < 9000 := by
  rw [Int.natAbs_natCast]
  have := (Nat.log2_lt (n := k) (k := 10) (by omega)).mpr (by omega)
  omega
theorem rep_inj {A B : List Nat} (hA : 46 ∉ A) (hB : 46 ∉ B) : ∀ {a b : Nat}, List.replicate a 46 ++ A = List.replicate b 46 ++ B → a = b ∧ A = B
  | 0, 0, h => ⟨rfl, by simpa using h⟩
  | 0, b + 1, h => by
    rw [List.replicate_succ] at h
    simp at h
    exact absurd (h ▸ List.mem_cons_self) hA
  | a + 1, 0, h => by
    rw [List.replicate_succ] at h
    simp at h
    exact absurd (h ▸ List.mem_cons_self) hB
  | a + 1, b + 1, h => by
    rw [List.replicate_succ, List.replicate_succ] at h
    simp only [List.cons_append, List.cons.injEq, true_and] at h
    obtain ⟨e, f⟩ := rep_inj hA hB h
    exact ⟨by rw [e], f⟩
theorem low_list {x : Str} (h : ∀ c ∈ x.cps.toList, c < 128) : low x = x.cps.toList.map lo1 := by
  unfold low
  rw [lower_ascii h]
  simp
theorem dots_mul : ∀ m : Nat, m < 8 → (Txt.mul (PySem.Str.ofString ".") ((m : Nat) : Int)).cps.toList = List.replicate m 46 := by decide +kernel
theorem dots_ok : ∀ m : Nat, m < 8 → MulOk (PySem.Str.ofString ".") ((m : Nat) : Int) := by
  unfold MulOk
  decide +kernel
theorem lo_lo (c : Nat) : lo1 (lo1 c) = lo1 c := by
  unfold lo1
  split <;> (try split) <;> omega
theorem nodup_le {α : Type} [DecidableEq α] : ∀ {l r : List α}, l.Nodup → (∀ x ∈ l, x ∈ r) → l.length ≤ r.length
  | [], _, _, _ => Nat.zero_le _
  | x :: l, r, hn, h => by
    have hx := h x (.head _)
    have h1 := nodup_le (l := l) (r := r.erase x) (List.nodup_cons.mp hn).2 fun y hy => (List.mem_erase_of_ne fun e => (List.nodup_cons.mp hn).1 (by rw [← e]; exact hy)).mpr (h y (.tail _ hy))
    rw [List.length_erase_of_mem hx] at h1
    have : 0 < r.length := List.length_pos_of_mem hx
    simp only [List.length_cons]
    omega
theorem nodup_perm {α : Type} [DecidableEq α] : ∀ {l r : List α}, l.Nodup → r.Nodup → (∀ x, x ∈ l ↔ x ∈ r) → l.Perm r
  | [], r, _, _, h => by
    cases r with
    | nil => exact .refl _
    | cons x r => exact nomatch (h x).mpr (.head _)
  | x :: l, r, hl, hr, h => by
    have hx := (h x).mp (.head _)
    refine (List.Perm.cons x (nodup_perm (l := l) (r := r.erase x) (List.nodup_cons.mp hl).2 (hr.erase x) fun y => ?_)).trans (List.perm_cons_erase hx).symm
    rw [hr.mem_erase_iff]
    constructor
    · intro hy
      exact ⟨fun e => (List.nodup_cons.mp hl).1 (by rw [← e]; exact hy), (h y).mp (.tail _ hy)⟩
    · rintro ⟨n, hy⟩
      rcases List.mem_cons.mp ((h y).mpr hy) with e | hy
      · exact absurd e n
      · exact hy

noncomputable def farStep (up : List Nat) (far : List (List Nat)) (p : Nat) : List (List Nat) :=
  ((List.range p).map fun q => far.getD q [] ++ [(far.getD (up.getD p 0) []).getD q 0 + 1]) ++ [((List.range p).map fun q => (far.getD (up.getD p 0) []).getD q 0 + 1) ++ [0]]
noncomputable def farU (up : List Nat) : Nat → List (List Nat)
  | 0 => [[0]]
  | k + 1 => farStep up (farU up k) (k + 1)
noncomputable def fd (far : List (List Nat)) (u v : Nat) : Nat := (far.getD u []).getD v 0
noncomputable def all5 (q : Nat → Bool) : Bool := q 0 && (q 1 && (q 2 && (q 3 && q 4)))
noncomputable def okT (far : List (List Nat)) : Bool :=
  (all5 fun u => all5 fun v => (fd far u v == fd far v u) && (decide (fd far u v ≤ 4) && (fd far u v == 0) == (u == v))) &&
  ((all5 fun u => all5 fun x => fd far u x != 1 || all5 fun p => if fd far p u < fd far p x then fd far p u + 1 == fd far p x && all5 fun q => decide (fd far q u ≤ fd far q x) || fd far p q == fd far p u + 1 + fd far x q else fd far p x + 1 == fd far p u) &&
  (all5 fun u => all5 fun v => u == v || !(all5 fun w => !(fd far u w == 1 && decide (fd far w v < fd far u v)))))
theorem trees_ok : ∀ a, a < 2 → ∀ b, b < 3 → ∀ c, c < 4 → okT (farU [0, 0, a, b, c] 4) = true := by decide +kernel

/-- the ways between the places of a tree -/
structure Tree (f : Nat → Nat → Nat) : Prop where
  sym : ∀ {u v}, u < 5 → v < 5 → f u v = f v u
  le : ∀ {u v}, u < 5 → v < 5 → f u v ≤ 4
  zero : ∀ {u v}, u < 5 → v < 5 → (f u v = 0 ↔ u = v)
  sep : ∀ {u x p}, u < 5 → x < 5 → p < 5 → f u x = 1 → f p u + 1 = f p x ∨ f p x + 1 = f p u
  via : ∀ {u x p q}, u < 5 → x < 5 → p < 5 → q < 5 → f u x = 1 → f p u < f p x → f q x < f q u → f p q = f p u + 1 + f x q
  to : ∀ {u v}, u < 5 → v < 5 → u ≠ v → ∃ w, w < 5 ∧ f u w = 1 ∧ f w v < f u v
theorem all5_iff {q : Nat → Bool} : all5 q = true ↔ ∀ i, i < 5 → q i = true := by
  unfold all5
  simp only [Bool.and_eq_true]
  constructor
  · rintro ⟨h0, h1, h2, h3, h4⟩ i hi
    match i, hi with
    | 0, _ => exact h0
    | 1, _ => exact h1
    | 2, _ => exact h2
    | 3, _ => exact h3
    | 4, _ => exact h4
  · exact fun h => ⟨h 0 (by decide), h 1 (by decide), h 2 (by decide), h 3 (by decide), h 4 (by decide)⟩
theorem tree_of {far : List (List Nat)} (h : okT far = true) : Tree (fd far) := by
  unfold okT at h
  obtain ⟨h1, h⟩ := Bool.and_eq_true_iff.mp h
  obtain ⟨h2, h3⟩ := Bool.and_eq_true_iff.mp h
  have k1 : ∀ {u v}, u < 5 → v < 5 → fd far u v = fd far v u ∧ fd far u v ≤ 4 ∧ ((fd far u v == 0) = (u == v)) := fun {u v} hu hv => by
    have := all5_iff.mp (all5_iff.mp h1 u hu) v hv
    rw [Bool.and_eq_true, Bool.and_eq_true, beq_iff_eq, decide_eq_true_eq, beq_iff_eq] at this
    exact this
  have k2 : ∀ {u x p}, u < 5 → x < 5 → p < 5 → fd far u x = 1 → (if fd far p u < fd far p x then fd far p u + 1 == fd far p x && all5 fun q => decide (fd far q u ≤ fd far q x) || fd far p q == fd far p u + 1 + fd far x q else fd far p x + 1 == fd far p u) = true := fun {u x p} hu hx hp h => by
    have := all5_iff.mp (all5_iff.mp h2 u hu) x hx
    rw [h, bne_self_eq_false, Bool.false_or] at this
    exact all5_iff.mp this p hp
  refine ⟨fun hu hv => (k1 hu hv).1, fun hu hv => (k1 hu hv).2.1, fun {u v} hu hv => ?_, fun {u x p} hu hx hp h => ?_, fun {u x p q} hu hx hp hq h h4 h5 => ?_, fun {u v} hu hv hne => ?_⟩
  · have := (k1 hu hv).2.2
    rw [← beq_iff_eq (a := fd far u v), this, beq_iff_eq]
  · have := k2 hu hx hp h
    split at this
    · exact .inl (beq_iff_eq.mp (Bool.and_eq_true_iff.mp this).1)
    · exact .inr (beq_iff_eq.mp this)
  · have := k2 hu hx hp h
    rw [if_pos h4] at this
    have := all5_iff.mp (Bool.and_eq_true_iff.mp this).2 q hq
    rw [Bool.or_eq_true, decide_eq_true_eq, beq_iff_eq] at this
    exact this.resolve_left (Nat.not_le_of_lt h5)
  · have := all5_iff.mp (all5_iff.mp h3 u hu) v hv
    rw [Bool.or_eq_true, beq_iff_eq] at this
    have := this.resolve_left hne
    rw [Bool.not_eq_true', ← Bool.not_eq_true, all5_iff] at this
    obtain ⟨w, hw⟩ := Classical.not_forall.mp this
    obtain ⟨h5, hw⟩ := Classical.not_imp.mp hw
    rw [Bool.not_eq_true', ← Bool.not_eq_true, Classical.not_not, Bool.and_eq_true, beq_iff_eq, decide_eq_true_eq] at hw
    exact ⟨w, h5, hw⟩

/-- the neighbour that is nearer, or the place itself -/
noncomputable def toward (f : Nat → Nat → Nat) (u v : Nat) : Nat := ((List.range 5).filter fun w => f u w == 1 && decide (f w v < f u v)).headD u
section
variable {f : Nat → Nat → Nat} {u v w : Nat}
theorem Tree.side (T : Tree f) {u x p : Nat} (hu : u < 5) (hx : x < 5) (hp : p < 5) (h : f u x = 1) (hn : ¬ f p u < f p x) : f p x < f p u := by
  have := T.sep hu hx hp h
  omega
theorem tw_self (T : Tree f) (hv : v < 5) : toward f v v = v := by
  have h0 := (T.zero hv hv).mpr rfl
  unfold toward
  rw [List.filter_eq_nil_iff.mpr fun w _ => by rw [h0]; simp]; rfl
theorem tw_adj (T : Tree f) (hu : u < 5) (hv : v < 5) (h : u ≠ v) : toward f u v < 5 ∧ f u (toward f u v) = 1 ∧ f (toward f u v) v < f u v := by
  obtain ⟨w, h5, h1, h2⟩ := T.to hu hv h
  have hm : w ∈ (List.range 5).filter fun w => f u w == 1 && decide (f w v < f u v) := List.mem_filter.mpr ⟨List.mem_range.mpr h5, by rw [h1, decide_eq_true h2]; rfl⟩
  unfold toward
  cases e : (List.range 5).filter fun w => f u w == 1 && decide (f w v < f u v) with
  | nil => rw [e] at hm; exact nomatch hm
  | cons c l =>
    have : c ∈ (List.range 5).filter fun w => f u w == 1 && decide (f w v < f u v) := by rw [e]; exact .head _
    obtain ⟨a, b⟩ := List.mem_filter.mp this
    rw [Bool.and_eq_true, beq_iff_eq, decide_eq_true_eq] at b
    exact ⟨List.mem_range.mp a, b⟩
theorem tw_uniq (T : Tree f) (hu : u < 5) (hv : v < 5) (hw : w < 5) (h1 : f u w = 1) (h2 : f w v < f u v) : toward f u v = w := by
  have hne : u ≠ v := by
    rintro rfl
    rw [(T.zero hu hu).mpr rfl] at h2
    exact absurd h2 (Nat.not_lt_zero _)
  obtain ⟨t5, t1, t2⟩ := tw_adj T hu hv hne
  generalize toward f u v = t at t5 t1 t2
  apply Classical.byContradiction
  intro htw
  have e1 := T.sym hu t5
  have e2 := T.sym hw hv
  have e3 := T.sym hu hv
  have h3 := T.sep hu hw t5 h1
  have h4 : f t w ≠ 0 := fun e => htw ((T.zero t5 hw).mp e)
  have h5 := T.via hu hw t5 hv h1 (by
    rcases h3 with h | h
    · exact h ▸ Nat.lt_succ_self _
    · exact (h4 (Nat.succ.inj (h.trans (e1.symm.trans t1)))).elim) (by rw [← e2, ← e3]; exact h2)
  rw [e1] at t1
  rw [h5, t1] at t2
  rcases T.sep hu hw hv h1 with h | h
  · rw [← e2, ← e3] at h
    exact Nat.lt_asymm h2 (h ▸ Nat.lt_succ_self _)
  · rw [← e2, ← e3] at h
    rw [← h] at t2
    exact absurd t2 (Nat.not_lt.mpr (by rw [Nat.add_comm (1 + 1)]; exact Nat.le_succ _))
end

theorem pair_of {l r : List Nat} {a b : Nat} (ha : a ∈ l) (hb : b ∈ r) : [a, b].Sublist (l ++ r) := (List.singleton_sublist.mpr ha).append (List.singleton_sublist.mpr hb)
theorem ord_contra : ∀ {L : List Nat} {a b : Nat}, L.Nodup → [a, b].Sublist L → [b, a].Sublist L → False
  | [], _, _, _, h, _ => nomatch h
  | c :: L, a, b, hn, h1, h2 => by
    obtain ⟨n1, n2⟩ := List.nodup_cons.mp hn
    cases h1 with
    | cons _ h1 =>
      cases h2 with
      | cons _ h2 => exact ord_contra n2 h1 h2
      | cons_cons _ h2 => exact n1 (h1.subset (.tail _ (.head _)))
    | cons_cons _ h1 =>
      cases h2 with
      | cons _ h2 => exact n1 (h2.subset (.tail _ (.head _)))
      | cons_cons _ h2 => exact n1 (h1.subset (.head _))

/-- who has been where, in its order -/
structure Vis (f : Nat → Nat → Nat) (as : Nat → Nat) (n : Nat) (V : Nat → List Nat) (L : List Nat) : Prop where
  nd : L.Nodup
  mem : ∀ w, w ∈ L ↔ w < n
  sub : ∀ p, p < 5 → (V p).Sublist L
  zero : ∀ p, p < 5 → 0 ∈ V p
  own : ∀ w, w < n → w ∈ V (as w)
  conv : ∀ {u x p q w}, u < 5 → x < 5 → p < 5 → q < 5 → f u x = 1 → f p u < f p x → f q x < f q u → w ∈ V p → w ∈ V q → w ∈ V u ∧ w ∈ V x
  same : ∀ {v w}, v < w → w < n → as v = as w → [v, w].Sublist (V (as w))
/-- a mail on its way: from u to x, of the wish w -/
noncomputable def Mail (f : Nat → Nat → Nat) (as : Nat → Nat) (n : Nat) (V : Nat → List Nat) (x d w u : Nat) : Prop :=
  x < 5 ∧ u < 5 ∧ f u x = 1 ∧ 1 ≤ w ∧ w < n ∧ d = f (as w) x + 1 ∧ w ∉ V x ∧ ∃ α g β, V u = α ++ g :: w :: β ∧ g ∈ V x ∧ f (as g) x < f (as g) u ∧ ∀ c ∈ β, c ∉ V x
/-- a wish that has found the one ahead of it -/
noncomputable def Found (f : Nat → Nat → Nat) (as : Nat → Nat) (n : Nat) (V : Nat → List Nat) (w d g : Nat) : Prop :=
  1 ≤ w ∧ w < n ∧ g < n ∧ d = f (as w) (as g) + 1 ∧ ∃ α β, V (as g) = α ++ g :: w :: β
noncomputable def Arrow (f : Nat → Nat → Nat) (as : Nat → Nat) (V : Nat → List Nat) (ar : Nat → Nat) (tl : Nat → Option Nat) (p : Nat) : Prop :=
  ∃ α g, V p = α ++ [g] ∧ ar p = toward f p (as g) ∧ (as g = p → tl p = some g)

section
variable {f : Nat → Nat → Nat} {as : Nat → Nat} {n : Nat} {V : Nat → List Nat} {L : List Nat}
theorem Vis.ord (H : Vis f as n V L) {p q a b : Nat} (hp : p < 5) (hq : q < 5) (h1 : [a, b].Sublist (V p)) (h2 : [b, a].Sublist (V q)) : False := ord_contra H.nd (h1.trans (H.sub p hp)) (h2.trans (H.sub q hq))
theorem Vis.lt (H : Vis f as n V L) {p w : Nat} (hp : p < 5) (h : w ∈ V p) : w < n := (H.mem w).mp ((H.sub p hp).subset h)
theorem Vis.vnd (H : Vis f as n V L) {p : Nat} (hp : p < 5) : (V p).Nodup := H.nd.sublist (H.sub p hp)
/-- whoever has been at both ends came from where it asks -/
theorem Vis.both (H : Vis f as n V L) (T : Tree f) (ha : ∀ w, as w < 5) {u x w : Nat} (hu : u < 5) (hx : x < 5) (h : f u x = 1) (hw : w ∈ V u) (hs : f (as w) x < f (as w) u) : w ∈ V x := by
  have h1 : f u u < f u x := by rw [h, (T.zero hu hu).mpr rfl]; decide
  exact (H.conv hu hx hu (ha w) h h1 hs hw (H.own w (H.lt hu hw))).2
theorem Vis.from (H : Vis f as n V L) (T : Tree f) (ha : ∀ w, as w < 5) {u x w : Nat} (hu : u < 5) (hx : x < 5) (h : f u x = 1) (hw : w ∈ V u) (hn : w ∉ V x) : f (as w) x = f (as w) u + 1 := by
  rcases T.sep hu hx (ha w) h with e | e
  · exact e.symm
  · exact absurd (H.both T ha hu hx h hw (e ▸ Nat.lt_succ_self _)) hn
theorem Vis.back (H : Vis f as n V L) (T : Tree f) {u x y w : Nat} (hu : u < 5) (hx : x < 5) (hy : y < 5) (h1 : f u x = 1) (h2 : f y x = 1) (hne : u ≠ y) (hw : w ∈ V u) (hwy : w ∈ V y) : w ∈ V x := by
  have e1 := T.sym hy hx
  have e2 := T.sym hu hx
  have z1 := (T.zero hy hy).mpr rfl
  have z2 : f u y ≠ 0 := fun e => hne ((T.zero hu hy).mp e)
  have := T.sep hx hy hu (e1 ▸ h2)
  exact (H.conv hx hy hu hy (e1 ▸ h2) (by omega) (by omega) hw hwy).1

theorem nodup_split {l α β α' β' : List Nat} {w : Nat} (hn : l.Nodup) (h1 : l = α ++ w :: β) (h2 : l = α' ++ w :: β') : α = α' ∧ β = β' := by
  subst h1
  induction α generalizing α' with
  | nil =>
    cases α' with
    | nil => exact ⟨rfl, (List.cons.inj h2).2⟩
    | cons c α' =>
      obtain ⟨e1, e2⟩ := List.cons.inj h2
      have : w ∈ β := by rw [e2]; exact List.mem_append_right _ (.head _)
      exact absurd this (List.nodup_cons.mp hn).1
  | cons c α ih =>
    cases α' with
    | nil =>
      obtain ⟨e1, e2⟩ := List.cons.inj h2
      have : c ∈ α ++ w :: β := by rw [e1]; exact List.mem_append_right _ (.head _)
      exact absurd this (List.nodup_cons.mp hn).1
    | cons c' α' =>
      obtain ⟨e1, e2⟩ := List.cons.inj h2
      obtain ⟨a, b⟩ := ih (List.nodup_cons.mp hn).2 e2
      exact ⟨by rw [e1, a], b⟩

/-- the wish w comes to p: what must hold of it -/
structure Comes (f : Nat → Nat → Nat) (as : Nat → Nat) (V : Nat → List Nat) (ar : Nat → Nat) (air : List (Nat × Nat × Nat × Nat)) (p w : Nat) : Prop where
  p5 : p < 5
  new : w ∉ V p
  on : f p (ar p) = 1 → w ∉ V (ar p)
  at_u : ∀ m ∈ air, m.2.2.2 = p → w ∉ V m.1
  at_x : ∀ m ∈ air, m.1 = p → m.2.2.1 ≠ w ∧ ∀ α β, V m.2.2.2 = α ++ m.2.2.1 :: β → w ∉ β

noncomputable def visV (V : Nat → List Nat) (p w : Nat) : Nat → List Nat := fun q => if q = p then V p ++ [w] else V q
theorem vis_at (V : Nat → List Nat) (p w : Nat) : visV V p w p = V p ++ [w] := if_pos rfl
theorem vis_ne {V : Nat → List Nat} {p w q : Nat} (h : q ≠ p) : visV V p w q = V q := if_neg h
theorem vis_sub {p w q c : Nat} (h : c ∈ V q) : c ∈ visV V p w q := by
  unfold visV
  split
  · rename_i e; subst e; exact List.mem_append_left _ h
  · exact h
theorem vis_inv {p w q c : Nat} (h : c ∈ visV V p w q) : c ∈ V q ∨ (q = p ∧ c = w) := by
  unfold visV at h
  split at h
  · rename_i e
    rcases List.mem_append.mp h with h | h
    · exact .inl (e ▸ h)
    · exact .inr ⟨e, List.mem_singleton.mp h⟩
  · exact .inl h
theorem mail_keep (T : Tree f) {air : List (Nat × Nat × Nat × Nat)} {ar : Nat → Nat} {p w n' : Nat} (hn : n ≤ n') (C : Comes f as V ar air p w) {m : Nat × Nat × Nat × Nat} (hm : m ∈ air) (M : Mail f as n V m.1 m.2.1 m.2.2.1 m.2.2.2) : Mail f as n' (visV V p w) m.1 m.2.1 m.2.2.1 m.2.2.2 := by
  obtain ⟨x5, u5, h1, h2, h3, h4, h5, α, g, β, e, h6, h7, h8⟩ := M
  have hxn : m.2.2.1 ∉ visV V p w m.1 := fun q => by
    rcases vis_inv q with q | ⟨q, q'⟩
    · exact h5 q
    · exact (C.at_x m hm q).1 q'
  have key : ∀ c ∈ β, c ∉ visV V p w m.1 := fun c hc q => by
    rcases vis_inv q with q | ⟨q, q'⟩
    · exact h8 c hc q
    · exact (C.at_x m hm q).2 (α ++ [g]) β (by rw [e]; simp) (q' ▸ hc)
  refine ⟨x5, u5, h1, h2, Nat.lt_of_lt_of_le h3 hn, h4, hxn, ?_⟩
  by_cases hu : m.2.2.2 = p
  · refine ⟨α, g, β ++ [w], by rw [hu, vis_at, ← hu, e]; simp, vis_sub h6, h7, fun c hc => ?_⟩
    rcases List.mem_append.mp hc with hc | hc
    · exact key c hc
    · rw [List.mem_singleton.mp hc]
      intro q
      rcases vis_inv q with q | ⟨q, _⟩
      · exact C.at_u m hm hu q
      · rw [hu, q, (T.zero C.p5 C.p5).mpr rfl] at h1
        cases h1
  · exact ⟨α, g, β, by rw [vis_ne hu, e], vis_sub h6, h7, key⟩

/-- what stands behind the visit -/
theorem visit_mail (T : Tree f) (ha : ∀ w, as w < 5) {n' : Nat} (H : Vis f as n V L) {L' : List Nat} {air : List (Nat × Nat × Nat × Nat)} {ar : Nat → Nat} {tl : Nat → Option Nat} {p w : Nat} (H' : Vis f as n' (visV V p w) L') (C : Comes f as V ar air p w) (hw1 : 1 ≤ w) (hwn : w < n') (A : Arrow f as V ar tl p) :
    (ar p = p → ∃ g, tl p = some g ∧ Found f as n' (visV V p w) w (f (as w) p + 1) g) ∧ (ar p ≠ p → Mail f as n' (visV V p w) (ar p) (f (as w) p + 1 + 1) w p) := by
  obtain ⟨α, g, e, h1, h2⟩ := A
  have hg : g ∈ V p := by rw [e]; exact List.mem_append_right _ (.head _)
  have ew : visV V p w p = α ++ g :: w :: [] := by rw [vis_at, e]; simp
  have hgn : g < n' := H'.lt C.p5 (vis_sub hg)
  constructor
  · intro hp
    have hgp : as g = p := Classical.byContradiction fun hne => by
      have := tw_adj T C.p5 (ha g) (Ne.symm hne)
      rw [← h1, hp, (T.zero C.p5 C.p5).mpr rfl] at this
      exact nomatch this.2.1
    exact ⟨g, h2 hgp, hw1, hwn, hgn, by rw [hgp], α, [], by rw [hgp]; exact ew⟩
  · intro hp
    have hne : p ≠ as g := fun q => hp (by rw [h1, ← q, tw_self T C.p5])
    obtain ⟨y5, y1, y2⟩ := tw_adj T C.p5 (ha g) hne
    rw [← h1] at y5 y1 y2
    have e1 := T.sym y5 (ha g)
    have e2 := T.sym C.p5 (ha g)
    have hwy : w ∉ visV V p w (ar p) := by rw [vis_ne hp]; exact C.on y1
    have hwp : w ∈ visV V p w p := by rw [ew]; simp
    have hs : f (as g) (ar p) < f (as g) p := by omega
    refine ⟨y5, C.p5, y1, hw1, hwn, ?_, hwy, α, g, [], ew, vis_sub (H.both T ha C.p5 y5 y1 hg hs), hs, fun c hc => nomatch hc⟩
    rw [H'.from T ha C.p5 y5 y1 hwp hwy]
theorem arrow_keep {ar ar' : Nat → Nat} {tl tl' : Nat → Option Nat} {p w : Nat} (hp : ar' p = toward f p (as w)) (ht : as w = p → tl' p = some w) (ha' : ∀ q, q ≠ p → ar' q = ar q) (ht' : ∀ q, q ≠ p → tl' q = tl q) (A : ∀ q, q < 5 → Arrow f as V ar tl q) : ∀ q, q < 5 → Arrow f as (visV V p w) ar' tl' q := fun q hq => by
  by_cases e : q = p
  · subst e
    exact ⟨V q, w, vis_at V q w, hp, ht⟩
  · obtain ⟨α, g, h1, h2, h3⟩ := A q hq
    exact ⟨α, g, by rw [vis_ne e]; exact h1, by rw [ha' q e]; exact h2, fun h => by rw [ht' q e]; exact h3 h⟩
theorem found_keep {n' p w : Nat} (hn : n ≤ n') {v d g : Nat} (F : Found f as n V v d g) : Found f as n' (visV V p w) v d g := by
  obtain ⟨h1, h2, h3, h4, α, β, e⟩ := F
  refine ⟨h1, Nat.lt_of_lt_of_le h2 hn, Nat.lt_of_lt_of_le h3 hn, h4, ?_⟩
  by_cases q : as g = p
  · exact ⟨α, β ++ [w], by rw [q, vis_at, ← q, e]; simp⟩
  · exact ⟨α, β, by rw [vis_ne q]; exact e⟩

/-! a wish that is asked anew -/
theorem fresh_vis (T : Tree f) (ha : ∀ w, as w < 5) (H : Vis f as n V L) : Vis f as (n + 1) (visV V (as n) n) (L ++ [n]) := by
  have hn : ∀ p, p < 5 → n ∉ V p := fun p hp h => Nat.lt_irrefl _ (H.lt hp h)
  refine ⟨?_, fun w => ?_, fun p hp => ?_, fun p hp => vis_sub (H.zero p hp), fun w hw => ?_, fun {u x p q w} hu hx hp hq h h1 h2 hwp hwq => ?_, fun {v w} hv hw e => ?_⟩
  · rw [List.nodup_append]
    refine ⟨H.nd, by simp, fun a h b hb e => ?_⟩
    rw [e, List.mem_singleton.mp hb] at h
    exact Nat.lt_irrefl _ ((H.mem n).mp h)
  · rw [List.mem_append, H.mem, List.mem_singleton, Nat.lt_succ_iff_lt_or_eq]
  · unfold visV
    split
    · rename_i e; subst e; exact (H.sub _ hp).append (.refl _)
    · exact (H.sub p hp).trans (List.sublist_append_left _ _)
  · rcases Nat.lt_succ_iff_lt_or_eq.mp hw with h | rfl
    · exact vis_sub (H.own w h)
    · rw [vis_at]; exact List.mem_append_right _ (.head _)
  · rcases vis_inv hwp with a | ⟨a, a'⟩ <;> rcases vis_inv hwq with b | ⟨b, b'⟩
    · obtain ⟨c, d⟩ := H.conv hu hx hp hq h h1 h2 a b
      exact ⟨vis_sub c, vis_sub d⟩
    · rw [b'] at a; exact absurd a (hn p hp)
    · rw [a'] at b; exact absurd b (hn q hq)
    · rw [a, ← b] at h1; exact absurd h1 (Nat.lt_asymm h2)
  · rcases Nat.lt_succ_iff_lt_or_eq.mp hw with h | rfl
    · have := H.same hv h e
      unfold visV
      split
      · rename_i q; rw [← q]; exact this.trans (List.sublist_append_left _ _)
      · exact this
    · rw [vis_at]
      exact pair_of (e ▸ H.own v hv) (.head _)
theorem fresh_comes (ha : ∀ w, as w < 5) (H : Vis f as n V L) {air : List (Nat × Nat × Nat × Nat)} {ar : Nat → Nat} (hM : ∀ m ∈ air, Mail f as n V m.1 m.2.1 m.2.2.1 m.2.2.2) (har : ∀ p, p < 5 → ar p < 5) : Comes f as V ar air (as n) n := by
  have hn : ∀ p, p < 5 → n ∉ V p := fun p hp h => Nat.lt_irrefl _ (H.lt hp h)
  refine ⟨ha n, hn _ (ha n), fun _ => hn _ (har _ (ha n)), fun m hm _ => hn _ (hM m hm).1, fun m hm _ => ⟨fun e => ?_, fun α β e h => ?_⟩⟩
  · have := (hM m hm).2.2.2.2.1
    rw [e] at this
    exact Nat.lt_irrefl _ this
  · refine hn _ (hM m hm).2.1 ?_
    rw [e]
    exact List.mem_append_right _ (.tail _ h)
end

theorem filter_both {X : Nat → Bool} : ∀ l : List Nat, (l.filter X ++ l.filter fun c => !X c).Perm l
  | [] => .refl _
  | c :: l => by
    cases h : X c with
    | true =>
      rw [List.filter_cons_of_pos h, List.filter_cons_of_neg (by rw [h]; exact Bool.false_ne_true)]
      exact (filter_both l).cons c
    | false =>
      rw [List.filter_cons_of_neg (by rw [h]; exact Bool.false_ne_true), List.filter_cons_of_pos (by rw [h]; rfl)]
      exact List.perm_middle.trans ((filter_both l).cons c)
section
variable {f : Nat → Nat → Nat} {as : Nat → Nat} {n : Nat} {V : Nat → List Nat} {L : List Nat}
/-- who has been at both ends of a mail's way stands at or ahead of the one it follows -/
theorem mail_ahead {α β : List Nat} {g w c x u : Nat} (e : V u = α ++ g :: w :: β) (hw : w ∉ V x) (hb : ∀ c ∈ β, c ∉ V x) (h1 : c ∈ V u) (h2 : c ∈ V x) : c = g ∨ [c, g].Sublist (V u) := by
  rw [e] at h1 ⊢
  rcases List.mem_append.mp h1 with h | h
  · exact .inr (pair_of h (.head _))
  · rcases List.mem_cons.mp h with h | h
    · exact .inl h
    · rcases List.mem_cons.mp h with h | h
      · exact absurd (h ▸ h2) hw
      · exact absurd h2 (hb c h)

theorem deliver_comes (T : Tree f) (ha : ∀ w, as w < 5) (H : Vis f as n V L) {air : List (Nat × Nat × Nat × Nat)} {ar : Nat → Nat} {tl : Nat → Option Nat} {p d w u₀ : Nat} (M : Mail f as n V p d w u₀) (hM : ∀ m ∈ air, Mail f as n V m.1 m.2.1 m.2.2.1 m.2.2.2) (hw : ∀ m ∈ air, m.2.2.1 ≠ w) (A : Arrow f as V ar tl p) : Comes f as V ar air p w := by
  obtain ⟨p5, u5, h1, h2, h3, h4, h5, α₀, g₀, β₀, e₀, h6, h7, h8⟩ := M
  have wu : w ∈ V u₀ := by rw [e₀]; simp
  have gu : g₀ ∈ V u₀ := by rw [e₀]; simp
  refine ⟨p5, h5, fun hy hwy => ?_, fun m hm hmu hwx => ?_, fun m hm hmx => ⟨hw m hm, fun α β e hb => ?_⟩⟩
  · obtain ⟨α, g, e, a1, _⟩ := A
    have hne : p ≠ as g := fun q => by
      rw [a1, ← q, tw_self T p5, (T.zero p5 p5).mpr rfl] at hy
      cases hy
    obtain ⟨y5, _, y2⟩ := tw_adj T p5 (ha g) hne
    rw [← a1] at y5 y2
    have hgp : g ∈ V p := by rw [e]; simp
    by_cases hyu : u₀ = ar p
    · rw [← hyu] at hy y2 y5
      have s1 : f (as g) u₀ < f (as g) p := by rw [T.sym (ha g) y5, T.sym (ha g) p5]; exact y2
      have hgu := H.both T ha p5 y5 hy hgp s1
      have hgg : g ≠ g₀ := fun q => by rw [q] at s1; exact Nat.lt_asymm s1 h7
      rcases mail_ahead e₀ h5 h8 hgu hgp with q | q
      · exact hgg q
      · refine H.ord u5 p5 q ?_
        rw [e] at h6 ⊢
        rcases List.mem_append.mp h6 with z | z
        · exact pair_of z (.head _)
        · exact absurd (List.mem_singleton.mp z).symm hgg
    · exact h5 (H.back T u5 p5 y5 h1 (by rw [T.sym y5 p5]; exact hy) hyu wu hwy)
  · obtain ⟨x5, v5, b1, b2, b3, b4, b5, α₁, g₁, β₁, e₁, b6, b7, b8⟩ := hM m hm
    rw [hmu] at b1 b7 e₁ v5
    by_cases hxu : u₀ = m.1
    · rw [← hxu] at b1 b5 b6 b7 b8
      have hg1 : g₁ ∈ V p := by rw [e₁]; simp
      have hgg : g₀ ≠ g₁ := fun q => by rw [← q] at b7; exact Nat.lt_asymm b7 h7
      rcases mail_ahead e₀ h5 h8 b6 hg1 with q | q
      · exact hgg q.symm
      · rcases mail_ahead e₁ b5 b8 h6 gu with z | z
        · exact hgg z
        · exact H.ord u5 p5 q z
    · exact h5 (H.back T u5 p5 x5 h1 (by rw [T.sym x5 p5]; exact b1) hxu wu hwx)
  · obtain ⟨x5, v5, b1, b2, b3, b4, b5, α₁, g₁, β₁, e₁, b6, b7, b8⟩ := hM m hm
    rw [hmx] at b1 b5 b6 b7 b8
    have hwv : w ∈ V m.2.2.2 := by rw [e]; exact List.mem_append_right _ (.tail _ hb)
    by_cases huu : u₀ = m.2.2.2
    · rw [← huu] at e e₁
      have hn := H.vnd u5
      have e1' : V u₀ = (α₁ ++ [g₁]) ++ m.2.2.1 :: β₁ := by rw [e₁]; simp
      have := (nodup_split hn e e1').2
      subst this
      obtain ⟨γ, δ, hγ⟩ := List.append_of_mem hb
      have e2 : V u₀ = (α₁ ++ [g₁] ++ m.2.2.1 :: γ) ++ w :: δ := by rw [e1', hγ]; simp
      have e3 : V u₀ = (α₀ ++ [g₀]) ++ w :: β₀ := by rw [e₀]; simp
      have e4 := (nodup_split hn e3 e2).1
      have e5 : g₀ ∈ m.2.2.1 :: γ := by
        have := congrArg List.getLast? e4
        rw [List.getLast?_append, List.getLast?_append, List.getLast?_singleton, List.getLast?_cons] at this
        have := Option.some.inj this
        rw [this]
        cases h : γ.getLast? with
        | none => exact .head _
        | some c => exact .tail _ (List.mem_of_getLast? h)
      rcases List.mem_cons.mp e5 with q | q
      · exact b5 (q ▸ h6)
      · exact b8 g₀ (by rw [hγ]; exact List.mem_append_left _ q) h6
    · exact h5 (H.back T u5 p5 v5 h1 b1 huu wu hwv)

theorem deliver_vis (T : Tree f) (ha : ∀ w, as w < 5) (H : Vis f as n V L) {p d w u₀ : Nat} (M : Mail f as n V p d w u₀) : ∃ L', Vis f as n (visV V p w) L' := by
  obtain ⟨p5, u5, h1, h2, h3, h4, h5, α₀, g₀, β₀, e₀, h6, h7, h8⟩ := M
  have wu : w ∈ V u₀ := by rw [e₀]; simp
  have gu : g₀ ∈ V u₀ := by rw [e₀]; simp
  have hpu : f p u₀ = 1 := by rw [T.sym p5 u5]; exact h1
  have hpp : f p p < f p u₀ := by rw [hpu, (T.zero p5 p5).mpr rfl]; decide
  have huu : f u₀ u₀ < f u₀ p := by rw [h1, (T.zero u5 u5).mpr rfl]; decide
  obtain ⟨L1, L2, hL⟩ := List.append_of_mem ((H.sub u₀ u5).subset gu)
  have hL' : L = (L1 ++ [g₀]) ++ L2 := by rw [hL]; simp
  let Xs : Nat → Bool := fun c => (List.range 5).any fun b => decide (f b p < f b u₀) && decide (c ∈ V b)
  have xs_of : ∀ {b c : Nat}, b < 5 → f b p < f b u₀ → c ∈ V b → Xs c = true := fun {b c} hb h hc => List.any_eq_true.mpr ⟨b, List.mem_range.mpr hb, by rw [decide_eq_true h, decide_eq_true hc]; rfl⟩
  have no_xs : ∀ {q c : Nat}, q < 5 → f q u₀ < f q p → c ∈ V q → c ∈ L2 → Xs c = false := fun {q c} hq h hc hc2 => by
    cases hx : Xs c with
    | false => rfl
    | true =>
      obtain ⟨b, hb, hx⟩ := List.any_eq_true.mp hx
      rw [Bool.and_eq_true, decide_eq_true_eq, decide_eq_true_eq] at hx
      obtain ⟨c1, c2⟩ := H.conv u5 p5 hq (List.mem_range.mp hb) h1 h hx.1 hc hx.2
      have g1 : [g₀, c].Sublist L := by rw [hL']; exact pair_of (by simp) hc2
      rcases mail_ahead e₀ h5 h8 c1 c2 with q | q
      · subst q
        exact (ord_contra H.nd g1 g1).elim
      · exact (ord_contra H.nd (q.trans (H.sub u₀ u5)) g1).elim
  have w2 : w ∈ L2 := by
    have hw := (H.sub u₀ u5).subset wu
    have g1 : [g₀, w].Sublist L := by
      have := H.sub u₀ u5
      rw [e₀] at this
      exact (((List.nil_sublist β₀).cons_cons w).cons_cons g₀).trans ((List.sublist_append_right α₀ _).trans this)
    rw [hL'] at hw
    rcases List.mem_append.mp hw with hw | hw
    · rcases List.mem_append.mp hw with hw | hw
      · exact (ord_contra H.nd g1 (by rw [hL]; exact pair_of hw (.head _))).elim
      · have := List.mem_singleton.mp hw
        subst this
        exact (ord_contra H.nd g1 g1).elim
    · exact hw
  have wx := no_xs u5 huu wu w2
  have hperm : ((L1 ++ [g₀]) ++ (L2.filter Xs ++ L2.filter fun c => !Xs c)).Perm L := by
    conv => rhs; rw [hL']
    exact (filter_both L2).append_left _
  have near : ∀ q, q < 5 → f q p < f q u₀ → (V q).Sublist ((L1 ++ [g₀]) ++ L2.filter Xs) := fun q hq h => by
    have := H.sub q hq
    rw [hL'] at this
    obtain ⟨s1, s2, e, a, b⟩ := List.sublist_append_iff.mp this
    rw [e]
    refine a.append ?_
    have : s2.filter Xs = s2 := List.filter_eq_self.mpr fun c hc => xs_of hq h (by rw [e]; exact List.mem_append_right _ hc)
    rw [← this]
    exact b.filter _
  have farr : ∀ q, q < 5 → f q u₀ < f q p → (V q).Sublist ((L1 ++ [g₀]) ++ L2.filter fun c => !Xs c) := fun q hq h => by
    have := H.sub q hq
    rw [hL'] at this
    obtain ⟨s1, s2, e, a, b⟩ := List.sublist_append_iff.mp this
    rw [e]
    refine a.append ?_
    have : s2.filter (fun c => !Xs c) = s2 := List.filter_eq_self.mpr fun c hc => by rw [no_xs hq h (by rw [e]; exact List.mem_append_right _ hc) (b.subset hc)]; rfl
    rw [← this]
    exact b.filter _
  refine ⟨(L1 ++ [g₀]) ++ (L2.filter Xs ++ L2.filter fun c => !Xs c), hperm.nodup_iff.mpr H.nd, fun c => (hperm.mem_iff).trans (H.mem c), fun q hq => ?_, fun q hq => vis_sub (H.zero q hq), fun v hv => vis_sub (H.own v hv), fun {a x b c v} ha' hx hb hc h k1 k2 hvb hvc => ?_, fun {v v'} hv hv' e => ?_⟩
  · by_cases hqp : q = p
    · subst hqp
      rw [vis_at, ← List.append_assoc]
      exact (near q hq hpp).append (List.singleton_sublist.mpr (List.mem_filter.mpr ⟨w2, by rw [wx]; rfl⟩))
    · rw [vis_ne hqp]
      by_cases h : f q u₀ < f q p
      · exact (farr q hq h).trans ((List.Sublist.refl _).append (List.sublist_append_right _ _))
      · exact (near q hq (T.side u5 p5 hq h1 h)).trans ((List.Sublist.refl _).append (List.sublist_append_left _ _))
  · have step : ∀ {a x b c : Nat}, a < 5 → x < 5 → c < 5 → f a x = 1 → f p a < f p x → f c x < f c a → w ∈ V c → w ∈ visV V p w a ∧ w ∈ V x := fun {a x b c} ha' hx hc h k1 k2 hvc => by
      by_cases hs : f u₀ a < f u₀ x
      · obtain ⟨q1, q2⟩ := H.conv ha' hx u5 hc h hs k2 wu hvc
        exact ⟨vis_sub q1, q2⟩
      · have hs' := T.side ha' hx u5 h hs
        have := T.via ha' hx p5 u5 h k1 hs'
        rw [hpu] at this
        have z1 : p = a := (T.zero p5 ha').mp (by omega)
        have z2 : x = u₀ := (T.zero hx u5).mp (by omega)
        exact ⟨by rw [← z1, vis_at]; simp, z2 ▸ wu⟩
    rcases vis_inv hvb with q | ⟨q, q'⟩ <;> rcases vis_inv hvc with z | ⟨z, z'⟩
    · obtain ⟨y1, y2⟩ := H.conv ha' hx hb hc h k1 k2 q z
      exact ⟨vis_sub y1, vis_sub y2⟩
    · subst z z'
      obtain ⟨y1, y2⟩ := step (b := b) hx ha' hb (by rw [T.sym hx ha']; exact h) k2 k1 q
      exact ⟨vis_sub y2, y1⟩
    · subst q q'
      obtain ⟨y1, y2⟩ := step (b := b) ha' hx hc h k1 k2 z
      exact ⟨y1, vis_sub y2⟩
    · rw [q, ← z] at k1; exact absurd k1 (Nat.lt_asymm k2)
  · have := H.same hv hv' e
    unfold visV
    split
    · rename_i q; rw [← q]; exact this.trans (List.sublist_append_left _ _)
    · exact this
end

/-- a mail: whither, its dots, its wish, whence -/
abbrev Post2 := Nat × Nat × Nat × Nat
structure S2 where
  ar : Nat → Nat
  tl : Nat → Option Nat
  fo : List (Nat × Nat × Nat)
  air : List Post2
  n : Nat
  lot : Nat
noncomputable def visS (s : S2) (air : List Post2) (p d w src : Nat) : S2 :=
  { s with ar := fun q => if q = p then src else s.ar q, fo := if s.ar p = p then s.fo ++ [(w, d, (s.tl p).getD 0)] else s.fo, air := if s.ar p = p then air else air ++ [(s.ar p, d + 1, w, p)] }
noncomputable def waysS (s : S2) : Nat := s.air.length + min 1 (5 - s.n)
noncomputable def freshS (as : Nat → Nat) (s : S2) : S2 := { visS s s.air (as s.n) 1 s.n (as s.n) with tl := fun q => if q = as s.n then some s.n else s.tl q, n := s.n + 1, lot := s.lot / waysS s }
noncomputable def delivS (s : S2) (m : Post2) (air : List Post2) : S2 := { visS s air m.1 m.2.1 m.2.2.1 m.2.2.2 with lot := s.lot / waysS s }
noncomputable def step2 (as : Nat → Nat) (s : S2) : S2 :=
  if waysS s = 0 then s else if s.lot % waysS s = s.air.length then freshS as s
  else delivS s (s.air.getD (s.lot % waysS s) (0, 0, 0, 0)) (s.air.take (s.lot % waysS s) ++ s.air.drop (s.lot % waysS s + 1))

structure Inv2 (f : Nat → Nat → Nat) (as : Nat → Nat) (t : Nat) (s : S2) (V : Nat → List Nat) (L : List Nat) : Prop where
  vis : Vis f as s.n V L
  n1 : 1 ≤ s.n
  n5 : s.n ≤ 5
  arr : ∀ p, p < 5 → Arrow f as V s.ar s.tl p
  ml : ∀ m ∈ s.air, Mail f as s.n V m.1 m.2.1 m.2.2.1 m.2.2.2
  fn : ∀ m ∈ s.fo, Found f as s.n V m.1 m.2.1 m.2.2
  key : (s.air.map (·.2.2.1) ++ s.fo.map (·.1)).Perm ((List.range (s.n - 1)).map (· + 1))
  cnt : (s.air = [] ∧ s.n = 5) ∨ t + 2 * s.air.length + s.fo.length + 1 = s.n + (s.air.map (·.2.1)).sum + (s.fo.map (·.2.1)).sum

section
variable {f : Nat → Nat → Nat} {as : Nat → Nat} {t : Nat} {s : S2} {V : Nat → List Nat} {L : List Nat}
theorem arrow_lt (T : Tree f) (ha : ∀ w, as w < 5) {ar : Nat → Nat} {tl : Nat → Option Nat} {p : Nat} (hp : p < 5) (A : Arrow f as V ar tl p) : ar p < 5 := by
  obtain ⟨α, g, _, h, _⟩ := A
  rw [h]
  by_cases e : p = as g
  · rw [← e, tw_self T hp]; exact hp
  · exact (tw_adj T hp (ha g) e).1
theorem Inv2.keys (I : Inv2 f as t s V L) : s.air.length + s.fo.length + 1 = s.n := by
  have := I.key.length_eq
  have h1 := I.n1
  simp only [List.length_append, List.length_map, List.length_range] at this
  omega
theorem perm_sum {l m : List Nat} (h : l.Perm m) : l.sum = m.sum := by
  induction h with
  | nil => rfl
  | cons x _ ih => simp only [List.sum_cons]; rw [ih]
  | swap x y l => simp only [List.sum_cons]; exact Nat.add_left_comm _ _ _
  | trans _ _ h1 h2 => exact h1.trans h2
theorem inv2_start (T : Tree f) (ha : ∀ w, as w < 5) (lot : Nat) : Inv2 f as 0 ⟨fun p => toward f p (as 0), fun p => if p = as 0 then some 0 else none, [], [], 1, lot⟩ (fun _ => [0]) [0] := by
  refine ⟨⟨by simp, fun w => by simp, fun p _ => .refl _, fun p _ => .head _, fun w hw => by have : w < 1 := hw; simp; omega, fun _ _ _ _ _ _ _ h _ => ⟨h, h⟩, fun {v w} hv hw _ => by have : w < 1 := hw; omega⟩, Nat.le_refl _, (by show (1 : Nat) ≤ 5; decide), fun p hp => ⟨[], 0, rfl, rfl, fun e => if_pos e.symm⟩, (fun _ h => nomatch h), (fun _ h => nomatch h), .refl _, .inr rfl⟩

/-- what a visit makes of the state, but for the wishes that are there -/
theorem visit_step (T : Tree f) (ha : ∀ w, as w < 5) {n' p d w src : Nat} {L' : List Nat} {air : List Post2} {tl' : Nat → Option Nat} (hn : s.n ≤ n') (I : Inv2 f as t s V L) (H' : Vis f as n' (visV V p w) L') (C : Comes f as V s.ar air p w) (hair : ∀ m ∈ air, m ∈ s.air) (hw1 : 1 ≤ w) (hwn : w < n') (hd : d = f (as w) p + 1)
    (hsrc : src = toward f p (as w)) (ht : as w = p → tl' p = some w) (ht' : ∀ q, q ≠ p → tl' q = s.tl q) :
    (∀ q, q < 5 → Arrow f as (visV V p w) (visS s air p d w src).ar tl' q) ∧ (∀ m ∈ (visS s air p d w src).air, Mail f as n' (visV V p w) m.1 m.2.1 m.2.2.1 m.2.2.2) ∧ (∀ m ∈ (visS s air p d w src).fo, Found f as n' (visV V p w) m.1 m.2.1 m.2.2) := by
  obtain ⟨h1, h2⟩ := visit_mail T ha I.vis H' C hw1 hwn (I.arr p C.p5)
  refine ⟨arrow_keep (by rw [← hsrc]; exact if_pos rfl) ht (fun q e => if_neg e) ht' I.arr, ?_, ?_⟩
  · have keep : ∀ m ∈ air, Mail f as n' (visV V p w) m.1 m.2.1 m.2.2.1 m.2.2.2 := fun m hm => mail_keep T hn C hm (I.ml m (hair m hm))
    unfold visS
    dsimp only
    split
    · exact keep
    · rename_i e
      intro m hm
      rcases List.mem_append.mp hm with hm | hm
      · exact keep m hm
      · rw [List.mem_singleton.mp hm, hd]
        exact h2 e
  · have keep : ∀ m ∈ s.fo, Found f as n' (visV V p w) m.1 m.2.1 m.2.2 := fun m hm => found_keep hn (I.fn m hm)
    unfold visS
    dsimp only
    split
    · rename_i e
      intro m hm
      rcases List.mem_append.mp hm with hm | hm
      · exact keep m hm
      · obtain ⟨g, hg, F⟩ := h1 e
        rw [List.mem_singleton.mp hm, hg, hd]
        exact F
    · exact keep

theorem cnt1 {t a k n x y : Nat} (h : t + 2 * a + k + 1 = n + x + y) : t + 1 + 2 * a + (k + 1) + 1 = n + 1 + x + (y + 1) := by omega
theorem cnt2 {t a k n x y : Nat} (h : t + 2 * a + k + 1 = n + x + y) : t + 1 + 2 * (a + 1) + k + 1 = n + 1 + (x + 2) + y := by omega
theorem cnt3 {t a k n x y d : Nat} (h : t + 2 * (a + 1) + k + 1 = n + (d + x) + y) : t + 1 + 2 * a + (k + 1) + 1 = n + x + (y + d) := by omega
theorem cnt5 {a k n x y : Nat} (h : 20 + 2 * a + k + 1 = n + x + y) (h1 : x ≤ a * 5) (h2 : y ≤ k * 5) (h3 : a + k + 1 = n) (h4 : n ≤ 5) : a = 0 ∧ n = 5 := by omega
theorem cnt4 {t a k n x y d : Nat} (h : t + 2 * (a + 1) + k + 1 = n + (d + x) + y) : t + 1 + 2 * (a + 1) + k + 1 = n + (x + (d + 1)) + y := by omega
theorem inv2_fresh (T : Tree f) (ha : ∀ w, as w < 5) (I : Inv2 f as t s V L) (hn : s.n < 5) : ∃ V' L', Inv2 f as (t + 1) (freshS as s) V' L' := by
  have H' := fresh_vis T ha I.vis
  have C := fresh_comes ha I.vis I.ml fun p hp => arrow_lt T ha hp (I.arr p hp)
  have z := (T.zero (ha s.n) (ha s.n)).mpr rfl
  obtain ⟨a, b, c⟩ := visit_step (d := 1) (src := as s.n) (tl' := fun q => if q = as s.n then some s.n else s.tl q) T ha (Nat.le_succ _) I H' C (fun _ h => h) I.n1 (Nat.lt_succ_self _) (by rw [z]) (tw_self T (ha _)).symm (fun _ => if_pos rfl) fun q e => if_neg e
  have hr : (List.range (s.n + 1 - 1)).map (· + 1) = (List.range (s.n - 1)).map (· + 1) ++ [s.n] := by
    have h1 := I.n1
    obtain ⟨k, hk⟩ := Nat.exists_eq_add_of_le' h1
    rw [hk, Nat.add_sub_cancel, Nat.add_sub_cancel, List.range_succ, List.map_append]
    rfl
  refine ⟨_, _, H', Nat.succ_le_succ (Nat.zero_le _), hn, a, b, c, ?_, .inr ?_⟩
  · show (List.map _ (visS s s.air (as s.n) 1 s.n (as s.n)).air ++ List.map _ (visS s s.air (as s.n) 1 s.n (as s.n)).fo).Perm ((List.range (s.n + 1 - 1)).map (· + 1))
    rw [hr]
    unfold visS
    dsimp only
    split
    · rw [List.map_append, ← List.append_assoc]
      exact I.key.append_right _
    · rw [List.map_append, List.append_assoc]
      exact (List.perm_append_comm.append_left _).trans (by rw [← List.append_assoc]; exact I.key.append_right _)
  · have hc := I.cnt.resolve_left fun h => Nat.ne_of_lt hn h.2
    show t + 1 + 2 * (visS s s.air (as s.n) 1 s.n (as s.n)).air.length + (visS s s.air (as s.n) 1 s.n (as s.n)).fo.length + 1 = s.n + 1 + ((visS s s.air (as s.n) 1 s.n (as s.n)).air.map (·.2.1)).sum + ((visS s s.air (as s.n) 1 s.n (as s.n)).fo.map (·.2.1)).sum
    unfold visS
    dsimp only
    split
    · simp only [List.map_append, List.sum_append, List.length_append, List.map_cons, List.map_nil, List.sum_cons, List.sum_nil, List.length_cons, List.length_nil]
      exact cnt1 hc
    · simp only [List.map_append, List.sum_append, List.length_append, List.map_cons, List.map_nil, List.sum_cons, List.sum_nil, List.length_cons, List.length_nil]
      exact cnt2 hc

theorem inv2_deliv (T : Tree f) (ha : ∀ w, as w < 5) (I : Inv2 f as t s V L) {m : Post2} {air : List Post2} (hp : s.air.Perm (m :: air)) : ∃ V' L', Inv2 f as (t + 1) (delivS s m air) V' L' := by
  have hm : m ∈ s.air := hp.symm.subset (.head _)
  have M := I.ml m hm
  have hair : ∀ m' ∈ air, m' ∈ s.air := fun m' h => hp.symm.subset (.tail _ h)
  have hnd : (s.air.map (·.2.2.1)).Nodup := by
    have h1 : ((List.range (s.n - 1)).map (· + 1)).Nodup := by
      rw [List.Nodup, List.pairwise_map]
      exact List.nodup_range.imp fun h e => h (Nat.succ.inj e)
    exact (I.key.nodup_iff.mpr h1).sublist (List.sublist_append_left _ _)
  have hne : ∀ m' ∈ air, m'.2.2.1 ≠ m.2.2.1 := fun m' h e => by
    have := (hp.map (·.2.2.1)).nodup_iff.mp hnd
    exact (List.nodup_cons.mp this).1 (List.mem_map.mpr ⟨m', h, e⟩)
  obtain ⟨L', H'⟩ := deliver_vis T ha I.vis M
  have C := deliver_comes T ha I.vis M (fun m' h => I.ml m' (hair m' h)) hne (I.arr _ M.1)
  obtain ⟨p5, u5, h1, h2, h3, h4, h5, α, g, β, e, h6, h7, h8⟩ := M
  have hwu : m.2.2.1 ∈ V m.2.2.2 := by rw [e]; simp
  have hfr := I.vis.from T ha u5 p5 h1 hwu h5
  have hs : m.2.2.2 = toward f m.1 (as m.2.2.1) := (tw_uniq T p5 (ha _) u5 (by rw [T.sym p5 u5]; exact h1) (by rw [T.sym u5 (ha _), T.sym p5 (ha _), hfr]; exact Nat.lt_succ_self _)).symm
  have hno : as m.2.2.1 ≠ m.1 := fun q => h5 (q ▸ I.vis.own _ h3)
  obtain ⟨a, b, c⟩ := visit_step (tl' := s.tl) T ha (Nat.le_refl _) I H' C hair h2 h3 h4 hs (fun q => absurd q hno) fun q _ => rfl
  refine ⟨_, _, H', I.n1, I.n5, a, b, c, ?_, .inr ?_⟩
  · have hk : (m.2.2.1 :: (air.map (·.2.2.1) ++ s.fo.map (·.1))).Perm ((List.range (s.n - 1)).map (· + 1)) := (((hp.map (·.2.2.1)).append_right _).symm).trans I.key
    show (List.map _ (visS s air m.1 m.2.1 m.2.2.1 m.2.2.2).air ++ List.map _ (visS s air m.1 m.2.1 m.2.2.1 m.2.2.2).fo).Perm ((List.range (s.n - 1)).map (· + 1))
    unfold visS
    dsimp only
    split
    · rw [List.map_append, ← List.append_assoc]
      exact List.perm_append_comm.trans hk
    · rw [List.map_append, List.append_assoc]
      exact List.perm_middle.trans hk
  · have hc := I.cnt.resolve_left fun h => by rw [h.1] at hm; exact nomatch hm
    have hl := hp.length_eq
    have hsum := perm_sum (hp.map (·.2.1))
    rw [List.map_cons, List.sum_cons] at hsum
    rw [List.length_cons] at hl
    rw [hl, hsum] at hc
    show t + 1 + 2 * (visS s air m.1 m.2.1 m.2.2.1 m.2.2.2).air.length + (visS s air m.1 m.2.1 m.2.2.1 m.2.2.2).fo.length + 1 = s.n + ((visS s air m.1 m.2.1 m.2.2.1 m.2.2.2).air.map (·.2.1)).sum + ((visS s air m.1 m.2.1 m.2.2.1 m.2.2.2).fo.map (·.2.1)).sum
    unfold visS
    dsimp only
    split
    · simp only [List.map_append, List.sum_append, List.length_append, List.map_cons, List.map_nil, List.sum_cons, List.sum_nil, List.length_cons, List.length_nil]
      exact cnt3 hc
    · simp only [List.map_append, List.sum_append, List.length_append, List.map_cons, List.map_nil, List.sum_cons, List.sum_nil, List.length_cons, List.length_nil]
      exact cnt4 hc

theorem take_drop_perm {α : Type} {l : List α} {k : Nat} (hk : k < l.length) (d : α) : l.Perm (l.getD k d :: (l.take k ++ l.drop (k + 1))) := by
  conv => lhs; rw [← List.take_append_drop k l, List.drop_eq_getElem_cons hk]
  rw [List.getD_eq_getElem?_getD, List.getElem?_eq_getElem hk]
  exact List.perm_middle
theorem inv2_step (T : Tree f) (ha : ∀ w, as w < 5) (I : Inv2 f as t s V L) : ∃ V' L', Inv2 f as (t + 1) (step2 as s) V' L' := by
  unfold step2
  by_cases h0 : waysS s = 0
  · rw [if_pos h0]
    have h5 := I.n5
    have hrest : s.air = [] ∧ s.n = 5 := by
      unfold waysS at h0
      exact ⟨List.eq_nil_of_length_eq_zero (by omega), by omega⟩
    exact ⟨V, L, I.vis, I.n1, I.n5, I.arr, I.ml, I.fn, I.key, .inl hrest⟩
  · rw [if_neg h0]
    have hlt := Nat.mod_lt s.lot (Nat.pos_of_ne_zero h0)
    by_cases hp : s.lot % waysS s = s.air.length
    · rw [if_pos hp]
      refine inv2_fresh T ha I ?_
      unfold waysS at hlt hp
      omega
    · rw [if_neg hp]
      exact inv2_deliv T ha I (take_drop_perm (Nat.lt_of_le_of_ne (Nat.le_of_lt_succ (Nat.lt_of_lt_of_le hlt (Nat.add_le_add_left (Nat.min_le_left _ _) _))) hp) _)
theorem sum_bound {α : Type} {g : α → Nat} {c : Nat} : ∀ {l : List α}, (∀ x ∈ l, g x ≤ c) → (l.map g).sum ≤ l.length * c
  | [], _ => by simp
  | x :: l, h => by
    have h1 := h x (.head _)
    have h2 := sum_bound (l := l) fun y hy => h y (.tail _ hy)
    simp only [List.map_cons, List.sum_cons, List.length_cons, Nat.add_mul, Nat.one_mul]
    omega
theorem inv2_end (T : Tree f) (ha : ∀ w, as w < 5) (I : Inv2 f as 20 s V L) : s.air = [] ∧ s.n = 5 := by
  rcases I.cnt with h | h
  · exact h
  · have h1 := sum_bound (g := fun m : Post2 => m.2.1) (c := 5) (l := s.air) fun m hm => by
      obtain ⟨x5, _, _, _, _, e, _⟩ := I.ml m hm
      have := T.le (ha m.2.2.1) x5
      omega
    have h2 := sum_bound (g := fun m : Nat × Nat × Nat => m.2.1) (c := 5) (l := s.fo) fun m hm => by
      obtain ⟨_, _, _, e, _⟩ := I.fn m hm
      have := T.le (ha m.1) (ha m.2.2)
      omega
    obtain ⟨e1, e2⟩ := cnt5 h h1 h2 I.keys I.n5
    exact ⟨List.eq_nil_of_length_eq_zero e1, e2⟩
end

/-- the wishes that found g ahead of them -/
noncomputable def behindL (f : Nat → Nat → Nat) (as : Nat → Nat) (fo : List (Nat × Nat × Nat)) (g : Nat) : List Nat := [1, 2, 3, 4].filter fun w => decide ((w, f (as w) (as g) + 1, g) ∈ fo)
theorem pre_mem : ∀ {A B : List Nat} {g w : Nat}, (A ++ w :: B).Nodup → [g, w].Sublist (A ++ w :: B) → g ∈ A
  | [], B, g, w, hn, h => by
    obtain ⟨n1, n2⟩ := List.nodup_cons.mp hn
    cases h with
    | cons _ h => exact absurd (h.subset (.tail _ (.head _))) n1
    | cons_cons _ h => exact absurd (h.subset (.head _)) n1
  | c :: A, B, g, w, hn, h => by
    obtain ⟨n1, n2⟩ := List.nodup_cons.mp hn
    cases h with
    | cons _ h => exact .tail _ (pre_mem n2 h)
    | cons_cons _ h => exact .head _
theorem filter_one {q : Nat → Bool} {x : Nat} : ∀ {l : List Nat}, l.Nodup → x ∈ l → q x = true → (∀ w, q w = true → w = x) → l.filter q = [x]
  | c :: l, hn, h, hx, hu => by
    obtain ⟨n1, n2⟩ := List.nodup_cons.mp hn
    rw [List.filter_cons]
    by_cases e : c = x
    · subst e
      rw [if_pos hx, List.filter_eq_nil_iff.mpr fun w hw e => n1 (hu w e ▸ hw)]
    · rw [if_neg fun z => e (hu c z)]
      exact filter_one n2 ((List.mem_cons.mp h).resolve_left (Ne.symm e)) hx hu
theorem consOf {L : List Nat} {n : Nat} (h : L.length = n + 1) : ∃ a r, L = a :: r ∧ r.length = n := by
  cases L with
  | nil => cases h
  | cons a r => exact ⟨a, r, rfl, Nat.succ.inj h⟩
theorem idx_ne {c a : Nat} {L : List Nat} (h : c ≠ a) : (c :: L).idxOf a = L.idxOf a + 1 := by
  rw [List.idxOf_cons, beq_false_of_ne h]; rfl
theorem idx_lt : ∀ {L : List Nat} {a b : Nat}, L.Nodup → [a, b].Sublist L → L.idxOf a < L.idxOf b
  | [], _, _, _, h => nomatch h
  | c :: L, a, b, hn, h => by
    obtain ⟨n1, n2⟩ := List.nodup_cons.mp hn
    cases h with
    | cons _ h =>
      have ha : c ≠ a := fun e => n1 (e ▸ h.subset (.head _))
      have hb : c ≠ b := fun e => n1 (e ▸ h.subset (.tail _ (.head _)))
      rw [idx_ne ha, idx_ne hb]
      exact Nat.succ_lt_succ (idx_lt n2 h)
    | cons_cons _ h =>
      have hb : c ≠ b := fun e => n1 (e ▸ h.subset (.head _))
      rw [List.idxOf_cons_self, idx_ne hb]
      exact Nat.succ_pos _

section
variable {f : Nat → Nat → Nat} {as : Nat → Nat} {t : Nat} {s : S2} {V : Nat → List Nat} {L : List Nat}
theorem Inv2.pred (I : Inv2 f as t s V L) (h5 : s.n = 5) (hair : s.air = []) {w : Nat} (h1 : 1 ≤ w) (hw : w < 5) : ∃ g, (w, f (as w) (as g) + 1, g) ∈ s.fo := by
  have hk := I.key
  rw [hair, h5] at hk
  have : w ∈ s.fo.map (·.1) := hk.symm.subset (List.mem_map.mpr ⟨w - 1, List.mem_range.mpr (Nat.sub_lt_sub_right h1 hw), Nat.sub_add_cancel h1⟩)
  obtain ⟨m, hm, e⟩ := List.mem_map.mp this
  have F := I.fn m hm
  obtain ⟨w', d, g⟩ := m
  cases e
  obtain ⟨_, _, _, e, _⟩ := F
  exact ⟨g, e ▸ hm⟩
theorem Inv2.ahead (T : Tree f) (ha : ∀ w, as w < 5) (I : Inv2 f as t s V L) {w d g : Nat} (h : (w, d, g) ∈ s.fo) : [g, w].Sublist L := by
  obtain ⟨_, _, _, _, α, β, e⟩ := I.fn _ h
  refine .trans ?_ (I.vis.sub (as g) (ha g))
  dsimp only at e
  rw [e]
  exact (List.Sublist.cons_cons g (List.singleton_sublist.mpr (.head _) : [w].Sublist (w :: β))).trans (List.sublist_append_right _ _)
theorem Inv2.uniq (ha : ∀ w, as w < 5) (I : Inv2 f as t s V L) {w d w' d' g : Nat} (h : (w, d, g) ∈ s.fo) (h' : (w', d', g) ∈ s.fo) : w = w' := by
  obtain ⟨_, _, _, _, α, β, e⟩ := I.fn _ h
  obtain ⟨_, _, _, _, α', β', e'⟩ := I.fn _ h'
  exact (List.cons.inj (nodup_split (I.vis.vnd (ha g)) e e').2).1
theorem Inv2.behind (ha : ∀ w, as w < 5) (I : Inv2 f as t s V L) {w g : Nat} (hw : w ∈ [1, 2, 3, 4]) (h : (w, f (as w) (as g) + 1, g) ∈ s.fo) : behindL f as s.fo g = [w] :=
  filter_one (by decide) hw (decide_eq_true h) fun w' e => I.uniq ha (of_decide_eq_true e) h
/-- a place that points at itself holds the last of a line -/
theorem Inv2.stops (ha : ∀ w, as w < 5) (I : Inv2 f as t s V L) {p g w d : Nat} {α : List Nat} (hp : p < 5) (e : V p = α ++ [g]) (hg : as g = p) (h : (w, d, g) ∈ s.fo) : False := by
  obtain ⟨_, _, _, _, α', β', e'⟩ := I.fn _ h
  dsimp only at e'
  rw [hg] at e'
  exact nomatch (nodup_split (I.vis.vnd hp) e e').2
theorem Inv2.cycle (T : Tree f) (ha : ∀ w, as w < 5) (I : Inv2 f as t s V L) {p x : Nat} (hp : p < 5) (hx : x < 5) (h : f p x = 1) (h1 : s.ar p = x) (h2 : s.ar x = p) : False := by
  obtain ⟨α, g, e, a, _⟩ := I.arr p hp
  obtain ⟨β, k, e', b, _⟩ := I.arr x hx
  have hne : p ≠ x := fun q => by rw [q, (T.zero hx hx).mpr rfl] at h; cases h
  have n1 : p ≠ as g := fun q => hne (by rw [← h1, a, ← q, tw_self T hp])
  have n2 : x ≠ as k := fun q => hne (by rw [← h2, b, ← q, tw_self T hx])
  have t1 := (tw_adj T hp (ha g) n1).2.2
  have t2 := (tw_adj T hx (ha k) n2).2.2
  rw [← a, h1, T.sym hx (ha g), T.sym hp (ha g)] at t1
  rw [← b, h2, T.sym hp (ha k), T.sym hx (ha k)] at t2
  have g1 : g ∈ V x := I.vis.both T ha hp hx h (by rw [e]; simp) t1
  have k1 : k ∈ V p := I.vis.both T ha hx hp (T.sym hp hx ▸ h) (by rw [e']; simp) t2
  by_cases hgk : g = k
  · subst hgk; exact Nat.lt_asymm t1 t2
  · rw [e] at k1
    rw [e'] at g1
    have k2 : k ∈ α := (List.mem_append.mp k1).resolve_right fun z => hgk (List.mem_singleton.mp z).symm
    have g2 : g ∈ β := (List.mem_append.mp g1).resolve_right fun z => hgk (List.mem_singleton.mp z)
    exact I.vis.ord hp hx (by rw [e]; exact pair_of k2 (.head _)) (by rw [e']; exact pair_of g2 (.head _))
theorem Inv2.sink (T : Tree f) (ha : ∀ w, as w < 5) (I : Inv2 f as t s V L) {s0 : Nat} (h0 : s0 < 5) (hs : ∀ p, p < 5 → s.ar p = p → p = s0) : ∀ k p, p < 5 → p ≠ s0 → s.ar p ≠ toward f p s0 → f p s0 + k = 5 → False
  | 0, p, hp, _, _, hk => by have := T.le hp h0; omega
  | k + 1, p, hp, hne, ha', hk => by
    obtain ⟨α, g, e, a, _⟩ := I.arr p hp
    have ns : p ≠ as g := fun q => hne (hs p hp (by rw [a, ← q, tw_self T hp]))
    obtain ⟨x5, x1, x2⟩ := tw_adj T hp (ha g) ns
    rw [← a] at x5 x1 x2
    have hsep : f (s.ar p) s0 = f p s0 + 1 := by
      have h1 := T.sep hp x5 h0 x1
      rw [T.sym h0 hp, T.sym h0 x5] at h1
      rcases h1 with h1 | h1
      · exact h1.symm
      · exact absurd (tw_uniq T hp h0 x5 x1 (h1 ▸ Nat.lt_succ_self _)).symm ha'
    have hxp : toward f (s.ar p) s0 = p := tw_uniq T x5 h0 hp (by rw [T.sym x5 hp]; exact x1) (by rw [hsep]; exact Nat.lt_succ_self _)
    refine I.sink T ha h0 hs k (s.ar p) x5 (fun q => ?_) (fun q => ?_) (by rw [hsep]; omega)
    · rw [(T.zero x5 h0).mpr q] at hsep; cases hsep
    · exact I.cycle T ha hp x5 x1 rfl (q.trans hxp)

theorem five {L : List Nat} (h : L.length = 5) : ∃ a b c d e, L = [a, b, c, d, e] := by
  obtain ⟨a, L1, e1, h⟩ := consOf h
  obtain ⟨b, L2, e2, h⟩ := consOf h
  obtain ⟨c, L3, e3, h⟩ := consOf h
  obtain ⟨d, L4, e4, h⟩ := consOf h
  obtain ⟨e, L5, e5, h⟩ := consOf h
  exact ⟨a, b, c, d, e, by rw [e1, e2, e3, e4, e5, List.eq_nil_of_length_eq_zero h]⟩
/-- the one behind x, where all ahead of x have theirs -/
theorem Inv2.next (T : Tree f) (ha : ∀ w, as w < 5) (I : Inv2 f as t s V L) (h5 : s.n = 5) (hair : s.air = []) {A B : List Nat} {x w : Nat} (e : L = (A ++ [x]) ++ w :: B) (hw : w ≠ 0) (hA : ∀ g ∈ A, ∃ w' d, w' ≠ w ∧ (w', d, g) ∈ s.fo) : (w, f (as w) (as x) + 1, x) ∈ s.fo := by
  obtain ⟨g, hg⟩ := I.pred h5 hair (Nat.pos_of_ne_zero hw) (h5 ▸ (I.vis.mem w).mp (by rw [e]; simp))
  rcases List.mem_append.mp (pre_mem (e ▸ I.vis.nd) (e ▸ I.ahead T ha hg)) with q | q
  · obtain ⟨w', d, h1, h2⟩ := hA g q
    exact absurd (I.uniq ha h2 hg) h1
  · exact List.mem_singleton.mp q ▸ hg
theorem Inv2.last (ha : ∀ w, as w < 5) (I : Inv2 f as t s V L) {A : List Nat} {g : Nat} (e : L = A ++ [g]) : ∃ α, V (as g) = α ++ [g] := by
  have hg : g ∈ V (as g) := I.vis.own g ((I.vis.mem g).mp (by rw [e]; simp))
  obtain ⟨α, β, e1⟩ := List.append_of_mem hg
  cases β with
  | nil => exact ⟨α, e1⟩
  | cons x β =>
    have hsub : [g, x].Sublist L := .trans (by rw [e1]; exact (List.Sublist.cons_cons g (List.singleton_sublist.mpr (.head _) : [x].Sublist (x :: β))).trans (List.sublist_append_right _ _)) (I.vis.sub _ (ha g))
    have hx : x ∈ A := by
      have : x ∈ L := hsub.subset (.tail _ (.head _))
      rw [e] at this
      refine (List.mem_append.mp this).resolve_right fun z => ?_
      rw [List.mem_singleton.mp z] at e1
      have := I.vis.vnd (ha g)
      rw [e1] at this
      exact (List.nodup_cons.mp (List.nodup_append.mp this).2.1).1 (.head _)
    exact (ord_contra I.vis.nd hsub (by rw [e]; exact pair_of hx (.head _))).elim
theorem Inv2.line (T : Tree f) (ha : ∀ w, as w < 5) (I : Inv2 f as t s V L) (h5 : s.n = 5) (hair : s.air = []) :
    s.fo.length = 4 ∧ ∃ a b c e, behindL f as s.fo 0 = [a] ∧ behindL f as s.fo a = [b] ∧ behindL f as s.fo b = [c] ∧ behindL f as s.fo c = [e] ∧ [0, a, b, c, e].Perm (List.range 5) ∧
      (∀ v w, v < w → w < 5 → as v = as w → [0, a, b, c, e].idxOf v < [0, a, b, c, e].idxOf w) ∧ ∀ p, p < 5 → s.ar p = toward f p (as e) := by
  have hl : s.fo.length = 4 := by
    have := I.keys
    rw [hair, h5, List.length_nil] at this
    omega
  have hm : ∀ w, w ∈ L ↔ w < 5 := fun w => h5 ▸ I.vis.mem w
  have hnd := I.vis.nd
  have hperm : L.Perm (List.range 5) := (List.perm_ext_iff_of_nodup hnd List.nodup_range).mpr fun w => by rw [hm, List.mem_range]
  have hsame : ∀ v w, v < w → w < 5 → as v = as w → L.idxOf v < L.idxOf w := fun v w h1 h2 h3 => idx_lt hnd ((I.vis.same h1 (h5.symm ▸ h2) h3).trans (I.vis.sub _ (ha w)))
  obtain ⟨l0, l1, l2, l3, l4, hL⟩ := five hperm.length_eq
  have z0 : l0 = 0 := Classical.byContradiction fun hz => by
    obtain ⟨g, hg⟩ := I.pred h5 hair (Nat.pos_of_ne_zero hz) ((hm l0).mp (by rw [hL]; exact .head _))
    exact nomatch pre_mem (A := []) (w := l0) (hL ▸ hnd) (hL ▸ I.ahead T ha hg)
  rw [z0] at hL
  have nd : [0, l1, l2, l3, l4].Nodup := hL ▸ hnd
  obtain ⟨m0, q0⟩ := List.nodup_cons.mp nd
  obtain ⟨m1, q1⟩ := List.nodup_cons.mp q0
  obtain ⟨m2, q2⟩ := List.nodup_cons.mp q1
  obtain ⟨m3, q3⟩ := List.nodup_cons.mp q2
  have i1 : ∀ {a b : Nat} {l : List Nat}, a = b → b ∈ l → a ∈ l := fun e h => e ▸ h
  have w4 : ∀ {w}, w ∈ [l1, l2, l3, l4] → w ≠ 0 ∧ w ∈ [1, 2, 3, 4] := fun {w} h =>
    have h0 : w ≠ 0 := fun e => m0 (i1 e.symm h)
    ⟨h0, (by decide : ∀ w, w < 5 → w ≠ 0 → w ∈ [1, 2, 3, 4]) w ((hm w).mp (hL ▸ .tail _ h)) h0⟩
  have r1 := w4 (.head _)
  have r2 := w4 (.tail _ (.head _))
  have r3 := w4 (.tail _ (.tail _ (.head _)))
  have r4 := w4 (.tail _ (.tail _ (.tail _ (.head _))))
  have no : ∀ {P : Nat → Prop}, ∀ g ∈ ([] : List Nat), P g := fun _ h => nomatch h
  have p1 : (l1, f (as l1) (as 0) + 1, 0) ∈ s.fo := I.next T ha h5 hair (A := []) hL r1.1 no
  have p2 : (l2, f (as l2) (as l1) + 1, l1) ∈ s.fo := I.next T ha h5 hair (A := [0]) hL r2.1 (List.forall_mem_cons.mpr ⟨⟨l1, _, fun e => m1 (i1 e (.head _)), p1⟩, no⟩)
  have p3 : (l3, f (as l3) (as l2) + 1, l2) ∈ s.fo := I.next T ha h5 hair (A := [0, l1]) hL r3.1 (List.forall_mem_cons.mpr ⟨⟨l1, _, fun e => m1 (i1 e (.tail _ (.head _))), p1⟩, List.forall_mem_cons.mpr ⟨⟨l2, _, fun e => m2 (i1 e (.head _)), p2⟩, no⟩⟩)
  have p4 : (l4, f (as l4) (as l3) + 1, l3) ∈ s.fo := I.next T ha h5 hair (A := [0, l1, l2]) hL r4.1 (List.forall_mem_cons.mpr ⟨⟨l1, _, fun e => m1 (i1 e (.tail _ (.tail _ (.head _)))), p1⟩, List.forall_mem_cons.mpr ⟨⟨l2, _, fun e => m2 (i1 e (.tail _ (.head _))), p2⟩, List.forall_mem_cons.mpr ⟨⟨l3, _, fun e => m3 (i1 e (.head _)), p3⟩, no⟩⟩⟩)
  refine ⟨hl, l1, l2, l3, l4, I.behind ha r1.2 p1, I.behind ha r2.2 p2, I.behind ha r3.2 p3, I.behind ha r4.2 p4, hL ▸ hperm, hL ▸ hsame, ?_⟩
  have only : ∀ p, p < 5 → s.ar p = p → p = as l4 := fun p hp hq => by
    obtain ⟨α, g, e, a, _⟩ := I.arr p hp
    have hgp : as g = p := Classical.byContradiction fun hne => by
      have := (tw_adj T hp (ha g) (Ne.symm hne)).2.1
      rw [← a, hq, (T.zero hp hp).mpr rfl] at this
      cases this
    have hgm : g ∈ [0, l1, l2, l3, l4] := hL ▸ (I.vis.sub p hp).subset (by rw [e]; exact List.mem_append_right _ (.head _))
    rcases List.mem_append (s := [0, l1, l2, l3]) (t := [l4]) |>.mp hgm with h | h
    · have : ∀ g ∈ [0, l1, l2, l3], ∃ w d, (w, d, g) ∈ s.fo := List.forall_mem_cons.mpr ⟨⟨_, _, p1⟩, List.forall_mem_cons.mpr ⟨⟨_, _, p2⟩, List.forall_mem_cons.mpr ⟨⟨_, _, p3⟩, List.forall_mem_cons.mpr ⟨⟨_, _, p4⟩, no⟩⟩⟩⟩
      obtain ⟨w, d, q⟩ := this g h
      exact (I.stops ha hp e hgp q).elim
    · rw [← hgp, List.mem_singleton.mp h]
  intro p hp
  by_cases e : p = as l4
  · obtain ⟨α, e1⟩ := I.last ha (A := [0, l1, l2, l3]) (g := l4) hL
    obtain ⟨α', g, e2, a, _⟩ := I.arr p hp
    rw [← e, e2] at e1
    rw [a, List.cons.inj (List.append_inj' e1 rfl).2 |>.1]
  · exact Classical.byContradiction fun hne => by
      have := T.le hp (ha l4)
      exact I.sink T ha (ha l4) only (5 - f p (as l4)) p hp e hne (by omega)
end


section
variable {X : Cx} {n : Nat} {τ : Store} {Q : D → Store → Prop} {a : Addr} {ds : List D} {K : Value → Prop}
theorem m_index (e : τ a = some ds) (h : K (.builtin "list.index")) : MethP X n (.own a) "index" τ K := ⟨_, gm_list (.own e) PySem.F.slot_list_index PySem.F.type_list_index, h⟩
theorem isInt_int (k x : Int) (t : Tok) : isInt k (.int x t) = (x == k) := rfl
theorem c_index {xs : List Int} {k : Int} (e : τ a = some (xs.map D.int)) (hm : k ∈ xs) (hsz : xs.length ≤ 1000) (h : Q (.int (xs.idxOf k : Nat)) τ) : CallV X n (.builtin "list.index") [.own a, .int k] [] τ Q := .intro0 fun A s E vs R O r => by
  cases r with
  | cons ra r => cases r with
    | cons rb r =>
      obtain rfl := r.nil_inv; obtain ⟨t, rfl⟩ := rb.inv; obtain rfl := ra.own_inv
      obtain ⟨ws, c, hv, rs⟩ := O.store a _ e
      obtain ⟨l, rfl, rfl⟩ := ints_of rs
      have hj := List.idxOf_lt_length_of_mem hm
      have hi : ∀ m (hm : m < (l.map fun p => Value.int p.1 p.2).toArray.size), isInt k (l.map fun p => Value.int p.1 p.2).toArray[m] = ((l.map (·.1))[m]'(by simpa using hm) == k) := fun m hm => by simp [isInt_int]
      refine call_meets PySem.F.slot_list_index ⟨_, hv, rfl⟩ PySem.F.entry_list_index (PySem.F.args_list_index_2 _ _)
        (MeetsSeq.list_index a _ _ (.int k t) (isInt k) (fun y hy => ?_) ((l.map (·.1)).idxOf k) (by simpa using hj) (by omega) ?_ fun m hm hlt => ?_) ⟨hv, Post.here O h (.int _ _) rfl rfl rfl⟩
      · have : y ∈ l.map fun p => Value.int p.1 p.2 := by simpa using hy
        obtain ⟨p, _, rfl⟩ := List.mem_map.mp this
        exact MeetsSeq.EqGives.int p.1 k p.2 t
      · rw [hi]
        simp
      · rw [hi]
        exact List.not_of_lt_findIdx (p := (· == k)) hlt |> fun z => by simpa using z
end
local macro_rules | `(tactic| walk_at "st") => firstOf "m_index/a"

/-- the places' numbers -/
structure Num5 (num : Nat → Nat) : Prop where
  lt : ∀ a, a < 5 → num a < 10 ^ 12
  inj : ∀ a b, a < 5 → b < 5 → num a = num b → a = b
noncomputable def keyS (num : Nat → Nat) (p : Nat) (b : Bool) : Str := if b then Txt.lower (word (num p)) else word (num p)
theorem lo_fig {m c : Nat} (h : c ∈ figs m) : lo1 c = c + 32 := by
  have := figs_mem h
  unfold lo1
  rw [if_pos (by omega)]
theorem word_low (m : Nat) : (Txt.lower (word m)).cps.toList = (figs m).map lo1 := low_list (x := word m) fun c hc => by
  have := figs_mem (show c ∈ figs m from hc); omega
theorem lowfig {m c : Nat} (h : c ∈ (figs m).map lo1) : 97 ≤ c ∧ c < 113 := by
  obtain ⟨a, ha, rfl⟩ := List.mem_map.mp h
  have := figs_mem ha
  rw [lo_fig ha]
  omega
theorem key_low (num : Nat → Nat) (p : Nat) (b : Bool) : low (keyS num p b) = (figs (num p)).map lo1 := by
  cases b with
  | false => exact word_low _
  | true =>
    show low (Txt.lower (word (num p))) = _
    rw [low_list fun c hc => ?_, word_low, List.map_map]
    · exact List.map_congr_left fun c _ => lo_lo c
    · rw [word_low] at hc
      have := lowfig hc; omega
theorem lo_inj {m n : Nat} (h : (figs m).map lo1 = (figs n).map lo1) : m = n := by
  have e : ∀ k, ((figs k).map lo1).map (· - 32) = figs k := fun k => by
    rw [List.map_map]
    conv => rhs; rw [← List.map_id (figs k)]
    exact List.map_congr_left fun c hc => by show lo1 c - 32 = c; rw [lo_fig hc, Nat.add_sub_cancel]
  exact figs_inj (by rw [← e m, h, e n])
theorem key_is {num : Nat → Nat} (N : Num5 num) {p q : Nat} {b c : Bool} (hp : p < 5) (hq : q < 5) : (low (keyS num p b) == low (keyS num q c)) = (p == q) := by
  rw [key_low, key_low, Bool.eq_iff_iff, beq_iff_eq, beq_iff_eq]
  exact ⟨fun h => N.inj p q hp hq (lo_inj h), fun h => by rw [h]⟩
theorem good_key {num : Nat → Nat} (N : Num5 num) {p : Nat} (hp : p < 5) (b : Bool) : Good (keyS num p b) 10 := by
  have h := good_word (N.lt p hp)
  cases b with
  | false => exact h
  | true =>
    refine ⟨?_, fun c hc => ?_⟩
    · show (Txt.lower (word (num p))).cps.toList.length ≤ 10
      rw [word_low, List.length_map]; exact h.1
    · have : c ∈ (figs (num p)).map lo1 := by rw [← word_low]; exact hc
      have := lowfig this
      exact .inr (by omega)
theorem key_up (num : Nat → Nat) (p : Nat) (b : Bool) : Txt.upper (keyS num p b) = word (num p) := by
  have hc : ∀ c ∈ (keyS num p b).cps.toList, (∃ a ∈ figs (num p), c = a ∨ c = lo1 a) ∧ c < 128 := fun c hc => by
    cases b with
    | false =>
      have hc : c ∈ figs (num p) := hc
      exact ⟨⟨c, hc, .inl rfl⟩, by have := figs_mem hc; omega⟩
    | true =>
      have hc : c ∈ (figs (num p)).map lo1 := by rw [← word_low]; exact hc
      obtain ⟨a, ha, e⟩ := List.mem_map.mp hc
      exact ⟨⟨a, ha, .inr e.symm⟩, by have := lowfig hc; omega⟩
  have hu : ∀ a ∈ figs (num p), up1 a = a ∧ up1 (lo1 a) = a := fun a ha => by
    have := figs_mem ha
    rw [lo_fig ha]
    unfold up1
    constructor
    · rw [if_neg (by omega)]
    · rw [if_pos (by omega)]; omega
  rw [upper_ascii fun c h => (hc c h).2]
  apply str_ext
  show (Array.map up1 _).toList = figs (num p)
  rw [Array.toList_map]
  cases b with
  | false =>
    show (figs (num p)).map up1 = _
    conv => rhs; rw [← List.map_id (figs (num p))]
    exact List.map_congr_left fun a ha => (hu a ha).1
  | true =>
    show (Txt.lower (word (num p))).cps.toList.map up1 = _
    rw [word_low, List.map_map]
    conv => rhs; rw [← List.map_id (figs (num p))]
    exact List.map_congr_left fun a ha => (hu a ha).2

/-! tables of the places: place, small letters or not, what it holds -/
abbrev Ent := Nat × Bool × Nat
noncomputable def entP (num : Nat → Nat) (vs : Nat → Str) (e : Ent) : Str × Str := (keyS num e.1 e.2.1, vs e.2.2)
structure Holds (E : List Ent) (m : Nat → Option Nat) : Prop where
  nd : (E.map (·.1)).Nodup
  lt : ∀ e ∈ E, e.1 < 5 ∧ e.2.2 < 5
  of : ∀ e ∈ E, m e.1 = some e.2.2
  is : ∀ p v, m p = some v → ∃ b, (p, b, v) ∈ E
theorem Holds.len {E : List Ent} {m : Nat → Option Nat} (H : Holds E m) : E.length ≤ 5 := by
  have := nodup_le (r := List.range 5) H.nd fun x hx => by
    obtain ⟨e, he, rfl⟩ := List.mem_map.mp hx
    exact List.mem_range.mpr (H.lt e he).1
  simpa using this
theorem Holds.set {E : List Ent} {m : Nat → Option Nat} (H : Holds E m) {p u : Nat} (hp : p < 5) (hu : u < 5) (b : Bool) : Holds ((E.filter fun e => e.1 != p) ++ [(p, b, u)]) (fun q => if q = p then some u else m q) := by
  have mem : ∀ e, e ∈ E.filter (fun e => e.1 != p) ↔ e ∈ E ∧ e.1 ≠ p := fun e => by rw [List.mem_filter]; simp
  refine ⟨?_, fun e he => ?_, fun e he => ?_, fun q v h => ?_⟩
  · rw [List.map_append, List.nodup_append]
    refine ⟨H.nd.sublist ((List.filter_sublist).map _), by simp, fun x hx y hy e => ?_⟩
    obtain ⟨z, hz, rfl⟩ := List.mem_map.mp hx
    exact ((mem z).mp hz).2 (e.trans (List.mem_singleton.mp hy))
  · rcases List.mem_append.mp he with he | he
    · exact H.lt e ((mem e).mp he).1
    · rw [List.mem_singleton.mp he]; exact ⟨hp, hu⟩
  · rcases List.mem_append.mp he with he | he
    · rw [if_neg ((mem e).mp he).2]; exact H.of e ((mem e).mp he).1
    · rw [List.mem_singleton.mp he, if_pos rfl]
  · by_cases e : q = p
    · rw [if_pos e] at h
      cases h
      exact ⟨b, List.mem_append_right _ (by rw [e]; exact .head _)⟩
    · rw [if_neg e] at h
      obtain ⟨c, hc⟩ := H.is q v h
      exact ⟨c, List.mem_append_left _ ((mem _).mpr ⟨hc, e⟩)⟩
noncomputable def gotD (vs : Nat → Str) : Option Nat → D
  | some v => .str (vs v)
  | none => .none
theorem ent_tab {num : Nat → Nat} {vs : Nat → Str} (N : Num5 num) (hv : ∀ v, v < 5 → Good (vs v) 10) {E : List Ent} {m : Nat → Option Nat} (H : Holds E m) : Tab (E.map (entP num vs)) := by
  refine ⟨by rw [List.length_map]; have := H.len; omega, fun p hp => ?_⟩
  obtain ⟨e, he, rfl⟩ := List.mem_map.mp hp
  obtain ⟨h1, h2⟩ := H.lt e he
  have g1 := (good_key N h1 e.2.1).1
  have g2 := (hv _ h2).1
  rw [← length_list] at g1 g2
  exact ⟨Nat.le_trans g1 (by decide), Nat.le_trans g2 (by decide)⟩
theorem ent_found {num : Nat → Nat} {vs : Nat → Str} (N : Num5 num) {E : List Ent} {m : Nat → Option Nat} (H : Holds E m) {p : Nat} (hp : p < 5) (b : Bool) : found (E.map (entP num vs)) (keyS num p b) = gotD vs (m p) := by
  unfold found
  have hq : ∀ e ∈ E, ((fun q : Str × Str => low q.1 == low (keyS num p b)) ∘ entP num vs) e = (e.1 == p) := fun e he => key_is N (H.lt e he).1 hp
  cases hf : (E.map (entP num vs)).find? (fun q => low q.1 == low (keyS num p b)) with
  | none =>
    cases hm : m p with
    | none => rfl
    | some v =>
      obtain ⟨c, hc⟩ := H.is p v hm
      have := List.find?_eq_none.mp hf _ (List.mem_map.mpr ⟨_, hc, rfl⟩)
      have h2 := hq _ hc
      dsimp only [Function.comp] at h2
      rw [h2] at this
      exact absurd (beq_self_eq_true p) this
  | some q =>
    have h1 := List.find?_some hf
    obtain ⟨e, he, rfl⟩ := List.mem_map.mp (List.mem_of_find?_eq_some hf)
    have h2 := hq e he
    dsimp only [Function.comp] at h2
    rw [h2, beq_iff_eq] at h1
    rw [← h1, H.of e he]
    rfl

section
variable {X : Cx} {ps : PySem.Params} {τ : Store} {Q : D → Store → Prop} {n : Nat} {a l : Addr} {num : Nat → Nat} {vs : Nat → Str}
theorem ife_both {sk : Sk} {ρ : Str → Option D} {body orelse : Expr} {b : Bool} (f : Bool → D) (h1 : ∀ Q' : D → Store → Prop, Q' (f true) τ → Ev X n sk ρ τ body Q') (h2 : ∀ Q' : D → Store → Prop, Q' (f false) τ → Ev X n sk ρ τ orelse Q') (h : ∀ c, Q (f c) τ) : IfE X n sk ρ body orelse Q b τ :=
  ife_q (fun _ => h1 _ (h true)) fun _ => h2 _ (h false)
noncomputable def F234 : FuncData := fnAt (hd.heap_39 ps0) 234
theorem fn234 (ps) : fnAt (hd.heap_39 ps) 234 = F234 := by kernel_rfl
theorem ok234 (ps) : fnOk (hd.heap_39 ps) 234 F234 = true := by kernel_rfl

theorem law_turned (L : L3 X ps) (N : Num5 num) (hv : ∀ v, v < 5 → Good (vs v) 10) {E : List Ent} {m : Nat → Option Nat} (H : Holds E m) {p u turn : Nat} (hp : p < 5) (hu : u < 5) (hl : τ l = some ((E.map (entP num vs)).map pairD))
    (h : ∀ E', Holds E' (fun q => if q = p then some u else m q) → Q (gotD vs (m p)) (put τ l ((E'.map (entP num vs)).map pairD))) :
    CodeV X 40 (.ref 234) [.hdr a l, .str (word (num p)), .str (vs u), .int (turn : Int)] [] τ Q := by
  have hK := L.K
  refine codeV_fnQ (fd := F234) (bds := [("table", .hdr a l), ("name", .str (word (num p))), ("told", .str (vs u)), ("turn", .int (turn : Int))]) (by rw [hK]; exact fn234 ps) (by rw [hK]; exact ok234 ps) (bindV_4 fun S a b c d => by rw [hK]; kernel_rfl) (by kernel_rfl) ?_
  simp only [bindD]
  have hT := ent_tab N hv H
  have hwl := word_len (N.lt p hp)
  have gk := fun b => good_key N hp b
  have kl : ∀ b, (keyS num p b).length ≤ 10 := fun b => by rw [length_list]; exact (gk b).1
  have lk : ∀ b, clean (Txt.lower (keyS num p b)) := fun b => by
    have : Txt.lower (keyS num p b) = keyS num p true := str_ext (by rw [show (keyS num p true).cps.toList = (figs (num p)).map lo1 from word_low _]; exact key_low num p b)
    rw [this]
    exact (gk true).clean (by decide)
  have get : ∀ b (Q' : D → Store → Prop), Q' (gotD vs (m p)) τ → CallV X 39 (.ref 155) [.hdr a l, .str (keyS num p b)] [] τ Q' := fun b Q' hq =>
    CallV.room (CodeV.call (h_get L hl hT (Nat.le_trans (kl b) (by decide)) (lk b) (by rw [ent_found N H hp b]; exact hq))) (by omega)
  have set : ∀ b (P' : Store → Prop), (∀ E', Holds E' (fun q => if q = p then some u else m q) → P' (put τ l ((E'.map (entP num vs)).map pairD))) → Do3 X 39 setItem (.hdr a l) (.str (keyS num p b)) (.str (vs u)) τ P' := fun b P' hq => by
    refine set_hdr3 L (CallV.room (CodeV.call (h_set L hl hT (Nat.le_trans (kl b) (by decide)) (lk b) ((gk b).clean (by decide)) ((hv u hu).clean (by decide)) ?_)) (by omega))
    have := hq _ (H.set hp hu b)
    rw [List.map_append] at this
    rw [List.filter_map, show E.filter ((fun q : Str × Str => low q.1 != low (keyS num p b)) ∘ entP num vs) = E.filter (fun e => e.1 != p) from List.filter_congr fun e he => by
      show (!(low (keyS num e.1 e.2.1) == low (keyS num p b))) = !(e.1 == p)
      rw [key_is N (H.lt e he).1 hp]]
    exact this
  refine ex_seq ?_
  walk_at "w"
  refine ife_both (fun b => .str (keyS num p b)) (fun Q' hq => ?_) (fun Q' hq => ?_) fun b => ?_
  · walk_at "w"
    refine c_lower (by omega) ?_
    exact hq
  · walk_at "w"
    exact hq
  walk_at "w"
  refine get b _ ?_
  refine seq_next (ex_seq ?_)
  walk_at "w"
  refine ife_both (fun b => .str (keyS num p b)) (fun Q' hq => ?_) (fun Q' hq => ?_) fun b => ?_
  · walk_at "w"
    refine c_lower (by omega) ?_
    exact hq
  · walk_at "w"
    exact hq
  refine set b _ fun E' hE => ?_
  walk_at "w"
  exact h E' hE
end


structure Far5 (far : List (List Nat)) (k : Nat) : Prop where
  len : far.length = k
  row : ∀ e, e < k → (far.getD e []).length = k
theorem far5_step {up : List Nat} {far : List (List Nat)} {p : Nat} (F : Far5 far p) : Far5 (farStep up far p) (p + 1) := by
  refine ⟨by unfold farStep; simp, fun e he => ?_⟩
  unfold farStep
  rw [List.getD_eq_getElem?_getD]
  rcases Nat.lt_or_eq_of_le (Nat.le_of_lt_succ he) with h | rfl
  · rw [List.getElem?_append_left (by simpa using h), List.getElem?_map, List.getElem?_range h]
    show (far.getD e [] ++ [_]).length = _
    rw [List.length_append, F.row e h]; rfl
  · rw [List.getElem?_append_right (by simp)]
    simp
theorem far5_of (up : List Nat) : ∀ k, Far5 (farU up k) (k + 1)
  | 0 => ⟨rfl, fun e he => by have : e = 0 := Nat.lt_one_iff.mp he; subst this; rfl⟩
  | k + 1 => far5_step (far5_of up k)
theorem range_drop {n k j : Nat} {r : List Nat} (h : j :: r = (List.range n).drop k) : j = k ∧ k < n ∧ r = (List.range n).drop (k + 1) := by
  have hlt : k < n := by
    rcases Nat.lt_or_ge k n with q | q
    · exact q
    · rw [List.drop_eq_nil_of_le (by simpa using q)] at h; cases h
  rw [List.drop_eq_getElem_cons (by simpa using hlt)] at h
  simp at h
  exact ⟨h.1, hlt, by simpa using h.2⟩
theorem range_done {n k : Nat} (h : [] = (List.range n).drop k) (hk : k ≤ n) : k = n := by
  have := congrArg List.length h
  simp at this
  omega

section
variable {X : Cx} {ps : PySem.Params} {τ : Store} {Q : D → Store → Prop} {n : Nat} {sk : Sk} {ρ : Str → Option D} {far : List (List Nat)} {K : Nat}
theorem far_1 (F : Far5 far K) (hK : K ≤ 5) {e : Nat} (he : e < K) (h : Q (intsD (far.getD e [])) τ) : T2 X n getItem (.list (far.map intsD)) (.int (e : Int)) τ Q :=
  t2_itemN (l := far) (f := intsD) [] (by rw [F.len]; exact he) (by rw [F.len]; exact Nat.lt_of_le_of_lt hK (by decide)) h
theorem far_2 (F : Far5 far K) (hK : K ≤ 5) {e g : Nat} (he : e < K) (hg : g < K) (h : Q (.int (fd far e g : Int)) τ) : T2 X n getItem (intsD (far.getD e [])) (.int (g : Int)) τ Q :=
  t2_itemN (l := far.getD e []) (f := fun (k : Nat) => D.int k) 0 (by rw [F.row e he]; exact hg) (by rw [F.row e he]; exact Nat.lt_of_le_of_lt hK (by decide)) h
noncomputable def F222 : FuncData := fnAt (hd.heap_39 ps0) 222
theorem fn222 (ps) : fnAt (hd.heap_39 ps) 222 = F222 := by kernel_rfl
theorem ok222 (ps) : fnOk (hd.heap_39 ps) 222 F222 = true := by kernel_rfl
noncomputable def F227 : FuncData := fnAt (hd.heap_39 ps0) 227
theorem fn227 (ps) : fnAt (hd.heap_39 ps) 227 = F227 := by kernel_rfl
theorem ok227 (ps) : fnOk (hd.heap_39 ps) 227 F227 = true := by kernel_rfl
theorem int1b_inj (a b : Nat) (h : D.int (1 + (a : Int)) = D.int (1 + (b : Int))) : a = b := by
  have := D.int.inj h
  omega

theorem law_far (L : L3 X ps) {up : List Nat} (hup : up.length = 5) (hlt : ∀ p, p < 5 → 1 ≤ p → up.getD p 0 < p) (h : Q (.list ((farU up 4).map intsD)) τ) :
    CodeV X 20 (.ref 222) [intsD up] [] τ Q := by
  have hK := L.K
  refine codeV_fnQ (fd := F222) (bds := [("up", intsD up)]) (by rw [hK]; exact fn222 ps) (by rw [hK]; exact ok222 ps) (bindV_1 fun S v => by rw [hK]; kernel_rfl) (by kernel_rfl) ?_
  simp only [bindD]
  refine ex_seq (ex_assign (by with_unfolding_all rfl) (by kernel_rfl) (ev_list (by decide +kernel) ?_))
  walk_at "w"
  refine ex_forP (by kernel_rfl) ?_
  walk_at "w"
  refine forP_of (List.range 4) (fun (j : Nat) => D.int (1 + (j : Int))) (fun r ρ' τ' => ∃ k, r = (List.range 4).drop k ∧ k ≤ 4 ∧ ρ' "up" = some (intsD up) ∧ ρ' "far" = some (.list ((farU up k).map intsD)) ∧ τ' = τ) rfl (items_rng1 rfl (by decide) (by decide) (by decide) (by decide)) ⟨0, rfl, by decide, by walk_at "lk", by walk_at "lk", rfl⟩ ?_ ?_
  · rintro ρ₁ _ ⟨k, hk, hk7, h1, h2, rfl⟩
    have := range_done hk hk7
    subst this
    walk_at "w"
    exact h
  · intro e r ρ₁ τ₁ i
    refine ⟨_, asg1 (by decide +kernel), body_gen fun QB hB => ?_⟩
    obtain ⟨k, hk, hk7, h1, h2, rfl⟩ := i
    obtain ⟨rfl, hlt4, rfl⟩ := range_drop hk
    have F := far5_of up e
    have hu := hlt (e + 1) (by omega) (by omega)
    have e1 : (1 : Int) + (e : Int) = ((e + 1 : Nat) : Int) := by omega
    rw [e1]
    walk_at "w"
    refine comp_map (List.range (e + 1)) (fun (j : Nat) => D.int j) (fun q => .int (fd (farU up e) (up.getD (e + 1) 0) q + 1 : Nat)) int_inj rfl (items_rng rfl (by omega)) (by rw [List.length_map, List.length_range, sizeLine_eq]; omega) (fun σ q _ hq => ?_) ?_
    · have hq : q < e + 1 := by simpa using hq
      refine compA_of1 (by kernel_rfl) ?_
      walk_at "w"
      refine t2_itemN (l := up) (f := fun (k : Nat) => D.int k) 0 (by omega) (by omega) ?_
      refine ⟨trivial, far_1 F (by omega) hu ?_⟩
      walk_at "w"
      refine far_2 F (by omega) hu hq ?_
      walk_at "w"
      rfl
    walk_at "w"
    have hrl : ((List.range (e + 1)).map fun q => D.int (fd (farU up e) (up.getD (e + 1) 0) q + 1 : Nat)).length = e + 1 := by simp
    refine comp_map (List.range (e + 1)) (fun (j : Nat) => D.int j) (fun q => intsD ((farU up e).getD q [] ++ [fd (farU up e) (up.getD (e + 1) 0) q + 1])) int_inj rfl (items_rng rfl (by omega)) (by rw [List.length_map, List.length_range, sizeLine_eq]; omega) (fun σ q _ hq => ?_) ?_
    · have hq : q < e + 1 := by simpa using hq
      refine compA_of1 (by kernel_rfl) ?_
      walk_at "w"
      refine far_1 F (by omega) hq ?_
      walk_at "w"
      refine t2_itemN (l := List.range (e + 1)) (f := fun (q : Nat) => D.int (fd (farU up e) (up.getD (e + 1) 0) q + 1 : Nat)) 0 (by simpa using hq) (by simp; omega) ?_
      refine evs_nil ⟨len1 _, t2_addl (by rw [List.length_map, F.row q hq, sizeLine_eq]; show _ + 1 ≤ _; omega) ⟨rfl, ?_⟩⟩
      show D.list _ = D.list _
      rw [show (List.range (e + 1)).getD q 0 = q by rw [List.getD_eq_getElem?_getD, List.getElem?_range hq]; rfl, List.map_append]
      rfl
    walk_at "w"
    refine t2_addl (by rw [hrl, sizeLine_eq]; show _ + 1 ≤ _; omega) (evs_nil ⟨len1 _, t2_addl (by rw [List.length_map, List.length_range, sizeLine_eq]; show _ + 1 ≤ _; omega) ?_⟩)
    walk_at "w"
    refine hB _ _ ⟨e + 1, rfl, by omega, by walk_at "lk", ?_, rfl⟩
    rw [upd_same]
    show some (D.list _) = some (D.list ((farStep up (farU up e) (e + 1)).map intsD))
    unfold farStep
    rw [List.map_append, List.map_map]
    refine congrArg (fun x => some (D.list x)) ?_
    congr 1
    show [D.list _] = [D.list _]
    rw [List.map_append, List.map_map]
    rfl
theorem testq_no {σ : Store} {b : Bool} {P : Prop} (h : b = false) : TestQ σ b P false σ := by
  subst h
  exact ⟨rfl, rfl, fun h => absurd h Bool.false_ne_true⟩
theorem law_toward (L : L3 X ps) (F : Far5 far 5) {u v : Nat} (hu : u < 5) (hv : v < 5) (h : Q (.int (toward (fd far) u v : Nat)) τ) :
    CodeV X 20 (.ref 227) [.list (far.map intsD), .int (u : Int), .int (v : Int)] [] τ Q := by
  have hK := L.K
  refine codeV_fnQ (fd := F227) (bds := [("far", .list (far.map intsD)), ("u", .int (u : Int)), ("v", .int (v : Int))]) (by rw [hK]; exact fn227 ps) (by rw [hK]; exact ok227 ps) (bindV_3 fun S a b c => by rw [hK]; kernel_rfl) (by kernel_rfl) ?_
  simp only [bindD]
  refine ex_seq ?_
  walk_at "w"
  refine comp_of (List.range 5) (fun (j : Nat) => D.int j) (fun w => fd far u w == 1 && decide (fd far w v < fd far u v)) (fun (w : Nat) => .int (w : Int)) int_inj rfl (items_rng rfl (by decide)) (by rw [List.length_map, List.length_range, sizeLine_eq]; decide) (fun σ w _ hw => ?_) ?_
  · have hw : w < 5 := by simpa using hw
    refine compA_of (by kernel_rfl) (ifs1 ?_)
    walk_at "w"
    refine far_1 F (Nat.le_refl _) hu ?_
    walk_at "w"
    refine far_2 F (Nat.le_refl _) hu hw ?_
    walk_at "w"
    refine and_q (fun hb => ?_) fun hb => ?_
    · rw [show (fd far u w == 1) = true by have := beq_iff_eq.mp hb; exact beq_iff_eq.mpr (by omega), Bool.true_and]
      walk_at "w"
      refine far_1 F (Nat.le_refl _) hw ?_
      walk_at "w"
      refine far_2 F (Nat.le_refl _) hw hv ?_
      walk_at "w"
      refine far_1 F (Nat.le_refl _) hu ?_
      walk_at "w"
      refine far_2 F (Nat.le_refl _) hu hv ?_
      walk_at "w"
      rw [show decide ((fd far w v : Int) < fd far u v) = decide (fd far w v < fd far u v) from decide_eq_decide.mpr (by omega)]
      refine and_q (fun hb3 => ?_) fun hb3 => ?_
      · walk_at "w"
        refine ⟨hb3.symm, fun _ => ?_⟩
        walk_at "w"
        rfl
      · exact testq_no hb3
    · rw [show (fd far u w == 1) = false by have := beq_eq_false_iff_ne.mp hb; exact beq_eq_false_iff_ne.mpr (by omega), Bool.false_and]
      exact testq_no rfl
  refine ev_list (by decide +kernel) ?_
  walk_at "w"
  have hfl := List.length_filter_le (fun w => fd far u w == 1 && decide (fd far w v < fd far u v)) (List.range 5)
  rw [List.length_range] at hfl
  refine t2_addl (by rw [List.length_map, sizeLine_eq]; show _ + 1 ≤ _; omega) ?_
  walk_at "w"
  have e : (((List.range 5).filter fun w => fd far u w == 1 && decide (fd far w v < fd far u v)).map (fun (w : Nat) => D.int (w : Int)) ++ [D.int (u : Int)])[0]? = some (D.int (toward (fd far) u v : Nat)) := by
    unfold toward
    cases (List.range 5).filter fun w => fd far u w == 1 && decide (fd far w v < fd far u v) with
    | nil => rfl
    | cons c r => rfl
  refine t2_item .list (by decide) (by decide) (j := 0) ?_ e ?_
  · rw [List.length_append]
    exact seqIndex_nat (Nat.succ_pos _)
  walk_at "w"
  exact h
end


noncomputable def F249 : FuncData := fnAt (hd.heap_39 ps0) 249
theorem fn249 (ps) : fnAt (hd.heap_39 ps) 249 = F249 := by kernel_rfl
theorem ok249 (ps) : fnOk (hd.heap_39 ps) 249 F249 = true := by kernel_rfl
section
variable {X : Cx} {ps : PySem.Params} {τ : Store} {n : Nat} {sk : Sk} {ρ : Str → Option D} {Q : D → Store → Prop}
theorem g__law_far (ps) : nsIn (hd.heap_39 ps) mainGlobals "_law_far" = some (some (.ref 222)) := by kernel_rfl
theorem call__law_far {p pos : Pos} {args : List Expr} {kws : List Keyword} (hK : X.K = hd.heap_39 ps) (ha : plainArgs args = true) (hw : plainKws kws = true) (hk : globOk sk "_law_far" = true)
    (h : Evs X n sk ρ τ args (fun ds τ₁ => Kws X n sk ρ τ₁ kws (fun ks τ₂ => (kwNames kws).length = ks.length ∧ CallV X n (.ref 222) ds ((kwNames kws).zip ks) τ₂ Q))) : Ev X n sk ρ τ (.Call (.Name "_law_far" p) args kws pos) Q :=
  ev_call ha hw (fun h => ev_glob (by rw [hK]; exact g__law_far ps) hk h) (keepable_K (by rw [hK]; kernel_rfl)) h
theorem g__law_toward (ps) : nsIn (hd.heap_39 ps) mainGlobals "_law_toward" = some (some (.ref 227)) := by kernel_rfl
theorem call__law_toward {p pos : Pos} {args : List Expr} {kws : List Keyword} (hK : X.K = hd.heap_39 ps) (ha : plainArgs args = true) (hw : plainKws kws = true) (hk : globOk sk "_law_toward" = true)
    (h : Evs X n sk ρ τ args (fun ds τ₁ => Kws X n sk ρ τ₁ kws (fun ks τ₂ => (kwNames kws).length = ks.length ∧ CallV X n (.ref 227) ds ((kwNames kws).zip ks) τ₂ Q))) : Ev X n sk ρ τ (.Call (.Name "_law_toward" p) args kws pos) Q :=
  ev_call ha hw (fun h => ev_glob (by rw [hK]; exact g__law_toward ps) hk h) (keepable_K (by rw [hK]; kernel_rfl)) h
theorem g__law_turned (ps) : nsIn (hd.heap_39 ps) mainGlobals "_law_turned" = some (some (.ref 234)) := by kernel_rfl
theorem call__law_turned {p pos : Pos} {args : List Expr} {kws : List Keyword} (hK : X.K = hd.heap_39 ps) (ha : plainArgs args = true) (hw : plainKws kws = true) (hk : globOk sk "_law_turned" = true)
    (h : Evs X n sk ρ τ args (fun ds τ₁ => Kws X n sk ρ τ₁ kws (fun ks τ₂ => (kwNames kws).length = ks.length ∧ CallV X n (.ref 234) ds ((kwNames kws).zip ks) τ₂ Q))) : Ev X n sk ρ τ (.Call (.Name "_law_turned" p) args kws pos) Q :=
  ev_call ha hw (fun h => ev_glob (by rw [hK]; exact g__law_turned ps) hk h) (keepable_K (by rw [hK]; kernel_rfl)) h
end
local macro_rules | `(tactic| walk_at "st") => firstOf "call__law_far/akkk call__law_toward/akkk call__law_turned/akkk"

noncomputable def dnm (d w : Nat) : Str := ⟨(List.replicate d 46 ++ figs w).toArray⟩
theorem dnm_list (d w : Nat) : (dnm d w).cps.toList = List.replicate d 46 ++ figs w := rfl
theorem good_mark {w : Nat} (hw : w < 5) : Good (word w) 10 := good_word (Nat.lt_trans hw (by decide))
theorem good_dnm {d w : Nat} (hd : d ≤ 10) (hw : w < 5) : Good (dnm d w) 20 := by
  have hg := good_mark hw
  refine ⟨?_, fun c hc => ?_⟩
  · rw [dnm_list, List.length_append, List.length_replicate]
    exact Nat.add_le_add hd hg.1
  · rw [dnm_list] at hc
    rcases List.mem_append.mp hc with hc | hc
    · left; exact (List.mem_replicate.mp hc).2
    · exact hg.2 c hc
theorem dot_dnm (d w : Nat) : PySem.Str.ofString "." ++ dnm d w = dnm (d + 1) w := by
  apply str_ext
  rw [toList_app, dot_list]; rfl
theorem good_few : ∀ c ∈ [46, 84, 111], goodC c := (by decide : ∀ c ∈ [46, 84, 111], c = 46 ∨ (65 ≤ c ∧ c ≤ 122))
theorem good_to : Good (PySem.Str.ofString ".To") 10 := by
  have e : (PySem.Str.ofString ".To").cps.toList = [46, 84, 111] := by decide +kernel
  exact ⟨by rw [e]; decide, fun c hc => by rw [e] at hc; exact good_few c (by revert c; decide)⟩
theorem good_too : Good (PySem.Str.ofString "..To") 10 := by
  have e : (PySem.Str.ofString "..To").cps.toList = [46, 46, 84, 111] := by decide +kernel
  exact ⟨by rw [e]; decide, fun c hc => by rw [e] at hc; exact good_few c (by revert c; decide)⟩
theorem told_ok {x y z : Str} {i j k : Nat} (hx : Good x i) (hy : Good y j) (hz : Good z k) : okD (.list [D.tuple [D.str (PySem.Str.ofString "..To"), D.str x], D.tuple [D.str y, D.str z], D.str (PySem.Str.ofString ""), D.str (PySem.Str.ofString "")]) = true := by
  have e1 : PyData.strOk (PySem.Str.ofString "..To") = true := by decide +kernel
  have e2 : PyData.strOk (PySem.Str.ofString "") = true := by decide +kernel
  simp only [okD, okDs, e1, e2, good_ok hx, good_ok hy, good_ok hz]
  rfl
noncomputable def rowF (m : Nat × Nat × Nat) : Str × Str := (dnm m.2.1 m.1, word m.2.2)
noncomputable def msgD (num : Nat → Nat) (m : Post2) : D := .list [.tuple [.str (PySem.Str.ofString "..To"), .str (word (num m.1))], .tuple [.str (dnm m.2.1 m.2.2.1), .str (word (num m.2.2.2))], .str (PySem.Str.ofString ""), .str (PySem.Str.ofString "")]
noncomputable def arM (ar : Nat → Nat) : Nat → Option Nat := fun p => if p < 5 then some (ar p) else none
theorem arM_set {ar : Nat → Nat} {p src : Nat} (hp : p < 5) : (fun q => if q = p then some src else arM ar q) = arM fun q => if q = p then src else ar q := by
  funext q
  unfold arM
  by_cases e : q = p
  · rw [if_pos e, e, if_pos hp]
    exact congrArg some (if_pos rfl).symm
  · rw [if_neg e]
    show _ = if q < 5 then some (if q = p then src else ar q) else none
    rw [if_neg e]
/-- the tables and lists of the law -/
structure Pl where
  nl : List Nat
  al : List Nat
  fr : List (List Nat)
  xA : Addr
  lA : Addr
  xT : Addr
  lT : Addr
  xF : Addr
  lF : Addr
noncomputable def Pl.num (P : Pl) (p : Nat) : Nat := P.nl.getD p 0
noncomputable def Pl.as (P : Pl) (w : Nat) : Nat := P.al.getD w 0
structure PlOk (P : Pl) : Prop where
  nl : P.nl.length = 5
  al : P.al.length = 5
  as : ∀ w, P.as w < 5
  N : Num5 P.num
  F : Far5 P.fr 5
  nd : [P.lA, P.lT, P.lF].Nodup
structure En (P : Pl) (ρ : Str → Option D) : Prop where
  w : ρ "words" = some (wordsD P.nl)
  m : ρ "marks" = some (wordsD (List.range 5))
  k : ρ "asks" = some (intsD P.al)
  f : ρ "far" = some (.list (P.fr.map intsD))
  a : ρ "arrows" = some (.hdr P.xA P.lA)
  t : ρ "tails" = some (.hdr P.xT P.lT)
  o : ρ "found" = some (.hdr P.xF P.lF)
structure St2 (P : Pl) (s : S2) (τ : Store) : Prop where
  a : ∃ E, Holds E (arM s.ar) ∧ τ P.lA = some ((E.map (entP P.num fun v => word (P.num v))).map pairD)
  t : ∃ E, Holds E s.tl ∧ τ P.lT = some ((E.map (entP P.num word)).map pairD)
  f : τ P.lF = some ((s.fo.map rowF).map pairD)
structure Va (P : Pl) (s : S2) (ρ : Str → Option D) : Prop where
  air : ρ "air" = some (.list (s.air.map (msgD P.num)))
  n : ρ "asked" = some (.int (s.n : Int))
  lot : ρ "lot" = some (.int (s.lot : Int))
noncomputable def turnB : List Stmt := forBody (hd0 ((bodyOf F249).drop 16))
noncomputable def waysB : List Stmt := ifBody (hd0 (turnB.drop 1))
noncomputable def envN : List Str := ["words", "marks", "asks", "far", "arrows", "tails", "found"]
theorem En.to {P : Pl} {ρ ρ' : Str → Option D} (E : En P ρ) (h : ∀ x ∈ envN, ρ' x = ρ x) : En P ρ' := by
  obtain ⟨b1, b2, b3, b4, b5, b6, b7⟩ := E
  unfold envN at h
  simp only [List.mem_cons, List.not_mem_nil, or_false, forall_eq_or_imp, forall_eq] at h
  obtain ⟨h1, h2, h3, h4, h5, h6, h7⟩ := h
  exact ⟨h1.trans b1, h2.trans b2, h3.trans b3, h4.trans b4, h5.trans b5, h6.trans b6, h7.trans b7⟩
theorem En.upd {P : Pl} {ρ : Str → Option D} (E : En P ρ) {x : Str} {d : D} (hx : (envN.all (· != x)) = true) : En P (upd ρ x d) := by
  refine E.to fun y hy => ?_
  have := List.all_eq_true.mp hx y hy
  exact upd_ne (by simpa using this)

section
variable {X : Cx} {ps : PySem.Params} {τ : Store} {QS : Fl → (Str → Option D) → Store → Prop} {n : Nat} {ρ : Str → Option D} {P : Pl} {s : S2}
/-- the next statement of a row, with the row behind it folded -/
theorem ex_cut {sk : Sk} {l : List Stmt} {st : Stmt} (hst : l.head? = some st) (h : ∀ QR : Fl → (Str → Option D) → Store → Prop, (∀ ρ' τ', Ex X n sk ρ' τ' (l.drop 1) QS → QR .next ρ' τ') → Ex1 X n sk ρ τ st QR) : Ex X n sk ρ τ l QS := by
  cases l with
  | nil => cases hst
  | cons a r =>
    cases hst
    exact ex_seq (h _ fun _ _ h => seq_next h)
/-- a statement in a row, with what is behind it out of sight -/
theorem ex_seqG {sk : Sk} {st : Stmt} {rest : List Stmt} (h : ∀ QR : Fl → (Str → Option D) → Store → Prop, (∀ ρ' τ', Ex X n sk ρ' τ' rest QS → QR .next ρ' τ') → (∀ d ρ' τ', QS (.ret d) ρ' τ' → QR (.ret d) ρ' τ') → Ex1 X n sk ρ τ st QR) : Ex X n sk ρ τ (st :: rest) QS :=
  ex_seq (h _ (fun _ _ h => seq_next h) fun _ _ _ h => seq_ret h)
noncomputable def prsM (num : Nat → Nat) (q d w p : Nat) : List (Str × Str) := [(PySem.Str.ofString ".To", word (num q)), (dnm d w, word (num p))]
theorem prsM_dot {num : Nat → Nat} {q d w p : Nat} (hd : 1 ≤ d) : (prsM num q d w p).map dotted = [(PySem.Str.ofString "..To", word (num q)), (dnm (d + 1) w, word (num p))] := by
  obtain ⟨d, rfl⟩ := Nat.exists_eq_add_of_le' hd
  unfold prsM dotted
  have e1 : (PySem.Str.ofString ".To").cps.toList.head? = some 46 := by decide +kernel
  have e2 : (dnm (d + 1) w).cps.toList.head? = some 46 := rfl
  have e3 : PySem.Str.ofString "." ++ PySem.Str.ofString ".To" = PySem.Str.ofString "..To" := by decide +kernel
  show [ite _ _ _, ite _ _ _] = _
  rw [if_pos e1, if_pos e2, e3, dot_dnm]
theorem part_v (L : L3 X ps) (O : PlOk P) {p d w src turn : Nat} (hp : p < 5) (hd1 : 1 ≤ d) (hd : d ≤ 5) (hw : w < 5) (hs : src < 5) (ht : turn ≤ 100) (har : s.ar p < 5) (htl : s.ar p = p → ∃ g, g < 5 ∧ s.tl p = some g) (hair : s.air.length ≤ 5) (hfo : s.fo.length ≤ 5)
    (E : En P ρ) (S : St2 P s τ) (V : Va P s ρ) (h1 : ρ "word" = some (.str (word (P.num p)))) (h2 : ρ "name" = some (.str (dnm d w))) (h3 : ρ "source" = some (.str (word (P.num src)))) (h4 : ρ "turn" = some (.int (turn : Int)))
    (h : ∀ ρ' τ', En P ρ' → St2 P (visS s s.air p d w src) τ' → Va P (visS s s.air p d w src) ρ' → ρ' "word" = ρ "word" → ρ' "fresh" = ρ "fresh" → ρ' "turn" = ρ "turn" → Ex X 140 (compSk F249.scope) ρ' τ' (waysB.drop 6) QS) :
    Ex X 140 (compSk F249.scope) ρ τ (waysB.drop 4) QS := by
  have hK := L.K
  obtain ⟨b1, b2, b3, b4, b5, b6, b7⟩ := E
  obtain ⟨⟨EA, HA, hA⟩, ⟨ET, HT, hT⟩, hF⟩ := S
  obtain ⟨v1, v2, v3⟩ := V
  obtain ⟨n1, n2⟩ := List.nodup_cons.mp O.nd
  obtain ⟨n3, _⟩ := List.nodup_cons.mp n2
  simp only [List.mem_cons, List.not_mem_nil, or_false, not_or] at n1 n3
  have hvA : ∀ v, v < 5 → Good ((fun v => word (P.num v)) v) 10 := fun v hv => good_word (O.N.lt v hv)
  have hvT : ∀ v, v < 5 → Good (word v) 10 := fun v hv => good_mark hv
  refine ex_seq ?_
  walk_at "w"
  refine CallV.room (CodeV.call (law_turned L O.N hvA HA hp hs (vs := fun v => word (P.num v)) hA fun EA' HA' => ?_)) (by omega)
  rw [arM_set hp] at HA'
  rw [show arM s.ar p = some (s.ar p) from if_pos hp]
  have hT1 : put τ P.lA ((EA'.map (entP P.num fun v => word (P.num v))).map pairD) P.lT = some ((ET.map (entP P.num word)).map pairD) := by rw [put_other (Ne.symm n1.1)]; exact hT
  have hF1 : put τ P.lA ((EA'.map (entP P.num fun v => word (P.num v))).map pairD) P.lF = some ((s.fo.map rowF).map pairD) := by rw [put_other (Ne.symm n1.2)]; exact hF
  have hA1 : put τ P.lA ((EA'.map (entP P.num fun v => word (P.num v))).map pairD) P.lA = some ((EA'.map (entP P.num fun v => word (P.num v))).map pairD) := put_same
  generalize put τ P.lA ((EA'.map (entP P.num fun v => word (P.num v))).map pairD) = τ₁ at hT1 hF1 hA1 ⊢
  show SeqQ _ _ _ _ _ _ (upd ρ _ (.str (word (P.num (s.ar p))))) _
  refine seq_next (ex_seqG fun QR hQ hR => ?_)
  have hA2 : ∃ E, Holds E (arM fun q => if q = p then src else s.ar q) ∧ τ₁ P.lA = some ((E.map (entP P.num fun v => word (P.num v))).map pairD) := ⟨EA', HA', hA1⟩
  have h := fun ρ' τ' a b c d e f => hQ ρ' τ' (h ρ' τ' a b c d e f)
  clear hQ hA HA HA' hA1 hR
  have hnw : clean (dnm d w) := (good_dnm (Nat.le_trans hd (by decide)) hw).clean (by decide)
  have heq : ((word (P.num (s.ar p))).cps.toList == (word (P.num p)).cps.toList) = (s.ar p == p) := by
    rw [Bool.eq_iff_iff, beq_iff_eq, beq_iff_eq]
    exact ⟨fun e => O.N.inj _ _ har hp (figs_inj e), fun e => by rw [e]⟩
  walk_at "w"
  rw [heq]
  refine if_q (fun hb => ?_) fun hb => ?_
  · have hb : s.ar p = p := beq_iff_eq.mp hb
    obtain ⟨g, hg, hgt⟩ := htl hb
    walk_at "w"
    refine c_lower (Nat.le_trans (word_len (O.N.lt p hp)) (by decide)) ?_
    walk_at "w"
    have hlow : clean (Txt.lower (Txt.lower (word (P.num p)))) := by
      have : Txt.lower (Txt.lower (word (P.num p))) = keyS P.num p true := str_ext (by rw [show (keyS P.num p true).cps.toList = (figs (P.num p)).map lo1 from word_low _]; exact key_low P.num p true)
      rw [this]
      exact (good_key O.N hp true).clean (by decide)
    refine CallV.room (CodeV.call (h_get L (nm := keyS P.num p true) hT1 (ent_tab O.N hvT HT) (by rw [length_list]; exact Nat.le_trans (good_key O.N hp true).1 (by decide)) hlow ?_)) (by omega)
    rw [ent_found O.N HT hp true, hgt]
    walk_at "w"
    refine CallV.room (CodeV.call (h_add L hF1 (by rw [List.length_map]; omega) hnw ((good_mark hg).clean (by decide)) fun τ₂ t1 t2 => ?_)) (by omega)
    walk_at "w"
    refine h _ _ ⟨by walk_at "lk", by walk_at "lk", by walk_at "lk", by walk_at "lk", by walk_at "lk", by walk_at "lk", by walk_at "lk"⟩ ⟨?_, ?_, ?_⟩ ⟨?_, by walk_at "lk", by walk_at "lk"⟩ (upd_ne (by decide +kernel)) (upd_ne (by decide +kernel)) (upd_ne (by decide +kernel))
    · obtain ⟨E1, z1, z2⟩ := hA2
      exact ⟨E1, z1, t2 _ _ n1.2 z2⟩
    · exact ⟨ET, HT, t2 _ _ n3 hT1⟩
    · rw [t1]
      unfold visS
      dsimp only
      rw [if_pos hb, hgt, List.map_append (f := rowF)]
      rfl
    · unfold visS
      dsimp only
      rw [if_pos hb]
      exact (upd_ne (by decide +kernel)).trans v1
  · have hb : ¬ s.ar p = p := beq_eq_false_iff_ne.mp hb
    refine ex_seq (ex_assign (by with_unfolding_all rfl) (by kernel_rfl) ?_)
    refine call__law_heard hK (by rfl) (by rfl) (by kernel_rfl) (evs_cons (call__law_sent hK (by rfl) (by rfl) (by kernel_rfl) (evs_cons (call_Headers hK (by rfl) (by rfl) (by kernel_rfl) (evs_cons (ev_listOwn ?_) (fun _ => rfl))) (fun _ => rfl))) (fun _ => rfl))
    walk_at "w"
    intro l0 hl0
    have hown : (put τ₁ l0 [D.tuple [D.str (PySem.Str.ofString ".To"), D.str (word (P.num (s.ar p)))], D.tuple [D.str (dnm d w), D.str (word (P.num p))]]) l0 = some ((prsM P.num (s.ar p) d w p).map pairD) := put_same
    have hsub : ∀ a ds, τ₁ a = some ds → (put τ₁ l0 [D.tuple [D.str (PySem.Str.ofString ".To"), D.str (word (P.num (s.ar p)))], D.tuple [D.str (dnm d w), D.str (word (P.num p))]]) a = some ds := fun a ds e => by
      rw [put_other (by rintro rfl; rw [hl0] at e; cases e)]; exact e
    generalize (put τ₁ l0 [D.tuple [D.str (PySem.Str.ofString ".To"), D.str (word (P.num (s.ar p)))], D.tuple [D.str (dnm d w), D.str (word (P.num p))]]) = τ₂ at hown hsub ⊢
    have hgd : ∀ q ∈ prsM P.num (s.ar p) d w p, Good q.1 20 ∧ Good q.2 10 := fun q hq => by
      rcases List.mem_cons.mp hq with rfl | hq
      · exact ⟨⟨Nat.le_trans good_to.1 (by decide), good_to.2⟩, good_word (O.N.lt _ har)⟩
      · cases List.mem_singleton.mp hq
        exact ⟨good_dnm (Nat.le_trans hd (by decide)) hw, good_word (O.N.lt _ hp)⟩
    have hTb : Tab (prsM P.num (s.ar p) d w p) := ⟨by show 2 ≤ 1000; decide, fun q hq => by
      rw [length_list, length_list]
      exact ⟨Nat.le_trans (hgd q hq).1.1 (by decide), Nat.le_trans (hgd q hq).2.1 (by decide)⟩⟩
    have hrow : ∀ q ∈ prsM P.num (s.ar p) d w p, (rowOf q).length ≤ 1000 ∧ Free (rowOf q).cps.toList ∧ 58 ∉ q.1.cps.toList ∧ 58 ∉ q.2.cps.toList := fun q hq => by
      obtain ⟨a, b⟩ := row_facts (hgd q hq).1 (hgd q hq).2
      exact ⟨Nat.le_trans a (by decide), b⟩
    walk_at "w"
    refine CallV.room (CodeV.call (make1 L hown (fun q hq => ⟨(hgd q hq).1.clean (by decide), (hgd q hq).2.clean (by decide)⟩) fun x => ?_)) (by omega)
    walk_at "w"
    refine CallV.room (CodeV.call (law_sent L (Nat.le_trans ht (by decide)) hown hTb (by show 2 ≤ 20; decide) (fun q hq => ⟨(hrow q hq).1, (hrow q hq).2.1.1⟩) ?_ ?_)) (by omega)
    · have h1 := mixed_len (prs := prsM P.num (s.ar p) d w p) (turn := turn) (fun q hq => (hrow q hq).1) (by show 2 ≤ 20; decide)
      have h2 := crlf_two (mixed (prsM P.num (s.ar p) d w p) turn).cps.toList
      exact Nat.le_trans h2 (Nat.le_trans (Nat.mul_le_mul_left 2 h1) (by decide))
    rw [sent_is fun q hq => (hrow q hq).2.1]
    walk_at "w"
    have hdd := prsM_dot (num := P.num) (q := s.ar p) (d := d) (w := w) (p := p) hd1
    have gq := good_word (O.N.lt _ har)
    have gp := good_word (O.N.lt _ hp)
    have gn : Good (dnm (d + 1) w) 20 := good_dnm (Nat.succ_le_of_lt (Nat.lt_of_le_of_lt hd (by decide))) hw
    have hgd2 : ∀ q ∈ (prsM P.num (s.ar p) d w p).map dotted, Good q.1 20 ∧ Good q.2 10 := fun q hq => by
      rw [hdd] at hq
      rcases List.mem_cons.mp hq with rfl | hq
      · exact ⟨⟨Nat.le_trans good_too.1 (by decide), good_too.2⟩, gq⟩
      · cases List.mem_singleton.mp hq
        exact ⟨gn, gp⟩
    refine CallV.room (CodeV.call (law_heard L (prs := (prsM P.num (s.ar p) d w p).map dotted) (by show 2 ≤ 20; decide) (fun q hq => ?_) ?_)) (by omega)
    · obtain ⟨a, b⟩ := row_facts (hgd2 q hq).1 (hgd2 q hq).2
      exact ⟨Nat.le_trans a (by decide), b.1.1, b.2⟩
    rw [hdd, show D.list ([(PySem.Str.ofString "..To", word (P.num (s.ar p))), (dnm (d + 1) w, word (P.num p))].map pairD ++ [.str (PySem.Str.ofString ""), .str (PySem.Str.ofString "")]) = msgD P.num (s.ar p, d + 1, w, p) from rfl]
    refine seq_next (ex_seq ?_)
    have hok := told_ok gq gn gp
    walk_at "w"
    refine t2_adds (by rw [dot_size, sizeLine_eq, length_list]; exact Nat.le_trans (Nat.add_le_add_left (good_dnm (Nat.le_trans hd (by decide)) hw).1 1) (by decide)) ?_
    rw [dot_dnm]
    walk_at "w"
    refine t2_neD hok hok (show dep (msgD P.num (s.ar p, d + 1, w, p)) ≤ 60 by simp [msgD, dep, deps]) (show dep (msgD P.num (s.ar p, d + 1, w, p)) ≤ 60 by simp [msgD, dep, deps]) fun c hc => ?_
    have : c = false := by
      cases c with
      | false => rfl
      | true => exact absurd rfl (hc.mp rfl)
    subst this
    refine tr_bool (if_f rfl (ex_nil (seq_next ?_)))
    walk_at "w"
    refine t2_addl (by rw [List.length_map, sizeLine_eq]; exact Nat.le_trans (Nat.add_le_add_right hair 1) (by decide)) ?_
    walk_at "w"
    refine h _ _ ⟨by walk_at "lk", by walk_at "lk", by walk_at "lk", by walk_at "lk", by walk_at "lk", by walk_at "lk", by walk_at "lk"⟩ ⟨?_, ?_, ?_⟩ ⟨?_, by walk_at "lk", by walk_at "lk"⟩ (by walk_at "lk"; rfl) (by walk_at "lk"; rfl) (by walk_at "lk"; rfl)
    · obtain ⟨E1, z1, z2⟩ := hA2
      exact ⟨E1, z1, hsub _ _ z2⟩
    · exact ⟨ET, HT, hsub _ _ hT1⟩
    · rw [hsub _ _ hF1]
      unfold visS
      dsimp only
      rw [if_neg hb]
    · unfold visS
      dsimp only
      rw [if_neg hb, upd_same, List.map_append]
      rfl
end


/-- what a turn needs of the state -/
structure Sm (s : S2) : Prop where
  n1 : 1 ≤ s.n
  n5 : s.n ≤ 5
  ar : ∀ p, p < 5 → s.ar p < 5
  tl : ∀ p, p < 5 → s.ar p = p → ∃ g, g < 5 ∧ s.tl p = some g
  al : s.air.length ≤ 4
  fl : s.fo.length ≤ 4
  am : ∀ m ∈ s.air, m.1 < 5 ∧ 1 ≤ m.2.1 ∧ m.2.1 ≤ 5 ∧ m.2.2.1 < 5 ∧ m.2.2.2 < 5
theorem Inv2.sm {f : Nat → Nat → Nat} {as : Nat → Nat} {t : Nat} {s : S2} {V : Nat → List Nat} {L : List Nat} (T : Tree f) (ha : ∀ w, as w < 5) (I : Inv2 f as t s V L) : Sm s := by
  have hk := I.keys
  have h5 := I.n5
  refine ⟨I.n1, h5, fun p hp => arrow_lt T ha hp (I.arr p hp), fun p hp e => ?_, by omega, by omega, fun m hm => ?_⟩
  · obtain ⟨α, g, h1, h2, h3⟩ := I.arr p hp
    have hgp : as g = p := Classical.byContradiction fun hne => by
      have := tw_adj T hp (ha g) (Ne.symm hne)
      rw [← h2, e, (T.zero hp hp).mpr rfl] at this
      exact nomatch this.2.1
    exact ⟨g, Nat.lt_of_lt_of_le (I.vis.lt hp (by rw [h1]; simp)) h5, h3 hgp⟩
  · obtain ⟨x5, u5, _, h1, h2, h3, _⟩ := I.ml m hm
    have := T.le (ha m.2.2.1) x5
    exact ⟨x5, by omega, by omega, by omega, u5⟩

section
variable {X : Cx} {ps : PySem.Params} {τ : Store} {QS : Fl → (Str → Option D) → Store → Prop} {n : Nat} {ρ : Str → Option D} {P : Pl} {s : S2}
theorem mark_at {w : Nat} (hw : w < 5) : (List.range 5).getD w 0 = w := by
  rw [List.getD_eq_getElem?_getD, List.getElem?_range hw]; rfl
theorem part_w (L : L3 X ps) (O : PlOk P) {turn : Nat} (hn : s.n < 5) (E : En P ρ) (S : St2 P s τ) (V : Va P s ρ) (h1 : ρ "word" = some (.str (word (P.num (P.as s.n))))) (h2 : ρ "fresh" = some (.bool true)) (h4 : ρ "turn" = some (.int (turn : Int)))
    (h : ∀ ρ' τ', En P ρ' → St2 P { s with tl := fun q => if q = P.as s.n then some s.n else s.tl q, n := s.n + 1 } τ' → Va P { s with tl := fun q => if q = P.as s.n then some s.n else s.tl q, n := s.n + 1 } ρ' → QS .next ρ' τ') :
    Ex X 140 (compSk F249.scope) ρ τ (waysB.drop 6) QS := by
  have hK := L.K
  have E0 := E
  obtain ⟨b1, b2, b3, b4, b5, b6, b7⟩ := E
  obtain ⟨hA, ⟨ET, HT, hT⟩, hF⟩ := S
  obtain ⟨v1, v2, v3⟩ := V
  obtain ⟨n1, n2⟩ := List.nodup_cons.mp O.nd
  obtain ⟨n3, _⟩ := List.nodup_cons.mp n2
  simp only [List.mem_cons, List.not_mem_nil, or_false, not_or] at n1 n3
  have hvT : ∀ v, v < 5 → Good (word v) 10 := fun v hv => good_mark hv
  have ha := O.as s.n
  refine ex_seq ?_
  walk_at "w"
  refine t2_itemN (l := List.range 5) (f := fun k => D.str (word k)) (k := s.n) 0 (by simpa using hn) (by simp) ?_
  rw [mark_at hn]
  walk_at "w"
  refine CallV.room (CodeV.call (law_turned L O.N hvT HT ha hn (vs := word) hT fun ET' HT' => ?_)) (by omega)
  walk_at "w"
  refine ⟨by cases s.tl (P.as s.n) <;> rfl, ?_⟩
  walk_at "w"
  refine h _ _ (E0.upd (by decide +kernel)) ⟨?_, ⟨ET', HT', put_same⟩, ?_⟩ ⟨by walk_at "lk", by walk_at "lk", by walk_at "lk"⟩
  · obtain ⟨E1, z1, z2⟩ := hA
    exact ⟨E1, z1, by rw [put_other n1.1]; exact z2⟩
  · rw [put_other (Ne.symm n3)]; exact hF
theorem ways_n (h : s.lot % waysS s < waysS s) (e : s.lot % waysS s = s.air.length) : s.n < 5 := Nat.lt_of_not_le fun h5 => by
  rw [e] at h
  unfold waysS at h
  rw [Nat.sub_eq_zero_of_le h5] at h
  exact Nat.lt_irrefl _ h
theorem turn_ (L : L3 X ps) (O : PlOk P) (M : Sm s) {turn : Nat} (ht : turn ≤ 100) (E : En P ρ) (S : St2 P s τ) (V : Va P s ρ) (h4 : ρ "turn" = some (.int (turn : Int)))
    (h : ∀ ρ' τ', En P ρ' → St2 P (step2 P.as s) τ' → Va P (step2 P.as s) ρ' → QS .next ρ' τ') :
    Ex X 140 (compSk F249.scope) ρ τ turnB QS := by
  have hK := L.K
  have E0 := E
  obtain ⟨b1, b2, b3, b4, b5, b6, b7⟩ := E
  obtain ⟨v1, v2, v3⟩ := V
  refine ex_seq ?_
  walk_at "w"
  have hal := M.al
  have hn1 := M.n1
  have hn5 := M.n5
  refine c_len .list (by rw [List.length_map]; omega) ?_
  rw [List.length_map]
  walk_at "w"
  refine c_min2 ?_
  walk_at "w"
  have hways : (s.air.length : Int) + min 1 (5 - (s.n : Int)) = (waysS s : Nat) := by
    rw [(by decide : ∀ n : Nat, n < 6 → min (1 : Int) (5 - (n : Int)) = ((min 1 (5 - n) : Nat) : Int)) s.n (Nat.lt_succ_of_le hn5)]; rfl
  rw [hways]
  walk_at "w"
  unfold step2 at h
  have hw0 : waysS s ≤ 10 := Nat.le_trans (Nat.add_le_add hal (Nat.min_le_left _ _)) (by decide)
  refine if_q (fun hb => ?_) fun hb => ?_
  · have hb : ¬ waysS s = 0 := by have := of_decide_eq_true hb; omega
    rw [if_neg hb] at h
    walk_at "w"
    refine t2_mod (by omega) ?_
    rw [show ((s.lot : Nat) : Int).fmod (waysS s : Nat) = ((s.lot % waysS s : Nat) : Int) from fmodN _ _]
    walk_at "w"
    refine t2_div (by omega) (log_ok (by omega) (by omega)) ?_
    rw [show ((s.lot : Nat) : Int).fdiv (waysS s : Nat) = ((s.lot / waysS s : Nat) : Int) from fdivN _ _]
    walk_at "w"
    refine c_len .list (by rw [List.length_map]; omega) ?_
    rw [List.length_map]
    refine t2_eq ?_
    rw [show (((s.lot % waysS s : Nat) : Int) == ((s.air.length : Nat) : Int)) = (s.lot % waysS s == s.air.length) by rw [Bool.eq_iff_iff, beq_iff_eq, beq_iff_eq]; omega]
    refine seq_next (ex_seqG fun QR hQ hR => ?_)
    have hQ : ∀ ρ' τ', Ex X 140 (compSk F249.scope) ρ' τ' (waysB.drop 4) (SeqQ X 140 (compSk F249.scope) [] QS) → QR .next ρ' τ' := hQ
    clear hR
    have hlt := Nat.mod_lt s.lot (Nat.pos_of_ne_zero hb)
    walk_at "w"
    refine if_q (fun hp => ?_) fun hp => ?_
    · rw [hp]
      have hp := beq_iff_eq.mp hp
      rw [if_pos hp] at h
      have hn : s.n < 5 := ways_n hlt hp
      have ha := O.as s.n
      walk_at "w"
      refine t2_itemN (l := P.al) (f := fun (k : Nat) => D.int k) (k := s.n) 0 (by rw [O.al]; exact hn) (by rw [O.al]; decide) ?_
      refine ⟨trivial, t2_itemN (l := P.nl) (f := fun k => D.str (word k)) (k := P.as s.n) 0 (by rw [O.nl]; exact ha) (by rw [O.nl]; decide) ?_⟩
      rw [show P.nl.getD (P.as s.n) 0 = P.num (P.as s.n) from rfl]
      walk_at "w"
      refine t2_itemN (l := List.range 5) (f := fun k => D.str (word k)) (k := s.n) 0 (by simpa using hn) (by simp) ?_
      rw [mark_at hn]
      refine t2_adds (by rw [dot_size, sizeLine_eq, length_list]; exact Nat.le_trans (Nat.add_le_add_left (good_mark hn).1 1) (by decide)) ?_
      rw [show PySem.Str.ofString "." ++ word s.n = dnm 1 s.n from dot_dnm 0 s.n]
      walk_at "w"
      refine hQ _ _ ?_
      refine part_v L O (s := { s with lot := s.lot / waysS s }) (p := P.as s.n) (d := 1) (w := s.n) (src := P.as s.n) ha (by decide) (by decide) hn ha ht (M.ar _ ha) (M.tl _ ha) (by show s.air.length ≤ 5; omega) (by show s.fo.length ≤ 5; have := M.fl; omega) ⟨by walk_at "lk", by walk_at "lk", by walk_at "lk", by walk_at "lk", by walk_at "lk", by walk_at "lk", by walk_at "lk"⟩ ⟨S.a, S.t, S.f⟩ ⟨by walk_at "lk", by walk_at "lk", by walk_at "lk"⟩ (by walk_at "lk") (by walk_at "lk") (by walk_at "lk") (by walk_at "lk") fun ρ' τ' e1 s1 v1 k1 k2 k3 => ?_
      refine part_w L O (s := visS { s with lot := s.lot / waysS s } s.air (P.as s.n) 1 s.n (P.as s.n)) hn e1 s1 v1 (k1.trans (by walk_at "lk")) (k2.trans (by walk_at "lk")) (k3.trans (by walk_at "lk")) fun ρ'' τ'' e2 s2 v2 => ?_
      exact seq_next (ex_nil (h _ _ e2 s2 v2))
    · rw [hp]
      have hp := beq_eq_false_iff_ne.mp hp
      rw [if_neg hp] at h
      have hk : s.lot % waysS s < s.air.length := Nat.lt_of_le_of_ne (Nat.le_of_lt_succ (Nat.lt_of_lt_of_le hlt (Nat.add_le_add_left (Nat.min_le_left _ _) _))) hp
      have hmm : s.air.getD (s.lot % waysS s) (0, 0, 0, 0) ∈ s.air := by rw [List.getD_eq_getElem?_getD, List.getElem?_eq_getElem hk]; exact List.getElem_mem _
      have hsz : s.air.length < 2 ^ 62 := Nat.lt_of_le_of_lt hal (by decide)
      have rdm : ∀ {σ : Store} {R : D → Store → Prop}, R (msgD P.num (s.air.getD (s.lot % waysS s) (0, 0, 0, 0))) σ → T2 X 140 getItem (.list (s.air.map (msgD P.num))) (.int (s.lot % waysS s : Nat)) σ R := fun hr => t2_itemN (l := s.air) (f := msgD P.num) _ hk hsz hr
      have hdl : (s.air.take (s.lot % waysS s) ++ s.air.drop (s.lot % waysS s + 1)).length ≤ 4 := by
        rw [List.length_append, List.length_take, List.length_drop]; omega
      generalize s.air.getD (s.lot % waysS s) (0, 0, 0, 0) = m at h hmm rdm
      obtain ⟨x5, d1, d5, w5, u5⟩ := M.am m hmm
      have rd0 : ∀ {σ : Store} {R : D → Store → Prop}, R (.tuple [.str (PySem.Str.ofString "..To"), .str (word (P.num m.1))]) σ → T2 X 140 getItem (msgD P.num m) (.int 0) σ R := fun hr => t2_item .list (by decide) (by decide) (j := 0) (by rfl) (by rfl) hr
      have rd1 : ∀ {σ : Store} {R : D → Store → Prop}, R (.tuple [.str (dnm m.2.1 m.2.2.1), .str (word (P.num m.2.2.2))]) σ → T2 X 140 getItem (msgD P.num m) (.int 1) σ R := fun hr => t2_item .list (by decide) (by decide) (j := 1) (by rfl) (by rfl) hr
      walk_at "w"
      refine rdm ?_
      walk_at "w"
      refine rd0 ?_
      walk_at "w"
      refine t2_itemT (by decide) (by decide) (j := 1) (by rfl) (d := .str (word (P.num m.1))) (by rfl) ?_
      walk_at "w"
      refine rdm ?_
      walk_at "w"
      refine rd1 ?_
      walk_at "w"
      refine t2_itemT (by decide) (by decide) (j := 0) (by rfl) (d := .str (dnm m.2.1 m.2.2.1)) (by rfl) ?_
      walk_at "w"
      refine rdm ?_
      walk_at "w"
      refine rd1 ?_
      walk_at "w"
      refine t2_itemT (by decide) (by decide) (j := 1) (by rfl) (d := .str (word (P.num m.2.2.2))) (by rfl) ?_
      walk_at "w"
      refine t2_slice .list (by decide) (by rw [List.length_map, sizeLine_eq]; omega) ?_
      rw [pick_take]
      walk_at "w"
      rw [show ((s.lot % waysS s : Nat) : Int) + 1 = ((s.lot % waysS s + 1 : Nat) : Int) from rfl]
      refine t2_slice .list (by decide) (by rw [List.length_map, sizeLine_eq]; omega) ?_
      rw [pick_drop, ← List.map_take, ← List.map_drop]
      refine t2_addl (by rw [List.length_map, List.length_map, ← List.length_append, sizeLine_eq]; omega) ?_
      rw [← List.map_append]
      generalize s.air.take (s.lot % waysS s) ++ s.air.drop (s.lot % waysS s + 1) = air at h hdl ⊢
      walk_at "w"
      refine hQ _ _ ?_
      refine part_v L O (s := { s with lot := s.lot / waysS s, air := air }) (p := m.1) (d := m.2.1) (w := m.2.2.1) (src := m.2.2.2) x5 d1 d5 w5 u5 ht (M.ar _ x5) (M.tl _ x5) (by show air.length ≤ 5; omega) (by show s.fo.length ≤ 5; have := M.fl; omega) ⟨by walk_at "lk", by walk_at "lk", by walk_at "lk", by walk_at "lk", by walk_at "lk", by walk_at "lk", by walk_at "lk"⟩ ⟨S.a, S.t, S.f⟩ ⟨by walk_at "lk", by walk_at "lk", by walk_at "lk"⟩ (by walk_at "lk") (by walk_at "lk") (by walk_at "lk") (by walk_at "lk") fun ρ' τ' e1 s1 v1 k1 k2 k3 => ?_
      have k2 : ρ' "fresh" = some (.bool false) := k2.trans (by walk_at "lk")
      refine ex_seq ?_
      walk_at "w"
      exact h _ _ e1 s1 v1
  · have hb : waysS s = 0 := by have := of_decide_eq_false hb; omega
    rw [if_pos hb] at h
    walk_at "w"
    exact h _ _ (E0.upd (by decide +kernel)) S ⟨by walk_at "lk", by walk_at "lk", by walk_at "lk"⟩
end


noncomputable def st2 : List Nat := [0, 6036, 169, 300026, 577, 5, 271829]
noncomputable def cellN (script : List Int) (k : Nat) : Nat := ((((st2.getD k 0 : Nat) : Int) + (pick script (some (k : Int)) (some 63) (some 7)).sum).fmod (10 ^ 12)).toNat
noncomputable def cellsN (script : List Int) : List Nat := (List.range 7).map (cellN script)
theorem cellN_lt (script : List Int) (k : Nat) : cellN script k < 10 ^ 12 := by
  unfold cellN
  have h1 := Int.fmod_lt_of_pos (((st2.getD k 0 : Nat) : Int) + (pick script (some (k : Int)) (some 63) (some 7)).sum) (show (0 : Int) < 10 ^ 12 by decide)
  have h0 := Int.fmod_nonneg_of_pos (((st2.getD k 0 : Nat) : Int) + (pick script (some (k : Int)) (some 63) (some 7)).sum) (show (0 : Int) < 10 ^ 12 by decide)
  omega
theorem cellN_int (script : List Int) (k : Nat) : (((st2.getD k 0 : Nat) : Int) + (pick script (some (k : Int)) (some 63) (some 7)).sum).fmod (10 ^ 12) = (cellN script k : Int) := by
  unfold cellN
  have h0 := Int.fmod_nonneg_of_pos (((st2.getD k 0 : Nat) : Int) + (pick script (some (k : Int)) (some 63) (some 7)).sum) (show (0 : Int) < 10 ^ 12 by decide)
  omega
theorem cellsN_len (script : List Int) : (cellsN script).length = 7 := by unfold cellsN; simp
theorem cellsN_lt {script : List Int} {x : Nat} (h : x ∈ cellsN script) : x < 10 ^ 12 := by
  obtain ⟨k, _, rfl⟩ := List.mem_map.mp h
  exact cellN_lt script k
theorem st2_at (k : Nat) (hk : k < 7) : seqIndex? (k : Int) 7 = some k ∧ ([D.int 0, D.int 6036, D.int 169, D.int 300026, D.int 577, D.int 5, D.int 271829])[k]? = some (.int ((st2.getD k 0 : Nat) : Int)) := by
  refine ⟨seqIndex_nat hk, ?_⟩
  show (st2.map fun (k : Nat) => D.int k)[k]? = _
  rw [List.getElem?_map, List.getD_eq_getElem?_getD, List.getElem?_eq_getElem hk]
  rfl
noncomputable def upL (cs : List Nat) : List Nat := 0 :: (List.range 4).map fun j => cs.getD (j + 1) 0 % (j + 1)
noncomputable def askL (cs : List Nat) : List Nat := (List.range 5).map fun p => cs.getD p 0 / 12 % 5
noncomputable def numL (cs : List Nat) : List Nat := (List.range 5).map fun p => cs.getD p 0 / 60 * 5 + p
theorem numL_at (cs : List Nat) {p : Nat} (hp : p < 5) : (numL cs).getD p 0 = cs.getD p 0 / 60 * 5 + p := by
  unfold numL
  rw [List.getD_eq_getElem?_getD, List.getElem?_map, List.getElem?_range hp]; rfl
theorem numL_ok {cs : List Nat} (hb : ∀ p, cs.getD p 0 < 10 ^ 12) : Num5 fun p => (numL cs).getD p 0 := by
  refine ⟨fun a ha => ?_, fun a b ha hb' e => ?_⟩
  · show (numL cs).getD a 0 < _
    rw [numL_at cs ha]
    have := hb a
    omega
  · have e : (numL cs).getD a 0 = (numL cs).getD b 0 := e
    rw [numL_at cs ha, numL_at cs hb'] at e
    omega
theorem askL_lt (cs : List Nat) (w : Nat) : (askL cs).getD w 0 < 5 := by
  unfold askL
  rw [List.getD_eq_getElem?_getD, List.getElem?_map]
  cases (List.range 5)[w]? with
  | none => exact (by decide : 0 < 5)
  | some x => exact Nat.mod_lt _ (by decide)
theorem upL_at (cs : List Nat) {p : Nat} (hp : p < 5) (h1 : 1 ≤ p) : (upL cs).getD p 0 = cs.getD p 0 % p := by
  obtain ⟨j, rfl⟩ := Nat.exists_eq_add_of_le' h1
  unfold upL
  rw [List.getD_cons_succ, List.getD_eq_getElem?_getD, List.getElem?_map, List.getElem?_range (by omega)]; rfl
theorem tree2 (cs : List Nat) : Tree (fd (farU (upL cs) 4)) := by
  refine tree_of ?_
  rw [show upL cs = [0, cs.getD 1 0 % 1, cs.getD 2 0 % 2, cs.getD 3 0 % 3, cs.getD 4 0 % 4] from rfl, Nat.mod_one]
  exact trees_ok _ (Nat.mod_lt _ (by decide)) _ (Nat.mod_lt _ (by decide)) _ (Nat.mod_lt _ (by decide))
theorem marks_are : (List.range 5).map (fun k => D.str (word k)) = [.str (PySem.Str.ofString ""), .str (PySem.Str.ofString "B"), .str (PySem.Str.ofString "C"), .str (PySem.Str.ofString "D"), .str (PySem.Str.ofString "E")] := by
  have f : ∀ k, k < 16 → k ≠ 0 → figs k = [65 + k] := fun k hk h0 => by
    rw [figs_pos h0, Nat.div_eq_of_lt hk, figs_zero, Nat.mod_eq_of_lt hk]; rfl
  have g : ∀ k x, figs k = (PySem.Str.ofString x).cps.toList → D.str (word k) = .str (PySem.Str.ofString x) := fun k x e => congrArg D.str (str_ext e)
  show [D.str (word 0), D.str (word 1), D.str (word 2), D.str (word 3), D.str (word 4)] = _
  rw [g 0 "" (figs_zero.trans (by decide +kernel)), g 1 "B" ((f 1 (by decide) (by decide)).trans (by decide +kernel)), g 2 "C" ((f 2 (by decide) (by decide)).trans (by decide +kernel)), g 3 "D" ((f 3 (by decide) (by decide)).trans (by decide +kernel)), g 4 "E" ((f 4 (by decide) (by decide)).trans (by decide +kernel))]
theorem words_ok (l : List Nat) : okD (wordsD l) = true ∧ dep (wordsD l) ≤ 60 := by
  refine ⟨okDs_map fun k _ => word_ok k, ?_⟩
  show deps _ + 1 ≤ 60
  have := deps_map (k := 0) (l := l) (f := fun k => D.str (word k)) fun _ _ => Nat.le_refl _
  omega

section
variable {X : Cx} {ps : PySem.Params} {τ : Store} {QS : Fl → (Str → Option D) → Store → Prop} {n : Nat} {ρ : Str → Option D}
theorem body_1 (L : L3 X ps) {script : List Int} (hl : script.length ≤ 63) (h1 : ρ "script" = some (.list (script.map D.int)))
    (h : ∀ ρ' τ', ρ' "cells" = some (intsD (cellsN script)) → ρ' "words" = some (wordsD (numL (cellsN script))) → ρ' "marks" = some (wordsD (List.range 5)) → ρ' "asks" = some (intsD (askL (cellsN script))) → ρ' "far" = some (.list ((farU (upL (cellsN script)) 4).map intsD)) →
      Ex X 140 (compSk F249.scope) ρ' τ' ((bodyOf F249).drop 9) QS) :
    Ex X 140 (compSk F249.scope) ρ τ (bodyOf F249) QS := by
  have hK := L.K
  refine ex_cut rfl fun QR hQ => ?_
  walk_at "w"
  refine hQ _ _ (ex_cut rfl fun QR hQ => ?_)
  walk_at "w"
  refine comp_map (List.range 7) (fun (j : Nat) => D.int j) (fun (k : Nat) => .int (cellN script k)) int_inj rfl (items_rng rfl (by decide)) (by decide) (fun σ k _ hk => ?_) ?_
  · have hk : k < 7 := by simpa using hk
    refine compA_of1 (by kernel_rfl) ?_
    walk_at "w"
    refine t2_item .list (by omega) (by omega) (st2_at k hk).1 (st2_at k hk).2 ?_
    walk_at "w"
    refine t2_slice .list (by decide) (by rw [List.length_map, sizeLine_eq]; omega) ?_
    rw [pick_map]
    walk_at "w"
    refine c_sum .list ?_
    walk_at "w"
    refine t2_pow (by omega) (by omega) (by decide) ?_
    refine t2_mod (by decide) ?_
    exact ⟨rfl, congrArg D.int (cellN_int script k)⟩
  have e1 : (List.range 7).map (fun (k : Nat) => D.int (cellN script k)) = (cellsN script).map fun (k : Nat) => D.int k := by
    unfold cellsN; rw [List.map_map]; rfl
  have hln := cellsN_len script
  have hbd : ∀ p, (cellsN script).getD p 0 < 10 ^ 12 := fun p => by
    rw [List.getD_eq_getElem?_getD]
    cases e : (cellsN script)[p]? with
    | none => decide
    | some x => exact cellsN_lt (List.mem_of_getElem? e)
  rw [e1]
  generalize cellsN script = cs at hln hbd h ⊢
  walk_at "w"
  refine hQ _ _ (ex_cut rfl fun QR hQ => ?_)
  walk_at "w"
  refine comp_map (List.range 4) (fun (j : Nat) => D.int (1 + (j : Int))) (fun (j : Nat) => .int ((cs.getD (j + 1) 0 % (j + 1) : Nat) : Int)) int1b_inj rfl (items_rng1 rfl (by decide) (by decide) (by decide) (by decide)) (by decide) (fun σ j _ hj => ?_) ?_
  · have hj : j < 4 := by simpa using hj
    rw [show (1 : Int) + (j : Int) = ((j + 1 : Nat) : Int) by omega]
    refine compA_of1 (by kernel_rfl) ?_
    walk_at "w"
    refine t2_itemN (l := cs) (f := fun (k : Nat) => D.int k) 0 (by omega) (by omega) ?_
    walk_at "w"
    refine t2_mod (by omega) ?_
    exact ⟨rfl, congrArg D.int (fmodN _ (j + 1))⟩
  refine t2_addl (by rw [List.length_map, List.length_range, sizeLine_eq]; exact (by decide : 1 + 4 ≤ 16777216)) ?_
  rw [show [D.int 0] ++ (List.range 4).map (fun (j : Nat) => D.int ((cs.getD (j + 1) 0 % (j + 1) : Nat) : Int)) = (upL cs).map fun (k : Nat) => D.int k by unfold upL; rw [List.map_cons, List.map_map]; rfl]
  walk_at "w"
  refine hQ _ _ (ex_cut rfl fun QR hQ => ?_)
  walk_at "w"
  refine comp_map (List.range 5) (fun (j : Nat) => D.int j) (fun (j : Nat) => .int ((cs.getD j 0 / 12 % 5 : Nat) : Int)) int_inj rfl (items_rng rfl (by decide)) (by decide) (fun σ j _ hj => ?_) ?_
  · have hj : j < 5 := by simpa using hj
    refine compA_of1 (by kernel_rfl) ?_
    walk_at "w"
    refine t2_itemN (l := cs) (f := fun (k : Nat) => D.int k) 0 (by omega) (by omega) ?_
    walk_at "w"
    refine congrArg D.int ?_
    rw [show ((cs.getD j 0 : Nat) : Int).fdiv 12 = ((cs.getD j 0 / 12 : Nat) : Int) from fdivN _ 12]
    exact fmodN _ 5
  rw [show (List.range 5).map (fun (j : Nat) => D.int ((cs.getD j 0 / 12 % 5 : Nat) : Int)) = (askL cs).map fun (k : Nat) => D.int k by unfold askL; rw [List.map_map]; rfl]
  walk_at "w"
  refine hQ _ _ (ex_cut rfl fun QR hQ => ?_)
  walk_at "w"
  refine comp_map (List.range 5) (fun (j : Nat) => D.int j) (fun (j : Nat) => .int ((cs.getD j 0 / 60 * 5 + j : Nat) : Int)) int_inj rfl (items_rng rfl (by decide)) (by decide) (fun σ j _ hj => ?_) ?_
  · have hj : j < 5 := by simpa using hj
    refine compA_of1 (by kernel_rfl) ?_
    walk_at "w"
    refine t2_itemN (l := cs) (f := fun (k : Nat) => D.int k) 0 (by omega) (by omega) ?_
    walk_at "w"
    refine t2_mul (IntMulOk.of_right (by decide +kernel)) ?_
    walk_at "w"
    refine congrArg D.int ?_
    rw [show ((cs.getD j 0 : Nat) : Int).fdiv 60 = ((cs.getD j 0 / 60 : Nat) : Int) from fdivN _ 60]
    rfl
  rw [show (List.range 5).map (fun (j : Nat) => D.int ((cs.getD j 0 / 60 * 5 + j : Nat) : Int)) = (numL cs).map fun (k : Nat) => D.int k by unfold numL; rw [List.map_map]; rfl]
  have hN := numL_ok hbd
  have hnl : (numL cs).length = 5 := by unfold numL; simp
  walk_at "w"
  refine hQ _ _ (ex_cut rfl fun QR hQ => ?_)
  walk_at "w"
  refine comp_map (List.range 5) (fun (j : Nat) => D.int j) (fun (j : Nat) => .str (word ((numL cs).getD j 0))) int_inj rfl (items_rng rfl (by decide)) (by decide) (fun σ j _ hj => ?_) ?_
  · have hj : j < 5 := by simpa using hj
    have hlt := hN.lt j hj
    refine compA_of1 (by kernel_rfl) ?_
    walk_at "w"
    refine t2_itemN (l := numL cs) (f := fun (k : Nat) => D.int k) 0 (by omega) (by omega) ?_
    walk_at "w"
    refine t2_pow (by omega) (by omega) (by decide) ?_
    refine t2_mul (sgn_ok _ j (by omega)) ?_
    walk_at "w"
    refine CallV.room (CodeV.call (int2ap hK (by rw [show ((j : Int)).toNat = j from rfl, sgn_abs]; omega) ?_)) (by omega)
    rw [show ((j : Int)).toNat = j from rfl, sgn_abs]
    walk_at "w"
    refine c_decW (by omega) ?_
    exact ⟨rfl, rfl⟩
  have ew : (List.range 5).map (fun (j : Nat) => D.str (word ((numL cs).getD j 0))) = (numL cs).map fun k => D.str (word k) := by
    have := map_getD (numL cs) 0
    rw [hnl] at this
    conv => rhs; rw [← this, List.map_map]
    rfl
  rw [ew]
  walk_at "w"
  refine hQ _ _ (ex_cut rfl fun QR hQ => ?_)
  walk_at "w"
  refine comp_map (List.range 5) (fun (j : Nat) => D.int j) (fun (j : Nat) => .str (word j)) int_inj rfl (items_rng rfl (by decide)) (by decide) (fun σ j _ hj => ?_) ?_
  · have hj : j < 5 := by simpa using hj
    refine compA_of1 (by kernel_rfl) ?_
    walk_at "w"
    refine CallV.room (CodeV.call (int2ap hK (by omega) ?_)) (by omega)
    walk_at "w"
    refine c_decW (m := j) (by omega) ?_
    exact ⟨rfl, rfl⟩
  walk_at "w"
  refine hQ _ _ (ex_cut rfl fun QR hQ => ?_)
  walk_at "w"
  have hnum : ∀ k ∈ numL cs, k < 10 ^ 12 := fun k hk => by
    obtain ⟨p, hp, rfl⟩ := List.mem_map.mp hk
    have := hbd p
    have hp : p < 5 := by simpa using hp
    omega
  refine comp_map (numL cs) (fun (j : Nat) => D.int j) (fun (j : Nat) => .str (word j)) int_inj rfl (.list _) (by rw [List.length_map, hnl]; decide) (fun σ j _ hj => ?_) ?_
  · have hlt := hnum j hj
    refine compA_of1 (by kernel_rfl) ?_
    walk_at "w"
    refine CallV.room (CodeV.call (law_word hK (by omega) ?_)) (by omega)
    exact ⟨rfl, rfl⟩
  have wk := words_ok (numL cs)
  have mk := words_ok (List.range 5)
  have no : ∀ {a : D} {c : Bool}, (c = true ↔ a ≠ a) → c = false := fun {a c} hc => by
    cases c with
    | false => rfl
    | true => exact absurd rfl (hc.mp rfl)
  refine t2_neD wk.1 wk.1 wk.2 wk.2 fun c hc => ?_
  rw [no hc]
  refine tr_bool (or_q (fun h => nomatch h) fun _ => ?_)
  walk_at "w"
  rw [← marks_are]
  refine t2_neD mk.1 mk.1 mk.2 mk.2 fun c hc => ?_
  rw [no hc]
  walk_at "w"
  refine or_q (fun h => nomatch h) fun _ => ?_
  walk_at "w"
  refine hQ _ _ (ex_cut rfl fun QR hQ => ?_)
  walk_at "w"
  refine CallV.room (CodeV.call (law_far L (up := upL cs) (by unfold upL; simp) (fun p hp h1 => by rw [upL_at cs hp h1]; exact Nat.mod_lt _ h1) ?_)) (by omega)
  refine hQ _ _ (h _ _ ?_ ?_ ?_ ?_ ?_)
  · walk_at "lk"
  · walk_at "lk"
  · walk_at "lk"
  · walk_at "lk"
  · walk_at "lk"
end


theorem rowF_inj {m m' : Nat × Nat × Nat} (h : pairD (rowF m) = pairD (rowF m')) : m = m' := by
  obtain ⟨w, d, g⟩ := m
  obtain ⟨w', d', g'⟩ := m'
  have h := pair_inj _ _ h
  have h1 := congrArg (fun (x : Str × Str) => x.1.cps.toList) h
  have h2 := congrArg (fun (x : Str × Str) => x.2.cps.toList) h
  have h1 : List.replicate d 46 ++ figs w = List.replicate d' 46 ++ figs w' := h1
  have no : ∀ k, 46 ∉ figs k := fun k q => by have := figs_mem q; omega
  obtain ⟨e1, e2⟩ := rep_inj (no w) (no w') h1
  have e3 : g = g' := figs_inj h2
  rw [e1, figs_inj e2, e3]
theorem in_rows {fo : List (Nat × Nat × Nat)} {m : Nat × Nat × Nat} : D.tuple [.str (dnm m.2.1 m.1), .str (word m.2.2)] ∈ (fo.map rowF).map pairD ↔ m ∈ fo := by
  rw [List.map_map, List.mem_map]
  exact ⟨fun ⟨x, hx, e⟩ => by rw [← rowF_inj (m := x) (m' := m) e]; exact hx, fun hm => ⟨m, hm, rfl⟩⟩

section
variable {X : Cx} {ps : PySem.Params} {τ : Store} {QS : Fl → (Str → Option D) → Store → Prop} {n : Nat} {ρ : Str → Option D} {P : Pl} {s : S2} {line : List Nat}
theorem St2.keep {τ' : Store} (S : St2 P s τ) (h : ∀ b ∈ [P.lA, P.lT, P.lF], τ' b = τ b) : St2 P s τ' := by
  obtain ⟨⟨EA, z1, z2⟩, ⟨ET, y1, y2⟩, w⟩ := S
  exact ⟨⟨EA, z1, (h _ (by simp)).trans z2⟩, ⟨ET, y1, (h _ (by simp)).trans y2⟩, (h _ (by simp)).trans w⟩
theorem St2.fresh {a : Addr} (S : St2 P s τ) (h : τ a = none) : ∀ b ∈ [P.lA, P.lT, P.lF], b ≠ a := by
  obtain ⟨⟨EA, z1, z2⟩, ⟨ET, y1, y2⟩, w⟩ := S
  intro b hb e
  subst e
  simp only [List.mem_cons, List.not_mem_nil, or_false] at hb
  rcases hb with rfl | rfl | rfl
  · rw [h] at z2; cases z2
  · rw [h] at y2; cases y2
  · rw [h] at w; cases w
theorem St2.put {a : Addr} {x : List D} (S : St2 P s τ) (h : ∀ b ∈ [P.lA, P.lT, P.lF], b ≠ a) : St2 P s (put τ a x) := S.keep fun b hb => put_other (h b hb)
theorem mul_dnm {d w : Nat} (hd : d < 8) : Txt.mul (PySem.Str.ofString ".") ((d : Nat) : Int) ++ word w = dnm d w := by
  apply str_ext
  rw [toList_app, dots_mul d hd]; rfl
/-- the line is followed, from the place of step 17 on -/
theorem end_1 (L : L3 X ps) (O : PlOk P) (hf : s.fo.length = 4) (hb5 : ∀ m ∈ s.fo, m.1 < 5 ∧ m.2.1 ≤ 5 ∧ m.2.2 < 5) (hd4 : ∀ a b, fd P.fr (P.as a) (P.as b) ≤ 4) (hll : line.length = 5) (hl0 : line.getD 0 0 = 0) (hl5 : ∀ k, line.getD k 0 < 5)
    (hnext : ∀ k, k < 4 → behindL (fd P.fr) P.as s.fo (line.getD k 0) = [line.getD (k + 1) 0])
    (E : En P ρ) (S : St2 P s τ) (V : Va P s ρ)
    (h : ∀ ρ' τ' al, En P ρ' → St2 P s τ' → Va P s ρ' → ρ' "line" = some (.own al) → τ' al = some (line.map fun (k : Nat) => D.int k) → ρ' "rows" = some (.list ((s.fo.map rowF).map pairD)) → Ex X 140 (compSk F249.scope) ρ' τ' ((bodyOf F249).drop 20) QS) :
    Ex X 140 (compSk F249.scope) ρ τ ((bodyOf F249).drop 17) QS := by
  have hK := L.K
  have E0 := E
  obtain ⟨b1, b2, b3, b4, b5, b6, b7⟩ := E
  obtain ⟨v1, v2, v3⟩ := V
  refine ex_cut rfl fun QR hQ => ?_
  walk_at "w"
  refine CallV.room (CodeV.call (h_items L S.f (by rw [List.length_map]; omega) ?_)) (by omega)
  refine hQ _ _ (ex_cut rfl fun QR hQ => ?_)
  refine (ex_assign (by with_unfolding_all rfl) (by kernel_rfl) (ev_listOwn ?_))
  walk_at "w"
  intro al hal
  have nal := S.fresh hal
  refine hQ _ _ (ex_cut rfl fun QR hQ => ?_)
  refine ex_forP (by kernel_rfl) ?_
  walk_at "w"
  refine forP_of (List.range 4) (fun (j : Nat) => D.int j) (fun r ρ' τ' => ∃ k, r = (List.range 4).drop k ∧ k ≤ 4 ∧ En P ρ' ∧ St2 P s τ' ∧ Va P s ρ' ∧ ρ' "line" = some (.own al) ∧ ρ' "rows" = some (.list ((s.fo.map rowF).map pairD)) ∧ τ' al = some ((line.take (k + 1)).map fun (k : Nat) => D.int k)) rfl (items_rng rfl (by decide))
    ⟨0, rfl, by decide, (E0.upd (by decide +kernel)).upd (by decide +kernel), S.put nal, ⟨by walk_at "lk", by walk_at "lk", by walk_at "lk"⟩, by walk_at "lk", by walk_at "lk", ?_⟩ ?_ ?_
  · rw [put_same]
    cases line with
    | nil => cases hll
    | cons a r => rw [show a = 0 from hl0]; rfl
  · rintro ρ₁ τ₁ ⟨k, hk, hk4, E1, S1, V1, g1, g2, g3⟩
    have := range_done hk hk4
    subst this
    refine hQ _ _ ?_
    rw [List.take_of_length_le (by omega)] at g3
    exact h _ _ al E1 S1 V1 g1 g3 g2
  · intro k r ρ₁ τ₁ i
    refine ⟨_, asg1 (by decide +kernel), body_gen fun QB hB => ?_⟩
    obtain ⟨k', hk, hk4, E1, S1, V1, g1, g2, g3⟩ := i
    obtain ⟨rfl, hlt, rfl⟩ := range_drop hk
    have E10 := E1
    obtain ⟨b1, b2, b3, b4, b5, b6, b7⟩ := E1
    walk_at "w"
    have hlk : ((line.take (k + 1)).map fun (k : Nat) => D.int k).length = k + 1 := by rw [List.length_map, List.length_take, hll]; omega
    have hli : ((line.take (k + 1)).map fun (k : Nat) => D.int k)[k]? = some (.int (line.getD k 0 : Nat)) := by
      rw [List.getElem?_map, List.getElem?_take, if_pos (Nat.lt_succ_self k), List.getD_eq_getElem?_getD, List.getElem?_eq_getElem (by omega)]
      rfl
    refine ⟨by show (τ₁ al).isSome = true; rw [g3]; rfl, t2_item (.own g3) (by decide) (by decide) (j := k) (by rw [hlk]; exact (by decide : ∀ k, k < 4 → seqIndex? (-1) (k + 1) = some k) k hlt) hli ?_⟩
    have hg5 := hl5 k
    have hnk := hnext k hlt
    generalize line.getD k 0 = g at hg5 hnk ⊢
    refine seq_next (ex_seq (ex_assign (by with_unfolding_all rfl) (by kernel_rfl) (ev_listOwn (evs_nil ⟨by rw [sizeLine_eq]; exact Nat.zero_le _, fun pb hpb => ?_⟩))))
    have np : ∀ {b es}, τ₁ b = some es → b ≠ pb := fun e q => by subst q; rw [hpb] at e; cases e
    have hap : al ≠ pb := np g3
    have npb := S1.fresh hpb
    obtain ⟨u1, u2, u3⟩ := V1
    refine seq_next (ex_seqG fun QR hQ hR => ?_)
    clear hR
    refine ex_forP (by kernel_rfl) ?_
    walk_at "w"
    refine forP_of (List.range 4) (fun (j : Nat) => D.int (1 + (j : Int))) (fun r ρ' τ' => ∃ m, r = (List.range 4).drop m ∧ m ≤ 4 ∧ En P ρ' ∧ Va P s ρ' ∧ ρ' "line" = some (.own al) ∧ ρ' "rows" = some (.list ((s.fo.map rowF).map pairD)) ∧ ρ' "front" = some (.int (g : Nat)) ∧ ρ' "behind" = some (.own pb) ∧ τ' = put τ₁ pb ((([1, 2, 3, 4].take m).filter fun w => decide ((w, fd P.fr (P.as w) (P.as g) + 1, g) ∈ s.fo)).map fun (k : Nat) => D.int k)) rfl (items_rng1 rfl (by decide) (by decide) (by decide) (by decide))
      ⟨0, rfl, by decide, (E10.upd (by decide +kernel)).upd (by decide +kernel) |>.upd (by decide +kernel), ⟨by walk_at "lk", by walk_at "lk", by walk_at "lk"⟩, by walk_at "lk", by walk_at "lk", by walk_at "lk", by walk_at "lk", rfl⟩ ?_ ?_
    · rintro ρ₂ _ ⟨m, hm, hm4, E2, V2, k1, k2, k3, k4, rfl⟩
      have := range_done hm hm4
      subst this
      refine hQ _ _ ?_
      rw [show ([1, 2, 3, 4].take 4).filter (fun w => decide ((w, fd P.fr (P.as w) (P.as g) + 1, g) ∈ s.fo)) = behindL (fd P.fr) P.as s.fo g from rfl, hnk]
      refine ex_seq ?_
      walk_at "w"
      refine c_len (.own put_same) (by rw [List.length_map]; exact (by decide : 1 < 2 ^ 63)) ?_
      rw [show ((([line.getD (k + 1) 0].map fun (k : Nat) => D.int k).length : Nat) : Int) = 1 from rfl]
      have g4 : put τ₁ pb ([line.getD (k + 1) 0].map fun (k : Nat) => D.int k) al = some ((line.take (k + 1)).map fun (k : Nat) => D.int k) := by rw [put_other hap]; exact g3
      walk_at "w"
      refine ⟨by show (put τ₁ pb ([line.getD (k + 1) 0].map fun (k : Nat) => D.int k) pb).isSome = true; rw [put_same]; rfl, t2_item (.own put_same) (by decide) (by decide) (j := 0) (by rfl) (d := .int (line.getD (k + 1) 0 : Nat)) (by rfl) ?_⟩
      walk_at "w"
      refine c_append g4 (by rw [hlk, sizeLine_eq]; omega) ?_
      walk_at "w"
      refine hB _ _ ⟨k + 1, rfl, by omega, E2, (S1.put npb).put nal, V2, by walk_at "lk", by walk_at "lk", ?_⟩
      rw [put_same, List.take_succ_eq_append_getElem (by omega : k + 1 < line.length), List.map_append, List.getD_eq_getElem?_getD, List.getElem?_eq_getElem (by omega)]
      rfl
    · intro j r ρ₂ τ₂ i
      refine ⟨_, asg1 (by decide +kernel), body_gen fun QB hB => ?_⟩
      obtain ⟨m, hm, hm4, E2, V2, k1, k2, k3, k4, ht2⟩ := i
      obtain ⟨rfl, hj4, rfl⟩ := range_drop hm
      have E20 := E2
      have hpb2 := (congrFun ht2 pb).trans put_same
      obtain ⟨b1, b2, b3, b4, b5, b6, b7⟩ := E2
      have h4 := hd4 (j + 1) g
      have hmk := (good_mark (w := j + 1) (by omega)).1
      have gd : Good (dnm (fd P.fr (P.as (j + 1)) (P.as g) + 1) (j + 1)) 20 := good_dnm (by omega) (by omega)
      have ht : [1, 2, 3, 4].take (j + 1) = [1, 2, 3, 4].take j ++ [j + 1] := (by decide : ∀ j, j < 4 → [1, 2, 3, 4].take (j + 1) = [1, 2, 3, 4].take j ++ [j + 1]) j hj4
      rw [show (1 : Int) + (j : Int) = ((j + 1 : Nat) : Int) from Int.add_comm _ _]
      walk_at "w"
      refine t2_itemN (l := P.al) (f := fun (k : Nat) => D.int k) (k := j + 1) 0 (by rw [O.al]; omega) (by rw [O.al]; decide) ?_
      refine ⟨trivial, far_1 O.F (Nat.le_refl _) (O.as (j + 1)) ?_⟩
      walk_at "w"
      refine t2_itemN (l := P.al) (f := fun (k : Nat) => D.int k) (k := g) 0 (by rw [O.al]; exact hg5) (by rw [O.al]; decide) ?_
      refine ⟨trivial, far_2 O.F (Nat.le_refl _) (O.as (j + 1)) (O.as g) ?_⟩
      walk_at "w"
      rw [show P.al.getD (j + 1) 0 = P.as (j + 1) from rfl, show P.al.getD g 0 = P.as g from rfl, show ((fd P.fr (P.as (j + 1)) (P.as g) : Nat) : Int) + 1 = ((fd P.fr (P.as (j + 1)) (P.as g) + 1 : Nat) : Int) from rfl]
      refine t2_muls (dots_ok _ (by omega)) ?_
      walk_at "w"
      refine t2_itemN (l := List.range 5) (f := fun k => D.str (word k)) (k := j + 1) 0 (by rw [List.length_range]; omega) (by simp) ?_
      rw [mark_at (by omega)]
      refine t2_adds (by rw [length_list, dots_mul _ (by omega), List.length_replicate, length_list, sizeLine_eq]; omega) ?_
      rw [mul_dnm (by omega)]
      walk_at "w"
      refine t2_itemN (l := List.range 5) (f := fun k => D.str (word k)) (k := g) 0 (by simpa using hg5) (by simp) ?_
      rw [mark_at hg5]
      walk_at "w"
      refine t2_inD (by show (PyData.strOk _ && (PyData.strOk _ && true)) = true; rw [good_ok gd, word_ok]; rfl) (by
        rw [List.map_map]
        refine okDs_map fun x hx => ?_
        obtain ⟨x1, x2, x3⟩ := hb5 x hx
        show (PyData.strOk (dnm x.2.1 x.1) && (PyData.strOk (word x.2.2) && true)) = true
        rw [good_ok (good_dnm (d := x.2.1) (w := x.1) (by omega) x1), word_ok]; rfl) (by show max 0 (max 0 0) + 1 ≤ 60; decide) fun c hc => ?_
      have hc : c = true ↔ (j + 1, fd P.fr (P.as (j + 1)) (P.as g) + 1, g) ∈ s.fo := hc.trans (in_rows (m := (j + 1, fd P.fr (P.as (j + 1)) (P.as g) + 1, g)))
      walk_at "w"
      refine if_q (fun hb => ?_) fun hb => ?_
      · have hm := hc.mp hb
        walk_at "w"
        refine c_append hpb2 (by rw [List.length_map, sizeLine_eq]; exact Nat.le_trans (List.length_filter_le _ _) (Nat.le_trans (List.length_take_le _ _) (by omega))) ?_
        walk_at "w"
        refine hB _ _ ⟨j + 1, rfl, hj4, E20.upd (by decide +kernel), ⟨(upd_ne (by decide +kernel)).trans V2.air, (upd_ne (by decide +kernel)).trans V2.n, (upd_ne (by decide +kernel)).trans V2.lot⟩, by walk_at "lk", by walk_at "lk", by walk_at "lk", by walk_at "lk", ?_⟩
        rw [ht2, put_put, ht, List.filter_append, List.map_append]
        simp [hm]
      · have hm : ¬ (j + 1, fd P.fr (P.as (j + 1)) (P.as g) + 1, g) ∈ s.fo := fun z => by rw [hc.mpr z] at hb; cases hb
        walk_at "w"
        refine hB _ _ ⟨j + 1, rfl, hj4, E20.upd (by decide +kernel), ⟨(upd_ne (by decide +kernel)).trans V2.air, (upd_ne (by decide +kernel)).trans V2.n, (upd_ne (by decide +kernel)).trans V2.lot⟩, by walk_at "lk", by walk_at "lk", by walk_at "lk", by walk_at "lk", ?_⟩
        rw [ht2, ht, List.filter_append, List.map_append]
        simp [hm]
end

theorem sorted_is {ss : List Int} (hp : ss.Perm ((List.range 5).map fun (k : Nat) => (k : Int))) (hs : ss.Pairwise (· ≤ ·)) : ss = [0, 1, 2, 3, 4] :=
  hp.eq_of_pairwise (fun a b _ _ h1 h2 => Int.le_antisymm h1 h2) hs (by decide)
theorem idx_int (l : List Nat) (k : Nat) : (l.map fun (k : Nat) => (k : Int)).idxOf (k : Int) = l.idxOf k := by
  induction l with
  | nil => rfl
  | cons a l ih =>
    rw [List.map_cons, List.idxOf_cons, List.idxOf_cons, ih]
    have : ((a : Int) == (k : Int)) = (a == k) := by rw [Bool.eq_iff_iff, beq_iff_eq, beq_iff_eq]; omega
    rw [this]
theorem pairs_ok {l : List (Str × Str)} (h : ∀ p ∈ l, Good p.1 20 ∧ Good p.2 20) : okD (.list (l.map pairD)) = true ∧ dep (.list (l.map pairD)) ≤ 60 := by
  refine ⟨okDs_map fun p hp => ?_, ?_⟩
  · obtain ⟨h1, h2⟩ := h p hp
    show (PyData.strOk p.1 && (PyData.strOk p.2 && true)) = true
    rw [good_ok h1, good_ok h2]; rfl
  · show deps _ + 1 ≤ 60
    have : deps (l.map pairD) ≤ 1 := deps_map fun x _ => by
      show max 0 (max 0 0) + 1 ≤ 1
      omega
    omega
section
variable {X : Cx} {ps : PySem.Params} {τ : Store} {QS : Fl → (Str → Option D) → Store → Prop} {n : Nat} {ρ : Str → Option D} {P : Pl} {s : S2} {line : List Nat} {al : Addr} {e : Nat}
theorem end_2 (L : L3 X ps) (O : PlOk P) (hf : s.fo.length = 4) (hair : s.air = []) (hlp : line.Perm (List.range 5)) (hll : line.length = 5)
    (hord : ∀ v w, v < w → w < 5 → P.as v = P.as w → line.idxOf v < line.idxOf w)
    (E : En P ρ) (S : St2 P s τ) (V : Va P s ρ) (h1 : ρ "line" = some (.own al)) (h2 : τ al = some (line.map fun (k : Nat) => D.int k)) (h3 : ρ "rows" = some (.list ((s.fo.map rowF).map pairD)))
    (h : ∀ ρ', En P ρ' → Va P s ρ' → ρ' "line" = some (.own al) → Ex X 140 (compSk F249.scope) ρ' τ ((bodyOf F249).drop 22) QS) :
    Ex X 140 (compSk F249.scope) ρ τ ((bodyOf F249).drop 20) QS := by
  have hK := L.K
  have E0 := E
  obtain ⟨b1, b2, b3, b4, b5, b6, b7⟩ := E
  have V0 := V
  obtain ⟨v1, v2, v3⟩ := V
  have eL : line.map (fun (k : Nat) => D.int k) = (line.map fun (k : Nat) => (k : Int)).map D.int := by rw [List.map_map]; rfl
  refine ex_seqG fun QR hQ hR => ?_
  have hQ : ∀ ρ' τ', Ex X 140 (compSk F249.scope) ρ' τ' ((bodyOf F249).drop 21) QS → QR .next ρ' τ' := hQ
  clear hR
  walk_at "w"
  refine c_len .list (by rw [List.length_map, List.length_map, hf]; decide) ?_
  rw [List.length_map, List.length_map, hf]
  rw [eL] at h2
  have no : ∀ {a : D} {c : Bool}, (c = true ↔ a ≠ a) → c = false := fun {a c} hc => by
    cases c with
    | false => rfl
    | true => exact absurd rfl (hc.mp rfl)
  walk_at "w"
  refine or_q (fun h => nomatch h) fun _ => ?_
  walk_at "w"
  refine c_sortedI (.own h2) (by rw [List.length_map, hll]; decide) fun ss hp hs => ?_
  have hss := sorted_is (hp.trans (hlp.map _)) hs
  subst hss
  walk_at "w"
  refine t2_neD (by rfl) (by rfl) (by decide) (by decide) fun c hc => ?_
  rw [no hc]
  walk_at "w"
  refine or_q (fun h => nomatch h) fun _ => ?_
  rw [hair] at v1
  walk_at "w"
  rw [List.map_nil]
  refine t2_neD (by rfl) (by rfl) (by decide) (by decide) fun c hc => ?_
  rw [no hc]
  refine tr_bool (or_q (fun h => nomatch h) fun _ => ?_)
  walk_at "w"
  refine hQ _ _ (ex_cut rfl fun QR hQ => ?_)
  refine ex_forP (by kernel_rfl) ?_
  walk_at "w"
  rw [← hair] at v1
  refine forP_of (List.range 4) (fun (j : Nat) => D.int (1 + (j : Int))) (fun r ρ' τ' => ∃ k, r = (List.range 4).drop k ∧ k ≤ 4 ∧ En P ρ' ∧ Va P s ρ' ∧ ρ' "line" = some (.own al) ∧ τ' = τ) rfl (items_rng1 rfl (by decide) (by decide) (by decide) (by decide)) ⟨0, rfl, by decide, E0, V0, h1, rfl⟩ ?_ ?_
  · rintro ρ₁ _ ⟨k, hk, hk4, E1, V1, g1, rfl⟩
    exact hQ _ _ (h _ E1 V1 g1)
  · intro j r ρ₁ τ₁ i
    refine ⟨_, asg1 (by decide +kernel), body_gen fun QB hB => ?_⟩
    obtain ⟨k, hk, hk4, E1, V1, g1, rfl⟩ := i
    obtain ⟨rfl, hj4, rfl⟩ := range_drop hk
    rw [show (1 : Int) + (j : Int) = ((j + 1 : Nat) : Int) by omega]
    have E10 := E1
    obtain ⟨b1, b2, b3, b4, b5, b6, b7⟩ := E1
    walk_at "w"
    refine ex_forP (by kernel_rfl) ?_
    walk_at "w"
    refine forP_of (List.range (3 - j)) (fun (i : Nat) => D.int ((((j + 1 : Nat) : Int) + 1) + (i : Int))) (fun r ρ' τ' => ∃ k, r = (List.range (3 - j)).drop k ∧ k ≤ 3 - j ∧ En P ρ' ∧ Va P s ρ' ∧ ρ' "line" = some (.own al) ∧ ρ' "one" = some (.int (j + 1 : Nat)) ∧ τ' = τ₁) rfl (items_rng1 (by omega) (by omega) (by omega) (by omega) (by omega)) ⟨0, rfl, Nat.zero_le _, E10.upd (by decide +kernel), ⟨(upd_ne (by decide +kernel)).trans V1.air, (upd_ne (by decide +kernel)).trans V1.n, (upd_ne (by decide +kernel)).trans V1.lot⟩, by walk_at "lk", by walk_at "lk", rfl⟩ ?_ ?_
    · rintro ρ₂ _ ⟨m, hm, hm4, E2, V2, k1, k2, rfl⟩
      walk_at "w"
      exact hB _ _ ⟨j + 1, rfl, hj4, E2, V2, k1, rfl⟩
    · intro i r ρ₂ τ₂ x
      refine ⟨_, asg1 (by decide +kernel), body_gen fun QC hC => ?_⟩
      obtain ⟨m, hm, hm4, E2, V2, k1, k2, rfl⟩ := x
      obtain ⟨rfl, hi, rfl⟩ := range_drop hm
      rw [show (((j + 1 : Nat) : Int) + 1) + (i : Int) = ((j + 2 + i : Nat) : Int) by omega]
      have E20 := E2
      obtain ⟨b1, b2, b3, b4, b5, b6, b7⟩ := E2
      walk_at "w"
      refine t2_itemN (l := P.al) (f := fun (k : Nat) => D.int k) (k := j + 1) 0 (by rw [O.al]; omega) (by rw [O.al]; decide) ?_
      walk_at "w"
      refine t2_itemN (l := P.al) (f := fun (k : Nat) => D.int k) (k := j + 2 + i) 0 (by rw [O.al]; omega) (by rw [O.al]; decide) ?_
      walk_at "w"
      have fin : ∃ k, List.drop (i + 1) (List.range (3 - j)) = (List.range (3 - j)).drop k ∧ k ≤ 3 - j ∧ En P (upd ρ₂ "other" (D.int (j + 2 + i : Nat))) ∧ Va P s (upd ρ₂ "other" (D.int (j + 2 + i : Nat))) ∧ upd ρ₂ "other" (D.int (j + 2 + i : Nat)) "line" = some (.own al) ∧ upd ρ₂ "other" (D.int (j + 2 + i : Nat)) "one" = some (.int (j + 1 : Nat)) :=
        ⟨i + 1, rfl, hi, E20.upd (by decide +kernel), ⟨(upd_ne (by decide +kernel)).trans V2.air, (upd_ne (by decide +kernel)).trans V2.n, (upd_ne (by decide +kernel)).trans V2.lot⟩, by walk_at "lk", by walk_at "lk"⟩
      obtain ⟨fk, f1, f2, f3, f4, f5, f6⟩ := fin
      have mem : ∀ v, v < 5 → ((v : Nat) : Int) ∈ line.map fun (k : Nat) => (k : Int) := fun v hv => List.mem_map.mpr ⟨v, hlp.symm.subset (List.mem_range.mpr hv), rfl⟩
      refine and_q (fun hb => ?_) fun hb => ?_
      · have has : P.as (j + 1) = P.as (j + 2 + i) := by
          have := beq_iff_eq.mp hb
          unfold Pl.as
          omega
        have hlt := hord (j + 1) (j + 2 + i) (by omega) (by omega) has
        walk_at "w"
        refine c_index h2 (mem _ (by omega)) (by rw [List.length_map, hll]; decide) ?_
        rw [idx_int]
        walk_at "w"
        refine c_index h2 (mem _ (by omega)) (by rw [List.length_map, hll]; decide) ?_
        rw [idx_int]
        walk_at "w"
        refine and_q (fun hb2 => ?_) fun hb2 => ?_
        · exfalso
          have := of_decide_eq_true hb2
          omega
        · refine if_f rfl (ex_nil ?_)
          walk_at "w"
          exact hC _ _ ⟨fk, f1, f2, f3, f4, f5, f6, rfl⟩
      · refine if_f rfl (ex_nil ?_)
        walk_at "w"
        exact hC _ _ ⟨fk, f1, f2, f3, f4, f5, f6, rfl⟩
/-- the rest: what the tables hold, and the end -/
theorem end_3 (L : L3 X ps) (O : PlOk P) (he : line.getLast? = some e) (hll : line.length = 5) (he5 : e < 5) (har : ∀ p, p < 5 → s.ar p = toward (fd P.fr) p (P.as e)) (har5 : ∀ p, p < 5 → s.ar p < 5)
    (E : En P ρ) (S : St2 P s τ) (h1 : ρ "line" = some (.own al)) (h2 : τ al = some (line.map fun (k : Nat) => D.int k))
    (hret : ∀ ρ' τ', QS (.ret (.bool true)) ρ' τ') :
    Ex X 140 (compSk F249.scope) ρ τ ((bodyOf F249).drop 22) QS := by
  have hK := L.K
  have E0 := E
  obtain ⟨b1, b2, b3, b4, b5, b6, b7⟩ := E
  obtain ⟨⟨EA, HA, hA⟩, _, _⟩ := S
  refine ex_seq ?_
  walk_at "w"
  have hlast : (line.map fun (k : Nat) => D.int k)[4]? = some (.int (e : Nat)) := by
    rw [List.getLast?_eq_getElem?, hll] at he
    rw [List.getElem?_map, show line[4]? = some e from he]; rfl
  refine comp_map (List.range 5) (fun (j : Nat) => D.int j) (fun (p : Nat) => pairD (word (P.num p), word (P.num (s.ar p)))) int_inj rfl (items_rng rfl (by decide)) (by decide) (fun σ p hσ hp => ?_) ?_
  · have hp : p < 5 := by simpa using hp
    have h2' := hσ _ _ h2
    refine compA_of1 (by kernel_rfl) ?_
    walk_at "w"
    have hs5 := har5 p hp
    refine t2_itemN (l := P.nl) (f := fun k => D.str (word k)) (k := p) 0 (by rw [O.nl]; exact hp) (by rw [O.nl]; decide) ?_
    walk_at "w"
    refine ⟨by show (σ al).isSome = true; rw [h2']; rfl, t2_item (.own h2') (by decide) (by decide) (j := 4) (by rw [List.length_map, hll]; rfl) hlast ?_⟩
    refine ⟨trivial, t2_itemN (l := P.al) (f := fun (k : Nat) => D.int k) (k := e) 0 (by rw [O.al]; exact he5) (by rw [O.al]; decide) ?_⟩
    rw [show P.al.getD e 0 = P.as e from rfl]
    walk_at "w"
    refine CallV.room (CodeV.call (law_toward L O.F hp (O.as e) ?_)) (by omega)
    rw [← har p hp]
    refine ⟨trivial, t2_itemN (l := P.nl) (f := fun k => D.str (word k)) (k := s.ar p) 0 (by rw [O.nl]; exact hs5) (by rw [O.nl]; decide) ?_⟩
    walk_at "w"
    rfl
  walk_at "w"
  refine CallV.room (CodeV.call (h_items L hA (by rw [List.length_map]; have := HA.len; omega) ?_)) (by omega)
  refine comp_map (EA.map (entP P.num fun v => word (P.num v))) pairD (fun q => pairD (Txt.upper q.1, q.2)) pair_inj rfl (.list _) (by rw [List.length_map, List.length_map, sizeLine_eq]; have := HA.len; omega) (fun σ q _ hq => ?_) ?_
  · have hq1 := ((ent_tab O.N (fun v hv => good_word (O.N.lt v hv)) HA).2 q hq).1
    refine compA_of2 (by kernel_rfl) ?_
    walk_at "w"
    refine c_upper (by omega) ?_
    walk_at "w"
    rfl
  have eu : (EA.map (entP P.num fun v => word (P.num v))).map (fun q => pairD (Txt.upper q.1, q.2)) = ((EA.map (·.1)).map fun p => (word (P.num p), word (P.num (s.ar p)))).map pairD := by
    rw [List.map_map, List.map_map, List.map_map]
    refine List.map_congr_left fun x hx => ?_
    have h5 := (HA.lt x hx).1
    have := HA.of x hx
    rw [show arM s.ar x.1 = some (s.ar x.1) from if_pos h5] at this
    show pairD (Txt.upper (keyS P.num x.1 x.2.1), word (P.num x.2.2)) = pairD (word (P.num x.1), word (P.num (s.ar x.1)))
    rw [key_up, Option.some.inj this]
  rw [eu]
  have hperm : (EA.map (·.1)).Perm (List.range 5) := nodup_perm HA.nd List.nodup_range fun x => by
    constructor
    · intro hx
      obtain ⟨y, hy, rfl⟩ := List.mem_map.mp hx
      exact List.mem_range.mpr (HA.lt y hy).1
    · intro hx
      obtain ⟨b, hb⟩ := HA.is x (s.ar x) (if_pos (List.mem_range.mp hx))
      exact List.mem_map.mpr ⟨_, hb, rfl⟩
  have hnd : ((List.range 5).map fun p => (word (P.num p), word (P.num (s.ar p)))).Nodup := by
    rw [List.Nodup, List.pairwise_map]
    refine (List.Pairwise.and_mem.mp List.nodup_range).imp fun {a b} q e => q.2.2 ?_
    exact O.N.inj a b (List.mem_range.mp q.1) (List.mem_range.mp q.2.1) (figs_inj (congrArg (fun (x : Str × Str) => x.1.cps.toList) e))
  have hpm := hperm.map fun p => (word (P.num p), word (P.num (s.ar p)))
  have hlen : ((EA.map (·.1)).map fun p => (word (P.num p), word (P.num (s.ar p)))).length < 64 := by rw [hpm.length_eq, List.length_map]; decide
  generalize (EA.map (·.1)).map (fun p => (word (P.num p), word (P.num (s.ar p)))) = U at hpm hlen ⊢
  walk_at "w"
  refine c_sortedP .list hlen (hpm.nodup_iff.mpr hnd) fun ss hp hs => ?_
  walk_at "w"
  rw [show (List.range 5).map (fun (p : Nat) => pairD (word (P.num p), word (P.num (s.ar p)))) = ((List.range 5).map fun p => (word (P.num p), word (P.num (s.ar p)))).map pairD by rw [List.map_map]; rfl]
  refine c_sortedP .list (by rw [List.length_map]; decide) hnd fun ss2 hp2 hs2 => ?_
  have hss : ss = ss2 := sortP_unique (hp.trans (hpm.trans hp2.symm)) hs hs2
  subst hss
  have hg : ∀ p ∈ ss, Good p.1 20 ∧ Good p.2 20 := fun p hp' => by
    obtain ⟨x, hx, rfl⟩ := List.mem_map.mp (hp2.subset hp')
    have hx := List.mem_range.mp hx
    have g1 := good_word (O.N.lt x hx)
    have g2 := good_word (O.N.lt _ (har5 x hx))
    exact ⟨⟨Nat.le_trans g1.1 (by decide), g1.2⟩, Nat.le_trans g2.1 (by decide), g2.2⟩
  have hok := pairs_ok hg
  refine t2_eqD hok.1 hok.1 hok.2 hok.2 fun c hc => ?_
  rw [hc.mpr rfl]
  walk_at "w"
  exact hret _ _
end


section
variable {X : Cx} {ps : PySem.Params} {τ : Store} {QS : Fl → (Str → Option D) → Store → Prop} {n : Nat} {ρ : Str → Option D} {cs : List Nat}
theorem hold_ar {f : Nat → Nat → Nat} (T : Tree f) {s0 : Nat} (h0 : s0 < 5) : Holds ((List.range 5).map fun p => (p, false, toward f p s0)) (arM fun p => toward f p s0) := by
  refine ⟨?_, fun e he => ?_, fun e he => ?_, fun p v h => ?_⟩
  · rw [List.map_map]
    show ((List.range 5).map fun p => p).Nodup
    rw [List.map_id']
    exact List.nodup_range
  · obtain ⟨p, hp, rfl⟩ := List.mem_map.mp he
    have hp := List.mem_range.mp hp
    refine ⟨hp, ?_⟩
    by_cases q : p = s0
    · show toward f p s0 < 5
      rw [q, tw_self T h0]; exact h0
    · exact (tw_adj T hp h0 q).1
  · obtain ⟨p, hp, rfl⟩ := List.mem_map.mp he
    exact if_pos (List.mem_range.mp hp)
  · unfold arM at h
    split at h
    · rename_i hp
      exact ⟨false, List.mem_map.mpr ⟨p, List.mem_range.mpr hp, by rw [← Option.some.inj h]⟩⟩
    · cases h
theorem hold_tl {s0 : Nat} (h0 : s0 < 5) : Holds [(s0, false, 0)] fun p => if p = s0 then some 0 else none := by
  refine ⟨by simp, fun e he => ?_, fun e he => ?_, fun p v h => ?_⟩
  · rw [List.mem_singleton.mp he]; exact ⟨h0, (by decide : 0 < 5)⟩
  · rw [List.mem_singleton.mp he]; exact if_pos rfl
  · by_cases e : p = s0
    · rw [if_pos e] at h
      cases h
      exact ⟨false, by rw [e]; exact .head _⟩
    · rw [if_neg e] at h; cases h
noncomputable def s0S (cs : List Nat) : S2 := ⟨fun p => toward (fd (farU (upL cs) 4)) p ((askL cs).getD 0 0), fun p => if p = (askL cs).getD 0 0 then some 0 else none, [], [], 1, cs.getD 5 0 * 1000000 + cs.getD 6 0⟩
theorem body_2 (L : L3 X ps) (hln : cs.length = 7) (hbd : ∀ p, cs.getD p 0 < 10 ^ 12) (g1 : ρ "cells" = some (intsD cs)) (g2 : ρ "words" = some (wordsD (numL cs))) (g3 : ρ "marks" = some (wordsD (List.range 5))) (g4 : ρ "asks" = some (intsD (askL cs))) (g5 : ρ "far" = some (.list ((farU (upL cs) 4).map intsD)))
    (h : ∀ ρ' τ' xA lA xT lT xF lF, PlOk ⟨numL cs, askL cs, farU (upL cs) 4, xA, lA, xT, lT, xF, lF⟩ → En ⟨numL cs, askL cs, farU (upL cs) 4, xA, lA, xT, lT, xF, lF⟩ ρ' → St2 ⟨numL cs, askL cs, farU (upL cs) 4, xA, lA, xT, lT, xF, lF⟩ (s0S cs) τ' → Va ⟨numL cs, askL cs, farU (upL cs) 4, xA, lA, xT, lT, xF, lF⟩ (s0S cs) ρ' → Ex X 140 (compSk F249.scope) ρ' τ' ((bodyOf F249).drop 16) QS) :
    Ex X 140 (compSk F249.scope) ρ τ ((bodyOf F249).drop 9) QS := by
  have hK := L.K
  have N := numL_ok hbd
  have F : Far5 (farU (upL cs) 4) 5 := far5_of _ 4
  have T := tree2 cs
  have ha := askL_lt cs
  have hnl : (numL cs).length = 5 := by unfold numL; simp
  have hal : (askL cs).length = 5 := by unfold askL; simp
  refine ex_cut rfl fun QR hQ => ?_
  walk_at "w"
  refine CallV.room (CodeV.call (make0 L fun xA lA hlA => ?_)) (by omega)
  refine hQ _ _ (ex_cut rfl fun QR hQ => ?_)
  refine ex_forP (by kernel_rfl) ?_
  walk_at "w"
  refine forP_of (List.range 5) (fun (j : Nat) => D.int j) (fun r ρ' τ' => ∃ k, r = (List.range 5).drop k ∧ k ≤ 5 ∧ ρ' "cells" = some (intsD cs) ∧ ρ' "words" = some (wordsD (numL cs)) ∧ ρ' "marks" = some (wordsD (List.range 5)) ∧ ρ' "asks" = some (intsD (askL cs)) ∧ ρ' "far" = some (.list ((farU (upL cs) 4).map intsD)) ∧ ρ' "arrows" = some (.hdr xA lA) ∧
    τ' lA = some ((((List.range k).map fun p => (p, false, toward (fd (farU (upL cs) 4)) p ((askL cs).getD 0 0))).map (entP (fun p => (numL cs).getD p 0) fun v => word ((numL cs).getD v 0))).map pairD)) rfl (items_rng rfl (by decide))
    ⟨0, rfl, by decide, by walk_at "lk", by walk_at "lk", by walk_at "lk", by walk_at "lk", by walk_at "lk", by walk_at "lk", put_same⟩ ?_ ?_
  · rintro ρ₁ τ₁ ⟨k, hk, hk5, c1, c2, c3, c4, c5, c6, c7⟩
    have := range_done hk hk5
    subst this
    refine hQ _ _ (ex_cut rfl fun QR hQ => ?_)
    refine (ex_assign (by with_unfolding_all rfl) (by kernel_rfl) (call_Headers hK (by rfl) (by rfl) (by kernel_rfl) (evs_cons (ev_listOwn ?_) (fun _ => rfl))))
    walk_at "w"
    refine t2_itemN (l := askL cs) (f := fun (k : Nat) => D.int k) (k := 0) 0 (by rw [hal]; decide) (by rw [hal]; decide) ?_
    refine ⟨trivial, t2_itemN (l := numL cs) (f := fun k => D.str (word k)) (k := (askL cs).getD 0 0) 0 (by rw [hnl]; exact ha 0) (by rw [hnl]; decide) ?_⟩
    walk_at "w"
    intro lT hlT
    have e0 : PySem.Str.ofString "" = word 0 := str_ext ((by decide +kernel : (PySem.Str.ofString "").cps.toList = []).trans figs_zero.symm)
    have nT : lA ≠ lT := by rintro rfl; rw [hlT] at c7; cases c7
    have hw0 := good_word (N.lt _ (ha 0))
    walk_at "w"
    refine CallV.room (CodeV.call (make1 L (prs := [(word ((numL cs).getD ((askL cs).getD 0 0) 0), PySem.Str.ofString "")]) put_same (fun q hq => by
      cases List.mem_singleton.mp hq
      exact ⟨hw0.clean (by decide), by rw [e0]; exact (good_mark (w := 0) (by decide)).clean (by decide)⟩) fun xT => ?_)) (by omega)
    refine hQ _ _ (ex_cut rfl fun QR hQ => ?_)
    walk_at "w"
    refine CallV.room (CodeV.call (make0 L fun xF lF hlF => ?_)) (by omega)
    refine hQ _ _ (ex_cut rfl fun QR hQ => ?_)
    refine (ex_assign (by with_unfolding_all rfl) (by kernel_rfl) (ev_list (by decide +kernel) (evs_nil ⟨by rw [sizeLine_eq]; exact Nat.zero_le _, ?_⟩)))
    refine hQ _ _ (ex_cut rfl fun QR hQ => ?_)
    walk_at "w"
    refine hQ _ _ (ex_cut rfl fun QR hQ => ?_)
    walk_at "w"
    refine t2_itemN (l := cs) (f := fun (k : Nat) => D.int k) (k := 5) 0 (by omega) (by omega) ?_
    walk_at "w"
    refine t2_mul (IntMulOk.of_right (by decide +kernel)) ?_
    walk_at "w"
    refine t2_itemN (l := cs) (f := fun (k : Nat) => D.int k) (k := 6) 0 (by omega) (by omega) ?_
    refine t2_add ?_
    have nA : lA ≠ lF := by rintro rfl; rw [put_other nT, c7] at hlF; cases hlF
    have nF : lT ≠ lF := by rintro rfl; rw [put_same] at hlF; cases hlF
    refine hQ _ _ (h _ _ xA lA xT lT xF lF ⟨hnl, hal, ha, N, F, ?_⟩ ⟨by walk_at "lk", by walk_at "lk", by walk_at "lk", by walk_at "lk", by walk_at "lk", by walk_at "lk", by walk_at "lk"⟩ ⟨⟨_, hold_ar T (ha 0), ?_⟩, ⟨_, hold_tl (ha 0), ?_⟩, put_same⟩ ⟨by walk_at "lk", by walk_at "lk", ?_⟩)
    · simp [nT, nA, nF]
    · rw [put_other nA, put_other nT]; exact c7
    · rw [put_other nF, put_same, e0]; rfl
    · rw [upd_same]; rfl
  · intro p r ρ₁ τ₁ i
    refine ⟨_, asg1 (by decide +kernel), body_gen fun QB hB => ?_⟩
    obtain ⟨k, hk, hk5, c1, c2, c3, c4, c5, c6, c7⟩ := i
    obtain ⟨rfl, hp, rfl⟩ := range_drop hk
    walk_at "w"
    have hw := good_word (N.lt p hp)
    have htw := ((hold_ar T (ha 0)).lt _ (List.mem_map.mpr ⟨p, List.mem_range.mpr hp, rfl⟩)).2
    dsimp only at htw
    have hw2 := good_word (N.lt _ htw)
    refine t2_itemN (l := numL cs) (f := fun k => D.str (word k)) (k := p) 0 (by rw [hnl]; exact hp) (by rw [hnl]; decide) ?_
    walk_at "w"
    refine t2_itemN (l := askL cs) (f := fun (k : Nat) => D.int k) (k := 0) 0 (by rw [hal]; decide) (by rw [hal]; decide) ?_
    walk_at "w"
    refine CallV.room (CodeV.call (law_toward L F hp (ha 0) ?_)) (by omega)
    refine ⟨trivial, t2_itemN (l := numL cs) (f := fun k => D.str (word k)) (k := toward (fd (farU (upL cs) 4)) p ((askL cs).getD 0 0)) 0 (by rw [hnl]; exact htw) (by rw [hnl]; decide) ?_⟩
    walk_at "w"
    refine CallV.room (CodeV.call (h_add L c7 (by simp; omega) (hw.clean (by decide)) (hw2.clean (by decide)) fun τ₂ t1 t2 => ?_)) (by omega)
    walk_at "w"
    refine hB _ _ ⟨p + 1, rfl, hp, by walk_at "lk", by walk_at "lk", by walk_at "lk", by walk_at "lk", by walk_at "lk", by walk_at "lk", ?_⟩
    rw [t1, List.range_succ, List.map_append (l₁ := List.range p), List.map_append (f := entP (fun p => (numL cs).getD p 0) fun v => word ((numL cs).getD v 0))]
    rfl
end


section
variable {X : Cx} {ps : PySem.Params} {τ : Store} {QS : Fl → (Str → Option D) → Store → Prop} {n : Nat} {ρ : Str → Option D} {P : Pl} {s₀ : S2} {L₀ : List Nat}
theorem body_3 (L : L3 X ps) (O : PlOk P) (T : Tree (fd P.fr)) {V₀ : Nat → List Nat} (I : Inv2 (fd P.fr) P.as 0 s₀ V₀ L₀) (E : En P ρ) (S : St2 P s₀ τ) (V : Va P s₀ ρ) (hret : ∀ ρ' τ', QS (.ret (.bool true)) ρ' τ') :
    Ex X 140 (compSk F249.scope) ρ τ ((bodyOf F249).drop 16) QS := by
  have hK := L.K
  refine ex_cut rfl fun QR hQ => ?_
  refine ex_forP (by kernel_rfl) ?_
  walk_at "w"
  refine forP_of (List.range 20) (fun (j : Nat) => D.int j) (fun r ρ' τ' => ∃ k s V Lx, r = (List.range 20).drop k ∧ k ≤ 20 ∧ Inv2 (fd P.fr) P.as k s V Lx ∧ En P ρ' ∧ St2 P s τ' ∧ Va P s ρ') rfl (items_rng rfl (by decide)) ⟨0, s₀, V₀, L₀, rfl, by decide, I, E, S, V⟩ ?_ ?_
  · rintro ρ₁ τ₁ ⟨k, s, W, Lx, hk, hk20, I1, E1, S1, V1⟩
    have := range_done hk hk20
    subst this
    obtain ⟨hair, h5⟩ := inv2_end T O.as I1
    obtain ⟨hf, a, b, c, e, q1, q2, q3, q4, hlp, hord, har⟩ := I1.line T O.as h5 hair
    have hmem : ∀ x ∈ [0, a, b, c, e], x < 5 := fun x hx => List.mem_range.mp (hlp.subset hx)
    refine hQ _ _ ?_
    refine end_1 (s := s) (line := [0, a, b, c, e]) L O hf (fun m hm => ?_) (fun x y => T.le (O.as x) (O.as y)) rfl rfl (fun k => ?_) (fun k hk => ?_) E1 S1 V1 fun ρ₂ τ₂ al E2 S2 V2 x1 x2 x3 => ?_
    · obtain ⟨_, f2, f3, f4, _⟩ := I1.fn m hm
      have := T.le (O.as m.1) (O.as m.2.2)
      exact ⟨h5 ▸ f2, by omega, h5 ▸ f3⟩
    · rw [List.getD_eq_getElem?_getD]
      cases q : [0, a, b, c, e][k]? with
      | none => exact (by decide : 0 < 5)
      | some x => exact hmem x (List.mem_of_getElem? q)
    · match k, hk with
      | 0, _ => exact q1
      | 1, _ => exact q2
      | 2, _ => exact q3
      | 3, _ => exact q4
    · refine end_2 (s := s) (line := [0, a, b, c, e]) L O hf hair hlp rfl hord E2 S2 V2 x1 x2 x3 fun ρ₃ E3 V3 y1 => ?_
      exact end_3 (s := s) (line := [0, a, b, c, e]) L O rfl rfl (hmem e (by simp)) har (I1.sm T O.as).ar E3 S2 y1 x2 hret
  · intro t r ρ₁ τ₁ i
    refine ⟨_, asg1 (by decide +kernel), body_gen fun QB hB => ?_⟩
    obtain ⟨k, s, W, Lx, hk, hk20, I1, E1, S1, V1⟩ := i
    obtain ⟨rfl, hlt, rfl⟩ := range_drop hk
    obtain ⟨W', Lx', I2⟩ := inv2_step T O.as I1
    refine turn_ L O (I1.sm T O.as) (turn := t) (by omega) (E1.upd (by decide +kernel)) S1 ⟨(upd_ne (by decide +kernel)).trans V1.air, (upd_ne (by decide +kernel)).trans V1.n, (upd_ne (by decide +kernel)).trans V1.lot⟩ upd_same fun ρ' τ' e1 s1 v1 => ?_
    exact hB _ _ ⟨t + 1, _, W', Lx', rfl, hlt, I2, e1, s1, v1⟩

theorem law_code (L : L3 X ps) {script : List Int} (hl : script.length ≤ 63) : CodeV X 141 (.ref 249) [.list (script.map D.int)] [] τ (fun d _ => d = .bool true) := by
  have hK := L.K
  refine codeV_fnQ (fd := F249) (bds := [("script", .list (script.map D.int))]) (by rw [hK]; exact fn249 ps) (by rw [hK]; exact ok249 ps) (bindV_1 fun S v => by rw [hK]; kernel_rfl) (by kernel_rfl) ?_
  simp only [bindD]
  have hbd : ∀ p, (cellsN script).getD p 0 < 10 ^ 12 := fun p => by
    rw [List.getD_eq_getElem?_getD]
    cases e : (cellsN script)[p]? with
    | none => exact (by decide : 0 < 10 ^ 12)
    | some x => exact cellsN_lt (List.mem_of_getElem? e)
  refine body_1 L hl upd_same fun ρ' τ' g1 g2 g3 g4 g5 => body_2 L (cellsN_len script) hbd g1 g2 g3 g4 g5 fun ρ' τ' xA lA xT lT xF lF O E S V => ?_
  exact body_3 L O (tree2 _) (inv2_start (tree2 _) O.as _) E S V fun _ _ => ret_ret rfl
end

theorem ints_well {C : Addr} {τ : Store} {P : PySem.Params} {h : Heap} : ∀ {xs : List Int} {vs : List Value} {ds : List WData}, ds = ofPys (xs.map PyData.int) → WellAll P h vs ds → RepAll C τ h vs (xs.map D.int)
  | [], _, _, e, w => by
    have e : _ = ([] : List WData) := e
    subst e
    cases w; exact .nil
  | x :: xs, _, _, e, w => by
    have e : _ = WData.int x :: ofPys (xs.map PyData.int) := e
    subst e
    cases w with
    | cons w1 w2 =>
      cases w1 with
      | int i t => exact .cons (.int _ t) (ints_well rfl w2)
theorem list_well {C : Addr} {P : PySem.Params} {h : Heap} {xs : List Int} {v : Value} {d : WData} (e : d = ofPy (.list (xs.map PyData.int))) (w : Well P h v d) : Rep C (fun _ => none) h v (.list (xs.map D.int)) := by
  have e : d = WData.list (ofPys (xs.map PyData.int)) := e
  subst e
  cases w with
  | list h1 h2 => exact .list rfl h1 (ints_well rfl h2)

end
end Mine

set_option maxHeartbeats 8000000 in
theorem PySem.Challenge.cw_ta0032_02_holds : PySem.Challenge.rw_ta0032_02.Holds := by
  refine Mine.hd ?_
  k_fill
  intro w s₀ s₁ mg mb G Y fa o pm cd doc dV kV ho hd hcd hD hmg hg args vals as hpre hlay hrd hwl hlo
  have KX := kIn_of Y
  refine Ground.open G ?_
  intro T B D TE TW
  try (refine guard_noD D (by decide +kernel) ?_; clear D)
  wrow_args hpre hlay hrd hwl hlo
  all_goals (first | refine callC_kw (enter_call ?_) | refine enter_call ?_ | refine callC_kw (enter_callW ?_) | refine enter_callW ?_ | w_how)
  rename_i script hs hlay0 hL hr hl2 vs1 vs2 la vs as2 hLl ra w1 r0 hI hr3 hcond hcond2
  let X : Mine.Cx := ⟨PySem.Challenge.rw_ta0032_02.row.prog, w, Mine.hd.heap_39 w.params, 208, s₁.heap, _, _, mg, mb, KX, topRead_of T⟩
  have h249 : nsIn (Mine.hd.heap_39 w.params) mainGlobals "law" = some (some (.ref 249)) := by kernel_rfl
  have e1 : mg "law" = some (.ref 249) := mg_of KX X.top.g h249
  have e2 : fa = 249 := by
    have := hmg.symm.trans e1
    cases this; rfl
  subst e2
  have O : Mine.Ok X (fun _ => none) s₁.heap := ⟨fun b o e => e, fun b k => absurd rfl k, fun a ds e => nomatch e⟩
  have hr' : Mine.Rep X.C (fun _ => none) s₁.heap (.ref la) (.list (script.map Mine.D.int)) := Mine.list_well rfl w1
  have hlen : script.length ≤ 63 := by omega
  have R : Mine.Room 141 callerA := ⟨rfl, by decide, by decide⟩
  refine codeAny_mono (Mine.law_code (X := X) ⟨rfl, rfl⟩ hlen callerA s₁ _ [] R O (.cons hr' .nil) .nil) fun r s' q => ?_
  rcases r with e | (v | _ | _ | _) <;> first | exact q.elim | skip
  obtain ⟨d, τ', rfl, rv, O', S', o', g'⟩ := q
  obtain rfl := rv.bool_inv
  refine GoodW.toG ⟨.inl ⟨.bool true, _, _, rfl, fun _ => rfl, ReadsW.bool true, (by first | rfl | wrow_post), fun hu => ⟨.nil, fun _ h => nomatch h⟩⟩, O'.base, o', g'.trans hg⟩
