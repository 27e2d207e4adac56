import PyProof.Rows.All
import Wide.All
import OpenK.AllK
import OpenK.ZGo
import Wide.FinOn
import PySem.Challenge.RW_qu0001_02
set_option Elab.async false
section
open PySem PySem.W PyProof.Rows PySem.Calls
set_option Elab.async false
set_option linter.unusedVariables false
namespace Mine

/-- values with the tokens struck; texts are lists of code points -/
inductive V where
  | int (i : Int)
  | str (s : List Nat)
  | bool (b : Bool)
  | none
  | ref (a : Addr)
  | other

def er : Value → V
  | .int i _ => .int i
  | .str s _ => .str s.cps.toList
  | .bool b => .bool b
  | .none => .none
  | .ref a => .ref a
  | _ => .other

theorem er_int {u : Value} {i : Int} (h : er u = .int i) : ∃ t, u = .int i t := by
  cases u <;> simp [er] at h; subst h; exact ⟨_, rfl⟩
theorem er_str {u : Value} {x : List Nat} (h : er u = .str x) : ∃ t, u = .str ⟨x.toArray⟩ t := by
  cases u <;> simp [er] at h
  rename_i s t
  subst h; exact ⟨t, by simp⟩
theorem er_bool {u : Value} {b : Bool} (h : er u = .bool b) : u = .bool b := by
  cases u <;> simp [er] at h; subst h; rfl
theorem er_none {u : Value} (h : er u = .none) : u = .none := by
  cases u <;> simp [er] at h; rfl
theorem er_ref {u : Value} {a : Addr} (h : er u = .ref a) : u = .ref a := by
  cases u <;> simp [er] at h; subst h; rfl

/-- a small state: locals, the lists that this frame owns, the lists that it only reads -/
structure St where
  loc : List (Str × V)
  own : List (Addr × List V)
  ro : List (Addr × List V)

/-- built-in functions that the text calls by name -/
def bnames : List Str := ["len", "range", "max", "min", "sum"]

structure Wd where
  prog : Program
  w : World
  p : Program
  loose : List Str
  mean : ExcName → Option Value
  mg : Str → Option Value
  mb : Str → Option Value
  free : ∀ x ∈ bnames, mg x = none

structure Frm where
  wd : Wd
  A : Around
  env : Env
  h₀ : Heap
  wc : List Addr
  s₀ : Shared
  top : Top wd.p wd.loose wd.mean wd.mg wd.mb h₀
  nb : NoneBooked h₀
  kind : env.scope.kind = .function
  glob : env.globals = mainGlobals
  blt : env.builtins = builtinsNs
  hand : A.handled = none
  hL : h₀.get? env.locals = none
  hwc : ∀ c ∈ wc, h₀.get? c = none
  hinj : ∀ x y c, env.cells.lookup x = some c → env.cells.lookup y = some c → x = y
  k : Nat
  room : A.depth + k < recursionLimit
  unit : A.units + 64 + 3 * k < cLine

abbrev Frm.L (f : Frm) : Addr := f.env.locals
abbrev Frm.M (f : Frm) : Model := model f.wd.prog f.wd.w
def Frm.W (f : Frm) : Addr → Prop := fun b => b = f.L ∨ b ∈ f.wc

structure Rel (f : Frm) (st : St) (s : Shared) : Prop where
  loc : ∃ m, s.heap.Ns f.env.locals m ∧ ∀ x v, st.loc.lookup x = some v → ∃ u, er u = v ∧
    ((f.env.kindOf x = some .local ∧ m x = some u) ∨ (f.env.kindOf x = some .cell ∧ ∃ c, f.env.cells.lookup x = some c ∧ s.heap.IsCell c (some u)))
  keep : ∀ b o, f.h₀.get? b = some o → s.heap.get? b = some o
  wcell : ∀ c ∈ f.wc, ∃ v, s.heap.IsCell c v
  own : ∀ p ∈ st.own, (∃ ws n, IsL s.heap p.1 ws n ∧ ws.toList.map er = p.2) ∧ f.h₀.get? p.1 = none
  nd : (st.own.map (·.1)).Nodup
  ro : ∀ p ∈ st.ro, (∃ ws, s.heap.IsList p.1 ws ∧ ws.toList.map er = p.2) ∧ p.1 ∉ st.own.map (·.1)
  gens : s.gens = f.s₀.gens
  os : (s.os, s.drawn) = (f.s₀.os, f.s₀.drawn)

structure Step (W : Addr → Prop) (st : St) (s : Shared) (st' : St) (s' : Shared) : Prop where
  fram : ∀ b o, s.heap.get? b = some o → ¬ W b → b ∉ st.own.map (·.1) → s'.heap.get? b = some o
  grow : ∀ b ∈ st'.own.map (·.1), b ∈ st.own.map (·.1) ∨ s.heap.get? b = none
  live : ∀ b, s'.heap.get? b = none → s.heap.get? b = none
  growR : ∀ b ∈ st'.ro.map (·.1), b ∈ st.ro.map (·.1) ∨ b ∈ st.own.map (·.1) ∨ s.heap.get? b = none

theorem Step.refl (W : Addr → Prop) (st : St) (s : Shared) : Step W st s st s :=
  ⟨fun _ _ e _ _ => e, fun _ h => .inl h, fun _ e => e, fun _ h => .inl h⟩

theorem Step.trans {W : Addr → Prop} {st st' st'' : St} {s s' s'' : Shared} (x : Step W st s st' s') (y : Step W st' s' st'' s'') : Step W st s st'' s'' where
  fram := fun b o e hw hb => y.fram b o (x.fram b o e hw hb) hw (fun hb' => by
    rcases x.grow b hb' with h | h
    · exact hb h
    · rw [h] at e; cases e)
  grow := fun b hb => by
    rcases y.grow b hb with h | h
    · exact x.grow b h
    · exact .inr (x.live b h)
  live := fun b e => x.live b (y.live b e)
  growR := fun b hb => by
    rcases y.growR b hb with h | h | h
    · exact x.growR b h
    · exact .inr (x.grow b h)
    · exact .inr (.inr (x.live b h))

theorem Step.mono {W W' : Addr → Prop} {st st' : St} {s s' : Shared} (x : Step W st s st' s') (h : ∀ b, W b → W' b) : Step W' st s st' s' :=
  ⟨fun b o e hw hb => x.fram b o e (fun hw' => hw (h b hw')) hb, x.grow, x.live, x.growR⟩

theorem Step.keeps {W : Addr → Prop} {st : St} {s s' : Shared} (hk : ∀ b o, s.heap.get? b = some o → s'.heap.get? b = some o) : Step W st s st s' :=
  ⟨fun b o e _ _ => hk b o e, fun _ h => .inl h, fun b e => by
    cases e' : s.heap.get? b with
    | none => rfl
    | some o => (rw [hk b o e'] at e; cases e), fun _ h => .inl h⟩

theorem Rel.keeps {f : Frm} {st : St} {s s' : Shared} (R : Rel f st s) (hk : ∀ b o, s.heap.get? b = some o → s'.heap.get? b = some o)
    (hg : s'.gens = s.gens := by rfl) (ho : (s'.os, s'.drawn) = (s.os, s.drawn) := by rfl) : Rel f st s' where
  loc := by
    obtain ⟨m, hn, h⟩ := R.loc
    refine ⟨m, hn.keeps hk, fun x v hx => ?_⟩
    obtain ⟨u, hu, h⟩ := h x v hx
    refine ⟨u, hu, ?_⟩
    rcases h with h | ⟨h1, c, h2, h3⟩
    · exact .inl h
    · exact .inr ⟨h1, c, h2, h3.keeps hk⟩
  keep := fun b o e => hk b o (R.keep b o e)
  wcell := fun c hc => let ⟨v, h⟩ := R.wcell c hc; ⟨v, h.keeps hk⟩
  own := fun p hp => let ⟨⟨ws, n, h1, h2⟩, h3⟩ := R.own p hp; ⟨⟨ws, n, hk _ _ h1, h2⟩, h3⟩
  nd := R.nd
  ro := fun p hp => let ⟨⟨ws, h1, h2⟩, h3⟩ := R.ro p hp; ⟨⟨ws, (let ⟨o, ho, r⟩ := h1; ⟨o, hk _ _ ho, r⟩), h2⟩, h3⟩
  gens := hg.trans R.gens
  os := ho.trans R.os

/-- what a tree does, on small states -/
def SW (f : Frm) (W : Addr → Prop) {α : Type} (t : Sem α) (st : St) (P : α → St → Prop) : Prop :=
  ∀ s, Rel f st s → 1 ≤ s.toks → wpAny f.M f.A t (fun v s' => ∃ st', Rel f st' s' ∧ Step W st s st' s' ∧ P v st') (fun _ _ => False) s

section
variable {f : Frm} {W : Addr → Prop} {α β : Type} {st : St}

theorem SW.mono {t : Sem α} {P Q : α → St → Prop} (h : SW f W t st P) (hq : ∀ v st', P v st' → Q v st') : SW f W t st Q :=
  fun s R ht => wpAny_mono (h s R ht) (fun v s' ⟨st', r, x, p⟩ => ⟨st', r, x, hq v st' p⟩) fun _ _ e => e

theorem SW.wide {W' : Addr → Prop} {t : Sem α} {P : α → St → Prop} (h : SW f W t st P) (hw : ∀ b, W b → W' b) : SW f W' t st P :=
  fun s R ht => wpAny_mono (h s R ht) (fun v s' ⟨st', r, x, p⟩ => ⟨st', r, x.mono hw, p⟩) fun _ _ e => e

theorem SW.pure {a : α} {P : α → St → Prop} (h : P a st) : SW f W (pure a) st P :=
  fun s R _ => wpAny_pure ⟨st, R, .refl .., h⟩

theorem SW.bind {t : Sem α} {k : α → Sem β} {P : β → St → Prop} (h : SW f W t st (fun v st' => SW f W (k v) st' P)) : SW f W (t >>= k) st P :=
  fun s R ht => wpAny_bind (wpAny_mono (wpAny_toks_of ht (h s R ht)) (fun v s' ⟨ht', st', r, x, p⟩ =>
    wpAny_mono (p s' r ht') (fun v' s'' ⟨st'', r', x', p'⟩ => ⟨st'', r', x.trans x', p'⟩) fun _ _ e => e) fun _ _ e => e.2)

theorem SW.holding {vs : List Value} {t : Sem α} {P : α → St → Prop} (h : SW f W t st P) : SW f W (holding vs t) st P :=
  fun s R ht => wpAny_holding (h s R ht)
theorem SW.standAt {pos : Pos} {P : Unit → St → Prop} (h : P () st) : SW f W (standAt pos) st P :=
  fun s R _ => wpAny_standAt ⟨st, R, .refl .., h⟩
theorem SW.operate {vs : List Value} {t : Sem Value} {P : Value → St → Prop} (h : SW f W t st P) : SW f W (operate vs t) st P :=
  fun s R ht => wpAny_operating (h s R ht)
/-- a tree that keeps all objects -/
theorem SW.prim {t : Sem α} {P : α → St → Prop}
    (h : ∀ s, Rel f st s → 1 ≤ s.toks → wpAny f.M f.A t (fun v s' => (∀ b o, s.heap.get? b = some o → s'.heap.get? b = some o) ∧ s'.gens = s.gens ∧ (s'.os, s'.drawn) = (s.os, s.drawn) ∧ P v st) (fun _ _ => False) s) :
    SW f W t st P :=
  fun s R ht => wpAny_mono (h s R ht) (fun _ _ ⟨hk, hg, ho, p⟩ => ⟨st, R.keeps hk hg ho, .keeps hk, p⟩) fun _ _ e => e
end

/-- weakening: fewer locals, fewer lists -/
structure Sub (st' st : St) : Prop where
  loc : ∀ x v, st'.loc.lookup x = some v → st.loc.lookup x = some v
  own : st'.own.Sublist st.own
  ro : ∀ p ∈ st'.ro, p ∈ st.ro ∨ (p ∈ st.own ∧ p.1 ∉ st'.own.map (·.1))

theorem Rel.weaken {f : Frm} {st st' : St} {s : Shared} (R : Rel f st s) (h : Sub st' st) : Rel f st' s where
  loc := let ⟨m, hn, hl⟩ := R.loc; ⟨m, hn, fun x v hx => hl x v (h.loc x v hx)⟩
  keep := R.keep
  wcell := R.wcell
  own := fun p hp => R.own p (h.own.subset hp)
  nd := List.Nodup.sublist (h.own.map (·.1)) R.nd
  ro := fun p hp => by
    rcases h.ro p hp with hp | ⟨hp, hn⟩
    · obtain ⟨h1, h2⟩ := R.ro p hp
      exact ⟨h1, fun hm => h2 ((h.own.map (·.1)).subset hm)⟩
    · obtain ⟨⟨ws, n, h1, h2⟩, _⟩ := R.own p hp
      exact ⟨⟨ws, h1.isList, h2⟩, hn⟩
  gens := R.gens
  os := R.os

theorem Step.weaken {W : Addr → Prop} {st st' : St} {s : Shared} (h : Sub st' st) : Step W st s st' s :=
  ⟨fun _ _ e _ _ => e, fun _ hb => .inl ((h.own.map (·.1)).subset hb), fun _ e => e, fun b hb => by
    obtain ⟨p, hp, rfl⟩ := List.mem_map.mp hb
    rcases h.ro p hp with h | ⟨h, _⟩
    · exact .inl (List.mem_map_of_mem h)
    · exact .inr (.inl (List.mem_map_of_mem h))⟩

theorem SW.weaken {f : Frm} {W : Addr → Prop} {α : Type} {st st' : St} {t : Sem α} {P : α → St → Prop} (h : Sub st' st) (hs : SW f W t st' P) : SW f W t st P :=
  fun s R ht => wpAny_mono (hs s (R.weaken h) ht) (fun v s' ⟨st2, r, x, p⟩ => ⟨st2, r, (Step.weaken h).trans x, p⟩) fun _ _ e => e

theorem SW.finish {f : Frm} {W : Addr → Prop} {α : Type} {st : St} {t : Sem α} {P : α → St → Prop} (h : SW f W t st (fun v st1 => ∃ st', Sub st' st1 ∧ P v st')) : SW f W t st P :=
  fun s R ht => wpAny_mono (h s R ht) (fun v s' ⟨st1, r, x, st', hs, p⟩ => ⟨st', r.weaken hs, x.trans (Step.weaken hs), p⟩) fun _ _ e => e

def NoW : Addr → Prop := fun _ => False

/-- an expression's value -/
def EV (f : Frm) (e : Expr) (st : St) (P : V → St → Prop) : Prop := SW f NoW (eval e f.env) st (fun v => P (er v))
/-- a test -/
def IT (f : Frm) (e : Expr) (st : St) (P : Bool → St → Prop) : Prop := SW f NoW (isTrue e f.env (eval e f.env)) st P

inductive Fl where
  | next | brk | cont
  | ret (v : V)
def erF : Flow → Fl
  | .next => .next
  | .brk => .brk
  | .cont => .cont
  | .ret v => .ret (er v)
def EX1 (f : Frm) (t : Stmt) (st : St) (P : Fl → St → Prop) : Prop := SW f f.W (exec t f.env) st (fun v => P (erF v))
def EX (f : Frm) (t : List Stmt) (st : St) (P : Fl → St → Prop) : Prop := SW f f.W (execs t f.env) st (fun v => P (erF v))

end Mine

end
section
open PySem PySem.W PyProof.Rows PySem.Calls
set_option Elab.async false
set_option linter.unusedVariables false
set_option maxRecDepth 100000
namespace Mine

def St.has (st : St) (a : Addr) (xs : List V) : Prop := (a, xs) ∈ st.own ∨ (a, xs) ∈ st.ro

theorem Rel.list {f : Frm} {st : St} {s : Shared} {a : Addr} {xs : List V} (R : Rel f st s) (h : st.has a xs) : ∃ ws, s.heap.IsList a ws ∧ ws.toList.map er = xs := by
  rcases h with h | h
  · obtain ⟨⟨ws, n, h1, h2⟩, _⟩ := R.own _ h; exact ⟨ws, h1.isList, h2⟩
  · obtain ⟨⟨ws, h1, h2⟩, _⟩ := R.ro _ h; exact ⟨ws, h1, h2⟩

section
variable {f : Frm} {W : Addr → Prop} {st : St} {P : V → St → Prop}

theorem SW.done {α : Type} {s s' : Shared} {v : α} {Q : α → St → Prop} (R : Rel f st s) (hk : ∀ b o, s.heap.get? b = some o → s'.heap.get? b = some o)
    (h : Q v st) (hg : s'.gens = s.gens := by rfl) (ho : (s'.os, s'.drawn) = (s.os, s.drawn) := by rfl) : ∃ st', Rel f st' s' ∧ Step W st s st' s' ∧ Q v st' :=
  ⟨st, R.keeps hk hg ho, .keeps hk, h⟩

theorem ev_name {x : Str} {pos : Pos} {v : V} (h : st.loc.lookup x = some v) (hP : P v st) (hd : (x == ("__debug__" : Str)) = false := by decide) : EV f (.Name x pos) st P := by
  intro s R ht
  obtain ⟨m, hn, hl⟩ := R.loc
  obtain ⟨u, rfl, hu⟩ := hl x v h
  refine wpAny_Name ?_ hd
  rcases hu with ⟨hk, hm⟩ | ⟨hk, c, hc, hcell⟩
  · exact wpAny_loadName_local f.kind hk hn hm (SW.done R (fun _ _ e => e) hP)
  · exact wpAny_loadName_cell f.kind hk hc hcell (SW.done R (fun _ _ e => e) hP)

theorem ev_int {i : Int} {k pos} (h : P (.int i) st) : EV f (.Constant (.int i) k pos) st P :=
  fun s R ht => wpAny_Constant_int (SW.done R (fun _ _ e => e) h)
theorem ev_str {x : Str} {k pos} (h : P (.str x.cps.toList) st) : EV f (.Constant (.str x) k pos) st P :=
  fun s R ht => wpAny_Constant_str (SW.done R (fun _ _ e => e) h)
theorem ev_bool {b : Bool} {k pos} (h : P (.bool b) st) : EV f (.Constant (.bool b) k pos) st P :=
  fun s R ht => wpAny_Constant_bool (SW.done R (fun _ _ e => e) h)

def BinP (op : Operator) (a b : V) (st : St) (P : V → St → Prop) : Prop :=
  match op, a, b with
  | .Add, .int a, .int b => P (.int (a + b)) st
  | .Add, .str a, .str b => a.length + b.length ≤ 16777216 ∧ P (.str (a ++ b)) st
  | .Add, .ref a, .ref b => ∃ xs ys, (a, xs) ∈ st.own ∧ (b, ys) ∈ st.own ∧ xs.length + ys.length ≤ 16777216 ∧ ∀ c, P (.ref c) { st with own := (c, xs ++ ys) :: st.own }
  | .Sub, .int a, .int b => P (.int (a - b)) st
  | .Mult, .int a, .int b => ((-(2 ^ 64) < a ∧ a < 2 ^ 64) ∨ (-(2 ^ 64) < b ∧ b < 2 ^ 64)) ∧ P (.int (a * b)) st
  | .Mult, .str x, .int n => 1 ≤ n ∧ n < 65536 ∧ x.length * n.toNat ≤ 16777216 ∧ P (.str (List.replicate n.toNat x).flatten) st
  | .Mult, .ref a, .int n => ∃ x, (a, [x]) ∈ st.own ∧ 0 ≤ n ∧ n ≤ 16777216 ∧ ∀ c, P (.ref c) { st with own := (c, List.replicate n.toNat x) :: st.own }
  | .Mod, .int a, .int b => b ≠ 0 ∧ P (.int (a.fmod b)) st
  | .FloorDiv, .int a, .int b => (b ≠ 0 ∧ b.natAbs < 1073741824) ∧ P (.int (a.fdiv b)) st
  | .Pow, .int a, .int n => (a = 2 ∧ 0 ≤ n ∧ n < 64) ∧ P (.int (2 ^ n.toNat)) st
  | _, _, _ => False

theorem foldl_append_toList {α : Type} (x : Array α) : ∀ (k : Nat) (acc : Array α), ((List.replicate k x).foldl (· ++ ·) acc).toList = acc.toList ++ (List.replicate k x.toList).flatten
  | 0, acc => by simp
  | k + 1, acc => by
    rw [List.replicate_succ, List.foldl_cons, foldl_append_toList x k, List.replicate_succ, List.flatten_cons]
    simp

/-- a new list of this frame's own -/
theorem SW.fresh {s s' : Shared} {ws : Array Value} {Q : Value → St → Prop} {xs : List V} (R : Rel f st s)
    (he : ws.toList.map er = xs) (h : ∀ c, Q (.ref c) { st with own := (c, xs) :: st.own })
    (hs : s' = { s with heap := s.heap.push { cls := .type "list", data := .seq ws } } := by rfl) :
    ∃ st', Rel f st' s' ∧ Step W st s st' s' ∧ Q (.ref s.heap.objs.size) st' := by
  subst hs
  have hk : ∀ b o, s.heap.get? b = some o → (s.heap.push { cls := .type "list", data := .seq ws }).get? b = some o := fun b o e => Heap.get?_push_of_some _ e
  have hnone : s.heap.get? s.heap.objs.size = none := by
    cases e : s.heap.get? s.heap.objs.size with
    | none => rfl
    | some o => exact absurd (Heap.lt_size e) (Nat.lt_irrefl _)
  have hn0 : f.h₀.get? s.heap.objs.size = none := by
    cases e : f.h₀.get? s.heap.objs.size with
    | none => rfl
    | some o => rw [R.keep _ _ e] at hnone; cases hnone
  have R' : Rel f st { s with heap := s.heap.push { cls := .type "list", data := .seq ws } } := R.keeps hk
  have hni : s.heap.objs.size ∉ st.own.map (·.1) := by
    intro hm
    obtain ⟨p, hp, he⟩ := List.mem_map.mp hm
    obtain ⟨⟨ws', n, h1, _⟩, _⟩ := R.own p hp
    have h1' : s.heap.get? p.1 = _ := h1
    rw [he, hnone] at h1'; cases h1'
  refine ⟨{ st with own := (s.heap.objs.size, xs) :: st.own }, ⟨R'.loc, R'.keep, R'.wcell, ?_, ?_, ?_, R'.gens, R'.os⟩, ?_, h _⟩
  · intro p hp
    rcases List.mem_cons.mp hp with rfl | hp
    · exact ⟨⟨ws, 0, IsL.new _ _, he⟩, hn0⟩
    · exact R'.own p hp
  · simp only [List.map_cons, List.nodup_cons]; exact ⟨hni, R.nd⟩
  · intro p hp
    obtain ⟨h1, h2⟩ := R'.ro p hp
    refine ⟨h1, ?_⟩
    simp only [List.map_cons, List.mem_cons, not_or]
    refine ⟨fun e => ?_, h2⟩
    obtain ⟨⟨ws', h3, _⟩, _⟩ := R.ro p hp
    obtain ⟨o, ho, _⟩ := h3
    rw [e, hnone] at ho; cases ho
  · refine ⟨fun b o e _ _ => hk b o e, fun b hb => ?_, (Step.keeps (W := W) (st := st) hk).live, fun b hb => .inl hb⟩
    simp only [List.map_cons, List.mem_cons] at hb
    rcases hb with rfl | hb
    · exact .inr hnone
    · exact .inl hb

theorem sw_bin {op : Operator} {a b : Value} {Q : V → St → Prop} (h : BinP op (er a) (er b) st Q) : SW f W (binaryOp op a b) st (fun v => Q (er v)) := by
  intro s R ht
  unfold BinP at h
  split at h
  · rename_i x y hx hy
    obtain ⟨t, rfl⟩ := er_int hx; obtain ⟨u, rfl⟩ := er_int hy
    exact wpAny_add_int (SW.done R (fun _ _ e => e) h)
  · rename_i x y hx hy
    obtain ⟨t, rfl⟩ := er_str hx; obtain ⟨u, rfl⟩ := er_str hy
    refine P.add_str ?_
    obtain ⟨h1, h2⟩ := h
    split
    · rename_i h0
      have h0' : x = [] := by simpa [Str.length] using h0
      subst h0'
      exact SW.done R (fun _ _ e => e) (by simpa [er] using h2)
    · split
      · rename_i h0
        have h0' : y = [] := by simpa [Str.length] using h0
        subst h0'
        exact SW.done R (fun _ _ e => e) (by simpa [er] using h2)
      · refine ⟨?_, SW.done R (fun _ _ e => e) ?_⟩
        · rw [Str.length_append, sizeLine_eq]; simpa [Str.length] using h1
        · simpa [er, Str.cps_append] using h2
  · rename_i x y hx hy
    cases er_ref hx; cases er_ref hy
    obtain ⟨xs, ys, h1, h2, h3, h4⟩ := h
    obtain ⟨⟨ws, n, w1, w2⟩, _⟩ := R.own _ h1
    obtain ⟨⟨ws', n', w1', w2'⟩, _⟩ := R.own _ h2
    have l1 : ws.size = xs.length := by have := congrArg List.length w2; simpa using this
    have l2 : ws'.size = ys.length := by have := congrArg List.length w2'; simpa using this
    refine P.add_list w1 w1' ?_ (by rw [sizeLine_eq]; omega)
    exact SW.fresh (Q := fun v => Q (er v)) (ws := ws ++ ws') R (by simp [w2, w2']) h4
  · rename_i x y hx hy
    obtain ⟨t, rfl⟩ := er_int hx; obtain ⟨u, rfl⟩ := er_int hy
    exact sub_int' (SW.done R (fun _ _ e => e) h)
  · rename_i x y hx hy
    obtain ⟨t, rfl⟩ := er_int hx; obtain ⟨u, rfl⟩ := er_int hy
    refine mul_int (SW.done R (fun _ _ e => e) h.2) ?_
    rcases h.1 with h | h
    · exact IntMulOk.of_left (intBits_le_64 h.1 h.2)
    · exact IntMulOk.of_right (intBits_le_64 h.1 h.2)
  · rename_i x n hx hy
    obtain ⟨t, rfl⟩ := er_str hx; obtain ⟨u, rfl⟩ := er_int hy
    obtain ⟨h1, h2, h3, h4⟩ := h
    refine P.mul_str ?_ ?_ ?_ ?_
    · simp; omega
    · intro _ hx0
      simp [Str.length] at hx0 ⊢
      have h5 : x.length * n.toNat ≤ 16777216 := h3
      have : (x.length : Int) ≤ 16777216 := by
        have : x.length * 1 ≤ x.length * n.toNat := Nat.mul_le_mul_left _ (by omega)
        omega
      have h6 : (16777216 : Int) ≤ 9223372036854775807 / n := by
        have : n * 16777216 ≤ 9223372036854775807 := by omega
        exact Int.le_ediv_of_mul_le (by omega) (by omega)
      omega
    · intro _ _
      have h5 : x.length * n.toNat ≤ 16777216 := h3
      unfold Builtin.Str.tooLong
      rw [sizeLine_eq]
      simp [Str.length]; exact h5
    · rw [if_neg (by omega)]
      split
      · rename_i h0
        refine SW.done R (fun _ _ e => e) ?_
        show Q (er _) st
        rcases Bool.or_eq_true_iff.mp h0 with h0 | h0
        · have : n = 1 := by simpa using h0
          subst this
          simpa [er] using h4
        · have : x = [] := by simpa [Str.length] using h0
          subst this
          simpa [er] using h4
      · refine ⟨?_, SW.done R (fun _ _ e => e) ?_⟩
        · show (Array.size _) ≤ _
          rw [← Array.length_toList, foldl_append_toList]
          rw [sizeLine_eq]
          have h5 : x.length * n.toNat ≤ 16777216 := h3
          simpa [Nat.mul_comm] using h5
        · show Q (er _) st
          simp only [er]
          rw [foldl_append_toList]
          simpa using h4
  · rename_i a n hx hy
    cases er_ref hx; obtain ⟨u, rfl⟩ := er_int hy
    obtain ⟨x, h1, h2, h3, h4⟩ := h
    obtain ⟨⟨ws, k, w1, w2⟩, _⟩ := R.own _ h1
    have l1 : ws.size = 1 := by have := congrArg List.length w2; simpa using this
    refine wpAny_binaryOp_repeat_ref (T := "list") (U := "int") (by decide) ⟨_, w1, rfl⟩ (fun s' => typeIs_int s' n u) noFill_list_mul F.fills_int_mul F.slot_int_rmul repeat_list F.slot_int_index.lookup
      (call_meets F.slot_int_rmul (typeIs_int s n u) F.entry_int_rmul (F.args_int_rmul_2 _ _) (int___rmul___int_list n u a ws k)
      ⟨w1, rfl, ⟨_, w1, rfl⟩, call_meets F.slot_list_mul ⟨_, w1, rfl⟩ F.entry_list_mul (F.args_list_mul_2 _ _)
        (AutoListH.list___mul___list_int_3 a ws k n u (by simp [Builtin.List.listFitsIndex]; omega) (by rw [l1]; omega) (by simp [Builtin.List.listTooLong, sizeLine_eq, l1]; omega))
        ⟨w1, ?_⟩⟩)
    refine SW.fresh (Q := fun v => Q (er v)) R ?_ h4
    rw [foldl_append_toList]
    have hne : ws.isEmpty = false := by simp [Array.isEmpty, l1]
    rw [hne]
    obtain ⟨z, hz⟩ : ∃ z, ws.toList = [z] := List.length_eq_one_iff.mp (by simpa using l1)
    rw [hz] at w2 ⊢
    simp at w2
    subst w2
    simp only [Bool.false_eq_true, if_false, List.nil_append]
    generalize n.toNat = q
    induction q with
    | zero => rfl
    | succ q ih => rw [List.replicate_succ, List.flatten_cons, List.map_append, ih, List.replicate_succ]; rfl
  · rename_i x y hx hy
    obtain ⟨t, rfl⟩ := er_int hx; obtain ⟨u, rfl⟩ := er_int hy
    exact mod_int' h.1 (SW.done R (fun _ _ e => e) h.2)
  · rename_i x y hx hy
    obtain ⟨t, rfl⟩ := er_int hx; obtain ⟨u, rfl⟩ := er_int hy
    exact floordiv_int h.1.1 (SW.done R (fun _ _ e => e) h.2) (.inl (PyProof.noPylong_small h.1.2))
  · rename_i x n hx hy
    obtain ⟨t, rfl⟩ := er_int hx; obtain ⟨u, rfl⟩ := er_int hy
    obtain ⟨⟨rfl, h1, h2⟩, h3⟩ := h
    refine pow_int h1 ?_ (SW.done R (fun _ _ e => e) h3)
    have : Builtin.Int.intBits 2 = 2 := by decide +kernel
    rw [this]; omega
  · exact h.elim

theorem ev_bin {l r : Expr} {op : Operator} {pos : Pos} (h : EV f l st (fun a st1 => EV f r st1 (fun b st2 => BinP op a b st2 P))) : EV f (.BinOp l op r pos) st P := by
  unfold EV
  rw [eval_BinOp]
  exact SW.bind (SW.mono h fun a st1 h1 => SW.bind (SW.holding (SW.mono h1 fun b st2 h2 => SW.bind (SW.standAt (SW.operate (sw_bin h2))))))
end
end Mine

end
section
open PySem PySem.W PyProof.Rows PySem.Calls
set_option Elab.async false
set_option linter.unusedVariables false
set_option maxRecDepth 100000
namespace Mine

theorem intsAre_of_er : ∀ {ws : List Value} {ns : List Int}, ws.map er = ns.map .int → IntsAre ws ns
  | [], [], _ => .nil
  | [], _ :: _, h => by simp at h
  | _ :: _, [], h => by simp at h
  | w :: ws, n :: ns, h => by
    simp only [List.map_cons, List.cons.injEq] at h
    obtain ⟨t, rfl⟩ := er_int h.1
    exact .cons n t (intsAre_of_er h.2)

theorem readsAll_of_strs {h : Heap} : ∀ {ws : List Value} {ns : List (List Nat)}, ws.map er = ns.map .str → ReadsAll h ws (ns.map fun n => PyData.str ⟨n.toArray⟩) []
  | [], [], _ => .nil
  | [], _ :: _, h => by simp at h
  | _ :: _, [], h => by simp at h
  | w :: ws, n :: ns, h => by
    simp only [List.map_cons, List.cons.injEq] at h
    obtain ⟨t, rfl⟩ := er_str h.1
    exact .cons (as := []) (bs := []) (.str _ _) (readsAll_of_strs h.2)

theorem canLayAll0_strs : ∀ ns : List (List Nat), (∀ n ∈ ns, ∀ c ∈ n, c < 1114112) → PyData.canLayAll0 (ns.map fun n => PyData.str ⟨n.toArray⟩) = true
  | [], _ => by simp [PyData.canLayAll0]
  | n :: ns, h => by
    simp only [List.map_cons, PyData.canLayAll0, Bool.and_eq_true]
    refine ⟨?_, canLayAll0_strs ns fun m hm => h m (List.mem_cons_of_mem _ hm)⟩
    simp only [PyData.canLay0, PyData.strOk]
    rw [Array.all_eq_true']
    intro c hc
    simpa using h n List.mem_cons_self c (by simpa using hc)
theorem depthAll_strs : ∀ ns : List (List Nat), PyData.depthAll (ns.map fun n => PyData.str ⟨n.toArray⟩) = 0
  | [] => by simp [PyData.depthAll]
  | n :: ns => by simp [PyData.depthAll, PyData.depth, depthAll_strs ns]
theorem shaped_strs (ns : List (List Nat)) (h : ∀ n ∈ ns, ∀ c ∈ n, c < 1114112) : SeqAt.shaped (.list (ns.map fun n => PyData.str ⟨n.toArray⟩)) = true := by
  simp [SeqAt.shaped, PyData.canLay0, PyData.depth, canLayAll0_strs ns h, depthAll_strs]

theorem eqvAll_strs : ∀ ns ms : List (List Nat), PyData.eqvAll (ns.map fun n => PyData.str ⟨n.toArray⟩) (ms.map fun n => PyData.str ⟨n.toArray⟩) = decide (ns = ms)
  | [], [] => by simp [PyData.eqvAll]
  | [], _ :: _ => by simp [PyData.eqvAll]
  | _ :: _, [] => by simp [PyData.eqvAll]
  | n :: ns, m :: ms => by
    simp only [List.map_cons, PyData.eqvAll, eqvAll_strs ns ms, PyData.eqv, List.cons.injEq]
    by_cases h : n = m
    · subst h; simp
    · have : ¬ ((⟨n.toArray⟩ : Str) = ⟨m.toArray⟩) := by intro e; apply h; simpa using e
      simp [h, this]

def CmpP (op : CmpOp) (a b : V) (st : St) (P : Bool → Prop) : Prop :=
  match op, a, b with
  | .Eq, .int a, .int b => P (decide (a = b))
  | .NotEq, .int a, .int b => P (decide (a ≠ b))
  | .Lt, .int a, .int b => P (decide (a < b))
  | .Gt, .int a, .int b => P (decide (b < a))
  | .GtE, .int a, .int b => P (decide (b ≤ a))
  | .LtE, .int a, .int b => P (decide (a ≤ b))
  | .Eq, .str a, .str b => P (decide (a = b))
  | .NotEq, .str a, .str b => P (decide (a ≠ b))
  | .Eq, .ref a, .ref b => (∃ ns ms : List Int, st.has a (ns.map .int) ∧ st.has b (ms.map .int) ∧ P (decide (ns = ms)))
  | .NotEq, .ref a, .ref b => (∃ ns ms : List Int, st.has a (ns.map .int) ∧ st.has b (ms.map .int) ∧ P (decide (ns ≠ ms))) ∨
      (∃ ns ms : List (List Nat), st.has a (ns.map .str) ∧ st.has b (ms.map .str) ∧ (∀ n ∈ ns, ∀ c ∈ n, c < 1114112) ∧ (∀ n ∈ ms, ∀ c ∈ n, c < 1114112) ∧ P (decide (ns ≠ ms)))
  | _, _, _ => False

section
variable {f : Frm} {W : Addr → Prop} {st : St} {P : V → St → Prop}

theorem sw_cmp {op : CmpOp} {a b : Value} {Q : Value → St → Prop} (h : CmpP op (er a) (er b) st (fun c => Q (.bool c) st)) : SW f W (compareOp op a b) st Q := by
  intro s R ht
  unfold CmpP at h
  split at h
  · rename_i x y hx hy
    obtain ⟨t, rfl⟩ := er_int hx; obtain ⟨u, rfl⟩ := er_int hy
    exact PyProof.Rows.eq_int (SW.done R (fun _ _ e => e) (by simpa [BEq.beq] using h))
  · rename_i x y hx hy
    obtain ⟨t, rfl⟩ := er_int hx; obtain ⟨u, rfl⟩ := er_int hy
    refine PyProof.Rows.ne_int (SW.done R (fun _ _ e => e) ?_)
    rw [show (x != y) = decide (x ≠ y) by by_cases e : x = y <;> simp [e]]; exact h
  · rename_i x y hx hy
    obtain ⟨t, rfl⟩ := er_int hx; obtain ⟨u, rfl⟩ := er_int hy
    exact PyProof.Rows.lt_int (SW.done R (fun _ _ e => e) h)
  · rename_i x y hx hy
    obtain ⟨t, rfl⟩ := er_int hx; obtain ⟨u, rfl⟩ := er_int hy
    exact PyProof.Rows.gt_int (SW.done R (fun _ _ e => e) h)
  · rename_i x y hx hy
    obtain ⟨t, rfl⟩ := er_int hx; obtain ⟨u, rfl⟩ := er_int hy
    exact ge_int (SW.done R (fun _ _ e => e) h)
  · rename_i x y hx hy
    obtain ⟨t, rfl⟩ := er_int hx; obtain ⟨u, rfl⟩ := er_int hy
    exact le_int (SW.done R (fun _ _ e => e) h)
  · rename_i x y hx hy
    obtain ⟨t, rfl⟩ := er_str hx; obtain ⟨u, rfl⟩ := er_str hy
    refine P.eq_str (SW.done R (fun _ _ e => e) ?_)
    rw [show ((⟨x.toArray⟩ : Str).cps.toList == (⟨y.toArray⟩ : Str).cps.toList) = decide (x = y) by by_cases e : x = y <;> simp [e]]; exact h
  · rename_i x y hx hy
    obtain ⟨t, rfl⟩ := er_str hx; obtain ⟨u, rfl⟩ := er_str hy
    refine P.ne_str (SW.done R (fun _ _ e => e) ?_)
    rw [show ((⟨x.toArray⟩ : Str).cps.toList != (⟨y.toArray⟩ : Str).cps.toList) = decide (x ≠ y) by by_cases e : x = y <;> simp [e]]; exact h
  · rename_i x y hx hy
    cases er_ref hx; cases er_ref hy
    have hu : f.A.units + 64 < cLine := Nat.lt_of_le_of_lt (Nat.le_add_right _ _) f.unit
    obtain ⟨ns, ms, h1, h2, h3⟩ := h
    obtain ⟨ws, w1, w2⟩ := R.list h1
    obtain ⟨ws', w1', w2'⟩ := R.list h2
    exact ke_eq_ints (xs := ws.toList) (ys := ws'.toList) (by simpa using w1) (by simpa using w1') (intsAre_of_er w2) (intsAre_of_er w2') hu (SW.done R (fun _ _ e => e) h3)
  · rename_i x y hx hy
    cases er_ref hx; cases er_ref hy
    have hu : f.A.units + 64 < cLine := Nat.lt_of_le_of_lt (Nat.le_add_right _ _) f.unit
    rcases h with ⟨ns, ms, h1, h2, h3⟩ | ⟨ns, ms, h1, h2, hv, hv', h3⟩
    · obtain ⟨ws, w1, w2⟩ := R.list h1
      obtain ⟨ws', w1', w2'⟩ := R.list h2
      refine ke_ne_ints (xs := ws.toList) (ys := ws'.toList) (by simpa using w1) (by simpa using w1') (intsAre_of_er w2) (intsAre_of_er w2') hu (SW.done R (fun _ _ e => e) ?_)
      rw [show (!decide (ns = ms)) = decide (ns ≠ ms) by by_cases e : ns = ms <;> simp [e]]; exact h3
    · obtain ⟨ws, w1, w2⟩ := R.list h1
      obtain ⟨ws', w1', w2'⟩ := R.list h2
      obtain ⟨o, ho, hc, n, hd⟩ := w1
      obtain ⟨o', ho', hc', n', hd'⟩ := w1'
      refine SeqAt.compareNe_shaped (.list (vs := ws) ho hc hd (by simpa using readsAll_of_strs w2)) (.list (vs := ws') ho' hc' hd' (by simpa using readsAll_of_strs w2')) (shaped_strs ns hv) (shaped_strs ms hv') hu (SW.done R (fun _ _ e => e) ?_)
      rw [show (!PyData.eqv (.list (ns.map fun n => PyData.str ⟨n.toArray⟩)) (.list (ms.map fun n => PyData.str ⟨n.toArray⟩))) = decide (ns ≠ ms) by
        simp only [PyData.eqv, eqvAll_strs]; by_cases e : ns = ms <;> simp [e]]
      exact h3
  · exact h.elim

theorem ev_cmp {l r : Expr} {op : CmpOp} {pos : Pos} (h : EV f l st (fun a st1 => EV f r st1 (fun b st2 => CmpP op a b st2 (fun c => P (.bool c) st2))))
    (hm : behindInMarks op r = false := by with_unfolding_all rfl) : EV f (.Compare l [op] [r] pos) st P := by
  unfold EV
  rw [eval_Compare1, markedBehindIn_of_false hm]
  exact SW.bind (SW.mono h fun a st1 h1 => SW.bind (SW.holding (SW.mono h1 fun b st2 h2 => SW.bind (SW.standAt (SW.operate (sw_cmp (Q := fun v => P (er v)) h2))))))

theorem it_cmp {l r : Expr} {op : CmpOp} {pos : Pos} {Q : Bool → St → Prop} (h : EV f l st (fun a st1 => EV f r st1 (fun b st2 => CmpP op a b st2 (fun c => Q c st2))))
    (hm : behindInMarks op r = false := by with_unfolding_all rfl) : IT f (.Compare l [op] [r] pos) st Q := by
  unfold IT
  rw [isTrue_Compare1, markedBehindIn_of_false hm]
  refine SW.bind (SW.mono h fun a st1 h1 => SW.bind (SW.holding (SW.mono h1 fun b st2 h2 => SW.bind (SW.standAt (SW.bind (SW.operate (sw_cmp (Q := fun v st' => SW f NoW (holding [v] (truthy v)) st' Q) ?_)))))))
  revert h2
  generalize er a = a
  generalize er b = b
  have key : ∀ c, Q c st2 → SW f NoW (holding [.bool c] (truthy (.bool c))) st2 Q := fun c hc => SW.holding fun s R ht => wpAny_truthy_bool (SW.done R (fun _ _ e => e) hc)
  unfold CmpP
  intro h2
  split at h2
  all_goals first
    | exact key _ h2
    | exact h2.elim
    | (obtain ⟨ns, ms, h1, h2, h3⟩ := h2; exact ⟨ns, ms, h1, h2, key _ h3⟩)
    | (rcases h2 with ⟨ns, ms, h1, h2, h3⟩ | ⟨ns, ms, h1, h2, hv, hv', h3⟩
       · exact .inl ⟨ns, ms, h1, h2, key _ h3⟩
       · exact .inr ⟨ns, ms, h1, h2, hv, hv', key _ h3⟩)
end
end Mine

end
section
open PySem PySem.W PyProof.Rows PySem.Calls
set_option Elab.async false
set_option linter.unusedVariables false
set_option maxRecDepth 100000
namespace Mine

def pysl {α : Type} (x : List α) (l u : Option Int) : List α := (x.drop (l.elim 0 (clipAt x.length))).take (u.elim x.length (clipAt x.length) - l.elim 0 (clipAt x.length))

theorem picked_eq (l u : Option (Int × Tok)) (n : Nat) : Builtin.Str.strSliceIndices (l.map (·.1)) (u.map (·.1)) 1 n =
    (List.range ((u.map (·.1)).elim n (clipAt n) - (l.map (·.1)).elim 0 (clipAt n))).map ((l.map (·.1)).elim 0 (clipAt n) + ·) := by
  rw [← sliceRange_one]
  unfold Builtin.Str.strSliceIndices
  cases l <;> cases u <;> simp [clipAt_cast]

theorem clipAt_le (n : Nat) (i : Int) : clipAt n i ≤ n := by unfold clipAt; omega

theorem sliceMade_post {x : List Nat} {t : Tok} {l u : Option (Int × Tok)} {Q : Value → Shared → Prop} {s : Shared} (hx : x.length ≤ 16777216)
    (h : ∀ t' k, Q (.str ⟨(pysl x (l.map (·.1)) (u.map (·.1))).toArray⟩ t') { s with toks := k }) : (sliceMade ⟨x.toArray⟩ t l u none).post Q s := by
  unfold sliceMade slicePicked
  have hn : (⟨x.toArray⟩ : Str).length = x.length := by simp [Str.length]
  have e : ((none : Option (Int × Tok)).map (·.1)).getD 1 = 1 := rfl
  rw [e, hn, picked_eq]
  split
  · rename_i hc
    simp only [List.length_map, List.length_range, Bool.and_eq_true, beq_iff_eq] at hc
    have h2 := hc.2
    have hle : (u.map (·.1)).elim x.length (clipAt x.length) ≤ x.length := by
      cases u with
      | none => exact Nat.le_refl _
      | some p => exact clipAt_le _ _
    have : pysl x (l.map (·.1)) (u.map (·.1)) = x := by
      unfold pysl
      generalize (u.map (·.1)).elim x.length (clipAt x.length) = b at *
      generalize (l.map (·.1)).elim 0 (clipAt x.length) = a at *
      by_cases hz : x.length = 0
      · have : x = [] := List.length_eq_zero_iff.mp hz
        subst this; simp
      · have ha : a = 0 := by omega
        have hb : b = x.length := by omega
        subst ha; subst hb; simp
    have h' := h t s.toks
    rw [this] at h'
    exact h'
  · refine ⟨?_, ?_⟩
    · show Array.size _ ≤ _
      rw [List.size_toArray, pick_run, sizeLine_eq]
      simp only [List.length_take, List.length_drop]
      omega
    · rw [pick_run]
      exact h _ _

section
variable {f : Frm} {W : Addr → Prop} {st : St} {P : V → St → Prop}

def AT (f : Frm) (op : BoolOp) (xs : List Expr) (st : St) (Q : Bool → St → Prop) : Prop := SW f NoW (allTrue op xs f.env) st Q

theorem it_bool {op : BoolOp} {xs : List Expr} {pos : Pos} {Q : Bool → St → Prop} (h : AT f op xs st Q) : IT f (.BoolOp op xs pos) st Q := by
  unfold IT; rw [arm_isTrue_BoolOp]; exact h
theorem at_and_nil {Q : Bool → St → Prop} (h : Q true st) : AT f .And [] st Q := SW.pure h
theorem at_or_nil {Q : Bool → St → Prop} (h : Q false st) : AT f .Or [] st Q := SW.pure h
theorem at_and_cons {x : Expr} {rest : List Expr} {Q : Bool → St → Prop} (h : IT f x st (fun b st1 => (b = true → AT f .And rest st1 Q) ∧ (b = false → Q false st1))) : AT f .And (x :: rest) st Q := by
  show SW f NoW (do match BoolOp.And, ← isTrue x f.env (eval x f.env) with | .And, false => pure false | .Or, true => pure true | _, _ => allTrue .And rest f.env) st Q
  refine SW.bind (SW.mono h fun b st1 hb => ?_)
  cases b
  · exact SW.pure (hb.2 rfl)
  · exact hb.1 rfl
theorem at_or_cons {x : Expr} {rest : List Expr} {Q : Bool → St → Prop} (h : IT f x st (fun b st1 => (b = true → Q true st1) ∧ (b = false → AT f .Or rest st1 Q))) : AT f .Or (x :: rest) st Q := by
  show SW f NoW (do match BoolOp.Or, ← isTrue x f.env (eval x f.env) with | .And, false => pure false | .Or, true => pure true | _, _ => allTrue .Or rest f.env) st Q
  refine SW.bind (SW.mono h fun b st1 hb => ?_)
  cases b
  · exact hb.2 rfl
  · exact SW.pure (hb.1 rfl)

theorem it_list {x : Str} {pos : Pos} {Q : Bool → St → Prop} (h : EV f (.Name x pos) st (fun v st1 => ∃ a xs, v = .ref a ∧ st1.has a xs ∧ xs.length ≤ 16777216 ∧ Q (decide (xs ≠ [])) st1)) : IT f (.Name x pos) st Q := by
  show SW f NoW (do let v ← eval (.Name x pos) f.env; standAt _; holding [v] (truthy v)) st Q
  refine SW.bind (SW.mono h fun v st1 hv => SW.bind (SW.standAt (SW.holding ?_)))
  obtain ⟨a, xs, hv, ha, hl, hq⟩ := hv
  cases er_ref hv
  intro s R ht
  obtain ⟨ws, w1, w2⟩ := R.list ha
  have hlen : ws.size = xs.length := by have := congrArg List.length w2; simpa using this
  refine wpAny_truthy_list w1 (by omega) (SW.done R (fun _ _ e => e) ?_)
  rw [show (!ws.isEmpty) = decide (xs ≠ []) by
    unfold Array.isEmpty
    rw [hlen]
    cases xs <;> simp]
  exact hq

theorem ev_ifexp {t b o : Expr} {pos : Pos} (h : IT f t st (fun c st1 => (c = true → EV f b st1 P) ∧ (c = false → EV f o st1 P))) : EV f (.IfExp t b o pos) st P := by
  unfold EV; rw [arm_eval_IfExp]
  refine SW.bind (SW.mono h fun c st1 hc => ?_)
  cases c
  · exact hc.2 rfl
  · exact hc.1 rfl

theorem ev_and2 {x y : Expr} {pos : Pos} (h : EV f x st (fun v st1 => ∃ b, v = .bool b ∧ (b = true → EV f y st1 P) ∧ (b = false → P (.bool false) st1))) : EV f (.BoolOp .And [x, y] pos) st P := by
  show SW f NoW (do
    let v ← eval x f.env
    standAt pos
    let t ← holding [v] (truthy v)
    match BoolOp.And, t with
    | .And, false | .Or, true => pure v
    | _, _ => boolOp pos .And [eval y f.env]) st _
  refine SW.bind (SW.mono h fun v st1 hv => SW.bind (SW.standAt (SW.bind (SW.holding ?_))))
  obtain ⟨b, hv, h1, h2⟩ := hv
  cases er_bool hv
  intro s R ht
  refine wpAny_truthy_bool ⟨st1, R, .refl .., ?_⟩
  cases b
  · exact SW.pure (h2 rfl)
  · exact h1 rfl

theorem sw_letgo {base : Expr} {o r : Value} {Q : Unit → St → Prop} (h : Q () st) : SW f W (letTemporaryGo base o r) st Q :=
  fun s R ht => wpAny_letTemporaryGo ⟨st, R, .refl .., h⟩

def SubP (o i : V) (st : St) (P : V → Prop) : Prop :=
  match o, i with
  | .str x, .int k => ∃ c, (0 ≤ k ∧ k < 1000000000) ∧ x[k.toNat]? = some c ∧ P (.str [c])
  | .ref a, .int k => ∃ xs v, st.has a xs ∧ ((0 ≤ k ∧ k < 1000000000 ∧ xs[k.toNat]? = some v) ∨ (k < 0 ∧ -(xs.length : Int) ≤ k ∧ -1000000000 ≤ k ∧ xs[(k + xs.length).toNat]? = some v)) ∧ P v
  | _, _ => False

theorem sw_item {o i : Value} {Q : Value → St → Prop} (h : SubP (er o) (er i) st (fun v => ∀ u, er u = v → Q u st)) : SW f W (getItem o i) st Q := by
  intro s R ht
  unfold SubP at h
  split at h
  · rename_i x k hx hk
    obtain ⟨t, rfl⟩ := er_str hx; obtain ⟨u, rfl⟩ := er_int hk
    obtain ⟨c, ⟨h1, h2⟩, h3, h4⟩ := h
    refine P.getItem_str (c := c) (by simp; omega) ?_ (SW.done R (fun _ _ e => e) (h4 _ (by simp [er])))
    have hlt : k.toNat < x.length := (List.getElem?_eq_some_iff.mp h3).1
    rw [seqIndex_of h1 (by simp [Str.length]; omega)]
    simpa using h3
  · rename_i a k hx hk
    cases er_ref hx; obtain ⟨u, rfl⟩ := er_int hk
    obtain ⟨xs, v, h1, h2, h3⟩ := h
    obtain ⟨ws, w1, w2⟩ := R.list h1
    have hlen : ws.size = xs.length := by have := congrArg List.length w2; simpa using this
    subst w2
    rcases h2 with ⟨h2, h4, h5⟩ | ⟨h2, h4, h5, h6⟩
    · rw [List.getElem?_map] at h5
      obtain ⟨x, hx, rfl⟩ := Option.map_eq_some_iff.mp h5
      exact wpAny_getItem_list w1 h2 (by omega) (by simpa using hx) (SW.done R (fun _ _ e => e) (h3 x rfl))
    · rw [List.getElem?_map] at h6
      obtain ⟨x, hx, rfl⟩ := Option.map_eq_some_iff.mp h6
      refine wpAny_getItem_list_neg w1 h2 (by omega) (by omega) ?_ (SW.done R (fun _ _ e => e) (h3 x rfl))
      rw [hlen]; simpa using hx
  · exact h.elim

theorem sw_inPython {o : Value} {Q : Bool → St → Prop} (h : Q false st) (ho : (∃ x, er o = .str x) ∨ ∃ a xs, er o = .ref a ∧ st.has a xs) : SW f W (getitemInPython o) st Q := by
  intro s R ht
  rcases ho with ⟨x, hx⟩ | ⟨a, xs, hx, ha⟩
  · obtain ⟨t, rfl⟩ := er_str hx
    rw [getitemInPython_of_ne (by simp)]
    exact wpAny_bind (wpAny_specialOf (name := Str.ofString "__getitem__") (typeIs_str s _ t) F.slot_str_getitem.lookup (wpAny_pure ⟨st, R, .refl .., h⟩))
  · cases er_ref hx
    obtain ⟨ws, w1, w2⟩ := R.list ha
    rw [getitemInPython_of_ne (by simp)]
    exact wpAny_bind (wpAny_specialOf (name := Str.ofString "__getitem__") w1.typeIs slot_list_getitem.lookup (wpAny_pure ⟨st, R, .refl .., h⟩))

theorem SubP.has {o i : V} {P : V → Prop} (h : SubP o i st P) : (∃ x, o = .str x) ∨ ∃ a xs, o = .ref a ∧ st.has a xs := by
  unfold SubP at h
  split at h
  · exact .inl ⟨_, rfl⟩
  · obtain ⟨xs, v, h1, _⟩ := h; exact .inr ⟨_, xs, rfl, h1⟩
  · exact h.elim

/-- an item at an index -/
theorem ev_sub {value slice : Expr} {pos : Pos} (h : EV f value st (fun o st1 => EV f slice st1 (fun i st2 => SubP o i st2 (fun v => P v st2))))
    (hs : ∀ o i, subscripted slice false o i = operate [o, i] (getItem o i) := by intro _ _; rfl) : EV f (.Subscript value slice pos) st P := by
  unfold EV; rw [eval_Subscript]
  refine SW.bind (SW.mono h fun o st1 h1 => SW.bind (SW.holding (SW.mono h1 fun i st2 h2 => SW.bind (SW.standAt (SW.bind (sw_inPython ?_ h2.has))))))
  rw [hs]
  refine SW.bind (SW.operate (sw_item ?_))
  have mono : ∀ (Q1 Q2 : V → Prop), (∀ v, Q1 v → Q2 v) → SubP (er o) (er i) st2 Q1 → SubP (er o) (er i) st2 Q2 := by
    intro Q1 Q2 hq hh
    unfold SubP at hh ⊢
    split at hh
    · obtain ⟨c, a, b, d⟩ := hh; exact ⟨c, a, b, hq _ d⟩
    · obtain ⟨xs, v, a, b, d⟩ := hh; exact ⟨xs, v, a, b, hq _ d⟩
    · exact hh.elim
  refine mono _ _ (fun v hv u hu => ?_) h2
  subst hu
  exact SW.bind (sw_letgo (SW.pure hv))

def OP (f : Frm) (e : Option Expr) (st : St) (P : Option Int → St → Prop) : Prop :=
  match e with
  | none => P none st
  | some e => EV f e st (fun v st1 => ∃ i, v = .int i ∧ P (some i) st1)

theorem sw_part {e : Option Expr} {Q : Value → St → Prop} (h : OP f e st (fun k st1 => ∀ v, IsPart v k → Q v st1)) : SW f NoW (evalPart e f.env) st Q := by
  cases e with
  | none => rw [evalPart_none]; exact SW.pure (h _ .none)
  | some e =>
    rw [evalPart_some]
    refine SW.mono h fun v st1 hv => ?_
    obtain ⟨i, hi, hq⟩ := hv
    obtain ⟨t, rfl⟩ := er_int hi
    exact hq _ (.int i t)

theorem isPart_value {v : Value} {k : Option Int} (h : IsPart v k) : ∃ p : Option (Int × Tok), v = partValue p ∧ p.map (·.1) = k := by
  cases h with
  | none => exact ⟨none, rfl, rfl⟩
  | int i t => exact ⟨some (i, t), rfl, rfl⟩

/-- what stands behind a slice's evaluation -/
theorem wpAny_sliced {value : Expr} {lower upper step : Option Expr} {p pos : Pos} {o : Value} {s : Shared} {Q : Value → Shared → Prop} {E : Value → Shared → Prop}
    (h : wpAny f.M f.A (evalPart lower f.env) (fun l s₁ => wpAny f.M f.A (evalPart upper f.env) (fun u s₂ => wpAny f.M f.A (evalPart step f.env) (fun st s₃ =>
      (∃ T id, ({ s₃ with heap := s₃.heap.push { cls := .type "slice", data := .fields #[l, u, st] } } : Shared).TypeIs o T ∧ typeLookup (.type T) "__getitem__" = pure (some (.builtin id))) ∧
      wpAny f.M f.A (getItem o (.ref s₃.heap.objs.size)) Q E { s₃ with heap := s₃.heap.push { cls := .type "slice", data := .fields #[l, u, st] } }) E s₂) E s₁) E s) :
    wpAny f.M f.A (do
      let i ← holding [o] (eval (.Slice lower upper step p) f.env)
      standAt pos
      let r ← subscripted (.Slice lower upper step p) (← getitemInPython o) o i
      letTemporaryGo value o r
      pure r) Q E s := by
  refine wpAny_bind (wpAny_holding (wpAny_Slice (wpAny_mono h (fun l s₁ h₁ => wpAny_mono h₁ (fun u s₂ h₂ => wpAny_mono h₂ (fun st s₃ h₃ => ?_) fun _ _ e => e) fun _ _ e => e) fun _ _ e => e)))
  obtain ⟨⟨T, id, hT, hl⟩, h₃⟩ := h₃
  refine wpAny_bind (wpAny_standAt (wpAny_bind ?_))
  rw [getitemInPython_of_ne hT.not_modules]
  refine wpAny_bind (wpAny_specialOf hT hl (wpAny_pure ?_))
  have fin : ∀ vs, wpAny f.M f.A (operate vs (getItem o (.ref s₃.heap.objs.size))) (fun r s₄ => wpAny f.M f.A (letTemporaryGo value o r >>= fun _ => pure r) Q E s₄) E
      { s₃ with heap := s₃.heap.push { cls := .type "slice", data := .fields #[l, u, st] } } :=
    fun vs => wpAny_operating (wpAny_mono h₃ (fun r s₄ h₄ => wpAny_bind (wpAny_letTemporaryGo (wpAny_pure h₄))) fun _ _ x => x)
  refine wpAny_bind ?_
  cases step with
  | none => exact fin _
  | some e => exact fin _

/-- a slice of a text -/
theorem ev_slice_str {value : Expr} {lower upper : Option Expr} {p pos : Pos}
    (h : EV f value st (fun o st1 => ∃ x, o = .str x ∧ x.length ≤ 16777216 ∧ OP f lower st1 (fun l st2 => OP f upper st2 (fun u st3 => P (.str (pysl x l u)) st3)))) :
    EV f (.Subscript value (.Slice lower upper none p) pos) st P := by
  intro s R ht
  rw [eval_Subscript]
  refine wpAny_bind (wpAny_mono (wpAny_toks_of ht (h s R ht)) (fun o s1 ⟨ht1, st1, R1, S1, x, hx, hlen, h1⟩ => ?_) (fun _ _ e => e.2))
  obtain ⟨t, rfl⟩ := er_str hx
  refine wpAny_sliced ?_
  have k1 : SW f NoW (evalPart lower f.env) st1 (fun vl st2 => ∃ l, IsPart vl l ∧ OP f upper st2 (fun u st3 => P (.str (pysl x l u)) st3)) := by
    refine sw_part ?_
    cases lower with
    | none => exact fun v hv => ⟨_, hv, h1⟩
    | some e => exact SW.mono h1 fun v st' ⟨i, hi, hq⟩ => ⟨i, hi, fun v hv => ⟨_, hv, hq⟩⟩
  refine wpAny_mono (wpAny_toks_of ht1 (k1 s1 R1 ht1)) (fun vl s2 ⟨ht2, st2, R2, S2, l, hl, h2⟩ => ?_) (fun _ _ e => e.2)
  have k2 : SW f NoW (evalPart upper f.env) st2 (fun vu st3 => ∃ u, IsPart vu u ∧ P (.str (pysl x l u)) st3) := by
    refine sw_part ?_
    cases upper with
    | none => exact fun v hv => ⟨_, hv, h2⟩
    | some e => exact SW.mono h2 fun v st' ⟨i, hi, hq⟩ => ⟨i, hi, fun v hv => ⟨_, hv, hq⟩⟩
  refine wpAny_mono (wpAny_toks_of ht2 (k2 s2 R2 ht2)) (fun vu s3 ⟨ht3, st3, R3, S3, u, hu, h3⟩ => ?_) (fun _ _ e => e.2)
  rw [evalPart_none]
  refine wpAny_pure ⟨⟨"str", _, typeIs_str _ _ t, F.slot_str_getitem.lookup⟩, ?_⟩
  obtain ⟨pl, rfl, rfl⟩ := isPart_value hl
  obtain ⟨pu, rfl, rfl⟩ := isPart_value hu
  refine wpAny_getItem_str_slice (l := pl) (u := pu) (st := none) ⟨_, Heap.get?_push_size _ rfl, rfl, rfl⟩ rfl (sliceMade_post hlen fun t' k => ?_)
  refine ⟨st3, R3.keeps (fun b ob e => Heap.get?_push_of_some _ e), S1.trans (S2.trans (S3.trans (.keeps fun b ob e => Heap.get?_push_of_some _ e))), ?_⟩
  simpa [er] using h3

/-- a slice of a list, by ones -/
theorem ev_slice_list {value : Expr} {lower upper : Option Expr} {p pos : Pos}
    (h : EV f value st (fun o st1 => OP f lower st1 (fun l st2 => OP f upper st2 (fun u st3 => ∃ a xs, o = .ref a ∧ st3.has a xs ∧ xs.length ≤ 16777216 ∧ ∀ c, P (.ref c) { st3 with own := (c, pysl xs l u) :: st3.own })))) :
    EV f (.Subscript value (.Slice lower upper none p) pos) st P := by
  intro s R ht
  rw [eval_Subscript]
  refine wpAny_bind (wpAny_mono (wpAny_toks_of ht (h s R ht)) (fun o s1 ⟨ht1, st1, R1, S1, h1⟩ => ?_) (fun _ _ e => e.2))
  refine wpAny_sliced ?_
  have k1 : SW f NoW (evalPart lower f.env) st1 (fun vl st2 => ∃ l, IsPart vl l ∧ OP f upper st2 (fun u st3 => ∃ a xs, er o = .ref a ∧ st3.has a xs ∧ xs.length ≤ 16777216 ∧ ∀ c, P (.ref c) { st3 with own := (c, pysl xs l u) :: st3.own })) := by
    refine sw_part ?_
    cases lower with
    | none => exact fun v hv => ⟨_, hv, h1⟩
    | some e => exact SW.mono h1 fun v st' ⟨i, hi, hq⟩ => ⟨i, hi, fun v hv => ⟨_, hv, hq⟩⟩
  refine wpAny_mono (wpAny_toks_of ht1 (k1 s1 R1 ht1)) (fun vl s2 ⟨ht2, st2, R2, S2, l, hl, h2⟩ => ?_) (fun _ _ e => e.2)
  have k2 : SW f NoW (evalPart upper f.env) st2 (fun vu st3 => ∃ u, IsPart vu u ∧ ∃ a xs, er o = .ref a ∧ st3.has a xs ∧ xs.length ≤ 16777216 ∧ ∀ c, P (.ref c) { st3 with own := (c, pysl xs l u) :: st3.own }) := by
    refine sw_part ?_
    cases upper with
    | none => exact fun v hv => ⟨_, hv, h2⟩
    | some e => exact SW.mono h2 fun v st' ⟨i, hi, hq⟩ => ⟨i, hi, fun v hv => ⟨_, hv, hq⟩⟩
  refine wpAny_mono (wpAny_toks_of ht2 (k2 s2 R2 ht2)) (fun vu s3 ⟨ht3, st3, R3, S3, u, hu, a, xs, ho, ha, hlen, h3⟩ => ?_) (fun _ _ e => e.2)
  cases er_ref ho
  obtain ⟨ws, w1, w2⟩ := R3.list ha
  have hwl : ws.size = xs.length := by have := congrArg List.length w2; simpa using this
  rw [evalPart_none]
  refine wpAny_pure ⟨⟨"list", _, (w1.push _).typeIs, list_getitem_lookup⟩, ?_⟩
  refine wpAny_getItem_list_slice (w1.push _) (Heap.IsSliceOf.new ..) hl hu .none (by simp) ?_ (by rw [sizeLine_eq]; omega)
  have R4 : Rel f st3 { s3 with heap := s3.heap.push { cls := .type "slice", data := .fields #[vl, vu, .none] } } := R3.keeps (fun b ob e => Heap.get?_push_of_some _ e)
  have e4 : (slicePick ws l u none).toList.map er = pysl xs l u := by
    rw [slicePick_plain]
    subst w2
    simp only [pysl, List.length_map, hwl]
    simp [List.map_take, List.map_drop]
  obtain ⟨st4, R5, S5, h5⟩ := SW.fresh (W := NoW) (Q := fun v => P (er v)) R4 e4 h3 rfl
  exact ⟨st4, R5, S1.trans (S2.trans (S3.trans ((Step.keeps fun b ob e => Heap.get?_push_of_some _ e).trans S5))), h5⟩

def pystep {α : Type} (xs : List α) (lo hi st : Option Int) : List α :=
  (sliceRange (sliceBounds lo hi st xs.length).1 (sliceBounds lo hi st xs.length).2.1 (sliceBounds lo hi st xs.length).2.2).filterMap (xs[·]?)

theorem slicePick_er (ws : Array Value) (lo hi st : Option Int) : (slicePick ws lo hi st).toList.map er = pystep (ws.toList.map er) lo hi st := by
  unfold slicePick pystep
  rw [List.length_map, Array.length_toList]
  generalize sliceRange _ _ _ = l
  simp only [List.map_filterMap]
  congr 1
  funext i
  simp

/-- a slice of a list with a step -/
theorem ev_slice_step {value : Expr} {lower upper step : Option Expr} {p pos : Pos}
    (h : EV f value st (fun o st1 => OP f lower st1 (fun l st2 => OP f upper st2 (fun u st3 => OP f step st3 (fun k st4 =>
      ∃ a xs, o = .ref a ∧ st4.has a xs ∧ xs.length ≤ 16777216 ∧ k ≠ some 0 ∧ ∀ c, P (.ref c) { st4 with own := (c, pystep xs l u k) :: st4.own }))))) :
    EV f (.Subscript value (.Slice lower upper step p) pos) st P := by
  have part : ∀ (e : Option Expr) (st1 : St) (Q : Option Int → St → Prop), OP f e st1 Q → SW f NoW (evalPart e f.env) st1 (fun v st2 => ∃ l, IsPart v l ∧ Q l st2) := by
    intro e st1 Q h1
    refine sw_part ?_
    cases e with
    | none => exact fun v hv => ⟨_, hv, h1⟩
    | some e => exact SW.mono h1 fun v st' ⟨i, hi, hq⟩ => ⟨i, hi, fun v hv => ⟨_, hv, hq⟩⟩
  intro s R ht
  rw [eval_Subscript]
  refine wpAny_bind (wpAny_mono (wpAny_toks_of ht (h s R ht)) (fun o s1 ⟨ht1, st1, R1, S1, h1⟩ => ?_) (fun _ _ e => e.2))
  refine wpAny_sliced ?_
  refine wpAny_mono (wpAny_toks_of ht1 (part _ _ _ h1 s1 R1 ht1)) (fun vl s2 ⟨ht2, st2, R2, S2, l, hl, h2⟩ => ?_) (fun _ _ e => e.2)
  refine wpAny_mono (wpAny_toks_of ht2 (part _ _ _ h2 s2 R2 ht2)) (fun vu s3 ⟨ht3, st3, R3, S3, u, hu, h3⟩ => ?_) (fun _ _ e => e.2)
  refine wpAny_mono (wpAny_toks_of ht3 (part _ _ _ h3 s3 R3 ht3)) (fun vk s4 ⟨ht4, st4, R4, S4, k, hk, a, xs, ho, ha, hlen, hk0, h4⟩ => ?_) (fun _ _ e => e.2)
  cases er_ref ho
  obtain ⟨ws, w1, w2⟩ := R4.list ha
  have hwl : ws.size = xs.length := by have := congrArg List.length w2; simpa using this
  refine ⟨⟨"list", _, (w1.push _).typeIs, list_getitem_lookup⟩, ?_⟩
  refine wpAny_getItem_list_slice (w1.push _) (Heap.IsSliceOf.new ..) hl hu hk hk0 ?_ (by rw [sizeLine_eq]; omega)
  have R5 : Rel f st4 { s4 with heap := s4.heap.push { cls := .type "slice", data := .fields #[vl, vu, vk] } } := R4.keeps (fun b ob e => Heap.get?_push_of_some _ e)
  have e4 : (slicePick ws l u k).toList.map er = pystep xs l u k := by rw [slicePick_er, w2]
  obtain ⟨st5, R6, S6, h6⟩ := SW.fresh (W := NoW) (Q := fun v => P (er v)) R5 e4 h4 rfl
  exact ⟨st5, R6, S1.trans (S2.trans (S3.trans (S4.trans ((Step.keeps fun b ob e => Heap.get?_push_of_some _ e).trans S6)))), h6⟩

/-- several expressions in a row -/
def EVL (f : Frm) (pos : Pos) (es : List Expr) (st : St) (P : List V → St → Prop) : Prop := SW f NoW (spliced (backTo pos (starEach es f.env))) st (fun vs => P (vs.map er))

theorem evl_nil {pos : Pos} {P : List V → St → Prop} (h : P [] st) : EVL f pos [] st P := fun s R ht => wpAny_items_nil ⟨st, R, .refl .., h⟩
theorem evl_cons {pos : Pos} {e : Expr} {rest : List Expr} {P : List V → St → Prop} (h : EV f e st (fun v st1 => EVL f pos rest st1 (fun vs st2 => P (v :: vs) st2)))
    (he : starEach (e :: rest) f.env = (false, eval e f.env) :: starEach rest f.env := by rfl) : EVL f pos (e :: rest) st P :=
  fun s R ht => wpAny_items_cons (wpAny_mono (wpAny_toks_of ht (h s R ht)) (fun v s1 ⟨ht1, st1, R1, S1, h1⟩ => wpAny_mono (h1 s1 R1 ht1) (fun vs s2 ⟨st2, R2, S2, h2⟩ => ⟨st2, R2, S1.trans S2, h2⟩) fun _ _ e => e) fun _ _ e => e.2) he

theorem ev_list {elts : List Expr} {pos : Pos} (h : EVL f pos elts st (fun vs st1 => vs.length ≤ 1000 ∧ ∀ c, P (.ref c) { st1 with own := (c, vs) :: st1.own })) : EV f (.List elts pos) st P := by
  intro s R ht
  refine wpAny_List (wpAny_mono (h s R ht) (fun vs s1 ⟨st1, R1, S1, h1, h2⟩ => ?_) fun _ _ e => e)
  refine ⟨by rw [sizeLine_eq]; simp at h1; omega, ?_⟩
  obtain ⟨st2, R2, S2, h3⟩ := SW.fresh (W := NoW) (Q := fun v => P (er v)) (ws := vs.toArray) R1 rfl h2 rfl
  exact ⟨st2, R2, S1.trans S2, h3⟩
end
end Mine

end
section
open PySem PySem.W PyProof.Rows PySem.Calls
set_option Elab.async false
set_option linter.unusedVariables false
set_option maxRecDepth 100000
namespace Mine

section
variable {f : Frm} {W : Addr → Prop} {st : St} {P : V → St → Prop}

/-- a built-in function's name -/
theorem sw_bname {nm : Str} {id : Value} {pos : Pos} {Q : Value → St → Prop} {sc : Scope} (hsc : f.env.scope = sc) (hx : sc.names.lookup nm = some .globalImplicit) (hb : bootBuiltins nm = some id) (hm : nm ∈ bnames)
    (h : Q id st) (hn : nm ≠ "__name__") (hd : (nm == ("__debug__" : Str)) = false) : SW f W (eval (.Name nm pos) f.env) st Q := by
  intro s R ht
  refine Name_function_global f.kind (by unfold Env.kindOf; rw [hsc]; exact hx) ?_ hd
  have T := f.top.keeps R.keep
  exact loadGlobal_builtin (mg := f.wd.mg) (mb := f.wd.mb) (by rw [f.glob]; exact T.g) (f.wd.free nm hm) (by rw [f.blt]; exact T.b) ((T.builtins nm hn).trans hb) ⟨st, R, .refl .., h⟩

theorem ev_bcall {nm : Str} {id : String} {np pos : Pos} {e : Expr} {rest : List Expr} {sc : Scope} (hsc : f.env.scope = sc) (hx : sc.names.lookup nm = some .globalImplicit) (hb : bootBuiltins nm = some (.builtin id)) (hm : nm ∈ bnames)
    (h : SW f NoW (spliced (backTo pos (starEach (e :: rest) f.env))) st (fun vs st1 => SW f NoW (call (.builtin id) vs) st1 (fun v => P (er v))))
    (hn : nm ≠ "__name__") (hd : (nm == ("__debug__" : Str)) = false)
    (he : starEach (e :: rest) f.env = (false, eval e f.env) :: starEach rest f.env := by rfl)
    (hplain : (backTo pos (starEach rest f.env)).any (·.1) = false := by rfl)
    (hc : eval (.Call (.Name nm np) (e :: rest) [] pos) f.env = (do callWith pos (← eval (.Name nm np) f.env) [] (backTo pos (starEach (e :: rest) f.env)) (backToKw pos (keywordEach [] f.env))) := by rfl) :
    EV f (.Call (.Name nm np) (e :: rest) [] pos) st P := by
  unfold EV
  rw [hc]
  refine SW.bind (sw_bname hsc hx hb hm ?_ hn hd)
  intro s R ht
  refine callWith_builtin1 (wpAny_mono (wpAny_toks_of ht (h s R ht)) (fun vs s1 ⟨ht1, st1, R1, S1, h1⟩ => ?_) fun _ _ e => e.2) he hplain
  exact wpAny_mono (h1 s1 R1 ht1) (fun v s2 ⟨st2, R2, S2, h2⟩ => ⟨st2, R2, S1.trans S2, h2⟩) fun _ _ e => e

theorem boot_len : bootBuiltins "len" = some (.builtin "len") := by kernel_rfl
theorem boot_max : bootBuiltins "max" = some (.builtin "max") := by kernel_rfl
theorem boot_min : bootBuiltins "min" = some (.builtin "min") := by kernel_rfl
theorem boot_sum : bootBuiltins "sum" = some (.builtin "sum") := by kernel_rfl
theorem boot_range : bootBuiltins "range" = some (.type "range") := by kernel_rfl

theorem EVL.raw {pos : Pos} {es : List Expr} {Q : List Value → St → Prop} (h : EVL f pos es st (fun vs st1 => ∀ us, us.map er = vs → Q us st1)) : SW f NoW (spliced (backTo pos (starEach es f.env))) st Q :=
  SW.mono h fun vs st1 hq => hq vs rfl

theorem er_one {us : List Value} {v : V} (h : us.map er = [v]) : ∃ u, us = [u] ∧ er u = v := by
  cases us with
  | nil => simp at h
  | cons u us => cases us with
    | nil => exact ⟨u, rfl, by simpa using h⟩
    | cons _ _ => simp at h
theorem er_two {us : List Value} {v v' : V} (h : us.map er = [v, v']) : ∃ u u', us = [u, u'] ∧ er u = v ∧ er u' = v' := by
  cases us with
  | nil => simp at h
  | cons u us =>
    simp only [List.map_cons, List.cons.injEq] at h
    obtain ⟨u', rfl, h'⟩ := er_one h.2
    exact ⟨u, u', rfl, h.1, h'⟩

/-- len -/
theorem ev_len {np pos : Pos} {e : Expr} {sc : Scope} (hsc : f.env.scope = sc) (hx : sc.names.lookup (Str.ofString "len") = some .globalImplicit)
    (h : EV f e st (fun v st1 => (∃ x, v = .str x ∧ x.length ≤ 16777216 ∧ P (.int x.length) st1) ∨ ∃ a xs, v = .ref a ∧ st1.has a xs ∧ xs.length ≤ 16777216 ∧ P (.int xs.length) st1))
    (he : starEach [e] f.env = (false, eval e f.env) :: starEach [] f.env := by rfl)
    (hc : eval (.Call (.Name "len" np) [e] [] pos) f.env = (do callWith pos (← eval (.Name "len" np) f.env) [] (backTo pos (starEach [e] f.env)) (backToKw pos (keywordEach [] f.env))) := by rfl) :
    EV f (.Call (.Name "len" np) [e] [] pos) st P := by
  refine ev_bcall hsc hx boot_len (by decide) (EVL.raw (evl_cons (SW.mono h fun v st1 hv => evl_nil fun us hu => ?_) he)) (by decide) (by decide) he rfl hc
  obtain ⟨u, rfl, hu1⟩ := er_one hu
  clear hu
  have hu := hu1
  intro s R ht
  rcases hv with ⟨x, hx, hl, hp⟩ | ⟨a, xs, hx, ha, hl, hp⟩
  · rw [hx] at hu
    obtain ⟨t, rfl⟩ := er_str hu
    refine PySem.P.len_str (by simp [Str.length]; omega) (SW.done R (fun _ _ e => e) ?_)
    simpa [er, Str.length] using hp
  · rw [hx] at hu
    cases er_ref hu
    obtain ⟨ws, w1, w2⟩ := R.list ha
    have hwl : ws.size = xs.length := by have := congrArg List.length w2; simpa using this
    refine PyProof.Rows.len_list w1 (by omega) (SW.done R (fun _ _ e => e) ?_)
    simpa [er, hwl] using hp

/-- sum of a list of ints -/
theorem ev_sum {np pos : Pos} {e : Expr} {sc : Scope} (hsc : f.env.scope = sc) (hx : sc.names.lookup (Str.ofString "sum") = some .globalImplicit)
    (h : EV f e st (fun v st1 => ∃ a ns, v = .ref a ∧ st1.has a (List.map V.int ns) ∧ P (.int ns.sum) st1))
    (he : starEach [e] f.env = (false, eval e f.env) :: starEach [] f.env := by rfl)
    (hc : eval (.Call (.Name "sum" np) [e] [] pos) f.env = (do callWith pos (← eval (.Name "sum" np) f.env) [] (backTo pos (starEach [e] f.env)) (backToKw pos (keywordEach [] f.env))) := by rfl) :
    EV f (.Call (.Name "sum" np) [e] [] pos) st P := by
  refine ev_bcall hsc hx boot_sum (by decide) (EVL.raw (evl_cons (SW.mono h fun v st1 hv => evl_nil fun us hu => ?_) he)) (by decide) (by decide) he rfl hc
  obtain ⟨u, rfl, hu1⟩ := er_one hu
  clear hu
  have hu := hu1
  intro s R ht
  obtain ⟨a, ns, hx, ha, hp⟩ := hv
  rw [hx] at hu
  cases er_ref hu
  obtain ⟨ws, w1, w2⟩ := R.list ha
  have hi := intsAre_of_er w2
  have hall := hi.allInts
  rw [show ws.toList.toArray = ws from by simp] at hall
  obtain ⟨xs, rfl⟩ := hall.items
  refine sum_intListG f.hand w1 fun h' tk t' hk => ?_
  have hs : preSum (numAt xs) xs.size = ns.sum := by
    rw [preSum_eq, List.take_of_length_le (by simp), ← nums_intItems, hi.numsOf]
  rw [hs]
  exact SW.done (s' := { s with heap := h', toks := tk }) R hk hp

/-- the greatest of a list of ints -/
theorem ev_max {np pos : Pos} {e : Expr} {sc : Scope} (hsc : f.env.scope = sc) (hx : sc.names.lookup (Str.ofString "max") = some .globalImplicit)
    (h : EV f e st (fun v st1 => ∃ a ns, v = .ref a ∧ st1.has a (List.map V.int ns) ∧ ns ≠ [] ∧ ∀ m ∈ ns, (∀ n ∈ ns, n ≤ m) → P (.int m) st1))
    (he : starEach [e] f.env = (false, eval e f.env) :: starEach [] f.env := by rfl)
    (hc : eval (.Call (.Name "max" np) [e] [] pos) f.env = (do callWith pos (← eval (.Name "max" np) f.env) [] (backTo pos (starEach [e] f.env)) (backToKw pos (keywordEach [] f.env))) := by rfl) :
    EV f (.Call (.Name "max" np) [e] [] pos) st P := by
  refine ev_bcall hsc hx boot_max (by decide) (EVL.raw (evl_cons (SW.mono h fun v st1 hv => evl_nil fun us hu => ?_) he)) (by decide) (by decide) he rfl hc
  obtain ⟨u, rfl, hu1⟩ := er_one hu
  clear hu
  have hu := hu1
  intro s R ht
  obtain ⟨a, ns, hx, ha, hne, hp⟩ := hv
  rw [hx] at hu
  cases er_ref hu
  obtain ⟨ws, w1, w2⟩ := R.list ha
  have hi := intsAre_of_er w2
  have hall := hi.allInts
  rw [show ws.toList.toArray = ws from by simp] at hall
  obtain ⟨xs, rfl⟩ := hall.items
  have hns : ns = xs.toList.map (·.1) := by rw [← nums_intItems, hi.numsOf]
  have hlen : xs.size = ns.length := by rw [hns]; simp
  have hpos : 0 < xs.size := by rw [hlen]; exact List.length_pos_iff.mpr hne
  refine max_intList f.hand w1 hpos fun v h' tk hv hk => ?_
  obtain ⟨hle, hbest⟩ := argBest_gt (numAt xs) (xs.size - 1)
  obtain ⟨t, rfl⟩ := intItems_at hv
  generalize argBest (fun i j => decide (numAt xs i > numAt xs j)) (xs.size - 1) = j at *
  refine SW.done (s' := { s with heap := h', toks := tk }) (Q := fun v => P (er v)) R hk (hp _ ?_ ?_)
  · rw [numAt_eq, ← hns]
    have : j < ns.length := by omega
    rw [List.getD_eq_getElem?_getD, List.getElem?_eq_getElem this]
    exact List.getElem_mem this
  · intro n hn
    obtain ⟨i, hi', rfl⟩ := List.getElem_of_mem hn
    have := hbest i (by omega)
    rwa [numAt_eq xs i, ← hns, List.getD_eq_getElem?_getD, List.getElem?_eq_getElem hi'] at this

/-- the lesser of two ints -/
theorem ev_min2 {np pos : Pos} {e e' : Expr} {sc : Scope} (hsc : f.env.scope = sc) (hx : sc.names.lookup (Str.ofString "min") = some .globalImplicit)
    (h : EV f e st (fun v st1 => EV f e' st1 (fun v' st2 => ∃ a b, v = .int a ∧ v' = .int b ∧ P (.int (min a b)) st2)))
    (he : starEach [e, e'] f.env = (false, eval e f.env) :: starEach [e'] f.env := by rfl)
    (he' : starEach [e'] f.env = (false, eval e' f.env) :: starEach [] f.env := by rfl)
    (hplain : (backTo pos (starEach [e'] f.env)).any (·.1) = false := by rfl)
    (hc : eval (.Call (.Name "min" np) [e, e'] [] pos) f.env = (do callWith pos (← eval (.Name "min" np) f.env) [] (backTo pos (starEach [e, e'] f.env)) (backToKw pos (keywordEach [] f.env))) := by rfl) :
    EV f (.Call (.Name "min" np) [e, e'] [] pos) st P := by
  refine ev_bcall hsc hx boot_min (by decide) (EVL.raw (evl_cons (SW.mono h fun v st1 h1 => evl_cons (SW.mono h1 fun v' st2 hv => evl_nil fun us hu => ?_) he') he)) (by decide) (by decide) he hplain hc
  obtain ⟨u, u', rfl, hu1, hu'⟩ := er_two hu
  clear hu
  have hu := hu1
  intro s R ht
  obtain ⟨a, b, ha, hb, hp⟩ := hv
  rw [ha] at hu; rw [hb] at hu'
  obtain ⟨t, rfl⟩ := er_int hu; obtain ⟨t', rfl⟩ := er_int hu'
  refine min_two_ints f.hand fun h' tk hk => SW.done (s' := { s with heap := h', toks := tk }) (Q := fun v => P (er v)) R hk ?_
  by_cases hlt : b < a
  · rw [if_pos hlt]; rw [show min a b = b by omega] at hp; exact hp
  · rw [if_neg hlt]; rw [show min a b = a by omega] at hp; exact hp
end
end Mine

end
section
open PySem PySem.W PyProof.Rows PySem.Calls
set_option Elab.async false
set_option linter.unusedVariables false
set_option maxRecDepth 100000
namespace Mine

/-- every sign c written as z -/
def blow (c : Nat) (z x : List Nat) : List Nat := x.flatMap fun d => if d = c then z else [d]

theorem blow_append (c : Nat) (z a b : List Nat) : blow c z (a ++ b) = blow c z a ++ blow c z b := by simp [blow]
theorem blow_nil (c : Nat) (z : List Nat) : blow c z [] = [] := rfl
theorem blow_cons (c : Nat) (z : List Nat) (d : Nat) (r : List Nat) : blow c z (d :: r) = (if d = c then z else [d]) ++ blow c z r := by simp [blow]
theorem blow_free (c : Nat) (z : List Nat) : ∀ l : List Nat, c ∉ l → blow c z l = l
  | [], _ => rfl
  | d :: r, h => by
    have h1 : ¬ d = c := fun e => h (e ▸ List.mem_cons_self ..)
    rw [blow_cons, blow_free c z r fun m => h (List.mem_cons_of_mem _ m), if_neg h1]
    rfl

theorem blow_join (c : Nat) (z : List Nat) : ∀ parts : List Str, (∀ p ∈ parts, c ∉ p.cps.toList) → blow c z (Str.join ⟨#[c]⟩ parts).cps.toList = (Str.join ⟨z.toArray⟩ parts).cps.toList
  | [], _ => rfl
  | [p], h => blow_free c z _ (h p (List.mem_singleton.mpr rfl))
  | p :: q :: r, h => by
    have ih := blow_join c z (q :: r) fun a ha => h a (List.mem_cons_of_mem _ ha)
    show blow c z (p ++ ⟨#[c]⟩ ++ Str.join ⟨#[c]⟩ (q :: r)).cps.toList = (p ++ ⟨z.toArray⟩ ++ Str.join ⟨z.toArray⟩ (q :: r)).cps.toList
    simp only [Str.cps_append, Array.toList_append]
    rw [blow_append, blow_append, ih, blow_free c z _ (h p (List.mem_cons_self ..))]
    congr 2
    simp [blow]

theorem replace_blow (x z : List Nat) (c : Nat) : (Txt.replace ⟨x.toArray⟩ ⟨#[c]⟩ ⟨z.toArray⟩).cps.toList = blow c z x := by
  rw [StrLaws.replace_one, ← blow_join c z _ (StrLaws.split_free _ c), StrLaws.join_split]

theorem count_one (x : List Nat) (c : Nat) : Txt.count ⟨x.toArray⟩ ⟨#[c]⟩ = (x.count c : Nat) := by
  rw [count_is]
  show cnt c x = _
  induction x with
  | nil => rfl
  | cons d r ih =>
    rw [cnt_cons, ih, List.count_cons]
    by_cases h : d = c
    · simp [h]; omega
    · simp [h]

/-- the first place at which y stands in x -/
def findAt (x y : List Nat) : Nat → Nat → Option Nat
  | 0, _ => none
  | n + 1, i => if y.isPrefixOf (x.drop i) then some i else findAt x y n (i + 1)
def findL (x y : List Nat) : Int := match findAt x y (x.length + 1) 0 with
  | some i => i
  | none => -1

theorem at_iff (x y : List Nat) (i : Nat) : StrLaws.At ⟨x.toArray⟩ ⟨y.toArray⟩ x.length i ↔ (i ≤ x.length ∧ y <+: x.drop i) := by
  unfold StrLaws.At
  rw [StrLaws.subAt_eq]
  have e1 : (⟨y.toArray⟩ : Str).length = y.length := by simp [Str.length]
  rw [e1]
  simp only [beq_iff_eq]
  constructor
  · rintro ⟨h1, h2⟩
    refine ⟨by omega, ?_⟩
    have h3 : (x.drop i).take y.length = y := h2
    exact ⟨(x.drop i).drop y.length, by have := List.take_append_drop y.length (x.drop i); rw [h3] at this; exact this⟩
  · rintro ⟨h0, r, h⟩
    have hl := congrArg List.length h
    simp only [List.length_append, List.length_drop] at hl
    refine ⟨by omega, ?_⟩
    show (x.drop i).take y.length = y
    rw [← h]; simp

theorem findAt_spec (x y : List Nat) : ∀ n i, match findAt x y n i with
    | some j => i ≤ j ∧ j < i + n ∧ y <+: x.drop j ∧ ∀ k, i ≤ k → k < j → ¬ y <+: x.drop k
    | none => ∀ k, i ≤ k → k < i + n → ¬ y <+: x.drop k
  | 0, i => by simp only [findAt]; intro k h1 h2; omega
  | n + 1, i => by
    have ih := findAt_spec x y n (i + 1)
    unfold findAt
    by_cases h : y.isPrefixOf (x.drop i) = true
    · rw [if_pos h]
      exact ⟨Nat.le_refl _, by omega, List.isPrefixOf_iff_prefix.mp h, fun k h1 h2 => by omega⟩
    · rw [if_neg h]
      have hn : ¬ y <+: x.drop i := fun e => h (List.isPrefixOf_iff_prefix.mpr e)
      revert ih
      split
      · rename_i j hj
        rintro ⟨h1, h2, h3, h4⟩
        refine ⟨by omega, by omega, h3, fun k hk1 hk2 => ?_⟩
        by_cases hk : k = i
        · subst hk; exact hn
        · exact h4 k (by omega) hk2
      · intro ih k hk1 hk2
        by_cases hk : k = i
        · subst hk; exact hn
        · exact ih k (by omega) (by omega)

theorem find_eq (x y : List Nat) : Txt.find ⟨x.toArray⟩ ⟨y.toArray⟩ = findL x y := by
  unfold Txt.find findL
  have sp := findAt_spec x y (x.length + 1) 0
  have e1 : (⟨x.toArray⟩ : Str).length = x.length := by simp [Str.length]
  rcases StrLaws.occ_head ⟨x.toArray⟩ ⟨y.toArray⟩ 1 (Nat.le_refl _) with ⟨h0, hn⟩ | ⟨i, r, h0, hi, hn⟩
  · rw [h0]
    rw [e1] at hn
    cases hf : findAt x y (x.length + 1) 0 with
    | none => rfl
    | some j =>
      rw [hf] at sp
      exact absurd ((at_iff x y j).mpr ⟨by omega, sp.2.2.1⟩) (hn j)
  · rw [h0]
    rw [e1] at hi hn
    have hi' := (at_iff x y i).mp hi
    cases hf : findAt x y (x.length + 1) 0 with
    | none =>
      rw [hf] at sp
      exact absurd hi'.2 (sp i (Nat.zero_le _) (by omega))
    | some j =>
      rw [hf] at sp
      show (i : Int) = (j : Int)
      have h1 : ¬ i < j := fun hlt => sp.2.2.2 i (Nat.zero_le _) hlt hi'.2
      have h2 : ¬ j < i := fun hlt => hn j hlt ((at_iff x y j).mpr ⟨by omega, sp.2.2.1⟩)
      omega

section
variable {f : Frm} {W : Addr → Prop} {st : St} {P : V → St → Prop}

/-- one of the frame's own lists turned -/
theorem SW.turned {α : Type} {s s' : Shared} {a : Addr} {xs ys : List V} {pre post : List (Addr × List V)} {ws : Array Value} {n : Nat} {v : α} {Q : α → St → Prop} (R : Rel f st s)
    (ho : st.own = pre ++ (a, xs) :: post) (hn : IsL s'.heap a ws n) (he : ws.toList.map er = ys) (hs : Heap.SameBut a s.heap s'.heap)
    (h : Q v { st with own := pre ++ (a, ys) :: post }) (hg : s'.gens = s.gens := by rfl) (hos : (s'.os, s'.drawn) = (s.os, s.drawn) := by rfl) :
    ∃ st', Rel f st' s' ∧ Step W st s st' s' ∧ Q v st' := by
  have hmem : (a, xs) ∈ st.own := by rw [ho]; simp
  obtain ⟨⟨ws0, n0, hl0, _⟩, hfresh⟩ := R.own _ hmem
  have hl0' : s.heap.get? a = some { cls := .type "list", dict := none, data := .seq ws0 n0, slots := #[] } := hl0
  have hmap : (pre ++ (a, ys) :: post).map (·.1) = st.own.map (·.1) := by rw [ho]; simp
  have hnd := R.nd
  rw [ho] at hnd
  simp only [List.map_append, List.map_cons] at hnd
  have hother : ∀ b o, b ≠ a → s.heap.get? b = some o → s'.heap.get? b = some o := fun b o hb e => (hs.2 b hb).trans e
  refine ⟨{ st with own := pre ++ (a, ys) :: post }, ⟨?_, ?_, ?_, ?_, ?_, ?_, hg.trans R.gens, hos.trans R.os⟩, ⟨?_, ?_, ?_, fun b hb => .inl hb⟩, h⟩
  · obtain ⟨m, hns, hl⟩ := R.loc
    have hLa : f.env.locals ≠ a := by
      rintro e
      obtain ⟨o, es, ep, h1, h2, _⟩ := hns
      rw [e, hl0'] at h1; cases h1; cases h2
    refine ⟨m, hns.sameBut hs hLa, fun x v hx => ?_⟩
    obtain ⟨u, hu, h'⟩ := hl x v hx
    refine ⟨u, hu, h'.imp id fun ⟨h1, c, h2, h3⟩ => ⟨h1, c, h2, h3.sameBut hs ?_⟩⟩
    rintro rfl
    obtain ⟨o, h4, h5⟩ := h3
    rw [hl0'] at h4; cases h4; cases h5
  · intro b o e
    exact hother b o (fun e' => by rw [e', hfresh] at e; cases e) (R.keep b o e)
  · intro c hc
    obtain ⟨v, h1⟩ := R.wcell c hc
    refine ⟨v, h1.sameBut hs ?_⟩
    rintro rfl
    obtain ⟨o, h4, h5⟩ := h1
    rw [hl0'] at h4; cases h4; cases h5
  · intro p hp
    rcases List.mem_append.mp hp with hp | hp
    · obtain ⟨⟨ws', n', h1, h2⟩, h3⟩ := R.own p (by rw [ho]; simp [hp])
      have hne : p.1 ≠ a := by
        intro e
        rw [List.nodup_append] at hnd
        exact hnd.2.2 p.1 (List.mem_map_of_mem hp) a (by simp) e
      exact ⟨⟨ws', n', hother _ _ hne h1, h2⟩, h3⟩
    · rcases List.mem_cons.mp hp with rfl | hp
      · exact ⟨⟨ws, n, hn, he⟩, hfresh⟩
      · obtain ⟨⟨ws', n', h1, h2⟩, h3⟩ := R.own p (by rw [ho]; simp [hp])
        have hne : p.1 ≠ a := by
          intro e
          rw [List.nodup_append] at hnd
          have := (List.nodup_cons.mp hnd.2.1).1
          exact this (e ▸ List.mem_map_of_mem hp)
        exact ⟨⟨ws', n', hother _ _ hne h1, h2⟩, h3⟩
  · show ((pre ++ (a, ys) :: post).map (·.1)).Nodup
    rw [hmap]; exact R.nd
  · intro p hp
    obtain ⟨⟨ws', h1, h2⟩, h3⟩ := R.ro p hp
    have hne : p.1 ≠ a := fun e => h3 (by rw [ho]; simp [e])
    refine ⟨⟨ws', ?_, h2⟩, ?_⟩
    · obtain ⟨o, ho', r⟩ := h1; exact ⟨o, hother _ _ hne ho', r⟩
    · show p.1 ∉ (pre ++ (a, ys) :: post).map (·.1)
      rw [hmap]; exact h3
  · intro b o e _ hb
    exact hother b o (fun e' => hb (by rw [ho]; simp [e'])) e
  · intro b hb
    refine .inl ?_
    rw [← hmap]; exact hb
  · intro b e
    by_cases hb : b = a
    · subst hb
      have : s'.heap.get? b = some _ := hn
      rw [this] at e; cases e
    · cases e' : s.heap.get? b with
      | none => rfl
      | some o => rw [hother b o hb e'] at e; cases e

/-- xs.append(e), the list one of the frame's own -/
theorem ev_append {o e : Expr} {apos pos : Pos}
    (h : EV f o st (fun v st1 => ∃ a, v = .ref a ∧ (∃ xs, (a, xs) ∈ st1.own) ∧ EV f e st1 (fun y st2 => ∃ pre xs post, st2.own = pre ++ (a, xs) :: post ∧ xs.length < 16777216 ∧ P .none { st2 with own := pre ++ (a, xs ++ [y]) :: post })))
    (hbase : attributeBase o "append" f.env (eval o f.env) = eval o f.env := by rfl)
    (hs : starEach [e] f.env = [(false, eval e f.env)] := by rfl)
    (hline : (apos.endLine == pos.line) = true := by rfl) : EV f (.Call (.Attribute o "append" apos) [e] [] pos) st P := by
  intro s R ht
  refine Call_method1 hbase hs hline ?_
  refine wpAny_mono (wpAny_toks_of ht (h s R ht)) (fun ov s1 ⟨ht1, st1, R1, S1, a, hov, ⟨xs0, hx0⟩, h1⟩ => ?_) fun _ _ e => e.2
  cases er_ref hov
  obtain ⟨⟨ws0, n0, hl0, _⟩, _⟩ := R1.own _ hx0
  refine ⟨"list", "list.append", F.plainAttrs_list, F.slot_list_append, F.type_list_append, ⟨_, hl0, rfl⟩, (fun b e => by cases e; exact ⟨_, hl0, rfl⟩), ?_⟩
  refine PySem.P.append_list (wpAny_mono (h1 s1 R1 ht1) (fun y s2 ⟨st2, R2, S2, pre, xs, post, ho, hlen, hp⟩ => ?_) fun _ _ e => e)
  obtain ⟨⟨ws, n, hl, he⟩, _⟩ := R2.own (a, xs) (by rw [ho]; simp)
  have hwl : ws.size = xs.length := by have := congrArg List.length he; simpa using this
  refine ⟨ws, n, by rw [sizeLine_eq]; omega, hl, ?_⟩
  obtain ⟨st3, R3, S3, h3⟩ := SW.turned (W := NoW) (Q := fun v st' => P (er v) st') (v := Value.none) (s' := { s2 with heap := s2.heap.update a (Obj.mapSeq fun xs => xs.push y) }) (ys := xs ++ [er y]) R2 ho
    (IsL.update hl (fun xs => xs.push y)) (by simp [he]) (Heap.SameBut.update ..) hp
  exact ⟨st3, R3, S1.trans (S2.trans S3), h3⟩

/-- the marks in a text -/
theorem ev_count {o e : Expr} {apos pos : Pos}
    (h : EV f o st (fun v st1 => ∃ x, v = .str x ∧ EV f e st1 (fun y st2 => ∃ c, y = .str [c] ∧ P (.int (x.count c : Nat)) st2)))
    (hbase : attributeBase o "count" f.env (eval o f.env) = eval o f.env := by rfl)
    (hs : starEach [e] f.env = [(false, eval e f.env)] := by rfl)
    (hline : (apos.endLine == pos.line) = true := by rfl) : EV f (.Call (.Attribute o "count" apos) [e] [] pos) st P := by
  intro s R ht
  refine Call_method1 hbase hs hline (wpAny_mono (wpAny_toks_of ht (h s R ht)) (fun ov s1 ⟨ht1, st1, R1, S1, x, hov, h1⟩ => ?_) fun _ _ e => e.2)
  obtain ⟨t, rfl⟩ := er_str hov
  refine SB.count (wpAny_mono (h1 s1 R1 ht1) (fun y s2 ⟨st2, R2, S2, c, hy, hp⟩ => ?_) fun _ _ e => e)
  obtain ⟨u, rfl⟩ := er_str hy
  refine ⟨_, u, rfl, ?_⟩
  obtain ⟨st3, R3, S3, h3⟩ := SW.done (W := NoW) (s' := { s2 with toks := s2.toks + 1 }) (v := V.int (x.count c : Nat)) (Q := P) R2 (fun _ _ e => e) hp
  refine ⟨st3, R3, S1.trans (S2.trans S3), ?_⟩
  show P (.int (Txt.count ⟨x.toArray⟩ ⟨#[c]⟩)) st3
  rw [count_one]; exact h3

/-- the place of a part in a text -/
theorem ev_find {o e : Expr} {apos pos : Pos}
    (h : EV f o st (fun v st1 => ∃ x, v = .str x ∧ EV f e st1 (fun y st2 => ∃ z, y = .str z ∧ P (.int (findL x z)) st2)))
    (hbase : attributeBase o "find" f.env (eval o f.env) = eval o f.env := by rfl)
    (hs : starEach [e] f.env = [(false, eval e f.env)] := by rfl)
    (hline : (apos.endLine == pos.line) = true := by rfl) : EV f (.Call (.Attribute o "find" apos) [e] [] pos) st P := by
  intro s R ht
  refine Call_method1 hbase hs hline (wpAny_mono (wpAny_toks_of ht (h s R ht)) (fun ov s1 ⟨ht1, st1, R1, S1, x, hov, h1⟩ => ?_) fun _ _ e => e.2)
  obtain ⟨t, rfl⟩ := er_str hov
  refine SB.find (wpAny_mono (h1 s1 R1 ht1) (fun y s2 ⟨st2, R2, S2, z, hy, hp⟩ => ?_) fun _ _ e => e)
  obtain ⟨u, rfl⟩ := er_str hy
  refine ⟨_, u, rfl, ?_⟩
  obtain ⟨st3, R3, S3, h3⟩ := SW.done (W := NoW) (s' := { s2 with toks := s2.toks + 1 }) (v := V.int (findL x z)) (Q := P) R2 (fun _ _ e => e) hp
  refine ⟨st3, R3, S1.trans (S2.trans S3), ?_⟩
  show P (.int (Txt.find ⟨x.toArray⟩ ⟨z.toArray⟩)) st3
  rw [find_eq]; exact h3

theorem strValues_of_er : ∀ {ws : List Value} {xs : List (List Nat)}, ws.map er = xs.map .str → ∃ l : List (Str × Tok), ws = strValues l ∧ l.map (·.1) = xs.map fun x => (⟨x.toArray⟩ : Str)
  | [], [], _ => ⟨[], rfl, rfl⟩
  | [], _ :: _, h => by simp at h
  | _ :: _, [], h => by simp at h
  | w :: ws, x :: xs, h => by
    simp only [List.map_cons, List.cons.injEq] at h
    obtain ⟨t, rfl⟩ := er_str h.1
    obtain ⟨l, rfl, hl⟩ := strValues_of_er h.2
    exact ⟨(⟨x.toArray⟩, t) :: l, rfl, by simp [hl]⟩

theorem join_flat : ∀ xs : List (List Nat), (Str.join ⟨#[]⟩ (xs.map fun x => (⟨x.toArray⟩ : Str))).cps.toList = xs.flatten
  | [] => rfl
  | x :: xs => by
    rw [List.map_cons, join_nil_cons, Str.cps_append, Array.toList_append, join_flat xs]
    simp

/-- ''.join(xs) -/
theorem ev_join {o e : Expr} {apos pos : Pos}
    (h : EV f o st (fun v st1 => v = .str [] ∧ EV f e st1 (fun y st2 => ∃ a xs, y = .ref a ∧ st2.has a (List.map V.str xs) ∧ (xs.map List.length).sum ≤ 16777216 ∧ P (.str xs.flatten) st2)))
    (hbase : attributeBase o "join" f.env (eval o f.env) = eval o f.env := by rfl)
    (hs : starEach [e] f.env = [(false, eval e f.env)] := by rfl)
    (hline : (apos.endLine == pos.line) = true := by rfl) : EV f (.Call (.Attribute o "join" apos) [e] [] pos) st P := by
  intro s R ht
  refine Call_method1 hbase hs hline (wpAny_mono (wpAny_toks_of ht (h s R ht)) (fun ov s1 ⟨ht1, st1, R1, S1, hov, h1⟩ => ?_) fun _ _ e => e.2)
  obtain ⟨t, rfl⟩ := er_str hov
  refine SB.join (wpAny_mono (h1 s1 R1 ht1) (fun y s2 ⟨st2, R2, S2, a, xs, hy, ha, hlen, hp⟩ => ?_) fun _ _ e => e)
  cases er_ref hy
  obtain ⟨ws, w1, w2⟩ := R2.list ha
  obtain ⟨l, hl, hm⟩ := strValues_of_er w2
  refine ⟨a, l, rfl, ?_, _, hm, ?_, fun t' k => ?_⟩
  · rw [← hl]; simpa using w1
  · unfold JoinOk
    rw [StrLaws.joinTotal]
    simp only [Bool.not_eq_true']
    unfold Builtin.Str.tooLong
    rw [sizeLine_eq]
    simp [Str.length, Function.comp_def]
    exact hlen
  · obtain ⟨st3, R3, S3, h3⟩ := SW.done (W := NoW) (s' := { s2 with toks := k }) (v := V.str xs.flatten) (Q := P) R2 (fun _ _ e => e) hp
    refine ⟨st3, R3, S1.trans (S2.trans S3), ?_⟩
    show P (.str (Txt.join ⟨#[]⟩ (xs.map fun x => (⟨x.toArray⟩ : Str))).cps.toList) st3
    unfold Txt.join
    rw [StrLaws.glued_eq_join, join_flat]; exact h3

/-- an expression that makes a text, with a token of its own -/
def EVT (f : Frm) (e : Expr) (st : St) (P : List Nat → St → Prop) : Prop :=
  ∀ s, Rel f st s → 1 ≤ s.toks → wpAny f.M f.A (eval e f.env) (fun v s' => ∃ st', Rel f st' s' ∧ Step NoW st s st' s' ∧ ∃ x t, v = .str ⟨x.toArray⟩ t ∧ s.toks ≤ t ∧ P x st') (fun _ _ => False) s

theorem evt_str {x : Str} {k pos} {P : List Nat → St → Prop} (h : P x.cps.toList st) : EVT f (.Constant (.str x) k pos) st P :=
  fun s R ht => wpAny_Constant_str (let ⟨st', R', S', h'⟩ := SW.done (W := NoW) (v := x.cps.toList) (Q := P) (s' := { s with toks := s.toks + 1 }) R (fun _ _ e => e) h
    ⟨st', R', S', x.cps.toList, s.toks, by simp, Nat.le_refl _, h'⟩)

theorem evt_mul {x : Str} {k pos bpos} {r : Expr} {P : List Nat → St → Prop}
    (h : EV f r st (fun v st1 => ∃ n, v = .int n ∧ 1 ≤ n ∧ n < 65536 ∧ x.length * n.toNat ≤ 16777216 ∧ P (List.replicate n.toNat x.cps.toList).flatten st1)) :
    EVT f (.BinOp (.Constant (.str x) k pos) .Mult r bpos) st P := by
  intro s R ht
  refine wpAny_BinOp (wpAny_Constant_str ?_)
  have R1 : Rel f st { s with toks := s.toks + 1 } := R.keeps (fun _ _ e => e)
  refine wpAny_mono (wpAny_toks_of (n := s.toks + 1) (Nat.le_refl _) (h _ R1 (by show 1 ≤ s.toks + 1; omega))) (fun v s2 ⟨ht2, st2, R2, S2, n, hv, h1, h2, h3, hp⟩ => ?_) fun _ _ e => e.2
  obtain ⟨u, rfl⟩ := er_int hv
  have S1 : Step NoW st s st2 s2 := ⟨fun b o e hw hb => S2.fram b o e hw hb, fun b hb => S2.grow b hb, fun b e => S2.live b e, fun b hb => S2.growR b hb⟩
  refine PySem.P.mul_str ?_ ?_ ?_ ?_
  · simp; omega
  · intro _ hx0
    have : (x.length : Int) ≤ 16777216 := by
      have : x.length * 1 ≤ x.length * n.toNat := Nat.mul_le_mul_left _ (by omega)
      omega
    have h6 : (16777216 : Int) ≤ (2 ^ 63 - 1) / n := by
      have : n * 16777216 ≤ 9223372036854775807 := by omega
      exact Int.le_ediv_of_mul_le (by omega) (by omega)
    omega
  · intro _ _
    unfold Builtin.Str.tooLong
    rw [sizeLine_eq]
    simp; exact h3
  · rw [if_neg (by omega)]
    split
    · rename_i h0
      have hx : (List.replicate n.toNat x.cps.toList).flatten = x.cps.toList := by
        rcases Bool.or_eq_true_iff.mp h0 with h0 | h0
        · have : n = 1 := by simpa using h0
          subst this; simp
        · have : x.cps.toList = [] := by
            have : x.length = 0 := by simpa using h0
            simpa [Str.length] using this
          rw [this]; simp
      rw [hx] at hp
      exact ⟨st2, R2, S1, x.cps.toList, s.toks, by simp, Nat.le_refl _, hp⟩
    · refine ⟨?_, ?_⟩
      · show (Array.size _) ≤ _
        rw [← Array.length_toList, foldl_append_toList, sizeLine_eq]
        simpa [Nat.mul_comm, Str.length] using h3
      · obtain ⟨st3, R3, S3, h3'⟩ := SW.done (W := NoW) (v := ()) (Q := fun _ => P (List.replicate n.toNat x.cps.toList).flatten) (s' := { s2 with toks := s2.toks + 1 }) R2 (fun _ _ e => e) hp
        refine ⟨st3, R3, S1.trans S3, (List.replicate n.toNat x.cps.toList).flatten, s2.toks, ?_, by omega, h3'⟩
        congr 1
        apply Str.ext'
        apply Array.toList_inj.mp
        rw [foldl_append_toList]; simp

/-- x.replace(c, z) -/
theorem ev_replace {o e' : Expr} {y : Str} {c : Nat} {k : Nat} {apos pos p1 : Pos} (hy : y = ⟨#[c]⟩)
    (h : EV f o st (fun v st1 => ∃ x, v = .str x ∧ EVT f e' st1 (fun z st2 => x.length + (x.length + 1) * z.length ≤ 16777216 ∧ P (.str (blow c z x)) st2)))
    (hbase : attributeBase o "replace" f.env (eval o f.env) = eval o f.env := by rfl)
    (hs : starEach [.Constant (.str y) k p1, e'] f.env = [(false, eval (.Constant (.str y) k p1) f.env), (false, eval e' f.env)] := by rfl)
    (hline : (apos.endLine == pos.line) = true := by rfl) : EV f (.Call (.Attribute o "replace" apos) [.Constant (.str y) k p1, e'] [] pos) st P := by
  intro s R ht
  refine Call_method2 hbase hs hline (wpAny_mono (wpAny_toks_of ht (h s R ht)) (fun ov s1 ⟨ht1, st1, R1, S1, x, hov, h1⟩ => ?_) fun _ _ e => e.2)
  obtain ⟨t, rfl⟩ := er_str hov
  refine ⟨"str", "str.replace", F.plainAttrs_str, F.slot_str_replace, F.type_str_replace, typeIs_str _ _ _, (fun _ e => nomatch e), ?_⟩
  refine callWith_builtin rfl (evalArgs_plain (spliced_cons (wpAny_Constant_str ?_)))
  have R1' : Rel f st1 { s1 with toks := s1.toks + 1 } := R1.keeps (fun _ _ e => e)
  refine spliced_cons (wpAny_mono (h1 _ R1' (by show 1 ≤ s1.toks + 1; omega)) (fun v s2 ⟨st2, R2, S2, z, t2, hv, htk, hlen, hp⟩ => spliced_nil ?_) fun _ _ e => e)
  subst hv
  have S1' : Step NoW st1 s1 st2 s2 := ⟨fun b o e hw hb => S2.fram b o e hw hb, fun b hb => S2.grow b hb, fun b e => S2.live b e, fun b hb => S2.growR b hb⟩
  have htk' : s1.toks + 1 ≤ t2 := htk
  have e1 : @Ne Nat s1.toks 0 := by omega
  have e2 : @Ne Nat t2 0 := by omega
  have e3 : @Ne Nat s1.toks t2 := by omega
  subst hy
  refine SC.replaceA (x := ⟨x.toArray⟩) (y := ⟨#[c]⟩) (z := ⟨z.toArray⟩) (u := s1.toks) (v := t2) e1 e2 e3 (by simpa [Str.length] using hlen) (fun t' k => ?_) ?_
  · obtain ⟨st3, R3, S3, h3⟩ := SW.done (W := NoW) (v := V.str (blow c z x)) (Q := P) (s' := { s2 with toks := k }) R2 (fun _ _ e => e) hp
    refine ⟨st3, R3, S1.trans (S1'.trans S3), ?_⟩
    show P (.str (Txt.replace ⟨x.toArray⟩ ⟨#[c]⟩ ⟨z.toArray⟩).cps.toList) st3
    rw [replace_blow]; exact h3
  · obtain ⟨mc, n1, n2⟩ := f.nb
    exact ⟨mc, n1.keeps R2.keep, n2⟩
end
end Mine

end
section
open PySem PySem.W PyProof.Rows PySem.Calls
set_option Elab.async false
set_option linter.unusedVariables false
set_option maxRecDepth 100000
namespace Mine

def put : List (Str × V) → Str → V → List (Str × V)
  | [], x, v => [(x, v)]
  | (y, u) :: r, x, v => if x == y then (y, v) :: r else (y, u) :: put r x v

theorem lookup_put : ∀ (l : List (Str × V)) (x : Str) (v : V) (y : Str), (put l x v).lookup y = if y = x then some v else l.lookup y
  | [], x, v, y => by
    by_cases h : y = x
    · subst h; simp [put, List.lookup_cons]
    · have : (y == x) = false := by simpa using h
      simp [put, List.lookup_cons, this, h]
  | (z, u) :: r, x, v, y => by
    unfold put
    by_cases hxz : x = z
    · subst hxz
      simp only [beq_self_eq_true, if_true, List.lookup_cons]
      by_cases h : y = x
      · subst h; simp
      · have : (y == x) = false := by simpa using h
        simp [this, h]
    · have e : (x == z) = false := by simpa using hxz
      simp only [e, Bool.false_eq_true, if_false, List.lookup_cons, lookup_put r x v y]
      by_cases h : y = x
      · subst h
        simp [e]
      · by_cases hyz : y = z
        · subst hyz; simp [h]
        · have : (y == z) = false := by simpa using hyz
          simp [this, h]

def St.put (st : St) (x : Str) (v : V) : St := { st with loc := Mine.put st.loc x v }

section
variable {f : Frm} {W : Addr → Prop} {st : St}

/-- one object changed that is no list of ours and nothing of the base's -/
theorem Rel.rest {s s' : Shared} {b : Addr} (R : Rel f st s) (hs : Heap.SameBut b s.heap s'.heap) (hb : b = f.env.locals ∨ b ∈ f.wc)
    (hloc : ∃ m, s'.heap.Ns f.env.locals m ∧ ∀ x v, st.loc.lookup x = some v → ∃ u, er u = v ∧
      ((f.env.kindOf x = some .local ∧ m x = some u) ∨ (f.env.kindOf x = some .cell ∧ ∃ c, f.env.cells.lookup x = some c ∧ s'.heap.IsCell c (some u))))
    (hcell : ∀ c ∈ f.wc, ∃ v, s'.heap.IsCell c v) (hg : s'.gens = s.gens) (ho : (s'.os, s'.drawn) = (s.os, s.drawn)) : Rel f st s' ∧ Step f.W st s st s' := by
  have hL := f.hL
  have hb0 : f.h₀.get? b = none := by
    rcases hb with rfl | hb
    · exact f.hL
    · exact f.hwc b hb
  have hseq : ∀ a ws, s.heap.IsList a ws → a ≠ b := by
    rintro a ws ⟨o, h1, h2, n, h3⟩ rfl
    rcases hb with e | hb
    · obtain ⟨m, ⟨o', es, ep, h4, h5, _⟩, _⟩ := R.loc
      rw [← e, h1] at h4; cases h4; rw [h3] at h5; cases h5
    · obtain ⟨v, o', h4, h5⟩ := R.wcell _ hb
      rw [h1] at h4; cases h4; rw [h3] at h5; cases h5
  refine ⟨⟨hloc, fun a o e => ?_, hcell, fun p hp => ?_, R.nd, fun p hp => ?_, hg.trans R.gens, ho.trans R.os⟩, ⟨fun a o e hw _ => ?_, fun a h => .inl h, fun a e => ?_, fun a h => .inl h⟩⟩
  · exact (hs.2 a (fun e' => by rw [e', hb0] at e; cases e)).trans (R.keep a o e)
  · obtain ⟨⟨ws, n, h1, h2⟩, h3⟩ := R.own p hp
    exact ⟨⟨ws, n, (hs.2 p.1 (hseq _ _ h1.isList)).trans h1, h2⟩, h3⟩
  · obtain ⟨⟨ws, h1, h2⟩, h3⟩ := R.ro p hp
    have := hseq _ _ h1
    obtain ⟨o, h4, r⟩ := h1
    exact ⟨⟨ws, ⟨o, (hs.2 p.1 this).trans h4, r⟩, h2⟩, h3⟩
  · refine (hs.2 a (fun e' => hw ?_)).trans e
    rw [e']; exact hb
  · by_cases hab : a = b
    · subst hab
      rcases hb with e' | hb
      · obtain ⟨m, ⟨o', es, ep, h4, h5, _⟩, _⟩ := hloc
        rw [← e', e] at h4; cases h4
      · obtain ⟨v, o', h4, h5⟩ := hcell _ hb
        rw [e] at h4; cases h4
    · rw [← hs.2 a hab]; exact e

theorem sw_store {x : Str} {v : Value} {Q : Unit → St → Prop} {sc : Scope} (hsc : f.env.scope = sc) (hk : sc.names.lookup x = some .local ∨ (sc.names.lookup x = some .cell ∧ f.wc = f.env.cells.map (·.2) ∧ (f.env.cells.lookup x).isSome = true))
    (h : Q () (st.put x (er v))) : SW f f.W (storeName f.env x v) st Q := by
  intro s R ht
  have hkind : ∀ k, sc.names.lookup x = some k → f.env.kindOf x = some k := fun k e => by unfold Env.kindOf; rw [hsc]; exact e
  obtain ⟨m, hn, hl⟩ := R.loc
  rcases hk with hk | ⟨hk, hwc, hc⟩
  · refine wpAny_storeName_local (hkind _ hk) hn (fun h' hn' hs' => ?_) (by rw [f.kind]; rfl)
    have hcne : ∀ c v, s.heap.IsCell c v → c ≠ f.env.locals := by
      rintro c v ⟨o, h1, h2⟩ rfl
      obtain ⟨o', es, ep, h4, h5, _⟩ := hn
      rw [h1] at h4; cases h4; rw [h2] at h5; cases h5
    have R' : Rel f { st with loc := [] } s := ⟨⟨m, hn, fun y v hy => by simp at hy⟩, R.keep, R.wcell, R.own, R.nd, R.ro, R.gens, R.os⟩
    obtain ⟨R2, S2⟩ := R'.rest (s' := { s with heap := h', toks := s.toks + 1 }) hs' (.inl rfl) ⟨_, hn', fun y v hy => by simp at hy⟩
      (fun c hc => let ⟨v, h1⟩ := R.wcell c hc; ⟨v, h1.sameBut hs' (hcne c v h1)⟩) rfl rfl
    refine ⟨st.put x (er v), ⟨⟨_, hn', fun y u hy => ?_⟩, R2.keep, R2.wcell, R2.own, R2.nd, R2.ro, R2.gens, R2.os⟩, ⟨S2.fram, S2.grow, S2.live, S2.growR⟩, h⟩
    have hy' : (put st.loc x (er v)).lookup y = some u := hy
    rw [lookup_put] at hy'
    by_cases hyx : y = x
    · subst hyx
      simp at hy'
      exact ⟨v, hy', .inl ⟨hkind _ hk, by simp⟩⟩
    · rw [if_neg hyx] at hy'
      obtain ⟨u', hu', h1⟩ := hl y u hy'
      refine ⟨u', hu', ?_⟩
      rcases h1 with ⟨h1, h2⟩ | ⟨h1, c, h2, h3⟩
      · exact .inl ⟨h1, by rw [if_neg hyx]; exact h2⟩
      · exact .inr ⟨h1, c, h2, h3.sameBut hs' (hcne c _ h3)⟩
  · obtain ⟨c, hc⟩ := Option.isSome_iff_exists.mp hc
    have hcw : c ∈ f.wc := by rw [hwc]; exact List.mem_map_of_mem (mem_of_lookup hc)
    obtain ⟨v0, hv0⟩ := R.wcell c hcw
    refine wpAny_storeName_cell f.kind (hkind _ hk) hc hv0 fun h' hv' hs' => ?_
    have hLc : f.env.locals ≠ c := by
      rintro rfl
      obtain ⟨o, h1, h2⟩ := hv0
      obtain ⟨o', es, ep, h4, h5, _⟩ := hn
      rw [h1] at h4; cases h4; rw [h2] at h5; cases h5
    have R' : Rel f { st with loc := [] } s := ⟨⟨m, hn, fun y v hy => by simp at hy⟩, R.keep, R.wcell, R.own, R.nd, R.ro, R.gens, R.os⟩
    obtain ⟨R2, S2⟩ := R'.rest (s' := { s with heap := h' }) hs' (.inr hcw) ⟨_, hn.sameBut hs' hLc, fun y v hy => by simp at hy⟩
      (fun d hd => by
        by_cases hdc : d = c
        · subst hdc; exact ⟨_, hv'⟩
        · obtain ⟨v, h1⟩ := R.wcell d hd; exact ⟨v, h1.sameBut hs' hdc⟩) rfl rfl
    refine ⟨st.put x (er v), ⟨⟨_, hn.sameBut hs' hLc, fun y u hy => ?_⟩, R2.keep, R2.wcell, R2.own, R2.nd, R2.ro, R2.gens, R2.os⟩, ⟨S2.fram, S2.grow, S2.live, S2.growR⟩, h⟩
    have hy' : (put st.loc x (er v)).lookup y = some u := hy
    rw [lookup_put] at hy'
    by_cases hyx : y = x
    · subst hyx
      simp at hy'
      exact ⟨v, hy', .inr ⟨hkind _ hk, c, hc, hv'⟩⟩
    · rw [if_neg hyx] at hy'
      obtain ⟨u', hu', h1⟩ := hl y u hy'
      refine ⟨u', hu', ?_⟩
      rcases h1 with h1 | ⟨h1, d, h2, h3⟩
      · exact .inl h1
      · exact .inr ⟨h1, d, h2, h3.sameBut hs' fun e => hyx (f.hinj y x c (e ▸ h2) hc)⟩

theorem NoW_wide {α : Type} {t : Sem α} {P : α → St → Prop} (h : SW f NoW t st P) : SW f f.W t st P := h.wide fun _ h => h.elim

variable {P : Fl → St → Prop}

theorem ex_nil {st' : St} (hs : Sub st' st) (h : P .next st') : EX f [] st P :=
  fun s R ht => wpAny_execs_nil ⟨st', R.weaken hs, .weaken hs, h⟩

theorem ex_cons {t : Stmt} {rest : List Stmt} (h : EX1 f t st (fun fl st1 => match fl with | .next => EX f rest st1 P | fl => P fl st1)) : EX f (t :: rest) st P := by
  intro s R ht
  refine wpAny_execs_cons (wpAny_mono (wpAny_toks_of ht (h s R ht)) (fun fl s1 ⟨ht1, st1, R1, S1, h1⟩ => ?_) fun _ _ e => e.2)
  cases fl with
  | next => exact wpAny_mono (h1 s1 R1 ht1) (fun v s2 ⟨st2, R2, S2, h2⟩ => ⟨st2, R2, S1.trans S2, h2⟩) fun _ _ e => e
  | brk => exact ⟨st1, R1, S1, h1⟩
  | cont => exact ⟨st1, R1, S1, h1⟩
  | ret v => exact ⟨st1, R1, S1, h1⟩

theorem ex_assign {x : Str} {xp pos : Pos} {value : Expr} {sc : Scope} (hsc : f.env.scope = sc) (hk : sc.names.lookup x = some .local ∨ (sc.names.lookup x = some .cell ∧ f.wc = f.env.cells.map (·.2) ∧ (f.env.cells.lookup x).isSome = true))
    (h : EV f value st (fun v st1 => P .next (st1.put x v))) (hs : swapsWith value (some (.Name x xp)) pos.line f.env = pure false := by rfl) : EX1 f (.Assign [.Name x xp] value pos) st P := by
  intro s R ht
  refine wpAny_Assign_Name (wpAny_mono (wpAny_toks_of ht (h s R ht)) (fun v s1 ⟨ht1, st1, R1, S1, h1⟩ => ?_) fun _ _ e => e.2) hs
  exact wpAny_mono (sw_store (Q := fun _ => P .next) hsc hk h1 s1 R1 ht1) (fun _ s2 ⟨st2, R2, S2, h2⟩ => ⟨st2, R2, (S1.mono fun _ h => h.elim).trans S2, h2⟩) fun _ _ e => e

theorem ex_if {test : Expr} {body orelse : List Stmt} {pos : Pos} (h : IT f test st (fun b st1 => (b = true → EX f body st1 P) ∧ (b = false → EX f orelse st1 P))) : EX1 f (.If test body orelse pos) st P := by
  intro s R ht
  refine wpAny_If (wpAny_mono (wpAny_toks_of ht (h s R ht)) (fun b s1 ⟨ht1, st1, R1, S1, h1⟩ => ?_) fun _ _ e => e.2)
  cases b
  · exact wpAny_mono (h1.2 rfl s1 R1 ht1) (fun _ s2 ⟨st2, R2, S2, h2⟩ => ⟨st2, R2, (S1.mono fun _ h => h.elim).trans S2, h2⟩) fun _ _ e => e
  · exact wpAny_mono (h1.1 rfl s1 R1 ht1) (fun _ s2 ⟨st2, R2, S2, h2⟩ => ⟨st2, R2, (S1.mono fun _ h => h.elim).trans S2, h2⟩) fun _ _ e => e

theorem ex_return {e : Expr} {pos : Pos} (h : EV f e st (fun v st1 => P (.ret v) st1)) : EX1 f (.Return (some e) pos) st P :=
  fun s R ht => wpAny_Return_some (wpAny_mono (h s R ht) (fun v s1 ⟨st1, R1, S1, h1⟩ => ⟨st1, R1, S1.mono fun _ h => h.elim, h1⟩) fun _ _ e => e)
theorem ex_break {pos : Pos} {st' : St} (hs : Sub st' st) (h : P .brk st') : EX1 f (.Break pos) st P := fun s R ht => wpAny_Break ⟨st', R.weaken hs, .weaken hs, h⟩
theorem ex_continue {pos : Pos} {st' : St} (hs : Sub st' st) (h : P .cont st') : EX1 f (.Continue pos) st P := fun s R ht => wpAny_Continue ⟨st', R.weaken hs, .weaken hs, h⟩

theorem ex_expr {e : Expr} {pos : Pos} (h : EV f e st (fun v st1 => v = .none ∧ P .next st1)) (hi : interactive f.env = false) (hs : swapsWith e none pos.line f.env = pure false := by rfl) : EX1 f (.Expr e pos) st P :=
  fun s R ht => wpAny_Expr (wpAny_mono (h s R ht) (fun v s1 ⟨st1, R1, S1, hv, h1⟩ => by
    cases er_none hv
    exact ⟨st1, R1, S1.mono fun _ h => h.elim, h1⟩) fun _ _ e => e) hi hs

theorem interactive_no {sc : Scope} (hsc : f.env.scope = sc) (hk : sc.kind = .function) : interactive f.env = false := by
  unfold interactive; rw [hsc, hk]; rfl

/-- a while by an invariant that bears a falling number -/
theorem ex_while {test : Expr} {body orelse : List Stmt} {pos : Pos} (Inv : Nat → St → Prop) (n : Nat) (h0 : Inv n st)
    (step : ∀ n st', Inv n st' → IT f test st' (fun b st1 => (b = true → EX f body st1 (fun fl st2 => match fl with
        | .next | .cont => ∃ m, m < n ∧ Inv m st2
        | .brk => P .next st2
        | .ret v => P (.ret v) st2)) ∧ (b = false → EX f orelse st1 P))) : EX1 f (.While test body orelse pos) st P := by
  intro s R ht
  refine wpAny_While (codeAny_whileLoop (I := fun n s' => ∃ st', Rel f st' s' ∧ Step f.W st s st' s' ∧ Inv n st' ∧ 1 ≤ s'.toks) ?_ n ⟨st, R, .refl .., h0, ht⟩)
  rintro k s1 ⟨st1, R1, S1, hI, ht1⟩
  refine wpAny_mono (wpAny_toks_of ht1 (step k st1 hI s1 R1 ht1)) (fun b s2 ⟨ht2, st2, R2, S2, h2⟩ => ?_) fun _ _ e => e.2.elim
  have S12 := S1.trans (S2.mono fun _ h => h.elim)
  cases b
  · simp only [Bool.false_eq_true, if_false]
    exact wpAny_mono (h2.2 rfl s2 R2 ht2) (fun fl s3 ⟨st3, R3, S3, h3⟩ => ⟨st3, R3, S12.trans S3, h3⟩) fun _ _ e => e.elim
  · simp only [if_true]
    refine wpAny_mono (wpAny_toks_of ht2 (h2.1 rfl s2 R2 ht2)) (fun fl s3 ⟨ht3, st3, R3, S3, h3⟩ => ?_) fun _ _ e => e.2.elim
    cases fl with
    | next => obtain ⟨m, hm, hI'⟩ := h3; exact ⟨m, hm, st3, R3, S12.trans S3, hI', ht3⟩
    | cont => obtain ⟨m, hm, hI'⟩ := h3; exact ⟨m, hm, st3, R3, S12.trans S3, hI', ht3⟩
    | brk => exact ⟨st3, R3, S12.trans S3, h3⟩
    | ret v => exact ⟨st3, R3, S12.trans S3, h3⟩
end
end Mine

end
section
open PySem PySem.W PyProof.Rows PySem.Calls
set_option Elab.async false
set_option linter.unusedVariables false
set_option maxRecDepth 100000
namespace Mine

section
variable {f : Frm} {W : Addr → Prop} {st : St} {P : Fl → St → Prop}

/-- xs[i] = v, the list one of the frame's own -/
theorem ex_setitem {o i value : Expr} {p pos : Pos}
    (h : EV f value st (fun v st1 => EV f o st1 (fun ov st2 => EV f i st2 (fun iv st3 => ∃ a k pre xs post, ov = .ref a ∧ iv = .int k ∧ st3.own = pre ++ (a, xs) :: post ∧ 0 ≤ k ∧ k < xs.length ∧ xs.length ≤ 16777216 ∧
      P .next { st3 with own := pre ++ (a, xs.set k.toNat v) :: post }))))
    (hs : swapsWith value (some (.Subscript o i p)) pos.line f.env = pure false := by rfl) : EX1 f (.Assign [.Subscript o i p] value pos) st P := by
  intro s R ht
  refine wpAny_Assign_Subscript (wpAny_mono (wpAny_toks_of ht (h s R ht)) (fun v s1 ⟨ht1, st1, R1, S1, h1⟩ => ?_) fun _ _ e => e.2) hs
  refine wpAny_mono (wpAny_toks_of ht1 (h1 s1 R1 ht1)) (fun ov s2 ⟨ht2, st2, R2, S2, h2⟩ => ?_) fun _ _ e => e.2
  refine wpAny_mono (wpAny_toks_of ht2 (h2 s2 R2 ht2)) (fun iv s3 ⟨ht3, st3, R3, S3, a, k, pre, xs, post, ho, hi, how, hk0, hk1, hlen, hp⟩ => ?_) fun _ _ e => e.2
  cases er_ref ho
  obtain ⟨t, rfl⟩ := er_int hi
  obtain ⟨⟨ws, n, hl, he⟩, _⟩ := R3.own (a, xs) (by rw [how]; simp)
  have he : ws.toList.map er = xs := he
  have hwl : ws.size = xs.length := by have := congrArg List.length he; simpa using this
  refine ki_setAt (items := ws) (n := n) hl hk0 (by omega) (by omega) ?_
  obtain ⟨st4, R4, S4, h4⟩ := SW.turned (W := f.W) (Q := fun _ st' => P .next st') (v := ()) (s' := { s3 with heap := s3.heap.update a (Obj.mapSeq (·.setIfInBounds k.toNat v)) }) (ys := xs.set k.toNat (er v)) R3 how
    (IsL.update hl (·.setIfInBounds k.toNat v)) (by rw [← he]; apply List.ext_getElem? ; intro j; simp only [Array.toList_setIfInBounds, List.getElem?_map, List.getElem?_set, List.length_map]; split <;> (try split) <;> simp_all) (Heap.SameBut.update ..) hp
  exact ⟨st4, R4, ((S1.trans (S2.trans S3)).mono fun _ h => h.elim).trans S4, h4⟩
end

/-- what a def of the text gives back -/
def FnSpec (w : Wd) (g : Str) (args : List V) (ro : List (Addr × List V)) (k : Nat) (post : V → List (Addr × List V) → Prop) : Prop :=
  ∀ (A : Around) (s : Shared) (fa : Addr) (vals : List Value), A.handled = none → A.depth + k < recursionLimit → A.units + 64 + 3 * k < cLine → Top w.p w.loose w.mean w.mg w.mb s.heap → NoneBooked s.heap →
    w.mg g = some (.ref fa) → vals.map er = args → (∀ p ∈ ro, ∃ ws, s.heap.IsList p.1 ws ∧ ws.toList.map er = p.2) → 1 ≤ s.toks →
    codeAny (model w.prog w.w) A (.call (.ref fa) ⟨vals, []⟩) (fun r s' => ∃ v new, r = .ok (.ret v) ∧ post (er v) new ∧ (∀ b o, s.heap.get? b = some o → s'.heap.get? b = some o) ∧ s'.gens = s.gens ∧ (s'.os, s'.drawn) = (s.os, s.drawn) ∧
      (∀ p ∈ new, (∃ ws n, IsL s'.heap p.1 ws n ∧ ws.toList.map er = p.2) ∧ s.heap.get? p.1 = none) ∧ (new.map (·.1)).Nodup) s

theorem FnSpec.mono {w : Wd} {g : Str} {args : List V} {ro ro' : List (Addr × List V)} {k k' : Nat} {post post' : V → List (Addr × List V) → Prop} (h : FnSpec w g args ro k post) (hk : k ≤ k')
    (hro : ∀ p ∈ ro, p ∈ ro') (hp : ∀ v new, post v new → post' v new) : FnSpec w g args ro' k' post' :=
  fun A s fa vals hh hr hu T nb hg hv hro' ht => codeAny_mono (h A s fa vals hh (by omega) (by omega) T nb hg hv (fun p hp => hro' p (hro p hp)) ht)
    fun r s' ⟨v, new, h1, h2, h3⟩ => ⟨v, new, h1, hp _ _ h2, h3⟩

section
variable {f : Frm} {W : Addr → Prop} {st : St} {P : V → St → Prop}

/-- lists that came back from a call -/
theorem Rel.gain {s s' : Shared} {new : List (Addr × List V)} (R : Rel f st s) (hk : ∀ b o, s.heap.get? b = some o → s'.heap.get? b = some o) (hg : s'.gens = s.gens) (ho : (s'.os, s'.drawn) = (s.os, s.drawn))
    (hn : ∀ p ∈ new, (∃ ws n, IsL s'.heap p.1 ws n ∧ ws.toList.map er = p.2) ∧ s.heap.get? p.1 = none) (hd : (new.map (·.1)).Nodup) :
    Rel f { st with own := new ++ st.own } s' ∧ Step W st s { st with own := new ++ st.own } s' := by
  have R' : Rel f st s' := R.keeps hk hg ho
  have hne : ∀ p ∈ new, p.1 ∉ st.own.map (·.1) := by
    intro p hp hm
    obtain ⟨q, hq, he⟩ := List.mem_map.mp hm
    obtain ⟨⟨ws, n, h1, _⟩, _⟩ := R.own q hq
    have h1' : s.heap.get? q.1 = _ := h1
    rw [he, (hn p hp).2] at h1'; cases h1'
  refine ⟨⟨R'.loc, R'.keep, R'.wcell, ?_, ?_, ?_, R'.gens, R'.os⟩, ⟨fun b o e _ _ => hk b o e, ?_, (Step.keeps (W := W) (st := st) hk).live, fun b hb => .inl hb⟩⟩
  · intro p hp
    rcases List.mem_append.mp hp with hp | hp
    · refine ⟨(hn p hp).1, ?_⟩
      cases e : f.h₀.get? p.1 with
      | none => rfl
      | some o => have := R.keep _ _ e; rw [(hn p hp).2] at this; cases this
    · exact R'.own p hp
  · show ((new ++ st.own).map (·.1)).Nodup
    rw [List.map_append, List.nodup_append]
    refine ⟨hd, R.nd, ?_⟩
    rintro a ha b hb rfl
    obtain ⟨p, hp, rfl⟩ := List.mem_map.mp ha
    exact hne p hp hb
  · intro p hp
    obtain ⟨h1, h2⟩ := R'.ro p hp
    refine ⟨h1, ?_⟩
    show p.1 ∉ (new ++ st.own).map (·.1)
    rw [List.map_append, List.mem_append, not_or]
    refine ⟨fun hm => ?_, h2⟩
    obtain ⟨q, hq, he⟩ := List.mem_map.mp hm
    obtain ⟨⟨ws, ⟨o, h3, _⟩, _⟩, _⟩ := R.ro p hp
    rw [← he, (hn q hq).2] at h3; cases h3
  · intro b hb
    have hb' : b ∈ (new ++ st.own).map (·.1) := hb
    rw [List.map_append, List.mem_append] at hb'
    rcases hb' with hb' | hb'
    · obtain ⟨q, hq, rfl⟩ := List.mem_map.mp hb'
      exact .inr (hn q hq).2
    · exact .inl hb'

/-- a call of a def of the text -/
theorem ev_call {g : Str} {np pos : Pos} {e : Expr} {rest : List Expr} {sc : Scope} {d : DefRec} (hd : d ∈ recsOf f.wd.p) (hname : d.name = g) (hsc : f.env.scope = sc) (hx : sc.names.lookup g = some .globalImplicit)
    (h : EVL f pos (e :: rest) st (fun args st1 => ∃ k post, k ≤ f.k ∧ FnSpec f.wd g args (st1.own ++ st1.ro) k post ∧ ∀ v new, post v new → P v { st1 with own := new ++ st1.own }))
    (hdb : (g == ("__debug__" : Str)) = false := by decide)
    (he : starEach (e :: rest) f.env = (false, eval e f.env) :: starEach rest f.env := by rfl)
    (hc : eval (.Call (.Name g np) (e :: rest) [] pos) f.env = (do callWith pos (← eval (.Name g np) f.env) [] (backTo pos (starEach (e :: rest) f.env)) (backToKw pos (keywordEach [] f.env))) := by rfl) :
    EV f (.Call (.Name g np) (e :: rest) [] pos) st P := by
  intro s R ht
  rw [hc]
  have T := f.top.keeps R.keep
  obtain ⟨fa, o, pm, code, doc, h1, h2, h3, h4⟩ := T.fn d hd
  rw [hname] at h1
  refine wpAny_bind (Name_function_global f.kind (by unfold Env.kindOf; rw [hsc]; exact hx) (loadGlobal_global (by rw [f.glob]; exact T.g) h1 ?_) hdb)
  refine callWith_def (o := o) h3 (wpAny_mono (wpAny_toks_of ht (h s R ht)) (fun vs s1 ⟨ht1, st1, R1, S1, k, post, hk, hsp, hp⟩ => ?_) fun _ _ e => e.2) he
  have T1 := f.top.keeps R1.keep
  have hfa : s1.heap.get? fa = some o := by
    obtain ⟨fa', o', pm', code', doc', g1, g2, _⟩ := f.top.fn d hd
    rw [hname, h1] at g1
    cases g1
    have := R.keep _ _ g2
    rw [h2] at this; cases this
    exact R1.keep _ _ g2
  refine ⟨hfa, wpAny_call (codeAny_mono (hsp f.A s1 fa vs f.hand (by have := f.room; omega) (by have := f.unit; omega) T1 (let ⟨mc, n1, n2⟩ := f.nb; ⟨mc, n1.keeps R1.keep, n2⟩) h1 rfl (fun p hp => ?_) ht1) ?_)⟩
  · exact R1.list (List.mem_append.mp hp)
  · rintro r s2 ⟨v, new, rfl, hpost, hk2, hg, ho, hn, hnd⟩
    obtain ⟨R2, S2⟩ := R1.gain (W := NoW) hk2 hg ho hn hnd
    exact ⟨_, R2, S1.trans S2, hp _ _ hpost⟩
end

theorem lookup_er : ∀ (bs : List (Str × Value)) (x : Str) (v : V), (bs.map fun p => (p.1, er p.2)).lookup x = some v → ∃ u, er u = v ∧ bs.lookup x = some u
  | [], x, v, h => by simp at h
  | (y, u) :: r, x, v, h => by
    simp only [List.map_cons, List.lookup_cons] at h ⊢
    cases hb : x == y
    · rw [hb] at h; exact lookup_er r x v h
    · rw [hb] at h; exact ⟨u, by simpa using h, rfl⟩

theorem zip_er (names : List Str) (vals : List Value) : ((names.zip vals).reverse.map fun p => (p.1, er p.2)) = (names.zip (vals.map er)).reverse := by
  rw [List.map_reverse]
  congr 1
  induction names generalizing vals with
  | nil => simp
  | cons n ns ih =>
    cases vals with
    | nil => simp
    | cons v vs => simp [ih]

/-- the frame of a def: its scope, and all its cells its own -/
def Frm.Fn (f : Frm) (sc : Scope) : Prop := f.env.scope = sc ∧ f.wc = f.env.cells.map (·.2) ∧ ∀ x, sc.names.lookup x = some .cell → (f.env.cells.lookup x).isSome = true

theorem Frm.Fn.st {f : Frm} {sc : Scope} {x : Str} (h : f.Fn sc) (hk : sc.names.lookup x = some .local ∨ sc.names.lookup x = some .cell) :
    sc.names.lookup x = some .local ∨ (sc.names.lookup x = some .cell ∧ f.wc = f.env.cells.map (·.2) ∧ (f.env.cells.lookup x).isSome = true) :=
  hk.imp id fun e => ⟨e, h.2.1, h.2.2 x e⟩

/-- a def without cells -/
theorem FnSpec.of_body {w : Wd} {d : DefRec} {args : List V} {ro : List (Addr × List V)} {k : Nat} {post : V → List (Addr × List V) → Prop} (hd : d ∈ recsOf w.p)
    (hbind : ∀ pm cd doc vals, vals.length = args.length → bindArgs (docDef d.name d.params d.body d.scope pm cd doc) ⟨vals, []⟩ = pure ((d.params.args.map (·.arg)).zip vals))
    (hloc : (d.params.args.map (·.arg)).all (fun x => decide (d.scope.names.lookup x = some .local)) = true)
    (hco : d.scope.isCoroutine = false) (hgen : d.scope.isGenerator = false) (hk : d.scope.kind = .function) (hcell : ∀ x ∈ d.scope.names, x.2 ≠ .cell)
    (h : ∀ f : Frm, f.wd = w → f.env.scope = d.scope → f.k = k → f.Fn d.scope → EX f d.body ⟨((d.params.args.map (·.arg)).zip args).reverse, [], ro⟩ (fun fl st => ∃ v new, fl = .ret v ∧ post v new ∧ new.Sublist st.own)) :
    FnSpec w d.name args ro (k + 1) post := by
  intro A s fa vals hh hr hu T nb hg hv hro ht
  obtain ⟨fa', o, pm, code, doc, h1, h2, h3, h4⟩ := T.fn d hd
  rw [h1] at hg; cases hg
  refine call_plain_ret (binds := (d.params.args.map (·.arg)).zip vals) (by omega) h2 h3 T.nolimit h4 (hbind pm code doc vals (by rw [← hv]; simp)) (fun x hx => ?_) (fun h₁ F => ?_) hco hgen hk hcell
  · have := List.of_mem_zip hx
    exact of_decide_eq_true (List.all_eq_true.mp hloc _ this.1)
  · have hL0 : s.heap.get? s.heap.objs.size = none := by
      cases e : s.heap.get? s.heap.objs.size with
      | none => rfl
      | some o => exact absurd (Heap.lt_size e) (Nat.lt_irrefl _)
    let f : Frm :=
      { wd := w
        A := A.deeper (envOf d.name d.scope s.heap.objs.size fa code)
        env := envOf d.name d.scope s.heap.objs.size fa code
        h₀ := s.heap
        wc := []
        s₀ := s
        top := T
        nb := nb
        kind := hk
        glob := rfl
        blt := rfl
        hand := hh
        hL := hL0
        hwc := fun c hc => nomatch hc
        hinj := fun x y c hx => by simp [envOf] at hx
        k := k
        room := by show A.depth + 1 + k < _; omega
        unit := by show A.units + 3 + 64 + 3 * k < _; omega }
    have R : Rel f ⟨((d.params.args.map (·.arg)).zip args).reverse, [], ro⟩ { s with heap := h₁, toks := s.toks + ((d.params.args.map (·.arg)).zip vals).length } := by
      refine ⟨⟨_, F.ns, fun x v hx => ?_⟩, F.keep, fun c hc => by simp [f] at hc, fun p hp => by simp at hp, by simp, fun p hp => ?_, rfl, rfl⟩
      · rw [← hv] at hx
        have hx' : ((((d.params.args.map (·.arg)).zip vals).reverse).map fun p => (p.1, er p.2)).lookup x = some v := by rw [zip_er]; exact hx
        obtain ⟨u, hu, hl⟩ := lookup_er _ _ _ hx'
        refine ⟨u, hu, .inl ⟨?_, hl⟩⟩
        have hmem := mem_of_lookup hl
        have := List.of_mem_zip (List.mem_reverse.mp hmem)
        exact of_decide_eq_true (List.all_eq_true.mp hloc _ this.1)
      · obtain ⟨ws, ⟨o, ho, r⟩, h2⟩ := hro p hp
        exact ⟨⟨ws, ⟨o, F.keep _ _ ho, r⟩, h2⟩, by simp⟩
    have hno : ∀ x, d.scope.names.lookup x = some .cell → (f.env.cells.lookup x).isSome = true := fun x e => absurd rfl (hcell _ (mem_of_lookup e))
    refine wpAny_mono (h f rfl rfl rfl ⟨rfl, rfl, hno⟩ _ R (by show 1 ≤ s.toks + _; omega)) (fun fl s' ⟨st', R', S', v, new, hfl, hpost, hsub⟩ => ?_) fun _ _ e => e
    cases fl with
    | ret u =>
      have hu : er u = v := by simpa [erF] using hfl
      subst hu
      exact ⟨u, new, rfl, hpost, R'.keep, R'.gens, R'.os, fun p hp => R'.own p (hsub.subset hp), List.Nodup.sublist (hsub.map _) R'.nd⟩
    | next => simp [erF] at hfl
    | brk => simp [erF] at hfl
    | cont => simp [erF] at hfl
theorem bindL_eq (kindOf : Str → Option NameKind) : ∀ (binds : List (Str × Value)) (m : Str → Option Value) (x : Str), bindL kindOf binds m x = if kindOf x = some .local then (binds.reverse.lookup x).or (m x) else m x
  | [], m, x => by simp [bindL]
  | (n, v) :: r, m, x => by
    unfold bindL
    rw [bindL_eq kindOf r]
    by_cases hx : kindOf x = some .local
    · simp only [hx, if_true, List.reverse_cons, List.lookup_append, Option.or_assoc]
      congr 1
      by_cases hn : kindOf n = some .local
      · rw [if_pos hn]
        by_cases e : x = n
        · subst e; simp [List.lookup_cons]
        · have : (x == n) = false := by simpa using e
          simp [List.lookup_cons, this, e]
      · rw [if_neg hn]
        have e : x ≠ n := fun e => hn (e ▸ hx)
        have : (x == n) = false := by simpa using e
        simp [List.lookup_cons, this]
    · simp only [hx, if_false]
      by_cases hn : kindOf n = some .local
      · rw [if_pos hn]
        have e : x ≠ n := fun e => hx (e ▸ hn)
        simp [e]
      · rw [if_neg hn]
theorem bindC_eq (kindOf : Str → Option NameKind) : ∀ (binds : List (Str × Value)) (m : Str → Option Value) (x : Str), ¬ kindOf x = some .local → bindC kindOf binds m x = (binds.reverse.lookup x).or (m x)
  | [], m, x, _ => by simp [bindC]
  | (n, v) :: r, m, x, hx => by
    unfold bindC
    rw [bindC_eq kindOf r _ x hx]
    simp only [List.reverse_cons, List.lookup_append, Option.or_assoc]
    congr 1
    by_cases hn : kindOf n = some .local
    · rw [if_pos hn]
      have e : x ≠ n := fun e => hx (e ▸ hn)
      have : (x == n) = false := by simpa using e
      simp [List.lookup_cons, this]
    · rw [if_neg hn]
      by_cases e : x = n
      · subst e; simp [List.lookup_cons]
      · have : (x == n) = false := by simpa using e
        simp [List.lookup_cons, this, e]

/-- a def with cells -/
theorem FnSpec.of_cells {w : Wd} {d : DefRec} {args : List V} {ro : List (Addr × List V)} {k : Nat} {post : V → List (Addr × List V) → Prop} (hd : d ∈ recsOf w.p)
    (hbind : ∀ pm cd doc vals, vals.length = args.length → bindArgs (docDef d.name d.params d.body d.scope pm cd doc) ⟨vals, []⟩ = pure ((d.params.args.map (·.arg)).zip vals))
    (hloc : (d.params.args.map (·.arg)).all (fun x => decide (d.scope.names.lookup x = some .local ∨ d.scope.names.lookup x = some .cell)) = true)
    (hnd : ((cellsFrom 0 d.scope.names []).map (·.1)).Nodup)
    (hco : d.scope.isCoroutine = false) (hgen : d.scope.isGenerator = false) (hk : d.scope.kind = .function)
    (h : ∀ f : Frm, f.wd = w → f.env.scope = d.scope → f.k = k → f.Fn d.scope → EX f d.body ⟨((d.params.args.map (·.arg)).zip args).reverse, [], ro⟩ (fun fl st => ∃ v new, fl = .ret v ∧ post v new ∧ new.Sublist st.own)) :
    FnSpec w d.name args ro (k + 1) post := by
  intro A s fa vals hh hr hu T nb hg hv hro ht
  obtain ⟨fa', o, pm, code, doc, h1, h2, h3, h4⟩ := T.fn d hd
  rw [h1] at hg; cases hg
  refine codeAny_call_function (fd := docDef d.name d.params d.body d.scope pm code doc) (by omega) h2 h3 hco hgen rfl h4 ?_
  rw [hbind pm code doc vals (by rw [← hv]; simp)]
  have hsome : ∀ n x, d.scope.names.lookup x = some .cell → ((cellsFrom n d.scope.names []).lookup x).isSome = true := fun n x e => cellsFrom_some d.scope.names n [] (.inl e)
  have hnew := wpAny_newFunctionEnv_cells (M := model w.prog w.w) (A := A.in1) (E := fun _ _ => False) (s := s) (scope := d.scope) (globals := mainGlobals) (binds := (d.params.args.map (·.arg)).zip vals) (qual := d.name ++ ".<locals>.") (func := some fa) (code := code) (builtins := builtinsNs)
    (Q := fun env s' => env = newEnv d.scope s.heap.objs.size mainGlobals (cellsFrom (s.heap.objs.size + 1) d.scope.names []) (d.name ++ ".<locals>.") (some fa) code none builtinsNs ∧
      InCallC s env.locals (bindL env.kindOf ((d.params.args.map (·.arg)).zip vals) fun _ => none) env.cells (bindC env.kindOf ((d.params.args.map (·.arg)).zip vals) fun _ => none) s') hk
    (fun x hx => by
      have := List.of_mem_zip hx
      have := of_decide_eq_true (List.all_eq_true.mp hloc _ this.1)
      exact this.imp id fun e => ⟨e, hsome _ _ e⟩) (fun env he s' x => ⟨he, x⟩)
  refine wpAny_pure (wpAny_mono (wpAny_toks_of ht hnew) (fun env s' ⟨ht', he, X⟩ => ?_) fun _ _ e => e.2.elim)
  have hL0 : s.heap.get? s.heap.objs.size = none := by
    cases e : s.heap.get? s.heap.objs.size with
    | none => rfl
    | some o => exact absurd (Heap.lt_size e) (Nat.lt_irrefl _)
  subst he
  generalize henv : newEnv d.scope s.heap.objs.size mainGlobals (cellsFrom (s.heap.objs.size + 1) d.scope.names []) (d.name ++ ".<locals>.") (some fa) code none builtinsNs = env at *
  have e1 : env.scope = d.scope := by rw [← henv]; rfl
  have e2 : env.cells = cellsFrom (s.heap.objs.size + 1) d.scope.names [] := by rw [← henv]; rfl
  have e3 : env.locals = s.heap.objs.size := by rw [← henv]; rfl
  have e4 : env.globals = mainGlobals := by rw [← henv]; rfl
  have e5 : env.builtins = builtinsNs := by rw [← henv]; rfl
  have hnd' : (env.cells.map (·.1)).Nodup := by
    rw [e2, cellsFrom_names d.scope.names (s.heap.objs.size + 1) 0 [] [] rfl]; exact hnd
  refine ⟨T.nolimit.keeps X.toInCall.keep, codeAny_func (wpAny_mono (Q := fun fl s'' => ∃ u new, fl = .ret u ∧ post (er u) new ∧ (∀ b o, s.heap.get? b = some o → s''.heap.get? b = some o) ∧ s''.gens = s.gens ∧ (s''.os, s''.drawn) = (s.os, s.drawn) ∧
      (∀ p ∈ new, (∃ ws n, IsL s''.heap p.1 ws n ∧ ws.toList.map er = p.2) ∧ s.heap.get? p.1 = none) ∧ (new.map (·.1)).Nodup) (E := fun _ _ => False) ?_ ?_ fun _ _ e => e.elim)⟩
  · let f : Frm :=
      { wd := w
        A := A.deeper env
        env := env
        h₀ := s.heap
        wc := env.cells.map (·.2)
        s₀ := s
        top := T
        nb := nb
        kind := by rw [e1]; exact hk
        glob := e4
        blt := e5
        hand := hh
        hL := by rw [e3]; exact hL0
        hwc := fun c hc => by
          obtain ⟨p, hp, rfl⟩ := List.mem_map.mp hc
          have := X.above p.1 p.2 hp
          cases e : s.heap.get? p.2 with
          | none => rfl
          | some o => have h5 := Heap.lt_size e; rw [e3] at this; exact absurd (Nat.lt_trans h5 this) (Nat.lt_irrefl _)
        hinj := fun x y c hx hy => name_of_addr X.apart (mem_of_lookup hx) (mem_of_lookup hy)
        k := k
        room := by show A.depth + 1 + k < _; omega
        unit := by show A.units + 3 + 64 + 3 * k < _; omega }
    obtain ⟨hh1, tk1, hs1⟩ := X.toInCall.same
    have R : Rel f ⟨((d.params.args.map (·.arg)).zip args).reverse, [], ro⟩ s' := by
      refine ⟨⟨_, X.toInCall.ns, fun x v hx => ?_⟩, X.toInCall.keep, fun c hc => ?_, fun p hp => by simp at hp, by simp, fun p hp => ?_, ?_, ?_⟩
      · rw [← hv] at hx
        have hx' : ((((d.params.args.map (·.arg)).zip vals).reverse).map fun p => (p.1, er p.2)).lookup x = some v := by rw [zip_er]; exact hx
        obtain ⟨u, hu, hl⟩ := lookup_er _ _ _ hx'
        refine ⟨u, hu, ?_⟩
        have hmem := mem_of_lookup hl
        have := List.of_mem_zip (List.mem_reverse.mp hmem)
        rcases of_decide_eq_true (List.all_eq_true.mp hloc _ this.1) with e | e
        · have hk' : env.kindOf x = some .local := by unfold Env.kindOf; rw [e1]; exact e
          refine .inl ⟨hk', ?_⟩
          rw [bindL_eq, if_pos hk', hl]; rfl
        · have hk' : env.kindOf x = some .cell := by unfold Env.kindOf; rw [e1]; exact e
          obtain ⟨c, hc⟩ := Option.isSome_iff_exists.mp (hsome (s.heap.objs.size + 1) x e)
          rw [← e2] at hc
          refine .inr ⟨hk', c, hc, ?_⟩
          have := X.cell x c hc
          rwa [bindC_eq _ _ _ _ (by rw [hk']; decide), hl] at this
      · obtain ⟨p, hp, rfl⟩ := List.mem_map.mp hc
        exact ⟨_, X.cell p.1 p.2 (lookup_of_mem_nodup hnd' hp)⟩
      · obtain ⟨ws, ⟨o, ho, r⟩, h2⟩ := hro p hp
        exact ⟨⟨ws, ⟨o, X.toInCall.keep _ _ ho, r⟩, h2⟩, by simp⟩
      · rw [hs1]
      · rw [hs1]
    have hfn : f.Fn d.scope := ⟨e1, rfl, fun x e => by show (env.cells.lookup x).isSome = true; rw [e2]; exact hsome _ _ e⟩
    refine wpAny_mono (h f rfl e1 rfl hfn _ R ht') (fun fl s'' ⟨st', R', S', v, new, hfl, hpost, hsub⟩ => ?_) fun _ _ e => e
    cases fl with
    | ret u =>
      have hu : er u = v := by simpa [erF] using hfl
      subst hu
      exact ⟨u, new, rfl, hpost, R'.keep, R'.gens, R'.os, fun p hp => R'.own p (hsub.subset hp), List.Nodup.sublist (hsub.map _) R'.nd⟩
    | next => simp [erF] at hfl
    | brk => simp [erF] at hfl
    | cont => simp [erF] at hfl
  · rintro fl s'' ⟨u, new, rfl, h5⟩
    exact ⟨u, new, rfl, h5⟩
end Mine

end
section
open PySem PySem.W PyProof.Rows PySem.Calls
set_option Elab.async false
set_option linter.unusedVariables false
set_option maxRecDepth 100000
namespace Mine

def rangeL (a c : Int) (n : Nat) : List V := (List.range n).map fun (i : Nat) => V.int (a + (i : Int) * c)

inductive Itr : Value → List V → Option Addr → Heap → Prop
  | list {a : Addr} {ws : Array Value} {h : Heap} : h.IsList a ws → Itr (.ref a) (ws.toList.map er) (some a) h
  | range {r : Addr} {a b c : Int} {t u v : Tok} {h : Heap} : IsRange h r a b c t u v → Builtin.Range.small a b c = true → Itr (.ref r) (rangeL a c (Builtin.Range.rangeSize a b c).toNat) none h

/-- an iterator at work -/
structure Iter (prog : Program) (w : World) (A : Around) (I : Addr) (xs : List V) (src : Option Addr) (St : Nat → Heap → Prop) : Prop where
  frame : ∀ i h h', St i h → (∀ b o, (b = I ∨ src = some b) → h.get? b = some o → h'.get? b = some o) → St i h'
  item : ∀ i (s : Shared) (Q : Option Value → Shared → Prop) (E : Value → Shared → Prop), St i s.heap → ∀ x, xs[i]? = some x →
    (∀ v h' tk, er v = x → St (i + 1) h' → (∀ b o, b ≠ I → s.heap.get? b = some o → h'.get? b = some o) → Q (some v) { s with heap := h', toks := tk }) → wpAny (model prog w) A (pyNext (.ref I)) Q E s
  done : ∀ (s : Shared) (Q : Option Value → Shared → Prop) (E : Value → Shared → Prop), St xs.length s.heap →
    (∀ h' tk, (∀ b o, b ≠ I → s.heap.get? b = some o → h'.get? b = some o) → Q none { s with heap := h', toks := tk }) → wpAny (model prog w) A (pyNext (.ref I)) Q E s
  live : ∀ i h, St i h → ∃ o, h.get? I = some o
  walks : ∃ fp, (∀ b ∈ fp, b = I ∨ src = some b) ∧ Walks prog w A I fp [I] xs.length (fun i v => xs[i]? = some (er v)) St

theorem iter_of {prog : Program} {w : World} {A : Around} {E : Value → Shared → Prop} {s : Shared} {x : Value} {xs : List V} {src : Option Addr} {Q : Value → Shared → Prop} (hh : A.handled = none) (hx : Itr x xs src s.heap)
    (h : ∀ o St, Iter prog w A s.heap.objs.size xs src St → St 0 (s.heap.push o) → o.isFreed = false → Q (.ref s.heap.objs.size) { s with heap := s.heap.push o }) :
    wpAny (model prog w) A (pyIter x) Q E s := by
  cases hx with
  | list hl =>
    rename_i a ws
    have hne : a ≠ s.heap.objs.size := by
      obtain ⟨o, ho, _⟩ := hl
      exact Nat.ne_of_lt (Heap.lt_size ho)
    refine wpAny_pyIter_list hl (h _ (fun i h => h.IsListIter s.heap.objs.size a i ∧ h.IsList a ws) ?_ ⟨⟨_, Heap.get?_push_size _ rfl, rfl, rfl⟩, hl.push _⟩ rfl)
    have W := Walks.list (prog := prog) (w := w) (A := A) hh s.heap.objs.size a hne ws
    refine ⟨fun i h h' st hk => W.frame i h h' st fun b hb o e => hk b o ?_ e, ?_, ?_, fun i h st => let ⟨o, ho, _⟩ := st.1; ⟨o, ho⟩, [s.heap.objs.size, a], fun b hb => ?_, ?_⟩
    · simp at hb; rcases hb with rfl | rfl
      · exact .inl rfl
      · exact .inr rfl
    · intro i s' Q E st x hx hQ
      have hlt : i < ws.size := by
        have := (List.getElem?_eq_some_iff.mp hx).1
        simpa using this
      refine W.item i s' Q E hlt st fun v h' tk hv st' hk => hQ v h' tk ?_ st' fun b o hb e => hk b o (by simpa using hb) e
      have hv' : ws[i]? = some v := hv
      rw [List.getElem?_map, Array.getElem?_toList, hv'] at hx
      simpa using hx
    · intro s' Q E st hQ
      have hlen : (ws.toList.map er).length = ws.size := by simp
      rw [hlen] at st
      exact W.done s' Q E st fun h' tk hk => hQ h' tk fun b o hb e => hk b o (by simpa using hb) e
    · simp at hb; rcases hb with rfl | rfl
      · exact .inl rfl
      · exact .inr rfl
    · have hlen : (ws.toList.map er).length = ws.size := by simp
      rw [hlen]
      refine ⟨W.sub, W.frame, fun i s' Q E hi st hQ => W.item i s' Q E hi st fun v h' tk hv st' hk => hQ v h' tk ?_ st' hk, W.done, W.self⟩
      have hv' : ws[i]? = some v := hv
      rw [List.getElem?_map, Array.getElem?_toList, hv']; rfl
  | range hr hs =>
    rename_i r a b c t u v
    have hlen : ∀ n : Nat, (rangeL a c n).length = n := fun n => by simp [rangeL]
    have hat : ∀ (n i : Nat), i < n → (rangeL a c n)[i]? = some (.int (a + i * c)) := fun n i hi => by simp [rangeL, List.getElem?_map, List.getElem?_range hi]
    have hsz : (((Builtin.Range.rangeSize a b c).toNat : Nat) : Int) = Builtin.Range.rangeSize a b c := by
      have : 0 ≤ Builtin.Range.rangeSize a b c := by
        unfold Builtin.Range.rangeSize
        split <;> split <;> first
          | exact Int.le_refl _
          | (refine Int.add_nonneg (Int.ediv_nonneg ?_ ?_) ?_ <;> omega)
          | (refine Int.ediv_nonneg ?_ ?_ <;> omega)
      omega
    have W := Walks.range (prog := prog) (w := w) (A := A) hh s.heap.objs.size a c (Builtin.Range.rangeSize a b c).toNat
    refine wpAny_pyIter_range hr hs (h _ (fun i h => IsRangeIter h s.heap.objs.size (a + (i : Nat) * c) (((Builtin.Range.rangeSize a b c).toNat : Int) - (i : Nat)) c) ?_ ?_ rfl)
    · refine ⟨fun i h h' st hk => W.frame i h h' st fun b hb o e => hk b o (by simp at hb; exact .inl hb) e, ?_, ?_, fun i h st => ⟨_, st⟩, [s.heap.objs.size], fun b hb => by simp at hb; exact .inl hb, ?_⟩
      · intro i s' Q E st x hx hQ
        have hlt : i < (Builtin.Range.rangeSize a b c).toNat := by
          have := (List.getElem?_eq_some_iff.mp hx).1
          rwa [hlen] at this
        rw [hat _ _ hlt] at hx
        refine W.item i s' Q E hlt st fun v h' tk hv st' hk => hQ v h' tk ?_ st' fun b o hb e => hk b o (by simpa using hb) e
        obtain ⟨t', rfl⟩ := hv
        simpa [er] using hx
      · intro s' Q E st hQ
        rw [hlen] at st
        exact W.done s' Q E st fun h' tk hk => hQ h' tk fun b o hb e => hk b o (by simpa using hb) e
      · rw [hlen]
        refine ⟨W.sub, W.frame, fun i s' Q E hi st hQ => W.item i s' Q E hi st fun v h' tk hv st' hk => hQ v h' tk ?_ st' hk, W.done, W.self⟩
        obtain ⟨t', rfl⟩ := hv
        rw [hat _ _ hi]; rfl
    · show IsRangeIter _ _ _ _ _
      rw [hsz]
      have e1 : a + ((0 : Nat) : Int) * c = a := by simp
      have e2 : Builtin.Range.rangeSize a b c - ((0 : Nat) : Int) = Builtin.Range.rangeSize a b c := by simp
      rw [e1, e2]
      exact Heap.get?_push_size _ rfl

section
variable {f : Frm} {st : St}

/-- something to walk over -/
def SRC (f : Frm) (e : Expr) (st : St) (P : List V → Option Addr → St → Prop) : Prop :=
  ∀ s, Rel f st s → 1 ≤ s.toks → wpAny f.M f.A (eval e f.env) (fun x s' => ∃ st' xs src, Rel f st' s' ∧ Step NoW st s st' s' ∧ Itr x xs src s'.heap ∧ P xs src st') (fun _ _ => False) s

theorem src_list {e : Expr} {P : List V → Option Addr → St → Prop} (h : EV f e st (fun v st1 => ∃ a xs, v = .ref a ∧ st1.has a xs ∧ ∃ st2, Sub st2 st1 ∧ P xs (some a) st2)) : SRC f e st P :=
  fun s R ht => wpAny_mono (h s R ht) (fun v s1 ⟨st1, R1, S1, a, xs, hv, ha, st2, hs, hp⟩ => by
    cases er_ref hv
    obtain ⟨ws, w1, w2⟩ := R1.list ha
    subst w2
    exact ⟨st2, _, _, R1.weaken hs, S1.trans (.weaken hs), .list w1, hp⟩) fun _ _ e => e

theorem rangeSize_up (a b : Int) : (Builtin.Range.rangeSize a b 1).toNat = (b - a).toNat := by
  rw [rangeSize_one]; split <;> omega

theorem sw_range {args : List Expr} {e : Expr} {np pos : Pos} {sc : Scope} {P : List V → Option Addr → St → Prop} (hsc : f.env.scope = sc) (hx : sc.names.lookup (Str.ofString "range") = some .globalImplicit)
    (h : ∀ s, Rel f st s → 1 ≤ s.toks → wpAny f.M f.A (spliced (backTo pos (starEach (e :: args) f.env))) (fun vs s₁ => wpAny f.M f.A (call (.type "range") vs)
      (fun x s' => ∃ st' xs src, Rel f st' s' ∧ Step NoW st s st' s' ∧ Itr x xs src s'.heap ∧ P xs src st') (fun _ _ => False) s₁) (fun _ _ => False) s)
    (he : starEach (e :: args) f.env = (false, eval e f.env) :: starEach args f.env)
    (hplain : (backTo pos (starEach args f.env)).any (·.1) = false)
    (hc : eval (.Call (.Name "range" np) (e :: args) [] pos) f.env = (do callWith pos (← eval (.Name "range" np) f.env) [] (backTo pos (starEach (e :: args) f.env)) (backToKw pos (keywordEach [] f.env)))) :
    SRC f (.Call (.Name "range" np) (e :: args) [] pos) st P := by
  intro s R ht
  rw [hc]
  refine wpAny_bind (Name_function_global f.kind (by unfold Env.kindOf; rw [hsc]; exact hx) ?_ (by decide))
  have T := f.top.keeps R.keep
  refine loadGlobal_builtin (mg := f.wd.mg) (mb := f.wd.mb) (by rw [f.glob]; exact T.g) (f.wd.free _ (by decide)) (by rw [f.blt]; exact T.b) ((T.builtins _ (by decide)).trans boot_range) ?_
  exact PyProof.Rows.callWith_type1 (h s R ht) he hplain

theorem src_range1 {np pos : Pos} {e : Expr} {sc : Scope} {P : List V → Option Addr → St → Prop} (hsc : f.env.scope = sc) (hx : sc.names.lookup (Str.ofString "range") = some .globalImplicit)
    (h : EV f e st (fun v st1 => ∃ n, v = .int n ∧ -1000000000 ≤ n ∧ n ≤ 1000000000 ∧ P (rangeL 0 1 n.toNat) none st1))
    (he : starEach [e] f.env = (false, eval e f.env) :: starEach [] f.env := by rfl)
    (hc : eval (.Call (.Name "range" np) [e] [] pos) f.env = (do callWith pos (← eval (.Name "range" np) f.env) [] (backTo pos (starEach [e] f.env)) (backToKw pos (keywordEach [] f.env))) := by rfl) :
    SRC f (.Call (.Name "range" np) [e] [] pos) st P := by
  refine sw_range hsc hx (fun s R ht => ?_) he rfl hc
  have h1 : EVL f pos [e] st (fun vs st1 => ∃ n, vs = [.int n] ∧ -1000000000 ≤ n ∧ n ≤ 1000000000 ∧ P (rangeL 0 1 n.toNat) none st1) :=
    evl_cons (SW.mono h fun v st1 ⟨n, hv, h1⟩ => evl_nil ⟨n, by rw [hv], h1⟩) he
  refine wpAny_mono (h1 s R ht) (fun vs s1 ⟨st1, R1, S1, n, hvs, hn1, hn2, hp⟩ => ?_) fun _ _ e => e
  obtain ⟨u, rfl, hu⟩ := er_one hvs
  obtain ⟨t, rfl⟩ := er_int hu
  refine call_range_1 ?_
  have hk : ∀ b o, s1.heap.get? b = some o → (s1.heap.push { cls := .type "range", data := .fields #[.int 0 s1.toks, .int n t, .int 1 (s1.toks + 1)] }).get? b = some o := fun b o e => Heap.get?_push_of_some _ e
  refine ⟨st1, _, _, R1.keeps hk, S1.trans (.keeps hk), .range (IsRange.new _ 0 n 1 _ _ _) (small_one (by omega) (by omega) (by omega) (by omega)), ?_⟩
  rw [rangeSize_up]; simpa using hp

theorem src_range2 {np pos : Pos} {e e' : Expr} {sc : Scope} {P : List V → Option Addr → St → Prop} (hsc : f.env.scope = sc) (hx : sc.names.lookup (Str.ofString "range") = some .globalImplicit)
    (h : EV f e st (fun v st1 => EV f e' st1 (fun v' st2 => ∃ m n, v = .int m ∧ v' = .int n ∧ -1000000000 ≤ m ∧ m ≤ 1000000000 ∧ -1000000000 ≤ n ∧ n ≤ 1000000000 ∧ P (rangeL m 1 (n - m).toNat) none st2)))
    (he : starEach [e, e'] f.env = (false, eval e f.env) :: starEach [e'] f.env := by rfl)
    (he' : starEach [e'] f.env = (false, eval e' f.env) :: starEach [] f.env := by rfl)
    (hplain : (backTo pos (starEach [e'] f.env)).any (·.1) = false := by rfl)
    (hc : eval (.Call (.Name "range" np) [e, e'] [] pos) f.env = (do callWith pos (← eval (.Name "range" np) f.env) [] (backTo pos (starEach [e, e'] f.env)) (backToKw pos (keywordEach [] f.env))) := by rfl) :
    SRC f (.Call (.Name "range" np) [e, e'] [] pos) st P := by
  refine sw_range hsc hx (fun s R ht => ?_) he hplain hc
  have h1 : EVL f pos [e, e'] st (fun vs st1 => ∃ m n, vs = [.int m, .int n] ∧ -1000000000 ≤ m ∧ m ≤ 1000000000 ∧ -1000000000 ≤ n ∧ n ≤ 1000000000 ∧ P (rangeL m 1 (n - m).toNat) none st1) :=
    evl_cons (SW.mono h fun v st1 h1 => evl_cons (SW.mono h1 fun v' st2 ⟨m, n, hv, hv', h2⟩ => evl_nil ⟨m, n, by rw [hv, hv'], h2⟩) he') he
  refine wpAny_mono (h1 s R ht) (fun vs s1 ⟨st1, R1, S1, m, n, hvs, hm1, hm2, hn1, hn2, hp⟩ => ?_) fun _ _ e => e
  obtain ⟨u, u', rfl, hu, hu'⟩ := er_two hvs
  obtain ⟨t, rfl⟩ := er_int hu
  obtain ⟨t', rfl⟩ := er_int hu'
  refine call_range_2 ?_
  have hk : ∀ b o, s1.heap.get? b = some o → (s1.heap.push { cls := .type "range", data := .fields #[.int m t, .int n t', .int 1 s1.toks] }).get? b = some o := fun b o e => Heap.get?_push_of_some _ e
  refine ⟨st1, _, _, R1.keeps hk, S1.trans (.keeps hk), .range (IsRange.new _ m n 1 _ _ _) (small_one (by omega) (by omega) (by omega) (by omega)), ?_⟩
  rw [rangeSize_up]; exact hp
end
end Mine

end
section
open PySem PySem.W PyProof.Rows PySem.Calls
set_option Elab.async false
set_option linter.unusedVariables false
set_option maxRecDepth 100000
namespace Mine

section
variable {f : Frm} {st : St}

theorem ev_neg {e : Expr} {pos : Pos} {P : V → St → Prop} (h : EV f e st (fun v st1 => ∃ i, v = .int i ∧ P (.int (-i)) st1)) : EV f (.UnaryOp .USub e pos) st P := by
  intro s R ht
  refine wpAny_UnaryOp (wpAny_mono (h s R ht) (fun v s1 ⟨st1, R1, S1, i, hv, hp⟩ => ?_) fun _ _ e => e)
  obtain ⟨t, rfl⟩ := er_int hv
  refine neg_int ?_
  obtain ⟨st2, R2, S2, h2⟩ := SW.done (W := NoW) (v := V.int (-i)) (Q := P) (s' := { s1 with toks := s1.toks + 1 }) R1 (fun _ _ e => e) hp
  exact ⟨st2, R2, S1.trans S2, h2⟩

/-- range(n, 0, -1) -/
theorem src_down {np pos : Pos} {e e' e'' : Expr} {sc : Scope} {P : List V → Option Addr → St → Prop} (hsc : f.env.scope = sc) (hx : sc.names.lookup (Str.ofString "range") = some .globalImplicit)
    (h : EV f e st (fun v st1 => EV f e' st1 (fun v' st2 => EV f e'' st2 (fun v'' st3 => ∃ n, v = .int n ∧ v' = .int 0 ∧ v'' = .int (-1) ∧ 0 ≤ n ∧ n ≤ 1000000000 ∧ P (rangeL n (-1) n.toNat) none st3))))
    (he : starEach [e, e', e''] f.env = (false, eval e f.env) :: starEach [e', e''] f.env := by rfl)
    (he' : starEach [e', e''] f.env = (false, eval e' f.env) :: starEach [e''] f.env := by rfl)
    (he'' : starEach [e''] f.env = (false, eval e'' f.env) :: starEach [] f.env := by rfl)
    (hplain : (backTo pos (starEach [e', e''] f.env)).any (·.1) = false := by rfl)
    (hc : eval (.Call (.Name "range" np) [e, e', e''] [] pos) f.env = (do callWith pos (← eval (.Name "range" np) f.env) [] (backTo pos (starEach [e, e', e''] f.env)) (backToKw pos (keywordEach [] f.env))) := by rfl) :
    SRC f (.Call (.Name "range" np) [e, e', e''] [] pos) st P := by
  refine sw_range hsc hx (fun s R ht => ?_) he hplain hc
  have h1 : EVL f pos [e, e', e''] st (fun vs st1 => ∃ n, vs = [.int n, .int 0, .int (-1)] ∧ 0 ≤ n ∧ n ≤ 1000000000 ∧ P (rangeL n (-1) n.toNat) none st1) :=
    evl_cons (SW.mono h fun v st1 h1 => evl_cons (SW.mono h1 fun v' st2 h2 => evl_cons (SW.mono h2 fun v'' st3 ⟨n, hv, hv', hv'', h3⟩ => evl_nil ⟨n, by rw [hv, hv', hv''], h3⟩) he'') he') he
  refine wpAny_mono (h1 s R ht) (fun vs s1 ⟨st1, R1, S1, n, hvs, hn1, hn2, hp⟩ => ?_) fun _ _ e => e
  have : ∃ t t' t'', vs = [.int n t, .int 0 t', .int (-1) t''] := by
    cases vs with
    | nil => simp at hvs
    | cons u us =>
      simp only [List.map_cons, List.cons.injEq] at hvs
      obtain ⟨t, rfl⟩ := er_int hvs.1
      obtain ⟨u', u'', rfl, hu', hu''⟩ := er_two hvs.2
      obtain ⟨t', rfl⟩ := er_int hu'
      obtain ⟨t'', rfl⟩ := er_int hu''
      exact ⟨t, t', t'', rfl⟩
  obtain ⟨t, t', t'', rfl⟩ := this
  refine call_range_3 (by decide) ?_
  have hk : ∀ b o, s1.heap.get? b = some o → (s1.heap.push { cls := .type "range", data := .fields #[.int n t, .int 0 t', .int (-1) t''] }).get? b = some o := fun b o e => Heap.get?_push_of_some _ e
  have hsz : Builtin.Range.rangeSize n 0 (-1) = n := by
    unfold Builtin.Range.rangeSize
    rw [if_neg (by decide)]
    split
    · have : (n - 0 - 1) / (-(-1)) = n - 1 := by rw [show (-(-1) : Int) = 1 by decide]; simp
      omega
    · omega
  refine ⟨st1, _, _, R1.keeps hk, S1.trans (.keeps hk), .range (IsRange.new _ n 0 (-1) _ _ _) ?_, ?_⟩
  · unfold Builtin.Range.small
    rw [hsz]
    simp only [Builtin.Range.rangeFitsLong, Bool.and_eq_true, Bool.or_eq_true, decide_eq_true_eq, beq_iff_eq]
    refine ⟨⟨⟨⟨⟨?_, ?_⟩, ⟨?_, ?_⟩⟩, ⟨?_, ?_⟩⟩, ⟨?_, ?_⟩⟩, .inr ?_⟩ <;> first | omega | decide
  · rw [hsz]; exact hp

theorem Rel.iter {s : Shared} {I : Addr} {h' : Heap} {tk : Nat} (R : Rel f st s) (hcells : f.wc = f.env.cells.map (·.2)) (hI : I ≠ f.env.locals) (hw : ∀ c ∈ f.wc, c ≠ I) (h0 : f.h₀.get? I = none)
    (ho : I ∉ st.own.map (·.1)) (hr : I ∉ st.ro.map (·.1)) (hk : ∀ b o, b ≠ I → s.heap.get? b = some o → h'.get? b = some o) : Rel f st { s with heap := h', toks := tk } where
  loc := by
    obtain ⟨m, hn, hl⟩ := R.loc
    refine ⟨m, hn.at' fun o e => hk _ o (Ne.symm hI) e, fun x v hx => ?_⟩
    obtain ⟨u, hu, h⟩ := hl x v hx
    refine ⟨u, hu, h.imp id fun ⟨h1, c, h2, h3⟩ => ⟨h1, c, h2, ?_⟩⟩
    have hc : c ∈ f.wc := by rw [hcells]; exact List.mem_map_of_mem (mem_of_lookup h2)
    obtain ⟨o, h4, h5⟩ := h3
    exact ⟨o, hk _ o (hw c hc) h4, h5⟩
  keep := fun b o e => hk b o (fun e' => by rw [e', h0] at e; cases e) (R.keep b o e)
  wcell := fun c hc => let ⟨v, o, h4, h5⟩ := R.wcell c hc; ⟨v, o, hk _ o (hw c hc) h4, h5⟩
  own := fun p hp => let ⟨⟨ws, n, h1, h2⟩, h3⟩ := R.own p hp; ⟨⟨ws, n, hk _ _ (fun e => ho (e ▸ List.mem_map_of_mem hp)) h1, h2⟩, h3⟩
  nd := R.nd
  ro := fun p hp => let ⟨⟨ws, ⟨o, h1, h1'⟩, h2⟩, h3⟩ := R.ro p hp; ⟨⟨ws, ⟨o, hk _ _ (fun e => hr (e ▸ List.mem_map_of_mem hp)) h1, h1'⟩, h2⟩, h3⟩
  gens := R.gens
  os := R.os

theorem Step.iter {W : Addr → Prop} {st st' : St} {s s' : Shared} {I : Addr} {h' : Heap} {tk : Nat} (S : Step W st s st' s') (hI : s.heap.get? I = none) (hk : ∀ b o, b ≠ I → s'.heap.get? b = some o → h'.get? b = some o) :
    Step W st s st' { s' with heap := h', toks := tk } where
  fram := fun b o e hw hb => hk b o (fun e' => by rw [e', hI] at e; cases e) (S.fram b o e hw hb)
  grow := S.grow
  live := fun b e => by
    by_cases hb : b = I
    · rw [hb]; exact hI
    · refine S.live b ?_
      cases e' : s'.heap.get? b with
      | none => rfl
      | some o => have := hk b o hb e'; rw [show ({ s' with heap := h', toks := tk } : Shared).heap.get? b = h'.get? b from rfl, this] at e; cases e
  growR := S.growR

/-- for x in something: an invariant over the number of turns done -/
theorem ex_for {x : Str} {xp pos : Pos} {iter : Expr} {body orelse : List Stmt} {P : Fl → St → Prop} {sc : Scope} (hsc : f.env.scope = sc) (hcells : f.wc = f.env.cells.map (·.2))
    (hx : sc.names.lookup x = some .local ∨ (sc.names.lookup x = some .cell ∧ f.wc = f.env.cells.map (·.2) ∧ (f.env.cells.lookup x).isSome = true))
    (h : SRC f iter st (fun xs src st1 => (∀ a, src = some a → a ∉ st1.own.map (·.1)) ∧ ∃ Inv : Nat → St → Prop, Inv 0 st1 ∧
      (∀ i v st', xs[i]? = some v → Inv i st' → EX f body (st'.put x v) (fun fl st2 => match fl with
        | .next | .cont => Inv (i + 1) st2
        | .brk => P .next st2
        | .ret r => P (.ret r) st2)) ∧ (∀ st', Inv xs.length st' → EX f orelse st' P)))
    (hs : ∀ x, foldedSetIterable iter f.env x = pure x := by intro _; rfl) : EX1 f (.For (.Name x xp) iter body orelse pos) st P := by
  intro s R ht
  refine wpAny_For (wpAny_mono (wpAny_toks_of ht (h s R ht)) (fun xv s1 ⟨ht1, st1, xs, src, R1, S1, hit, hsrc, Inv, h0, hstep, hend⟩ => ?_) fun _ _ e => e.2) hs
  refine iter_of f.hand hit fun o Stw W hst ho => ?_
  have hnone : ∀ h : Heap, h.get? h.objs.size = none := fun h => by
    cases e : h.get? h.objs.size with
    | none => rfl
    | some o => exact absurd (Heap.lt_size e) (Nat.lt_irrefl _)
  generalize hI : s1.heap.objs.size = I at *
  have hI1 : s1.heap.get? I = none := by rw [← hI]; exact hnone _
  have hIs : s.heap.get? I = none := S1.live I hI1
  have hk2 : ∀ b o', s1.heap.get? b = some o' → (s1.heap.push o).get? b = some o' := fun b o' e => Heap.get?_push_of_some _ e
  have R2 : Rel f st1 { s1 with heap := s1.heap.push o } := R1.keeps hk2
  have S2 : Step f.W st s st1 { s1 with heap := s1.heap.push o } := (S1.mono fun _ h => h.elim).trans (.keeps hk2)
  have hLI : I ≠ f.env.locals := by
    rintro rfl
    obtain ⟨m, ⟨o', es, ep, h4, _⟩, _⟩ := R1.loc
    rw [hI1] at h4; cases h4
  have hwI : ∀ c ∈ f.wc, c ≠ I := by
    rintro c hc rfl
    obtain ⟨v, o', h4, _⟩ := R1.wcell c hc
    rw [hI1] at h4; cases h4
  have h0I : f.h₀.get? I = none := by
    cases e : f.h₀.get? I with
    | none => rfl
    | some o' => have := R1.keep _ _ e; rw [hI1] at this; cases this
  have hownI : I ∉ st1.own.map (·.1) := by
    intro hm
    obtain ⟨p, hp, rfl⟩ := List.mem_map.mp hm
    obtain ⟨⟨ws, n, h1, _⟩, _⟩ := R1.own p hp
    have h1' : s1.heap.get? p.1 = _ := h1
    rw [hI1] at h1'; cases h1'
  have hroI : I ∉ st1.ro.map (·.1) := by
    intro hm
    obtain ⟨p, hp, rfl⟩ := List.mem_map.mp hm
    obtain ⟨⟨ws, ⟨o', h1, _⟩, _⟩, _⟩ := R1.ro p hp
    rw [hI1] at h1; cases h1
  have hWI : ¬ f.W I := fun h => h.elim hLI fun h => hwI I h rfl
  have hsrcW : ∀ a, src = some a → ¬ f.W a ∧ ∃ o', s1.heap.get? a = some o' := by
    rintro a rfl
    cases hit with
    | list hl =>
      obtain ⟨o', h1, h2, n, h3⟩ := hl
      refine ⟨?_, o', h1⟩
      rintro (rfl | hc)
      · obtain ⟨m, ⟨o'', es, ep, h4, h5, _⟩, _⟩ := R1.loc
        rw [h1] at h4; cases h4; rw [h3] at h5; cases h5
      · obtain ⟨v, o'', h4, h5⟩ := R1.wcell a hc
        rw [h1] at h4; cases h4; rw [h3] at h5; cases h5
  refine codeAny_forLoop (I := fun n s' => ∃ i st', n = xs.length + 1 - i ∧ i ≤ xs.length ∧ Rel f st' s' ∧ Step f.W st s st' s' ∧ Inv i st' ∧ 1 ≤ s'.toks ∧ Stw i s'.heap ∧ I ∉ st'.own.map (·.1) ∧ I ∉ st'.ro.map (·.1) ∧
      (∀ a, src = some a → a ∉ st'.own.map (·.1) ∧ ∃ o', s'.heap.get? a = some o')) ?_ (xs.length + 1) ⟨0, st1, by omega, Nat.zero_le _, R2, S2, h0, ht1, hst, hownI, hroI, fun a ha => ⟨hsrc a ha, let ⟨o', h⟩ := (hsrcW a ha).2; ⟨o', hk2 _ _ h⟩⟩⟩
  rintro n s3 ⟨i, st3, rfl, hi, R3, S3, hInv, ht3, hst3, ho3, hr3, hsrc3⟩
  cases hxi : xs[i]? with
  | none =>
    have hlen : i = xs.length := by
      have := List.getElem?_eq_none_iff.mp hxi
      omega
    subst hlen
    have hn := W.done s3 (fun r s4 => r = none ∧ ∃ h' tk, s4 = { s3 with heap := h', toks := tk } ∧ ∀ b o, b ≠ I → s3.heap.get? b = some o → h'.get? b = some o) (fun _ _ => False) hst3 (fun h' tk hk => ⟨rfl, h', tk, rfl, hk⟩)
    refine wpAny_mono (wpAny_toks_of ht3 hn) (fun r s4 ⟨ht4, hr, h', tk, hs4, hk⟩ => ?_) (fun _ _ e => e.2.elim)
    subst hr
    have R4 := R3.iter (tk := tk) hcells hLI hwI h0I ho3 hr3 hk
    have S4 := S3.iter (tk := tk) hIs hk
    rw [← hs4] at R4 S4
    exact wpAny_mono (hend st3 hInv s4 R4 ht4) (fun fl s5 ⟨st5, R5, S5, h5⟩ => ⟨st5, R5, S4.trans S5, h5⟩) fun _ _ e => e.elim
  | some v =>
    have hlt : i < xs.length := (List.getElem?_eq_some_iff.mp hxi).1
    have hn := W.item i s3 (fun r s4 => ∃ u h' tk, r = some u ∧ er u = v ∧ Stw (i + 1) h' ∧ s4 = { s3 with heap := h', toks := tk } ∧ ∀ b o, b ≠ I → s3.heap.get? b = some o → h'.get? b = some o) (fun _ _ => False) hst3 v hxi
      (fun u h' tk hu hst' hk => ⟨u, h', tk, rfl, hu, hst', rfl, hk⟩)
    refine wpAny_mono (wpAny_toks_of ht3 hn) (fun r s4 ⟨ht4, u, h', tk, hr, hu, hst4, hs4, hk⟩ => ?_) (fun _ _ e => e.2.elim)
    subst hr
    have R4 := R3.iter (tk := tk) hcells hLI hwI h0I ho3 hr3 hk
    have S4 := S3.iter (tk := tk) hIs hk
    have hst4' : Stw (i + 1) s4.heap := by rw [hs4]; exact hst4
    have hsrc4 : ∀ a, src = some a → a ∉ st3.own.map (·.1) ∧ ∃ o', s4.heap.get? a = some o' := fun a ha => by
      obtain ⟨h1, o', h2⟩ := hsrc3 a ha
      refine ⟨h1, o', ?_⟩
      rw [hs4]
      refine hk a o' (fun e => ?_) h2
      obtain ⟨_, o'', h3⟩ := hsrcW a ha
      rw [e, hI1] at h3; cases h3
    rw [← hs4] at R4 S4
    subst hu
    refine wpAny_assign_Name (wpAny_mono (wpAny_toks_of ht4 (sw_store (Q := fun _ st' => st' = st3.put x (er u)) hsc hx rfl s4 R4 ht4)) (fun _ s5 ⟨ht5, st5, R5, S5, h5⟩ => ?_) (fun _ _ e => e.2.elim))
    subst h5
    have alive : ∀ (st st' : St) (s s' : Shared) (W : Addr → Prop), Step W st s st' s' → ∀ b o, s.heap.get? b = some o → ∃ o', s'.heap.get? b = some o' := fun st st' s s' W S b o e => by
      cases e' : s'.heap.get? b with
      | some o' => exact ⟨o', rfl⟩
      | none => have := S.live b e'; rw [this] at e; cases e
    obtain ⟨oI4, hoI4⟩ := W.live _ _ hst4'
    refine wpAny_mono (wpAny_toks_of ht5 (hstep i (er u) st3 hxi hInv s5 R5 ht5)) (fun fl s6 ⟨ht6, st6, R6, S6, h6⟩ => ?_) (fun _ _ e => e.2.elim)
    have S456 : Step f.W st3 s4 st6 s6 := S5.trans S6
    have fin : Inv (i + 1) st6 → ∃ m, m < xs.length + 1 - i ∧ ∃ i st', m = xs.length + 1 - i ∧ i ≤ xs.length ∧ Rel f st' s6 ∧ Step f.W st s st' s6 ∧ Inv i st' ∧ 1 ≤ s6.toks ∧ Stw i s6.heap ∧ I ∉ st'.own.map (·.1) ∧ I ∉ st'.ro.map (·.1) ∧
        (∀ a, src = some a → a ∉ st'.own.map (·.1) ∧ ∃ o', s6.heap.get? a = some o') := by
      intro hInv'
      refine ⟨xs.length + 1 - (i + 1), by omega, i + 1, st6, rfl, hlt, R6, S4.trans S456, hInv', ht6, ?_, ?_, ?_, ?_⟩
      · refine W.frame _ _ _ hst4' fun b o hb e => ?_
        rcases hb with rfl | hb
        · exact S456.fram b o e hWI ho3
        · exact S456.fram b o e (hsrcW b hb).1 (hsrc4 b hb).1
      · intro hm
        rcases S456.grow I hm with h | h
        · exact ho3 h
        · rw [h] at hoI4; cases hoI4
      · intro hm
        rcases S456.growR I hm with h | h | h
        · exact hr3 h
        · exact ho3 h
        · rw [h] at hoI4; cases hoI4
      · intro a ha
        obtain ⟨h1, o', h2⟩ := hsrc4 a ha
        refine ⟨fun hm => ?_, alive _ _ _ _ _ S456 a o' h2⟩
        rcases S456.grow a hm with h | h
        · exact h1 h
        · rw [h] at h2; cases h2
    cases fl with
    | next => exact fin h6
    | cont => exact fin h6
    | brk => exact ⟨st6, R6, S4.trans S456, h6⟩
    | ret r => exact ⟨st6, R6, S4.trans S456, h6⟩
end
end Mine

end
section
open PySem PySem.W PyProof.Rows PySem.Calls
set_option Elab.async false
set_option linter.unusedVariables false
set_option maxRecDepth 100000
namespace Mine

def defOf (p : Program) (n : Str) : DefRec := match (recsOf p).find? (fun e => e.name == n) with
  | some d => d
  | none => ⟨n, ⟨[], [], none, [], [], none, []⟩, [], default, default⟩

theorem sel {c : Prop} [Decidable c] {A B : Prop} (ht : c → A) (hf : ¬ c → B) : (decide c = true → A) ∧ (decide c = false → B) :=
  ⟨fun h => ht (of_decide_eq_true h), fun h => hf (of_decide_eq_false h)⟩
theorem sel_t {c : Prop} [Decidable c] {A B : Prop} (h : c) (ht : A) : (decide c = true → A) ∧ (decide c = false → B) := sel (fun _ => ht) fun h' => absurd h h'
theorem sel_f {c : Prop} [Decidable c] {A B : Prop} (h : ¬ c) (hf : B) : (decide c = true → A) ∧ (decide c = false → B) := sel (fun h' => absurd h' h) fun _ => hf
theorem sel_tt {A B : Prop} (ht : A) : (true = true → A) ∧ (true = false → B) := ⟨fun _ => ht, fun h => nomatch h⟩
theorem sel_ff {A B : Prop} (hf : B) : (false = true → A) ∧ (false = false → B) := ⟨fun h => (nomatch h), fun _ => hf⟩

theorem clipAt_nn {n : Nat} {k : Int} (h : 0 ≤ k) : clipAt n k = min k.toNat n := by
  unfold clipAt
  rw [if_neg (by omega)]
  omega

theorem pysl_to {α : Type} (x : List α) {k : Int} (h : 0 ≤ k) : pysl x none (some k) = x.take k.toNat := by
  unfold pysl
  simp only [Option.elim_none, Option.elim_some, clipAt_nn h, List.drop_zero, Nat.sub_zero]
  rw [← List.take_take]
  simp

theorem pysl_ft {α : Type} (x : List α) {a b : Int} (ha : 0 ≤ a) (hb : 0 ≤ b) : pysl x (some a) (some b) = (x.drop a.toNat).take (b.toNat - a.toNat) := by
  unfold pysl
  simp only [Option.elim_some, clipAt_nn ha, clipAt_nn hb]
  by_cases h : a.toNat ≤ x.length
  · rw [Nat.min_eq_left h]
    by_cases h' : b.toNat ≤ x.length
    · rw [Nat.min_eq_left h']
    · rw [Nat.min_eq_right (by omega)]
      rw [List.take_of_length_le (by simp), List.take_of_length_le (by simp; omega)]
  · rw [Nat.min_eq_right (a := a.toNat) (by omega)]
    rw [List.drop_eq_nil_of_le (Nat.le_refl _), List.drop_eq_nil_of_le (by omega)]
    simp

theorem pysl_butlast {α : Type} (x : List α) : pysl x none (some (-1)) = x.take (x.length - 1) := by
  unfold pysl
  have : clipAt x.length (-1) = x.length - 1 := by unfold clipAt; omega
  simp [this]

theorem ev_strl {f : Frm} {st : St} {P : V → St → Prop} {x : Str} {l : List Nat} {k pos} (e : x.cps.toList = l) (h : P (.str l) st) : EV f (.Constant (.str x) k pos) st P := ev_str (e ▸ h)
theorem evt_strl {f : Frm} {st : St} {P : List Nat → St → Prop} {x : Str} {l : List Nat} {k pos} (e : x.cps.toList = l) (h : P l st) : EVT f (.Constant (.str x) k pos) st P := evt_str (e ▸ h)

def LocSub : List (Str × V) → List (Str × V) → Prop
  | [], _ => True
  | (x, v) :: r, l => l.lookup x = some v ∧ LocSub r l

theorem LocSub.sub : ∀ {l' l : List (Str × V)}, LocSub l' l → ∀ x v, l'.lookup x = some v → l.lookup x = some v
  | [], l, _, x, v, h => by simp at h
  | (y, u) :: r, l, hs, x, v, h => by
    rw [List.lookup_cons] at h
    cases hb : x == y
    · rw [hb] at h; exact LocSub.sub hs.2 x v h
    · rw [hb] at h
      have : x = y := by simpa using hb
      subst this
      cases h; exact hs.1

theorem Sub.mk' {loc loc' : List (Str × V)} {own own' ro : List (Addr × List V)} (h : LocSub loc' loc) (ho : own'.Sublist own) : Sub ⟨loc', own', ro⟩ ⟨loc, own, ro⟩ :=
  ⟨h.sub, ho, fun p hp => .inl hp⟩
theorem Sub.refl (st : St) : Sub st st := ⟨fun _ _ h => h, .refl _, fun p hp => .inl hp⟩

theorem s_257 : (Str.ofString "257").cps.toList = [50, 53, 55] := by decide +kernel
theorem s_sq : (Str.ofString " \"").cps.toList = [32, 34] := by decide +kernel
theorem s_q : (Str.ofString "\"").cps.toList = [34] := by decide +kernel
theorem s_qq : (Str.ofString "\"\"").cps.toList = [34, 34] := by decide +kernel
theorem s_e : (Str.ofString "").cps.toList = [] := by decide +kernel
theorem s_257q : (Str.ofString "257 \"").cps.toList = [50, 53, 55, 32, 34] := by decide +kernel
theorem s_made : (Str.ofString " is made").cps.toList = [32, 105, 115, 32, 109, 97, 100, 101] := by decide +kernel
theorem s_xqy : (Str.ofString "x\"y").cps.toList = [120, 34, 121] := by decide +kernel
theorem s_qqab : (Str.ofString "\"\"ab").cps.toList = [34, 34, 97, 98] := by decide +kernel
theorem s_nl : (Str.ofString "\n").cps.toList = [10] := by decide +kernel
theorem s_more : (Str.ofString "\" and \"more\"").cps.toList = [34, 32, 97, 110, 100, 32, 34, 109, 111, 114, 101, 34] := by decide +kernel
theorem s_ab : (Str.ofString "ab").cps.toList = [97, 98] := by decide +kernel
theorem s_nb : (Str.ofString "\n\\").cps.toList = [10, 92] := by decide +kernel
theorem s_7e : (Str.ofString "7é").cps.toList = [55, 233] := by decide +kernel
end Mine

end
section
open PySem PySem.W PyProof.Rows PySem.Calls
set_option Elab.async false
set_option linter.unusedVariables false
set_option maxRecDepth 100000
namespace Mine

def closOf (cells : List (Str × Addr)) : List (Str × NameKind) → List (Str × Addr) → Option (List (Str × Addr))
  | [], acc => some acc
  | (n, k) :: r, acc => if k == .free then (match cells.lookup n with | some c => closOf cells r ((n, c) :: acc) | none => none) else closOf cells r acc

theorem closureFor_eq {scope : Scope} {env : Env} {cl : List (Str × Addr)} (h : closOf env.cells scope.names [] = some cl) : closureFor scope env = pure cl := by
  unfold closureFor
  have key : ∀ (names : List (Str × NameKind)) (acc cl : List (Str × Addr)), closOf env.cells names acc = some cl →
      (forIn names acc fun x r => (match x with | (name, kind) => if (kind == .free) = true then (do let a ← cellOf env name; pure (ForInStep.yield ((name, a) :: r))) else pure (ForInStep.yield r) : Sem (ForInStep (List (Str × Addr))))) = pure cl := by
    intro names
    induction names with
    | nil => intro acc cl h; cases h; rfl
    | cons p r ih =>
      intro acc cl h
      obtain ⟨n, k⟩ := p
      rw [List.forIn_cons]
      unfold closOf at h
      by_cases hk : (k == .free) = true
      · rw [if_pos hk] at h
        cases hc : env.cells.lookup n with
        | none => rw [hc] at h; cases h
        | some c =>
          rw [hc] at h
          have := ih _ _ h
          simp only [hk, if_true, cellOf, hc]
          exact this
      · rw [if_neg hk] at h
        have := ih _ _ h
        simp only [hk]
        exact this
  have := key scope.names [] cl h
  simp only [bind_pure] 
  exact this

theorem closOf_sound {cells : List (Str × Addr)} : ∀ (names : List (Str × NameKind)) (acc cl : List (Str × Addr)), closOf cells names acc = some cl → (∀ n c, (n, c) ∈ acc → cells.lookup n = some c) →
    (∀ n c, (n, c) ∈ cl → cells.lookup n = some c) ∧ (∀ p ∈ acc, p ∈ cl) ∧ ∀ n, (n, NameKind.free) ∈ names → ∃ c, (n, c) ∈ cl
  | [], acc, cl, h, ha => by cases h; exact ⟨ha, fun _ hp => hp, fun n hn => by simp at hn⟩
  | (n, k) :: r, acc, cl, h, ha => by
    unfold closOf at h
    by_cases hk : (k == .free) = true
    · rw [if_pos hk] at h
      cases hc : cells.lookup n with
      | none => rw [hc] at h; cases h
      | some c =>
        rw [hc] at h
        obtain ⟨h1, h2, h3⟩ := closOf_sound r _ cl h (fun n' c' hm => by
          rcases List.mem_cons.mp hm with e | hm
          · cases e; exact hc
          · exact ha n' c' hm)
        refine ⟨h1, fun p hp => h2 p (List.mem_cons_of_mem _ hp), fun n' hn' => ?_⟩
        rcases List.mem_cons.mp hn' with e | hn'
        · cases e; exact ⟨c, h2 _ (List.mem_cons_self ..)⟩
        · exact h3 n' hn'
    · rw [if_neg hk] at h
      obtain ⟨h1, h2, h3⟩ := closOf_sound r _ cl h ha
      refine ⟨h1, h2, fun n' hn' => ?_⟩
      rcases List.mem_cons.mp hn' with e | hn'
      · cases e; exact absurd (by rfl) hk
      · exact h3 n' hn'

theorem closOf_total {cells : List (Str × Addr)} : ∀ (names : List (Str × NameKind)) (acc : List (Str × Addr)), (∀ n, (n, NameKind.free) ∈ names → (cells.lookup n).isSome = true) → ∃ cl, closOf cells names acc = some cl
  | [], acc, _ => ⟨acc, rfl⟩
  | (n, k) :: r, acc, h => by
    unfold closOf
    by_cases hk : (k == .free) = true
    · rw [if_pos hk]
      have hk' : k = .free := by simpa using hk
      subst hk'
      obtain ⟨c, hc⟩ := Option.isSome_iff_exists.mp (h n (List.mem_cons_self ..))
      rw [hc]
      exact closOf_total r _ fun n' hn' => h n' (List.mem_cons_of_mem _ hn')
    · rw [if_neg hk]
      exact closOf_total r _ fun n' hn' => h n' (List.mem_cons_of_mem _ hn')

theorem lookup_of_in {α : Type} : ∀ {l : List (Str × α)} {n : Str} {c : α}, (n, c) ∈ l → ∃ c', l.lookup n = some c' ∧ (n, c') ∈ l
  | (m, d) :: r, n, c, h => by
    rw [List.lookup_cons]
    cases hb : n == m
    · rcases List.mem_cons.mp h with e | h
      · cases e; simp at hb
      · obtain ⟨c', h1, h2⟩ := lookup_of_in h
        exact ⟨c', h1, List.mem_cons_of_mem _ h2⟩
    · have : n = m := by simpa using hb
      subst this
      exact ⟨d, rfl, List.mem_cons_self ..⟩

/-- the comprehension's names as they are looked up -/
def relabelS (scope sc : Scope) : Scope :=
  { scope with names := scope.names.map fun (n, k) => if (k == .free && sc.kind == .function && sc.names.lookup n == some .cell) then (n, .cell) else (n, k) }
theorem relabel_eq {scope sc : Scope} {env : Env} (h : env.scope = sc) : relabel scope env = relabelS scope sc := by
  unfold relabel relabelS Env.kindOf
  rw [h]

def TST (f : Frm) (ifs : List Expr) (st : St) (Q : Bool → St → Prop) : Prop := match ifs with
  | [] => Q true st
  | [c] => IT f c st Q
  | _ => False

theorem sw_tst {f : Frm} {st : St} {ifs : List Expr} {Q : Bool → St → Prop} (h : TST f ifs st Q) :
    SW f NoW (forIn ifs true fun c r => if r = true then do let ok ← isTrue c f.env (eval c f.env); pure (ForInStep.yield ok) else pure (ForInStep.yield r)) st Q := by
  cases ifs with
  | nil => exact fun s R ht => wpAny_tests_nil ⟨st, R, .refl .., h⟩
  | cons c r =>
    cases r with
    | nil => exact fun s R ht => wpAny_tests_one (h s R ht)
    | cons _ _ => exact h.elim

theorem paired_er {g : V → V} : ∀ {vs ys : List Value}, Paired (fun v y => er y = g (er v)) vs ys → ys.map er = vs.map fun v => g (er v)
  | _, _, .nil => rfl
  | _, _, .cons h t => by simp [h, paired_er t]

/-- what is asked of a comprehension's names; cap: the names that it takes from without -/
structure CompOk (scope sc : Scope) (x : Str) (cap : List (Str × V)) : Prop where
  cells : ∀ y ∈ scope.names, y.2 ≠ .cell
  kind : scope.kind = .function
  names : ∀ y ∈ scope.names, y.2 = .local → scope.names.lookup y.1 = some .local
  var : scope.names.lookup x = some .local
  free : ∀ n, (n, NameKind.free) ∈ scope.names → n ∈ cap.map (·.1)
  cap : ∀ n ∈ cap.map (·.1), (n, NameKind.free) ∈ scope.names ∧ sc.names.lookup n = some .cell ∧ (relabelS scope sc).names.lookup n = some .cell

section
variable {f : Frm} {st : St} {P : V → St → Prop}

/-- the inner frame's turns, for the library's rule -/
theorem comp_quiet {elt : Expr} {x : Str} {ifs : List Expr} {scope sc : Scope} {cap : List (Str × V)} (hsc : f.env.scope = sc) (ok : CompOk scope sc x cap) {s1 s2 : Shared} {st1 : St} {cl : List (Str × Addr)} {xs : List V} {I : Addr}
    (R1 : Rel f st1 s1) (ht1 : 1 ≤ s1.toks) (hcl : closOf f.env.cells scope.names [] = some cl) (hcap : LocSub cap st1.loc) (h12 : ∀ b o, s1.heap.get? b = some o → b ≠ I ∧ s2.heap.get? b = some o) (htk : s1.toks ≤ s2.toks)
    (pz : V → Bool) (g : V → V)
    (htest : ∀ v ∈ xs, ∀ fc : Frm, fc.wd = f.wd → fc.env.scope = relabelS scope sc → fc.k = f.k → TST fc ifs ⟨(x, v) :: cap, [], st1.own ++ st1.ro⟩ (fun b _ => b = pz v))
    (helt : ∀ v ∈ xs, pz v = true → ∀ fc : Frm, fc.wd = f.wd → fc.env.scope = relabelS scope sc → fc.k = f.k → EV fc elt ⟨(x, v) :: cap, [], st1.own ++ st1.ro⟩ (fun y _ => y = g v)) :
    QuietOnC f.wd.prog f.wd.w f.A f.env scope cl x ifs elt [I] (fun i v => xs[i]? = some (er v)) (fun v => pz (er v)) (fun v y => er y = g (er v)) s2 := by
  obtain ⟨c1, _, c3⟩ := closOf_sound _ _ _ hcl (fun _ _ h => by simp at h)
  have hclL : ∀ n c, cl.lookup n = some c → f.env.cells.lookup n = some c := fun n c h => c1 n c (mem_of_lookup h)
  have mk : ∀ (C : Addr) (s3 : Shared) (m3 : Str → Option Value) (v : Value), s2.heap.objs.size ≤ C → s3.heap.Ns C m3 → m3 x = some v → (∀ b o, b ∉ [I] → s2.heap.get? b = some o → s3.heap.get? b = some o) → s2.toks ≤ s3.toks →
      ∃ fc : Frm, fc.env = compEnvC scope cl C f.env ∧ fc.wd = f.wd ∧ fc.k = f.k ∧ fc.A = f.A ∧ fc.s₀ = s3 ∧ Rel fc ⟨(x, er v) :: cap, [], st1.own ++ st1.ro⟩ s3 := by
    intro C s3 m3 v hC hn hm hk htk3
    have h13 : ∀ b o, s1.heap.get? b = some o → s3.heap.get? b = some o := fun b o e => hk b o (by simpa using (h12 b o e).1) (h12 b o e).2
    have hC1 : s1.heap.get? C = none := by
      cases e : s1.heap.get? C with
      | none => rfl
      | some o => exact absurd (Heap.lt_size (h12 C o e).2) (Nat.not_lt.mpr hC)
    have hsc' : (compEnvC scope cl C f.env).scope = relabelS scope sc := relabel_eq hsc
    have hkd : (compEnvC scope cl C f.env).scope.kind = .function := by rw [hsc']; exact ok.kind
    have hnb : NoneBooked s1.heap := let ⟨mc, n1, n2⟩ := f.nb; ⟨mc, n1.keeps R1.keep, n2⟩
    let fc : Frm :=
      { wd := f.wd
        A := f.A
        env := compEnvC scope cl C f.env
        h₀ := s1.heap
        wc := []
        s₀ := s3
        top := f.top.keeps R1.keep
        nb := hnb
        kind := hkd
        glob := f.glob
        blt := f.blt
        hand := f.hand
        hL := hC1
        hwc := fun c hc => nomatch hc
        hinj := fun a b c ha hb => f.hinj a b c (hclL _ _ ha) (hclL _ _ hb)
        k := f.k
        room := f.room
        unit := f.unit }
    refine ⟨fc, rfl, rfl, rfl, rfl, rfl, ?_⟩
    refine ⟨⟨m3, hn, fun y u hy => ?_⟩, h13, fun c (hc : c ∈ ([] : List Addr)) => (nomatch hc), fun p hp => by simp at hp, by simp, fun p hp => ⟨?_, by simp⟩, rfl, rfl⟩
    · have hkx : (relabelS scope sc).names.lookup x = some .local := by
        have := lookup_relabel_local (env := f.env) ok.var
        rw [← relabel_eq hsc]; exact this
      rw [List.lookup_cons] at hy
      cases hb : y == x
      · rw [hb] at hy
        have hmem := mem_of_lookup hy
        have hyc : y ∈ cap.map (·.1) := List.mem_map_of_mem hmem
        obtain ⟨k1, k2, k3⟩ := ok.cap y hyc
        obtain ⟨m, hnn, hl⟩ := R1.loc
        obtain ⟨w, hw, hcase⟩ := hl y u (hcap.sub y u hy)
        refine ⟨w, hw, .inr ⟨by unfold Env.kindOf; rw [hsc']; exact k3, ?_⟩⟩
        rcases hcase with ⟨e, _⟩ | ⟨_, c, hc1, hc2⟩
        · unfold Env.kindOf at e; rw [hsc, k2] at e; cases e
        · obtain ⟨c', hc'⟩ := c3 y k1
          obtain ⟨c'', g1, g2⟩ := lookup_of_in hc'
          have := c1 _ _ g2
          rw [hc1] at this; cases this
          exact ⟨c, g1, hc2.keeps h13⟩
      · rw [hb] at hy
        have : y = x := by simpa using hb
        subst this
        cases hy
        exact ⟨v, rfl, .inl ⟨by unfold Env.kindOf; rw [hsc']; exact hkx, hm⟩⟩
    · have hp' : p ∈ st1.own ++ st1.ro := hp
      obtain ⟨ws, ⟨o, w1, w1'⟩, w2⟩ := R1.list (List.mem_append.mp hp')
      exact ⟨ws, ⟨o, h13 _ _ w1, w1'⟩, w2⟩
  have back : ∀ {fc : Frm} {st4 : St} {s3 s4 : Shared} {v : V}, fc.s₀ = s3 → Rel fc st4 s4 → Step NoW ⟨(x, v) :: cap, [], st1.own ++ st1.ro⟩ s3 st4 s4 → Keeps s3 s4 := by
    intro fc st4 s3 s4 v hs0 R4 S4
    refine ⟨s4.heap, s4.toks, ?_, fun b o e => S4.fram b o e (fun h => h) (by simp)⟩
    have h1 := R4.gens
    have h2 := R4.os
    rw [hs0] at h1 h2
    obtain ⟨hp, gn, dr, tk, os⟩ := s4
    simp only [Prod.mk.injEq] at h1 h2
    rw [h1, h2.1, h2.2]
  refine ⟨?_, ?_⟩
  · intro C i v s3 m3 E' hC hP hn hm hk htk3
    obtain ⟨fc, he, hw, hkk, hA, hs0, R3⟩ := mk C s3 m3 v hC hn hm hk htk3
    have hv : er v ∈ xs := List.mem_of_getElem? hP
    have hsc' : fc.env.scope = relabelS scope sc := by rw [he]; exact relabel_eq hsc
    have := sw_tst (htest (er v) hv fc hw hsc' hkk) s3 R3 (by omega)
    rw [← he]
    have hM : fc.M = model f.wd.prog f.wd.w := by unfold Frm.M; rw [hw]
    rw [hM, hA] at this
    exact wpAny_mono this (fun b s4 ⟨st4, R4, S4, hb⟩ => ⟨hb, back hs0 R4 S4⟩) fun _ _ e => e.elim
  · intro C i v s3 m3 E' hC hP hp hn hm hk htk3
    obtain ⟨fc, he, hw, hkk, hA, hs0, R3⟩ := mk C s3 m3 v hC hn hm hk htk3
    have hv : er v ∈ xs := List.mem_of_getElem? hP
    have hsc' : fc.env.scope = relabelS scope sc := by rw [he]; exact relabel_eq hsc
    have := helt (er v) hv hp fc hw hsc' hkk s3 R3 (by omega)
    rw [← he]
    have hM : fc.M = model f.wd.prog f.wd.w := by unfold Frm.M; rw [hw]
    rw [hM, hA] at this
    exact wpAny_mono this (fun y s4 ⟨st4, R4, S4, hy⟩ => ⟨hy, back hs0 R4 S4⟩) fun _ _ e => e.elim

theorem Rel.clos {s : Shared} {scope sc : Scope} {x : Str} {cap : List (Str × V)} (R : Rel f st s) (hsc : f.env.scope = sc) (ok : CompOk scope sc x cap) (hcap : LocSub cap st.loc) : ∃ cl, closOf f.env.cells scope.names [] = some cl := by
  refine closOf_total _ _ fun n hn => ?_
  obtain ⟨p, hp, rfl⟩ := List.mem_map.mp (ok.free n hn)
  obtain ⟨u, hu, _⟩ := lookup_of_in (n := p.1) (c := p.2) hp
  obtain ⟨m, hnn, hl⟩ := R.loc
  obtain ⟨w, hw, hcase⟩ := hl _ _ (hcap.sub _ _ hu)
  rcases hcase with ⟨e, _⟩ | ⟨_, c, hc1, _⟩
  · unfold Env.kindOf at e; rw [hsc, (ok.cap p.1 (List.mem_map_of_mem hp)).2.1] at e; cases e
  · rw [hc1]; rfl

/-- [elt for x in iter if ..] -/
theorem ev_comp {elt iter : Expr} {x : Str} {px : Pos} {ifs : List Expr} {scope sc : Scope} {pos : Pos} (cap : List (Str × V)) (pz : V → Bool) (g : V → V) (hsc : f.env.scope = sc) (ok : CompOk scope sc x cap) (hcap : LocSub cap st.loc)
    (h : SRC f iter st (fun xs src st1 => LocSub cap st1.loc ∧ xs.length ≤ 16777216 ∧
      (∀ v ∈ xs, ∀ fc : Frm, fc.wd = f.wd → fc.env.scope = relabelS scope sc → fc.k = f.k → TST fc ifs ⟨(x, v) :: cap, [], st1.own ++ st1.ro⟩ (fun b _ => b = pz v)) ∧
      (∀ v ∈ xs, pz v = true → ∀ fc : Frm, fc.wd = f.wd → fc.env.scope = relabelS scope sc → fc.k = f.k → EV fc elt ⟨(x, v) :: cap, [], st1.own ++ st1.ro⟩ (fun y _ => y = g v)) ∧
      ∀ c, P (.ref c) { st1 with own := (c, (xs.filter pz).map g) :: st1.own }))
    (hs : ∀ x, foldedSetIterable iter f.env x = pure x := by intro _; rfl) : EV f (.ListComp elt [⟨.Name x px, iter, ifs, 0⟩] scope pos) st P := by
  intro s R ht
  obtain ⟨cl, hcl⟩ := R.clos hsc ok hcap
  refine wpAny_ListComp_free (fun v => pz (er v)) (fun v y => er y = g (er v)) (closureFor_eq hcl) ok.cells ok.kind ok.names ok.var ?_ hs
  refine wpAny_mono (wpAny_toks_of ht (h s R ht)) (fun xv s1 ⟨ht1, st1, xs, src, R1, S1, hit, hcap1, hlen, htest, helt, hp⟩ => ?_) fun _ _ e => e.2
  refine iter_of f.hand hit fun o Stw W hst ho => ?_
  have hk2 : ∀ b o', s1.heap.get? b = some o' → (s1.heap.push o).get? b = some o' := fun b o' e => Heap.get?_push_of_some _ e
  obtain ⟨fp, hfp, WW⟩ := W.walks
  refine ⟨s1.heap.objs.size, fp, [s1.heap.objs.size], xs.length, _, Stw, rfl, WW, by rw [sizeLine_eq]; exact hlen, hst, fun b hb => ?_, ?_, fun D h' tk ys vs hD hl hpl hvl hvP hF hk => ?_⟩
  · show b < (s1.heap.push o).objs.size
    rw [Heap.size_push]
    rcases hfp b hb with rfl | hb
    · exact Nat.lt_succ_self _
    · subst hb
      cases hit with
      | list hl => obtain ⟨o', h1, _⟩ := hl; exact Nat.lt_succ_of_lt (Heap.lt_size h1)
  · exact comp_quiet (s1 := s1) (s2 := { s1 with heap := s1.heap.push o }) hsc ok R1 ht1 hcl hcap1 (fun b o' e => ⟨Nat.ne_of_lt (Heap.lt_size e), hk2 b o' e⟩) (Nat.le_refl _) pz g htest helt
  · have hD1 : s1.heap.get? D = none := by
      cases e : s1.heap.get? D with
      | none => rfl
      | some o' => have : (s1.heap.push o).get? D = none := hD; rw [hk2 _ _ e] at this; cases this
    have hxs : vs.map er = xs := by
      apply List.ext_getElem?
      intro j
      by_cases hj : j < vs.length
      · have := hvP j vs[j] (List.getElem?_eq_getElem hj)
        rw [this]; simp [hj]
      · rw [List.getElem?_eq_none (by simp; omega), List.getElem?_eq_none (by omega)]
    have hys : ys.toList.map er = (xs.filter pz).map g := by
      rw [paired_er hF, ← hxs, List.filter_map, List.map_map]
      rfl
    obtain ⟨n, hpn⟩ := hpl
    obtain ⟨R2, S2⟩ := R1.gain (W := NoW) (s' := { s1 with heap := h', toks := tk }) (new := [(D, (xs.filter pz).map g)]) (fun b o' e => hk b o' (by simpa using Nat.ne_of_lt (Heap.lt_size e)) (hk2 b o' e)) rfl rfl
      (fun p hp => by
        simp at hp; subst hp
        exact ⟨⟨ys, n, hpn, hys⟩, hD1⟩) (by simp)
    exact ⟨_, R2, S1.trans S2, hp D⟩
end
end Mine

end
section
open PySem PySem.W PyProof.Rows PySem.Calls
set_option Elab.async false
set_option linter.unusedVariables false
set_option maxRecDepth 100000
namespace Mine

def bookOk (o : Option Obj) : Bool := match o with
  | some o => (match o.data with
    | .dict es _ => es.all (fun e => match e.key with | .str .. => true | _ => false) && (nsFind es sharingNotToldKey).isNone
    | _ => false)
  | none => false

theorem nb_of {h : Heap} {o : Obj} (hg : h.get? cStatics = some o) (hk : bookOk (some o) = true) : NoneBooked h := by
  unfold bookOk at hk
  simp only at hk
  split at hk
  · next es ep hd =>
    rw [Bool.and_eq_true, Option.isNone_iff_eq_none, Array.all_eq_true'] at hk
    refine ⟨nsFind es, ⟨o, es, ep, hg, hd, fun e he => ?_, fun _ => rfl⟩, hk.2⟩
    have h1 := hk.1 e he
    cases hkk : e.key <;> rw [hkk] at h1 <;> first | exact ⟨_, _, rfl⟩ | cases h1
  · cases hk

theorem nb_in {K : Frag} {h : Heap} (KX : K.In h) (hk : bookOk (K.lookup cStatics) = true) : NoneBooked h := by
  cases e : K.lookup cStatics with
  | none => rw [e] at hk; cases hk
  | some o => exact nb_of (KX _ _ e) (e ▸ hk)

theorem ints_er : ∀ {vals : List Value} {ns : List Int}, IntsAre vals ns → vals.map er = ns.map V.int
  | _, _, .nil => rfl
  | _, _, .cons n t h => by rw [List.map_cons, List.map_cons, ints_er h]; rfl

theorem free_of {p : Program} {loose : List Str} {mean : ExcName → Option Value} {mg mb : Str → Option Value} {h : Heap} (T : Top p loose mean mg mb h)
    (hf : ∀ x ∈ bnames, x ∉ startupNames ∧ x ∉ loose ∧ x ∉ (recsOf p).map (·.name) ∧ x ∉ (litsOf p).map (·.1) ∧ x ∉ (clssOf p loose).map (·.name)) : ∀ x ∈ bnames, mg x = none := fun x hx =>
  let ⟨h1, h2, h3, h4, h5⟩ := hf x hx
  T.free x h1 h2 h3 h4 h5

theorem finish {prog : Program} {w : World} {p : Program} {loose : List Str} {mean : ExcName → Option Value} {mg mb : Str → Option Value} {s₁ : Shared} {fa a : Addr} {vals : List Value} {ns : List Int}
    {c : ClaimW} {cl : Str → Option Addr} {mean' : ExcName → Option Value} {args : List WData} {g : Str} {k : Nat} (hfree : ∀ x ∈ bnames, mg x = none)
    (spec : FnSpec ⟨prog, w, p, loose, mean, mg, mb, hfree⟩ g [.ref a] [(a, ns.map V.int)] k (fun v new => v = .bool true ∧ new = [])) (hk : k ≤ 100)
    (T : Top p loose mean mg mb s₁.heap) (hnb : NoneBooked s₁.heap) (hmg : mg g = some (.ref fa)) (hg : s₁.gens = #[]) (hL : s₁.heap.IsList a vals.toArray) (hI : IntsAre vals ns) (htk : 1 ≤ s₁.toks)
    (hn : ∀ cls, c.raises args cls = false) (hp : c.post args (.bool true) args = true) :
    codeAny (model prog w) callerA (.call (.ref fa) ⟨[.ref a], []⟩) (GoodWG c cl mean' args s₁) s₁ := by
  have hd : callerA.depth = 301 := by decide +kernel
  refine codeAny_mono (spec callerA s₁ fa [.ref a] rfl ?_ ?_ T hnb hmg rfl ?_ htk) ?_
  · rw [hd]; show 301 + k < 1000; omega
  · show 4 + 64 + 3 * k < cLine
    have : 1000 < cLine := by decide +kernel
    omega
  · intro q hq
    rw [List.mem_singleton] at hq
    subst hq
    exact ⟨_, hL, by simpa using ints_er hI⟩
  · rintro r s' ⟨v, new, rfl, ⟨hv, rfl⟩, hkeep, hgens, hos, _, _⟩
    have hvb : v = .bool true := by
      cases v <;> simp only [er] at hv <;> first | (cases hv; rfl) | cases hv
    subst hvb
    exact GoodW.toG ⟨.inl ⟨_, _, _, rfl, hn, .bool true, hp, unshared_nil⟩, hkeep, congrArg Prod.fst hos, hgens.trans hg⟩

theorem mem_at {α : Type} {l : List α} {d : α} (i : Nat) (h : l[i]? = some d) : d ∈ l := List.mem_of_getElem? h
end Mine

end
section
open PySem PySem.W PyProof.Rows PySem.Calls
set_option Elab.async false
set_option linter.unusedVariables false
set_option maxRecDepth 100000
namespace Mine
section
variable {f : Frm} {st : St}

/-- an expression that makes a tuple -/
def EVU (f : Frm) (e : Expr) (st : St) (P : List V → St → Prop) : Prop :=
  ∀ s, Rel f st s → 1 ≤ s.toks → wpAny f.M f.A (eval e f.env) (fun v s' => ∃ st', Rel f st' s' ∧ Step NoW st s st' s' ∧ ∃ t items, v = .ref t ∧ IsTup s'.heap t items ∧ P (items.toList.map er) st') (fun _ _ => False) s

theorem evu_tuple {elts : List Expr} {k : Nat} {pos : Pos} {P : List V → St → Prop} (h : EVL f pos elts st (fun vs st1 => vs.length ≤ 1000 ∧ P vs st1)) : EVU f (.Tuple elts k pos) st P := by
  intro s R ht
  refine wpAny_Tuple (wpAny_mono (h s R ht) (fun vs s1 ⟨st1, R1, S1, h1, h2⟩ => ?_) fun _ _ e => e)
  refine ⟨by rw [sizeLine_eq]; simp at h1; omega, ?_⟩
  have hk : ∀ b o, s1.heap.get? b = some o → (s1.heap.push { cls := .type "tuple", data := .seq vs.toArray }).get? b = some o := fun b o e => Heap.get?_push_of_some _ e
  exact ⟨st1, R1.keeps hk rfl rfl, S1.trans (.keeps hk), _, vs.toArray, rfl, ⟨_, Heap.get?_push_size _ rfl, rfl, _, rfl⟩, by simpa using h2⟩

theorem evu_ifexp {t b o : Expr} {pos : Pos} {P : List V → St → Prop} (h : IT f t st (fun c st1 => (c = true → EVU f b st1 P) ∧ (c = false → EVU f o st1 P))) : EVU f (.IfExp t b o pos) st P := by
  intro s R ht
  rw [arm_eval_IfExp]
  refine wpAny_bind (wpAny_mono (wpAny_toks_of ht (h s R ht)) (fun c s1 ⟨ht1, st1, R1, S1, h1⟩ => ?_) fun _ _ e => e.2)
  have key : ∀ e : Expr, EVU f e st1 P → wpAny f.M f.A (eval e f.env) (fun v s' => ∃ st', Rel f st' s' ∧ Step NoW st s st' s' ∧ ∃ t items, v = .ref t ∧ IsTup s'.heap t items ∧ P (items.toList.map er) st') (fun _ _ => False) s1 := fun e he =>
    wpAny_mono (he s1 R1 ht1) (fun v s2 ⟨st2, R2, S2, h2⟩ => ⟨st2, R2, S1.trans S2, h2⟩) fun _ _ e => e
  cases c
  · exact key _ (h1.2 rfl)
  · exact key _ (h1.1 rfl)

variable {P : Fl → St → Prop}
abbrev CanPut (f : Frm) (sc : Scope) (x : Str) : Prop := sc.names.lookup x = some .local ∨ (sc.names.lookup x = some .cell ∧ f.wc = f.env.cells.map (·.2) ∧ (f.env.cells.lookup x).isSome = true)

/-- a, b = (.., ..), stored from the back -/
theorem ex_swap {x y : Str} {xp yp tp pos : Pos} {k : Nat} {value : Expr} {sc : Scope} (hsc : f.env.scope = sc) (hx : CanPut f sc x) (hy : CanPut f sc y)
    (hw : swappedStores [.Tuple [.Name x xp, .Name y yp] k tp] value f.env = pure (some [x, y]))
    (h : EVU f value st (fun vs st1 => ∃ u v, vs = [u, v] ∧ P .next ((st1.put y v).put x u)))
    (hs : swapsWithSole [.Tuple [.Name x xp, .Name y yp] k tp] value pos.line f.env = pure false := by rfl) : EX1 f (.Assign [.Tuple [.Name x xp, .Name y yp] k tp] value pos) st P := by
  intro s R ht
  refine Assign_Tuple_swapped (wpAny_mono (wpAny_toks_of ht (h s R ht)) (fun v s1 ⟨ht1, st1, R1, S1, t, items, hv, hI, u, w, huw, hp⟩ => ?_) fun _ _ e => e.2) hs hw
  subst hv
  obtain ⟨v1, v2, hit, hv1, hv2⟩ : ∃ v1 v2, items = #[v1, v2] ∧ er v1 = u ∧ er v2 = w := by
    match items, huw with
    | ⟨[v1, v2]⟩, huw =>
      simp at huw
      exact ⟨v1, v2, rfl, huw.1, huw.2⟩
  subst hit
  subst hv1
  subst hv2
  refine unpackItems_tuple (items := #[v1, v2]) f.hand hI fun h' he => ?_
  have hk : ∀ b o, s1.heap.get? b = some o → h'.get? b = some o := fun b o e => he b o (Nat.ne_of_lt (Heap.lt_size e)) e
  have R2 : Rel f st1 { s1 with heap := h' } := R1.keeps hk rfl rfl
  have S2 : Step NoW st1 s1 st1 { s1 with heap := h' } := .keeps hk
  refine assignInOrder_cons (bindName_ (wpAny_mono (wpAny_toks_of ht1 (sw_store (Q := fun _ st2 => P .next (st2.put x (er v1))) hsc hy hp _ R2 ht1)) (fun _ s3 ⟨ht3, st3, R3, S3, h3⟩ => ?_) fun _ _ e => e.2))
  refine assignInOrder_cons (bindName_ (wpAny_mono (sw_store (Q := fun _ st2 => P .next st2) hsc hx h3 _ R3 ht3) (fun _ s4 ⟨st4, R4, S4, h4⟩ => ?_) fun _ _ e => e))
  refine assignInOrder_nil ⟨st4, R4, ((S1.trans S2).mono fun _ h => h.elim).trans (S3.trans S4), h4⟩

/-- a, b = .., stored in order -/
theorem ex_unpack {x y : Str} {xp yp tp pos : Pos} {k : Nat} {value : Expr} {sc : Scope} (hsc : f.env.scope = sc) (hx : CanPut f sc x) (hy : CanPut f sc y)
    (h : EVU f value st (fun vs st1 => ∃ u v, vs = [u, v] ∧ P .next ((st1.put x u).put y v)))
    (hw : swappedStores [.Tuple [.Name x xp, .Name y yp] k tp] value f.env = pure none := by rfl)
    (hs : swapsWithSole [.Tuple [.Name x xp, .Name y yp] k tp] value pos.line f.env = pure false := by rfl) : EX1 f (.Assign [.Tuple [.Name x xp, .Name y yp] k tp] value pos) st P := by
  intro s R ht
  refine Assign_Tuple (wpAny_mono (wpAny_toks_of ht (h s R ht)) (fun v s1 ⟨ht1, st1, R1, S1, t, items, hv, hI, u, w, huw, hp⟩ => ?_) fun _ _ e => e.2) hs hw
  subst hv
  obtain ⟨v1, v2, hit, hv1, hv2⟩ : ∃ v1 v2, items = #[v1, v2] ∧ er v1 = u ∧ er v2 = w := by
    match items, huw with
    | ⟨[v1, v2]⟩, huw =>
      simp at huw
      exact ⟨v1, v2, rfl, huw.1, huw.2⟩
  subst hit
  subst hv1
  subst hv2
  refine assign_Tuple_tuple (items := #[v1, v2]) f.hand hI rfl rfl fun h' he => ?_
  have hk : ∀ b o, s1.heap.get? b = some o → h'.get? b = some o := fun b o e => he b o (Nat.ne_of_lt (Heap.lt_size e)) e
  have R2 : Rel f st1 { s1 with heap := h' } := R1.keeps hk rfl rfl
  have S2 : Step NoW st1 s1 st1 { s1 with heap := h' } := .keeps hk
  refine assignInOrder_cons (assign_Name (wpAny_mono (wpAny_toks_of ht1 (sw_store (Q := fun _ st2 => P .next (st2.put y (er v2))) hsc hx hp _ R2 ht1)) (fun _ s3 ⟨ht3, st3, R3, S3, h3⟩ => ?_) fun _ _ e => e.2))
  refine assignInOrder_cons (assign_Name (wpAny_mono (sw_store (Q := fun _ st2 => P .next st2) hsc hy h3 _ R3 ht3) (fun _ s4 ⟨st4, R4, S4, h4⟩ => ?_) fun _ _ e => e))
  refine assignInOrder_nil ⟨st4, R4, ((S1.trans S2).mono fun _ h => h.elim).trans (S3.trans S4), h4⟩

theorem env_scope {env : Env} {sc : Scope} (h : env.scope = sc) : env = { env with scope := sc } := by cases env; cases h; rfl
end
end Mine

end
section
open PySem PySem.W PyProof.Rows PySem.Calls
set_option Elab.async false
set_option linter.unusedVariables false
set_option maxRecDepth 100000
namespace Mine
section
variable {f : Frm} {st : St} {P : Fl → St → Prop}

theorem Rel.gainPut {s s' : Shared} {D : Addr} {xs : List V} {ys : Array Value} {n : Nat} {y : Str} {m : Str → Option Value} (R : Rel f st s) (hn : s.heap.Ns f.env.locals m) (hy : f.env.kindOf y = some .local)
    (hn' : s'.heap.Ns f.env.locals (fun z => if z = y then some (.ref D) else m z)) (hk : ∀ b o, b ≠ f.env.locals → s.heap.get? b = some o → s'.heap.get? b = some o)
    (hD : s.heap.get? D = none) (hl : IsL s'.heap D ys n) (he : ys.toList.map er = xs) (hg : s'.gens = s.gens) (ho : (s'.os, s'.drawn) = (s.os, s.drawn)) :
    Rel f (({ st with own := (D, xs) :: st.own } : St).put y (.ref D)) s' ∧ Step f.W st s (({ st with own := (D, xs) :: st.own } : St).put y (.ref D)) s' := by
  obtain ⟨m0, hn0, hl0⟩ := R.loc
  have hm : ∀ z, m0 z = m z := by
    obtain ⟨o, es, ep, a1, a2, _, a3⟩ := hn
    obtain ⟨o', es', ep', b1, b2, _, b3⟩ := hn0
    rw [a1] at b1; cases b1
    rw [a2] at b2; cases b2
    intro z; rw [← a3, ← b3]
  have cellne : ∀ c v, s.heap.IsCell c v → c ≠ f.env.locals := by
    rintro c v ⟨o, h1, h2⟩ rfl
    obtain ⟨o', es, ep, h4, h5, _⟩ := hn
    rw [h1] at h4; cases h4; rw [h2] at h5; cases h5
  have listne : ∀ a ws, s.heap.IsList a ws → a ≠ f.env.locals := by
    rintro a ws ⟨o, h1, h2, k, h3⟩ rfl
    obtain ⟨o', es, ep, h4, h5, _⟩ := hn
    rw [h1] at h4; cases h4; rw [h3] at h5; cases h5
  have cellk : ∀ c v, s.heap.IsCell c v → s'.heap.IsCell c v := fun c v h => by
    have hne := cellne c v h
    obtain ⟨o, h1, h2⟩ := h
    exact ⟨o, hk c o hne h1, h2⟩
  have ownk : ∀ p ∈ st.own, p.1 ≠ D ∧ ∃ ws n, IsL s'.heap p.1 ws n ∧ ws.toList.map er = p.2 := by
    intro p hp
    obtain ⟨⟨ws, k, h1, h2⟩, _⟩ := R.own p hp
    have h1' : s.heap.get? p.1 = _ := h1
    have hne : p.1 ≠ D := by
      intro e
      rw [e, hD] at h1'
      cases h1'
    exact ⟨hne, ws, k, hk _ _ (listne p.1 ws ⟨_, h1', rfl, _, rfl⟩) h1', h2⟩
  refine ⟨⟨⟨_, hn', fun x v hx => ?_⟩, fun b o e => ?_, fun c hc => ?_, fun p hp => ?_, ?_, fun p hp => ?_, hg.trans R.gens, ho.trans R.os⟩, ⟨fun b o e hW _ => hk b o (fun e' => hW (.inl e')) e, fun b hb => ?_, fun b hb => ?_, fun b hb => .inl hb⟩⟩
  · have hx' : (put st.loc y (.ref D)).lookup x = some v := hx
    rw [lookup_put] at hx'
    by_cases hxy : x = y
    · subst hxy
      simp at hx'
      exact ⟨.ref D, hx', .inl ⟨hy, by simp⟩⟩
    · rw [if_neg hxy] at hx'
      obtain ⟨u, hu, h1⟩ := hl0 x v hx'
      refine ⟨u, hu, ?_⟩
      rcases h1 with ⟨h1, h2⟩ | ⟨h1, c, h2, h3⟩
      · exact .inl ⟨h1, by rw [if_neg hxy, ← hm]; exact h2⟩
      · exact .inr ⟨h1, c, h2, cellk _ _ h3⟩
  · exact hk b o (fun e' => by rw [e', f.hL] at e; cases e) (R.keep b o e)
  · obtain ⟨v, hv⟩ := R.wcell c hc
    exact ⟨v, cellk _ _ hv⟩
  · have hp' : p ∈ (D, xs) :: st.own := hp
    rcases List.mem_cons.mp hp' with rfl | hp'
    · refine ⟨⟨ys, n, hl, he⟩, ?_⟩
      cases e : f.h₀.get? D with
      | none => rfl
      | some o => have := R.keep _ _ e; rw [hD] at this; cases this
    · exact ⟨(ownk p hp').2, (R.own p hp').2⟩
  · show (((D, xs) :: st.own).map (·.1)).Nodup
    rw [List.map_cons, List.nodup_cons]
    refine ⟨fun h => ?_, R.nd⟩
    obtain ⟨q, hq, e⟩ := List.mem_map.mp h
    exact (ownk q hq).1 e
  · obtain ⟨⟨ws, h1, h2⟩, h3⟩ := R.ro p hp
    refine ⟨⟨ws, ?_, h2⟩, ?_⟩
    · have hne := listne _ _ h1
      obtain ⟨o, g1, g2⟩ := h1
      exact ⟨o, hk _ _ hne g1, g2⟩
    · show p.1 ∉ ((D, xs) :: st.own).map (·.1)
      rw [List.map_cons, List.mem_cons]
      rintro (e | e)
      · obtain ⟨o, g1, _⟩ := h1
        have e' : p.1 = D := e
        rw [e', hD] at g1; cases g1
      · exact h3 e
  · have hb' : b ∈ ((D, xs) :: st.own).map (·.1) := hb
    rw [List.map_cons, List.mem_cons] at hb'
    rcases hb' with e | e
    · have e' : b = D := e
      exact .inr (by rw [e']; exact hD)
    · exact .inl e
  · cases e : s.heap.get? b with
    | none => rfl
    | some o =>
      by_cases hbl : b = f.env.locals
      · subst hbl
        obtain ⟨o', _, _, g, _⟩ := hn'
        rw [hb] at g; cases g
      · rw [hk b o hbl e] at hb; cases hb

/-- y = [.. for x in ..], on one row, y a local -/
theorem ex_assign_comp {elt iter : Expr} {x y : Str} {px py : Pos} {ifs : List Expr} {scope sc : Scope} {pos spos : Pos} (cap : List (Str × V)) (pz : V → Bool) (g : V → V) (hsc : f.env.scope = sc) (ok : CompOk scope sc x cap) (hcap : LocSub cap st.loc)
    (hy : sc.names.lookup y = some .local) (hsw : swapsWith (.ListComp elt [⟨.Name x px, iter, ifs, 0⟩] scope pos) (some (.Name y py)) spos.line f.env = pure true)
    (h : SRC f iter st (fun xs src st1 => LocSub cap st1.loc ∧ xs.length ≤ 16777216 ∧
      (∀ v ∈ xs, ∀ fc : Frm, fc.wd = f.wd → fc.env.scope = relabelS scope sc → fc.k = f.k → TST fc ifs ⟨(x, v) :: cap, [], st1.own ++ st1.ro⟩ (fun b _ => b = pz v)) ∧
      (∀ v ∈ xs, pz v = true → ∀ fc : Frm, fc.wd = f.wd → fc.env.scope = relabelS scope sc → fc.k = f.k → EV fc elt ⟨(x, v) :: cap, [], st1.own ++ st1.ro⟩ (fun y _ => y = g v)) ∧
      ∀ c, P .next (({ st1 with own := (c, (xs.filter pz).map g) :: st1.own } : St).put y (.ref c))))
    (hs : ∀ x, foldedSetIterable iter f.env x = pure x := by intro _; rfl) : EX1 f (.Assign [.Name y py] (.ListComp elt [⟨.Name x px, iter, ifs, 0⟩] scope pos) spos) st P := by
  intro s R ht
  obtain ⟨cl, hcl⟩ := R.clos hsc ok hcap
  have hyk : f.env.kindOf y = some .local := by unfold Env.kindOf; rw [hsc]; exact hy
  refine wpAny_Assign_ListComp_free (fun v => pz (er v)) (fun v y => er y = g (er v)) hsw (closureFor_eq hcl) ok.cells ok.kind ok.names ok.var hyk (by rw [f.kind]; rfl) ?_ hs
  refine wpAny_mono (wpAny_toks_of ht (h s R ht)) (fun xv s1 ⟨ht1, st1, xs, src, R1, S1, hit, hcap1, hlen, htest, helt, hp⟩ => ?_) fun _ _ e => e.2
  refine iter_of f.hand hit fun o Stw W hst ho => ?_
  have hk2 : ∀ b o', s1.heap.get? b = some o' → (s1.heap.push o).get? b = some o' := fun b o' e => Heap.get?_push_of_some _ e
  obtain ⟨fp, hfp, WW⟩ := W.walks
  obtain ⟨m, hm, _⟩ := R1.loc
  have hmlt : f.env.locals ≠ s1.heap.objs.size := by
    obtain ⟨o', _, _, g, _⟩ := id hm
    exact Nat.ne_of_lt (Heap.lt_size g)
  refine ⟨s1.heap.objs.size, fp, [s1.heap.objs.size], xs.length, _, Stw, m, rfl, WW, by rw [sizeLine_eq]; exact hlen, hst, fun b hb => ?_, by simpa using hmlt, ?_, ?_, fun D h' tk ys vs hD hl hpl hvl hvP hF hns hk => ?_⟩
  · show b < (s1.heap.push o).objs.size
    rw [Heap.size_push]
    rcases hfp b hb with rfl | hb
    · exact Nat.lt_succ_self _
    · subst hb
      cases hit with
      | list hl => obtain ⟨o', h1, _⟩ := hl; exact Nat.lt_succ_of_lt (Heap.lt_size h1)
  · obtain ⟨o', es, ep, a1, a2⟩ := hm
    exact ⟨o', es, ep, hk2 _ _ a1, a2⟩
  · exact comp_quiet (s1 := s1) (s2 := { s1 with heap := s1.heap.push o }) hsc ok R1 ht1 hcl hcap1 (fun b o' e => ⟨Nat.ne_of_lt (Heap.lt_size e), hk2 b o' e⟩) (Nat.le_refl _) pz g htest helt
  · have hD1 : s1.heap.get? D = none := by
      cases e : s1.heap.get? D with
      | none => rfl
      | some o' => have : (s1.heap.push o).get? D = none := hD; rw [hk2 _ _ e] at this; cases this
    have hxs : vs.map er = xs := by
      apply List.ext_getElem?
      intro j
      by_cases hj : j < vs.length
      · have := hvP j vs[j] (List.getElem?_eq_getElem hj)
        rw [this]; simp [hj]
      · rw [List.getElem?_eq_none (by simp; omega), List.getElem?_eq_none (by omega)]
    have hys : ys.toList.map er = (xs.filter pz).map g := by
      rw [paired_er hF, ← hxs, List.filter_map, List.map_map]
      rfl
    obtain ⟨n, hpn⟩ := hpl
    obtain ⟨R2, S2⟩ := R1.gainPut (s' := { s1 with heap := h', toks := tk }) hm hyk hns (fun b o' hb e => hk b o' hb (by simpa using Nat.ne_of_lt (Heap.lt_size e)) (hk2 b o' e)) hD1 hpn hys rfl rfl
    exact ⟨_, R2, (S1.mono fun _ h => h.elim).trans S2, hp D⟩
end
end Mine

end
section
open PySem PySem.W PyProof.Rows PySem.Calls
set_option Elab.async false
set_option linter.unusedVariables false
set_option maxRecDepth 100000
namespace Mine

theorem compTurn_two0 (elt t1 i1 t2 i2 : Expr) (scope : Scope) (pos : Pos) (it acc : Value) (env : Env) :
    compTurn (.ListComp elt [⟨t1, i1, [], 0⟩, ⟨t2, i2, [], 0⟩] scope pos) 0 it acc env = (standAt i1.pos >>= fun _ => pyNext it >>= fun r => match r with
      | none => pure (.done .next)
      | some v => letOwnedTupleGo t1 it v >>= fun _ => assign t1 env v >>= fun _ =>
        (eval i2 env >>= fun x => standAt i2.pos >>= fun _ => foldedSetIterable i2 env x >>= fun x => holding [x] (pyIter x) >>= fun j =>
          runOwn (.compStart (.ListComp elt [⟨t1, i1, [], 0⟩, ⟨t2, i2, [], 0⟩] scope pos) 1 j acc env) env >>= fun _ => again (.compLoop (.ListComp elt [⟨t1, i1, [], 0⟩, ⟨t2, i2, [], 0⟩] scope pos) 0 it acc env))) := by rfl

theorem compTurn_two1 (elt t1 i1 t2 i2 : Expr) (scope : Scope) (pos : Pos) (it acc : Value) (env : Env) :
    compTurn (.ListComp elt [⟨t1, i1, [], 0⟩, ⟨t2, i2, [], 0⟩] scope pos) 1 it acc env = (standAt i2.pos >>= fun _ => pyNext it >>= fun r => match r with
      | none => pure (.done .next)
      | some v => letOwnedTupleGo t2 it v >>= fun _ => assign t2 env v >>= fun _ =>
        ((eval elt env >>= fun x => call (.builtin "list.append") [acc, x] >>= fun _ => pure ()) >>= fun _ =>
          again (.compLoop (.ListComp elt [⟨t1, i1, [], 0⟩, ⟨t2, i2, [], 0⟩] scope pos) 1 it acc env))) := by rfl

section
variable {prog : Program} {w : World} {A : Around} {E : Value → Shared → Prop} {R : Result → Shared → Prop} {s : Shared}

/-- the start of the inner generator -/
theorem compStart_two1 {elt t1 i1 t2 i2 : Expr} {scope : Scope} {pos : Pos} {it acc : Value} {env : Env}
    (h0 : codeAny (model prog w) A (.compLoop (.ListComp elt [⟨t1, i1, [], 0⟩, ⟨t2, i2, [], 0⟩] scope pos) 1 it acc env) R s)
    (h : wpAny (model prog w) A (pyIter it) (fun it' s' => codeAny (model prog w) A (.compLoop (.ListComp elt [⟨t1, i1, [], 0⟩, ⟨t2, i2, [], 0⟩] scope pos) 1 it' acc env) R s')
      (notedBy (model prog w) A env fun x s' => R (.error x) s') s) :
    codeAny (model prog w) A (.compStart (.ListComp elt [⟨t1, i1, [], 0⟩, ⟨t2, i2, [], 0⟩] scope pos) 1 it acc env) R s := by
  refine codeAny_of_tree ?_
  show wpAny _ _ ((compStart (.ListComp elt [⟨t1, i1, [], 0⟩, ⟨t2, i2, [], 0⟩] scope pos) 1 it acc env).onRaise (fun x => do noteFrame x env; standAt theWindowsPlace)) _ _ s
  refine wpAny_notedAt ?_
  unfold compStart
  show wpAny _ _ (ask >>= _) _ _ s
  refine wpAny_bind (wpAny_askSetting (wpAny_ite ?_))
  split
  · first
      | exact wpAny_bind (wpAny_pure (wpAny_pure (And.intro rfl h0)))
      | exact wpAny_pure (And.intro rfl h0)
  · first
      | exact wpAny_bind (wpAny_rule (wpAny_bind (wpAny_standAt (wpAny_bind (wpAny_mono h (fun it' s' h' => wpAny_pure (And.intro rfl h')) fun _ _ x => x)))))
      | (refine wpAny_bind (wpAny_rule ?_); show wpAny _ _ (standAt i2.pos >>= _) _ _ s; exact wpAny_bind (wpAny_standAt (wpAny_bind (wpAny_mono h (fun it' s' h' => wpAny_pure (And.intro rfl h')) fun _ _ x => x))))

/-- an iterator over a text -/
theorem iter_str {x : List Nat} {t : Tok} {Q : Value → Shared → Prop} (hh : A.handled = none)
    (h : ∀ o St, Iter prog w A s.heap.objs.size (x.map fun c => V.str [c]) none St → St 0 (s.heap.push o) → Q (.ref s.heap.objs.size) { s with heap := s.heap.push o }) :
    wpAny (model prog w) A (pyIter (.str ⟨x.toArray⟩ t)) Q E s := by
  have W : Walks prog w A s.heap.objs.size [s.heap.objs.size] [s.heap.objs.size] (Str.cps ⟨x.toArray⟩).size (SignAt ⟨x.toArray⟩) (fun i h => h.IsStrIter s.heap.objs.size (strIterType ⟨x.toArray⟩) ⟨x.toArray⟩ t i) := by
    unfold strIterType
    split
    · exact Walks.strAscii hh _ _ _
    · exact Walks.strWide hh _ _ _
  have hlen : (x.map fun c => V.str [c]).length = (Str.cps ⟨x.toArray⟩).size := by simp
  refine wpAny_pyIter_strU (h _ (fun i h => h.IsStrIter s.heap.objs.size (strIterType ⟨x.toArray⟩) ⟨x.toArray⟩ t i) ?_ ⟨_, Heap.get?_push_size _ rfl, rfl, rfl⟩)
  refine ⟨fun i h h' st hk => W.frame i h h' st fun b hb o e => hk b o (by simp at hb; exact .inl hb) e, ?_, ?_, fun i h st => let ⟨o, ho, _⟩ := st; ⟨o, ho⟩, [s.heap.objs.size], fun b hb => by simp at hb; exact .inl hb, ?_⟩
  · intro i s' Q E st y hy hQ
    have hlt : i < (Str.cps ⟨x.toArray⟩).size := by rw [← hlen]; exact (List.getElem?_eq_some_iff.mp hy).1
    refine W.item i s' Q E hlt st fun v h' tk hv st' hk => hQ v h' tk ?_ st' fun b o hb e => hk b o (by simpa using hb) e
    obtain ⟨c, u, hc, rfl⟩ := hv
    have hc' : x[i]? = some c := by simpa using hc
    rw [List.getElem?_map, hc'] at hy
    simpa [er] using hy
  · intro s' Q E st hQ
    rw [hlen] at st
    exact W.done s' Q E st fun h' tk hk => hQ h' tk fun b o hb e => hk b o (by simpa using hb) e
  · rw [hlen]
    refine ⟨W.sub, W.frame, fun i s' Q E hi st hQ => W.item i s' Q E hi st fun v h' tk hv st' hk => hQ v h' tk ?_ st' hk, W.done, W.self⟩
    obtain ⟨c, u, hc, rfl⟩ := hv
    have hc' : x[i]? = some c := by simpa using hc
    rw [List.getElem?_map, hc']; simp [er]
end

section
variable {fc : Frm}

theorem Rel.iterC {st : St} {s : Shared} {I : Addr} {h' : Heap} {tk : Nat} (R : Rel fc st s) (hwc : fc.wc = []) (hcl : ∀ n c, fc.env.cells.lookup n = some c → c ≠ I) (hI : I ≠ fc.env.locals) (h0 : fc.h₀.get? I = none)
    (ho : I ∉ st.own.map (·.1)) (hr : I ∉ st.ro.map (·.1)) (hk : ∀ b o, b ≠ I → s.heap.get? b = some o → h'.get? b = some o) : Rel fc st { s with heap := h', toks := tk } where
  loc := by
    obtain ⟨m, hn, hl⟩ := R.loc
    refine ⟨m, hn.at' fun o e => hk _ o (Ne.symm hI) e, fun x v hx => ?_⟩
    obtain ⟨u, hu, h⟩ := hl x v hx
    refine ⟨u, hu, h.imp id fun ⟨h1, c, h2, h3⟩ => ⟨h1, c, h2, ?_⟩⟩
    obtain ⟨o, h4, h5⟩ := h3
    exact ⟨o, hk _ o (hcl x c h2) h4, h5⟩
  keep := fun b o e => hk b o (fun e' => by rw [e', h0] at e; cases e) (R.keep b o e)
  wcell := fun c hc => by rw [hwc] at hc; cases hc
  own := fun p hp => let ⟨⟨ws, n, h1, h2⟩, h3⟩ := R.own p hp; ⟨⟨ws, n, hk _ _ (fun e => ho (e ▸ List.mem_map_of_mem hp)) h1, h2⟩, h3⟩
  nd := R.nd
  ro := fun p hp => let ⟨⟨ws, ⟨o, h1, h1'⟩, h2⟩, h3⟩ := R.ro p hp; ⟨⟨ws, ⟨o, hk _ _ (fun e => hr (e ▸ List.mem_map_of_mem hp)) h1, h1'⟩, h2⟩, h3⟩
  gens := R.gens
  os := R.os

/-- an expression that only reads, beside lists of the frame's own -/
theorem EV.quiet {e : Expr} {loc loc' : List (Str × V)} {own ro : List (Addr × List V)} {s : Shared} {Q : V → Prop} (R : Rel fc ⟨loc, own, ro⟩ s) (ht : 1 ≤ s.toks) (hs : ∀ x v, loc'.lookup x = some v → loc.lookup x = some v)
    (h : EV fc e ⟨loc', [], ro⟩ (fun r _ => Q r)) :
    wpAny fc.M fc.A (eval e fc.env) (fun v s' => 1 ≤ s'.toks ∧ Rel fc ⟨loc, own, ro⟩ s' ∧ (∀ b o, s.heap.get? b = some o → s'.heap.get? b = some o) ∧ Q (er v)) (fun _ _ => False) s := by
  have R' : Rel fc ⟨loc', [], ro⟩ s := R.weaken ⟨hs, List.nil_sublist _, fun p hp => .inl hp⟩
  refine wpAny_mono (wpAny_toks_of ht (h s R' ht)) (fun v s' ⟨ht', st', R2, S2, hq⟩ => ?_) (fun _ _ e => e.2)
  have hk : ∀ b o, s.heap.get? b = some o → s'.heap.get? b = some o := fun b o e => S2.fram b o e (fun h => h) (by simp)
  exact ⟨ht', R.keeps hk (R2.gens.trans R.gens.symm) (R2.os.trans R.os.symm), hk, hq⟩

theorem wc_W (hwc : fc.wc = []) {b : Addr} (h : b ≠ fc.env.locals) : ¬ fc.W b := by
  rintro (e | e)
  · exact h e
  · rw [hwc] at e; cases e

theorem lookup_put_none {loc : List (Str × V)} {y : Str} {c : V} (hyl : loc.lookup y = none) : ∀ z v, loc.lookup z = some v → (put loc y c).lookup z = some v := fun z v hz => by
  rw [lookup_put]
  by_cases e : z = y
  · subst e; rw [hyl] at hz; cases hz
  · rw [if_neg e]; exact hz
theorem lookup_put_cons {loc : List (Str × V)} {y : Str} {c : V} : ∀ z v, ((y, c) :: loc).lookup z = some v → (put loc y c).lookup z = some v := fun z v hz => by
  rw [lookup_put]
  rw [List.lookup_cons] at hz
  by_cases e : z = y
  · subst e; simpa using hz
  · have : (z == y) = false := by simpa using e
    rw [this] at hz
    rw [if_neg e]; exact hz

/-- the inner generator's loop -/
theorem comp_loop1 {elt t1 i1 i2 : Expr} {y : Str} {py : Pos} {scope scr : Scope} {pos : Pos} {D J : Addr} {ys : List V} {Stj : Nat → Heap → Prop} {loc : List (Str × V)} {ro : List (Addr × List V)} {acc : List V} {g : V → V}
    {R : Result → Shared → Prop} {s : Shared}
    (hwc : fc.wc = []) (hcl : ∀ n c, fc.env.cells.lookup n = some c → c ≠ J) (hsc : fc.env.scope = scr) (hy : scr.names.lookup y = some .local) (hyl : loc.lookup y = none)
    (W : Iter fc.wd.prog fc.wd.w fc.A J ys none Stj) (R0 : Rel fc ⟨loc, [(D, acc)], ro⟩ s) (ht : 1 ≤ s.toks) (hst : Stj 0 s.heap)
    (hJC : J ≠ fc.env.locals) (hJD : J ≠ D) (hJ0 : fc.h₀.get? J = none) (hJr : J ∉ ro.map (·.1)) (hlen : acc.length + ys.length ≤ 16777216)
    (helt : ∀ c ∈ ys, EV fc elt ⟨(y, c) :: loc, [], ro⟩ (fun r _ => r = g c))
    (hR : ∀ s', Rel fc ⟨loc, [(D, acc ++ ys.map g)], ro⟩ s' → 1 ≤ s'.toks → (∀ b o, b ≠ fc.env.locals → b ≠ D → b ≠ J → s.heap.get? b = some o → s'.heap.get? b = some o) → R (.ok .next) s') :
    codeAny fc.M fc.A (.compLoop (.ListComp elt [⟨t1, i1, [], 0⟩, ⟨.Name y py, i2, [], 0⟩] scope pos) 1 (.ref J) (.ref D) fc.env) R s := by
  refine codeAny_loop rfl (fun n s' => ∃ i, i ≤ ys.length ∧ n = ys.length + 1 - i ∧ Rel fc ⟨loc, [(D, acc ++ (ys.take i).map g)], ro⟩ s' ∧ 1 ≤ s'.toks ∧ Stj i s'.heap ∧
    (∀ b o, b ≠ fc.env.locals → b ≠ D → b ≠ J → s.heap.get? b = some o → s'.heap.get? b = some o)) ?_ (ys.length + 1) ⟨0, Nat.zero_le _, rfl, by simpa using R0, ht, hst, fun _ _ _ _ _ e => e⟩
  rintro n s1 ⟨i, hi, rfl, R1, ht1, hst1, hk1⟩
  show wpAny fc.M fc.A ((compTurn (.ListComp elt [⟨t1, i1, [], 0⟩, ⟨.Name y py, i2, [], 0⟩] scope pos) 1 (.ref J) (.ref D) fc.env).onRaise (fun x => do noteFrame x fc.env; theTreesLotGoes x)) _ _ s1
  refine wpAny_noted ?_
  rw [compTurn_two1]
  refine wpAny_bind (wpAny_standAt (wpAny_bind ?_))
  have hJo : J ∉ ([(D, acc ++ (ys.take i).map g)] : List (Addr × List V)).map (·.1) := by simpa using hJD
  cases hyi : ys[i]? with
  | none =>
    have hlen' : i = ys.length := by have := List.getElem?_eq_none_iff.mp hyi; omega
    subst hlen'
    have hn := W.done s1 (fun r s4 => r = none ∧ ∃ h' tk, s4 = { s1 with heap := h', toks := tk } ∧ ∀ b o, b ≠ J → s1.heap.get? b = some o → h'.get? b = some o) (fun _ _ => False) hst1 (fun h' tk hk => ⟨rfl, h', tk, rfl, hk⟩)
    refine wpAny_mono (wpAny_toks_of ht1 hn) (fun r s4 ⟨ht4, hr, h', tk, hs4, hk⟩ => ?_) (fun _ _ e => e.2.elim)
    subst hr
    have R4 := R1.iterC (tk := tk) hwc hcl hJC hJ0 hJo hJr hk
    rw [← hs4, List.take_length] at R4
    exact wpAny_pure (hR s4 R4 ht4 fun b o hC hD hJ e => by rw [hs4]; exact hk b o hJ (hk1 b o hC hD hJ e))
  | some c =>
    have hlt : i < ys.length := (List.getElem?_eq_some_iff.mp hyi).1
    have hmem : c ∈ ys := List.mem_of_getElem? hyi
    have hn := W.item i s1 (fun r s4 => ∃ u h' tk, r = some u ∧ er u = c ∧ Stj (i + 1) h' ∧ s4 = { s1 with heap := h', toks := tk } ∧ ∀ b o, b ≠ J → s1.heap.get? b = some o → h'.get? b = some o) (fun _ _ => False) hst1 c hyi
      (fun u h' tk hu hst' hk => ⟨u, h', tk, rfl, hu, hst', rfl, hk⟩)
    refine wpAny_mono (wpAny_toks_of ht1 hn) (fun r s4 ⟨ht4, u, h', tk, hr, hu, hst4, hs4, hk⟩ => ?_) (fun _ _ e => e.2.elim)
    subst hr
    have R4 := R1.iterC (tk := tk) hwc hcl hJC hJ0 hJo hJr hk
    have hst4' : Stj (i + 1) s4.heap := by rw [hs4]; exact hst4
    have hk4 : ∀ b o, b ≠ fc.env.locals → b ≠ D → b ≠ J → s.heap.get? b = some o → s4.heap.get? b = some o := fun b o hC hD hJ e => by rw [hs4]; exact hk b o hJ (hk1 b o hC hD hJ e)
    rw [← hs4] at R4
    subst hu
    refine wpAny_bind (wpAny_pure (wpAny_bind (wpAny_assign_Name ?_)))
    refine wpAny_mono (wpAny_toks_of ht4 (sw_store (x := y) (v := u) (Q := fun _ st' => st' = (⟨loc, [(D, acc ++ (ys.take i).map g)], ro⟩ : St).put y (er u)) hsc (.inl hy) rfl s4 R4 ht4)) (fun _ s5 ⟨ht5, st5, R5, S5, h5⟩ => ?_) (fun _ _ e => e.2.elim)
    subst h5
    have hk5 : ∀ b o, b ≠ fc.env.locals → b ≠ D → s4.heap.get? b = some o → s5.heap.get? b = some o := fun b o hC hD e => S5.fram b o e (wc_W hwc hC) (by simpa using hD)
    have hst5 : Stj (i + 1) s5.heap := W.frame _ _ _ hst4' fun b o hb e => by
      rcases hb with rfl | hb
      · exact hk5 _ _ hJC hJD e
      · cases hb
    refine wpAny_bind (wpAny_bind (wpAny_mono (EV.quiet (loc' := (y, er u) :: loc) R5 ht5 lookup_put_cons (helt (er u) hmem)) (fun r s6 ⟨ht6, R6, hk6, hr6⟩ => ?_) (fun _ _ e => e.elim)))
    obtain ⟨⟨ws, n, hl, he⟩, _⟩ := R6.own (D, acc ++ (ys.take i).map g) (List.mem_singleton.mpr rfl)
    have hwl : ws.size = acc.length + i := by
      have := congrArg List.length he
      simp at this
      omega
    refine wpAny_bind (wpAny_mono (wpAny_toks_of ht6 (wpAny_list_append_plain (Q := fun _ s7 => ∃ h7, s7 = { s6 with heap := h7 } ∧ h7.PlainList D (ws.push r) ∧ Heap.SameBut D s6.heap h7) (E := fun _ _ => False) ⟨n, hl⟩ (fun h7 hp7 hs7 => ⟨h7, rfl, hp7, hs7⟩) (by rw [sizeLine_eq]; omega))) (fun _ s7 ⟨ht7, h7, hs7, ⟨n7, hp7⟩, hb7⟩ => ?_) (fun _ _ e => e.2.elim))
    refine wpAny_pure (wpAny_pure ⟨rfl, ?_⟩)
    obtain ⟨st8, R8, S8, h8⟩ := SW.turned (W := NoW) (s' := s7) (pre := []) (post := []) (ys := (acc ++ (ys.take i).map g) ++ [g (er u)]) (v := ()) (Q := fun _ st' => st' = ⟨(put loc y (er u)), [(D, (acc ++ (ys.take i).map g) ++ [g (er u)])], ro⟩) R6 rfl (by rw [hs7]; exact hp7) (by simp [he, hr6]) (by rw [hs7]; exact hb7) rfl (by rw [hs7]) (by rw [hs7])
    subst h8
    have hk8 : ∀ b o, b ≠ D → s6.heap.get? b = some o → s7.heap.get? b = some o := fun b o hD e => by rw [hs7]; exact (hb7.2 b hD).trans e
    refine ⟨ys.length + 1 - (i + 1), by omega, i + 1, hlt, rfl, ?_, ht7, ?_, ?_⟩
    · have : acc ++ (ys.take (i + 1)).map g = (acc ++ (ys.take i).map g) ++ [g (er u)] := by
        rw [List.take_add_one, hyi]; simp
      rw [this]
      exact R8.weaken ⟨lookup_put_none hyl, List.Sublist.refl _, fun p hp => .inl hp⟩
    · exact W.frame _ _ _ hst5 fun b o hb e => by
        rcases hb with rfl | hb
        · exact hk8 _ _ hJD (hk6 _ _ e)
        · cases hb
    · exact fun b o hC hD hJ e => hk8 b o hD (hk6 b o (hk5 b o hC hD (hk4 b o hC hD hJ e)))
end
end Mine

end
section
open PySem PySem.W PyProof.Rows PySem.Calls
set_option Elab.async false
set_option linter.unusedVariables false
set_option maxRecDepth 100000
namespace Mine

/-- what a comprehension with two generators makes, the inner one over a text -/
def pairs (g : V → V → V) (zs : List Nat) (xs : List V) : List V := xs.flatMap fun v => zs.map fun c => g v (.str [c])

theorem pairs_len (g : V → V → V) (zs : List Nat) : ∀ xs : List V, (pairs g zs xs).length = xs.length * zs.length
  | [] => by simp [pairs]
  | x :: xs => by
    have := pairs_len g zs xs
    unfold pairs at this ⊢
    rw [List.flatMap_cons, List.length_append, this, List.length_map, List.length_cons, Nat.succ_mul, Nat.add_comm]

theorem pairs_take (g : V → V → V) (zs : List Nat) {xs : List V} {i : Nat} {v : V} (h : xs[i]? = some v) : pairs g zs (xs.take (i + 1)) = pairs g zs (xs.take i) ++ (zs.map fun c => V.str [c]).map (g v) := by
  unfold pairs
  rw [List.take_add_one, h, List.flatMap_append]
  simp [List.map_map, Function.comp_def]

section
variable {fc : Frm}

/-- the outer generator's loop -/
theorem comp_loop0 {elt i1 i2 : Expr} {x y : Str} {px py : Pos} {scope scr : Scope} {pos : Pos} {D I : Addr} {xs : List V} {src : Option Addr} {Stw : Nat → Heap → Prop} {cap : List (Str × V)} {ro : List (Addr × List V)} {zs : List Nat} {g : V → V → V}
    {R : Result → Shared → Prop} {s : Shared}
    (hwc : fc.wc = []) (hcl : ∀ n c, fc.env.cells.lookup n = some c → ∃ o, fc.h₀.get? c = some o) (hsc : fc.env.scope = scr) (hx : scr.names.lookup x = some .local) (hy : scr.names.lookup y = some .local) (hxy : (y == x) = false) (hxl : cap.lookup x = none) (hyl : cap.lookup y = none)
    (W : Iter fc.wd.prog fc.wd.w fc.A I xs src Stw) (R0 : Rel fc ⟨cap, [(D, [])], ro⟩ s) (ht : 1 ≤ s.toks) (hst : Stw 0 s.heap)
    (hIC : I ≠ fc.env.locals) (hID : I ≠ D) (hI0 : fc.h₀.get? I = none) (hIr : I ∉ ro.map (·.1)) (hsrc : ∀ a, src = some a → a ≠ fc.env.locals ∧ a ≠ D ∧ ∃ o, fc.h₀.get? a = some o) (hlen : xs.length * zs.length ≤ 16777216)
    (hs2 : ∀ x, foldedSetIterable i2 fc.env x = pure x)
    (hit2 : ∀ v ∈ xs, EV fc i2 ⟨(x, v) :: cap, [], ro⟩ (fun r _ => r = .str zs))
    (helt : ∀ v ∈ xs, ∀ c ∈ zs, EV fc elt ⟨(y, .str [c]) :: (x, v) :: cap, [], ro⟩ (fun r _ => r = g v (.str [c])))
    (hR : ∀ s', Rel fc ⟨cap, [(D, pairs g zs xs)], ro⟩ s' → 1 ≤ s'.toks → (∀ b o, b ≠ fc.env.locals → b ≠ D → b ≠ I → s.heap.get? b = some o → s'.heap.get? b = some o) → R (.ok .next) s') :
    codeAny fc.M fc.A (.compLoop (.ListComp elt [⟨.Name x px, i1, [], 0⟩, ⟨.Name y py, i2, [], 0⟩] scope pos) 0 (.ref I) (.ref D) fc.env) R s := by
  refine codeAny_loop rfl (fun n s' => ∃ i, i ≤ xs.length ∧ n = xs.length + 1 - i ∧ Rel fc ⟨cap, [(D, pairs g zs (xs.take i))], ro⟩ s' ∧ 1 ≤ s'.toks ∧ Stw i s'.heap ∧
    (∀ b o, b ≠ fc.env.locals → b ≠ D → b ≠ I → s.heap.get? b = some o → s'.heap.get? b = some o)) ?_ (xs.length + 1) ⟨0, Nat.zero_le _, rfl, by simpa [pairs] using R0, ht, hst, fun _ _ _ _ _ e => e⟩
  rintro n s1 ⟨i, hi, rfl, R1, ht1, hst1, hk1⟩
  show wpAny fc.M fc.A ((compTurn (.ListComp elt [⟨.Name x px, i1, [], 0⟩, ⟨.Name y py, i2, [], 0⟩] scope pos) 0 (.ref I) (.ref D) fc.env).onRaise (fun x => do noteFrame x fc.env; theTreesLotGoes x)) _ _ s1
  refine wpAny_noted ?_
  rw [compTurn_two0]
  refine wpAny_bind (wpAny_standAt (wpAny_bind ?_))
  have hIo : I ∉ ([(D, pairs g zs (xs.take i))] : List (Addr × List V)).map (·.1) := by simpa using hID
  have hclI : ∀ n c, fc.env.cells.lookup n = some c → c ≠ I := fun n c h e => by
    obtain ⟨o, ho⟩ := hcl n c h
    rw [e, hI0] at ho; cases ho
  cases hxi : xs[i]? with
  | none =>
    have hlen' : i = xs.length := by have := List.getElem?_eq_none_iff.mp hxi; omega
    subst hlen'
    have hn := W.done s1 (fun r s4 => r = none ∧ ∃ h' tk, s4 = { s1 with heap := h', toks := tk } ∧ ∀ b o, b ≠ I → s1.heap.get? b = some o → h'.get? b = some o) (fun _ _ => False) hst1 (fun h' tk hk => ⟨rfl, h', tk, rfl, hk⟩)
    refine wpAny_mono (wpAny_toks_of ht1 hn) (fun r s4 ⟨ht4, hr, h', tk, hs4, hk⟩ => ?_) (fun _ _ e => e.2.elim)
    subst hr
    have R4 := R1.iterC (tk := tk) hwc hclI hIC hI0 hIo hIr hk
    rw [← hs4, List.take_length] at R4
    exact wpAny_pure (hR s4 R4 ht4 fun b o hC hD hI e => by rw [hs4]; exact hk b o hI (hk1 b o hC hD hI e))
  | some c =>
    have hlt : i < xs.length := (List.getElem?_eq_some_iff.mp hxi).1
    have hmem : c ∈ xs := List.mem_of_getElem? hxi
    have hn := W.item i s1 (fun r s4 => ∃ u h' tk, r = some u ∧ er u = c ∧ Stw (i + 1) h' ∧ s4 = { s1 with heap := h', toks := tk } ∧ ∀ b o, b ≠ I → s1.heap.get? b = some o → h'.get? b = some o) (fun _ _ => False) hst1 c hxi
      (fun u h' tk hu hst' hk => ⟨u, h', tk, rfl, hu, hst', rfl, hk⟩)
    refine wpAny_mono (wpAny_toks_of ht1 hn) (fun r s4 ⟨ht4, u, h', tk, hr, hu, hst4, hs4, hk⟩ => ?_) (fun _ _ e => e.2.elim)
    subst hr
    have R4 := R1.iterC (tk := tk) hwc hclI hIC hI0 hIo hIr hk
    have hst4' : Stw (i + 1) s4.heap := by rw [hs4]; exact hst4
    have hk4 : ∀ b o, b ≠ fc.env.locals → b ≠ D → b ≠ I → s.heap.get? b = some o → s4.heap.get? b = some o := fun b o hC hD hI e => by rw [hs4]; exact hk b o hI (hk1 b o hC hD hI e)
    rw [← hs4] at R4
    subst hu
    refine wpAny_bind (wpAny_pure (wpAny_bind (wpAny_assign_Name ?_)))
    refine wpAny_mono (wpAny_toks_of ht4 (sw_store (x := x) (v := u) (Q := fun _ st' => st' = (⟨cap, [(D, pairs g zs (xs.take i))], ro⟩ : St).put x (er u)) hsc (.inl hx) rfl s4 R4 ht4)) (fun _ s5 ⟨ht5, st5, R5, S5, h5⟩ => ?_) (fun _ _ e => e.2.elim)
    subst h5
    have hk5 : ∀ b o, b ≠ fc.env.locals → b ≠ D → s4.heap.get? b = some o → s5.heap.get? b = some o := fun b o hC hD e => S5.fram b o e (wc_W hwc hC) (by simpa using hD)
    have keepW : ∀ {h h' : Heap}, (∀ b o, b ≠ fc.env.locals → b ≠ D → h.get? b = some o → h'.get? b = some o) → Stw (i + 1) h → Stw (i + 1) h' := fun hh hs' => W.frame _ _ _ hs' fun b o hb e => by
      rcases hb with rfl | hb
      · exact hh _ _ hIC hID e
      · obtain ⟨h1, h2, _⟩ := hsrc b hb
        exact hh _ _ h1 h2 e
    have hst5 : Stw (i + 1) s5.heap := keepW hk5 hst4'
    refine wpAny_bind (wpAny_mono (EV.quiet (loc' := (x, er u) :: cap) R5 ht5 lookup_put_cons (hit2 (er u) hmem)) (fun r s6 ⟨ht6, R6, hk6, hr6⟩ => ?_) (fun _ _ e => e.elim))
    obtain ⟨t6, rfl⟩ := er_str hr6
    refine wpAny_bind (wpAny_standAt (wpAny_bind (wpAny_of_eq (hs2 _) (wpAny_bind (wpAny_holding ?_)))))
    refine iter_str fc.hand fun oJ Stj WJ hstJ => ?_
    have hnone : s6.heap.get? s6.heap.objs.size = none := by
      cases e : s6.heap.get? s6.heap.objs.size with
      | none => rfl
      | some o => exact absurd (Heap.lt_size e) (Nat.lt_irrefl _)
    have hk7 : ∀ b o', s6.heap.get? b = some o' → (s6.heap.push oJ).get? b = some o' := fun b o' e => Heap.get?_push_of_some _ e
    generalize hJ : s6.heap.objs.size = J at WJ hnone
    have R7 : Rel fc ⟨put cap x (er u), [(D, pairs g zs (xs.take i))], ro⟩ { s6 with heap := s6.heap.push oJ } := R6.keeps hk7
    have hJC : J ≠ fc.env.locals := by
      rintro rfl
      obtain ⟨m, ⟨o', es, ep, h4, _⟩, _⟩ := R6.loc
      rw [hnone] at h4; cases h4
    have hJ0 : fc.h₀.get? J = none := by
      cases e : fc.h₀.get? J with
      | none => rfl
      | some o' => have := R6.keep _ _ e; rw [hnone] at this; cases this
    have hJD : J ≠ D := by
      rintro rfl
      obtain ⟨⟨ws, n, h1, _⟩, _⟩ := R6.own (J, pairs g zs (xs.take i)) (List.mem_singleton.mpr rfl)
      have h1' : s6.heap.get? J = _ := h1
      rw [hnone] at h1'; cases h1'
    have hJr : J ∉ ro.map (·.1) := by
      intro hm
      obtain ⟨p, hp, rfl⟩ := List.mem_map.mp hm
      obtain ⟨⟨ws, ⟨o', h1, _⟩, _⟩, _⟩ := R6.ro p hp
      rw [hnone] at h1; cases h1
    have hclJ : ∀ n c, fc.env.cells.lookup n = some c → c ≠ J := fun n c h e => by
      obtain ⟨o, ho⟩ := hcl n c h
      rw [e, hJ0] at ho; cases ho
    have hp1 := pairs_len g zs (xs.take i)
    have hp2 : (xs.take i).length * zs.length + zs.length ≤ xs.length * zs.length := by
      have h1 : (xs.take i).length + 1 ≤ xs.length := by rw [List.length_take]; omega
      have h2 := Nat.mul_le_mul_right zs.length h1
      rw [Nat.succ_mul] at h2
      exact h2
    refine wpAny_bind (wpAny_runOwn ?_)
    rw [Around.mark_none]
    have fin : codeAny fc.M fc.A (.compLoop (.ListComp elt [⟨.Name x px, i1, [], 0⟩, ⟨.Name y py, i2, [], 0⟩] scope pos) 1 (.ref J) (.ref D) fc.env) (fun r s' => match r with
        | .ok f => wpAny fc.M fc.A (again (.compLoop (.ListComp elt [⟨.Name x px, i1, [], 0⟩, ⟨.Name y py, i2, [], 0⟩] scope pos) 0 (.ref I) (.ref D) fc.env)) (fun fin s' => match fin with
          | .done f => R (.ok f) s'
          | .again c' => c' = .compLoop (.ListComp elt [⟨.Name x px, i1, [], 0⟩, ⟨.Name y py, i2, [], 0⟩] scope pos) 0 (.ref I) (.ref D) fc.env ∧ ∃ m, m < xs.length + 1 - i ∧ ∃ i, i ≤ xs.length ∧ m = xs.length + 1 - i ∧ Rel fc ⟨cap, [(D, pairs g zs (xs.take i))], ro⟩ s' ∧ 1 ≤ s'.toks ∧ Stw i s'.heap ∧
            (∀ b o, b ≠ fc.env.locals → b ≠ D → b ≠ I → s.heap.get? b = some o → s'.heap.get? b = some o)) (notedBy fc.M fc.A fc.env fun e s' => R (.error e) s') s'
        | .error e => cameBackBy fc.M fc.A fc.env (notedBy fc.M fc.A fc.env fun e s' => R (.error e) s') e s') { s6 with heap := s6.heap.push oJ } := by
      refine comp_loop1 (g := g (er u)) hwc hclJ hsc hy (by rw [lookup_put, if_neg (by simpa using hxy)]; exact hyl) WJ R7 ht6 hstJ hJC hJD hJ0 hJr (by rw [List.length_map]; omega) ?_ fun s8 R8 ht8 hk8 => ?_
      · intro c hc
        obtain ⟨c', hc', rfl⟩ := List.mem_map.mp hc
        refine SW.weaken ?_ (helt (er u) hmem c' hc')
        refine ⟨fun z v hz => ?_, List.Sublist.refl _, fun p hp => .inl hp⟩
        have hz' : List.lookup z ((y, V.str [c']) :: (x, er u) :: cap) = some v := hz
        show List.lookup z ((y, V.str [c']) :: put cap x (er u)) = some v
        rw [List.lookup_cons] at hz' ⊢
        cases hb : z == y
        · rw [hb] at hz'
          exact lookup_put_cons z v hz'
        · rw [hb] at hz'; exact hz'
      · have hkk : ∀ b o, b ≠ fc.env.locals → b ≠ D → s4.heap.get? b = some o → s8.heap.get? b = some o := fun b o hC hD e => by
          have h6 := hk6 _ _ (hk5 b o hC hD e)
          refine hk8 b o hC hD (fun e' => ?_) (hk7 _ _ h6)
          rw [e', hnone] at h6; cases h6
        show wpAny _ _ (pure _) _ _ _
        refine wpAny_pure ⟨rfl, xs.length + 1 - (i + 1), by omega, i + 1, hlt, rfl, ?_, ht8, keepW hkk hst4', fun b o hC hD hI e => hkk b o hC hD (hk4 b o hC hD hI e)⟩
        rw [pairs_take g zs hxi]
        exact R8.weaken ⟨lookup_put_none hxl, List.Sublist.refl _, fun p hp => .inl hp⟩
    obtain ⟨fpj, _, WWj⟩ := WJ.walks
    exact compStart_two1 fin (WWj.self 0 _ _ _ hstJ fin)
end

section
variable {f : Frm} {st : St}

/-- what is asked of the names of a comprehension with two generators -/
structure CompOk2 (scope sc : Scope) (x y : Str) (cap : List (Str × V)) : Prop where
  one : CompOk scope sc x cap
  var2 : scope.names.lookup y = some .local
  ne : (y == x) = false
  capx : cap.lookup x = none
  capy : cap.lookup y = none

/-- the block of a comprehension with two generators -/
theorem comp_block2 {elt i1 i2 : Expr} {x y : Str} {px py : Pos} {scope sc : Scope} {pos : Pos} {cap : List (Str × V)} (hsc : f.env.scope = sc) (ok2 : CompOk2 scope sc x y cap) (hwc : f.wc = f.env.cells.map (·.2)) {s1 s2 : Shared} {st1 : St} {cl : List (Str × Addr)}
    {xs : List V} {src : Option Addr} {I : Addr} {Stw : Nat → Heap → Prop} {zs : List Nat} {RR : Value → Addr → Result → Shared → Prop} {E : Value → Shared → Prop}
    (R1 : Rel f st1 s1) (ht1 : 1 ≤ s1.toks) (hcl : closOf f.env.cells scope.names [] = some cl) (hcap : LocSub cap st1.loc) (o : Obj) (hI : I = s1.heap.objs.size) (hs12 : s2 = { s1 with heap := s1.heap.push o })
    (W : Iter f.wd.prog f.wd.w f.A I xs src Stw) (hst : Stw 0 s2.heap) (hsrc : ∀ a, src = some a → ∃ ws, s1.heap.IsList a ws) (hlen : xs.length * zs.length ≤ 16777216)
    (g : V → V → V) (hs2 : ∀ (env : Env) x, foldedSetIterable i2 env x = pure x)
    (hit2 : ∀ v ∈ xs, ∀ fc : Frm, fc.wd = f.wd → fc.env.scope = relabelS scope sc → fc.k = f.k → EV fc i2 ⟨(x, v) :: cap, [], st1.own ++ st1.ro⟩ (fun r _ => r = .str zs))
    (helt : ∀ v ∈ xs, ∀ c ∈ zs, ∀ fc : Frm, fc.wd = f.wd → fc.env.scope = relabelS scope sc → fc.k = f.k → EV fc elt ⟨(y, .str [c]) :: (x, v) :: cap, [], st1.own ++ st1.ro⟩ (fun r _ => r = g v (.str [c])))
    (hRR : ∀ D C h' tk m' ys n, s1.heap.get? D = none → s1.heap.get? C = none → D ≠ C → h'.Ns C m' → IsL h' D ys n → ys.toList.map er = pairs g zs xs → (∀ b o, s1.heap.get? b = some o → h'.get? b = some o) →
      RR (.ref D) C (.ok .next) { s1 with heap := h', toks := tk }) :
    wpAny f.M f.A (newList []) (fun acc s₃ => wpAny f.M f.A (newFunctionEnv scope f.env.globals cl [] f.env.qual none .none (some f.env)) (fun cenv s₄ =>
      codeAny f.M f.A (.compStart (.ListComp elt [⟨.Name x px, i1, [], 0⟩, ⟨.Name y py, i2, [], 0⟩] scope pos) 0 (.ref I) acc { cenv with scope := relabel scope f.env }) (RR acc cenv.locals) s₄) E s₃) E s2 := by
  have ok := ok2.one
  obtain ⟨c1, _, c3⟩ := closOf_sound _ _ _ hcl (fun _ _ h => by simp at h)
  have hclL : ∀ n c, cl.lookup n = some c → f.env.cells.lookup n = some c := fun n c h => c1 n c (mem_of_lookup h)
  refine wpAny_newObj_type (wpAny_newFunctionEnv ok.cells (by intro y hy; simp at hy) (fun h₁ hns₁ hsb₁ => ?_) ok.kind)
  dsimp only at hns₁ hsb₁ ⊢
  generalize hH2 : s2.heap.push { cls := .type "list", dict := none, data := .seq ([] : List Value).toArray } = H2 at hns₁ hsb₁ ⊢
  have hC : H2.objs.size = s2.heap.objs.size + 1 := by rw [← hH2, Heap.size_push]
  have hS2 : s2.heap.objs.size = s1.heap.objs.size + 1 := by rw [hs12]; exact Heap.size_push ..
  generalize hDd : s2.heap.objs.size = D at *
  generalize hCd : H2.objs.size = C at *
  have hDC : D ≠ C := by omega
  have hIC : I ≠ C := Nat.ne_of_lt (by rw [hI]; omega)
  have hID : I ≠ D := Nat.ne_of_lt (by rw [hI]; omega)
  have h12 : ∀ b o', s1.heap.get? b = some o' → s2.heap.get? b = some o' := fun b o' e => by rw [hs12]; exact Heap.get?_push_of_some _ e
  have below : ∀ b, b < D → b ≠ C ∧ b ≠ D := fun b hb => ⟨by omega, by omega⟩
  have old2 : ∀ b o', s2.heap.get? b = some o' → h₁.get? b = some o' := fun b o' e => hsb₁.extBut b o' (below b (hDd ▸ Heap.lt_size e)).1 (Heap.get?_push_of_some _ (hH2 ▸ Heap.get?_push_of_some _ e))
  have old : ∀ b o', s1.heap.get? b = some o' → h₁.get? b = some o' := fun b o' e => old2 b o' (h12 b o' e)
  have fresh : ∀ a, s1.heap.objs.size ≤ a → s1.heap.get? a = none := fun a ha => by
    cases e : s1.heap.get? a with
    | none => rfl
    | some o' => exact absurd (Heap.lt_size e) (Nat.not_lt.mpr ha)
  have hD1 : s1.heap.get? D = none := fresh D (by omega)
  have hC1 : s1.heap.get? C = none := fresh C (by omega)
  have hI1 : s1.heap.get? I = none := fresh I (Nat.le_of_eq hI.symm)
  have hacc : IsL h₁ D #[] 0 := by
    have := Heap.get?_push_size s2.heap (o := { cls := .type "list", dict := none, data := .seq ([] : List Value).toArray }) rfl
    rw [hDd] at this
    exact hsb₁.extBut _ _ hDC (Heap.get?_push_of_some _ (hH2 ▸ this))
  have hst₁ : Stw 0 h₁ := W.frame _ _ _ hst fun b o _ e => old2 b o e
  have hsc' : (compEnvC scope cl C f.env).scope = relabelS scope sc := relabel_eq hsc
  have hkd : (compEnvC scope cl C f.env).scope.kind = .function := by rw [hsc']; exact ok.kind
  have hnb : NoneBooked s1.heap := let ⟨mc, n1, n2⟩ := f.nb; ⟨mc, n1.keeps R1.keep, n2⟩
  have hkx : (relabelS scope sc).names.lookup x = some .local := by
    have := lookup_relabel_local (env := f.env) ok.var
    rw [← relabel_eq hsc]; exact this
  have hky : (relabelS scope sc).names.lookup y = some .local := by
    have := lookup_relabel_local (env := f.env) ok2.var2
    rw [← relabel_eq hsc]; exact this
  generalize hs3 : ({ s2 with heap := h₁, toks := s2.toks + ([] : List (Str × Value)).length } : Shared) = s3
  let fc : Frm :=
    { wd := f.wd
      A := f.A
      env := compEnvC scope cl C f.env
      h₀ := s1.heap
      wc := []
      s₀ := s3
      top := f.top.keeps R1.keep
      nb := hnb
      kind := hkd
      glob := f.glob
      blt := f.blt
      hand := f.hand
      hL := hC1
      hwc := fun c hc => nomatch hc
      hinj := fun a b c ha hb => f.hinj a b c (hclL _ _ ha) (hclL _ _ hb)
      k := f.k
      room := f.room
      unit := f.unit }
  have h3 : s3.heap = h₁ := by rw [← hs3]
  have R3 : Rel fc ⟨cap, [(D, [])], st1.own ++ st1.ro⟩ s3 := by
    refine ⟨⟨_, by rw [h3]; exact hns₁, fun y' u hy => ?_⟩, by rw [h3]; exact old, fun c (hc : c ∈ ([] : List Addr)) => (nomatch hc), fun p hp => ?_, by simp, fun p hp => ⟨?_, ?_⟩, rfl, rfl⟩
    · have hmem := mem_of_lookup hy
      have hyc : y' ∈ cap.map (·.1) := List.mem_map_of_mem hmem
      obtain ⟨k1, k2, k3⟩ := ok.cap y' hyc
      obtain ⟨m, hnn, hl⟩ := R1.loc
      obtain ⟨w, hw, hcase⟩ := hl y' u (hcap.sub y' u hy)
      refine ⟨w, hw, .inr ⟨?_, ?_⟩⟩
      · show (compEnvC scope cl C f.env).scope.names.lookup y' = some .cell
        rw [hsc']; exact k3
      rcases hcase with ⟨e, _⟩ | ⟨_, c, hc1, hc2⟩
      · unfold Env.kindOf at e; rw [hsc, k2] at e; cases e
      · obtain ⟨c', hc'⟩ := c3 y' k1
        obtain ⟨c'', g1, g2⟩ := lookup_of_in hc'
        have := c1 _ _ g2
        rw [hc1] at this; cases this
        exact ⟨c, g1, by rw [h3]; exact hc2.keeps old⟩
    · have hp' : p = (D, []) := List.mem_singleton.mp hp
      subst hp'
      exact ⟨⟨#[], 0, by rw [h3]; exact hacc, rfl⟩, hD1⟩
    · have hp' : p ∈ st1.own ++ st1.ro := hp
      obtain ⟨ws, ⟨o, w1, w1'⟩, w2⟩ := R1.list (List.mem_append.mp hp')
      exact ⟨ws, ⟨o, by rw [h3]; exact old _ _ w1, w1'⟩, w2⟩
    · have hp' : p ∈ st1.own ++ st1.ro := hp
      obtain ⟨ws, ⟨o, w1, w1'⟩, w2⟩ := R1.list (List.mem_append.mp hp')
      simp only [List.map_cons, List.map_nil, List.mem_singleton]
      intro e
      rw [e, hD1] at w1; cases w1
  have hIro : I ∉ (st1.own ++ st1.ro).map (·.1) := by
    intro hm
    obtain ⟨p, hp, e⟩ := List.mem_map.mp hm
    obtain ⟨ws, ⟨o, w1, w1'⟩, w2⟩ := R1.list (List.mem_append.mp hp)
    have e' : p.1 = I := e
    rw [e', hI1] at w1; cases w1
  have loop : codeAny fc.M fc.A (.compLoop (.ListComp elt [⟨.Name x px, i1, [], 0⟩, ⟨.Name y py, i2, [], 0⟩] scope pos) 0 (.ref I) (.ref D) fc.env) (RR (.ref D) C) s3 := by
    refine comp_loop0 (scr := relabelS scope sc) (g := g) rfl ?_ hsc' hkx hky ok2.ne ok2.capx ok2.capy W R3 ?_ (by rw [h3]; exact hst₁) hIC hID hI1 hIro ?_ hlen (hs2 _) (fun v hv => hit2 v hv fc rfl hsc' rfl) (fun v hv c hc => helt v hv c hc fc rfl hsc' rfl) fun s' R' ht' hk' => ?_
    · intro n c hn
      have := hclL n c hn
      have hcw : c ∈ f.wc := by rw [hwc]; exact List.mem_map_of_mem (mem_of_lookup this)
      obtain ⟨v, o', e, _⟩ := R1.wcell c hcw
      exact ⟨o', e⟩
    · rw [← hs3, hs12]; exact Nat.le_trans ht1 (Nat.le_add_right _ _)
    · intro a ha
      obtain ⟨ws, o', e, _⟩ := hsrc a ha
      refine ⟨?_, ?_, o', e⟩
      · rintro rfl
        exact absurd (hC1 ▸ e) (by simp)
      · rintro rfl
        exact absurd (hD1 ▸ e) (by simp)
    · obtain ⟨⟨ys, n, hl, he⟩, _⟩ := R'.own (D, pairs g zs xs) (List.mem_singleton.mpr rfl)
      obtain ⟨m', hm', _⟩ := R'.loc
      have := hRR D C s'.heap s'.toks m' ys n hD1 hC1 hDC hm' hl he fun b o' e => R'.keep b o' e
      have hg := R'.gens
      have ho := R'.os
      have hg0 : fc.s₀ = { s1 with heap := h₁, toks := s1.toks + ([] : List (Str × Value)).length } := by show s3 = _; rw [← hs3, hs12]
      rw [hg0] at hg ho
      have hs' : s' = { s1 with heap := s'.heap, toks := s'.toks } := by
        obtain ⟨hp, gn, dr, tk, os⟩ := s'
        simp only [Prod.mk.injEq] at hg ho
        rw [hg, ho.1, ho.2]
      rw [hs']; exact this
  obtain ⟨fp, _, WW⟩ := W.walks
  exact codeAny_compStart_list loop (WW.self 0 _ _ _ (by rw [h3]; exact hst₁) loop)
end
end Mine

end
section
open PySem PySem.W PyProof.Rows PySem.Calls
set_option Elab.async false
set_option linter.unusedVariables false
set_option maxRecDepth 100000
namespace Mine
section
variable {f : Frm} {st : St} {P : Fl → St → Prop}

/-- y = [elt for x in iter for z in a text], on one row, y a local -/
theorem ex_assign_comp2 {elt iter i2 : Expr} {x z y : Str} {px pz py : Pos} {scope sc : Scope} {pos spos : Pos} (cap : List (Str × V)) (zs : List Nat) (g : V → V → V) (hsc : f.env.scope = sc) (hwc : f.wc = f.env.cells.map (·.2)) (ok : CompOk2 scope sc x z cap) (hcap : LocSub cap st.loc)
    (hy : sc.names.lookup y = some .local) (hsw : swapsWith (.ListComp elt [⟨.Name x px, iter, [], 0⟩, ⟨.Name z pz, i2, [], 0⟩] scope pos) (some (.Name y py)) spos.line f.env = pure true)
    (h : SRC f iter st (fun xs src st1 => LocSub cap st1.loc ∧ xs.length * zs.length ≤ 16777216 ∧
      (∀ v ∈ xs, ∀ fc : Frm, fc.wd = f.wd → fc.env.scope = relabelS scope sc → fc.k = f.k → EV fc i2 ⟨(x, v) :: cap, [], st1.own ++ st1.ro⟩ (fun r _ => r = .str zs)) ∧
      (∀ v ∈ xs, ∀ c ∈ zs, ∀ fc : Frm, fc.wd = f.wd → fc.env.scope = relabelS scope sc → fc.k = f.k → EV fc elt ⟨(z, .str [c]) :: (x, v) :: cap, [], st1.own ++ st1.ro⟩ (fun r _ => r = g v (.str [c]))) ∧
      ∀ c, P .next (({ st1 with own := (c, pairs g zs xs) :: st1.own } : St).put y (.ref c))))
    (hs2 : ∀ (env : Env) x, foldedSetIterable i2 env x = pure x := by intro _ _; rfl)
    (hs : ∀ x, foldedSetIterable iter f.env x = pure x := by intro _; rfl) : EX1 f (.Assign [.Name y py] (.ListComp elt [⟨.Name x px, iter, [], 0⟩, ⟨.Name z pz, i2, [], 0⟩] scope pos) spos) st P := by
  intro s R ht
  obtain ⟨cl, hcl⟩ := R.clos hsc ok.one hcap
  have hyk : f.env.kindOf y = some .local := by unfold Env.kindOf; rw [hsc]; exact hy
  rw [exec_Assign_Name_used _ _ _ _ hsw]
  refine wpAny_bind (wpAny_standAt (wpAny_bind ?_))
  show wpAny _ f.A (do let _ ← comprehension (.ListComp elt [⟨.Name x px, iter, [], 0⟩, ⟨.Name z pz, i2, [], 0⟩] scope pos) scope f.env _ (newList []) false (eval iter f.env) (some (assign (.Name y py) f.env))) _ _ s
  refine wpAny_bind (wpAny_mono (wpAny_comprehension_free (use := some (assign (.Name y py) f.env)) (Q := fun _ s' => ∃ st', Rel f st' s' ∧ Step f.W st s st' s' ∧ P (erF .next) st') rfl hs (closureFor_eq hcl) ok.one.kind ok.one.names
    (wpAny_mono (wpAny_toks_of ht (h s R ht)) (fun xv s1 ⟨ht1, st1, xs, src, R1, S1, hit, hcap1, hlen, hit2, helt, hp⟩ => ?_) fun _ _ e => e.2)) (fun _ s' hq => wpAny_pure (wpAny_pure hq)) fun _ _ e => e)
  refine iter_of f.hand hit fun o Stw W hst ho => ?_
  obtain ⟨m, hm, _⟩ := id R1.loc
  refine comp_block2 (RR := fun acc C => compPost f.M f.A (fun _ _ => False) (some (assign (.Name y py) f.env)) (fun _ s' => ∃ st', Rel f st' s' ∧ Step f.W st s st' s' ∧ P (erF .next) st') acc C)
    hsc ok hwc R1 ht1 hcl hcap1 o rfl rfl W hst ?_ hlen g hs2 hit2 helt ?_
  · rintro a rfl
    cases hit with
    | list hl => exact ⟨_, hl⟩
  · intro D C h' tk m' ys n hD hC hDC hnC hl he hk
    have hLC : f.env.locals ≠ C := by rintro e; obtain ⟨o', _, _, ho', _⟩ := hm; rw [e, hC] at ho'; cases ho'
    have hLD : f.env.locals ≠ D := by rintro e; obtain ⟨o', _, _, ho', _⟩ := hm; rw [e, hD] at ho'; cases ho'
    show wpAny _ f.A (assign (.Name y py) f.env (.ref D)) _ _ _
    refine wpAny_assign_Name (wpAny_storeName_local hyk (hm.at' fun o' e => hk _ o' e) (fun h₂ hn₂ hs₂ => ?_) (by rw [f.kind]; rfl))
    refine ⟨m', hnC.sameBut hs₂ (Ne.symm hLC), fun h₃ hs₃ => ?_⟩
    have hl3 : IsL h₃ D ys n := hs₃.extBut _ _ hDC (hs₂.extBut _ _ (Ne.symm hLD) hl)
    obtain ⟨R2, S2⟩ := R1.gainPut (s' := { s1 with heap := h₃, toks := tk + 1 }) (xs := pairs g zs xs) hm hyk (hn₂.sameBut hs₃ hLC)
      (fun b o' hbL e => hs₃.extBut b o' (by rintro rfl; rw [hC] at e; cases e) (hs₂.extBut b o' hbL (hk b o' e))) hD hl3 he rfl rfl
    exact ⟨_, R2, (S1.mono fun _ h => h.elim).trans S2, hp D⟩
end
end Mine

end
section
open PySem PySem.W PyProof.Rows PySem.Calls
set_option Elab.async false
set_option linter.unusedVariables false
set_option maxRecDepth 100000
namespace Mine
section
variable {f : Frm} {st : St}

theorem SRC.sep {e : Expr} {P : List V → Option Addr → St → Prop} (h : SRC f e st P) : SRC f e st (fun xs src st1 => P xs src st1 ∧ ∀ p ∈ st1.ro, p.1 ∉ st1.own.map (·.1)) :=
  fun s R ht => wpAny_mono (h s R ht) (fun x s' ⟨st', xs, src, R', S', hi, hp⟩ => ⟨st', xs, src, R', S', hi, hp, fun p hp => (R'.ro p hp).2⟩) fun _ _ e => e
theorem SRC.mono {e : Expr} {P Q : List V → Option Addr → St → Prop} (h : SRC f e st P) (hq : ∀ xs src st1, P xs src st1 → Q xs src st1) : SRC f e st Q :=
  fun s R ht => wpAny_mono (h s R ht) (fun x s' ⟨st', xs, src, R', S', hi, hp⟩ => ⟨st', xs, src, R', S', hi, hq _ _ _ hp⟩) fun _ _ e => e

/-- for x in a list that this frame only reads -/
theorem ex_for_ro {x : Str} {xp pos : Pos} {iter : Expr} {body orelse : List Stmt} {P : Fl → St → Prop} {sc : Scope} (hsc : f.env.scope = sc) (hcells : f.wc = f.env.cells.map (·.2))
    (hx : sc.names.lookup x = some .local ∨ (sc.names.lookup x = some .cell ∧ f.wc = f.env.cells.map (·.2) ∧ (f.env.cells.lookup x).isSome = true))
    (h : SRC f iter st (fun xs src st1 => (∀ a, src = some a → ∃ l, (a, l) ∈ st1.ro) ∧ ∃ Inv : Nat → St → Prop, Inv 0 st1 ∧
      (∀ i v st', xs[i]? = some v → Inv i st' → EX f body (st'.put x v) (fun fl st2 => match fl with
        | .next | .cont => Inv (i + 1) st2
        | .brk => P .next st2
        | .ret r => P (.ret r) st2)) ∧ (∀ st', Inv xs.length st' → EX f orelse st' P)))
    (hs : ∀ x, foldedSetIterable iter f.env x = pure x := by intro _; rfl) : EX1 f (.For (.Name x xp) iter body orelse pos) st P :=
  ex_for hsc hcells hx (h.sep.mono fun xs src st1 ⟨⟨h1, h2⟩, h3⟩ => ⟨fun a ha => let ⟨l, hl⟩ := h1 a ha; h3 (a, l) hl, h2⟩) hs
end
end Mine

end
section
namespace Mine
/-- k signs at the end of the first i are the first k, k less than i -/
def Bd (p : List Nat) (i k : Nat) : Prop := k < i ∧ ∀ j, j < k → p[j]? = p[i - k + j]?

theorem Bd.zero (p : List Nat) {i : Nat} (h : 0 < i) : Bd p i 0 := ⟨h, fun j hj => by omega⟩
theorem Bd.succ {p : List Nat} {i k : Nat} (h : Bd p i k) (he : p[k]? = p[i]?) : Bd p (i + 1) (k + 1) := by
  refine ⟨by have := h.1; omega, fun j hj => ?_⟩
  by_cases e : j = k
  · subst e; rw [he]; congr 1; have := h.1; omega
  · have := h.2 j (by omega)
    rw [this]; congr 1; have := h.1; omega
theorem Bd.pred {p : List Nat} {i k : Nat} (h : Bd p (i + 1) (k + 1)) : Bd p i k ∧ p[k]? = p[i]? := by
  have h1 := h.1
  refine ⟨⟨by omega, fun j hj => ?_⟩, ?_⟩
  · have := h.2 j (by omega)
    rw [this]; congr 1; omega
  · have := h.2 k (by omega)
    rw [this]; congr 1; omega
theorem Bd.within {p : List Nat} {i a b : Nat} (hb : Bd p i b) (ha : Bd p i a) (hab : a < b) : Bd p b a := by
  refine ⟨hab, fun j hj => ?_⟩
  have h1 := hb.1
  have h2 := ha.2 j hj
  have h3 := hb.2 (b - a + j) (by omega)
  rw [h2, h3]; congr 1; omega
theorem Bd.trans {p : List Nat} {i a b : Nat} (hb : Bd p i b) (ha : Bd p b a) : Bd p i a := by
  have h1 := hb.1
  have h0 := ha.1
  refine ⟨by omega, fun j hj => ?_⟩
  have h2 := ha.2 j hj
  have h3 := hb.2 (b - a + j) (by omega)
  rw [h2, h3]; congr 1; omega

/-- the longest such -/
def Lb (p : List Nat) (i m : Nat) : Prop := Bd p i m ∧ ∀ k, Bd p i k → k ≤ m
theorem Lb.unique {p : List Nat} {i m m' : Nat} (h : Lb p i m) (h' : Lb p i m') : m = m' := Nat.le_antisymm (h'.2 _ h.1) (h.2 _ h'.1)
theorem Lb.one (p : List Nat) : Lb p 1 0 := ⟨Bd.zero p Nat.one_pos, fun k hk => by have := hk.1; omega⟩

def IsTab (p ms : List Nat) : Prop := ms.length = p.length ∧ ∀ i, i < p.length → ∃ m, ms[i]? = some m ∧ Lb p (i + 1) m
theorem IsTab.unique {p ms ms' : List Nat} (h : IsTab p ms) (h' : IsTab p ms') : ms = ms' := by
  apply List.ext_getElem?
  intro i
  by_cases hi : i < p.length
  · obtain ⟨m, h1, h2⟩ := h.2 i hi
    obtain ⟨m', h1', h2'⟩ := h'.2 i hi
    rw [h1, h1', h2.unique h2']
  · rw [List.getElem?_eq_none (by rw [h.1]; omega), List.getElem?_eq_none (by rw [h'.1]; omega)]
end Mine

end
section
set_option linter.unusedVariables false
namespace Mine
open List

def bl (M : Nat) (x : List Nat) : List Nat := blow 34 (replicate M 34) x

theorem bl_append (M : Nat) (a b : List Nat) : bl M (a ++ b) = bl M a ++ bl M b := blow_append ..
theorem bl_nil (M : Nat) : bl M [] = [] := rfl
theorem bl_mark (M : Nat) (r : List Nat) : bl M (34 :: r) = replicate M 34 ++ bl M r := by simp [bl, blow_cons]
theorem bl_letter (M : Nat) {c : Nat} (h : c ≠ 34) (r : List Nat) : bl M (c :: r) = c :: bl M r := by simp [bl, blow_cons, h]
theorem bl_marks (M n : Nat) : bl M (replicate n 34) = replicate (M * n) 34 := by
  induction n with
  | zero => simp [bl_nil]
  | succ n ih => rw [replicate_succ, bl_mark, ih, replicate_append_replicate, Nat.mul_succ, Nat.add_comm]
theorem bl_one (x : List Nat) : bl 1 x = x := by
  induction x with
  | nil => rfl
  | cons c r ih =>
    by_cases h : c = 34
    · subst h; rw [bl_mark, ih]; rfl
    · rw [bl_letter _ h, ih]
theorem bl_single (M : Nat) {c : Nat} (h : c ≠ 34) : bl M [c] = [c] := bl_letter M h []
theorem bl_len (M : Nat) (hM : 1 ≤ M) (x : List Nat) : (bl M x).length = x.length + (M - 1) * x.count 34 := by
  induction x with
  | nil => simp [bl_nil]
  | cons c r ih =>
    by_cases h : c = 34
    · subst h
      rw [bl_mark, length_append, ih, count_cons_self, length_replicate, length_cons, Nat.mul_add]; omega
    · rw [bl_letter _ h, length_cons, ih, length_cons, count_cons_of_ne (by simpa using h)]; omega
theorem bl_rev (M : Nat) (x : List Nat) : (bl M x).reverse = bl M x.reverse := by
  induction x with
  | nil => rfl
  | cons c r ih =>
    rw [reverse_cons, bl_append, ← ih]
    by_cases h : c = 34
    · subst h; rw [bl_mark, reverse_append, reverse_replicate, bl_mark, bl_nil, append_nil]
    · rw [bl_letter _ h, bl_single _ h, reverse_cons]
theorem bl_pre {M : Nat} {x y : List Nat} (h : x <+: y) : bl M x <+: bl M y := by
  obtain ⟨t, rfl⟩ := h
  exact ⟨bl M t, (bl_append ..).symm⟩
theorem bl_suf {M : Nat} {x y : List Nat} (h : x <:+ y) : bl M x <:+ bl M y := by
  obtain ⟨t, rfl⟩ := h
  exact ⟨bl M t, (bl_append ..).symm⟩

theorem bl_pre_inv {M : Nat} (hM : 1 ≤ M) : ∀ {x y : List Nat}, bl M x <+: bl M y → x <+: y
  | [], y, _ => nil_prefix
  | c :: x, [], h => by
    exfalso
    have := h.length_le
    rw [bl_len M hM, bl_nil] at this
    simp at this
  | c :: x, d :: y, h => by
    obtain ⟨m, rfl⟩ : ∃ m, M = m + 1 := ⟨M - 1, by omega⟩
    by_cases hc : c = 34
    · subst hc
      by_cases hd : d = 34
      · subst hd
        rw [bl_mark, bl_mark, prefix_append_right_inj] at h
        exact (cons_prefix_cons.mpr ⟨rfl, bl_pre_inv hM h⟩)
      · rw [bl_mark, bl_letter _ hd, replicate_succ, cons_append, cons_prefix_cons] at h
        exact absurd h.1.symm hd
    · by_cases hd : d = 34
      · subst hd
        rw [bl_mark, bl_letter _ hc, replicate_succ, cons_append, cons_prefix_cons] at h
        exact absurd h.1 hc
      · rw [bl_letter _ hc, bl_letter _ hd, cons_prefix_cons] at h
        exact cons_prefix_cons.mpr ⟨h.1, bl_pre_inv hM h.2⟩
theorem bl_suf_inv {M : Nat} (hM : 1 ≤ M) {x y : List Nat} (h : bl M x <:+ bl M y) : x <:+ y := by
  rw [← reverse_prefix] at h ⊢
  rw [bl_rev, bl_rev] at h
  exact bl_pre_inv hM h

theorem rep_pre {m n : Nat} {a b : List Nat} (h : m ≤ n) : replicate n 34 ++ a = replicate m 34 ++ (replicate (n - m) 34 ++ a) := by
  rw [← append_assoc, replicate_append_replicate, Nat.add_sub_cancel' h]

/-- out of step with the marks, only marks fit -/
theorem bl_off {M : Nat} (hM : 1 ≤ M) {r : Nat} (h0 : 0 < r) (hr : r < M) : ∀ {z y : List Nat}, bl M z <+: replicate r 34 ++ bl M y → z = replicate z.length 34
  | [], _, _ => rfl
  | c :: z, y, h => by
    obtain ⟨r', rfl⟩ : ∃ r', r = r' + 1 := ⟨r - 1, by omega⟩
    by_cases hc : c = 34
    · subst hc
      rw [bl_mark, rep_pre (m := r' + 1) (by omega) (b := []), prefix_append_right_inj] at h
      cases y with
      | nil =>
        have := h.length_le
        simp [bl_nil] at this
        omega
      | cons d y =>
        obtain ⟨m', hm'⟩ : ∃ m', M - (r' + 1) = m' + 1 := ⟨M - (r' + 1) - 1, by omega⟩
        by_cases hd : d = 34
        · subst hd
          rw [bl_mark, rep_pre (n := M) (m := M - (r' + 1)) (by omega) (b := []), prefix_append_right_inj, show M - (M - (r' + 1)) = r' + 1 by omega] at h
          rw [length_cons, replicate_succ, ← bl_off hM h0 hr h]
        · rw [bl_letter _ hd, hm', replicate_succ, cons_append, cons_prefix_cons] at h
          exact absurd h.1.symm hd
    · rw [bl_letter _ hc, replicate_succ, cons_append, cons_prefix_cons] at h
      exact absurd h.1 hc
theorem bl_off' {M : Nat} (hM : 1 ≤ M) {r : Nat} (h0 : 0 < r) (hr : r < M) {z y : List Nat} (h : bl M z <:+ bl M y ++ replicate r 34) : z = replicate z.length 34 := by
  rw [← reverse_prefix, reverse_append, bl_rev, bl_rev, reverse_replicate] at h
  have := bl_off hM h0 hr h
  rw [length_reverse] at this
  have h2 := congrArg reverse this
  rwa [reverse_reverse, reverse_replicate] at h2

/-- what a beginning of the blown word looks like -/
theorem bl_nf {M : Nat} (hM : 1 ≤ M) : ∀ {x u : List Nat}, u <+: bl M x → u = [] ∨ (∃ q l, q ++ [l] <+: x ∧ l ≠ 34 ∧ u = bl M (q ++ [l])) ∨ ∃ q t, q ++ [34] <+: x ∧ 1 ≤ t ∧ t ≤ M ∧ u = bl M q ++ replicate t 34
  | [], u, h => .inl (by simpa [bl_nil] using h)
  | c :: x, [], h => .inl rfl
  | c :: x, d :: u, h => by
    by_cases hc : c = 34
    · subst hc
      by_cases hl : (d :: u).length ≤ M
      · refine .inr (.inr ⟨[], (d :: u).length, ⟨x, rfl⟩, by simp, hl, ?_⟩)
        rw [bl_mark] at h
        have h1 : d :: u <+: replicate M 34 := prefix_of_prefix_length_le h (prefix_append ..) (by simpa using hl)
        rw [prefix_iff_eq_take, take_replicate, Nat.min_eq_left hl] at h1
        rw [bl_nil, nil_append]; exact h1
      · rw [bl_mark] at h
        have h1 : replicate M 34 <+: d :: u := prefix_of_prefix_length_le (prefix_append ..) h (by rw [length_replicate]; omega)
        obtain ⟨u', hu'⟩ := h1
        rw [← hu', prefix_append_right_inj] at h
        rcases bl_nf hM h with e | ⟨q, l, h1, h2, h3⟩ | ⟨q, t, h1, h2, h3, h4⟩
        · exfalso
          subst e
          rw [append_nil] at hu'
          have := congrArg length hu'
          rw [length_replicate] at this
          omega
        · refine .inr (.inl ⟨34 :: q, l, cons_prefix_cons.mpr ⟨rfl, h1⟩, h2, ?_⟩)
          rw [cons_append, bl_mark, ← h3, hu']
        · refine .inr (.inr ⟨34 :: q, t, cons_prefix_cons.mpr ⟨rfl, h1⟩, h2, h3, ?_⟩)
          rw [bl_mark, append_assoc, ← h4, hu']
    · rw [bl_letter _ hc, cons_prefix_cons] at h
      obtain ⟨rfl, h⟩ := h
      rcases bl_nf hM h with e | ⟨q, l, h1, h2, h3⟩ | ⟨q, t, h1, h2, h3, h4⟩
      · subst e
        exact .inr (.inl ⟨[], d, ⟨x, rfl⟩, hc, (bl_single _ hc).symm⟩)
      · refine .inr (.inl ⟨d :: q, l, cons_prefix_cons.mpr ⟨rfl, h1⟩, h2, ?_⟩)
        rw [cons_append, bl_letter _ hc, ← h3]
      · refine .inr (.inr ⟨d :: q, t, cons_prefix_cons.mpr ⟨rfl, h1⟩, h2, h3, ?_⟩)
        rw [bl_letter _ hc, h4, cons_append]

/-- borders as words -/
def Br (u T : List Nat) : Prop := u <+: T ∧ u <:+ T ∧ u.length < T.length
def Lbr (T : List Nat) (m : Nat) : Prop := (∃ u, Br u T ∧ u.length = m) ∧ ∀ u, Br u T → u.length ≤ m

theorem snoc_ends {a b : List Nat} {c d : Nat} (h : a ++ [c] <:+ b ++ [d]) : c = d ∧ a <:+ b := by
  rw [← reverse_prefix, reverse_append, reverse_append] at h
  simp only [reverse_cons, reverse_nil, nil_append, cons_append] at h
  rw [cons_prefix_cons, reverse_prefix] at h
  exact h
theorem rep_snoc (t : Nat) : replicate (t + 1) 34 = replicate t 34 ++ [34] := replicate_succ'

/-- a letter -/
theorem lbr_letter {M : Nat} (hM : 1 ≤ M) {y : List Nat} {c : Nat} (hc : c ≠ 34) {b : List Nat} (hb : Br b (y ++ [c])) (hmax : ∀ u, Br u (y ++ [c]) → u.length ≤ b.length) :
    Lbr (bl M (y ++ [c])) (bl M b).length := by
  have hlt : ∀ q, q <+: y ++ [c] → q.length < (y ++ [c]).length → (bl M q).length < (bl M (y ++ [c])).length := by
    rintro q ⟨r, hr⟩ hl
    rw [← hr, bl_append, length_append]
    have : 0 < (bl M r).length := by
      rw [bl_len M hM]
      have := congrArg length hr
      rw [length_append] at this
      omega
    omega
  refine ⟨⟨_, ⟨bl_pre hb.1, bl_suf hb.2.1, hlt _ hb.1 hb.2.2⟩, rfl⟩, fun u hu => ?_⟩
  rcases bl_nf hM hu.1 with e | ⟨q, l, h1, h2, h3⟩ | ⟨q, t, h1, h2, h3, h4⟩
  · subst e; simp
  · subst h3
    have hs := bl_suf_inv hM hu.2.1
    have hq : Br (q ++ [l]) (y ++ [c]) := by
      refine ⟨h1, hs, Nat.lt_of_not_le fun h => ?_⟩
      have := h1.eq_of_length (Nat.le_antisymm h1.length_le h)
      have h5 := hu.2.2
      rw [this] at h5
      exact Nat.lt_irrefl _ h5
    have hle := hmax _ hq
    exact (bl_pre (prefix_of_prefix_length_le h1 hb.1 hle)).length_le
  · exfalso
    obtain ⟨t, rfl⟩ : ∃ t', t = t' + 1 := ⟨t - 1, by omega⟩
    have hs := hu.2.1
    rw [h4, rep_snoc, ← append_assoc, bl_append, bl_single _ hc] at hs
    exact hc (snoc_ends hs).1.symm

/-- all marks -/
theorem lbr_marks (n : Nat) : Lbr (replicate (n + 1) 34) n := by
  refine ⟨⟨replicate n 34, ⟨⟨[34], (rep_snoc n).symm⟩, ⟨[34], rfl⟩, by simp⟩, by simp⟩, fun u hu => ?_⟩
  have := hu.2.2
  rw [length_replicate] at this
  omega

/-- a mark -/
theorem lbr_mark {M : Nat} (hM : 1 ≤ M) {w y x : List Nat} {l R t : Nat} (hl : l ≠ 34) (hy : y = w ++ [l] ++ replicate R 34) (hx : x = y ++ [34]) {b : List Nat} (hb : Br b x) (hmax : ∀ u, Br u x → u.length ≤ b.length)
    (h1 : 1 ≤ t) (ht : t ≤ M) :
    Lbr (bl M y ++ replicate t 34) (if R + 1 > b.length then (bl M b).length else (bl M b).length - M + t) := by
  have hTy : bl M y ++ replicate t 34 = (bl M (w ++ [l])) ++ replicate (M * R + t) 34 := by
    rw [hy, bl_append, bl_marks, append_assoc, replicate_append_replicate]
  have hxR : x = w ++ [l] ++ replicate (R + 1) 34 := by rw [hx, hy, append_assoc, ← rep_snoc]
  have hTx : bl M y ++ replicate t 34 <+: bl M x := by
    rw [hx, bl_append, prefix_append_right_inj, bl_mark, bl_nil, append_nil]
    exact ⟨replicate (M - t) 34, by rw [replicate_append_replicate]; congr 1; omega⟩
  -- the three shapes of a border
  have shape : ∀ u, Br u (bl M y ++ replicate t 34) → u = [] ∨ u = replicate u.length 34 ∨ ∃ q, q ++ [34] <+: b ∧ u = bl M q ++ replicate t 34 := by
    intro u hu
    rcases bl_nf hM (hu.1.trans hTx) with e | ⟨q, l', g1, g2, g3⟩ | ⟨q, t', g1, g2, g3, g4⟩
    · exact .inl e
    · exfalso
      obtain ⟨t, rfl⟩ : ∃ t', t = t' + 1 := ⟨t - 1, by omega⟩
      have hs := hu.2.1
      rw [g3, rep_snoc, ← append_assoc, bl_append, bl_single _ g2] at hs
      exact g2 (snoc_ends hs).1
    · have hs := hu.2.1
      subst g4
      have allm : q = replicate q.length 34 → bl M q ++ replicate t' 34 = replicate (bl M q ++ replicate t' 34).length 34 := by
        intro e
        rw [e, bl_marks, replicate_append_replicate, length_replicate]
      rcases Nat.lt_trichotomy t' t with h | h | h
      · refine .inr (.inl (allm ?_))
        obtain ⟨e, rfl⟩ : ∃ e, t = e + t' := ⟨t - t', by omega⟩
        rw [← replicate_append_replicate, ← append_assoc, suffix_append_inj_of_length_eq rfl] at hs
        exact bl_off' hM (by omega) (by omega) hs.1
      · subst h
        refine .inr (.inr ⟨q, ?_, rfl⟩)
        rw [suffix_append_inj_of_length_eq rfl] at hs
        have hqs := bl_suf_inv hM hs.1
        have hq : Br (q ++ [34]) x := by
          refine ⟨g1, ?_, ?_⟩
          · rw [hx]; obtain ⟨r, rfl⟩ := hqs; exact ⟨r, by rw [append_assoc]⟩
          · refine Nat.lt_of_not_le fun h => ?_
            have := g1.eq_of_length (Nat.le_antisymm g1.length_le h)
            rw [hx] at this
            have := (append_inj' this rfl).1
            have h5 := hu.2.2
            rw [this] at h5
            exact Nat.lt_irrefl _ h5
        exact prefix_of_prefix_length_le g1 hb.1 (hmax _ hq)
      · refine .inr (.inl (allm ?_))
        obtain ⟨e, rfl⟩ : ∃ e, t' = e + t := ⟨t' - t, by omega⟩
        rw [← replicate_append_replicate, ← append_assoc, suffix_append_inj_of_length_eq rfl] at hs
        have hs1 := hs.1
        cases R with
        | zero =>
          exfalso
          obtain ⟨e, rfl⟩ : ∃ e', e = e' + 1 := ⟨e - 1, by omega⟩
          rw [hy, replicate_zero, append_nil, bl_append, bl_single _ hl, rep_snoc, ← append_assoc] at hs1
          exact hl (snoc_ends hs1).1.symm
        | succ R =>
          have e1 : bl M y = bl M (w ++ [l] ++ replicate R 34) ++ replicate (M - e) 34 ++ replicate e 34 := by
            rw [append_assoc (bl M _), replicate_append_replicate, hy, rep_snoc, ← append_assoc, bl_append _ _ [34], bl_mark, bl_nil, append_nil]
            congr 2; omega
          rw [e1, suffix_append_inj_of_length_eq rfl] at hs1
          exact bl_off' hM (by omega) (by omega) hs1.1
  have runs : ∀ n, replicate n 34 <:+ bl M y ++ replicate t 34 → n ≤ M * R + t := by
    intro n hn
    rw [hTy] at hn
    refine Nat.le_of_not_lt fun h => ?_
    obtain ⟨e, rfl⟩ : ∃ e, n = e + 1 + (M * R + t) := ⟨n - (M * R + t) - 1, by omega⟩
    rw [← replicate_append_replicate, suffix_append_inj_of_length_eq rfl, bl_append, bl_single _ hl, rep_snoc] at hn
    exact hl (snoc_ends hn.1).1.symm
  have hMR : ∀ k, k ≤ R → M * k ≤ M * R := fun k hk => Nat.mul_le_mul_left _ hk
  have lenT : (bl M y ++ replicate t 34).length = (bl M y).length + t := by simp
  have hsx : ∀ n, n ≤ R + 1 → replicate n 34 <:+ x := by
    intro n hn
    rw [hxR]
    exact ⟨w ++ [l] ++ replicate (R + 1 - n) 34, by rw [append_assoc, replicate_append_replicate]; congr 2; omega⟩
  have hxl : x.length = w.length + 1 + (R + 1) := by rw [hxR]; simp; omega
  split
  · next hR =>
    have hbm : b = replicate b.length 34 := by
      have h2 := suffix_of_suffix_length_le hb.2.1 (hsx (R + 1) (Nat.le_refl _)) (by rw [length_replicate]; omega)
      rw [suffix_iff_eq_drop, drop_replicate, length_replicate] at h2
      have h3 := congrArg length h2
      rw [length_replicate] at h3
      rw [← h3] at h2
      exact h2
    have hbl : bl M b = replicate (M * b.length) 34 := by rw [hbm, bl_marks, length_replicate]
    refine ⟨⟨bl M b, ⟨?_, ?_, ?_⟩, rfl⟩, fun u hu => ?_⟩
    · refine prefix_of_prefix_length_le (bl_pre hb.1) hTx ?_
      rw [hbl, hTy]; simp
      have := hMR b.length (by omega)
      omega
    · rw [hTy, hbl]
      have := hMR b.length (by omega)
      exact ⟨bl M (w ++ [l]) ++ replicate (M * R + t - M * b.length) 34, by rw [append_assoc, replicate_append_replicate]; congr 2; omega⟩
    · rw [hbl, hTy]; simp
      have := hMR b.length (by omega)
      omega
    · rcases shape u hu with e | e | ⟨q, g1, g2⟩
      · subst e; simp
      · -- the sign behind b in x is a letter
        obtain ⟨r, hr⟩ := hb.1
        cases r with
        | nil => have := hb.2.2; rw [← hr] at this; simp at this
        | cons d r =>
          have hd : d ≠ 34 := by
            intro hd
            subst hd
            have hb1 : Br (b ++ [34]) x := by
              refine ⟨⟨r, by rw [append_assoc]; exact hr⟩, ?_, by rw [hxl]; simp; omega⟩
              rw [hbm, ← rep_snoc]; exact hsx _ (by omega)
            have := hmax _ hb1
            simp at this
            omega
          have hu1 := hu.1.trans hTx
          rw [← hr, bl_append, hbl, bl_letter _ hd] at hu1
          rw [hbl, length_replicate]
          refine Nat.le_of_not_lt fun h => ?_
          rw [e] at hu1
          obtain ⟨e', he'⟩ : ∃ e', u.length = M * b.length + (e' + 1) := ⟨u.length - M * b.length - 1, by omega⟩
          rw [he', ← replicate_append_replicate, prefix_append_right_inj, replicate_succ, cons_prefix_cons] at hu1
          exact hd hu1.1.symm
      · have h3 := (bl_pre (M := M) g1).length_le
        rw [bl_append, length_append, bl_mark, bl_nil, append_nil, length_replicate] at h3
        rw [g2, length_append, length_replicate]; omega
  · next hR =>
    have hbR : replicate (R + 1) 34 <:+ b := suffix_of_suffix_length_le (hsx _ (Nat.le_refl _)) hb.2.1 (by rw [length_replicate]; omega)
    obtain ⟨b', hb'⟩ := hbR
    have hbz : b = (b' ++ replicate R 34) ++ [34] := by rw [← hb', rep_snoc, append_assoc]
    have hlb : (bl M b).length = (bl M (b' ++ replicate R 34)).length + M := by
      rw [hbz, bl_append _ _ [34], length_append, bl_mark, bl_nil, append_nil, length_replicate]
    have hlb2 : (bl M b).length = (bl M b').length + M * (R + 1) := by
      rw [← hb', bl_append, bl_marks, length_append, length_replicate]
    have hzy : b' ++ replicate R 34 <:+ y := by
      have := hb.2.1
      rw [hbz, hx] at this
      exact (snoc_ends this).2
    have hlt : (b' ++ replicate R 34).length < y.length := by
      have := hb.2.2
      rw [hbz, hx, length_append, length_append (bs := [34])] at this
      simpa using this
    rw [Nat.mul_succ] at hlb2
    refine ⟨⟨bl M (b' ++ replicate R 34) ++ replicate t 34, ⟨?_, ?_, ?_⟩, ?_⟩, fun u hu => ?_⟩
    · refine prefix_of_prefix_length_le (IsPrefix.trans ?_ (bl_pre hb.1)) hTx ?_
      · rw [hbz, bl_append _ _ [34], prefix_append_right_inj, bl_mark, bl_nil, append_nil]
        exact ⟨replicate (M - t) 34, by rw [replicate_append_replicate]; congr 1; omega⟩
      · have := (bl_suf (M := M) hzy).length_le
        rw [lenT, length_append, length_replicate]; omega
    · obtain ⟨r, hr⟩ := bl_suf (M := M) hzy
      exact ⟨r, by rw [← hr, append_assoc]⟩
    · obtain ⟨r, hr⟩ := hzy
      rw [lenT, length_append, length_replicate, ← hr, bl_append M r, length_append]
      have : 0 < (bl M r).length := by
        rw [bl_len M hM]
        have := congrArg length hr
        rw [length_append] at this
        omega
      omega
    · rw [length_append, length_replicate]; omega
    · rcases shape u hu with e | e | ⟨q, g1, g2⟩
      · subst e; simp
      · have h3 := hu.2.1
        rw [e] at h3
        have := runs _ h3
        omega
      · have h3 := (bl_pre (M := M) g1).length_le
        rw [bl_append, length_append, bl_mark, bl_nil, append_nil, length_replicate] at h3
        rw [g2, length_append, length_replicate]; omega
end Mine

end
section
set_option Elab.async false
set_option linter.unusedVariables false
namespace Mine

def sizeL (w : List Nat) : Nat := w.length + w.count 34

/-- the rows that take j signs with each mark doubled -/
def rowsL (ls : List Nat) : Nat → List (List Nat)
  | 0 => [[]]
  | 1 => ([[]] : List (List Nat)).flatMap fun r => ls.map fun c => r ++ [c]
  | j + 2 => ((rowsL ls (j + 1)).flatMap fun r => ls.map fun c => r ++ [c]) ++ (rowsL ls j).map (· ++ [34])

def metStep (part : List Nat) (met : List Nat) (name : List Nat) : List Nat :=
  match findAt name part (name.length + 1) 0 with
  | some i => met.set (sizeL (name.take (i + part.length))) (met[sizeL (name.take (i + part.length))]?.getD 0 + 1)
  | none => met
def metL (names : List (List Nat)) (part : List Nat) (n : Nat) : List Nat := names.foldl (metStep part) (List.replicate (n + 1) 0)

def newL (laps : List Nat) (size : Nat) (s : List Int × List Int) (j : Nat) : Int :=
  if size ≤ j then (s.1[j - size]?.getD 0) - (laps.map fun l => s.2[j - size + l]?.getD 0).sum else 0
def grownL (others : Nat) (s : List Int × List Int) (j : Nat) : Int :=
  if 1 < j then (if j = 0 then 1 else (others : Int) * (s.1[j - 1]?.getD 0)) + s.1[j - 2]?.getD 0 else (if j = 0 then 1 else (others : Int) * (s.1[j - 1]?.getD 0))
def endRun (laps : List Nat) (size others : Nat) : Nat → List Int × List Int
  | 0 => ([], [])
  | j + 1 => ((endRun laps size others j).1 ++ [grownL others (endRun laps size others j) j - newL laps size (endRun laps size others j) j],
      (endRun laps size others j).2 ++ [newL laps size (endRun laps size others j) j])

def lbFrom (w : List Nat) (k : Nat) : Nat → Nat
  | 0 => 0
  | j + 1 => if w.take (j + 1) = (w.take k).drop (k - (j + 1)) then j + 1 else lbFrom w k j
def lbOf (w : List Nat) (k : Nat) : Nat := lbFrom w k (k - 1)
def chainS (w : List Nat) : Nat → Nat → List Nat
  | 0, _ => []
  | f + 1, k => if k = 0 then [] else sizeL (w.take k) :: chainS w f (lbOf w k)
def lapsL (w : List Nat) : List Nat := chainS w w.length (lbOf w w.length)

def wordsL (signs : List Nat) : Nat → List (List Nat)
  | 0 => [[]]
  | m + 1 => [] :: signs.flatMap fun c => (wordsL signs m).map (c :: ·)

def chk2 (ls : List Nat) (n : Nat) (w : List Nat) : Bool :=
  decide ((metL (rowsL ls n) w n).map Int.ofNat = (List.range (n + 1)).map fun j => ((endRun (lapsL w) (sizeL w) ls.length (n + 1)).2[j]?.getD 0) * ((rowsL ls (n - j)).length : Int))
def chkAll (ls : List Nat) (n most : Nat) : Bool := (wordsL (34 :: ls) most).all fun w => decide (most < sizeL w) || w.isEmpty || chk2 ls n w


theorem sizeL_append (a b : List Nat) : sizeL (a ++ b) = sizeL a + sizeL b := by unfold sizeL; rw [List.length_append, List.count_append]; omega
theorem sizeL_take (x : List Nat) (k : Nat) : sizeL (x.take k) ≤ sizeL x := by
  have h := sizeL_append (x.take k) (x.drop k)
  rw [List.take_append_drop] at h; omega
theorem sizeL_len (x : List Nat) : x.length ≤ sizeL x := Nat.le_add_right _ _
theorem sizeL_take_lt {x : List Nat} {k : Nat} (h : k < x.length) : sizeL (x.take k) < sizeL x := by
  have h1 := sizeL_append (x.take k) (x.drop k)
  rw [List.take_append_drop] at h1
  have h2 := sizeL_len (x.drop k)
  rw [List.length_drop] at h2
  omega

theorem rowsL_mem {ls : List Nat} (h34 : 34 ∉ ls) : ∀ j r, r ∈ rowsL ls j → sizeL r = j ∧ ∀ c ∈ r, c ∈ 34 :: ls
  | 0, r, h => by
    have : r = [] := by simpa [rowsL] using h
    subst this; exact ⟨rfl, fun c hc => by simp at hc⟩
  | 1, r, h => by
    simp only [rowsL, List.flatMap_cons, List.flatMap_nil, List.append_nil, List.nil_append, List.mem_map] at h
    obtain ⟨c, hc, rfl⟩ := h
    have : c ≠ 34 := fun e => h34 (e ▸ hc)
    exact ⟨by simp [sizeL, this], fun d hd => by have : d = c := by simpa using hd
                                                 subst this; exact List.mem_cons_of_mem _ hc⟩
  | j + 2, r, h => by
    unfold rowsL at h
    rcases List.mem_append.mp h with h | h
    · obtain ⟨q, hq, h⟩ := List.mem_flatMap.mp h
      obtain ⟨c, hc, rfl⟩ := List.mem_map.mp h
      obtain ⟨h1, h2⟩ := rowsL_mem h34 (j + 1) q hq
      have : c ≠ 34 := fun e => h34 (e ▸ hc)
      refine ⟨by rw [sizeL_append, h1]; simp [sizeL, this], fun d hd => ?_⟩
      rcases List.mem_append.mp hd with hd | hd
      · exact h2 d hd
      · have : d = c := by simpa using hd
        subst this; exact List.mem_cons_of_mem _ hc
    · obtain ⟨q, hq, rfl⟩ := List.mem_map.mp h
      obtain ⟨h1, h2⟩ := rowsL_mem h34 j q hq
      refine ⟨by rw [sizeL_append, h1]; simp [sizeL], fun d hd => ?_⟩
      rcases List.mem_append.mp hd with hd | hd
      · exact h2 d hd
      · have : d = 34 := by simpa using hd
        subst this; exact List.mem_cons_self ..

theorem fm_len (ls : List Nat) : ∀ l : List (List Nat), (l.flatMap fun r => ls.map fun c => r ++ [c]).length = l.length * ls.length
  | [] => by simp
  | r :: l => by rw [List.flatMap_cons, List.length_append, fm_len ls l, List.length_map, List.length_cons, Nat.succ_mul, Nat.add_comm]

theorem rowsL_len {ls : List Nat} (h2 : ls.length ≤ 2) : ∀ j, (rowsL ls j).length ≤ 3 ^ j
  | 0 => by simp [rowsL]
  | 1 => by
    unfold rowsL
    rw [fm_len]; simp; omega
  | j + 2 => by
    unfold rowsL
    rw [List.length_append, fm_len, List.length_map]
    have h1 := rowsL_len h2 (j + 1)
    have h0 := rowsL_len h2 j
    have h3 : (rowsL ls (j + 1)).length * ls.length ≤ 3 ^ (j + 1) * 2 := Nat.mul_le_mul h1 h2
    have e1 : (3 : Nat) ^ (j + 1) = 3 ^ j * 3 := Nat.pow_succ ..
    have e2 : (3 : Nat) ^ (j + 2) = 3 ^ j * 3 * 3 := by rw [show j + 2 = j + 1 + 1 from rfl, Nat.pow_succ, Nat.pow_succ]
    omega

theorem lbFrom_spec (w : List Nat) {k : Nat} (hk : k ≤ w.length) : ∀ m, m < k → (∀ j, m < j → ¬ Bd w k j) → Lb w k (lbFrom w k m)
  | 0, h0, hn => ⟨Bd.zero w h0, fun j hj => Nat.not_lt.mp fun h => hn j h hj⟩
  | m + 1, hm, hn => by
    have key : w.take (m + 1) = (w.take k).drop (k - (m + 1)) ↔ Bd w k (m + 1) := by
      constructor
      · intro e
        refine ⟨hm, fun j hj => ?_⟩
        have := congrArg (·[j]?) e
        simp only [List.getElem?_take, List.getElem?_drop, if_pos hj] at this
        rw [if_pos (by omega)] at this
        exact this
      · intro h
        apply List.ext_getElem?
        intro j
        simp only [List.getElem?_take, List.getElem?_drop]
        by_cases hj : j < m + 1
        · rw [if_pos hj, if_pos (by omega)]; exact h.2 j hj
        · rw [if_neg hj, if_neg (by omega)]
    unfold lbFrom
    by_cases h : w.take (m + 1) = (w.take k).drop (k - (m + 1))
    · rw [if_pos h]
      exact ⟨key.mp h, fun j hj => Nat.not_lt.mp fun h' => hn j h' hj⟩
    · rw [if_neg h]
      refine lbFrom_spec w hk m (by omega) fun j hj hb => ?_
      by_cases e : j = m + 1
      · subst e; exact h (key.mpr hb)
      · exact hn j (by omega) hb
theorem lbOf_spec {w : List Nat} {k : Nat} (h0 : 0 < k) (hk : k ≤ w.length) : Lb w k (lbOf w k) :=
  lbFrom_spec w hk (k - 1) (by omega) fun j hj hb => by have := hb.1; omega

theorem bd_take {p : List Nat} {n i k : Nat} (hi : i ≤ n) : Bd (p.take n) i k ↔ Bd p i k := by
  refine and_congr_right fun hk => forall_congr' fun j => forall_congr' fun hj => ?_
  rw [List.getElem?_take_of_lt (by omega), List.getElem?_take_of_lt (by omega)]
theorem lb_take {p : List Nat} {n i m : Nat} (hi : i ≤ n) : Lb (p.take n) i m ↔ Lb p i m :=
  and_congr (bd_take hi) (forall_congr' fun k => imp_congr (bd_take hi) Iff.rfl)

theorem chainS_lt {w : List Nat} : ∀ f k, k < w.length → ∀ l ∈ chainS w f k, l < sizeL w
  | 0, _, _, l, h => by simp [chainS] at h
  | f + 1, k, hk, l, h => by
    unfold chainS at h
    by_cases h0 : k = 0
    · rw [if_pos h0] at h; simp at h
    · rw [if_neg h0] at h
      have hb := lbOf_spec (w := w) (k := k) (by omega) (by omega)
      rcases List.mem_cons.mp h with rfl | h
      · exact sizeL_take_lt hk
      · exact chainS_lt f _ (Nat.lt_trans hb.1.1 hk) l h
theorem lapsL_lt {w : List Nat} (hw : w ≠ []) : ∀ l ∈ lapsL w, l < sizeL w :=
  chainS_lt _ _ (lbOf_spec (List.length_pos_iff.mpr hw) (Nat.le_refl _)).1.1
theorem chainS_len {w : List Nat} : ∀ f k, (chainS w f k).length ≤ f
  | 0, _ => by simp [chainS]
  | f + 1, k => by
    unfold chainS
    split
    · simp
    · rw [List.length_cons]; exact Nat.succ_le_succ (chainS_len f _)
theorem chainS_zero (w : List Nat) (f : Nat) : chainS w f 0 = [] := by cases f <;> simp [chainS]

theorem endRun_len (laps : List Nat) (size others : Nat) : ∀ j, (endRun laps size others j).1.length = j ∧ (endRun laps size others j).2.length = j
  | 0 => ⟨rfl, rfl⟩
  | j + 1 => by
    obtain ⟨h1, h2⟩ := endRun_len laps size others j
    unfold endRun
    simp [h1, h2]

theorem metStep_len (part met name : List Nat) : (metStep part met name).length = met.length := by
  unfold metStep
  split <;> simp

theorem wordsL_mem {signs : List Nat} : ∀ (m : Nat) (w : List Nat), w.length ≤ m → (∀ c ∈ w, c ∈ signs) → w ∈ wordsL signs m
  | 0, w, h, _ => by
    have : w = [] := List.length_eq_zero_iff.mp (by omega)
    subst this; simp [wordsL]
  | m + 1, [], _, _ => by simp [wordsL]
  | m + 1, c :: w, h, hc => by
    unfold wordsL
    refine List.mem_cons_of_mem _ (List.mem_flatMap.mpr ⟨c, hc c (List.mem_cons_self ..), List.mem_map.mpr ⟨w, wordsL_mem m w (by simp at h; omega) fun d hd => hc d (List.mem_cons_of_mem _ hd), rfl⟩⟩)

theorem law2_of {ls : List Nat} {n most : Nat} (h : chkAll ls n most = true) {w : List Nat} (hs : sizeL w ≤ most) (hw : w ≠ []) (hc : ∀ c ∈ w, c ∈ 34 :: ls) :
    (metL (rowsL ls n) w n).map (fun m : Nat => (m : Int)) = (List.range (n + 1)).map fun j => ((endRun (lapsL w) (sizeL w) ls.length (n + 1)).2[j]?.getD 0) * ((rowsL ls (n - j)).length : Int) := by
  have h1 := List.all_eq_true.mp h w (wordsL_mem most w (Nat.le_trans (sizeL_len w) hs) hc)
  rw [Bool.or_eq_true, Bool.or_eq_true] at h1
  rcases h1 with (h1 | h1) | h1
  · have := of_decide_eq_true h1; omega
  · exact absurd (List.isEmpty_iff.mp h1) hw
  · exact of_decide_eq_true h1

/-- renaming of the letters: nothing in the law looks at more than which signs are the same and which are marks -/
structure Ren (p : Nat → Nat) : Prop where
  back : ∀ x, p (p x) = x
  mark : p 34 = 34
theorem Ren.inj {p : Nat → Nat} (h : Ren p) {x y : Nat} (e : p x = p y) : x = y := by rw [← h.back x, e, h.back]
theorem Ren.mapInj {p : Nat → Nat} (h : Ren p) {a b : List Nat} : a.map p = b.map p ↔ a = b := by
  constructor
  · intro e
    have := congrArg (List.map p) e
    rw [List.map_map, List.map_map] at this
    have hid : p ∘ p = id := funext h.back
    rwa [hid, List.map_id, List.map_id] at this
  · intro e; rw [e]
theorem Ren.pre {p : Nat → Nat} (h : Ren p) : ∀ a b : List Nat, (a.map p).isPrefixOf (b.map p) = a.isPrefixOf b
  | [], b => by simp
  | x :: a, [] => by simp
  | x :: a, y :: b => by
    simp only [List.map_cons, List.isPrefixOf_cons_cons]
    rw [Ren.pre h a b]
    have : (p x == p y) = (x == y) := by
      by_cases e : x = y
      · subst e; simp
      · have : ¬ p x = p y := fun e' => e (h.inj e')
        rw [beq_eq_false_iff_ne.mpr e, beq_eq_false_iff_ne.mpr this]
    rw [this]
theorem Ren.find {p : Nat → Nat} (h : Ren p) (x y : List Nat) : ∀ n i, findAt (x.map p) (y.map p) n i = findAt x y n i
  | 0, i => rfl
  | n + 1, i => by
    unfold findAt
    rw [← List.map_drop, h.pre, Ren.find h x y n]
theorem Ren.size {p : Nat → Nat} (h : Ren p) : ∀ x : List Nat, sizeL (x.map p) = sizeL x
  | [] => rfl
  | c :: x => by
    have ih := Ren.size h x
    unfold sizeL at ih ⊢
    rw [List.map_cons, List.length_cons, List.length_cons, List.count_cons, List.count_cons]
    have : (p c == 34) = (c == 34) := by
      by_cases e : c = 34
      · subst e; rw [h.mark]
      · have : ¬ p c = 34 := fun e' => e (h.inj (by rw [e', h.mark]))
        rw [beq_eq_false_iff_ne.mpr e, beq_eq_false_iff_ne.mpr this]
    rw [this]; omega
theorem Ren.lb {p : Nat → Nat} (h : Ren p) (w : List Nat) (k : Nat) : ∀ j, lbFrom (w.map p) k j = lbFrom w k j
  | 0 => rfl
  | j + 1 => by
    unfold lbFrom
    rw [Ren.lb h w k j, ← List.map_take, ← List.map_take, ← List.map_drop]
    by_cases e : w.take (j + 1) = (w.take k).drop (k - (j + 1))
    · rw [if_pos e, if_pos (by rw [e])]
    · rw [if_neg e, if_neg fun e' => e (h.mapInj.mp e')]
theorem Ren.chain {p : Nat → Nat} (h : Ren p) (w : List Nat) : ∀ f k, chainS (w.map p) f k = chainS w f k
  | 0, _ => rfl
  | f + 1, k => by
    unfold chainS lbOf
    rw [h.lb, ← List.map_take, h.size, Ren.chain h w f]
theorem Ren.laps {p : Nat → Nat} (h : Ren p) (w : List Nat) : lapsL (w.map p) = lapsL w := by
  unfold lapsL lbOf
  rw [List.length_map, h.lb, h.chain]
theorem Ren.fm {p : Nat → Nat} (ls : List Nat) : ∀ rs : List (List Nat), ((rs.map (List.map p)).flatMap fun r => (ls.map p).map fun c => r ++ [c]) = (rs.flatMap fun r => ls.map fun c => r ++ [c]).map (List.map p)
  | [] => rfl
  | r :: rs => by
    rw [List.map_cons, List.flatMap_cons, List.flatMap_cons, Ren.fm ls rs, List.map_append, List.map_map, List.map_map]
    congr 1
    exact List.map_congr_left fun c _ => by simp
theorem Ren.rows {p : Nat → Nat} (h : Ren p) (ls : List Nat) : ∀ j, rowsL (ls.map p) j = (rowsL ls j).map (List.map p)
  | 0 => rfl
  | 1 => by
    have := Ren.fm (p := p) ls [[]]
    exact this
  | j + 2 => by
    unfold rowsL
    rw [Ren.rows h ls (j + 1), Ren.rows h ls j, Ren.fm, List.map_append, List.map_map, List.map_map]
    congr 1
    exact List.map_congr_left fun r _ => by simp [h.mark]
theorem Ren.met {p : Nat → Nat} (h : Ren p) (names : List (List Nat)) (w : List Nat) (n : Nat) : metL (names.map (List.map p)) (w.map p) n = metL names w n := by
  unfold metL
  rw [List.foldl_map]
  congr 1
  funext met name
  unfold metStep
  rw [List.length_map, h.find, List.length_map]
  split
  · rw [← List.map_take, h.size]
  · rfl

/-- the law for w over the letters that p gives for ls -/
theorem law2_ren {p : Nat → Nat} (h : Ren p) {ls : List Nat} {n most : Nat} (hc : chkAll ls n most = true) {w : List Nat} (hs : sizeL w ≤ most) (hw : w ≠ []) (hm : ∀ c ∈ w, c ∈ 34 :: ls.map p) :
    (metL (rowsL (ls.map p) n) w n).map (fun m : Nat => (m : Int)) = (List.range (n + 1)).map fun j => ((endRun (lapsL w) (sizeL w) (ls.map p).length (n + 1)).2[j]?.getD 0) * ((rowsL (ls.map p) (n - j)).length : Int) := by
  have hid : p ∘ p = id := funext h.back
  have e : w = (w.map p).map p := by rw [List.map_map, hid, List.map_id]
  have hm' : ∀ c ∈ w.map p, c ∈ 34 :: ls := by
    intro c hcm
    obtain ⟨d, hd, rfl⟩ := List.mem_map.mp hcm
    rcases List.mem_cons.mp (hm d hd) with rfl | hd
    · rw [h.mark]; exact List.mem_cons_self ..
    · obtain ⟨x, hx, rfl⟩ := List.mem_map.mp hd
      rw [h.back]; exact List.mem_cons_of_mem _ hx
  have key := law2_of hc (w := w.map p) (by rw [h.size]; exact hs) (fun e' => hw (List.map_eq_nil_iff.mp e')) hm'
  rw [e, h.rows, h.met, h.laps, h.size, key, List.length_map]
  refine List.map_congr_left fun j _ => ?_
  rw [h.rows, List.length_map]

/-- two letters changed for two others -/
def sw2 (a b c d : Nat) (x : Nat) : Nat := if x = a then c else if x = c then a else if x = b then d else if x = d then b else x
theorem ren_id : Ren id := ⟨fun _ => rfl, rfl⟩
theorem ren_b : Ren (sw2 97 98 10 92) := ⟨fun x => by unfold sw2; (repeat' split) <;> omega, rfl⟩
theorem ren_c : Ren (sw2 97 98 55 233) := ⟨fun x => by unfold sw2; (repeat' split) <;> omega, rfl⟩

/-- the letters and the two bounds -/
inductive Setting : List Nat → Nat → Nat → Prop
  | a : Setting [97] 9 6
  | b : Setting [10] 9 6
  | c : Setting [55] 9 6
  | aa : Setting [97, 98] 5 4
  | bb : Setting [10, 92] 5 4
  | cc : Setting [55, 233] 5 4

set_option maxRecDepth 100000
theorem all_split {α : Type} {f : α → Bool} (k : Nat) {l : List α} (h1 : (l.take k).all f = true) (h2 : (l.drop k).all f = true) : l.all f = true := by
  rw [← List.take_append_drop k l, List.all_append, h1, h2]; rfl
def chkOf (ls : List Nat) (n most : Nat) (w : List Nat) : Bool := decide (most < sizeL w) || w.isEmpty || chk2 ls n w
theorem chk_a1 : ((wordsL [34, 97] 6).take 48).all (chkOf [97] 9 6) = true := by decide +kernel
theorem chk_a2 : (((wordsL [34, 97] 6).drop 48).take 40).all (chkOf [97] 9 6) = true := by decide +kernel
theorem chk_a3 : (((wordsL [34, 97] 6).drop 48).drop 40).all (chkOf [97] 9 6) = true := by decide +kernel
theorem chk_a : chkAll [97] 9 6 = true := all_split 48 chk_a1 (all_split 40 chk_a2 chk_a3)
theorem chk_aa1 : ((wordsL [34, 97, 98] 4).take 40).all (chkOf [97, 98] 5 4) = true := by decide +kernel
theorem chk_aa2 : (((wordsL [34, 97, 98] 4).drop 40).take 40).all (chkOf [97, 98] 5 4) = true := by decide +kernel
theorem chk_aa3 : (((wordsL [34, 97, 98] 4).drop 40).drop 40).all (chkOf [97, 98] 5 4) = true := by decide +kernel
theorem chk_aa : chkAll [97, 98] 5 4 = true := all_split 40 chk_aa1 (all_split 40 chk_aa2 chk_aa3)

theorem Setting.law {ls : List Nat} {n most : Nat} (h : Setting ls n most) {w : List Nat} (hs : sizeL w ≤ most) (hw : w ≠ []) (hm : ∀ c ∈ w, c ∈ 34 :: ls) :
    (metL (rowsL ls n) w n).map (fun m : Nat => (m : Int)) = (List.range (n + 1)).map fun j => ((endRun (lapsL w) (sizeL w) ls.length (n + 1)).2[j]?.getD 0) * ((rowsL ls (n - j)).length : Int) := by
  cases h
  · exact law2_ren ren_id chk_a hs hw hm
  · exact law2_ren ren_b chk_a hs hw hm
  · exact law2_ren ren_c chk_a hs hw hm
  · exact law2_ren ren_id chk_aa hs hw hm
  · exact law2_ren ren_b chk_aa hs hw hm
  · exact law2_ren ren_c chk_aa hs hw hm
theorem Setting.facts {ls : List Nat} {n most : Nat} (h : Setting ls n most) : 34 ∉ ls ∧ 1 ≤ ls.length ∧ ls.length ≤ 2 ∧ (∀ c ∈ ls, c < 1114112) ∧ n ≤ 9 ∧ most ≤ 6 ∧ 1 ≤ n := by
  cases h <;> decide
end Mine

end
section
open PySem PySem.W PyProof.Rows PySem.Calls
set_option linter.unusedVariables false
set_option maxRecDepth 100000
set_option maxHeartbeats 4000000
namespace Mine
local macro_rules | `(tactic| walk_at "m1") => `(tactic| first
  | ((with_reducible show EV _ (Expr.Name _ _) _ _); refine ev_name (by rfl) ?_)
  | ((with_reducible show EV _ (Expr.Constant (Const.int _) _ _) _ _); refine ev_int ?_)
  | ((with_reducible show EV _ (Expr.Constant (Const.str _) _ _) _ _); (with_reducible first
      | refine ev_strl s_q ?_ | refine ev_strl s_e ?_ | refine ev_strl s_257 ?_ | refine ev_strl s_sq ?_ | refine ev_strl s_qq ?_ | refine ev_strl s_257q ?_ | refine ev_strl s_made ?_ | refine ev_strl s_xqy ?_
      | refine ev_strl s_qqab ?_ | refine ev_strl s_nl ?_ | refine ev_strl s_more ?_ | refine ev_strl s_ab ?_ | refine ev_strl s_nb ?_ | refine ev_strl s_7e ?_))
  | ((with_reducible show EV _ (Expr.Constant (Const.bool _) _ _) _ _); refine ev_bool ?_)
  | ((with_reducible show EV _ (Expr.BinOp _ _ _ _) _ _); refine ev_bin ?_)
  | ((with_reducible show EV _ (Expr.Compare _ [_] [_] _) _ _); refine ev_cmp ?_)
  | ((with_reducible show EV _ (Expr.IfExp _ _ _ _) _ _); refine ev_ifexp ?_)
  | ((with_reducible show EV _ (Expr.Subscript _ (Expr.Name _ _) _) _ _); refine ev_sub ?_)
  | ((with_reducible show EV _ (Expr.Subscript _ (Expr.BinOp _ _ _ _) _) _ _); refine ev_sub ?_)
  | ((with_reducible show EV _ (Expr.Subscript _ (Expr.Constant _ _ _) _) _ _); refine ev_sub ?_)
  | ((with_reducible show EV _ (Expr.Subscript _ (Expr.UnaryOp _ _ _) _) _ _); refine ev_sub ?_)
  | ((with_reducible show EV _ (Expr.Call (Expr.Name (Str.ofString "len") _) [_] [] _) _ _); refine ev_len (by assumption) (by rfl) ?_)
  | ((with_reducible show EV _ (Expr.List _ _) _ _); refine ev_list ?_)
  | ((with_reducible show EVL _ _ [] _ _); refine evl_nil ?_)
  | ((with_reducible show EVL _ _ (_ :: _) _ _); refine evl_cons ?_)
  | ((with_reducible show EV _ (Expr.UnaryOp UnaryOp.USub _ _) _ _); refine ev_neg ?_)
  | ((with_reducible show EV _ (Expr.Call (Expr.Attribute _ (Str.ofString "append") _) [_] [] _) _ _); refine ev_append ?_)
  | ((with_reducible show EV _ (Expr.Call (Expr.Attribute _ (Str.ofString "count") _) [_] [] _) _ _); refine ev_count ?_)
  | ((with_reducible show EV _ (Expr.Call (Expr.Attribute _ (Str.ofString "find") _) [_] [] _) _ _); refine ev_find ?_)
  | ((with_reducible show EV _ (Expr.Call (Expr.Attribute _ (Str.ofString "join") _) [_] [] _) _ _); refine ev_join ?_)
  | ((with_reducible show IT _ (Expr.Compare _ [_] [_] _) _ _); refine it_cmp ?_)
  | ((with_reducible show IT _ (Expr.BoolOp _ _ _) _ _); refine it_bool ?_)
  | ((with_reducible show AT _ BoolOp.Or (_ :: _) _ _); refine at_or_cons ?_)
  | ((with_reducible show AT _ BoolOp.And (_ :: _) _ _); refine at_and_cons ?_)
  | ((with_reducible show AT _ BoolOp.Or [] _ _); refine at_or_nil ?_)
  | ((with_reducible show AT _ BoolOp.And [] _ _); refine at_and_nil ?_)
  | ((with_reducible show EX _ (_ :: _) _ _); refine ex_cons ?_)
  | ((with_reducible show EX1 _ (Stmt.If _ _ _ _) _ _); refine ex_if ?_)
  | ((with_reducible show EX1 _ (Stmt.Return (some _) _) _ _); refine ex_return ?_)
  | ((with_reducible show EX1 _ (Stmt.Expr _ _) _ _); refine ex_expr ?_ (interactive_no (by assumption) (by rfl)))
  | ((with_reducible show EX1 _ (Stmt.Assign [Expr.Name _ _] _ _) _ _); refine ex_assign (by assumption) (Frm.Fn.st (by assumption) (by first | exact Or.inl rfl | exact Or.inr rfl)) ?_)
  | ((with_reducible show EX1 _ (Stmt.Assign [Expr.Subscript _ _ _] _ _) _ _); refine ex_setitem ?_)
  | ((with_reducible show OP _ none _ _); dsimp only [OP])
  | ((with_reducible show OP _ (some _) _ _); dsimp only [OP])
  | ((with_reducible show BinP _ _ _ _ _); dsimp only [BinP])
  | ((with_reducible show CmpP _ _ _ _ _); dsimp only [CmpP])
  | ((with_reducible show SubP _ _ _ _); dsimp only [SubP]))
local macro_rules | `(tactic| walk_at "mm") => `(tactic| (repeat' (walk_at "m1")))
local macro_rules | `(tactic| walk_at "sub") => `(tactic| (refine Sub.mk' ?_ ?_ <;> (repeat' (first | exact True.intro | exact List.Sublist.slnil | exact List.Sublist.refl _ | exact List.nil_sublist _ | refine And.intro rfl ?_ | refine List.Sublist.cons_cons _ ?_ | refine List.Sublist.cons _ ?_))))
def dParse : DefRec := defOf PySem.Challenge.pw_qu0001_02 "parse257"

/-- what parse257 reads off behind the opening mark -/
def unq : List Nat → List Nat
  | [] => []
  | [c] => if c = 34 then [] else [c]
  | c :: d :: r => if c = 34 then (if d = 34 then 34 :: unq r else []) else c :: unq (d :: r)

theorem unq_other {c : Nat} (h : c ≠ 34) : ∀ r : List Nat, unq (c :: r) = c :: unq r
  | [] => by simp [unq, h]
  | d :: r => by simp [unq, h]

theorem parse_spec (w : Wd) (hd : dParse ∈ recsOf w.p) (rest : List Nat) (hl : rest.length ≤ 1000000) (ro : List (Addr × List V)) :
    FnSpec w dParse.name [.str ([50, 53, 55, 32, 34] ++ rest)] ro 1 (fun v new => v = .str (unq rest) ∧ new = []) := by
  refine FnSpec.of_body hd ?_ (by rfl) (by rfl) (by rfl) (by rfl) (by decide) fun f hw hsc hk hfn => ?_
  · intro pm cd doc vals hv
    have : ∃ v, vals = [v] := List.length_eq_one_iff.mp hv
    obtain ⟨v, rfl⟩ := this
    rfl
  · change EX f _ ⟨[(Str.ofString "resp", V.str ([50, 53, 55, 32, 34] ++ rest))], [], ro⟩ _
    refine ex_cons ?_
    walk_at "mm"
    refine ev_slice_str ?_
    walk_at "mm"
    refine ⟨_, rfl, by simp; omega, ?_⟩
    walk_at "mm"
    refine ⟨_, rfl, ?_⟩
    walk_at "mm"
    refine sel_f (by rw [pysl_to _ (by decide)]; simp) (ex_nil (.refl _) ?_)
    walk_at "mm"
    refine ev_slice_str ?_
    walk_at "mm"
    refine ⟨_, rfl, by simp; omega, ?_⟩
    walk_at "mm"
    refine ⟨_, rfl, ?_⟩
    walk_at "mm"
    refine ⟨_, rfl, ?_⟩
    walk_at "mm"
    refine sel_f (by rw [pysl_ft _ (by decide) (by decide)]; simp) (ex_nil (.refl _) ?_)
    walk_at "mm"
    refine .inl ⟨_, rfl, by simp; omega, ?_⟩
    change EX f _ ⟨[(Str.ofString "resp", V.str ([50, 53, 55, 32, 34] ++ rest)), (Str.ofString "dirname", V.str []), (Str.ofString "i", V.int 5), (Str.ofString "n", V.int _)], [], ro⟩ _
    refine ex_cons (ex_while (fun n st => ∃ k d, n = rest.length - k ∧ k ≤ rest.length ∧ d ++ unq (rest.drop k) = unq rest ∧ d.length ≤ k ∧
      st = ⟨[(Str.ofString "resp", V.str ([50, 53, 55, 32, 34] ++ rest)), (Str.ofString "dirname", V.str d), (Str.ofString "i", V.int (5 + k)), (Str.ofString "n", V.int (5 + rest.length))], [], ro⟩) rest.length ?_ ?_)
    · exact ⟨0, [], rfl, Nat.zero_le _, by simp, Nat.le_refl _, by simp; omega⟩
    · rintro n st ⟨k, d, rfl, hk, hd, hdl, rfl⟩
      walk_at "mm"
      refine sel (fun hlt => ?_) (fun hge => ?_)
      · have hlt' : k < rest.length := by omega
        obtain ⟨c, r, hdr⟩ : ∃ c r, rest.drop k = c :: r := by
          cases h : rest.drop k with
          | nil => have := congrArg List.length h; simp at this; omega
          | cons c r => exact ⟨c, r, rfl⟩
        have hc : rest[k]? = some c := by
          have : (rest.drop k)[0]? = some c := by rw [hdr]; rfl
          simpa using this
        have hr : rest.drop (k + 1) = r := by
          have : (rest.drop k).drop 1 = r := by rw [hdr]; rfl
          simpa [Nat.add_comm] using this
        rw [hdr] at hd
        walk_at "mm"
        refine ⟨c, ⟨by omega, by omega⟩, ?_, ?_⟩
        · rw [List.getElem?_append_right (by simp; omega)]
          simp only [List.length_cons, List.length_nil]
          rw [show (5 + (k : Int)).toNat - (0 + 1 + 1 + 1 + 1 + 1) = k by omega]; exact hc
        walk_at "mm"
        refine sel (fun h34 => ?_) (fun h34 => ?_)
        · have hc34 : c = 34 := by simpa using h34
          subst hc34
          walk_at "mm"
          refine sel (fun hge => ?_) (fun hlt2 => ?_)
          · have hr0 : r = [] := by
              have := congrArg List.length hdr
              simp at this
              exact List.length_eq_zero_iff.mp (by omega)
            subst hr0
            refine sel_tt ?_
            walk_at "mm"
            refine ex_break (.refl _) ?_
            walk_at "mm"
            have hu : d = unq rest := by simpa [unq] using hd
            exact ⟨_, [], rfl, ⟨by rw [hu], rfl⟩, List.nil_sublist _⟩
          · obtain ⟨e, r', hr'⟩ : ∃ e r', r = e :: r' := by
              cases r with
              | nil =>
                have := congrArg List.length hdr
                simp at this
                omega
              | cons e r' => exact ⟨e, r', rfl⟩
            subst hr'
            walk_at "mm"
            refine ⟨e, ⟨by omega, by omega⟩, ?_, ?_⟩
            · rw [List.getElem?_append_right (by simp; omega)]
              simp only [List.length_cons, List.length_nil]
              rw [show (5 + (k : Int) + 1).toNat - (0 + 1 + 1 + 1 + 1 + 1) = k + 1 by omega]
              have : (rest.drop (k + 1))[0]? = some e := by rw [hr]; rfl
              simpa using this
            walk_at "mm"
            have hlen2 : (rest.drop k).length = r'.length + 2 := by rw [hdr]; simp
            simp only [List.length_drop] at hlen2
            refine sel (fun hne => ?_) (fun heq => ?_)
            · refine sel_tt ?_
              walk_at "mm"
              refine ex_break (.refl _) ?_
              walk_at "mm"
              have he : e ≠ 34 := by simpa using hne
              have hu : d = unq rest := by simpa [unq, he] using hd
              exact ⟨_, [], rfl, ⟨by rw [hu], rfl⟩, List.nil_sublist _⟩
            · walk_at "mm"
              refine sel_ff (ex_nil (.refl _) ?_)
              walk_at "mm"
              refine ex_nil (.refl _) ?_
              walk_at "mm"
              refine ⟨by simp; omega, ?_⟩
              have he : e = 34 := by simpa using heq
              subst he
              refine ex_nil (st' := ⟨[(Str.ofString "resp", V.str ([50, 53, 55, 32, 34] ++ rest)), (Str.ofString "dirname", V.str (d ++ [34])), (Str.ofString "i", V.int (5 + (k : Int) + 1 + 1)), (Str.ofString "n", V.int (5 + rest.length))], [], ro⟩) (by walk_at "sub") ?_
              refine ⟨rest.length - (k + 2), by omega, k + 2, d ++ [34], rfl, by omega, ?_, by simp; omega, by congr 6 <;> omega⟩
              rw [show rest.drop (k + 2) = r' by rw [← List.drop_drop, hdr]; rfl]
              simpa [unq] using hd
        · refine ex_nil (.refl _) ?_
          walk_at "mm"
          refine ⟨by simp; omega, ?_⟩
          have hc34 : c ≠ 34 := by simpa using h34
          refine ex_nil (st' := ⟨[(Str.ofString "resp", V.str ([50, 53, 55, 32, 34] ++ rest)), (Str.ofString "dirname", V.str (d ++ [c])), (Str.ofString "i", V.int (5 + (k : Int) + 1)), (Str.ofString "n", V.int (5 + rest.length))], [], ro⟩) (by walk_at "sub") ?_
          refine ⟨rest.length - (k + 1), by omega, k + 1, d ++ [c], rfl, by omega, ?_, by simp; omega, by congr 6 <;> omega⟩
          rw [hr]
          rw [unq_other hc34] at hd
          simpa using hd
      · refine ex_nil (.refl _) ?_
        walk_at "mm"
        have hke : k = rest.length := by omega
        subst hke
        have hu : d = unq rest := by simpa [unq] using hd
        exact ⟨_, [], rfl, ⟨by rw [hu], rfl⟩, List.nil_sublist _⟩
def dOver : DefRec := defOf PySem.Challenge.pw_qu0001_02 "_generate_overlap_table"

def vints (ms : List Nat) : List V := ms.map fun (m : Nat) => V.int (m : Int)

theorem rangeL_get {a c : Int} {n i : Nat} {v : V} (h : (rangeL a c n)[i]? = some v) : i < n ∧ v = .int (a + i * c) := by
  unfold rangeL at h
  rw [List.getElem?_map] at h
  by_cases hi : i < n
  · rw [List.getElem?_range hi] at h
    simp at h
    exact ⟨hi, h.symm⟩
  · rw [List.getElem?_eq_none (by simp; omega)] at h
    simp at h
theorem rangeL_length (a c : Int) (n : Nat) : (rangeL a c n).length = n := by simp [rangeL]
theorem vints_get {ms : List Nat} {i m : Nat} (h : ms[i]? = some m) : (vints ms)[i]? = some (V.int m) := by simp [vints, h]
theorem vints_set (ms : List Nat) (i m : Nat) : (vints ms).set i (V.int m) = vints (ms.set i m) := by simp [vints, List.map_set]

theorem over_spec (w : Wd) (hd : dOver ∈ recsOf w.p) (p : List Nat) (hl : p.length ≤ 1000000) (ro : List (Addr × List V)) :
    FnSpec w dOver.name [.str p] ro 1 (fun v new => ∃ a ms, v = .ref a ∧ new = [(a, vints ms)] ∧ IsTab p ms) := by
  refine FnSpec.of_body hd ?_ (by rfl) (by rfl) (by rfl) (by rfl) (by decide) fun f hw hsc hk hfn => ?_
  · intro pm cd doc vals hv
    have : ∃ v, vals = [v] := List.length_eq_one_iff.mp hv
    obtain ⟨v, rfl⟩ := this
    rfl
  · have hwc := hfn.2.1
    change EX f _ ⟨[(Str.ofString "prefix", V.str p)], [], ro⟩ _
    refine ex_cons ?_
    walk_at "mm"
    refine ⟨by simp, fun c => ?_⟩
    walk_at "mm"
    refine .inl ⟨_, rfl, by omega, ?_⟩
    walk_at "mm"
    refine ⟨_, List.mem_cons_self .., by omega, by omega, fun a => ?_⟩
    change EX f _ ⟨[(Str.ofString "prefix", V.str p), (Str.ofString "table", V.ref a)], [(a, List.replicate ((p.length : Int)).toNat (V.int 0)), (c, [V.int 0])], ro⟩ _
    refine ex_cons (ex_for hsc hwc (Frm.Fn.st hfn (.inl rfl)) (src_range2 hsc (by rfl) ?_))
    walk_at "mm"
    refine .inl ⟨_, rfl, by omega, 1, _, rfl, rfl, by omega, by omega, by omega, by omega, fun a h => (nomatch h), ?_⟩
    refine ⟨fun t st => ∃ ms, ms.length = p.length ∧ (∀ j, j < 1 + t → j < p.length → ∃ m, ms[j]? = some m ∧ Lb p (j + 1) m) ∧
      st = ⟨[(Str.ofString "prefix", V.str p), (Str.ofString "table", V.ref a)], [(a, vints ms), (c, [V.int 0])], ro⟩, ?_, ?_, ?_⟩
    · refine ⟨List.replicate p.length 0, by simp, ?_, by simp [vints]⟩
      intro j hj hjn
      have : j = 0 := by omega
      subst this
      exact ⟨0, by simp [hjn], Lb.one p⟩
    · rintro t v st ht ⟨ms, hml, hms, rfl⟩
      obtain ⟨htn, rfl⟩ := rangeL_get ht
      have hin : 1 + t < p.length := by omega
      obtain ⟨m0, hm0, hlb0⟩ := hms t (by omega) (by omega)
      have hset : ∀ m, Lb p (1 + t + 1) m → ∀ j, j < 1 + (t + 1) → j < p.length → ∃ m', (ms.set (1 + t) m)[j]? = some m' ∧ Lb p (j + 1) m' := by
        intro m hm j hj hjn
        by_cases e : j = 1 + t
        · subst e; exact ⟨m, by rw [List.getElem?_set_self (by omega)], hm⟩
        · rw [List.getElem?_set_ne (by omega)]; exact hms j (by omega) hjn
      obtain ⟨ci, hci⟩ : ∃ ci, p[1 + t]? = some ci := ⟨_, List.getElem?_eq_getElem hin⟩
      change EX f _ ⟨[(Str.ofString "prefix", V.str p), (Str.ofString "table", V.ref a), (Str.ofString "i", V.int (1 + (t : Int) * 1))], [(a, vints ms), (c, [V.int 0])], ro⟩ _
      rw [show (1 + (t : Int) * 1) = ((1 + t : Nat) : Int) by omega]
      refine ex_cons ?_
      walk_at "mm"
      refine ⟨vints ms, _, .inl (List.mem_cons_self ..), .inl ⟨by omega, by omega, by rw [show (((1 + t : Nat) : Int) - 1).toNat = t by omega]; exact vints_get hm0⟩, ?_⟩
      change EX f _ ⟨[(Str.ofString "prefix", V.str p), (Str.ofString "table", V.ref a), (Str.ofString "i", V.int ((1 + t : Nat) : Int)), (Str.ofString "idx", V.int (m0 : Int))], [(a, vints ms), (c, [V.int 0])], ro⟩ _
      refine ex_cons (ex_while (fun n st => ∃ m, n = m ∧ Bd p (1 + t) m ∧ (∀ k, Bd p (1 + t) k → p[k]? = p[1 + t]? → k ≤ m) ∧
        st = ⟨[(Str.ofString "prefix", V.str p), (Str.ofString "table", V.ref a), (Str.ofString "i", V.int ((1 + t : Nat) : Int)), (Str.ofString "idx", V.int (m : Int))], [(a, vints ms), (c, [V.int 0])], ro⟩) m0 ?_ ?_)
      · have hlb0' : Lb p (1 + t) m0 := by rw [Nat.add_comm]; exact hlb0
        exact ⟨m0, rfl, hlb0'.1, fun k hk _ => hlb0'.2 k hk, rfl⟩
      · rintro m st ⟨_, rfl, hbd, hmx, rfl⟩
        have hmi := hbd.1
        obtain ⟨cm, hcm⟩ : ∃ cm, p[m]? = some cm := ⟨_, List.getElem?_eq_getElem (by omega)⟩
        walk_at "mm"
        refine ⟨ci, ⟨by omega, by omega⟩, by rw [Int.toNat_natCast]; exact hci, ?_⟩
        walk_at "mm"
        refine ⟨cm, ⟨by omega, by omega⟩, by rw [Int.toNat_natCast]; exact hcm, ?_⟩
        walk_at "mm"
        refine sel (fun hne => ?_) (fun heq => ?_)
        · have hne' : ¬ p[m]? = p[1 + t]? := by rw [hcm, hci]; intro e; cases e; exact hne rfl
          walk_at "mm"
          refine sel (fun h0 => ?_) (fun h0 => ?_)
          · have hm0' : m = 0 := by omega
            subst hm0'
            walk_at "mm"
            refine ⟨a, _, [], vints ms, _, rfl, rfl, rfl, by omega, by simp [vints]; omega, by simp [vints]; omega, ?_⟩
            walk_at "mm"
            refine ex_break (.refl _) ?_
            refine ex_nil (st' := ⟨[(Str.ofString "prefix", V.str p), (Str.ofString "table", V.ref a)], [(a, vints (ms.set (1 + t) 0)), (c, [V.int 0])], ro⟩) ?_ ⟨ms.set (1 + t) 0, by simp [hml], hset 0 ?_, rfl⟩
            · rw [← vints_set]
              walk_at "sub"
            · refine ⟨Bd.zero p (by omega), fun k hk => ?_⟩
              cases k with
              | zero => exact Nat.le_refl _
              | succ k =>
                obtain ⟨h1, h2⟩ := hk.pred
                have := hmx k h1 h2
                have hk0 : k = 0 := by omega
                subst hk0
                exact absurd h2 hne'
          · obtain ⟨m', hm', hlb'⟩ := hms (m - 1) (by omega) (by omega)
            refine ex_nil (.refl _) ?_
            walk_at "mm"
            refine ⟨vints ms, _, .inl (List.mem_cons_self ..), .inl ⟨by omega, by omega, by rw [show ((m : Int) - 1).toNat = m - 1 by omega]; exact vints_get hm'⟩, ?_⟩
            rw [show m - 1 + 1 = m by omega] at hlb'
            refine ex_nil (st' := ⟨[(Str.ofString "prefix", V.str p), (Str.ofString "table", V.ref a), (Str.ofString "i", V.int ((1 + t : Nat) : Int)), (Str.ofString "idx", V.int (m' : Int))], [(a, vints ms), (c, [V.int 0])], ro⟩) (by walk_at "sub")
              ⟨m', hlb'.1.1, m', rfl, hbd.trans hlb'.1, fun k hk he => ?_, rfl⟩
            have h1 := hmx k hk he
            have h2 : k ≠ m := fun e => hne' (e ▸ he)
            exact hlb'.2 k (hbd.within hk (by omega))
        · have heq' : p[m]? = p[1 + t]? := by rw [hcm, hci]; simpa using Eq.symm (by simpa using heq : ci = cm)
          walk_at "mm"
          refine ⟨a, _, [], vints ms, _, rfl, rfl, rfl, by omega, by simp [vints]; omega, by simp [vints]; omega, ?_⟩
          refine ex_nil (.refl _) ?_
          refine ex_nil (st' := ⟨[(Str.ofString "prefix", V.str p), (Str.ofString "table", V.ref a)], [(a, vints (ms.set (1 + t) (m + 1))), (c, [V.int 0])], ro⟩) ?_ ⟨ms.set (1 + t) (m + 1), by simp [hml], hset (m + 1) ?_, rfl⟩
          · rw [← vints_set]
            walk_at "sub"
          · refine ⟨hbd.succ heq', fun k hk => ?_⟩
            cases k with
            | zero => omega
            | succ k =>
              obtain ⟨h1, h2⟩ := hk.pred
              have := hmx k h1 h2
              omega
    · rintro st ⟨ms, hml, hms, rfl⟩
      refine ex_nil (.refl _) ?_
      rw [rangeL_length] at hms
      walk_at "mm"
      refine ⟨_, [(a, vints ms)], rfl, ⟨a, ms, rfl, rfl, hml, fun i hi => hms i (by omega) hi⟩, ?_⟩
      exact List.Sublist.cons_cons _ (List.nil_sublist _)
theorem CompOk.mk' {scope sc : Scope} {x : Str} {cap : List (Str × V)} (capn : List Str) (hn : cap.map (·.1) = capn)
    (h1 : (scope.names.all fun y => decide (y.2 ≠ .cell)) = true) (h2 : scope.kind = .function) (h3 : (scope.names.all fun y => decide (y.2 = .local → scope.names.lookup y.1 = some .local)) = true)
    (h4 : scope.names.lookup x = some .local) (h5 : (scope.names.all fun y => decide (y.2 = .free → y.1 ∈ capn)) = true)
    (h6 : (capn.all fun n => decide ((n, NameKind.free) ∈ scope.names ∧ sc.names.lookup n = some .cell ∧ (relabelS scope sc).names.lookup n = some .cell)) = true) : CompOk scope sc x cap where
  cells := fun y hy => of_decide_eq_true (List.all_eq_true.mp h1 y hy)
  kind := h2
  names := fun y hy => of_decide_eq_true (List.all_eq_true.mp h3 y hy)
  var := h4
  free := fun n hn' => by rw [hn]; exact of_decide_eq_true (List.all_eq_true.mp h5 (n, .free) hn') rfl
  cap := fun n hn' => by rw [hn] at hn'; exact of_decide_eq_true (List.all_eq_true.mp h6 n hn')

theorem vints_int (ms : List Nat) : vints ms = (ms.map fun m : Nat => (m : Int)).map V.int := by simp [vints]
theorem cast_inj {ms ms' : List Nat} (h : (ms.map fun m : Nat => (m : Int)) = ms'.map fun m : Nat => (m : Int)) : ms = ms' := by
  have := congrArg (List.map Int.toNat) h
  simpa [List.map_map, Function.comp_def] using this

def sgn (v : V) : V := match v with
  | .int x => .str [([34, 34, 97, 98] : List Nat)[(x.fmod 4).toNat]?.getD 0]
  | _ => .none

theorem fmod_lt (x : Int) {m : Int} (hm : 0 < m) : 0 ≤ x.fmod m ∧ x.fmod m < m := by
  rw [Int.fmod_eq_emod_of_nonneg _ (by omega)]
  exact ⟨Int.emod_nonneg _ (by omega), Int.emod_lt_of_pos _ hm⟩

theorem rep_flat (n : Nat) : (List.replicate n [34]).flatten = List.replicate n 34 := by
  induction n with
  | zero => rfl
  | succ n ih => rw [List.replicate_succ, List.flatten_cons, ih]; rfl

theorem vints_len (ms : List Nat) : (vints ms).length = ms.length := by simp [vints]


/-- the letters that are drawn -/
def nmOf (ds : List Int) : List Nat := ds.map fun x => ([34, 34, 97, 98] : List Nat)[(x.fmod 4).toNat]?.getD 0
theorem nmOf_len (ds : List Int) : (nmOf ds).length = ds.length := by simp [nmOf]
theorem nmOf_mem {ds : List Int} {c : Nat} (h : c ∈ nmOf ds) : c ∈ ([34, 97, 98] : List Nat) := by
  obtain ⟨x, _, rfl⟩ := List.mem_map.mp h
  have hx4 := fmod_lt x (m := 4) (by decide)
  obtain ⟨n, hn⟩ : ∃ n : Nat, x.fmod 4 = n := ⟨(x.fmod 4).toNat, by omega⟩
  rw [hn] at hx4 ⊢
  rw [Int.toNat_natCast]
  match n, hx4 with
  | 0, _ | 1, _ | 2, _ | 3, _ => decide
  | n + 4, h => omega
theorem nmOf_sgn (ds : List Int) : ((ds.map V.int).filter fun _ => true).map sgn = ((nmOf ds).map fun c => [c]).map V.str := by
  rw [List.filter_eq_self.mpr (fun _ _ => rfl)]
  simp [List.map_map, Function.comp_def, sgn, nmOf]
theorem ones_flat : ∀ nm : List Nat, (nm.map fun c => [c]).flatten = nm
  | [] => rfl
  | c :: r => by rw [List.map_cons, List.flatten_cons, ones_flat r]; rfl
theorem ones_sum : ∀ l : List Nat, ((l.map fun c => [c]).map List.length).sum = l.length
  | [] => rfl
  | c :: r => by rw [List.map_cons, List.map_cons, List.sum_cons, ones_sum r, List.length_cons, List.length_cons, List.length_nil]; omega
theorem unq_marks (r : List Nat) : ∀ k, unq (List.replicate (2 * k) 34 ++ r) = List.replicate k 34 ++ unq r
  | 0 => rfl
  | k + 1 => by
    rw [show 2 * (k + 1) = 2 * k + 1 + 1 by omega, List.replicate_succ, List.replicate_succ, List.replicate_succ, List.cons_append, List.cons_append, unq, if_pos rfl, if_pos rfl, unq_marks r k, List.cons_append]
theorem unq_bl (k : Nat) {tail : List Nat} (ht : tail.head? ≠ some 34) : ∀ p : List Nat, unq (bl (2 * k) p ++ 34 :: tail) = bl k p
  | [] => by
    rw [bl_nil, List.nil_append, bl_nil]
    cases tail with
    | nil => simp [unq]
    | cons d r => simp at ht; simp [unq, ht]
  | c :: p => by
    by_cases h : c = 34
    · subst h
      rw [bl_mark, bl_mark, List.append_assoc, unq_marks, unq_bl k ht p]
    · rw [bl_letter _ h, bl_letter _ h, List.cons_append, unq_other h, unq_bl k ht p]
theorem unq2 {tail : List Nat} (ht : tail.head? ≠ some 34) (p : List Nat) : unq (blow 34 [34, 34] p ++ 34 :: tail) = p := by
  have := unq_bl 1 ht p
  rw [bl_one] at this
  exact this
theorem blow2_len (p : List Nat) : (blow 34 [34, 34] p).length ≤ 2 * p.length := by
  have := bl_len 2 (by decide) p
  have h := List.count_le_length (a := 34) (l := p)
  have e : blow 34 [34, 34] p = bl 2 p := rfl
  rw [e, this]; omega
def dSize : DefRec := defOf PySem.Challenge.pw_qu0001_02 "_law_size"
def dMet : DefRec := defOf PySem.Challenge.pw_qu0001_02 "_law_met"
def dEnded : DefRec := defOf PySem.Challenge.pw_qu0001_02 "_law_ended"

theorem size_spec (w : Wd) (hd : dSize ∈ recsOf w.p) (x : List Nat) (hl : x.length ≤ 1000) (ro : List (Addr × List V)) : FnSpec w dSize.name [.str x] ro 1 (fun v new => v = .int ((sizeL x : Nat) : Int) ∧ new = []) := by
  refine FnSpec.of_body hd ?_ (by rfl) (by rfl) (by rfl) (by rfl) (by decide +kernel) fun f hw hsc hk hfn => ?_
  · intro pm cd doc vals hv
    obtain ⟨v, rfl⟩ : ∃ v, vals = [v] := List.length_eq_one_iff.mp hv
    rfl
  change EX f _ ⟨[(Str.ofString "part", V.str x)], [], ro⟩ _
  refine ex_cons ?_
  walk_at "mm"
  refine .inl ⟨_, rfl, by omega, ?_⟩
  walk_at "mm"
  refine ⟨_, rfl, ?_⟩
  walk_at "mm"
  refine ⟨34, rfl, ?_⟩
  dsimp only [BinP]
  exact ⟨_, [], rfl, ⟨by unfold sizeL; rw [Int.natCast_add], rfl⟩, List.nil_sublist _⟩

theorem findL_some {x y : List Nat} {i : Nat} (h : findAt x y (x.length + 1) 0 = some i) : findL x y = (i : Int) := by
  unfold findL; rw [h]
theorem findL_none {x y : List Nat} (h : findAt x y (x.length + 1) 0 = none) : findL x y = -1 := by
  unfold findL; rw [h]
theorem findAt_le {x y : List Nat} {i : Nat} (h : findAt x y (x.length + 1) 0 = some i) : i ≤ x.length := by
  have := findAt_spec x y (x.length + 1) 0
  rw [h] at this
  have := this.2.1
  omega

theorem foldl_take_succ {α β : Type} (g : β → α → β) (b : β) {l : List α} {i : Nat} {v : α} (h : l[i]? = some v) : (l.take (i + 1)).foldl g b = g ((l.take i).foldl g b) v := by
  rw [List.take_add_one, h, List.foldl_append]; rfl

theorem met_len (part : List Nat) (names : List (List Nat)) : ∀ met : List Nat, (names.foldl (metStep part) met).length = met.length := by
  induction names with
  | nil => intro met; rfl
  | cons a l ih => intro met; rw [List.foldl_cons, ih, metStep_len]

theorem met_spec (w : Wd) (hd : dMet ∈ recsOf w.p) (hsz : dSize ∈ recsOf w.p) (names : List (List Nat)) (part : List Nat) (n : Nat) (a : Addr) (hn : n ≤ 100) (hnl : names.length ≤ 1000000) (hpl : part.length ≤ 1000)
    (hnm : ∀ r ∈ names, sizeL r = n) (ro : List (Addr × List V)) (ha : (a, names.map .str) ∈ ro) :
    FnSpec w dMet.name [.ref a, .str part, .int (n : Int)] ro 2 (fun v new => ∃ c, v = .ref c ∧ new = [(c, vints (metL names part n))]) := by
  refine FnSpec.of_body hd ?_ (by rfl) (by rfl) (by rfl) (by rfl) (by decide +kernel) fun f hw hsc hk hfn => ?_
  · intro pm cd doc vals hv
    match vals, hv with
    | [v1, v2, v3], _ => rfl
  subst hw
  have hwc := hfn.2.1
  change EX f _ ⟨[(Str.ofString "n", V.int (n : Int)), (Str.ofString "part", V.str part), (Str.ofString "names", V.ref a)], [], ro⟩ _
  refine ex_cons ?_
  walk_at "mm"
  refine ⟨by simp, fun c0 => ?_⟩
  walk_at "mm"
  refine ⟨_, List.mem_cons_self .., by omega, by omega, fun c => ?_⟩
  rw [show (((n : Int) + 1)).toNat = n + 1 by omega]
  change EX f _ ⟨[(Str.ofString "n", V.int (n : Int)), (Str.ofString "part", V.str part), (Str.ofString "names", V.ref a), (Str.ofString "met", V.ref c)], [(c, List.replicate (n + 1) (V.int 0)), (c0, [V.int 0])], ro⟩ _
  refine ex_cons (ex_for_ro hsc hwc (Frm.Fn.st hfn (.inl rfl)) (src_list ?_))
  walk_at "mm"
  refine ⟨a, _, rfl, .inr ha, ⟨[(Str.ofString "n", V.int (n : Int)), (Str.ofString "part", V.str part), (Str.ofString "names", V.ref a), (Str.ofString "met", V.ref c)], [(c, List.replicate (n + 1) (V.int 0))], ro⟩, ?_, ?_⟩
  · walk_at "sub"
  refine ⟨fun a' e => by cases e; exact ⟨_, ha⟩, fun (i : Nat) (st : St) => ∃ met : List Nat, met = (names.take i).foldl (metStep part) (List.replicate (n + 1) 0) ∧ met.length = n + 1 ∧ st = ⟨[(Str.ofString "n", V.int (n : Int)), (Str.ofString "part", V.str part), (Str.ofString "names", V.ref a), (Str.ofString "met", V.ref c)], [(c, vints met)], ro⟩, ?_, ?_, ?_⟩
  · exact ⟨List.replicate (n + 1) 0, rfl, by simp, by simp [vints]⟩
  · rintro i v st ht ⟨met, hmet, hml, rfl⟩
    rw [List.getElem?_map] at ht
    obtain ⟨name, hname, rfl⟩ := Option.map_eq_some_iff.mp ht
    have hmem : name ∈ names := List.mem_of_getElem? hname
    have hsz' := hnm name hmem
    have hlen := sizeL_len name
    have hfold := foldl_take_succ (metStep part) (List.replicate (n + 1) 0) hname
    rw [← hmet] at hfold
    have hml' : (metStep part met name).length = n + 1 := by rw [metStep_len]; exact hml
    change EX f _ ⟨[(Str.ofString "n", V.int (n : Int)), (Str.ofString "part", V.str part), (Str.ofString "names", V.ref a), (Str.ofString "met", V.ref c), (Str.ofString "name", V.str name)], [(c, vints met)], ro⟩ _
    refine ex_cons ?_
    walk_at "mm"
    refine ⟨_, rfl, ?_⟩
    walk_at "mm"
    refine ⟨_, rfl, ?_⟩
    cases hf : findAt name part (name.length + 1) 0 with
    | none =>
      rw [findL_none hf]
      walk_at "mm"
      refine sel_f (by decide) (ex_nil (.refl _) ?_)
      refine ex_nil (st' := ⟨[(Str.ofString "n", V.int (n : Int)), (Str.ofString "part", V.str part), (Str.ofString "names", V.ref a), (Str.ofString "met", V.ref c)], [(c, vints (metStep part met name))], ro⟩) ?_ ⟨_, hfold.symm, hml', rfl⟩
      rw [show metStep part met name = met by unfold metStep; rw [hf]]
      walk_at "sub"
    | some q =>
      have hq := findAt_le hf
      rw [findL_some hf]
      have hr : sizeL (name.take (q + part.length)) ≤ n := by rw [← hsz']; exact sizeL_take _ _
      walk_at "mm"
      refine sel_t (by omega) ?_
      walk_at "mm"
      refine ev_call hsz (by rfl) hsc (by rfl) ?_
      walk_at "mm"
      refine ev_slice_str ?_
      walk_at "mm"
      refine ⟨_, rfl, by omega, ?_⟩
      walk_at "mm"
      refine .inl ⟨_, rfl, by omega, ?_⟩
      refine ⟨_, rfl, ?_⟩
      walk_at "mm"
      rw [pysl_to _ (by omega), show ((q : Int) + (part.length : Int)).toNat = q + part.length by omega]
      refine ⟨1, _, by omega, size_spec f.wd hsz _ (by rw [List.length_take]; omega) _, ?_⟩
      rintro v new ⟨rfl, rfl⟩
      walk_at "mm"
      have hget : met[sizeL (name.take (q + part.length))]? = some (met[sizeL (name.take (q + part.length))]?.getD 0) := by
        rw [List.getElem?_eq_getElem (by omega)]; rfl
      have hstep : metStep part met name = met.set (sizeL (name.take (q + part.length))) (met[sizeL (name.take (q + part.length))]?.getD 0 + 1) := by unfold metStep; rw [hf]
      rw [hstep] at hfold hml'
      generalize met[sizeL (name.take (q + part.length))]?.getD 0 = old at *
      generalize sizeL (name.take (q + part.length)) = r at *
      refine ⟨vints met, _, .inl (List.mem_cons_self ..), .inl ⟨by omega, by omega, by rw [Int.toNat_natCast]; exact vints_get hget⟩, ?_⟩
      walk_at "mm"
      refine ⟨c, _, [], vints met, _, rfl, rfl, rfl, by omega, by rw [vints_len]; omega, by rw [vints_len]; omega, ?_⟩
      refine ex_nil (.refl _) ?_
      refine ex_nil (st' := ⟨[(Str.ofString "n", V.int (n : Int)), (Str.ofString "part", V.str part), (Str.ofString "names", V.ref a), (Str.ofString "met", V.ref c)], [(c, vints (met.set r (old + 1)))], ro⟩) ?_ ⟨_, hfold.symm, hml', rfl⟩
      rw [← vints_set, Int.toNat_natCast, Int.natCast_add]
      walk_at "sub"
  · rintro st ⟨met, hmet, hml, rfl⟩
    refine ex_nil (.refl _) ?_
    rw [List.length_map, List.take_length] at hmet
    have hm2 : met = metL names part n := hmet
    subst hm2
    walk_at "mm"
    exact ⟨_, _, rfl, ⟨c, rfl, rfl⟩, List.Sublist.refl _⟩
theorem endRun_succ (laps : List Nat) (size others j : Nat) : endRun laps size others (j + 1) = ((endRun laps size others j).1 ++ [grownL others (endRun laps size others j) j - newL laps size (endRun laps size others j) j], (endRun laps size others j).2 ++ [newL laps size (endRun laps size others j) j]) := rfl

theorem ints_get {s : List Int} {i : Nat} (h : i < s.length) : (s.map V.int)[i]? = some (V.int (s[i]?.getD 0)) := by
  rw [List.getElem?_map, List.getElem?_eq_getElem h]; rfl

def lapG (s : List Int) (d : Nat) (v : V) : V := match v with
  | .int l => .int (s[d + l.toNat]?.getD 0)
  | _ => .none

theorem lapG_map (s : List Int) (d : Nat) (laps : List Nat) : ((vints laps).filter fun _ => true).map (lapG s d) = (laps.map fun l => s[d + l]?.getD 0).map V.int := by
  rw [List.filter_eq_self.mpr (fun _ _ => rfl)]
  simp [vints, List.map_map, Function.comp_def, lapG]

theorem ended_spec (w : Wd) (hd : dEnded ∈ recsOf w.p) (laps : List Nat) (size others n : Nat) (a : Addr) (hn : n ≤ 100) (ho : others ≤ 2) (h1s : 1 ≤ size) (hs : size ≤ 1000) (hl : ∀ l ∈ laps, l < size) (hll : laps.length ≤ 1000)
    (ro : List (Addr × List V)) (ha : (a, vints laps) ∈ ro) :
    FnSpec w dEnded.name [.ref a, .int (size : Int), .int (others : Int), .int (n : Int)] ro 1 (fun v new => ∃ c, v = .ref c ∧ new = [(c, (endRun laps size others (n + 1)).2.map V.int)]) := by
  refine FnSpec.of_cells hd ?_ (by rfl) (by decide +kernel) (by rfl) (by rfl) (by rfl) fun f hw hsc hk hfn => ?_
  · intro pm cd doc vals hv
    match vals, hv with
    | [v1, v2, v3, v4], _ => rfl
  have hwc := hfn.2.1
  change EX f _ ⟨[(Str.ofString "n", V.int (n : Int)), (Str.ofString "others", V.int (others : Int)), (Str.ofString "size", V.int (size : Int)), (Str.ofString "laps", V.ref a)], [], ro⟩ _
  refine ex_cons ?_
  walk_at "mm"
  refine ⟨by simp, fun fr => ?_⟩
  walk_at "mm"
  refine ⟨by simp, fun e => ?_⟩
  change EX f _ ⟨[(Str.ofString "n", V.int (n : Int)), (Str.ofString "others", V.int (others : Int)), (Str.ofString "size", V.int (size : Int)), (Str.ofString "laps", V.ref a), (Str.ofString "free", V.ref fr), (Str.ofString "ended", V.ref e)], [(e, []), (fr, [])], ro⟩ _
  refine ex_cons (ex_for hsc hwc (Frm.Fn.st hfn (.inr rfl)) (src_range1 hsc (by rfl) ?_))
  walk_at "mm"
  refine ⟨_, rfl, by omega, by omega, fun a h => (nomatch h), fun (j : Nat) (st : St) => ∃ s : List Int × List Int, s = endRun laps size others j ∧ s.1.length = j ∧ s.2.length = j ∧
    st = ⟨[(Str.ofString "n", V.int (n : Int)), (Str.ofString "others", V.int (others : Int)), (Str.ofString "size", V.int (size : Int)), (Str.ofString "laps", V.ref a), (Str.ofString "free", V.ref fr), (Str.ofString "ended", V.ref e)], [(e, s.2.map V.int), (fr, s.1.map V.int)], ro⟩, ?_, ?_, ?_⟩
  · exact ⟨([], []), rfl, rfl, rfl, rfl⟩
  · rintro j v st ht ⟨s, hs0, hs1, hs2, rfl⟩
    obtain ⟨htn, rfl⟩ := rangeL_get ht
    have hjn : j ≤ n := by omega
    have hsucc := endRun_succ laps size others j
    rw [← hs0] at hsucc
    have hE := endRun_len laps size others (j + 1)
    change EX f _ ⟨[(Str.ofString "n", V.int (n : Int)), (Str.ofString "others", V.int (others : Int)), (Str.ofString "size", V.int (size : Int)), (Str.ofString "laps", V.ref a), (Str.ofString "free", V.ref fr), (Str.ofString "ended", V.ref e), (Str.ofString "j", V.int (0 + (j : Int) * 1))], [(e, s.2.map V.int), (fr, s.1.map V.int)], ro⟩ _
    rw [show (0 + (j : Int) * 1) = (j : Int) by omega]
    -- behind the first if
    have rest : ∀ own : List (Addr × List V), own = [(e, s.2.map V.int), (fr, s.1.map V.int)] → EX f ((match dEnded.body with | [_, _, .For _ _ b _ _, _] => b | _ => []).drop 2) ⟨[(Str.ofString "n", V.int (n : Int)), (Str.ofString "others", V.int (others : Int)), (Str.ofString "size", V.int (size : Int)), (Str.ofString "laps", V.ref a), (Str.ofString "free", V.ref fr), (Str.ofString "ended", V.ref e), (Str.ofString "j", V.int (j : Int)), (Str.ofString "new", V.int (newL laps size s j))], own, ro⟩
        (fun fl st2 => match fl with
        | .next | .cont => ∃ s : List Int × List Int, s = endRun laps size others (j + 1) ∧ s.1.length = j + 1 ∧ s.2.length = j + 1 ∧ st2 = ⟨[(Str.ofString "n", V.int (n : Int)), (Str.ofString "others", V.int (others : Int)), (Str.ofString "size", V.int (size : Int)), (Str.ofString "laps", V.ref a), (Str.ofString "free", V.ref fr), (Str.ofString "ended", V.ref e)], [(e, s.2.map V.int), (fr, s.1.map V.int)], ro⟩
        | _ => False) := by
      rintro own rfl
      have last : EX f ((match dEnded.body with | [_, _, .For _ _ b _ _, _] => b | _ => []).drop 4) ⟨[(Str.ofString "n", V.int (n : Int)), (Str.ofString "others", V.int (others : Int)), (Str.ofString "size", V.int (size : Int)), (Str.ofString "laps", V.ref a), (Str.ofString "free", V.ref fr), (Str.ofString "ended", V.ref e), (Str.ofString "j", V.int (j : Int)), (Str.ofString "new", V.int (newL laps size s j)), (Str.ofString "grown", V.int (grownL others s j))], [(e, s.2.map V.int), (fr, s.1.map V.int)], ro⟩
        (fun fl st2 => match fl with
        | .next | .cont => ∃ s : List Int × List Int, s = endRun laps size others (j + 1) ∧ s.1.length = j + 1 ∧ s.2.length = j + 1 ∧ st2 = ⟨[(Str.ofString "n", V.int (n : Int)), (Str.ofString "others", V.int (others : Int)), (Str.ofString "size", V.int (size : Int)), (Str.ofString "laps", V.ref a), (Str.ofString "free", V.ref fr), (Str.ofString "ended", V.ref e)], [(e, s.2.map V.int), (fr, s.1.map V.int)], ro⟩
        | _ => False) := by
        refine ex_cons ?_
        walk_at "mm"
        refine ⟨e, rfl, ⟨_, List.mem_cons_self ..⟩, ?_⟩
        walk_at "mm"
        refine ⟨[], _, _, rfl, by rw [List.length_map]; omega, rfl, ?_⟩
        walk_at "mm"
        refine ⟨fr, rfl, ⟨s.1.map V.int, by simp⟩, ?_⟩
        walk_at "mm"
        refine ⟨[(e, s.2.map V.int ++ [V.int (newL laps size s j)])], _, _, rfl, by rw [List.length_map]; omega, rfl, ?_⟩
        refine ex_nil (st' := ⟨[(Str.ofString "n", V.int (n : Int)), (Str.ofString "others", V.int (others : Int)), (Str.ofString "size", V.int (size : Int)), (Str.ofString "laps", V.ref a), (Str.ofString "free", V.ref fr), (Str.ofString "ended", V.ref e)], [(e, (endRun laps size others (j + 1)).2.map V.int), (fr, (endRun laps size others (j + 1)).1.map V.int)], ro⟩) ?_ ⟨_, rfl, hE.1, hE.2, rfl⟩
        rw [hsucc, List.map_append, List.map_append]
        walk_at "sub"
      refine ex_cons ?_
      walk_at "mm"
      have third : ∀ g0 : Int, g0 = (if j = 0 then 1 else (others : Int) * (s.1[j - 1]?.getD 0)) → EX f ((match dEnded.body with | [_, _, .For _ _ b _ _, _] => b | _ => []).drop 3) ⟨[(Str.ofString "n", V.int (n : Int)), (Str.ofString "others", V.int (others : Int)), (Str.ofString "size", V.int (size : Int)), (Str.ofString "laps", V.ref a), (Str.ofString "free", V.ref fr), (Str.ofString "ended", V.ref e), (Str.ofString "j", V.int (j : Int)), (Str.ofString "new", V.int (newL laps size s j)), (Str.ofString "grown", V.int g0)], [(e, s.2.map V.int), (fr, s.1.map V.int)], ro⟩
        (fun fl st2 => match fl with
        | .next | .cont => ∃ s : List Int × List Int, s = endRun laps size others (j + 1) ∧ s.1.length = j + 1 ∧ s.2.length = j + 1 ∧ st2 = ⟨[(Str.ofString "n", V.int (n : Int)), (Str.ofString "others", V.int (others : Int)), (Str.ofString "size", V.int (size : Int)), (Str.ofString "laps", V.ref a), (Str.ofString "free", V.ref fr), (Str.ofString "ended", V.ref e)], [(e, s.2.map V.int), (fr, s.1.map V.int)], ro⟩
        | _ => False) := by
        intro g0 hg0
        refine ex_cons ?_
        walk_at "mm"
        refine sel (fun h1 => ?_) (fun h1 => ?_)
        · walk_at "mm"
          refine ⟨s.1.map V.int, _, .inl (List.mem_cons_of_mem _ (List.mem_cons_self ..)), .inl ⟨by omega, by omega, by rw [show ((j : Int) - 2).toNat = j - 2 by omega]; exact ints_get (by omega)⟩, ?_⟩
          dsimp only [BinP]
          have hg : g0 + s.1[j - 2]?.getD 0 = grownL others s j := by
            unfold grownL
            rw [if_pos (show 1 < j by omega), hg0]
          rw [hg]
          refine ex_nil (.refl _) ?_
          exact last
        · have hg : g0 = grownL others s j := by
            unfold grownL
            rw [if_neg (show ¬ 1 < j by omega), hg0]
          rw [hg]
          refine ex_nil (.refl _) ?_
          exact last
      refine sel (fun h0 => ?_) (fun h0 => ?_)
      · refine ev_int ?_
        exact third 1 (by rw [if_pos (by omega)])
      · walk_at "mm"
        refine ⟨s.1.map V.int, _, .inl (List.mem_cons_of_mem _ (List.mem_cons_self ..)), .inl ⟨by omega, by omega, by rw [show ((j : Int) - 1).toNat = j - 1 by omega]; exact ints_get (by omega)⟩, ?_⟩
        refine ⟨.inl ⟨by omega, by omega⟩, ?_⟩
        exact third _ (by rw [if_neg (by omega)])
    refine ex_cons ?_
    walk_at "mm"
    refine sel (fun h1 => ?_) (fun h1 => ?_)
    · walk_at "mm"
      refine ⟨s.1.map V.int, _, .inl (List.mem_cons_of_mem _ (List.mem_cons_self ..)), .inl ⟨by omega, by omega, by rw [show ((j : Int) - size).toNat = j - size by omega]; exact ints_get (by omega)⟩, ?_⟩
      refine ev_sum hsc (by rfl) ?_
      refine ev_comp [(Str.ofString "ended", V.ref e), (Str.ofString "j", V.int (j : Int)), (Str.ofString "size", V.int (size : Int))] (fun _ => true) (lapG s.2 (j - size)) hsc (CompOk.mk' [Str.ofString "ended", Str.ofString "j", Str.ofString "size"] rfl (by rfl) (by rfl) (by rfl) (by rfl) (by rfl) (by rfl)) ⟨rfl, rfl, rfl, True.intro⟩ (src_list ?_)
      walk_at "mm"
      refine ⟨a, _, rfl, .inr ha, _, .refl _, ⟨rfl, rfl, rfl, True.intro⟩, by rw [vints_len]; omega, ?_, ?_, fun c => ?_⟩
      · intro v hv fc _ _ _
        rfl
      · intro v hv _ fc _ _ _
        obtain ⟨l, hlm, rfl⟩ := List.mem_map.mp hv
        have hls := hl l hlm
        walk_at "mm"
        refine ⟨s.2.map V.int, _, .inr (List.mem_append_left _ (List.mem_cons_self ..)), .inl ⟨by omega, by omega, by rw [show ((j : Int) - size + l).toNat = j - size + l by omega]; exact ints_get (by omega)⟩, ?_⟩
        show V.int _ = V.int (s.2[j - size + ((l : Int)).toNat]?.getD 0)
        rw [Int.toNat_natCast]
      · rw [lapG_map]
        refine ⟨c, _, rfl, .inl (List.mem_cons_self ..), ?_⟩
        dsimp only [BinP]
        have hnew : (s.1[j - size]?.getD 0) - (laps.map fun l => s.2[j - size + l]?.getD 0).sum = newL laps size s j := by
          unfold newL
          rw [if_pos (by omega)]
        rw [hnew]
        refine ex_nil (st' := ⟨[(Str.ofString "n", V.int (n : Int)), (Str.ofString "others", V.int (others : Int)), (Str.ofString "size", V.int (size : Int)), (Str.ofString "laps", V.ref a), (Str.ofString "free", V.ref fr), (Str.ofString "ended", V.ref e), (Str.ofString "j", V.int (j : Int)), (Str.ofString "new", V.int (newL laps size s j))], [(e, s.2.map V.int), (fr, s.1.map V.int)], ro⟩) ?_ ?_
        · walk_at "sub"
        · refine SW.mono (rest _ rfl) ?_
          intro fl st2 h2
          revert h2
          cases erF fl <;> intro h2 <;> first | exact h2 | exact h2.elim
    · have hnew : (0 : Int) = newL laps size s j := by
        unfold newL
        rw [if_neg (by omega)]
      have hrest := rest _ rfl
      rw [← hnew] at hrest
      refine ex_nil (.refl _) ?_
      refine SW.mono hrest ?_
      intro fl st2 h2
      revert h2
      cases erF fl <;> intro h2 <;> first | exact h2 | exact h2.elim
  · rintro st ⟨s, hs0, hs1, hs2, rfl⟩
    refine ex_nil (.refl _) ?_
    walk_at "mm"
    refine ⟨_, [(e, s.2.map V.int)], rfl, ⟨e, rfl, ?_⟩, List.Sublist.cons_cons _ (List.nil_sublist _)⟩
    rw [hs0, rangeL_length, show ((n : Int) + 1).toNat = n + 1 by omega]
def dLaw : DefRec := defOf PySem.Challenge.pw_qu0001_02 "law"
def RT (fl : Fl) (st : St) : Prop := ∃ v new, fl = .ret v ∧ (v = .bool true ∧ new = ([] : List (Addr × List V))) ∧ new.Sublist st.own
theorem RT.mk {st : St} {b : Bool} (h : b = true) : RT (.ret (.bool b)) st := ⟨_, [], rfl, ⟨by rw [h], rfl⟩, List.nil_sublist _⟩

/-- the first k lists of rows, and the list of them -/
def RowsAt (ls : List Nat) (k : Nat) (r : Addr) (own : List (Addr × List V)) : Prop :=
  ∃ as : List Addr, as.length = k ∧ (r, as.map V.ref) ∈ own ∧ ∀ (i : Nat) (a : Addr), as[i]? = some a → (a, (rowsL ls i).map V.str) ∈ own

def endG (es : List Int) (ls : List Nat) (n : Nat) (v : V) : V := match v with
  | .int j => .int ((es[j.toNat]?.getD 0) * ((rowsL ls (n - j.toNat)).length : Int))
  | _ => .none

theorem endG_map (es : List Int) (ls : List Nat) (n : Nat) : ((rangeL 0 1 (n + 1)).filter fun _ => true).map (endG es ls n) = ((List.range (n + 1)).map fun j => (es[j]?.getD 0) * ((rowsL ls (n - j)).length : Int)).map V.int := by
  rw [List.filter_eq_self.mpr (fun _ _ => rfl)]
  unfold rangeL
  rw [List.map_map, List.map_map]
  refine List.map_congr_left fun j _ => ?_
  show endG es ls n (V.int (0 + (j : Int) * 1)) = _
  rw [show (0 + (j : Int) * 1) = (j : Int) by omega]
  show V.int _ = V.int _
  rw [Int.toNat_natCast]

theorem law_loop (f : Frm) (hsc : f.env.scope = dLaw.scope) (hk : f.k = 3) (hfn : f.Fn dLaw.scope) (hsize : dSize ∈ recsOf f.wd.p) (hmet : dMet ∈ recsOf f.wd.p) (hended : dEnded ∈ recsOf f.wd.p)
    {ls : List Nat} {n most : Nat} (S : Setting ls n most) (word ms : List Nat) (hws : sizeL word ≤ most) (hwc' : ∀ c ∈ word, c ∈ 34 :: ls) (hms : IsTab word ms) (r t q : Addr) (own ro : List (Addr × List V))
    (ht : (t, vints ms) ∈ own) (hq : (q, (rowsL ls n).map V.str) ∈ own) (hr : RowsAt ls (n + 1) r own) :
    EX f (dLaw.body.drop 12) ⟨[(Str.ofString "others", V.int (ls.length : Int)), (Str.ofString "n", V.int (n : Int)), (Str.ofString "word", V.str word), (Str.ofString "rows", V.ref r), (Str.ofString "names", V.ref q), (Str.ofString "table", V.ref t)], own, ro⟩ RT := by
  obtain ⟨h34, hl1, hl2, hlv, hn9, hm6, hn1⟩ := S.facts
  have hwl := sizeL_len word
  have hcells := hfn.2.1
  refine ex_cons (ex_for hsc hcells (Frm.Fn.st hfn (.inl rfl)) (src_range2 hsc (by rfl) ?_))
  walk_at "mm"
  refine .inl ⟨_, rfl, by omega, ?_⟩
  walk_at "mm"
  refine ⟨_, _, rfl, rfl, by omega, by omega, by omega, by omega, fun a h => (nomatch h), fun (_ : Nat) (st : St) => st = ⟨[(Str.ofString "others", V.int (ls.length : Int)), (Str.ofString "n", V.int (n : Int)), (Str.ofString "word", V.str word), (Str.ofString "rows", V.ref r), (Str.ofString "names", V.ref q), (Str.ofString "table", V.ref t)], own, ro⟩, rfl, ?_, ?_⟩
  · rintro i v st hti rfl
    obtain ⟨hi, rfl⟩ := rangeL_get hti
    have hip : i < word.length := by omega
    have hwlen : (word.take (i + 1)).length = i + 1 := by rw [List.length_take]; omega
    have hwne : word.take (i + 1) ≠ [] := fun e => by rw [e] at hwlen; simp at hwlen
    have hwsz : sizeL (word.take (i + 1)) ≤ most := Nat.le_trans (sizeL_take _ _) hws
    have hws1 := sizeL_len (word.take (i + 1))
    have hlaw := S.law hwsz hwne fun c hc => hwc' c (List.mem_of_mem_take hc)
    have hlaplt := lapsL_lt hwne
    have hlb : ∀ k, 0 < k → k ≤ i + 1 → ∃ m, ms[k - 1]? = some m ∧ m = lbOf (word.take (i + 1)) k ∧ m < k := by
      intro k hk0 hki
      obtain ⟨m, h1, h2⟩ := hms.2 (k - 1) (by omega)
      rw [show k - 1 + 1 = k by omega] at h2
      exact ⟨m, h1, ((lb_take (by omega)).mpr h2).unique (lbOf_spec hk0 (by omega)), h2.1.1⟩
    obtain ⟨k0, hk0, hk0e, hk0l⟩ := hlb (i + 1) (by omega) (by omega)
    rw [show i + 1 - 1 = i by omega] at hk0
    change EX f _ ⟨[(Str.ofString "others", V.int (ls.length : Int)), (Str.ofString "n", V.int (n : Int)), (Str.ofString "word", V.str word), (Str.ofString "rows", V.ref r), (Str.ofString "names", V.ref q), (Str.ofString "table", V.ref t), (Str.ofString "p", V.int (1 + (i : Int) * 1))], own, ro⟩ _
    rw [show (1 + (i : Int) * 1) = ((i + 1 : Nat) : Int) by omega]
    refine ex_cons ?_
    walk_at "mm"
    refine ⟨by simp, fun l => ?_⟩
    walk_at "mm"
    refine ⟨vints ms, _, .inl (List.mem_cons_of_mem _ ht), .inl ⟨by omega, by omega, by rw [show (((i + 1 : Nat) : Int) - 1).toNat = i by omega]; exact vints_get hk0⟩, ?_⟩
    change EX f _ ⟨[(Str.ofString "others", V.int (ls.length : Int)), (Str.ofString "n", V.int (n : Int)), (Str.ofString "word", V.str word), (Str.ofString "rows", V.ref r), (Str.ofString "names", V.ref q), (Str.ofString "table", V.ref t), (Str.ofString "p", V.int ((i + 1 : Nat) : Int)), (Str.ofString "laps", V.ref l), (Str.ofString "k", V.int (k0 : Int))], (l, []) :: own, ro⟩ _
    refine ex_cons (ex_while (fun m st => ∃ (k fu : Nat) (acc : List Nat), m = k ∧ k < i + 1 ∧ k ≤ fu ∧ acc.length + fu ≤ 100 ∧ acc ++ chainS (word.take (i + 1)) fu k = lapsL (word.take (i + 1)) ∧
      st = ⟨[(Str.ofString "others", V.int (ls.length : Int)), (Str.ofString "n", V.int (n : Int)), (Str.ofString "word", V.str word), (Str.ofString "rows", V.ref r), (Str.ofString "names", V.ref q), (Str.ofString "table", V.ref t), (Str.ofString "p", V.int ((i + 1 : Nat) : Int)), (Str.ofString "laps", V.ref l), (Str.ofString "k", V.int (k : Int))], (l, vints acc) :: own, ro⟩) k0 ?_ ?_)
    · refine ⟨k0, i + 1, [], rfl, hk0l, by omega, by simp; omega, ?_, rfl⟩
      unfold lapsL
      rw [hwlen, ← hk0e]; rfl
    · rintro m st ⟨k, fu, acc, rfl, hki, hkf, hacc, hch, rfl⟩
      walk_at "mm"
      refine sel (fun h0 => ?_) (fun h0 => ?_)
      · obtain ⟨k', hk', hk'e, hk'l⟩ := hlb m (by omega) (by omega)
        obtain ⟨fu', rfl⟩ : ∃ fu', fu = fu' + 1 := ⟨fu - 1, by omega⟩
        unfold chainS at hch
        rw [if_neg (by omega), ← hk'e, List.take_take, Nat.min_eq_left (by omega)] at hch
        walk_at "mm"
        refine ⟨l, rfl, ⟨_, List.mem_cons_self ..⟩, ?_⟩
        walk_at "mm"
        refine ev_call hsize (by rfl) hsc (by rfl) ?_
        walk_at "mm"
        refine ev_slice_str ?_
        walk_at "mm"
        refine ⟨_, rfl, by omega, ?_⟩
        walk_at "mm"
        refine ⟨_, rfl, ?_⟩
        walk_at "mm"
        rw [pysl_to _ (by omega), Int.toNat_natCast]
        refine ⟨1, _, by omega, size_spec f.wd hsize _ (by rw [List.length_take]; omega) _, ?_⟩
        rintro v new ⟨rfl, rfl⟩
        refine ⟨[], vints acc, _, rfl, by rw [vints_len]; omega, rfl, ?_⟩
        walk_at "mm"
        refine ⟨vints ms, _, .inl (List.mem_cons_of_mem _ ht), .inl ⟨by omega, by omega, by rw [show ((m : Int) - 1).toNat = m - 1 by omega]; exact vints_get hk'⟩, ?_⟩
        refine ex_nil (.refl _) ⟨k', hk'l, k', fu', acc ++ [sizeL (word.take m)], rfl, by omega, by omega, by rw [List.length_append]; simp; omega, by rw [List.append_assoc]; exact hch, ?_⟩
        simp [vints]
        rfl
      · have hk0 : m = 0 := by omega
        subst hk0
        rw [chainS_zero, List.append_nil] at hch
        subst hch
        have hE := endRun_len (lapsL (word.take (i + 1))) (sizeL (word.take (i + 1))) ls.length (n + 1)
        refine ex_nil (.refl _) ?_
        walk_at "mm"
        refine ev_call hended (by rfl) hsc (by rfl) ?_
        walk_at "mm"
        refine ev_call hsize (by rfl) hsc (by rfl) ?_
        walk_at "mm"
        refine ev_slice_str ?_
        walk_at "mm"
        refine ⟨_, rfl, by omega, ?_⟩
        walk_at "mm"
        refine ⟨_, rfl, ?_⟩
        walk_at "mm"
        rw [pysl_to _ (by omega), Int.toNat_natCast]
        refine ⟨1, _, by omega, size_spec f.wd hsize _ (by omega) _, ?_⟩
        rintro v new ⟨rfl, rfl⟩
        walk_at "mm"
        refine ⟨1, _, by omega, ended_spec f.wd hended (lapsL (word.take (i + 1))) (sizeL (word.take (i + 1))) ls.length n l (by omega) hl2 (by omega) (by omega) hlaplt (by omega) _ (List.mem_append_left _ (List.mem_cons_self ..)), ?_⟩
        rintro v new ⟨e, rfl, rfl⟩
        generalize lapsL (word.take (i + 1)) = laps at *
        generalize (endRun laps (sizeL (word.take (i + 1))) ls.length (n + 1)).2 = es at *
        change EX f _ ⟨[(Str.ofString "others", V.int (ls.length : Int)), (Str.ofString "n", V.int (n : Int)), (Str.ofString "word", V.str word), (Str.ofString "rows", V.ref r), (Str.ofString "names", V.ref q), (Str.ofString "table", V.ref t), (Str.ofString "p", V.int ((i + 1 : Nat) : Int)), (Str.ofString "laps", V.ref l), (Str.ofString "k", V.int ((0 : Nat) : Int)), (Str.ofString "ended", V.ref e)], (e, es.map V.int) :: (l, vints laps) :: own, ro⟩ _
        have hsub : ∀ {b : Addr} {xs : List V}, (b, xs) ∈ own → (b, xs) ∈ (e, es.map V.int) :: (l, vints laps) :: own := fun h => List.mem_cons_of_mem _ (List.mem_cons_of_mem _ h)
        refine ex_cons ?_
        walk_at "mm"
        refine ev_call hmet (by rfl) hsc (by rfl) ?_
        walk_at "mm"
        refine ev_slice_str ?_
        walk_at "mm"
        refine ⟨_, rfl, by omega, ?_⟩
        walk_at "mm"
        refine ⟨_, rfl, ?_⟩
        walk_at "mm"
        rw [pysl_to _ (by omega), Int.toNat_natCast]
        have hrl := rowsL_len hl2 n
        have h3n : (3 : Nat) ^ n ≤ 3 ^ 9 := Nat.pow_le_pow_right (by decide) hn9
        refine ⟨2, _, by omega, met_spec f.wd hmet hsize (rowsL ls n) (word.take (i + 1)) n q (by omega) (by omega) (by omega) (fun x hx => (rowsL_mem h34 n x hx).1) _ (List.mem_append_left _ (hsub hq)), ?_⟩
        rintro v new ⟨mt, rfl, rfl⟩
        refine ev_comp [(Str.ofString "ended", V.ref e), (Str.ofString "n", V.int (n : Int)), (Str.ofString "rows", V.ref r)] (fun _ => true) (endG es ls n) hsc (CompOk.mk' [Str.ofString "ended", Str.ofString "n", Str.ofString "rows"] rfl (by rfl) (by rfl) (by rfl) (by rfl) (by rfl) (by rfl)) ⟨rfl, rfl, rfl, True.intro⟩ (src_range1 hsc (by rfl) ?_)
        walk_at "mm"
        refine ⟨_, rfl, by omega, by omega, ⟨rfl, rfl, rfl, True.intro⟩, by rw [rangeL_length]; omega, ?_, ?_, fun c => ?_⟩
        · intro v hv fc _ _ _
          rfl
        · intro v hv _ fc hfw hfsc hfk
          obtain ⟨j, hj⟩ := List.mem_iff_getElem?.mp hv
          obtain ⟨hjn, rfl⟩ := rangeL_get hj
          rw [show (0 + (j : Int) * 1) = (j : Int) by omega]
          obtain ⟨as, has1, has2, has3⟩ := hr
          have hja : as[n - j]? = some as[n - j] := List.getElem?_eq_getElem (by omega)
          have hrow := has3 _ _ hja
          generalize as[n - j] = aj at hja hrow
          have hrl' := rowsL_len hl2 (n - j)
          have h3n' : (3 : Nat) ^ (n - j) ≤ 3 ^ 9 := Nat.pow_le_pow_right (by decide) (by omega)
          walk_at "mm"
          refine ⟨es.map V.int, _, .inr (List.mem_append_left _ (List.mem_cons_of_mem _ (List.mem_cons_self ..))), .inl ⟨by omega, by omega, by rw [Int.toNat_natCast]; exact ints_get (by omega)⟩, ?_⟩
          walk_at "mm"
          refine ⟨as.map V.ref, V.ref aj, .inr (List.mem_append_left _ (List.mem_cons_of_mem _ (hsub has2))), .inl ⟨by omega, by omega, by rw [show ((n : Int) - j).toNat = n - j by omega, List.getElem?_map, hja]; rfl⟩, ?_⟩
          refine .inr ⟨aj, _, rfl, .inr (List.mem_append_left _ (List.mem_cons_of_mem _ (hsub hrow))), by rw [List.length_map]; omega, ?_⟩
          refine ⟨.inr ⟨by omega, by rw [List.length_map]; omega⟩, ?_⟩
          show V.int _ = V.int ((es[((j : Int)).toNat]?.getD 0) * ((rowsL ls (n - ((j : Int)).toNat)).length : Int))
          rw [Int.toNat_natCast, List.length_map]
        · rw [show ((n : Int) + 1).toNat = n + 1 by omega, endG_map]
          dsimp only [CmpP]
          refine .inl ⟨_, _, .inl (List.mem_cons_of_mem _ (by rw [← vints_int]; exact List.mem_cons_self ..)), .inl (List.mem_cons_self ..), ?_⟩
          refine sel_f (by rw [hlaw]; exact fun h => h rfl) (ex_nil (.refl _) ?_)
          refine ex_nil (st' := ⟨[(Str.ofString "others", V.int (ls.length : Int)), (Str.ofString "n", V.int (n : Int)), (Str.ofString "word", V.str word), (Str.ofString "rows", V.ref r), (Str.ofString "names", V.ref q), (Str.ofString "table", V.ref t)], own, ro⟩) ?_ rfl
          walk_at "sub"
  · rintro st rfl
    refine ex_nil (.refl _) ?_
    walk_at "mm"
    exact RT.mk rfl
theorem filt_id (xs : List V) : (xs.filter fun _ => true).map (fun v => v) = xs := by
  rw [List.filter_eq_self.mpr (fun _ _ => rfl), List.map_id']

theorem law_mid (f : Frm) (hsc : f.env.scope = dLaw.scope) (hk : f.k = 3) (hfn : f.Fn dLaw.scope) (hsize : dSize ∈ recsOf f.wd.p) (hmet : dMet ∈ recsOf f.wd.p) (hended : dEnded ∈ recsOf f.wd.p) (hparse : dParse ∈ recsOf f.wd.p) (hover : dOver ∈ recsOf f.wd.p)
    {ls : List Nat} {n most : Nat} (S : Setting ls n most) (word : List Nat) (hws : sizeL word ≤ most) (hwc' : ∀ c ∈ word, c ∈ 34 :: ls) (b : Addr) (ds : List Int) (r : Addr) (own ro : List (Addr × List V))
    (hb : (b, ds.map V.int) ∈ ro) (hr : RowsAt ls (n + 1) r own) :
    EX f (dLaw.body.drop 8) ⟨[(Str.ofString "numbers", V.ref b), (Str.ofString "others", V.int (ls.length : Int)), (Str.ofString "n", V.int (n : Int)), (Str.ofString "word", V.str word), (Str.ofString "rows", V.ref r)], own, ro⟩ RT := by
  obtain ⟨h34, hl1, hl2, hlv, hn9, hm6, hn1⟩ := S.facts
  have hwl := sizeL_len word
  have hrl := rowsL_len hl2 n
  have h3n : (3 : Nat) ^ n ≤ 3 ^ 9 := Nat.pow_le_pow_right (by decide) hn9
  obtain ⟨as, has1, has2, has3⟩ := id hr
  have hna : as[n]? = some as[n] := List.getElem?_eq_getElem (by omega)
  have hrow := has3 _ _ hna
  generalize as[n] = an at hna hrow
  refine ex_cons ?_
  walk_at "mm"
  refine ⟨by simp, fun t3 => ?_⟩
  walk_at "mm"
  refine ev_sum hsc (by rfl) ?_
  walk_at "mm"
  refine ⟨b, ds, rfl, .inr hb, ?_⟩
  walk_at "mm"
  refine ⟨by decide, ?_⟩
  have h3 := fmod_lt ds.sum (m := 3) (by decide)
  obtain ⟨tl, htl, htlh, htll⟩ : ∃ tl : List Nat, ([V.str [], V.str [32, 105, 115, 32, 109, 97, 100, 101], V.str [120, 34, 121]] : List V)[(ds.sum.fmod 3).toNat]? = some (V.str tl) ∧ tl.head? ≠ some 34 ∧ tl.length ≤ 8 := by
    have h5 : (ds.sum.fmod 3).toNat < 3 := by omega
    generalize (ds.sum.fmod 3).toNat = q at h5
    match q, h5 with
    | 0, _ => exact ⟨_, rfl, by decide, by decide⟩
    | 1, _ => exact ⟨_, rfl, by decide, by decide⟩
    | 2, _ => exact ⟨_, rfl, by decide, by decide⟩
    | q + 3, h => omega
  refine ⟨_, _, .inl (List.mem_cons_self ..), .inl ⟨by omega, by omega, htl⟩, ?_⟩
  have hval : ∀ s ∈ rowsL ls n, ∀ c ∈ s, c < 1114112 := fun s hs c hc => by
    rcases List.mem_cons.mp ((rowsL_mem h34 n s hs).2 c hc) with rfl | h
    · decide
    · exact hlv c h
  have key : ∀ c : Addr, EX f (dLaw.body.drop 10) ⟨[(Str.ofString "others", V.int (ls.length : Int)), (Str.ofString "n", V.int (n : Int)), (Str.ofString "word", V.str word), (Str.ofString "rows", V.ref r), (Str.ofString "names", V.ref c)], (c, (rowsL ls n).map V.str) :: own, ro⟩ RT := by
    intro c
    refine ex_cons ?_
    walk_at "mm"
    refine ev_call hover (by rfl) hsc (by rfl) ?_
    walk_at "mm"
    refine ⟨1, _, by omega, over_spec f.wd hover word (by omega) _, ?_⟩
    rintro v new ⟨t, ms, rfl, rfl, hms⟩
    change EX f _ ⟨[(Str.ofString "others", V.int (ls.length : Int)), (Str.ofString "n", V.int (n : Int)), (Str.ofString "word", V.str word), (Str.ofString "rows", V.ref r), (Str.ofString "names", V.ref c), (Str.ofString "table", V.ref t)], (t, vints ms) :: (c, (rowsL ls n).map V.str) :: own, ro⟩ _
    have hsub : ∀ {b : Addr} {xs : List V}, (b, xs) ∈ own → (b, xs) ∈ (t, vints ms) :: (c, (rowsL ls n).map V.str) :: own := fun h => List.mem_cons_of_mem _ (List.mem_cons_of_mem _ h)
    refine ex_cons ?_
    walk_at "mm"
    refine ⟨as.map V.ref, V.ref an, .inl (hsub has2), .inl ⟨by omega, by omega, by rw [Int.toNat_natCast, List.getElem?_map, hna]; rfl⟩, ?_⟩
    refine .inr ⟨rowsL ls n, rowsL ls n, .inl (List.mem_cons_of_mem _ (List.mem_cons_self ..)), .inl (hsub hrow), hval, hval, ?_⟩
    refine sel_f (fun h => h rfl) ?_
    walk_at "mm"
    refine .inr ⟨t, _, rfl, .inl (List.mem_cons_self ..), by rw [vints_len, hms.1]; omega, ?_⟩
    walk_at "mm"
    refine .inl ⟨_, rfl, by omega, ?_⟩
    dsimp only [CmpP]
    refine sel_f (by rw [vints_len, hms.1]; exact fun h => h rfl) ?_
    walk_at "mm"
    refine sel_ff (ex_nil (.refl _) ?_)
    refine law_loop f hsc hk hfn hsize hmet hended S word ms hws hwc' hms r t c _ ro (List.mem_cons_self ..) (List.mem_cons_of_mem _ (List.mem_cons_self ..)) ⟨as, has1, hsub has2, fun i a h => hsub (has3 i a h)⟩
  refine ex_cons (ex_assign_comp [(Str.ofString "tail", V.str tl)] (fun _ => true) (fun v => v) hsc (CompOk.mk' [Str.ofString "tail"] rfl (by rfl) (by rfl) (by rfl) (by rfl) (by rfl) (by rfl)) ⟨rfl, True.intro⟩ (by rfl) (by rw [env_scope hsc]; rfl) (src_list ?_))
  walk_at "mm"
  refine ⟨as.map V.ref, V.ref an, .inl (List.mem_cons_of_mem _ has2), .inl ⟨by omega, by omega, by rw [Int.toNat_natCast, List.getElem?_map, hna]; rfl⟩, ?_⟩
  refine ⟨an, _, rfl, .inl (List.mem_cons_of_mem _ hrow), _, .refl _, ⟨rfl, True.intro⟩, by rw [List.length_map]; omega, ?_, ?_, fun e => ?_⟩
  · intro v hv fc _ _ _
    rfl
  · intro v hv _ fc hwd hsc' hkk
    obtain ⟨s, hs, rfl⟩ := List.mem_map.mp hv
    have hsz := (rowsL_mem h34 n s hs).1
    have hsl := sizeL_len s
    have hparse' : dParse ∈ recsOf fc.wd.p := by rw [hwd]; exact hparse
    refine ev_call hparse' (by rfl) hsc' (by rfl) ?_
    walk_at "mm"
    refine ev_replace (c := 34) (by decide +kernel) ?_
    walk_at "mm"
    refine ⟨_, rfl, ?_⟩
    refine evt_strl s_qq ?_
    have hbl := blow2_len s
    refine ⟨by simp only [List.length_cons, List.length_nil]; omega, ?_⟩
    refine ⟨by simp only [List.length_cons, List.length_nil]; omega, ?_⟩
    walk_at "mm"
    refine ⟨by simp only [List.length_cons, List.length_nil, List.length_append]; omega, ?_⟩
    walk_at "mm"
    refine ⟨by simp only [List.length_cons, List.length_nil, List.length_append]; omega, ?_⟩
    rw [List.append_assoc, List.append_assoc]
    walk_at "mm"
    refine ⟨1, _, by omega, parse_spec fc.wd hparse' _ (by simp only [List.length_cons, List.length_nil, List.length_append]; omega) _, ?_⟩
    rintro v new ⟨rfl, rfl⟩
    show V.str (unq (blow 34 [34, 34] s ++ 34 :: tl)) = V.str s
    rw [unq2 htlh]
  · rw [filt_id]
    refine SW.weaken ?_ (key e)
    walk_at "sub"
def grow (v c : V) : V := match v, c with
  | .str a, .str b => .str (a ++ b)
  | _, _ => .none
def mark (v : V) : V := match v with
  | .str a => .str (a ++ [34])
  | _ => .none

theorem pairs_grow (zs : List Nat) : ∀ rs : List (List Nat), pairs grow zs (rs.map V.str) = (rs.flatMap fun r => zs.map fun c => r ++ [c]).map V.str
  | [] => rfl
  | r :: rs => by
    have ih := pairs_grow zs rs
    unfold pairs at ih ⊢
    rw [List.map_cons, List.flatMap_cons, List.flatMap_cons, List.map_append, ih, List.map_map]
    rfl
theorem mark_map (rs : List (List Nat)) : ((rs.map V.str).filter fun _ => true).map mark = (rs.map (· ++ [34])).map V.str := by
  rw [List.filter_eq_self.mpr (fun _ _ => rfl), List.map_map, List.map_map]
  rfl

theorem rowsAt_snoc {ls : List Nat} {k : Nat} {r g : Addr} {own pre post : List (Addr × List V)} {as : List Addr} (hk : 1 ≤ k) (hl : as.length = k) (ho : own = pre ++ (r, as.map V.ref) :: post)
    (h : ∀ (i : Nat) (a : Addr), as[i]? = some a → (a, (rowsL ls i).map V.str) ∈ own) (new : List (Addr × List V)) (hg : (g, (rowsL ls k).map V.str) ∈ new) :
    RowsAt ls (k + 1) r (new ++ pre ++ (r, as.map V.ref ++ [V.ref g]) :: post) := by
  refine ⟨as ++ [g], by rw [List.length_append, hl]; rfl, List.mem_append_right _ (by rw [List.map_append]; exact List.mem_cons_self ..), fun i a hi => ?_⟩
  by_cases e : i < as.length
  · rw [List.getElem?_append_left e] at hi
    have := h i a hi
    rw [ho] at this
    rcases List.mem_append.mp this with h1 | h1
    · exact List.mem_append_left _ (List.mem_append_right _ h1)
    · rcases List.mem_cons.mp h1 with h1 | h1
      · exfalso
        have h2 : (rowsL ls i).map V.str = as.map V.ref := congrArg Prod.snd h1
        obtain ⟨x, xs, rfl⟩ : ∃ x xs, as = x :: xs := by
          cases as with
          | nil => simp at hl; omega
          | cons x xs => exact ⟨x, xs, rfl⟩
        cases hr : rowsL ls i with
        | nil => rw [hr] at h2; simp at h2
        | cons y ys => rw [hr] at h2; simp at h2
      · exact List.mem_append_right _ (List.mem_cons_of_mem _ h1)
  · have : i = k := by
      have := (List.getElem?_eq_some_iff.mp hi).1
      rw [List.length_append] at this
      simp at this
      omega
    subst this
    rw [List.getElem?_append_right (by omega), hl, Nat.sub_self] at hi
    cases hi
    exact List.mem_append_left _ (List.mem_append_left _ hg)

theorem law_rowsb (f : Frm) (hsc : f.env.scope = dLaw.scope) (hk : f.k = 3) (hfn : f.Fn dLaw.scope) (hsize : dSize ∈ recsOf f.wd.p) (hmet : dMet ∈ recsOf f.wd.p) (hended : dEnded ∈ recsOf f.wd.p) (hparse : dParse ∈ recsOf f.wd.p) (hover : dOver ∈ recsOf f.wd.p)
    {ls : List Nat} {n most : Nat} (S : Setting ls n most) (word : List Nat) (hws : sizeL word ≤ most) (hwc' : ∀ c ∈ word, c ∈ 34 :: ls) (b : Addr) (ds : List Int) (own ro : List (Addr × List V))
    (hb : (b, ds.map V.int) ∈ ro) :
    EX f (dLaw.body.drop 6) ⟨[(Str.ofString "numbers", V.ref b), (Str.ofString "others", V.int (ls.length : Int)), (Str.ofString "letters", V.str ls), (Str.ofString "n", V.int (n : Int)), (Str.ofString "word", V.str word)], own, ro⟩ RT := by
  obtain ⟨h34, hl1, hl2, hlv, hn9, hm6, hn1⟩ := S.facts
  have hcells := hfn.2.1
  refine ex_cons ?_
  walk_at "mm"
  refine ⟨by simp, fun c1 => ?_⟩
  walk_at "mm"
  refine ⟨by simp, fun r => ?_⟩
  change EX f _ ⟨[(Str.ofString "numbers", V.ref b), (Str.ofString "others", V.int (ls.length : Int)), (Str.ofString "letters", V.str ls), (Str.ofString "n", V.int (n : Int)), (Str.ofString "word", V.str word), (Str.ofString "rows", V.ref r)], (r, [V.ref c1]) :: (c1, [V.str []]) :: own, ro⟩ _
  refine ex_cons (ex_for hsc hcells (Frm.Fn.st hfn (.inl rfl)) (src_range2 hsc (by rfl) ?_))
  walk_at "mm"
  refine ⟨_, _, rfl, rfl, by omega, by omega, by omega, by omega, fun a h => (nomatch h), fun (i : Nat) (st : St) => ∃ own' : List (Addr × List V), RowsAt ls (i + 1) r own' ∧ st = ⟨[(Str.ofString "numbers", V.ref b), (Str.ofString "others", V.int (ls.length : Int)), (Str.ofString "letters", V.str ls), (Str.ofString "n", V.int (n : Int)), (Str.ofString "word", V.str word), (Str.ofString "rows", V.ref r)], own', ro⟩, ?_, ?_, ?_⟩
  · refine ⟨_, ⟨[c1], rfl, List.mem_cons_self .., fun i a hi => ?_⟩, rfl⟩
    cases i with
    | zero => cases hi; exact List.mem_cons_of_mem _ (List.mem_cons_self ..)
    | succ i => simp at hi
  · rintro i v st hti ⟨own', hr, rfl⟩
    obtain ⟨hi, rfl⟩ := rangeL_get hti
    have hin : i < n := by omega
    obtain ⟨as, has1, has2, has3⟩ := hr
    have hia : as[i]? = some as[i] := List.getElem?_eq_getElem (by omega)
    have hrow := has3 _ _ hia
    generalize as[i] = ai at hia hrow
    have hrl := rowsL_len hl2 i
    have h3n : (3 : Nat) ^ i ≤ 3 ^ 9 := Nat.pow_le_pow_right (by decide) (by omega)
    change EX f _ ⟨[(Str.ofString "numbers", V.ref b), (Str.ofString "others", V.int (ls.length : Int)), (Str.ofString "letters", V.str ls), (Str.ofString "n", V.int (n : Int)), (Str.ofString "word", V.str word), (Str.ofString "rows", V.ref r), (Str.ofString "j", V.int (1 + (i : Int) * 1))], own', ro⟩ _
    rw [show (1 + (i : Int) * 1) = ((i + 1 : Nat) : Int) by omega]
    refine ex_cons (ex_assign_comp2 [(Str.ofString "letters", V.str ls)] ls grow hsc hcells ⟨CompOk.mk' [Str.ofString "letters"] rfl (by rfl) (by rfl) (by rfl) (by rfl) (by rfl) (by rfl), by rfl, by rfl, by rfl, by rfl⟩ ⟨rfl, True.intro⟩ (by rfl) (by rw [env_scope hsc]; rfl) (src_list ?_))
    walk_at "mm"
    refine ⟨as.map V.ref, V.ref ai, .inl has2, .inl ⟨by omega, by omega, by rw [show (((i + 1 : Nat) : Int) - 1).toNat = i by omega, List.getElem?_map, hia]; rfl⟩, ?_⟩
    have hml : (rowsL ls i).length * ls.length ≤ 19683 * 2 := Nat.mul_le_mul (Nat.le_trans hrl h3n) hl2
    refine ⟨ai, _, rfl, .inl hrow, _, .refl _, ⟨rfl, True.intro⟩, by rw [List.length_map]; omega, ?_, ?_, fun c => ?_⟩
    · intro v hv fc _ _ _
      exact ev_name (by rfl) rfl
    · intro v hv z hz fc _ _ _
      obtain ⟨s, hs, rfl⟩ := List.mem_map.mp hv
      have hsz := (rowsL_mem h34 i s hs).1
      have hsl := sizeL_len s
      walk_at "mm"
      exact ⟨by simp only [List.length_cons, List.length_nil]; omega, rfl⟩
    · rw [pairs_grow]
      obtain ⟨pre, post, hpp⟩ := List.append_of_mem has2
      have last : ∀ (g : Addr) (new : List (Addr × List V)), (g, (rowsL ls (i + 1)).map V.str) ∈ new → EX f ((match dLaw.body.drop 7 with | .For _ _ b _ _ :: _ => b | _ => []).drop 2) ⟨[(Str.ofString "numbers", V.ref b), (Str.ofString "others", V.int (ls.length : Int)), (Str.ofString "letters", V.str ls), (Str.ofString "n", V.int (n : Int)), (Str.ofString "word", V.str word), (Str.ofString "rows", V.ref r), (Str.ofString "j", V.int ((i + 1 : Nat) : Int)), (Str.ofString "grown", V.ref g)], new ++ own', ro⟩
          (fun fl st2 => match fl with
          | .next | .cont => ∃ own' : List (Addr × List V), RowsAt ls (i + 1 + 1) r own' ∧ st2 = ⟨[(Str.ofString "numbers", V.ref b), (Str.ofString "others", V.int (ls.length : Int)), (Str.ofString "letters", V.str ls), (Str.ofString "n", V.int (n : Int)), (Str.ofString "word", V.str word), (Str.ofString "rows", V.ref r)], own', ro⟩
          | _ => False) := by
        intro g new hg
        refine ex_cons ?_
        walk_at "mm"
        refine ⟨r, rfl, ⟨_, List.mem_append_right _ has2⟩, ?_⟩
        walk_at "mm"
        refine ⟨new ++ pre, as.map V.ref, post, by show new ++ own' = _; rw [hpp, List.append_assoc], by rw [List.length_map]; omega, rfl, ?_⟩
        refine ex_nil (st' := ⟨[(Str.ofString "numbers", V.ref b), (Str.ofString "others", V.int (ls.length : Int)), (Str.ofString "letters", V.str ls), (Str.ofString "n", V.int (n : Int)), (Str.ofString "word", V.str word), (Str.ofString "rows", V.ref r)], new ++ pre ++ (r, as.map V.ref ++ [V.ref g]) :: post, ro⟩) ?_ ⟨_, rowsAt_snoc (by omega) has1 hpp has3 new hg, rfl⟩
        walk_at "sub"
      have done : ∀ {fl : Flow} {st2 : St}, (match erF fl with
          | .next | .cont => ∃ own' : List (Addr × List V), RowsAt ls (i + 1 + 1) r own' ∧ st2 = ⟨[(Str.ofString "numbers", V.ref b), (Str.ofString "others", V.int (ls.length : Int)), (Str.ofString "letters", V.str ls), (Str.ofString "n", V.int (n : Int)), (Str.ofString "word", V.str word), (Str.ofString "rows", V.ref r)], own', ro⟩
          | _ => False) → (match erF fl with
          | .next | .cont => ∃ own' : List (Addr × List V), RowsAt ls (i + 1 + 1) r own' ∧ st2 = ⟨[(Str.ofString "numbers", V.ref b), (Str.ofString "others", V.int (ls.length : Int)), (Str.ofString "letters", V.str ls), (Str.ofString "n", V.int (n : Int)), (Str.ofString "word", V.str word), (Str.ofString "rows", V.ref r)], own', ro⟩
          | .brk => (fun fl st1 => match fl with
            | Fl.next => EX f (dLaw.body.drop 8) st1 RT
            | fl => RT fl st1) Fl.next st2
          | .ret v => (fun fl st1 => match fl with
            | Fl.next => EX f (dLaw.body.drop 8) st1 RT
            | fl => RT fl st1) (Fl.ret v) st2) := by
        intro fl st2 h2
        revert h2
        cases erF fl <;> intro h2 <;> first | exact h2 | exact h2.elim
      change EX f _ ⟨[(Str.ofString "numbers", V.ref b), (Str.ofString "others", V.int (ls.length : Int)), (Str.ofString "letters", V.str ls), (Str.ofString "n", V.int (n : Int)), (Str.ofString "word", V.str word), (Str.ofString "rows", V.ref r), (Str.ofString "j", V.int ((i + 1 : Nat) : Int)), (Str.ofString "grown", V.ref c)], (c, ((rowsL ls i).flatMap fun r => ls.map fun c => r ++ [c]).map V.str) :: own', ro⟩ _
      refine ex_cons ?_
      walk_at "mm"
      refine sel (fun h1 => ?_) (fun h1 => ?_)
      · obtain ⟨i', rfl⟩ : ∃ i', i = i' + 1 := ⟨i - 1, by omega⟩
        have hja : as[i']? = some as[i'] := List.getElem?_eq_getElem (by omega)
        have hrow2 := has3 _ _ hja
        generalize as[i'] = aj at hja hrow2
        have hrl2 := rowsL_len hl2 i'
        have h3n2 : (3 : Nat) ^ i' ≤ 3 ^ 9 := Nat.pow_le_pow_right (by decide) (by omega)
        walk_at "mm"
        refine ev_comp [] (fun _ => true) mark hsc (CompOk.mk' [] rfl (by rfl) (by rfl) (by rfl) (by rfl) (by rfl) (by rfl)) True.intro (src_list ?_)
        walk_at "mm"
        refine ⟨as.map V.ref, V.ref aj, .inl (List.mem_cons_of_mem _ has2), .inl ⟨by omega, by omega, by rw [show (((i' + 1 + 1 : Nat) : Int) - 2).toNat = i' by omega, List.getElem?_map, hja]; rfl⟩, ?_⟩
        refine ⟨aj, _, rfl, .inl (List.mem_cons_of_mem _ hrow2), _, .refl _, True.intro, by rw [List.length_map]; omega, ?_, ?_, fun c2 => ?_⟩
        · intro v hv fc _ _ _
          rfl
        · intro v hv _ fc _ _ _
          obtain ⟨s, hs, rfl⟩ := List.mem_map.mp hv
          have hsz := (rowsL_mem h34 i' s hs).1
          have hsl := sizeL_len s
          walk_at "mm"
          exact ⟨by simp only [List.length_cons, List.length_nil]; omega, rfl⟩
        · rw [mark_map]
          dsimp only [BinP]
          refine ⟨_, _, List.mem_cons_of_mem _ (List.mem_cons_self ..), List.mem_cons_self .., by rw [List.length_map, List.length_map, fm_len, List.length_map]; omega, fun c3 => ?_⟩
          have hX : ((rowsL ls (i' + 1)).flatMap fun r => ls.map fun c => r ++ [c]).map V.str ++ ((rowsL ls i').map (· ++ [34])).map V.str = (rowsL ls (i' + 1 + 1)).map V.str := by rw [← List.map_append]; rfl
          rw [hX]
          refine ex_nil (.refl _) ?_
          refine SW.mono (last c3 [(c3, (rowsL ls (i' + 1 + 1)).map V.str), (c2, ((rowsL ls i').map (· ++ [34])).map V.str), (c, ((rowsL ls (i' + 1)).flatMap fun r => ls.map fun c => r ++ [c]).map V.str)] (List.mem_cons_self ..)) ?_
          intro fl st2 h2
          exact done h2
      · have hi0 : i = 0 := by omega
        subst hi0
        refine ex_nil (.refl _) ?_
        refine SW.mono (last c [(c, (rowsL ls (0 + 1)).map V.str)] (List.mem_cons_self ..)) ?_
        intro fl st2 h2
        exact done h2
  · rintro st ⟨own', hr, rfl⟩
    refine ex_nil (.refl _) ?_
    rw [rangeL_length, show ((n : Int) + 1 - 1).toNat = n by omega] at hr
    refine SW.weaken ?_ (law_mid f hsc hk hfn hsize hmet hended hparse hover S word hws hwc' b ds r own' ro hb hr)
    walk_at "sub"
theorem law_word (f : Frm) (hsc : f.env.scope = dLaw.scope) (hk : f.k = 3) (hfn : f.Fn dLaw.scope) (hsize : dSize ∈ recsOf f.wd.p) (hmet : dMet ∈ recsOf f.wd.p) (hended : dEnded ∈ recsOf f.wd.p) (hparse : dParse ∈ recsOf f.wd.p) (hover : dOver ∈ recsOf f.wd.p)
    {ls : List Nat} {n most : Nat} (S : Setting ls n most) (b : Addr) (ds : List Int) (own ro : List (Addr × List V)) (hb : (b, ds.map V.int) ∈ ro) :
    EX f (dLaw.body.drop 4) ⟨[(Str.ofString "numbers", V.ref b), (Str.ofString "others", V.int (ls.length : Int)), (Str.ofString "letters", V.str ls), (Str.ofString "n", V.int (n : Int)), (Str.ofString "most", V.int (most : Int))], own, ro⟩ RT := by
  obtain ⟨h34, hl1, hl2, hlv, hn9, hm6, hn1⟩ := S.facts
  have hcells := hfn.2.1
  refine ex_cons ?_
  walk_at "mm"
  change EX1 f _ ⟨[(Str.ofString "numbers", V.ref b), (Str.ofString "others", V.int (ls.length : Int)), (Str.ofString "letters", V.str ls), (Str.ofString "n", V.int (n : Int)), (Str.ofString "most", V.int (most : Int)), (Str.ofString "word", V.str [])], own, ro⟩ _
  refine ex_for_ro hsc hcells (Frm.Fn.st hfn (.inl rfl)) (src_list ?_)
  walk_at "mm"
  refine ⟨b, _, rfl, .inr hb, _, .refl _, fun a' e => by cases e; exact ⟨_, hb⟩, fun (_ : Nat) (st : St) => ∃ word : List Nat, sizeL word ≤ most ∧ (∀ c ∈ word, c ∈ 34 :: ls) ∧
    st = ⟨[(Str.ofString "numbers", V.ref b), (Str.ofString "others", V.int (ls.length : Int)), (Str.ofString "letters", V.str ls), (Str.ofString "n", V.int (n : Int)), (Str.ofString "most", V.int (most : Int)), (Str.ofString "word", V.str word)], own, ro⟩, ?_, ?_, ?_⟩
  · exact ⟨[], Nat.zero_le _, fun c hc => by simp at hc, rfl⟩
  · rintro i v st ht ⟨word, hws, hwc, rfl⟩
    rw [List.getElem?_map] at ht
    obtain ⟨x, hx, rfl⟩ := Option.map_eq_some_iff.mp ht
    have hwl := sizeL_len word
    have hxm := fmod_lt x (m := (ls.length : Int) + 1) (by omega)
    change EX f _ ⟨[(Str.ofString "numbers", V.ref b), (Str.ofString "others", V.int (ls.length : Int)), (Str.ofString "letters", V.str ls), (Str.ofString "n", V.int (n : Int)), (Str.ofString "most", V.int (most : Int)), (Str.ofString "word", V.str word), (Str.ofString "x", V.int x)], own, ro⟩ _
    obtain ⟨c, hc⟩ : ∃ c, ([34] ++ ls)[(x.fmod ((ls.length : Int) + 1)).toNat]? = some c := ⟨_, List.getElem?_eq_getElem (by simp; omega)⟩
    have hcm : c ∈ 34 :: ls := List.mem_of_getElem? hc
    refine ex_cons ?_
    walk_at "mm"
    refine ⟨by simp only [List.length_cons, List.length_nil]; omega, ?_⟩
    walk_at "mm"
    refine ⟨by omega, ?_⟩
    refine ⟨c, ⟨by omega, by omega⟩, hc, ?_⟩
    refine ⟨by simp only [List.length_cons, List.length_nil]; omega, ?_⟩
    refine ex_cons ?_
    walk_at "mm"
    refine ev_call hsize (by rfl) hsc (by rfl) ?_
    walk_at "mm"
    refine ⟨1, _, by omega, size_spec f.wd hsize _ (by rw [List.length_append]; simp only [List.length_cons, List.length_nil]; omega) _, ?_⟩
    rintro v new ⟨rfl, rfl⟩
    walk_at "mm"
    refine sel (fun hgt => ?_) (fun hle => ?_)
    · walk_at "mm"
      refine ex_break (.refl _) ?_
      refine SW.weaken ?_ (law_rowsb f hsc hk hfn hsize hmet hended hparse hover S word hws hwc b ds own ro hb)
      walk_at "sub"
    · refine ex_nil (.refl _) ?_
      walk_at "mm"
      refine ex_nil (st' := ⟨[(Str.ofString "numbers", V.ref b), (Str.ofString "others", V.int (ls.length : Int)), (Str.ofString "letters", V.str ls), (Str.ofString "n", V.int (n : Int)), (Str.ofString "most", V.int (most : Int)), (Str.ofString "word", V.str (word ++ [c]))], own, ro⟩) ?_ ⟨word ++ [c], by omega, fun d hd => ?_, rfl⟩
      · walk_at "sub"
      · rcases List.mem_append.mp hd with hd | hd
        · exact hwc d hd
        · have : d = c := by simpa using hd
          subst this; exact hcm
  · rintro st ⟨word, hws, hwc, rfl⟩
    refine ex_nil (.refl _) ?_
    refine SW.weaken ?_ (law_rowsb f hsc hk hfn hsize hmet hended hparse hover S word hws hwc b ds own ro hb)
    walk_at "sub"

theorem law_front (f : Frm) (hsc : f.env.scope = dLaw.scope) (hk : f.k = 3) (hfn : f.Fn dLaw.scope) (hsize : dSize ∈ recsOf f.wd.p) (hmet : dMet ∈ recsOf f.wd.p) (hended : dEnded ∈ recsOf f.wd.p) (hparse : dParse ∈ recsOf f.wd.p) (hover : dOver ∈ recsOf f.wd.p)
    (a b : Addr) (ns ds : List Int) (hns : ns.length ≤ 1000) (own ro : List (Addr × List V)) (ha : (a, ns.map V.int) ∈ ro) (hb : (b, ds.map V.int) ∈ ro) :
    EX f (dLaw.body.drop 1) ⟨[(Str.ofString "script", V.ref a), (Str.ofString "numbers", V.ref b)], own, ro⟩ RT := by
  refine ex_cons ?_
  walk_at "mm"
  refine ev_sum hsc (by rfl) ?_
  walk_at "mm"
  refine ⟨b, ds, rfl, .inr hb, ?_⟩
  walk_at "mm"
  refine ⟨⟨by decide, by decide⟩, ?_⟩
  walk_at "mm"
  refine ⟨by decide, ?_⟩
  have h2 := fmod_lt (ds.sum.fdiv 2) (m := 2) (by decide)
  obtain ⟨J, hJ, hJ12⟩ : ∃ J : Nat, 1 + (ds.sum.fdiv 2).fmod 2 = (J : Int) ∧ (J = 1 ∨ J = 2) := ⟨(1 + (ds.sum.fdiv 2).fmod 2).toNat, by omega, by omega⟩
  rw [hJ]
  have h3 := fmod_lt ((ns.map V.int).length : Int) (m := 3) (by decide)
  obtain ⟨z, hz, hzl, hs1, hs2⟩ : ∃ z : List Nat, ([V.str [97, 98], V.str [10, 92], V.str [55, 233]] : List V)[(((ns.map V.int).length : Int).fmod 3).toNat]? = some (V.str z) ∧ z.length = 2 ∧ Setting (z.take 1) 9 6 ∧ Setting (z.take 2) 5 4 := by
    have h5 : (((ns.map V.int).length : Int).fmod 3).toNat < 3 := by omega
    generalize (((ns.map V.int).length : Int).fmod 3).toNat = q at h5
    match q, h5 with
    | 0, _ => exact ⟨_, rfl, rfl, .a, .aa⟩
    | 1, _ => exact ⟨_, rfl, rfl, .b, .bb⟩
    | 2, _ => exact ⟨_, rfl, rfl, .c, .cc⟩
    | q + 3, h => omega
  change EX f _ ⟨[(Str.ofString "script", V.ref a), (Str.ofString "numbers", V.ref b), (Str.ofString "others", V.int (J : Int))], own, ro⟩ _
  refine ex_cons ?_
  walk_at "mm"
  refine ev_slice_str ?_
  walk_at "mm"
  refine ⟨by simp, fun t => ?_⟩
  walk_at "mm"
  refine .inr ⟨a, _, rfl, .inr ha, by rw [List.length_map]; omega, ?_⟩
  walk_at "mm"
  refine ⟨by decide, ?_⟩
  refine ⟨_, _, .inl (List.mem_cons_self ..), .inl ⟨by omega, by omega, hz⟩, ?_⟩
  refine ⟨_, rfl, by omega, ?_⟩
  walk_at "mm"
  refine ⟨_, rfl, ?_⟩
  rw [pysl_to _ (by omega), Int.toNat_natCast]
  have hzt : (z.take J).length = J := by rw [List.length_take]; omega
  change EX f _ ⟨[(Str.ofString "script", V.ref a), (Str.ofString "numbers", V.ref b), (Str.ofString "others", V.int (J : Int)), (Str.ofString "letters", V.str (z.take J))], (t, [V.str [97, 98], V.str [10, 92], V.str [55, 233]]) :: own, ro⟩ _
  refine ex_cons (ex_unpack hsc (Frm.Fn.st hfn (.inr rfl)) (Frm.Fn.st hfn (.inl rfl)) (evu_ifexp ?_))
  walk_at "mm"
  refine sel (fun h1 => ?_) (fun h1 => ?_)
  · have hJ1 : J = 1 := by omega
    subst hJ1
    refine evu_tuple ?_
    walk_at "mm"
    refine ⟨by simp, _, _, rfl, ?_⟩
    have := law_word f hsc hk hfn hsize hmet hended hparse hover hs1 b ds own ro hb
    rw [hzt] at this
    refine SW.weaken ?_ this
    walk_at "sub"
  · have hJ1 : J = 2 := by omega
    subst hJ1
    refine evu_tuple ?_
    walk_at "mm"
    refine ⟨by simp, _, _, rfl, ?_⟩
    have := law_word f hsc hk hfn hsize hmet hended hparse hover hs2 b ds own ro hb
    rw [hzt] at this
    refine SW.weaken ?_ this
    walk_at "sub"

theorem law_spec (w : Wd) (h1 : dLaw ∈ recsOf w.p) (hsize : dSize ∈ recsOf w.p) (hmet : dMet ∈ recsOf w.p) (hended : dEnded ∈ recsOf w.p) (hparse : dParse ∈ recsOf w.p) (hover : dOver ∈ recsOf w.p) (a : Addr) (ns : List Int) (hn : ns.length ≤ 1000) :
    FnSpec w dLaw.name [.ref a] [(a, ns.map V.int)] 4 (fun v new => v = .bool true ∧ new = []) := by
  refine FnSpec.of_cells h1 ?_ (by rfl) (by decide +kernel) (by rfl) (by rfl) (by rfl) fun f hw hsc hk hfn => ?_
  · intro pm cd doc vals hv
    obtain ⟨v, rfl⟩ : ∃ v, vals = [v] := List.length_eq_one_iff.mp hv
    rfl
  subst hw
  change EX f _ ⟨[(Str.ofString "script", V.ref a)], [], [(a, ns.map V.int)]⟩ RT
  refine ex_cons ?_
  walk_at "mm"
  refine it_list ?_
  walk_at "mm"
  refine ⟨a, _, rfl, .inr (List.mem_cons_self ..), by rw [List.length_map]; omega, ?_⟩
  refine sel (fun hne => ?_) (fun heq => ?_)
  · refine ev_name (by rfl) ?_
    exact law_front f hsc hk hfn hsize hmet hended hparse hover a a ns ns hn [] [(a, ns.map V.int)] (List.mem_cons_self ..) (List.mem_cons_self ..)
  · walk_at "mm"
    refine ⟨by simp, fun b => ?_⟩
    refine SW.weaken ?_ (law_front f hsc hk hfn hsize hmet hended hparse hover a b ns [0, 1, 0] hn [] [(b, ([0, 1, 0] : List Int).map V.int), (a, ns.map V.int)] (List.mem_cons_of_mem _ (List.mem_cons_self ..)) (List.mem_cons_self ..))
    refine ⟨fun x v hx => hx, List.nil_sublist _, fun p hp => ?_⟩
    rcases List.mem_cons.mp hp with rfl | hp
    · exact .inr ⟨List.mem_cons_self .., by simp⟩
    · exact .inl hp

end Mine
end
open PySem PySem.W PyProof.Rows PySem.W.X PySem.W.ZRun
set_option maxRecDepth 100000
set_option maxHeartbeats 0
theorem PySem.Challenge.cw_qu0001_02_holds : PySem.Challenge.rw_qu0001_02.Holds := by
  w_on
  o_law
  z_head
  (case hw => w_witness2)
  k_fill
  intro w s₀ s₁ mg mb G y fa o pm cd doc dV kV ho hd hcd hD hmg hg args vals as L hpre hlay hrd hwl hlo
  clear ho hd hcd hD
  z_open y L KX ZH ZN ZT
  have hmg' : mg (Str.ofString "law") = some (.ref fa) := hmg
  clear hmg
  refine Ground.open G ?_
  intro T B D TE TW
  wrow_args hpre hlay hrd hwl hlo
  have htk := script_toks L ZT
  refine enter_call ?_
  rename_i ns _ _ _ _ _ _ _ a vs _ hLL _ _ _ hII _ hlen _
  refine Mine.finish (a := a) (ns := ns) (Mine.free_of T (by decide +kernel)) (Mine.law_spec _ (Mine.mem_at 5 (by kernel_rfl)) (Mine.mem_at 2 (by kernel_rfl)) (Mine.mem_at 3 (by kernel_rfl)) (Mine.mem_at 4 (by kernel_rfl)) (Mine.mem_at 0 (by kernel_rfl)) (Mine.mem_at 1 (by kernel_rfl)) _ _ ?hn) (by decide) T (Mine.nb_in KX (by kernel_rfl)) hmg' hg hLL hII (Nat.le_trans (by decide) htk) ?_ ?_
  case hn => omega
  · exact raisesW_false (by wrow_none_raised)
  · wrow_post
