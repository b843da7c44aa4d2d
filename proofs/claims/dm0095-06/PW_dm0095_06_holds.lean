import PyProof.Rows.All
import Wide.All
import OpenK.AllK
import Wide.FinOn
import PySem.Challenge.RW_dm0095_06

open PySem PySem.W PyProof.Rows
set_option Elab.async false
set_option linter.unusedVariables false
set_option linter.unusedSimpArgs false
set_option maxRecDepth 100000
set_option maxHeartbeats 8000000

namespace Mine
open_top hd for PySem.Challenge.rw_dm0095_06
end Mine

namespace Mine

/-- a text from its signs' numbers -/
abbrev mkS (l : List Nat) : Str := ⟨l.toArray⟩

/-- deep data -/
inductive D where
  | none
  | bool (b : Bool)
  | int (i : Int)
  | str (x : List Nat)
  | bytes (x : List UInt8)
  | list (xs : List D)
  | tup (xs : List D)
  | rng (a b c : Int)
  | val (v : Value)
  deriving Inhabited

mutual
inductive Is (Z : Addr → Prop) (h : Heap) : Value → D → Prop where
  | none : Is Z h .none .none
  | bool {b : Bool} : Is Z h (.bool b) (.bool b)
  | int {i : Int} {t : Tok} : Is Z h (.int i t) (.int i)
  | str {x : List Nat} {t : Tok} : Is Z h (.str (mkS x) t) (.str x)
  | bytes {x : List UInt8} {t : Tok} : Is Z h (.bytes x.toArray t) (.bytes x)
  | list {a : Addr} {vs : List Value} {ds : List D} : ¬ Z a → h.IsList a vs.toArray → IsAll Z h vs ds → Is Z h (.ref a) (.list ds)
  | tup {a : Addr} {vs : List Value} {ds : List D} : ¬ Z a → h.IsTuple a vs.toArray → IsAll Z h vs ds → Is Z h (.ref a) (.tup ds)
  | rng {r : Addr} {a b c : Int} {t u w : Tok} : ¬ Z r → IsRange h r a b c t u w → Is Z h (.ref r) (.rng a b c)
  | val {v : Value} : Is Z h v (.val v)
inductive IsAll (Z : Addr → Prop) (h : Heap) : List Value → List D → Prop where
  | nil : IsAll Z h [] []
  | cons {v : Value} {d : D} {vs : List Value} {ds : List D} : Is Z h v d → IsAll Z h vs ds → IsAll Z h (v :: vs) (d :: ds)
end

theorem tup_at {h h' : Heap} {a : Addr} {items : Array Value} (x : h.IsTuple a items) (e : ∀ o, h.get? a = some o → h'.get? a = some o) : h'.IsTuple a items :=
  let ⟨o, ho, r⟩ := x; ⟨o, e _ ho, r⟩

mutual
theorem Is.move {Z Z' : Addr → Prop} {h h' : Heap} {v : Value} {d : D} (x : Is Z h v d) (hk : ∀ b o, ¬ Z b → h.get? b = some o → ¬ Z' b ∧ h'.get? b = some o) : Is Z' h' v d := by
  cases x with
  | none => exact .none
  | bool => exact .bool
  | int => exact .int
  | str => exact .str
  | bytes => exact .bytes
  | list hz hl hs =>
    obtain ⟨o, ho, _⟩ := id hl
    exact .list (hk _ _ hz ho).1 (hl.at fun o e => (hk _ _ hz e).2) (IsAll.move hs hk)
  | tup hz hl hs =>
    obtain ⟨o, ho, _⟩ := id hl
    exact .tup (hk _ _ hz ho).1 (tup_at hl fun o e => (hk _ _ hz e).2) (IsAll.move hs hk)
  | rng hz hr => exact .rng (hk _ _ hz hr).1 (hk _ _ hz hr).2
  | val => exact .val
theorem IsAll.move {Z Z' : Addr → Prop} {h h' : Heap} {vs : List Value} {ds : List D} (x : IsAll Z h vs ds) (hk : ∀ b o, ¬ Z b → h.get? b = some o → ¬ Z' b ∧ h'.get? b = some o) : IsAll Z' h' vs ds := by
  cases x with
  | nil => exact .nil
  | cons a b => exact .cons (Is.move a hk) (IsAll.move b hk)
end

theorem Is.keeps {Z : Addr → Prop} {h h' : Heap} {v : Value} {d : D} (x : Is Z h v d) (hk : ∀ b o, h.get? b = some o → h'.get? b = some o) : Is Z h' v d :=
  x.move fun b o hz e => ⟨hz, hk b o e⟩
theorem IsAll.keeps {Z : Addr → Prop} {h h' : Heap} {vs : List Value} {ds : List D} (x : IsAll Z h vs ds) (hk : ∀ b o, h.get? b = some o → h'.get? b = some o) : IsAll Z h' vs ds :=
  x.move fun b o hz e => ⟨hz, hk b o e⟩

theorem IsAll.length {Z : Addr → Prop} {h : Heap} {vs : List Value} {ds : List D} (x : IsAll Z h vs ds) : vs.length = ds.length := by
  induction ds generalizing vs with
  | nil => cases x; rfl
  | cons d ds ih => cases x with | cons a b => simp [ih b]
theorem IsAll.get {Z : Addr → Prop} {h : Heap} {vs : List Value} {ds : List D} (x : IsAll Z h vs ds) {i : Nat} {d : D} (e : ds[i]? = some d) : ∃ v, vs[i]? = some v ∧ Is Z h v d := by
  induction ds generalizing vs i with
  | nil => simp at e
  | cons d' ds ih => cases x with
    | cons a b => cases i with
      | zero => simp at e; subst e; exact ⟨_, rfl, a⟩
      | succ i => simp at e; simpa using ih b e
theorem IsAll.get' {Z : Addr → Prop} {h : Heap} {vs : List Value} {ds : List D} (x : IsAll Z h vs ds) {i : Nat} {v : Value} (e : vs[i]? = some v) : ∃ d, ds[i]? = some d ∧ Is Z h v d := by
  induction ds generalizing vs i with
  | nil => cases x; simp at e
  | cons d' ds ih => cases x with
    | cons a b => cases i with
      | zero => simp at e; subst e; exact ⟨_, rfl, a⟩
      | succ i => simp at e; simpa using ih b e
theorem IsAll.append {Z : Addr → Prop} {h : Heap} {vs ws : List Value} {ds es : List D} (x : IsAll Z h vs ds) (y : IsAll Z h ws es) : IsAll Z h (vs ++ ws) (ds ++ es) := by
  induction ds generalizing vs with
  | nil => cases x; exact y
  | cons d ds ih => cases x with | cons a b => exact .cons a (ih b)
theorem IsAll.one {Z : Addr → Prop} {h : Heap} {v : Value} {d : D} (x : Is Z h v d) : IsAll Z h [v] [d] := .cons x .nil

/-- names and data of a frame -/
abbrev Loc := List (Str × D)
def get : Loc → Str → Option D
  | [], _ => none
  | (y, d) :: r, x => if x = y then some d else get r x
def put : Loc → Str → D → Loc
  | [], x, d => [(x, d)]
  | (y, e) :: r, x, d => if x = y then (y, d) :: r else (y, e) :: put r x d
theorem get_put (r : Loc) (x y : Str) (d : D) : get (put r x d) y = if y = x then some d else get r y := by
  induction r with
  | nil => simp only [put, get]
  | cons p r ih =>
    obtain ⟨z, e⟩ := p
    simp only [put]
    by_cases h : x = z
    · subst h; simp only [if_true, get]; split <;> rfl
    · rw [if_neg h]; simp only [get, ih]
      by_cases h1 : y = z
      · subst h1; simp [Ne.symm h]
      · simp [h1]

abbrev Own := List (Addr × List D)

structure Cx where
  prog : Program
  w : World
  A : Around
  env : Env
  h₀ : Heap
  mg : Str → Option Value
  mb : Str → Option Value

abbrev Cx.M (C : Cx) : Model := model C.prog C.w
def Cx.Mu (C : Cx) (ω : Own) (a : Addr) : Prop := a = C.env.locals ∨ (∃ x, C.env.cells.lookup x = some a) ∨ a ∈ ω.map (·.1)
def Cx.Z (C : Cx) (Zo : Addr → Prop) (ω : Own) (a : Addr) : Prop := Zo a ∨ C.Mu ω a

/-- room around a call -/
structure Room (A : Around) (l : Nat) : Prop where
  hd : A.handled = none
  depth : A.depth + l < 900
  units : A.units + 10 * l < 9000

structure Cx.Ok (C : Cx) (l : Nat) : Prop where
  room : Room C.A l
  kind : C.env.scope.kind = .function
  gl : C.env.globals = mainGlobals
  bl : C.env.builtins = builtinsNs
  g : C.h₀.Ns mainGlobals C.mg
  b : C.h₀.Ns builtinsNs C.mb
  nolimit : C.h₀.NoLimit

def Live (Z : Addr → Prop) (h : Heap) : Prop := ∀ a, Z a → ∃ o, h.get? a = some o

structure Sta (C : Cx) (Zo : Addr → Prop) (ρ : Loc) (ω : Own) (s : Shared) : Prop where
  base : ∀ b o, C.h₀.get? b = some o → s.heap.get? b = some o
  new : ∀ a, C.Z Zo ω a → C.h₀.get? a = none
  ns : ∃ m, s.heap.Ns C.env.locals m ∧ ∀ x d, get ρ x = some d → C.env.kindOf x = some .local → ∃ v, m x = some v ∧ Is (C.Z Zo ω) s.heap v d
  cell : ∀ x d, get ρ x = some d → (C.env.kindOf x = some .cell ∨ C.env.kindOf x = some .free) → ∃ c v, C.env.cells.lookup x = some c ∧ s.heap.IsCell c (some v) ∧ Is (C.Z Zo ω) s.heap v d
  cells : ∀ x c, C.env.cells.lookup x = some c → ∃ v, s.heap.IsCell c v
  inj : ∀ x y c, C.env.cells.lookup x = some c → C.env.cells.lookup y = some c → x = y
  own : ∀ p ∈ ω, ∃ vs, s.heap.IsList p.1 vs.toArray ∧ IsAll (C.Z Zo ω) s.heap vs p.2
  nodup : (ω.map (·.1)).Nodup
  zo : Live Zo s.heap

/-- keeps every object -/
def Kp (s s' : Shared) : Prop := PySem.Keeps s s'
theorem Kp.refl (s : Shared) : Kp s s := ⟨s.heap, s.toks, rfl, fun _ _ e => e⟩
theorem Kp.trans {s s' s'' : Shared} (x : Kp s s') (y : Kp s' s'') : Kp s s'' := by
  obtain ⟨h1, t1, rfl, k1⟩ := x
  obtain ⟨h2, t2, rfl, k2⟩ := y
  exact ⟨h2, t2, rfl, fun b o e => k2 b o (k1 b o e)⟩
theorem Kp.get {s s' : Shared} (x : Kp s s') : ∀ b o, s.heap.get? b = some o → s'.heap.get? b = some o := by
  obtain ⟨h1, t1, rfl, k1⟩ := x; exact k1
theorem Kp.tok (s : Shared) (k : Nat) : Kp s { s with toks := k } := ⟨s.heap, k, rfl, fun _ _ e => e⟩
theorem Kp.push (s : Shared) (o : Obj) : Kp s { s with heap := s.heap.push o } := ⟨_, s.toks, rfl, fun _ _ e => Heap.get?_push_of_some _ e⟩
theorem Kp.push_tok (s : Shared) (o : Obj) (k : Nat) : Kp s { s with heap := s.heap.push o, toks := k } := ⟨_, k, rfl, fun _ _ e => Heap.get?_push_of_some _ e⟩

theorem Sta.keeps {C : Cx} {Zo : Addr → Prop} {ρ : Loc} {ω : Own} {s s' : Shared} (x : Sta C Zo ρ ω s) (k : Kp s s') : Sta C Zo ρ ω s' := by
  have hk := k.get
  refine ⟨fun b o e => hk _ _ (x.base b o e), x.new, ?_, ?_, ?_, x.inj, ?_, x.nodup, fun a ha => let ⟨o, ho⟩ := x.zo a ha; ⟨o, hk _ _ ho⟩⟩
  · obtain ⟨m, hn, hm⟩ := x.ns
    exact ⟨m, hn.keeps hk, fun y d hy hl => let ⟨v, h1, h2⟩ := hm y d hy hl; ⟨v, h1, h2.keeps hk⟩⟩
  · intro y d hy hl
    obtain ⟨c, v, h1, ⟨o, h2, h2'⟩, h3⟩ := x.cell y d hy hl
    exact ⟨c, v, h1, ⟨o, hk _ _ h2, h2'⟩, h3.keeps hk⟩
  · intro y c hy
    obtain ⟨v, o, h2, h2'⟩ := x.cells y c hy
    exact ⟨v, o, hk _ _ h2, h2'⟩
  · intro p hp
    obtain ⟨vs, h1, h2⟩ := x.own p hp
    exact ⟨vs, h1.at fun o e => hk _ _ e, h2.keeps hk⟩

theorem Sta.live {C : Cx} {Zo : Addr → Prop} {ρ : Loc} {ω : Own} {s : Shared} (hs : Sta C Zo ρ ω s) : Live (C.Z Zo ω) s.heap := by
  rintro a (h | h | ⟨x, h⟩ | h)
  · exact hs.zo a h
  · obtain ⟨m, ⟨o, _, _, ho, _⟩, _⟩ := hs.ns
    exact ⟨o, h ▸ ho⟩
  · obtain ⟨v, o, ho, _⟩ := hs.cells x _ h
    exact ⟨o, ho⟩
  · obtain ⟨p, hp, e⟩ := List.mem_map.mp h
    obtain ⟨vs, ⟨o, ho, _⟩, _⟩ := hs.own p hp
    exact ⟨o, e ▸ ho⟩
theorem Live.new {Z : Addr → Prop} {h : Heap} (x : Live Z h) : ¬ Z h.objs.size := fun hz =>
  let ⟨_, ho⟩ := x _ hz; Nat.lt_irrefl _ (Heap.lt_size ho)
theorem Live.keeps {Z : Addr → Prop} {h h' : Heap} (x : Live Z h) (hk : ∀ b o, h.get? b = some o → h'.get? b = some o) : Live Z h' := fun a ha =>
  let ⟨o, ho⟩ := x a ha; ⟨o, hk _ _ ho⟩

/-- what a pure tree gives -/
def Gv (Z : Addr → Prop) (s : Shared) (K : D → Prop) (v : Value) (s' : Shared) : Prop := Kp s s' ∧ ∃ d, Is Z s'.heap v d ∧ K d
abbrev NoE : Value → Shared → Prop := fun _ _ => False

/-- an expression that keeps the heap and gives a datum -/
structure Pe (C : Cx) (ρ : Loc) (ω : Own) (e : Expr) (K : D → Prop) : Prop where
  run : ∀ {Zo : Addr → Prop} s, Sta C Zo ρ ω s → wpAny C.M C.A (eval e C.env) (Gv (C.Z Zo ω) s K) NoE s
/-- a test -/
structure Pt (C : Cx) (ρ : Loc) (ω : Own) (e : Expr) (K : Bool → Prop) : Prop where
  run : ∀ {Zo : Addr → Prop} s, Sta C Zo ρ ω s → wpAny C.M C.A (isTrue e C.env (eval e C.env)) (fun b s' => Kp s s' ∧ K b) NoE s
/-- a list of expressions -/
structure Pl (C : Cx) (ρ : Loc) (ω : Own) (es : List Expr) (K : List D → Prop) : Prop where
  run : ∀ {Zo : Addr → Prop} s pos, Sta C Zo ρ ω s → wpAny C.M C.A (spliced (backTo pos (starEach es C.env))) (fun vs s' => Kp s s' ∧ ∃ ds, IsAll (C.Z Zo ω) s'.heap vs ds ∧ K ds) NoE s

theorem Gv.mono {Z : Addr → Prop} {s s' : Shared} {K K' : D → Prop} {v : Value} (x : Gv Z s K v s') (h : ∀ d, K d → K' d) : Gv Z s K' v s' :=
  ⟨x.1, let ⟨d, h1, h2⟩ := x.2; ⟨d, h1, h d h2⟩⟩
theorem Pe.mono {C : Cx} {ρ : Loc} {ω : Own} {e : Expr} {K K' : D → Prop} (x : Pe C ρ ω e K) (h : ∀ d, K d → K' d) : Pe C ρ ω e K' := .mk <|
  fun {Zo} s hs => wpAny_mono (x.run s hs) (fun _ _ g => g.mono h) fun _ _ e => e
theorem Pt.mono {C : Cx} {ρ : Loc} {ω : Own} {e : Expr} {K K' : Bool → Prop} (x : Pt C ρ ω e K) (h : ∀ d, K d → K' d) : Pt C ρ ω e K' := .mk <|
  fun {Zo} s hs => wpAny_mono (x.run s hs) (fun _ _ g => ⟨g.1, h _ g.2⟩) fun _ _ e => e

/-- what stands under a call: the base, and nothing of it in the zone -/
structure Und (C : Cx) (Z : Addr → Prop) (s : Shared) : Prop where
  live : Live Z s.heap
  base : ∀ b o, C.h₀.get? b = some o → s.heap.get? b = some o
  new : ∀ a, Z a → C.h₀.get? a = none
theorem Sta.und {C : Cx} {Zo : Addr → Prop} {ρ : Loc} {ω : Own} {s : Shared} (x : Sta C Zo ρ ω s) : Und C (C.Z Zo ω) s := ⟨x.live, x.base, x.new⟩

/-- an operation upon one, two data -/
structure Do1 (C : Cx) (f : Value → Sem Value) (a : D) (K : D → Prop) : Prop where
  run : ∀ {Z : Addr → Prop} s v, Und C Z s → Is Z s.heap v a → wpAny C.M C.A (f v) (Gv Z s K) NoE s
structure Do2 (C : Cx) (f : Value → Value → Sem Value) (a b : D) (K : D → Prop) : Prop where
  run : ∀ {Z : Addr → Prop} s v w, Und C Z s → Is Z s.heap v a → Is Z s.heap w b → wpAny C.M C.A (f v w) (Gv Z s K) NoE s
/-- a call upon data: a built-in, or a def under the base -/
structure DoC (C : Cx) (f : Value) (as : List D) (K : D → Prop) : Prop where
  run : ∀ {Z : Addr → Prop} s vs, Und C Z s → IsAll Z s.heap vs as → wpAny C.M C.A (call f vs) (Gv Z s K) NoE s
structure Tr1 (C : Cx) (a : D) (K : Bool → Prop) : Prop where
  run : ∀ {Z : Addr → Prop} s v, Und C Z s → Is Z s.heap v a → wpAny C.M C.A (truthy v) (fun b s' => Kp s s' ∧ K b) NoE s

section
variable {C : Cx} {Zo : Addr → Prop} {ρ : Loc} {ω : Own} {l : Nat} {K : D → Prop}

theorem pe_int {i : Int} {k : Nat} {p : Pos} (h : K (.int i)) : Pe C ρ ω (.Constant (.int i) k p) K := .mk fun {_} _ _ =>
  wpAny_Constant_int ⟨Kp.tok _ _, _, .int, h⟩
theorem pe_str {x : Str} {k : Nat} {p : Pos} (h : K (.str x.cps.toList)) : Pe C ρ ω (.Constant (.str x) k p) K := .mk fun {_} _ _ =>
  wpAny_Constant_str ⟨Kp.tok _ _, _, (by
    have : x = mkS x.cps.toList := by obtain ⟨a⟩ := x; simp [mkS]
    conv => arg 3; rw [this]
    exact .str), h⟩
theorem pe_bool {b : Bool} {k : Nat} {p : Pos} (h : K (.bool b)) : Pe C ρ ω (.Constant (.bool b) k p) K := .mk fun {_} _ _ =>
  wpAny_Constant_bool ⟨Kp.refl _, _, .bool, h⟩
theorem pe_none {k : Nat} {p : Pos} (h : K .none) : Pe C ρ ω (.Constant .none k p) K := .mk fun {_} _ _ =>
  wpAny_Constant_none ⟨Kp.refl _, _, .none, h⟩

theorem pe_loc {x : Str} {p : Pos} {d : D} (ok : C.Ok l) (hx : get ρ x = some d) (hk : C.env.kindOf x = some .local) (h : K d) (hd : (x == ("__debug__" : Str)) = false := by decide) : Pe C ρ ω (.Name x p) K := .mk fun {Zo} s hs => by
  obtain ⟨m, hn, hm⟩ := hs.ns
  obtain ⟨v, h1, h2⟩ := hm x d hx hk
  exact wpAny_Name (wpAny_loadName_local ok.kind hk hn h1 ⟨Kp.refl _, d, h2, h⟩) hd
theorem pe_cell {x : Str} {p : Pos} {d : D} (ok : C.Ok l) (hx : get ρ x = some d) (hk : C.env.kindOf x = some .cell) (h : K d) (hd : (x == ("__debug__" : Str)) = false := by decide) : Pe C ρ ω (.Name x p) K := .mk fun {Zo} s hs => by
  obtain ⟨c, v, h1, h2, h3⟩ := hs.cell x d hx (.inl hk)
  exact wpAny_Name (wpAny_loadName_cell ok.kind hk h1 h2 ⟨Kp.refl _, d, h3, h⟩) hd
theorem pe_free {x : Str} {p : Pos} {d : D} (ok : C.Ok l) (hx : get ρ x = some d) (hk : C.env.kindOf x = some .free) (h : K d) (hd : (x == ("__debug__" : Str)) = false := by decide) (hn : (x == ("__classdict__" : Str)) = false := by decide) : Pe C ρ ω (.Name x p) K := .mk fun {Zo} s hs => by
  obtain ⟨c, v, h1, h2, h3⟩ := hs.cell x d hx (.inr hk)
  exact wpAny_Name (wpAny_loadName_free ok.kind hk h1 h2 ⟨Kp.refl _, d, h3, h⟩ hn) hd
theorem pe_glob {x : Str} {p : Pos} {v : Value} {d : D} (ok : C.Ok l) (hv : C.mg x = some v) (hi : Is (fun a => C.h₀.get? a = none) C.h₀ v d) (hk : C.env.kindOf x = some .globalImplicit) (h : K d) (hd : (x == ("__debug__" : Str)) = false := by decide) : Pe C ρ ω (.Name x p) K := .mk fun {Zo} s hs =>
  Calls.Name_function_global ok.kind hk (Calls.loadGlobal_global (by rw [ok.gl]; exact ok.g.keeps hs.base) hv ⟨Kp.refl _, d, hi.move (fun b o hz e => ⟨fun q => hz (hs.new b q), hs.base b o e⟩), h⟩) hd
theorem pe_blt {x : Str} {p : Pos} {v : Value} (ok : C.Ok l) (hm : C.mg x = none) (hv : C.mb x = some v) (hk : C.env.kindOf x = some .globalImplicit) (h : K (.val v)) (hd : (x == ("__debug__" : Str)) = false := by decide) : Pe C ρ ω (.Name x p) K := .mk fun {Zo} s hs =>
  Calls.Name_function_global ok.kind hk (Calls.loadGlobal_builtin (by rw [ok.gl]; exact ok.g.keeps hs.base) hm (by rw [ok.bl]; exact ok.b.keeps hs.base) hv ⟨Kp.refl _, _, .val, h⟩) hd

theorem pe_bin {a b : Expr} {op : Operator} {p : Pos} (h : Pe C ρ ω a (fun x => Pe C ρ ω b (fun y => Do2 C (binaryOp op) x y K))) : Pe C ρ ω (.BinOp a op b p) K := .mk fun {Zo} s hs =>
  wpAny_BinOp (wpAny_mono (h.run s hs) (fun v s₁ ⟨k1, x, i1, h1⟩ => wpAny_mono (h1.run s₁ (hs.keeps k1)) (fun w s₂ ⟨k2, y, i2, h2⟩ =>
    wpAny_mono (h2.run s₂ v w (hs.keeps (k1.trans k2)).und (i1.keeps k2.get) i2) (fun r s₃ ⟨k3, z, i3, h3⟩ => ⟨(k1.trans k2).trans k3, z, i3, h3⟩) fun _ _ e => e) fun _ _ e => e) fun _ _ e => e)
theorem pe_cmp {a b : Expr} {op : CmpOp} {p : Pos} (h : Pe C ρ ω a (fun x => Pe C ρ ω b (fun y => Do2 C (compareOp op) x y K))) (hm : behindInMarks op b = false) : Pe C ρ ω (.Compare a [op] [b] p) K := .mk fun {Zo} s hs =>
  wpAny_Compare1 (wpAny_mono (h.run s hs) (fun v s₁ ⟨k1, x, i1, h1⟩ => wpAny_mono (h1.run s₁ (hs.keeps k1)) (fun w s₂ ⟨k2, y, i2, h2⟩ =>
    wpAny_mono (h2.run s₂ v w (hs.keeps (k1.trans k2)).und (i1.keeps k2.get) i2) (fun r s₃ ⟨k3, z, i3, h3⟩ => ⟨(k1.trans k2).trans k3, z, i3, h3⟩) fun _ _ e => e) fun _ _ e => e) fun _ _ e => e) hm
theorem pe_un {a : Expr} {op : UnaryOp} {p : Pos} (h : Pe C ρ ω a (fun x => Do1 C (unaryOp op) x K)) : Pe C ρ ω (.UnaryOp op a p) K := .mk fun {Zo} s hs =>
  wpAny_UnaryOp (wpAny_mono (h.run s hs) (fun v s₁ ⟨k1, x, i1, h1⟩ => wpAny_mono (h1.run s₁ v (hs.keeps k1).und i1) (fun r s₃ ⟨k3, z, i3, h3⟩ => ⟨k1.trans k3, z, i3, h3⟩) fun _ _ e => e) fun _ _ e => e)
theorem pe_ifexp {t a b : Expr} {p : Pos} (h : Pt C ρ ω t (fun c => if c then Pe C ρ ω a K else Pe C ρ ω b K)) : Pe C ρ ω (.IfExp t a b p) K := .mk fun {Zo} s hs =>
  wpAny_IfExp (wpAny_mono (h.run s hs) (fun c s₁ ⟨k1, h1⟩ => by
    cases c with
    | true => exact wpAny_mono (h1.run s₁ (hs.keeps k1)) (fun r s₃ ⟨k3, z, i3, h3⟩ => ⟨k1.trans k3, z, i3, h3⟩) fun _ _ e => e
    | false => exact wpAny_mono (h1.run s₁ (hs.keeps k1)) (fun r s₃ ⟨k3, z, i3, h3⟩ => ⟨k1.trans k3, z, i3, h3⟩) fun _ _ e => e) fun _ _ e => e)

theorem pt_cmp {a b : Expr} {op : CmpOp} {p : Pos} {K : Bool → Prop} (h : Pe C ρ ω a (fun x => Pe C ρ ω b (fun y => Do2 C (compareOp op) x y (fun c => Tr1 C c K)))) (hm : behindInMarks op b = false) : Pt C ρ ω (.Compare a [op] [b] p) K := .mk fun {Zo} s hs =>
  wpAny_isTrue_Compare1 (wpAny_mono (h.run s hs) (fun v s₁ ⟨k1, x, i1, h1⟩ => wpAny_mono (h1.run s₁ (hs.keeps k1)) (fun w s₂ ⟨k2, y, i2, h2⟩ =>
    wpAny_mono (h2.run s₂ v w (hs.keeps (k1.trans k2)).und (i1.keeps k2.get) i2) (fun r s₃ ⟨k3, z, i3, h3⟩ => wpAny_mono (h3.run s₃ r (hs.keeps ((k1.trans k2).trans k3)).und i3) (fun b s₄ ⟨k4, h4⟩ => ⟨((k1.trans k2).trans k3).trans k4, h4⟩) fun _ _ e => e) fun _ _ e => e) fun _ _ e => e) fun _ _ e => e) hm
theorem pt_not {a : Expr} {p : Pos} {K : Bool → Prop} (h : Pt C ρ ω a (fun b => K (!b))) : Pt C ρ ω (.UnaryOp .Not a p) K := .mk fun {Zo} s hs => wpAny_isTrue_Not (h.run s hs)
/-- a test by its value -/
theorem pt_val {a : Expr} {K : Bool → Prop} (h : Pe C ρ ω a (fun d => Tr1 C d K))
    (he : ∀ whole, isTrue a C.env whole = (do let v ← whole; standAt a.pos; holding [v] (truthy v))) : Pt C ρ ω a K := .mk fun {Zo} s hs =>
  wpAny_isTrue_value (wpAny_mono (h.run s hs) (fun v s₁ ⟨k1, x, i1, h1⟩ => wpAny_mono (h1.run s₁ v (hs.keeps k1).und i1) (fun b s₂ ⟨k2, h2⟩ => ⟨k1.trans k2, h2⟩) fun _ _ e => e) fun _ _ e => e) (he _)
theorem pe_and2 {a b : Expr} {p : Pos} (h : Pe C ρ ω a (fun d => Tr1 C d (fun t => if t then Pe C ρ ω b K else K d))) : Pe C ρ ω (.BoolOp .And [a, b] p) K := .mk fun {Zo} s hs =>
  wpAny_And2 (wpAny_mono (h.run s hs) (fun v s₁ ⟨k1, x, i1, h1⟩ => wpAny_mono (h1.run s₁ v (hs.keeps k1).und i1) (fun t s₂ ⟨k2, h2⟩ => by
    cases t with
    | true => exact wpAny_mono (h2.run s₂ (hs.keeps (k1.trans k2))) (fun _ _ ⟨k3, z, i3, h3⟩ => ⟨(k1.trans k2).trans k3, z, i3, h3⟩) fun _ _ e => e
    | false => exact ⟨k1.trans k2, x, i1.keeps k2.get, h2⟩) fun _ _ e => e) fun _ _ e => e)
/-- the rest of an and, an or -/
structure Pb (C : Cx) (ρ : Loc) (ω : Own) (op : BoolOp) (es : List Expr) (K : Bool → Prop) : Prop where
  run : ∀ {Zo : Addr → Prop} s, Sta C Zo ρ ω s → wpAny C.M C.A (allTrue op es C.env) (fun b s' => Kp s s' ∧ K b) NoE s
theorem pt_bool {op : BoolOp} {es : List Expr} {p : Pos} {K : Bool → Prop} (h : Pb C ρ ω op es K) : Pt C ρ ω (.BoolOp op es p) K := .mk fun {Zo} s hs => wpAny_isTrue_BoolOp (h.run s hs)
theorem pb_and_nil {K : Bool → Prop} (h : K true) : Pb C ρ ω .And [] K := .mk fun _ _ => wpAny_allTrue_And_nil ⟨Kp.refl _, h⟩
theorem pb_and {x : Expr} {rest : List Expr} {K : Bool → Prop} (h : Pt C ρ ω x (fun b => if b then Pb C ρ ω .And rest K else K false)) : Pb C ρ ω .And (x :: rest) K := .mk fun {Zo} s hs =>
  wpAny_allTrue_And_cons (wpAny_mono (h.run s hs) (fun b s₁ ⟨k1, h1⟩ => by
    cases b with
    | true => exact wpAny_mono (h1.run s₁ (hs.keeps k1)) (fun _ _ ⟨k2, h2⟩ => ⟨k1.trans k2, h2⟩) fun _ _ e => e
    | false => exact ⟨k1, h1⟩) fun _ _ e => e)
theorem pb_or {x : Expr} {rest : List Expr} {K : Bool → Prop} (h : Pt C ρ ω x (fun b => if b then K true else Pb C ρ ω .Or rest K)) : Pb C ρ ω .Or (x :: rest) K := .mk fun {Zo} s hs =>
  wpAny_allTrue_Or_cons (wpAny_mono (h.run s hs) (fun b s₁ ⟨k1, h1⟩ => by
    cases b with
    | false => exact wpAny_mono (h1.run s₁ (hs.keeps k1)) (fun _ _ ⟨k2, h2⟩ => ⟨k1.trans k2, h2⟩) fun _ _ e => e
    | true => exact ⟨k1, h1⟩) fun _ _ e => e)
theorem pb_or_nil {K : Bool → Prop} (h : K false) : Pb C ρ ω .Or [] K := .mk fun _ _ => wpAny_allTrue_Or_nil ⟨Kp.refl _, h⟩
end
end Mine

namespace Mine

section
variable {C : Cx} {Zo : Addr → Prop} {ρ : Loc} {ω : Own} {l : Nat} {K : D → Prop}

theorem pl_nil {K : List D → Prop} (h : K []) : Pl C ρ ω [] K := .mk fun s pos _ => Calls.spliced_nil ⟨Kp.refl _, [], .nil, h⟩
theorem pl_cons {e : Expr} {es : List Expr} {K : List D → Prop} (h : Pe C ρ ω e (fun d => Pl C ρ ω es (fun ds => K (d :: ds))))
    (he : starEach (e :: es) C.env = (false, eval e C.env) :: starEach es C.env) : Pl C ρ ω (e :: es) K := .mk fun {Zo} s pos hs =>
  wpAny_items_cons (wpAny_mono (h.run s hs) (fun v s₁ ⟨k1, d, i1, h1⟩ => wpAny_mono (h1.run s₁ pos (hs.keeps k1)) (fun vs s₂ ⟨k2, ds, i2, h2⟩ =>
    ⟨k1.trans k2, d :: ds, .cons (i1.keeps k2.get) i2, h2⟩) fun _ _ e => e) fun _ _ e => e) he

/-- what may be called -/
inductive Callable (h : Heap) : Value → Prop where
  | blt {id : String} : Callable h (.builtin id)
  | typ {T : String} : Callable h (.type T)
  | fn {q : Addr} : FnAt q h → Callable h (.ref q)

theorem FnAt.keeps {q : Addr} {h h' : Heap} (x : FnAt q h) (hk : ∀ b o, h.get? b = some o → h'.get? b = some o) : FnAt q h' :=
  let ⟨a, b, c, d, e⟩ := x; ⟨a, b, c, d, hk _ _ e⟩

theorem callWith_any {v : Value} {e : Expr} {es : List Expr} {pos : Pos} (hc : Callable C.h₀ v)
    (h : Pl C ρ ω (e :: es) (fun ds => DoC C v ds K))
    (he : starEach (e :: es) C.env = (false, eval e C.env) :: starEach es C.env) (hplain : (backTo pos (starEach es C.env)).any (·.1) = false) (s : Shared) (hs : Sta C Zo ρ ω s) :
    wpAny C.M C.A (callWith pos v [] (backTo pos (starEach (e :: es) C.env)) []) (Gv (C.Z Zo ω) s K) NoE s := by
  have hh : wpAny C.M C.A (spliced (backTo pos (starEach (e :: es) C.env))) (fun vs s₁ => Kp s s₁ ∧ wpAny C.M C.A (call v vs) (Gv (C.Z Zo ω) s K) NoE s₁) NoE s :=
    wpAny_mono (h.run s pos hs) (fun vs s₁ ⟨k1, ds, i1, h1⟩ => ⟨k1, wpAny_mono (h1.run s₁ vs (hs.keeps k1).und i1) (fun r s₂ ⟨k2, d, i2, h2⟩ => ⟨k1.trans k2, d, i2, h2⟩) fun _ _ e => e⟩) fun _ _ e => e
  cases hc with
  | blt => exact callWith_method1 (first := []) (wpAny_mono hh (fun vs s₁ x => x.2) fun _ _ e => e) he hplain
  | typ => exact PyProof.Rows.callWith_type1 (wpAny_mono hh (fun vs s₁ x => x.2) fun _ _ e => e) he hplain
  | fn hf => exact callWith_F (first := []) (FnAt.keeps hf hs.base) (wpAny_mono hh (fun vs s₁ x => ⟨FnAt.keeps (FnAt.keeps hf hs.base) x.1.get, x.2⟩) fun _ _ e => e) he hplain

theorem pe_call {f : Str} {np pos : Pos} {e : Expr} {es : List Expr} (h : Pe C ρ ω (.Name f np) (fun d => ∃ v, d = .val v ∧ Callable C.h₀ v ∧ Pl C ρ ω (e :: es) (fun ds => DoC C v ds K)))
    (he : starEach (e :: es) C.env = (false, eval e C.env) :: starEach es C.env) (hplain : (backTo pos (starEach es C.env)).any (·.1) = false) : Pe C ρ ω (.Call (.Name f np) (e :: es) [] pos) K := .mk fun {Zo} s hs => by
  refine wpAny_Call_NameR (wpAny_mono (h.run s hs) (fun fv s₁ x => ?_) fun _ _ e => e)
  obtain ⟨k1, d, i1, v, rfl, hc, h1⟩ := x
  cases i1
  exact wpAny_mono (callWith_any hc h1 he hplain s₁ (hs.keeps k1)) (fun r s₂ ⟨k2, d, i2, h2⟩ => ⟨k1.trans k2, d, i2, h2⟩) fun _ _ e => e

/-- a method of a text, with arguments -/
theorem pe_meth {o : Expr} {name : Str} {id : String} {apos pos : Pos} {e : Expr} {es : List Expr} (slot : Slot "str" name id) (ty : typeOf (.builtin id) = pure (.type "method_descriptor"))
    (h : Pe C ρ ω o (fun d => ∃ x, d = .str x ∧ Pl C ρ ω (e :: es) (fun ds => DoC C (.builtin id) (.str x :: ds) K)))
    (hbase : attributeBase o name C.env (eval o C.env) = eval o C.env)
    (hfew : ((backTo pos (starEach (e :: es) C.env)).all (fun x => !x.1) && (backToKw pos (keywordEach [] C.env)).all (fun x => x.1.isSome)
      && decide ((e :: es).length + ([] : List Keyword).length + (if ([] : List Keyword).isEmpty then 0 else 1) < 30)) = true)
    (hline : (apos.endLine == pos.line) = true)
    (he : starEach (e :: es) C.env = (false, eval e C.env) :: starEach es C.env) (hplain : (backTo pos (starEach es C.env)).any (·.1) = false) :
    Pe C ρ ω (.Call (.Attribute o name apos) (e :: es) [] pos) K := .mk fun {Zo} s hs => by
  refine wpAny_Call_method_lateS hbase hfew hline (wpAny_mono (h.run s hs) (fun ov s₁ x => ?_) fun _ _ e => e)
  obtain ⟨k1, d, i1, x, rfl, h1⟩ := x
  cases i1
  refine ⟨"str", id, F.plainAttrs_str, slot, ty, typeIs_str _ _ _, (fun _ e => nomatch e), ?_⟩
  refine callWith_method1 (first := [.str (mkS x) _]) (wpAny_mono (h1.run s₁ pos (hs.keeps k1)) (fun vs s₂ ⟨k2, ds, i2, h2⟩ => ?_) fun _ _ e => e) he hplain
  have hs2 := (hs.keeps k1).keeps k2
  exact wpAny_mono (h2.run s₂ _ hs2.und (.cons .str i2)) (fun r s₃ ⟨k3, d, i3, h3⟩ => ⟨(k1.trans k2).trans k3, d, i3, h3⟩) fun _ _ e => e
theorem pe_meth0 {o : Expr} {name : Str} {id : String} {apos pos : Pos} (slot : Slot "str" name id) (ty : typeOf (.builtin id) = pure (.type "method_descriptor"))
    (h : Pe C ρ ω o (fun d => ∃ x, d = .str x ∧ DoC C (.builtin id) [.str x] K))
    (hbase : attributeBase o name C.env (eval o C.env) = eval o C.env) (hline : (apos.endLine == pos.line) = true) :
    Pe C ρ ω (.Call (.Attribute o name apos) [] [] pos) K := .mk fun {Zo} s hs => by
  refine wpAny_Call_method_lateS hbase rfl hline (wpAny_mono (h.run s hs) (fun ov s₁ x => ?_) fun _ _ e => e)
  obtain ⟨k1, d, i1, x, rfl, h1⟩ := x
  cases i1
  refine ⟨"str", id, F.plainAttrs_str, slot, ty, typeIs_str _ _ _, (fun _ e => nomatch e), ?_⟩
  refine callWith_method0 ?_
  exact wpAny_mono (h1.run s₁ _ (hs.keeps k1).und (.cons .str .nil)) (fun r s₃ ⟨k3, d, i3, h3⟩ => ⟨k1.trans k3, d, i3, h3⟩) fun _ _ e => e

/-- displays -/
theorem IsAll.fresh {Z : Addr → Prop} {h : Heap} {vs : List Value} {ds : List D} {o : Obj} (x : IsAll Z h vs ds) : IsAll Z (h.push o) vs ds := x.keeps fun b o e => Heap.get?_push_of_some _ e
end
end Mine

namespace Mine

/-- Python's index into a list -/
def idx {α : Type} (xs : List α) (k : Int) : Option α := (seqIndex? k xs.length).bind (xs[·]?)
/-- Python's slice by ones -/
def sl {α : Type} (xs : List α) (lo hi : Option Int) : List α :=
  (xs.drop (lo.elim 0 (clipAt xs.length))).take (hi.elim xs.length (clipAt xs.length) - lo.elim 0 (clipAt xs.length))

def lim : Nat := 2 ^ 24
theorem lim_le {n : Nat} (h : n ≤ lim) : n ≤ sizeLine := by rw [sizeLine_eq]; simpa [lim] using h

def getO : Own → Addr → Option (List D)
  | [], _ => none
  | (b, ds) :: r, a => if a = b then some ds else getO r a
theorem getO_mem {ω : Own} {a : Addr} {ds : List D} (h : getO ω a = some ds) : (a, ds) ∈ ω := by
  induction ω with
  | nil => cases h
  | cons p r ih =>
    obtain ⟨b, es⟩ := p
    simp only [getO] at h
    split at h
    · rename_i e; cases h; subst e; exact .head _
    · exact .tail _ (ih h)

def SubK (ω : Own) (o i : D) (K : D → Prop) : Prop := match o, i with
  | .str x, .int k => ∃ c, idx x k = some c ∧ x.length ≤ lim ∧ K (.str [c])
  | .list ds, .int k => ∃ d, idx ds k = some d ∧ ds.length ≤ lim ∧ K d
  | .tup ds, .int k => ∃ d, idx ds k = some d ∧ ds.length ≤ lim ∧ K d
  | .val (.ref a), .int k => ∃ ds d, getO ω a = some ds ∧ idx ds k = some d ∧ ds.length ≤ lim ∧ K d
  | _, _ => False

theorem idx_bounds {α : Type} {xs : List α} {k : Int} {c : α} (h : idx xs k = some c) : -(xs.length : Int) ≤ k ∧ k < xs.length := by
  unfold idx seqIndex? at h
  obtain ⟨j, hj, hx⟩ := Option.bind_eq_some_iff.mp h
  simp only [] at hj
  split at hj
  · split at hj
    · rename_i q; simp only [Bool.and_eq_true, decide_eq_true_eq] at q; omega
    · cases hj
  · split at hj
    · rename_i q; simp only [Bool.and_eq_true, decide_eq_true_eq] at q; omega
    · cases hj

section
variable {C : Cx} {Zo : Addr → Prop} {ρ : Loc} {ω : Own} {l : Nat} {K : D → Prop}

theorem getItem_seq {s : Shared} {a : Addr} {vs : List Value} {ds : List D} {k : Int} {t : Tok} {d : D} {Z : Addr → Prop} (hl : s.heap.IsList a vs.toArray) (hi : IsAll Z s.heap vs ds) (hk : idx ds k = some d) (hlen : ds.length ≤ lim) (h : K d) :
    wpAny C.M C.A (getItem (.ref a) (.int k t)) (Gv Z s K) NoE s := by
  have hb := idx_bounds hk
  have hlen' := hi.length
  simp only [lim] at hlen
  unfold idx seqIndex? at hk
  obtain ⟨j, hj, hx⟩ := Option.bind_eq_some_iff.mp hk
  obtain ⟨v, hv, iv⟩ := hi.get hx
  simp only [] at hj
  by_cases h0 : k < 0
  · rw [if_pos h0] at hj
    split at hj
    · cases hj
      exact wpAny_getItem_list_neg hl h0 (by simp; omega) (by omega) (by simpa [hlen'] using hv) ⟨Kp.refl _, d, iv, h⟩
    · cases hj
  · rw [if_neg h0] at hj
    split at hj
    · cases hj
      exact wpAny_getItem_list hl (by omega) (by omega) (by simpa using hv) ⟨Kp.refl _, d, iv, h⟩
    · cases hj

theorem sub_doc {s : Shared} {o i : Value} {do' di : D} {value slice : Expr} (hs : Sta C Zo ρ ω s) (io : Is (C.Z Zo ω) s.heap o do') (ii : Is (C.Z Zo ω) s.heap i di) (h : SubK ω do' di K)
    (hsl : ∀ o i, subscripted slice false o i = operate [o, i] (getItem o i)) : wpAny C.M C.A (subscriptTail value slice o i) (Gv (C.Z Zo ω) s K) NoE s := by
  cases ii with
  | int =>
    cases io with
    | str =>
      rename_i ki ti xi tx
      obtain ⟨c, hc, hlen, hK⟩ := h
      have hb := idx_bounds hc
      simp only [lim] at hlen
      refine tail_any (typeIs_str _ _ _) F.slot_str_getitem.lookup (SB.getItem (fitsSsize_of (N := 9223372036854775808) (by omega) (by omega) (Int.le_refl _)) (charAt_isSome (by simpa [Str.length] using hb.1) (by simpa [Str.length] using hb.2)) ?_) (hsl _ _)
      refine ⟨Kp.tok _ _, _, ?_, hK⟩
      have : Txt.item (mkS xi) ki = mkS [c] := by
        unfold Txt.item Txt.charAt
        unfold idx at hc
        simp only [mkS, Str.length, List.size_toArray, List.getElem?_toArray] at hc ⊢
        rw [hc]; rfl
      rw [this]; exact .str
    | list hz hl hi =>
      obtain ⟨d, hk, hlen, hK⟩ := h
      exact tail_any hl.typeIs slot_list_getitem.lookup (getItem_seq hl hi hk hlen hK) (hsl _ _)
    | tup hz hl hi =>
      obtain ⟨d, hk, hlen, hK⟩ := h
      have hb := idx_bounds hk
      have hlen' := hi.length
      simp only [lim] at hlen
      unfold idx at hk
      obtain ⟨j, hj, hx⟩ := Option.bind_eq_some_iff.mp hk
      obtain ⟨v, hv, iv⟩ := hi.get hx
      obtain ⟨ob, hob, hcls, n, hdat⟩ := id hl
      exact tail_any (T := "tuple") ⟨ob, hob, hcls⟩ slot_tuple_getitem.lookup (PyProof.Rows.getItem_tuple (items := _) ⟨ob, hob, hcls, n, hdat⟩ (by omega) (by omega) (by simpa [hlen'] using hj) (by simpa using hv) ⟨Kp.refl _, d, iv, hK⟩) (hsl _ _)
    | val =>
      rename_i k t
      cases o with
      | ref a =>
        obtain ⟨ds, d, hg, hk, hlen, hK⟩ := h
        obtain ⟨vs, hl, hi⟩ := hs.own _ (getO_mem hg)
        exact tail_any hl.typeIs slot_list_getitem.lookup (getItem_seq hl hi hk hlen hK) (hsl _ _)
      | _ => exact h.elim
    | _ => exact h.elim
  | _ => cases do' <;> first | exact h.elim | (rename_i v; cases v <;> exact h.elim)

theorem pe_sub {value slice : Expr} {p : Pos} (h : Pe C ρ ω value (fun o => Pe C ρ ω slice (fun i => SubK ω o i K)))
    (hsl : ∀ o i, subscripted slice false o i = operate [o, i] (getItem o i)) : Pe C ρ ω (.Subscript value slice p) K := .mk fun {Zo} s hs => by
  refine Subscript_ (wpAny_mono (h.run s hs) (fun o s₁ ⟨k1, x, i1, h1⟩ => wpAny_mono (h1.run s₁ (hs.keeps k1)) (fun i s₂ ⟨k2, y, i2, h2⟩ => ?_) fun _ _ e => e) fun _ _ e => e)
  exact wpAny_mono (sub_doc (hs.keeps (k1.trans k2)) (i1.keeps k2.get) i2 h2 hsl) (fun r s₃ ⟨k3, z, i3, h3⟩ => ⟨(k1.trans k2).trans k3, z, i3, h3⟩) fun _ _ e => e

/-- displays -/
theorem pe_list {es : List Expr} {p : Pos} (h : Pl C ρ ω es (fun ds => ds.length ≤ lim ∧ K (.list ds))) : Pe C ρ ω (.List es p) K := .mk fun {Zo} s hs =>
  wpAny_List (wpAny_mono (h.run s p hs) (fun vs s₁ ⟨k1, ds, i1, hlen, h1⟩ => ⟨lim_le (by rw [i1.length]; exact hlen), k1.trans (Kp.push _ _), .list ds,
    .list ((hs.keeps k1).live.new) ⟨_, Heap.get?_push_size _ rfl, rfl, 0, rfl⟩ (i1.keeps fun b o e => Heap.get?_push_of_some _ e), h1⟩) fun _ _ e => e)
theorem pe_tup {es : List Expr} {k : Nat} {p : Pos} (h : Pl C ρ ω es (fun ds => ds.length ≤ lim ∧ K (.tup ds))) : Pe C ρ ω (.Tuple es k p) K := .mk fun {Zo} s hs =>
  wpAny_Tuple (wpAny_mono (h.run s p hs) (fun vs s₁ ⟨k1, ds, i1, hlen, h1⟩ => ⟨lim_le (by rw [i1.length]; exact hlen), k1.trans (Kp.push _ _), .tup ds,
    .tup ((hs.keeps k1).live.new) ⟨_, Heap.get?_push_size _ rfl, rfl, 0, rfl⟩ (i1.keeps fun b o e => Heap.get?_push_of_some _ e), h1⟩) fun _ _ e => e)

/-- a slice's bound -/
structure Po (C : Cx) (ρ : Loc) (ω : Own) (e : Option Expr) (K : Option Int → Prop) : Prop where
  run : ∀ {Zo : Addr → Prop} s, Sta C Zo ρ ω s → wpAny C.M C.A (evalPart e C.env) (fun v s' => Kp s s' ∧ ∃ i, IsPart v i ∧ K i) NoE s
theorem po_none {K : Option Int → Prop} (h : K none) : Po C ρ ω none K := .mk fun s _ => wpAny_evalPart_none ⟨Kp.refl _, none, .none, h⟩
theorem po_some {e : Expr} {K : Option Int → Prop} (h : Pe C ρ ω e (fun d => ∃ i, d = .int i ∧ K (some i))) : Po C ρ ω (some e) K := .mk fun {Zo} s hs =>
  wpAny_evalPart_some (wpAny_mono (h.run s hs) (fun v s₁ ⟨k1, d, i1, i, e, h1⟩ => ⟨k1, some i, by subst e; cases i1; exact .int _ _, h1⟩) fun _ _ e => e)

def SliceK (ω : Own) (o : D) (lo hi : Option Int) (K : D → Prop) : Prop := match o with
  | .str x => x.length ≤ lim ∧ K (.str (sl x lo hi))
  | .list ds => ds.length ≤ lim ∧ K (.list (sl ds lo hi))
  | .val (.ref a) => ∃ ds, getO ω a = some ds ∧ ds.length ≤ lim ∧ K (.list (sl ds lo hi))
  | _ => False

theorem strSlice_sl (x : List Nat) (lo hi : Option Int) : (Builtin.Str.strSliceIndices lo hi 1 x.length).filterMap (x[·]?) = sl x lo hi := by
  have e : Builtin.Str.strSliceIndices lo hi 1 x.length = sliceRange ((lo.elim 0 (clipAt x.length) : Nat) : Int) ((hi.elim x.length (clipAt x.length) : Nat) : Int) 1 := by
    cases lo <;> cases hi <;> simp [Builtin.Str.strSliceIndices, clipAt_cast]
  rw [e, sliceRange_one]
  have := pick_run x.toArray (lo.elim 0 (clipAt x.length)) (hi.elim x.length (clipAt x.length) - lo.elim 0 (clipAt x.length))
  simpa [sl] using this
theorem sl_length {α : Type} (xs : List α) (lo hi : Option Int) : (sl xs lo hi).length ≤ xs.length := by
  unfold sl; simp only [List.length_take, List.length_drop]; omega
theorem sl_same {α : Type} {xs : List α} {lo hi : Option Int} (h : (sl xs lo hi).length = xs.length) : sl xs lo hi = xs := by
  unfold sl at h ⊢
  simp only [List.length_take, List.length_drop] at h
  rcases Nat.eq_zero_or_pos xs.length with h0 | h0
  · have : xs = [] := List.length_eq_zero_iff.mp h0
    subst this; simp
  · have h1 : lo.elim 0 (clipAt xs.length) = 0 := by omega
    rw [h1] at h ⊢
    simp only [List.drop_zero, Nat.sub_zero] at h ⊢
    exact List.take_of_length_le (by omega)
theorem IsAll.sl {Z : Addr → Prop} {h : Heap} {vs : List Value} {ds : List D} (x : IsAll Z h vs ds) (lo hi : Option Int) : IsAll Z h (sl vs lo hi) (sl ds lo hi) := by
  have hd : ∀ (n : Nat) {vs : List Value} {ds : List D}, IsAll Z h vs ds → IsAll Z h (vs.drop n) (ds.drop n) := by
    intro n
    induction n with
    | zero => intro vs ds x; exact x
    | succ n ih => intro vs ds x; cases x with
      | nil => exact .nil
      | cons a b => exact ih b
  have ht : ∀ (n : Nat) {vs : List Value} {ds : List D}, IsAll Z h vs ds → IsAll Z h (vs.take n) (ds.take n) := by
    intro n
    induction n with
    | zero => intro vs ds x; exact .nil
    | succ n ih => intro vs ds x; cases x with
      | nil => exact .nil
      | cons a b => exact .cons a (ih b)
  unfold Mine.sl
  rw [x.length]
  exact ht _ (hd _ x)

theorem listSlice {s : Shared} {a sla : Addr} {vs : List Value} {ds : List D} {vl vu : Value} {lo hi : Option Int} {Z : Addr → Prop} (hl : s.heap.IsList a vs.toArray) (hi' : IsAll Z s.heap vs ds) (live : Live Z s.heap)
    (hs : s.heap.IsSliceOf sla vl vu .none) (pl : IsPart vl lo) (pu : IsPart vu hi) (hlen : ds.length ≤ lim) (h : K (.list (sl ds lo hi))) :
    wpAny C.M C.A (getItem (.ref a) (.ref sla)) (Gv Z s K) NoE s := by
  refine wpAny_getItem_list_slice hl hs pl pu .none (by simp) ?_ (by rw [List.size_toArray, hi'.length]; exact lim_le hlen)
  refine ⟨Kp.push _ _, _, .list live.new ⟨_, Heap.get?_push_size _ rfl, rfl, 0, ?_⟩ ((hi'.sl lo hi).keeps fun b o e => Heap.get?_push_of_some _ e), h⟩
  rw [slicePick_plain]; simp [sl]

theorem slice_doc {s : Shared} {o : Value} {sla : Addr} {do' : D} {vl vu : Value} {lo hi : Option Int} (hs : Sta C Zo ρ ω s) (io : Is (C.Z Zo ω) s.heap o do') (hsl : s.heap.IsSliceOf sla vl vu .none) (pl : IsPart vl lo) (pu : IsPart vu hi)
    (h : SliceK ω do' lo hi K) {value : Expr} {lower upper : Option Expr} {p : Pos} : wpAny C.M C.A (subscriptTail value (.Slice lower upper none p) o (.ref sla)) (Gv (C.Z Zo ω) s K) NoE s := by
  cases io with
  | str =>
    rename_i x t
    obtain ⟨hlen, hK⟩ := h
    refine tail_any (typeIs_str _ _ _) F.slot_str_getitem.lookup ?_ rfl
    obtain ⟨ob, hob, hc, hd⟩ := hsl
    have gen : ∀ (l u : Option (Int × Tok)), vl = partValue l → vu = partValue u → l.map (·.1) = lo → u.map (·.1) = hi → wpAny C.M C.A (getItem (.str (mkS x) t) (.ref sla)) (Gv (C.Z Zo ω) s K) NoE s := by
      intro l u e1 e2 e3 e4
      refine wpAny_getItem_str_slice (l := l) (u := u) (st := none) ⟨ob, hob, hc, by rw [hd, e1, e2]; rfl⟩ rfl ?_
      unfold sliceMade slicePicked
      rw [e3, e4]
      have hx : (mkS x).length = x.length := by simp [Str.length]
      have hf : (Builtin.Str.strSliceIndices lo hi ((Option.map (·.1) (none : Option (Int × Tok))).getD 1) (mkS x).length).filterMap ((mkS x).cps[·]?) = sl x lo hi := by
        rw [hx]; simpa using strSlice_sl x lo hi
      have hin : ∀ j ∈ Builtin.Str.strSliceIndices lo hi 1 x.length, j < x.length := by
        have e : Builtin.Str.strSliceIndices lo hi 1 x.length = sliceRange ((lo.elim 0 (clipAt x.length) : Nat) : Int) ((hi.elim x.length (clipAt x.length) : Nat) : Int) 1 := by
          cases lo <;> cases hi <;> simp [Builtin.Str.strSliceIndices, clipAt_cast]
        rw [e, sliceRange_one]
        intro j hj
        obtain ⟨k, hk, rfl⟩ := List.mem_map.mp hj
        have := List.mem_range.mp hk
        have hcl : ∀ i, clipAt x.length i ≤ x.length := fun i => by have := clipAt_cast x.length i; omega
        have h1 : hi.elim x.length (clipAt x.length) ≤ x.length := by cases hi <;> simp [hcl]
        omega
      have hlenEq : (Builtin.Str.strSliceIndices lo hi 1 x.length).length = (sl x lo hi).length := by
        rw [← strSlice_sl]
        have : ∀ (js : List Nat), (∀ j ∈ js, j < x.length) → js.length = (js.filterMap (x[·]?)).length := by
          intro js
          induction js with
          | nil => intro _; rfl
          | cons j js ih => intro h; rw [List.filterMap_cons, List.getElem?_eq_getElem (h j (.head _))]; simp [ih fun k hk => h k (.tail _ hk)]
        exact this _ hin
      split
      · rename_i hc
        refine ⟨Kp.refl _, .str (sl x lo hi), ?_, hK⟩
        simp only [Option.map_none, Option.getD_none, beq_self_eq_true, Bool.true_and, beq_iff_eq] at hc
        rw [hx, hlenEq] at hc
        rw [sl_same hc]; exact .str
      · rw [hf]
        refine ⟨?_, Kp.tok _ _, .str (sl x lo hi), .str, hK⟩
        have := sl_length x lo hi
        simp only [Str.length, List.size_toArray]
        exact lim_le (by omega)
    cases pl with
    | none => cases pu with
      | none => exact gen none none rfl rfl rfl rfl
      | int i t => exact gen none (some (i, t)) rfl rfl rfl rfl
    | int i t => cases pu with
      | none => exact gen (some (i, t)) none rfl rfl rfl rfl
      | int j u => exact gen (some (i, t)) (some (j, u)) rfl rfl rfl rfl
  | list hz hl hi' => exact tail_any hl.typeIs slot_list_getitem.lookup (listSlice hl hi' hs.live hsl pl pu h.1 h.2) rfl
  | val =>
    cases o with
    | ref a =>
      obtain ⟨ds, hg, hlen, hK⟩ := h
      obtain ⟨vs, hl, hi'⟩ := hs.own _ (getO_mem hg)
      exact tail_any hl.typeIs slot_list_getitem.lookup (listSlice hl hi' hs.live hsl pl pu hlen hK) rfl
    | _ => exact h.elim
  | _ => exact h.elim

theorem pe_slice {value : Expr} {lower upper : Option Expr} {p q : Pos} (h : Pe C ρ ω value (fun o => Po C ρ ω lower (fun lo => Po C ρ ω upper (fun hi => SliceK ω o lo hi K)))) :
    Pe C ρ ω (.Subscript value (.Slice lower upper none q) p) K := .mk fun {Zo} s hs => by
  refine Subscript_ (wpAny_mono (h.run s hs) (fun o s₁ ⟨k1, x, i1, h1⟩ => wpAny_Slice (wpAny_mono (h1.run s₁ (hs.keeps k1)) (fun vl s₂ ⟨k2, lo, pl, h2⟩ => wpAny_mono (h2.run s₂ (hs.keeps (k1.trans k2))) (fun vu s₃ ⟨k3, hi, pu, h3⟩ => wpAny_evalPart_none ?_) fun _ _ e => e) fun _ _ e => e)) fun _ _ e => e)
  have k4 := Kp.push s₃ { cls := .type "slice", data := .fields #[vl, vu, .none] }
  have kk := ((k1.trans k2).trans k3).trans k4
  exact wpAny_mono (slice_doc (hs.keeps kk) (i1.keeps ((k2.trans k3).trans k4).get) ⟨_, Heap.get?_push_size _ rfl, rfl, rfl⟩ pl pu h3) (fun r s₅ ⟨k5, z, i5, h5⟩ => ⟨kk.trans k5, z, i5, h5⟩) fun _ _ e => e
end
end Mine

namespace Mine

structure Step (C : Cx) (ω ω' : Own) (s s' : Shared) : Prop where
  same : ∃ h' tk, s' = { s with heap := h', toks := tk }
  keep : ∀ b o, ¬ C.Mu ω b → s.heap.get? b = some o → s'.heap.get? b = some o
  live : ∀ b o, s.heap.get? b = some o → ∃ o', s'.heap.get? b = some o'
  grow : ∀ a, a ∈ ω'.map (·.1) → a ∈ ω.map (·.1) ∨ s.heap.get? a = none

theorem Step.refl (C : Cx) (ω : Own) (s : Shared) : Step C ω ω s s := ⟨⟨_, _, rfl⟩, fun _ _ _ e => e, fun _ o e => ⟨o, e⟩, fun _ h => .inl h⟩
theorem Step.mu {C : Cx} {ω ω' : Own} {s s' : Shared} (x : Step C ω ω' s s') {b : Addr} {o : Obj} (hb : ¬ C.Mu ω b) (e : s.heap.get? b = some o) : ¬ C.Mu ω' b := by
  rintro (h | h | h)
  · exact hb (.inl h)
  · exact hb (.inr (.inl h))
  · rcases x.grow b h with h | h
    · exact hb (.inr (.inr h))
    · rw [h] at e; cases e
theorem Step.trans {C : Cx} {ω ω' ω'' : Own} {s s' s'' : Shared} (x : Step C ω ω' s s') (y : Step C ω' ω'' s' s'') : Step C ω ω'' s s'' := by
  refine ⟨?_, fun b o hb e => y.keep b o (x.mu hb e) (x.keep b o hb e), fun b o e => let ⟨o', e'⟩ := x.live b o e; y.live b o' e', fun a ha => ?_⟩
  · obtain ⟨h1, t1, rfl⟩ := x.same
    obtain ⟨h2, t2, rfl⟩ := y.same
    exact ⟨h2, t2, rfl⟩
  · rcases y.grow a ha with h | h
    · exact x.grow a h
    · cases e : s.heap.get? a with
      | none => exact .inr rfl
      | some o =>
        obtain ⟨o', e'⟩ := x.live a o e
        rw [h] at e'; cases e'
theorem Kp.step {C : Cx} {ω : Own} {s s' : Shared} (x : Kp s s') : Step C ω ω s s' := by
  have hg := x.get
  obtain ⟨h', tk, rfl, k⟩ := x
  exact ⟨⟨h', tk, rfl⟩, fun b o _ e => hg b o e, fun b o e => ⟨o, hg b o e⟩, fun _ h => .inl h⟩

inductive Fl where
  | next | brk | cont
  | ret (d : D)
def FlIs (Z : Addr → Prop) (h : Heap) : Flow → Fl → Prop
  | .next, .next => True
  | .brk, .brk => True
  | .cont, .cont => True
  | .ret v, .ret d => Is Z h v d
  | _, _ => False

def Out (C : Cx) (Zo : Addr → Prop) (ω : Own) (s : Shared) (K : Fl → Loc → Own → Prop) (f : Flow) (s' : Shared) : Prop :=
  ∃ fl ρ' ω', FlIs (C.Z Zo ω') s'.heap f fl ∧ Sta C Zo ρ' ω' s' ∧ Step C ω ω' s s' ∧ K fl ρ' ω'
structure Ex (C : Cx) (ρ : Loc) (ω : Own) (st : Stmt) (K : Fl → Loc → Own → Prop) : Prop where
  run : ∀ {Zo : Addr → Prop} s, Sta C Zo ρ ω s → wpAny C.M C.A (exec st C.env) (Out C Zo ω s K) NoE s
structure Exs (C : Cx) (ρ : Loc) (ω : Own) (sts : List Stmt) (K : Fl → Loc → Own → Prop) : Prop where
  run : ∀ {Zo : Addr → Prop} s, Sta C Zo ρ ω s → wpAny C.M C.A (execs sts C.env) (Out C Zo ω s K) NoE s

theorem Out.mono {C : Cx} {Zo : Addr → Prop} {ω : Own} {s : Shared} {K K' : Fl → Loc → Own → Prop} {f : Flow} {s' : Shared} (x : Out C Zo ω s K f s') (h : ∀ fl ρ ω, K fl ρ ω → K' fl ρ ω) : Out C Zo ω s K' f s' :=
  let ⟨fl, ρ', ω', a, b, c, d⟩ := x; ⟨fl, ρ', ω', a, b, c, h _ _ _ d⟩
theorem Exs.mono {C : Cx} {ρ : Loc} {ω : Own} {sts : List Stmt} {K K' : Fl → Loc → Own → Prop} (x : Exs C ρ ω sts K) (h : ∀ fl ρ ω, K fl ρ ω → K' fl ρ ω) : Exs C ρ ω sts K' := .mk <|
  fun s hs => wpAny_mono (x.run s hs) (fun _ _ o => o.mono h) fun _ _ e => e
theorem Ex.mono {C : Cx} {ρ : Loc} {ω : Own} {st : Stmt} {K K' : Fl → Loc → Own → Prop} (x : Ex C ρ ω st K) (h : ∀ fl ρ ω, K fl ρ ω → K' fl ρ ω) : Ex C ρ ω st K' := .mk <|
  fun s hs => wpAny_mono (x.run s hs) (fun _ _ o => o.mono h) fun _ _ e => e
theorem Out.after {C : Cx} {Zo : Addr → Prop} {ω ω₁ : Own} {s s₁ : Shared} {K : Fl → Loc → Own → Prop} {f : Flow} {s' : Shared} (st : Step C ω ω₁ s s₁) (x : Out C Zo ω₁ s₁ K f s') : Out C Zo ω s K f s' :=
  let ⟨fl, ρ', ω', a, b, c, d⟩ := x; ⟨fl, ρ', ω', a, b, st.trans c, d⟩

section
variable {C : Cx} {Zo : Addr → Prop} {ρ : Loc} {ω : Own} {l : Nat} {K : Fl → Loc → Own → Prop}

theorem exs_nil (h : K .next ρ ω) : Exs C ρ ω [] K := .mk fun s hs => wpAny_execs_nil ⟨.next, ρ, ω, trivial, hs, Step.refl _ _ _, h⟩
theorem exs_cons {st : Stmt} {rest : List Stmt} (h : Ex C ρ ω st (fun fl ρ' ω' => match fl with | .next => Exs C ρ' ω' rest K | fl => K fl ρ' ω')) : Exs C ρ ω (st :: rest) K := .mk fun s hs => by
  refine wpAny_execs_cons (wpAny_mono (h.run s hs) (fun f s' x => ?_) fun _ _ e => e)
  obtain ⟨fl, ρ', ω', hf, hs', hst, hk⟩ := x
  cases fl with
  | next => cases f with
    | next => exact wpAny_mono (hk.run s' hs') (fun _ _ o => o.after hst) fun _ _ e => e
    | _ => exact hf.elim
  | brk => cases f with
    | brk => exact ⟨.brk, ρ', ω', hf, hs', hst, hk⟩
    | _ => exact hf.elim
  | cont => cases f with
    | cont => exact ⟨.cont, ρ', ω', hf, hs', hst, hk⟩
    | _ => exact hf.elim
  | ret d => cases f with
    | ret v => exact ⟨.ret d, ρ', ω', hf, hs', hst, hk⟩
    | _ => exact hf.elim

theorem mu_locals : C.Z Zo ω C.env.locals := .inr (.inl rfl)
theorem mu_cell {x : Str} {c : Addr} (h : C.env.cells.lookup x = some c) : C.Z Zo ω c := .inr (.inr (.inl ⟨x, h⟩))
theorem mu_own {a : Addr} (h : a ∈ ω.map (·.1)) : C.Z Zo ω a := .inr (.inr (.inr h))

theorem own_not_cell {s : Shared} (hs : Sta C Zo ρ ω s) {p : Addr × List D} (hp : p ∈ ω) {x : Str} {c : Addr} (hc : C.env.cells.lookup x = some c) : p.1 ≠ c := by
  obtain ⟨vs, ⟨o, ho, _, n, hd⟩, _⟩ := hs.own p hp
  obtain ⟨v, o', ho', hd'⟩ := hs.cells x c hc
  intro e
  rw [e, ho'] at ho
  cases ho
  rw [hd'] at hd; cases hd
theorem own_not_loc {s : Shared} (hs : Sta C Zo ρ ω s) {p : Addr × List D} (hp : p ∈ ω) : p.1 ≠ C.env.locals := by
  obtain ⟨vs, ⟨o, ho, _, n, hd⟩, _⟩ := hs.own p hp
  obtain ⟨m, ⟨o', es, ep, ho', hd', _⟩, _⟩ := hs.ns
  intro e
  rw [e, ho'] at ho
  cases ho
  rw [hd'] at hd; cases hd
theorem cell_not_loc {s : Shared} (hs : Sta C Zo ρ ω s) {x : Str} {c : Addr} (hc : C.env.cells.lookup x = some c) : c ≠ C.env.locals := by
  obtain ⟨v, o, ho, hd⟩ := hs.cells x c hc
  obtain ⟨m, ⟨o', es, ep, ho', hd', _⟩, _⟩ := hs.ns
  intro e
  rw [e, ho'] at ho
  cases ho
  rw [hd'] at hd; cases hd

theorem store_doc {x : Str} {v : Value} {d : D} {s : Shared} (ok : C.Ok l) (hs : Sta C Zo ρ ω s) (iv : Is (C.Z Zo ω) s.heap v d) (hk : C.env.kindOf x = some .local ∨ (C.env.kindOf x = some .cell ∧ (C.env.cells.lookup x).isSome = true)) :
    wpAny C.M C.A (storeName C.env x v) (fun _ s' => Sta C Zo (put ρ x d) ω s' ∧ Step C ω ω s s') NoE s := by
  rcases hk with hk | ⟨hk, hc⟩
  · obtain ⟨m, hn, hm⟩ := hs.ns
    refine wpAny_storeName_local hk hn (fun h' hn' hs' => ?_) (by rw [ok.kind]; rfl)
    have mv : ∀ b o, ¬ C.Z Zo ω b → s.heap.get? b = some o → ¬ C.Z Zo ω b ∧ h'.get? b = some o := fun b o hz e => ⟨hz, (hs'.2 b fun q => hz (q ▸ mu_locals)).trans e⟩
    refine ⟨⟨fun b o e => ?_, hs.new, ⟨_, hn', fun y dy hy hl => ?_⟩, fun y dy hy hl => ?_, fun y c hy => ?_, hs.inj, fun p hp => ?_, hs.nodup, fun a ha => ?_⟩, ⟨⟨h', _, rfl⟩, fun b o hb e => ?_, fun b o e => ?_, fun _ h => .inl h⟩⟩
    · refine (hs'.2 b fun q => ?_).trans (hs.base b o e)
      have := hs.new b (q ▸ mu_locals); rw [this] at e; cases e
    · rw [get_put] at hy
      by_cases hyx : y = x
      · rw [if_pos hyx] at hy; cases hy; exact ⟨v, by simp [hyx], iv.move mv⟩
      · rw [if_neg hyx] at hy
        obtain ⟨u, h1, h2⟩ := hm y dy hy hl
        exact ⟨u, by simp [hyx, h1], h2.move mv⟩
    · have hyx : y ≠ x := by rintro rfl; rw [hk] at hl; rcases hl with h | h <;> cases h
      rw [get_put, if_neg hyx] at hy
      obtain ⟨c, u, h1, ⟨o, h2, h2'⟩, h3⟩ := hs.cell y dy hy hl
      exact ⟨c, u, h1, ⟨o, (hs'.2 c (cell_not_loc hs h1)).trans h2, h2'⟩, h3.move mv⟩
    · obtain ⟨u, o, h2, h2'⟩ := hs.cells y c hy
      exact ⟨u, o, (hs'.2 c (cell_not_loc hs hy)).trans h2, h2'⟩
    · obtain ⟨vs, h1, h2⟩ := hs.own p hp
      exact ⟨vs, h1.at fun o e => (hs'.2 _ (own_not_loc hs hp)).trans e, h2.move mv⟩
    · obtain ⟨o, ho⟩ := hs.zo a ha
      by_cases q : a = C.env.locals
      · obtain ⟨o', _, _, ho', _⟩ := hn'; exact ⟨o', q ▸ ho'⟩
      · exact ⟨o, (hs'.2 a q).trans ho⟩
    · exact (hs'.2 b fun q => hb (.inl q)).trans e
    · by_cases q : b = C.env.locals
      · obtain ⟨o', _, _, ho', _⟩ := hn'; exact ⟨o', q ▸ ho'⟩
      · exact ⟨o, (hs'.2 b q).trans e⟩
  · obtain ⟨c, hc⟩ := Option.isSome_iff_exists.mp hc
    obtain ⟨v₀, hv₀⟩ := hs.cells x c hc
    refine wpAny_storeName_cell ok.kind hk hc hv₀ fun h' hc' hs' => ?_
    have mv : ∀ b o, ¬ C.Z Zo ω b → s.heap.get? b = some o → ¬ C.Z Zo ω b ∧ h'.get? b = some o := fun b o hz e => ⟨hz, (hs'.2 b fun q => hz (q ▸ mu_cell hc)).trans e⟩
    refine ⟨⟨fun b o e => ?_, hs.new, ?_, fun y dy hy hl => ?_, fun y c' hy => ?_, hs.inj, fun p hp => ?_, hs.nodup, fun a ha => ?_⟩, ⟨⟨h', _, rfl⟩, fun b o hb e => ?_, fun b o e => ?_, fun _ h => .inl h⟩⟩
    · refine (hs'.2 b fun q => ?_).trans (hs.base b o e)
      have := hs.new b (q ▸ mu_cell hc); rw [this] at e; cases e
    · obtain ⟨m, hn, hm⟩ := hs.ns
      refine ⟨m, hn.sameBut hs' (Ne.symm (cell_not_loc hs hc)), fun y dy hy hl => ?_⟩
      have hyx : y ≠ x := by rintro rfl; rw [hk] at hl; cases hl
      rw [get_put, if_neg hyx] at hy
      obtain ⟨u, h1, h2⟩ := hm y dy hy hl
      exact ⟨u, h1, h2.move mv⟩
    · rw [get_put] at hy
      by_cases hyx : y = x
      · rw [if_pos hyx] at hy; cases hy; subst hyx; exact ⟨c, v, hc, hc', iv.move mv⟩
      · rw [if_neg hyx] at hy
        obtain ⟨c', u, h1, h2, h3⟩ := hs.cell y dy hy hl
        have hne : c' ≠ c := by rintro rfl; exact hyx (hs.inj _ _ _ h1 hc)
        exact ⟨c', u, h1, h2.sameBut hs' hne, h3.move mv⟩
    · by_cases q : c' = c
      · subst q; exact ⟨_, hc'⟩
      · obtain ⟨u, h2⟩ := hs.cells y c' hy
        exact ⟨u, h2.sameBut hs' q⟩
    · obtain ⟨vs, h1, h2⟩ := hs.own p hp
      exact ⟨vs, h1.at fun o e => (hs'.2 _ (own_not_cell hs hp hc)).trans e, h2.move mv⟩
    · obtain ⟨o, ho⟩ := hs.zo a ha
      by_cases q : a = c
      · obtain ⟨o', ho', _⟩ := hc'; exact ⟨o', q ▸ ho'⟩
      · exact ⟨o, (hs'.2 a q).trans ho⟩
    · exact (hs'.2 b fun q => hb (.inr (.inl ⟨x, q ▸ hc⟩))).trans e
    · by_cases q : b = c
      · obtain ⟨o', ho', _⟩ := hc'; exact ⟨o', q ▸ ho'⟩
      · exact ⟨o, (hs'.2 b q).trans e⟩

abbrev Stor (C : Cx) (x : Str) : Prop := C.env.kindOf x = some .local ∨ (C.env.kindOf x = some .cell ∧ (C.env.cells.lookup x).isSome = true)

theorem ex_assign {x : Str} {px pos : Pos} {value : Expr} (ok : C.Ok l) (hk : Stor C x) (h : Pe C ρ ω value (fun d => K .next (put ρ x d) ω))
    (hsw : swapsWith value (some (.Name x px)) pos.line C.env = pure false) : Ex C ρ ω (.Assign [.Name x px] value pos) K := .mk fun s hs =>
  wpAny_Assign_Name (wpAny_mono (h.run s hs) (fun v s₁ ⟨k1, d, i1, h1⟩ => wpAny_mono (store_doc ok (hs.keeps k1) i1 hk) (fun _ s₂ ⟨hs2, st⟩ =>
    ⟨.next, _, _, trivial, hs2, (k1.step).trans st, h1⟩) fun _ _ e => e) fun _ _ e => e) hsw

theorem load_doc {x : Str} {d : D} {s : Shared} (ok : C.Ok l) (hs : Sta C Zo ρ ω s) (hx : get ρ x = some d) (hk : Stor C x) {Q : Value → Shared → Prop} {E : Value → Shared → Prop} (h : ∀ v, Is (C.Z Zo ω) s.heap v d → Q v s) :
    wpAny C.M C.A (loadName C.env x) Q E s := by
  rcases hk with hk | ⟨hk, _⟩
  · obtain ⟨m, hn, hm⟩ := hs.ns
    obtain ⟨v, h1, h2⟩ := hm x d hx hk
    exact wpAny_loadName_local ok.kind hk hn h1 (h v h2)
  · obtain ⟨c, v, h1, h2, h3⟩ := hs.cell x d hx (.inl hk)
    exact wpAny_loadName_cell ok.kind hk h1 h2 (h v h3)

theorem ex_aug {x : Str} {px pos : Pos} {op : Operator} {value : Expr} {a : D} (ok : C.Ok l) (hk : Stor C x) (hx : get ρ x = some a) (h : Pe C ρ ω value (fun b => Do2 C (inplaceOp op) a b (fun d => K .next (put ρ x d) ω))) :
    Ex C ρ ω (.AugAssign (.Name x px) op value pos) K := .mk fun s hs =>
  wpAny_AugAssign_Name (load_doc ok hs hx hk fun v iv => wpAny_mono (h.run s hs) (fun w s₁ ⟨k1, d, i1, h1⟩ => wpAny_mono (h1.run s₁ v w (hs.keeps k1).und (iv.keeps k1.get) i1) (fun r s₂ ⟨k2, d2, i2, h2⟩ =>
    wpAny_mono (store_doc ok (hs.keeps (k1.trans k2)) i2 hk) (fun _ s₃ ⟨hs3, st⟩ => ⟨.next, _, _, trivial, hs3, ((k1.trans k2).step).trans st, h2⟩) fun _ _ e => e) fun _ _ e => e) fun _ _ e => e)

theorem ex_if {t : Expr} {a b : List Stmt} {pos : Pos} (h : Pt C ρ ω t (fun c => if c then Exs C ρ ω a K else Exs C ρ ω b K)) : Ex C ρ ω (.If t a b pos) K := .mk fun s hs =>
  wpAny_If (wpAny_mono (h.run s hs) (fun c s₁ ⟨k1, h1⟩ => by
    cases c with
    | true => exact wpAny_mono (h1.run s₁ (hs.keeps k1)) (fun _ _ o => o.after k1.step) fun _ _ e => e
    | false => exact wpAny_mono (h1.run s₁ (hs.keeps k1)) (fun _ _ o => o.after k1.step) fun _ _ e => e) fun _ _ e => e)
theorem ex_ret {e : Expr} {pos : Pos} (h : Pe C ρ ω e (fun d => K (.ret d) ρ ω)) : Ex C ρ ω (.Return (some e) pos) K := .mk fun s hs =>
  wpAny_Return_some (wpAny_mono (h.run s hs) (fun v s₁ ⟨k1, d, i1, h1⟩ => ⟨.ret d, ρ, ω, i1, hs.keeps k1, k1.step, h1⟩) fun _ _ e => e)
theorem ex_cont {pos : Pos} (h : K .cont ρ ω) : Ex C ρ ω (.Continue pos) K := .mk fun s hs => wpAny_Continue ⟨.cont, ρ, ω, trivial, hs, Step.refl _ _ _, h⟩
theorem ex_brk {pos : Pos} (h : K .brk ρ ω) : Ex C ρ ω (.Break pos) K := .mk fun s hs => wpAny_Break ⟨.brk, ρ, ω, trivial, hs, Step.refl _ _ _, h⟩

theorem passes : PassesOwn C.M C.A C.env NoE := fun _ _ h => h.elim

/-- a while: a word over the state, a measure -/
theorem ex_while {t : Expr} {body : List Stmt} {pos : Pos} (I : Nat → Loc → Own → Prop) (n : Nat) (h0 : I n ρ ω)
    (turn : ∀ n ρ' ω', I n ρ' ω' → Pt C ρ' ω' t (fun b => if b then Exs C ρ' ω' body (fun fl ρ'' ω'' => match fl with
      | .next => ∃ m, m < n ∧ I m ρ'' ω''
      | .cont => ∃ m, m < n ∧ I m ρ'' ω''
      | .brk => K .next ρ'' ω''
      | .ret d => K (.ret d) ρ'' ω'') else K .next ρ' ω')) : Ex C ρ ω (.While t body [] pos) K := .mk fun {Zo} s hs => by
  refine wpAny_While (codeAny_whileLoop (fun n s' => ∃ ρ' ω', Sta C Zo ρ' ω' s' ∧ Step C ω ω' s s' ∧ I n ρ' ω') (fun n s' hI => ?_) n ⟨ρ, ω, hs, Step.refl _ _ _, h0⟩)
  obtain ⟨ρ', ω', hs', st, hI⟩ := hI
  refine wpAny_mono ((turn n ρ' ω' hI).run s' hs') (fun b s₂ ⟨k2, h2⟩ => ?_) fun _ _ e => e.elim
  have st2 := st.trans (k2.step (C := C) (ω := ω'))
  cases b with
  | true =>
    simp only [if_true] at h2 ⊢
    refine wpAny_mono (h2.run s₂ (hs'.keeps k2)) (fun f s₃ o => ?_) fun _ _ e => e.elim
    obtain ⟨fl, ρ3, ω3, hf, hs3, st3, hk⟩ := o
    cases fl with
    | next => cases f with
      | next => obtain ⟨m, hm, hI'⟩ := hk; exact ⟨m, hm, ρ3, ω3, hs3, st2.trans st3, hI'⟩
      | _ => exact hf.elim
    | cont => cases f with
      | cont => obtain ⟨m, hm, hI'⟩ := hk; exact ⟨m, hm, ρ3, ω3, hs3, st2.trans st3, hI'⟩
      | _ => exact hf.elim
    | brk => cases f with
      | brk => exact ⟨.next, ρ3, ω3, trivial, hs3, st2.trans st3, hk⟩
      | _ => exact hf.elim
    | ret d => cases f with
      | ret v => exact ⟨.ret d, ρ3, ω3, hf, hs3, st2.trans st3, hk⟩
      | _ => exact hf.elim
  | false =>
    simp only [Bool.false_eq_true, if_false] at h2 ⊢
    exact wpAny_execs_nil ⟨.next, ρ', ω', trivial, hs'.keeps k2, st2, h2⟩
end
end Mine

namespace Mine

def rngL (a b c : Int) : List D := (List.range (Builtin.Range.rangeSize a b c).toNat).map fun i => .int (a + (i : Nat) * c)

/-- what a datum iterates as (q: a list that is the frame's own too) -/
def IterK (q : Bool) (ω : Own) : D → Option (List D)
  | .list ds => some ds
  | .tup ds => some ds
  | .str x => some (x.map fun c => .str [c])
  | .rng a b c => if Builtin.Range.small a b c = true then some (rngL a b c) else none
  | .val (.ref a) => if q then getO ω a else none
  | _ => none

def ItrAt (q : Bool) (C : Cx) (Z : Addr → Prop) (its : List D) (s s₂ : Shared) (I : Addr) : Prop :=
  ∃ fp P St, Walks C.prog C.w C.A I fp [I] its.length P St ∧ St 0 s₂.heap ∧ (∀ i h, St i h → ∃ o, h.get? I = some o) ∧ (q = false → ∀ b ∈ fp, b ≠ I → ¬ Z b) ∧ (∀ b ∈ fp, b ≠ I → ∃ o, s.heap.get? b = some o) ∧
    ∀ i v, i < its.length → P i v → ∃ d, its[i]? = some d ∧ Is Z s.heap v d

theorem size_none (h : Heap) : h.get? h.objs.size = none := by
  cases e : h.get? h.objs.size with
  | none => rfl
  | some o => exact absurd (Heap.lt_size e) (Nat.lt_irrefl _)

theorem iter_doc (q : Bool) {C : Cx} {l : Nat} {Zo : Addr → Prop} {ρ : Loc} {ω : Own} {s : Shared} {v : Value} {d : D} {its : List D} (ok : C.Ok l) (hs : Sta C Zo ρ ω s) (iv : Is (C.Z Zo ω) s.heap v d) (h : IterK q ω d = some its) :
    wpAny C.M C.A (pyIter v) (fun it s₂ => Kp s s₂ ∧ ∃ I, it = .ref I ∧ s.heap.get? I = none ∧ ItrAt q C (C.Z Zo ω) its s s₂ I) NoE s := by
  have hh := ok.room.hd
  have hlist : ∀ (a : Addr) (vs : List Value) (ds : List D), (q = false → ¬ C.Z Zo ω a) → s.heap.IsList a vs.toArray → IsAll (C.Z Zo ω) s.heap vs ds → wpAny C.M C.A (pyIter (.ref a)) (fun it s₂ => Kp s s₂ ∧ ∃ I, it = .ref I ∧ s.heap.get? I = none ∧ ItrAt q C (C.Z Zo ω) ds s s₂ I) NoE s := by
    intro a vs ds hz hl hi
    refine wpAny_pyIter_list hl ?_
    obtain ⟨ol, hol, _⟩ := id hl
    have hne : a ≠ s.heap.objs.size := Nat.ne_of_lt (Heap.lt_size hol)
    have W := Walks.list (prog := C.prog) (w := C.w) hh s.heap.objs.size a hne vs.toArray
    have hlen : vs.toArray.size = ds.length := by simp [hi.length]
    rw [hlen] at W
    refine ⟨Kp.push _ _, _, rfl, size_none _, _, _, _, W, ⟨⟨_, Heap.get?_push_size _ rfl, rfl, rfl⟩, hl.at fun o e => Heap.get?_push_of_some _ e⟩, ?_, ?_, ?_, ?_⟩
    · rintro i h ⟨⟨o, ho, _⟩, _⟩; exact ⟨o, ho⟩
    · intro hq b hb hbI
      rcases List.mem_cons.mp hb with e | hb
      · exact absurd e hbI
      · rw [List.mem_singleton.mp hb]; exact hz hq
    · intro b hb hbI
      rcases List.mem_cons.mp hb with e | hb
      · exact absurd e hbI
      · rw [List.mem_singleton.mp hb]; exact ⟨ol, hol⟩
    · intro i v hi' hP
      have hP' : vs[i]? = some v := by simpa using hP
      exact hi.get' hP'
  cases iv with
  | list hz hl hi => cases h; exact hlist _ _ _ (fun _ => hz) hl hi
  | tup hz hl hi =>
    cases h
    rename_i a vs
    refine wpAny_pyIter_tuple hl ?_
    obtain ⟨ol, hol, _⟩ := id hl
    have hne : a ≠ s.heap.objs.size := Nat.ne_of_lt (Heap.lt_size hol)
    have W := Walks.tuple (prog := C.prog) (w := C.w) hh s.heap.objs.size a hne vs.toArray
    have hlen : vs.toArray.size = its.length := by simp [hi.length]
    rw [hlen] at W
    refine ⟨Kp.push _ _, _, rfl, size_none _, _, _, _, W, ⟨⟨_, Heap.get?_push_size _ rfl, rfl, rfl⟩, tup_at hl fun o e => Heap.get?_push_of_some _ e⟩, ?_, ?_, ?_, ?_⟩
    · rintro i h ⟨⟨o, ho, _⟩, _⟩; exact ⟨o, ho⟩
    · intro _ b hb hbI
      rcases List.mem_cons.mp hb with e | hb
      · exact absurd e hbI
      · rw [List.mem_singleton.mp hb]; exact hz
    · intro b hb hbI
      rcases List.mem_cons.mp hb with e | hb
      · exact absurd e hbI
      · rw [List.mem_singleton.mp hb]; exact ⟨ol, hol⟩
    · intro i v hi' hP
      have hP' : vs[i]? = some v := by simpa using hP
      exact hi.get' hP'
  | str =>
    rename_i x t
    cases h
    refine wpAny_pyIter_strU ?_
    have gen : ∀ (T : String), Walks C.prog C.w C.A s.heap.objs.size [s.heap.objs.size] [s.heap.objs.size] (mkS x).cps.size (SignAt (mkS x)) (fun i h => h.IsStrIter s.heap.objs.size T (mkS x) t i) → strIterType (mkS x) = T →
        (Kp s { s with heap := s.heap.push { cls := .type (strIterType (mkS x)), data := .fields #[.str (mkS x) t, .int 0 0] } } ∧ ∃ I, (Value.ref s.heap.objs.size) = .ref I ∧ s.heap.get? I = none ∧ ItrAt q C (C.Z Zo ω) (x.map fun c => .str [c]) s { s with heap := s.heap.push { cls := .type (strIterType (mkS x)), data := .fields #[.str (mkS x) t, .int 0 0] } } I) := by
      intro T W hT
      have hlen : (mkS x).cps.size = (x.map fun c => D.str [c]).length := by simp
      rw [hlen] at W
      refine ⟨Kp.push _ _, _, rfl, size_none _, _, _, _, W, ⟨_, Heap.get?_push_size _ rfl, by rw [hT], rfl⟩, ?_, ?_, ?_, ?_⟩
      · rintro i h ⟨o, ho, _⟩; exact ⟨o, ho⟩
      · intro _ b hb hbI; exact absurd (List.mem_singleton.mp hb) hbI
      · intro b hb hbI; exact absurd (List.mem_singleton.mp hb) hbI
      · rintro i v hi' ⟨c, u, hc, rfl⟩
        have hc' : x[i]? = some c := by simpa using hc
        exact ⟨.str [c], by simp [hc'], .str⟩
    by_cases ha : strIterType (mkS x) = "str_ascii_iterator"
    · exact gen _ (Walks.strAscii hh _ _ _) ha
    · refine gen _ (Walks.strWide hh _ _ _) ?_
      unfold strIterType at ha ⊢
      split at ha
      · exact absurd rfl ha
      · rename_i hn; rw [if_neg hn]
  | rng hz hr =>
    rename_i r a b c t u w
    simp only [IterK] at h
    split at h
    · rename_i hsm
      cases h
      refine wpAny_pyIter_range hr hsm ?_
      have hpos : 0 ≤ Builtin.Range.rangeSize a b c := by
        unfold Builtin.Range.rangeSize
        split
        · split
          · have := Int.ediv_nonneg (a := b - a - 1) (b := c) (by omega) (by omega); omega
          · omega
        · split
          · have := Int.ediv_nonneg (a := a - b - 1) (b := -c) (by omega) (by omega); omega
          · omega
      have hn : ((Builtin.Range.rangeSize a b c).toNat : Int) = Builtin.Range.rangeSize a b c := Int.toNat_of_nonneg hpos
      have W := (Walks.range (prog := C.prog) (w := C.w) hh s.heap.objs.size a c (Builtin.Range.rangeSize a b c).toNat)
      have hlen : (Builtin.Range.rangeSize a b c).toNat = (rngL a b c).length := by simp [rngL]
      rw [hlen] at W
      refine ⟨Kp.push _ _, _, rfl, size_none _, _, _, _, W, ?_, ?_, ?_, ?_, ?_⟩
      · rw [← hlen]; simp only [hn]; simpa using Heap.get?_push_size _ rfl
      · intro i h hq; exact ⟨_, hq⟩
      · intro _ b hb hbI; exact absurd (List.mem_singleton.mp hb) hbI
      · intro b hb hbI; exact absurd (List.mem_singleton.mp hb) hbI
      · rintro i v hi' ⟨t', rfl⟩
        refine ⟨.int (a + (i : Nat) * c), ?_, .int⟩
        rw [← hlen] at hi'
        simp [rngL, hi']
    · cases h
  | val =>
    cases v with
    | ref a =>
      cases q with
      | true =>
        obtain ⟨vs, hl, hi⟩ := hs.own _ (getO_mem h)
        exact hlist _ _ _ (fun e => nomatch e) hl hi
      | false => cases h
    | _ => cases h
  | _ => cases h

section
variable {C : Cx} {Zo : Addr → Prop} {ρ : Loc} {ω : Own} {l : Nat} {K : Fl → Loc → Own → Prop}

/-- the state with one address more in the outer zone -/
theorem Sta.guard {s s₂ : Shared} {I : Addr} (hs : Sta C Zo ρ ω s) (hI : s.heap.get? I = none) (k : Kp s s₂) (hI2 : ∃ o, s₂.heap.get? I = some o) : Sta C (fun a => Zo a ∨ a = I) ρ ω s₂ := by
  have hk := k.get
  have mv : ∀ b o, ¬ C.Z Zo ω b → s.heap.get? b = some o → ¬ C.Z (fun a => Zo a ∨ a = I) ω b ∧ s₂.heap.get? b = some o := fun b o hz e => by
    refine ⟨?_, hk b o e⟩
    rintro ((h | h) | h)
    · exact hz (.inl h)
    · rw [h, hI] at e; cases e
    · exact hz (.inr h)
  refine ⟨fun b o e => hk b o (hs.base b o e), ?_, ?_, ?_, ?_, hs.inj, ?_, hs.nodup, ?_⟩
  · rintro a ((h | h) | h)
    · exact hs.new a (.inl h)
    · cases e : C.h₀.get? a with
      | none => rfl
      | some o => have := hs.base a o e; rw [h, hI] at this; cases this
    · exact hs.new a (.inr h)
  · obtain ⟨m, hn, hm⟩ := hs.ns
    exact ⟨m, hn.keeps hk, fun y d hy hl => let ⟨v, h1, h2⟩ := hm y d hy hl; ⟨v, h1, h2.move mv⟩⟩
  · intro y d hy hl
    obtain ⟨c, v, h1, ⟨o, h2, h2'⟩, h3⟩ := hs.cell y d hy hl
    exact ⟨c, v, h1, ⟨o, hk _ _ h2, h2'⟩, h3.move mv⟩
  · intro y c hy
    obtain ⟨v, o, h2, h2'⟩ := hs.cells y c hy
    exact ⟨v, o, hk _ _ h2, h2'⟩
  · intro p hp
    obtain ⟨vs, h1, h2⟩ := hs.own p hp
    exact ⟨vs, h1.at fun o e => hk _ _ e, h2.move mv⟩
  · rintro a (h | h)
    · obtain ⟨o, ho⟩ := hs.zo a h; exact ⟨o, hk _ _ ho⟩
    · rw [h]; exact hI2
/-- the guarded address alone may change -/
theorem Sta.turn {s s₂ : Shared} {I : Addr} (hs : Sta C (fun a => Zo a ∨ a = I) ρ ω s) (hI : ¬ C.Mu ω I) (hk : ∀ b o, b ≠ I → s.heap.get? b = some o → s₂.heap.get? b = some o) (hI2 : ∃ o, s₂.heap.get? I = some o) : Sta C (fun a => Zo a ∨ a = I) ρ ω s₂ := by
  have mv : ∀ b o, ¬ C.Z (fun a => Zo a ∨ a = I) ω b → s.heap.get? b = some o → ¬ C.Z (fun a => Zo a ∨ a = I) ω b ∧ s₂.heap.get? b = some o := fun b o hz e =>
    ⟨hz, hk b o (fun q => hz (.inl (.inr q))) e⟩
  refine ⟨fun b o e => ?_, hs.new, ?_, ?_, ?_, hs.inj, ?_, hs.nodup, ?_⟩
  · refine hk b o (fun q => ?_) (hs.base b o e)
    have := hs.new b (.inl (.inr q)); rw [this] at e; cases e
  · obtain ⟨m, hn, hm⟩ := hs.ns
    exact ⟨m, hn.at' fun o e => hk _ _ (fun q => hI (.inl q.symm)) e, fun y d hy hl => let ⟨v, h1, h2⟩ := hm y d hy hl; ⟨v, h1, h2.move mv⟩⟩
  · intro y d hy hl
    obtain ⟨c, v, h1, ⟨o, h2, h2'⟩, h3⟩ := hs.cell y d hy hl
    exact ⟨c, v, h1, ⟨o, hk _ _ (fun q => hI (.inr (.inl ⟨y, q ▸ h1⟩))) h2, h2'⟩, h3.move mv⟩
  · intro y c hy
    obtain ⟨v, o, h2, h2'⟩ := hs.cells y c hy
    exact ⟨v, o, hk _ _ (fun q => hI (.inr (.inl ⟨y, q ▸ hy⟩))) h2, h2'⟩
  · intro p hp
    obtain ⟨vs, h1, h2⟩ := hs.own p hp
    exact ⟨vs, h1.at fun o e => hk _ _ (fun q => hI (.inr (.inr (q ▸ List.mem_map.mpr ⟨p, hp, rfl⟩)))) e, h2.move mv⟩
  · rintro a (h | h)
    · obtain ⟨o, ho⟩ := hs.zo a (.inl h)
      by_cases q : a = I
      · rw [q]; exact hI2
      · exact ⟨o, hk _ _ q ho⟩
    · rw [h]; exact hI2
theorem Sta.unguard {s : Shared} {Zo Zo' : Addr → Prop} (hs : Sta C Zo' ρ ω s) (hz : ∀ a, Zo a → Zo' a) : Sta C Zo ρ ω s := by
  have hzz : ∀ b, C.Z Zo ω b → C.Z Zo' ω b := fun b h => h.elim (fun h => .inl (hz b h)) .inr
  have mv : ∀ b o, ¬ C.Z Zo' ω b → s.heap.get? b = some o → ¬ C.Z Zo ω b ∧ s.heap.get? b = some o := fun b o h e => ⟨fun q => h (hzz b q), e⟩
  refine ⟨hs.base, fun a h => hs.new a (hzz a h), ?_, ?_, hs.cells, hs.inj, ?_, hs.nodup, fun a h => hs.zo a (hz a h)⟩
  · obtain ⟨m, hn, hm⟩ := hs.ns
    exact ⟨m, hn, fun y d hy hl => let ⟨v, h1, h2⟩ := hm y d hy hl; ⟨v, h1, h2.move mv⟩⟩
  · intro y d hy hl
    obtain ⟨c, v, h1, h2, h3⟩ := hs.cell y d hy hl
    exact ⟨c, v, h1, h2, h3.move mv⟩
  · intro p hp
    obtain ⟨vs, h1, h2⟩ := hs.own p hp
    exact ⟨vs, h1, h2.move mv⟩

/-- a for over data: a word over the turns -/
theorem ex_for {x : Str} {px pos : Pos} {iter : Expr} {body : List Stmt} (ok : C.Ok l) (hx : Stor C x)
    (h : Pe C ρ ω iter (fun d => ∃ its, IterK false ω d = some its ∧ ∃ J : Nat → Loc → Own → Prop, J 0 ρ ω ∧
      (∀ i d ρ' ω', its[i]? = some d → J i ρ' ω' → Exs C (put ρ' x d) ω' body (fun fl ρ'' ω'' => match fl with
        | .next => J (i + 1) ρ'' ω''
        | .cont => J (i + 1) ρ'' ω''
        | .brk => K .next ρ'' ω''
        | .ret d => K (.ret d) ρ'' ω'')) ∧
      (∀ ρ' ω', J its.length ρ' ω' → K .next ρ' ω')))
    (hs : ∀ x, foldedSetIterable iter C.env x = pure x) : Ex C ρ ω (.For (.Name x px) iter body [] pos) K := .mk fun {Zo} s hs₀ => by
  refine wpAny_For (wpAny_mono (h.run s hs₀) (fun xv s₁ X => ?_) fun _ _ e => e) hs
  obtain ⟨k1, d, i1, its, hit, J, hJ0, turn, fin⟩ := X
  have hs1 := hs₀.keeps k1
  refine wpAny_mono (iter_doc false ok hs1 i1 hit) (fun it s₂ Y => ?_) fun _ _ e => e
  obtain ⟨k2, I, rfl, hI, fp, P, St, W, hst, hli, hfpz, hfpl, hP⟩ := Y
  have hs2 := hs1.guard hI k2 (hli 0 _ hst)
  have hmuI : ¬ C.Mu ω I := fun q => by
    obtain ⟨o, ho⟩ := hs1.live I (.inr q)
    rw [hI] at ho; cases ho
  refine codeAny_forLoop (fun k s' => ∃ i ρ' ω', k = its.length + 1 - i ∧ i ≤ its.length ∧ St i s'.heap ∧ Sta C (fun a => Zo a ∨ a = I) ρ' ω' s' ∧ ¬ C.Mu ω' I ∧ Step C ω ω' s₁ s' ∧ J i ρ' ω') ?_ (its.length + 1)
    ⟨0, ρ, ω, rfl, Nat.zero_le _, hst, hs2, hmuI, k2.step, hJ0⟩
  rintro k s' ⟨i, ρ', ω', rfl, hi, hst', hs', hmu', st', hJ⟩
  -- an object of the source stays
  have keepT : ∀ (h₁ : Heap) (tk : Nat), (∀ b o, b ∉ [I] → s'.heap.get? b = some o → h₁.get? b = some o) → (∃ o, h₁.get? I = some o) →
      Sta C (fun a => Zo a ∨ a = I) ρ' ω' { s' with heap := h₁, toks := tk } ∧ Step C ω ω' s₁ { s' with heap := h₁, toks := tk } := by
    intro h₁ tk hk₁ hI₁
    refine ⟨hs'.turn (s₂ := { s' with heap := h₁, toks := tk }) hmu' (fun b o hb e => hk₁ b o (by simpa using hb) e) hI₁, ?_⟩
    obtain ⟨h0, t0, e0⟩ := st'.same
    refine ⟨⟨h₁, tk, by rw [e0]⟩, fun b o hb e => ?_, fun b o e => ?_, st'.grow⟩
    · have hbI : b ≠ I := fun q => by rw [q, hI] at e; cases e
      exact hk₁ b o (by simpa using hbI) (st'.keep b o hb e)
    · obtain ⟨o', e'⟩ := st'.live b o e
      have hbI : b ≠ I := fun q => by rw [q, hI] at e; cases e
      exact ⟨o', hk₁ b o' (by simpa using hbI) e'⟩
  by_cases hlt : i < its.length
  · refine W.item i _ _ _ hlt hst' fun v h₁ tk₁ hPv hst₁ hk₁ => ?_
    obtain ⟨hs3, st3⟩ := keepT h₁ tk₁ hk₁ (hli _ _ hst₁)
    obtain ⟨d, hd, iv⟩ := hP i v hlt hPv
    have iv' : Is (C.Z (fun a => Zo a ∨ a = I) ω') h₁ v d := iv.move fun b o hz e => by
      have hbI : b ≠ I := fun q => by rw [q, hI] at e; cases e
      have hnm : ¬ C.Mu ω b := fun q => hz (.inr q)
      refine ⟨?_, st3.keep b o hnm e⟩
      rintro ((q | q) | q)
      · exact hz (.inl q)
      · exact hbI q
      · exact st3.mu hnm e q
    refine wpAny_assign_Name (wpAny_mono (store_doc ok hs3 iv' hx) (fun _ s₄ ⟨hs4, st4⟩ => ?_) fun _ _ e => e.elim)
    refine wpAny_mono ((turn i d ρ' ω' hd hJ).run s₄ hs4) (fun f s₅ o => ?_) fun _ _ e => e.elim
    obtain ⟨fl, ρ5, ω5, hf, hs5, st5, hk⟩ := o
    have stA := (st3.trans st4).trans st5
    have hmu5 : ¬ C.Mu ω5 I := by
      obtain ⟨o, ho⟩ := hs4.zo I (.inr rfl)
      exact st5.mu hmu' ho
    have hst5 : St (i + 1) s₅.heap := by
      refine W.frame _ _ _ hst₁ fun b hb o e => ?_
      have e4 : s₄.heap.get? b = some o := by
        by_cases q : b = I
        · exact st4.keep b o (q ▸ hmu') e
        · refine st4.keep b o (fun qq => ?_) e
          exact absurd qq (by
            obtain ⟨ob, hob⟩ := hfpl b hb q
            exact st3.mu (fun z => hfpz rfl b hb q (.inr z)) hob)
      by_cases q : b = I
      · exact st5.keep b o (q ▸ hmu') e4
      · refine st5.keep b o ?_ e4
        obtain ⟨ob, hob⟩ := hfpl b hb q
        exact st3.mu (fun z => hfpz rfl b hb q (.inr z)) hob
    have again : J (i + 1) ρ5 ω5 → ∃ m, m < its.length + 1 - i ∧ ∃ j ρ' ω', m = its.length + 1 - j ∧ j ≤ its.length ∧ St j s₅.heap ∧ Sta C (fun a => Zo a ∨ a = I) ρ' ω' s₅ ∧ ¬ C.Mu ω' I ∧ Step C ω ω' s₁ s₅ ∧ J j ρ' ω' := fun hj =>
      ⟨its.length + 1 - (i + 1), by omega, i + 1, ρ5, ω5, rfl, hlt, hst5, hs5, hmu5, stA, hj⟩
    have outS : Sta C Zo ρ5 ω5 s₅ := hs5.unguard fun a h => .inl h
    have stO := (k1.step (C := C) (ω := ω)).trans stA
    cases fl with
    | next => cases f with
      | next => exact again hk
      | _ => exact hf.elim
    | cont => cases f with
      | cont => exact again hk
      | _ => exact hf.elim
    | brk => cases f with
      | brk => exact ⟨.next, ρ5, ω5, trivial, outS, stO, hk⟩
      | _ => exact hf.elim
    | ret d' => cases f with
      | ret v' =>
        have hf' : Is (C.Z (fun a => Zo a ∨ a = I) ω5) s₅.heap v' d' := hf
        exact ⟨.ret d', ρ5, ω5, hf'.move (fun b o h e => ⟨fun q => h (q.elim (fun z => .inl (.inl z)) .inr), e⟩), outS, stO, hk⟩
      | _ => exact hf.elim
  · have hin : i = its.length := by omega
    subst hin
    refine W.done _ _ _ hst' fun h₁ tk₁ hk₁ => wpAny_execs_nil ?_
    -- at the end the iterator may be gone: the zone is the outer one again
    have hz : Sta C Zo ρ' ω' { s' with heap := h₁, toks := tk₁ } := by
      have mv : ∀ b o, ¬ C.Z (fun a => Zo a ∨ a = I) ω' b → s'.heap.get? b = some o → ¬ C.Z Zo ω' b ∧ h₁.get? b = some o := fun b o hz e =>
        ⟨fun q => hz (q.elim (fun z => .inl (.inl z)) .inr), hk₁ b o (by simpa using fun q : b = I => hz (.inl (.inr q))) e⟩
      have notI : ∀ b, C.Mu ω' b → b ≠ I := fun b hb q => hmu' (q ▸ hb)
      refine ⟨fun b o e => ?_, fun a h => hs'.new a (h.elim (fun z => .inl (.inl z)) .inr), ?_, ?_, ?_, hs'.inj, ?_, hs'.nodup, ?_⟩
      · have hbI : b ≠ I := fun q => by
          have := hs'.new b (.inl (.inr q)); rw [this] at e; cases e
        exact hk₁ b o (by simpa using hbI) (hs'.base b o e)
      · obtain ⟨m, hn, hm⟩ := hs'.ns
        exact ⟨m, hn.at' fun o e => hk₁ _ _ (by simpa using notI _ (.inl rfl)) e, fun y d hy hl => let ⟨v, h1, h2⟩ := hm y d hy hl; ⟨v, h1, h2.move mv⟩⟩
      · intro y d hy hl
        obtain ⟨c, v, h1, ⟨o, h2, h2'⟩, h3⟩ := hs'.cell y d hy hl
        exact ⟨c, v, h1, ⟨o, hk₁ _ _ (by simpa using notI _ (.inr (.inl ⟨y, h1⟩))) h2, h2'⟩, h3.move mv⟩
      · intro y c hy
        obtain ⟨v, o, h2, h2'⟩ := hs'.cells y c hy
        exact ⟨v, o, hk₁ _ _ (by simpa using notI _ (.inr (.inl ⟨y, hy⟩))) h2, h2'⟩
      · intro p hp
        obtain ⟨vs, h1, h2⟩ := hs'.own p hp
        exact ⟨vs, h1.at fun o e => hk₁ _ _ (by simpa using notI _ (.inr (.inr (List.mem_map.mpr ⟨p, hp, rfl⟩)))) e, h2.move mv⟩
      · intro a h
        obtain ⟨o, ho⟩ := hs'.zo a (.inl h)
        obtain ⟨o1, ho1⟩ := hs1.zo a h
        have hne : a ≠ I := fun q => by rw [q, hI] at ho1; cases ho1
        exact ⟨o, hk₁ _ _ (by simpa using hne) ho⟩
    have st3 : Step C ω ω' s₁ { s' with heap := h₁, toks := tk₁ } := by
      obtain ⟨h0, t0, e0⟩ := st'.same
      refine ⟨⟨h₁, tk₁, by rw [e0]⟩, fun b o hb e => ?_, fun b o e => ?_, st'.grow⟩
      · have hbI : b ≠ I := fun q => by rw [q, hI] at e; cases e
        exact hk₁ b o (by simpa using hbI) (st'.keep b o hb e)
      · obtain ⟨o', e'⟩ := st'.live b o e
        have hbI : b ≠ I := fun q => by rw [q, hI] at e; cases e
        exact ⟨o', hk₁ b o' (by simpa using hbI) e'⟩
    exact ⟨.next, ρ', ω', trivial, hz, (k1.step (C := C) (ω := ω)).trans st3, fin ρ' ω' hJ⟩
end
end Mine

namespace Mine

def cap (cl : List (Str × Addr)) (ρ : Loc) : Loc := ρ.filter fun p => (cl.lookup p.1).isSome
theorem get_cap (cl : List (Str × Addr)) (ρ : Loc) (y : Str) : get (cap cl ρ) y = if (cl.lookup y).isSome = true then get ρ y else none := by
  induction ρ with
  | nil => simp [cap, get]
  | cons p r ih =>
    obtain ⟨z, d⟩ := p
    unfold cap at ih ⊢
    rw [List.filter_cons]
    by_cases h : (cl.lookup z).isSome = true
    · simp only [h, if_true, get]
      by_cases e : y = z
      · subst e; simp [h]
      · simp only [if_neg e]; exact ih
    · simp only [h, Bool.false_eq_true, if_false, get]
      by_cases e : y = z
      · subst e; rw [ih]; simp [h]
      · simp only [if_neg e]; exact ih

/-- the context within a comprehension -/
@[reducible] def Cx.comp (C : Cx) (scope : Scope) (cl : List (Str × Addr)) (n : Addr) : Cx := { C with env := compEnvC scope cl n C.env }

/-- tests, then the element -/
structure Pi (C : Cx) (ρ : Loc) (ω : Own) (ifs : List Expr) (elt : Expr) (K : Option D → Prop) : Prop where
  run : ∀ {Zo : Addr → Prop} s, Sta C Zo ρ ω s → wpAny C.M C.A (forIn ifs true fun c r => if r = true then do let ok ← isTrue c C.env (eval c C.env); pure (ForInStep.yield ok) else pure (ForInStep.yield r))
    (fun ok s₁ => Kp s s₁ ∧ if ok = true then Pe C ρ ω elt (fun e => K (some e)) else K none) NoE s
section
variable {C : Cx} {ρ : Loc} {ω : Own}
theorem pi_nil {elt : Expr} {K : Option D → Prop} (h : Pe C ρ ω elt (fun e => K (some e))) : Pi C ρ ω [] elt K := .mk fun s hs => wpAny_tests_nil ⟨Kp.refl _, h⟩
theorem pi_one {c elt : Expr} {K : Option D → Prop} (h : Pt C ρ ω c (fun b => if b = true then Pe C ρ ω elt (fun e => K (some e)) else K none)) : Pi C ρ ω [c] elt K := .mk fun s hs =>
  wpAny_tests_one (wpAny_mono (h.run s hs) (fun b s₁ x => x) fun _ _ e => e)
end

structure CompOk (C : Cx) (scope : Scope) (cl : List (Str × Addr)) (x : Str) : Prop where
  clos : closureFor scope C.env = pure cl
  cell : ∀ y ∈ scope.names, y.2 ≠ .cell
  kind : scope.kind = .function
  names : ∀ y ∈ scope.names, y.2 = .local → scope.names.lookup y.1 = some .local
  hx : scope.names.lookup x = some .local
  sub : ∀ y c, cl.lookup y = some c → C.env.cells.lookup y = some c ∧ (C.env.kindOf y = some .cell ∨ C.env.kindOf y = some .free)
  caught : ∀ y c, cl.lookup y = some c → (relabel scope C.env).names.lookup y ≠ some .local

theorem pe_comp {C : Cx} {ρ : Loc} {ω : Own} {l : Nat} {K : D → Prop} {elt iter : Expr} {x : Str} {px pos : Pos} {ifs : List Expr} {scope : Scope} {cl : List (Str × Addr)} (ok : C.Ok l) (co : CompOk C scope cl x)
    (h : Pe C ρ ω iter (fun d => ∃ its, IterK true ω d = some its ∧ its.length ≤ lim ∧ ∃ g : D → Option D, (∀ d ∈ its, ∀ n, Pi (C.comp scope cl n) ((x, d) :: cap cl ρ) ω ifs elt (fun r => r = g d)) ∧ K (.list (its.filterMap g))))
    (hsf : ∀ x, foldedSetIterable iter C.env x = pure x) : Pe C ρ ω (.ListComp elt [⟨.Name x px, iter, ifs, 0⟩] scope pos) K := .mk fun {Zo} s hs₀ => by
  rw [eval_ListComp]
  refine wpAny_comprehension_free (use := none) rfl hsf co.clos co.kind co.names (wpAny_mono (h.run s hs₀) (fun xv s₁ X => ?_) fun _ _ e => e)
  obtain ⟨k1, d, i1, its, hit, hlim, g, hel, hK⟩ := X
  have hs1 := hs₀.keeps k1
  refine wpAny_mono (iter_doc true ok hs1 i1 hit) (fun it s₂ Y => ?_) fun _ _ e => e
  obtain ⟨k2, I, rfl, hI, fp, P, St, W, hst, hli, _, hfpl, hP⟩ := Y
  refine wpAny_newObj_type (wpAny_newFunctionEnv co.cell (by intro y hy; simp at hy) (fun h₁ hns₁ hsb₁ => ?_) co.kind)
  dsimp only at hns₁ hsb₁ ⊢
  generalize hH2 : s₂.heap.push { cls := .type "list", dict := none, data := .seq ([] : List Value).toArray } = H2 at hns₁ hsb₁ ⊢
  have hC : H2.objs.size = s₂.heap.objs.size + 1 := by rw [← hH2, Heap.size_push]
  generalize hDl : s₂.heap.objs.size = Dl at *
  generalize hCn : H2.objs.size = Cn at *
  have hDC : Dl ≠ Cn := by rw [hC]; exact Nat.ne_of_lt (Nat.lt_succ_self _)
  have lt2 : ∀ b o, s₂.heap.get? b = some o → b < Dl := fun b o e => hDl ▸ Heap.lt_size e
  have old : ∀ b o, s₂.heap.get? b = some o → h₁.get? b = some o := fun b o e => by
    have hb := lt2 b o e
    exact hsb₁.extBut b o (by rw [hC]; exact Nat.ne_of_lt (Nat.lt_succ_of_lt hb)) (Heap.get?_push_of_some _ (hH2 ▸ Heap.get?_push_of_some _ e))
  have old1 : ∀ b o, s₁.heap.get? b = some o → b ≠ I ∧ b ≠ Dl ∧ b ≠ Cn := fun b o e => by
    have hb := lt2 b o (k2.get b o e)
    refine ⟨fun q => ?_, Nat.ne_of_lt hb, by rw [hC]; exact Nat.ne_of_lt (Nat.lt_succ_of_lt hb)⟩
    rw [q, hI] at e; cases e
  have hIlt : I < Dl := by obtain ⟨o, ho⟩ := hli 0 _ hst; exact lt2 I o ho
  have fpOff : ∀ b ∈ fp, b ≠ Dl ∧ b ≠ Cn := fun b hb => by
    by_cases q : b = I
    · subst q; exact ⟨Nat.ne_of_lt hIlt, by rw [hC]; exact Nat.ne_of_lt (Nat.lt_succ_of_lt hIlt)⟩
    · obtain ⟨o, ho⟩ := hfpl b hb q; exact (old1 b o ho).2
  have hacc : h₁.IsList Dl #[] := by
    refine ⟨_, hsb₁.extBut _ _ (hCn ▸ hDC) (Heap.get?_push_of_some _ (hH2 ▸ hDl ▸ Heap.get?_push_size _ rfl)), rfl, 0, rfl⟩
  have hst₁ : St 0 h₁ := W.frame _ _ _ hst fun b _ o e => old b o e
  let Zo' : Addr → Prop := fun a => C.Z Zo ω a ∨ a = I ∨ a = Dl
  let C' := C.comp scope cl Cn
  have hZI : C'.Z Zo' ω I := .inl (.inr (.inl rfl))
  have hZD : C'.Z Zo' ω Dl := .inl (.inr (.inr rfl))
  have hZC : C'.Z Zo' ω Cn := .inr (.inl rfl)
  have hZsub : ∀ b, C'.Z Zo' ω b → C.Z Zo ω b ∨ b = I ∨ b = Dl ∨ b = Cn := by
    rintro b (h | h | ⟨y, h⟩ | h)
    · rcases h with h | h | h
      · exact .inl h
      · exact .inr (.inl h)
      · exact .inr (.inr (.inl h))
    · exact .inr (.inr (.inr h))
    · exact .inl (mu_cell (co.sub y b h).1)
    · exact .inl (mu_own h)
  have ok' : C'.Ok l := ⟨ok.room, by show (relabel scope C.env).kind = _; exact co.kind, ok.gl, ok.bl, ok.g, ok.b, ok.nolimit⟩
  -- the loop
  have loop : ∀ s₃ : Shared, s₃ = { s₂ with heap := h₁, toks := s₂.toks + ([] : List (Str × Value)).length } →
      codeAny C.M C.A (.compLoop (.ListComp elt [⟨.Name x px, iter, ifs, 0⟩] scope pos) 0 (.ref I) (.ref Dl) (compEnvC scope cl Cn C.env)) (compPost C.M C.A NoE none (Gv (C.Z Zo ω) s K) (.ref Dl) Cn) s₃ := by
    rintro s₃ rfl
    refine codeAny_compLoop_tests (fun k s' => ∃ i, k = its.length + 1 - i ∧ i ≤ its.length ∧ St i s'.heap ∧ (∃ h tk, s' = { s₁ with heap := h, toks := tk }) ∧ (∀ b o, s₁.heap.get? b = some o → s'.heap.get? b = some o) ∧ (∃ m, s'.heap.Ns Cn m) ∧
      ∃ vs, s'.heap.IsList Dl vs.toArray ∧ IsAll (C'.Z Zo' ω) s'.heap vs ((its.take i).filterMap g)) ?_ (its.length + 1) ?_
    · rintro k s' ⟨i, rfl, hi, hst', ⟨hh, tk, rfl⟩, hk', ⟨m, hn⟩, vs, hl, hvs⟩
      dsimp only at hst' hk' hn hl hvs
      by_cases hlt : i < its.length
      · refine W.item i _ _ _ hlt hst' fun v h₂ tk₂ hPv hst₂ hk₂ => ?_
        dsimp only at hk₂ ⊢
        obtain ⟨d, hd, iv⟩ := hP i v hlt hPv
        have k02 : ∀ b o, s₁.heap.get? b = some o → h₂.get? b = some o := fun b o e => hk₂ b o (by simpa using (old1 b o e).1) (hk' b o e)
        have hn2 : h₂.Ns Cn m := hn.at' fun o e => hk₂ _ _ (by simpa using (by rw [hC]; exact (Nat.ne_of_lt (Nat.lt_succ_of_lt hIlt)).symm : Cn ≠ I)) e
        refine wpAny_assign_Name (wpAny_storeName_local (env := compEnvC scope cl Cn C.env) (lookup_relabel_local co.hx) hn2 (fun h₃ hn₃ hs₃ => ?_) (by simp [compEnvC, relabel, co.kind]))
        have hs₃' : Heap.SameBut Cn h₂ h₃ := hs₃
        have hn₃' : h₃.Ns Cn (fun y => if y = x then some v else m y) := hn₃
        have k03 : ∀ b o, s₁.heap.get? b = some o → h₃.get? b = some o := fun b o e => (hs₃'.2 b (old1 b o e).2.2).trans (k02 b o e)
        have hst₃ : St (i + 1) h₃ := W.frame _ _ _ hst₂ fun b hb o e => (hs₃'.2 b (fpOff b hb).2).trans e
        have mv : ∀ b o, ¬ C.Z Zo ω b → s₁.heap.get? b = some o → ¬ C'.Z Zo' ω b ∧ h₃.get? b = some o := fun b o hz e =>
          ⟨fun q => (hZsub b q).elim hz fun q => q.elim (old1 b o e).1 fun q => q.elim (old1 b o e).2.1 (old1 b o e).2.2, k03 b o e⟩
        have hl₃ : h₃.IsList Dl vs.toArray := hl.at fun o e => (hs₃'.2 Dl hDC).trans (hk₂ Dl o (by simpa using (Nat.ne_of_lt hIlt).symm) e)
        have hvs₃ : IsAll (C'.Z Zo' ω) h₃ vs ((its.take i).filterMap g) := hvs.move fun b o hz e =>
          ⟨hz, (hs₃'.2 b fun q => hz (q ▸ hZC)).trans (hk₂ b o (by simpa using fun q : b = I => hz (q ▸ hZI)) e)⟩
        have hsI : Sta C' Zo' ((x, d) :: cap cl ρ) ω { s₁ with heap := h₃, toks := tk₂ + 1 } := by
          refine ⟨fun b o e => k03 b o (hs1.base b o e), ?_, ⟨_, hn₃', fun y dy hy hl => ?_⟩, fun y dy hy hl => ?_, fun y c hy => ?_, fun y z c hy hz => ?_, fun p hp => ?_, hs1.nodup, ?_⟩
          · intro a ha
            rcases hZsub a ha with q | q | q | q
            · exact hs1.new a q
            all_goals
              cases e : C.h₀.get? a with
              | none => rfl
              | some o => have := old1 a o (hs1.base a o e); simp_all
          · simp only [get] at hy
            by_cases hyx : y = x
            · rw [if_pos hyx] at hy; cases hy; exact ⟨v, by simp [hyx], iv.move mv⟩
            · rw [if_neg hyx, get_cap] at hy
              split at hy
              · rename_i hq
                obtain ⟨c, hc⟩ := Option.isSome_iff_exists.mp hq
                exfalso
                -- a captured name is no local here
                have hl' : (relabel scope C.env).names.lookup y = some .local := hl
                obtain ⟨hc1, hc2⟩ := co.sub y c hc
                exact co.caught y c hc hl'
              · cases hy
          · simp only [get] at hy
            by_cases hyx : y = x
            · exfalso
              subst hyx
              have : (relabel scope C.env).names.lookup y = some .local := lookup_relabel_local co.hx
              have hl' : (relabel scope C.env).names.lookup y = some .cell ∨ (relabel scope C.env).names.lookup y = some .free := hl
              rw [this] at hl'; rcases hl' with h | h <;> cases h
            · rw [if_neg hyx, get_cap] at hy
              split at hy
              · rename_i hq
                obtain ⟨c, hc⟩ := Option.isSome_iff_exists.mp hq
                obtain ⟨hc1, hc2⟩ := co.sub y c hc
                obtain ⟨c', u, h1, ⟨o, h2, h2'⟩, h3⟩ := hs1.cell y dy hy hc2
                rw [hc1] at h1; cases h1
                exact ⟨c, u, hc, ⟨o, k03 _ _ h2, h2'⟩, h3.move mv⟩
              · cases hy
          · obtain ⟨u, o, h2, h2'⟩ := hs1.cells y c (co.sub y c hy).1
            exact ⟨u, o, k03 _ _ h2, h2'⟩
          · exact hs1.inj y z c (co.sub y c hy).1 (co.sub z c hz).1
          · obtain ⟨ws, h1, h2⟩ := hs1.own p hp
            exact ⟨ws, h1.at fun o e => k03 _ _ e, h2.move mv⟩
          · rintro a (q | q | q)
            · obtain ⟨o, ho⟩ := hs1.live a q; exact ⟨o, k03 _ _ ho⟩
            · subst q; exact hli _ _ hst₃
            · subst q; obtain ⟨o, ho, _⟩ := hl₃; exact ⟨o, ho⟩
        refine wpAny_mono ((hel d (List.mem_of_getElem? hd) Cn).run _ hsI) (fun okb s₄ ⟨k4, h4⟩ => ?_) fun _ _ e => e.elim
        have htake : (its.take (i + 1)).filterMap g = (its.take i).filterMap g ++ (g d).toList := by
          rw [List.take_add_one, hd, List.filterMap_append]; cases hg : g d <;> simp [hg]
        have k4g := k4.get
        cases okb with
        | true =>
          simp only [if_true] at h4 ⊢
          refine wpAny_mono (h4.run s₄ (hsI.keeps k4)) (fun y s₅ ⟨k5, e, i5, h5⟩ => ?_) fun _ _ e => e.elim
          have k45 := k4.trans k5
          have k45g := k45.get
          have hl₅ : s₅.heap.IsList Dl vs.toArray := hl₃.at fun o e => k45g _ _ e
          have hlenv : vs.length ≤ lim := by
            rw [hvs.length]
            have h1 := List.length_filterMap_le g (its.take i)
            have h2 : (its.take i).length ≤ its.length := by simp [Nat.min_le_right]
            omega
          refine wpAny_list_append hl₅ (fun h₆ hl₆ hs₆ => ?_) (by simpa using lim_le hlenv)
          refine ⟨its.length + 1 - (i + 1), by omega, i + 1, rfl, hlt, ?_, ?_, ?_, ⟨(fun y => if y = x then some v else m y), ?_⟩, vs ++ [y], by simpa using hl₆, ?_⟩
          · exact W.frame _ _ _ hst₃ fun b hb o e => (hs₆.2 b (fpOff b hb).1).trans (k45g _ _ e)
          · obtain ⟨h', tk', e', _⟩ := k45
            exact ⟨h₆, tk', by rw [e']⟩
          · exact fun b o e => (hs₆.2 b (old1 b o e).2.1).trans (k45g _ _ (k03 b o e))
          · exact (hn₃'.keeps k45g).sameBut hs₆ (Ne.symm hDC)
          · rw [htake, ← h5]
            have mv6 : ∀ b o, ¬ C'.Z Zo' ω b → s₅.heap.get? b = some o → ¬ C'.Z Zo' ω b ∧ h₆.get? b = some o := fun b o hz e => ⟨hz, (hs₆.2 b fun q => hz (q ▸ hZD)).trans e⟩
            exact IsAll.append ((hvs₃.keeps k45g).move mv6) (.one (i5.move mv6))
        | false =>
          simp only [Bool.false_eq_true, if_false] at h4 ⊢
          refine ⟨its.length + 1 - (i + 1), by omega, i + 1, rfl, hlt, ?_, ?_, ?_, ⟨_, hn₃'.keeps k4g⟩, vs, hl₃.at fun o e => k4g _ _ e, ?_⟩
          · exact W.frame _ _ _ hst₃ fun b hb o e => k4g _ _ e
          · obtain ⟨h', tk', e', _⟩ := k4
            exact ⟨h', tk', by rw [e']⟩
          · exact fun b o e => k4g _ _ (k03 b o e)
          · rw [htake, ← h4]; simpa using hvs₃.keeps k4g
      · have hin : i = its.length := by omega
        subst hin
        refine W.done _ _ _ hst' fun h₂ tk₂ hk₂ => ?_
        dsimp only at hk₂ ⊢
        have hn2 : h₂.Ns Cn m := hn.at' fun o e => hk₂ _ _ (by simpa using (by rw [hC]; exact (Nat.ne_of_lt (Nat.lt_succ_of_lt hIlt)).symm : Cn ≠ I)) e
        refine ⟨m, hn2, fun h₃ hs₃ => ?_⟩
        have k03 : ∀ b o, s₁.heap.get? b = some o → h₃.get? b = some o := fun b o e => (hs₃.2 b (old1 b o e).2.2).trans (hk₂ b o (by simpa using (old1 b o e).1) (hk' b o e))
        refine ⟨k1.trans ⟨h₃, tk₂, rfl, k03⟩, .list (its.filterMap g), .list (vs := vs) (fun q => ?_) ?_ ?_, hK⟩
        · obtain ⟨o, ho⟩ := hs1.live Dl q; exact (old1 _ o ho).2.1 rfl
        · exact hl.at fun o e => (hs₃.2 Dl hDC).trans (hk₂ Dl o (by simpa using (Nat.ne_of_lt hIlt).symm) e)
        · rw [List.take_length] at hvs
          exact hvs.move fun b o hz e => ⟨fun q => hz (.inl (.inl q)), (hs₃.2 b fun q => hz (q ▸ hZC)).trans (hk₂ b o (by simpa using fun q : b = I => hz (q ▸ hZI)) e)⟩
    · refine ⟨0, rfl, Nat.zero_le _, hst₁, ?_, fun b o e => old b o (k2.get b o e), ⟨_, hns₁⟩, [], hacc, .nil⟩
      obtain ⟨h', tk', e', _⟩ := k2
      exact ⟨h₁, _, by rw [e']⟩
  exact codeAny_compStart_list (loop _ rfl) (W.self 0 _ _ _ hst₁ (loop _ rfl))
end Mine

namespace Mine

/-- parameters bound -/
structure Par (Z : Addr → Prop) (h : Heap) (binds : List (Str × Value)) (ρ : Loc) : Prop where
  names : binds.map (·.1) = ρ.map (·.1)
  vals : IsAll Z h (binds.map (·.2)) (ρ.map (·.2))
  nodup : (ρ.map (·.1)).Nodup

theorem bindL_off {kindOf : Str → Option NameKind} {x : Str} : ∀ {r : List (Str × Value)} {m : Str → Option Value}, x ∉ r.map (·.1) → bindL kindOf r m x = m x
  | [], _, _ => rfl
  | (n, v) :: r, m, h => by
    have h1 : x ≠ n := fun e => h (by simp [e])
    have h2 : x ∉ r.map (·.1) := fun e => h (List.mem_cons_of_mem _ e)
    unfold bindL
    rw [bindL_off h2]
    split
    · simp [h1]
    · rfl
theorem bindC_off {kindOf : Str → Option NameKind} {x : Str} : ∀ {r : List (Str × Value)} {m : Str → Option Value}, x ∉ r.map (·.1) → bindC kindOf r m x = m x
  | [], _, _ => rfl
  | (n, v) :: r, m, h => by
    have h1 : x ≠ n := fun e => h (by simp [e])
    have h2 : x ∉ r.map (·.1) := fun e => h (List.mem_cons_of_mem _ e)
    unfold bindC
    rw [bindC_off h2]
    split
    · rfl
    · simp [h1]
theorem bindL_get {kindOf : Str → Option NameKind} {Z : Addr → Prop} {h : Heap} {x : Str} {d : D} (hk : kindOf x = some .local) : ∀ {binds : List (Str × Value)} {ρ : Loc} {m : Str → Option Value}, Par Z h binds ρ → get ρ x = some d → ∃ v, bindL kindOf binds m x = some v ∧ Is Z h v d
  | [], ρ, m, p, hg => by
    have := p.names
    cases ρ with
    | nil => cases hg
    | cons a b => simp at this
  | (n, v) :: r, ρ, m, p, hg => by
    cases ρ with
    | nil => cases hg
    | cons q ρ =>
      obtain ⟨y, e⟩ := q
      have hn := p.names
      simp only [List.map_cons, List.cons.injEq] at hn
      have hv := p.vals
      simp only [List.map_cons] at hv
      cases hv with
      | cons a b =>
        have hnd := p.nodup
        simp only [List.map_cons, List.nodup_cons] at hnd
        simp only [get] at hg
        by_cases hxy : x = y
        · rw [if_pos hxy] at hg
          cases hg
          refine ⟨v, ?_, a⟩
          unfold bindL
          have hoff : x ∉ r.map (·.1) := by rw [hn.2, hxy]; exact hnd.1
          rw [bindL_off hoff, hn.1, ← hxy, if_pos hk]; simp
        · rw [if_neg hxy] at hg
          unfold bindL
          exact bindL_get hk ⟨hn.2, b, hnd.2⟩ hg
theorem bindC_get {kindOf : Str → Option NameKind} {Z : Addr → Prop} {h : Heap} {x : Str} {d : D} (hk : kindOf x ≠ some .local) : ∀ {binds : List (Str × Value)} {ρ : Loc} {m : Str → Option Value}, Par Z h binds ρ → get ρ x = some d → ∃ v, bindC kindOf binds m x = some v ∧ Is Z h v d
  | [], ρ, m, p, hg => by
    have := p.names
    cases ρ with
    | nil => cases hg
    | cons a b => simp at this
  | (n, v) :: r, ρ, m, p, hg => by
    cases ρ with
    | nil => cases hg
    | cons q ρ =>
      obtain ⟨y, e⟩ := q
      have hn := p.names
      simp only [List.map_cons, List.cons.injEq] at hn
      have hv := p.vals
      simp only [List.map_cons] at hv
      cases hv with
      | cons a b =>
        have hnd := p.nodup
        simp only [List.map_cons, List.nodup_cons] at hnd
        simp only [get] at hg
        by_cases hxy : x = y
        · rw [if_pos hxy] at hg
          cases hg
          refine ⟨v, ?_, a⟩
          unfold bindC
          have hoff : x ∉ r.map (·.1) := by rw [hn.2, hxy]; exact hnd.1
          rw [bindC_off hoff, hn.1, ← hxy, if_neg hk]; simp
        · rw [if_neg hxy] at hg
          unfold bindC
          exact bindC_get hk ⟨hn.2, b, hnd.2⟩ hg

theorem get_mem {ρ : Loc} {y : Str} {d : D} (hy : get ρ y = some d) : y ∈ ρ.map (·.1) := by
  induction ρ with
  | nil => cases hy
  | cons p r ih =>
    obtain ⟨z, e⟩ := p
    simp only [get] at hy
    by_cases q : y = z
    · simp [q]
    · rw [if_neg q] at hy; exact List.mem_cons_of_mem _ (ih hy)
theorem Room.deeper {A : Around} {l : Nat} {env : Env} (r : Room A (l + 1)) : Room (A.deeper env) l :=
  ⟨r.hd, by show A.depth + 1 + l < 900; have := r.depth; omega, by show A.units + 3 + 10 * l < 9000; have := r.units; omega⟩
theorem Room.le {A : Around} {l l' : Nat} (r : Room A l) (h : l' ≤ l) : Room A l' := ⟨r.hd, by have := r.depth; omega, by have := r.units; omega⟩

/-- the context within a call -/
@[reducible] def Cx.into (C : Cx) (fd : FuncData) (f L : Addr) : Cx := { C with A := C.A.deeper (callEnvC fd L f), env := callEnvC fd L f }

structure FnOk (C : Cx) (f : Addr) (fd : FuncData) (body : List Stmt) : Prop where
  at_ : ∃ o, C.h₀.get? f = some o ∧ o.data = .func fd
  code : C.h₀.CodeRec fd.code fd.qualname
  body : fd.body = .stmts body
  clo : fd.closure = []
  gl : fd.globals = mainGlobals
  bl : fd.builtins = builtinsNs
  co : fd.scope.isCoroutine = false
  gen : fd.scope.isGenerator = false
  kind : fd.scope.kind = .function

/-- a program's ground -/
structure Ground0 (C : Cx) : Prop where
  g : C.h₀.Ns mainGlobals C.mg
  b : C.h₀.Ns builtinsNs C.mb
  nolimit : C.h₀.NoLimit

theorem Ground0.ok {C : Cx} {f L : Addr} {fd : FuncData} {body : List Stmt} {l : Nat} (G : Ground0 C) (fo : FnOk C f fd body) (room : Room C.A (l + 1)) : (C.into fd f L).Ok l :=
  ⟨room.deeper, fo.kind, fo.gl, fo.bl, G.g, G.b, G.nolimit⟩

structure CodeC (C : Cx) (f : Value) (as : List D) (K : D → Prop) : Prop where
  run : ∀ {Z : Addr → Prop} s vs, Und C Z s → IsAll Z s.heap vs as → codeAny C.M C.A (.call f ⟨vs, []⟩) (fun r s' => ∃ v, r = .ok (.ret v) ∧ Gv Z s K v s') s
theorem CodeC.doc {C : Cx} {f : Value} {as : List D} {K : D → Prop} (h : CodeC C f as K) : DoC C f as K := .mk fun s vs U ia =>
  wpAny_call (codeAny_mono (h.run s vs U ia) fun r s' ⟨v, e, g⟩ => by subst e; exact g)
theorem enterK {C : Cx} {f : Addr} {fd : FuncData} {body : List Stmt} {l : Nat} {as : List D} {K : D → Prop} (G : Ground0 C) (fo : FnOk C f fd body) (room : Room C.A (l + 1)) (ρ : Loc)
    (hbind : ∀ (Z : Addr → Prop) s vs, Und C Z s → IsAll Z s.heap vs as → ∃ binds, BindsTo s fd ⟨vs, []⟩ binds ∧ Par Z s.heap binds ρ)
    (hkind : ∀ n, ∀ x ∈ ρ.map (·.1), fd.scope.names.lookup x = some .local ∨ (fd.scope.names.lookup x = some .cell ∧ ((cellsFrom n fd.scope.names []).lookup x).isSome = true))
    (h : ∀ L, Exs (C.into fd f L) ρ [] body (fun fl _ _ => match fl with | .ret d => K d | .next => K .none | _ => False)) : CodeC C (.ref f) as K := .mk fun {Z} s vs U ia => by
  have live := U.live
  obtain ⟨o, ho, hdata⟩ := fo.at_
  obtain ⟨binds, hb, par⟩ := hbind Z s vs U ia
  refine codeAny_call_function (by have := room.depth; show C.A.depth < 1000; omega) (U.base _ _ ho) hdata fo.co fo.gen fo.body ?_ (hb _ _ _ _ ?_)
  · obtain ⟨c, oc, ws, t, e1, e2, e3⟩ := fo.code
    exact ⟨c, oc, ws, t, e1, U.base _ _ e2, e3⟩
  rw [fo.clo]
  refine wpAny_newFunctionEnv_cells fo.kind (fun x hx => hkind _ x.1 (by rw [← par.names]; exact List.mem_map.mpr ⟨x, hx, rfl⟩)) fun env he s₁ x => ?_
  have henv : env = callEnvC fd s.heap.objs.size f := he
  subst henv
  refine ⟨(G.nolimit.keeps U.base).keeps x.toInCall.keep, codeAny_func ?_⟩
  have hkeep := x.toInCall.keep
  obtain ⟨hh, tk, es⟩ := x.toInCall.same
  have hL : s.heap.get? (callEnvC fd s.heap.objs.size f).locals = none := size_none _
  have hmu : ∀ a, (C.into fd f s.heap.objs.size).Mu [] a → s.heap.get? a = none := by
    rintro a (q | ⟨y, q⟩ | q)
    · rw [q]; exact hL
    · cases e : s.heap.get? a with
      | none => rfl
      | some o =>
        have h1 := x.above y a (mem_of_lookup q)
        have h2 := Heap.lt_size e
        exact absurd (Nat.lt_trans h2 h1) (Nat.lt_irrefl _)
    · cases q
  have mv : ∀ b o, ¬ Z b → s.heap.get? b = some o → ¬ (C.into fd f s.heap.objs.size).Z Z [] b ∧ s₁.heap.get? b = some o := fun b o hz e =>
    ⟨fun q => q.elim hz fun q => (by rw [hmu b q] at e; cases e), hkeep b o e⟩
  have hs1 : Sta (C.into fd f s.heap.objs.size) Z ρ [] s₁ := by
    refine ⟨fun b o e => hkeep b o (U.base b o e), ?_, ⟨_, x.toInCall.ns, fun y d hy hl => ?_⟩, fun y d hy hl => ?_, fun y c hy => ?_, fun y z c hy hz => ?_, (fun p hp => by cases hp), List.nodup_nil, live.keeps hkeep⟩
    · rintro a (q | q)
      · exact U.new a q
      · cases e : C.h₀.get? a with
        | none => rfl
        | some o => have := U.base a o e; rw [hmu a q] at this; cases this
    · obtain ⟨v, h1, h2⟩ := bindL_get (kindOf := (callEnvC fd s.heap.objs.size f).kindOf) hl (m := fun _ => none) par hy
      exact ⟨v, h1, h2.move mv⟩
    · have hnl : (callEnvC fd s.heap.objs.size f).kindOf y ≠ some .local := fun q => by
        have hl' : (callEnvC fd s.heap.objs.size f).kindOf y = some .cell ∨ (callEnvC fd s.heap.objs.size f).kindOf y = some .free := hl
        rw [q] at hl'; rcases hl' with h | h <;> cases h
      obtain ⟨v, h1, h2⟩ := bindC_get (kindOf := (callEnvC fd s.heap.objs.size f).kindOf) hnl (m := fun _ => none) par hy
      have hyr : y ∈ ρ.map (·.1) := get_mem hy
      rcases hkind (s.heap.objs.size + 1) y hyr with q | ⟨q, qc⟩
      · exact absurd q hnl
      · obtain ⟨c, hc⟩ := Option.isSome_iff_exists.mp qc
        have := x.cell y c hc
        rw [h1] at this
        exact ⟨c, v, hc, this, h2.move mv⟩
    · exact ⟨_, x.cell y c hy⟩
    · exact name_of_addr x.apart (mem_of_lookup hy) (mem_of_lookup hz)
  refine wpAny_mono ((h s.heap.objs.size).run s₁ hs1) (fun fl s' out => ?_) fun _ _ e => e.elim
  obtain ⟨fl', ρ', ω', hf, hs', st, hK⟩ := out
  have kp : Kp s s' := by
    obtain ⟨h2, t2, e2⟩ := st.same
    refine ⟨h2, t2, by rw [e2, es], fun b o e => ?_⟩
    have h3 : s'.heap.get? b = some o := st.keep b o (fun q => by rw [hmu b q] at e; cases e) (hkeep b o e)
    rw [e2] at h3; exact h3
  cases fl' with
  | ret d => cases fl with
    | ret v =>
      have hf' : Is ((C.into fd f s.heap.objs.size).Z Z ω') s'.heap v d := hf
      exact ⟨_, rfl, kp, d, hf'.move fun b o hz e => ⟨fun q => hz (.inl q), e⟩, hK⟩
    | _ => exact hf.elim
  | next => cases fl with
    | next => exact ⟨_, rfl, kp, .none, .none, hK⟩
    | _ => exact hf.elim
  | brk => exact hK.elim
  | cont => exact hK.elim
theorem enter {C : Cx} {f : Addr} {fd : FuncData} {body : List Stmt} {l : Nat} {as : List D} {K : D → Prop} (G : Ground0 C) (fo : FnOk C f fd body) (room : Room C.A (l + 1)) (ρ : Loc)
    (hbind : ∀ (Z : Addr → Prop) s vs, Und C Z s → IsAll Z s.heap vs as → ∃ binds, BindsTo s fd ⟨vs, []⟩ binds ∧ Par Z s.heap binds ρ)
    (hkind : ∀ n, ∀ x ∈ ρ.map (·.1), fd.scope.names.lookup x = some .local ∨ (fd.scope.names.lookup x = some .cell ∧ ((cellsFrom n fd.scope.names []).lookup x).isSome = true))
    (h : ∀ L, Exs (C.into fd f L) ρ [] body (fun fl _ _ => match fl with | .ret d => K d | .next => K .none | _ => False)) : DoC C (.ref f) as K := (enterK G fo room ρ hbind hkind h).doc
end Mine
namespace Mine
/-- two contexts of one program -/
structure Kin (C C' : Cx) : Prop where
  prog : C'.prog = C.prog
  w : C'.w = C.w
  h₀ : C'.h₀ = C.h₀
  mg : C'.mg = C.mg
  mb : C'.mb = C.mb
theorem enter' {C : Cx} {f : Addr} {fd : FuncData} {body : List Stmt} {l : Nat} {as : List D} {K : D → Prop} (G : Ground0 C) (room : Room C.A (l + 1)) (ρ : Loc) (fo : FnOk C f fd body)
    (hbind : ∀ (Z : Addr → Prop) s vs, Und C Z s → IsAll Z s.heap vs as → ∃ binds, BindsTo s fd ⟨vs, []⟩ binds ∧ Par Z s.heap binds ρ)
    (hkind : ∀ n, ∀ x ∈ ρ.map (·.1), fd.scope.names.lookup x = some .local ∨ (fd.scope.names.lookup x = some .cell ∧ ((cellsFrom n fd.scope.names []).lookup x).isSome = true))
    (h : ∀ C', C'.Ok l → Kin C C' → C'.env.scope.names = fd.scope.names → (∀ n, n = C'.env.locals → C'.env.cells = cellsFrom (n + 1) fd.scope.names []) → Exs C' ρ [] body (fun fl _ _ => match fl with | .ret d => K d | .next => K .none | _ => False)) : DoC C (.ref f) as K :=
  enter G fo room ρ hbind hkind fun L => h _ (G.ok fo room) ⟨rfl, rfl, rfl, rfl, rfl⟩ rfl fun n hn => by subst hn; rfl
theorem enterK' {C : Cx} {f : Addr} {fd : FuncData} {body : List Stmt} {l : Nat} {as : List D} {K : D → Prop} (G : Ground0 C) (room : Room C.A (l + 1)) (ρ : Loc) (fo : FnOk C f fd body)
    (hbind : ∀ (Z : Addr → Prop) s vs, Und C Z s → IsAll Z s.heap vs as → ∃ binds, BindsTo s fd ⟨vs, []⟩ binds ∧ Par Z s.heap binds ρ)
    (hkind : ∀ n, ∀ x ∈ ρ.map (·.1), fd.scope.names.lookup x = some .local ∨ (fd.scope.names.lookup x = some .cell ∧ ((cellsFrom n fd.scope.names []).lookup x).isSome = true))
    (h : ∀ C', C'.Ok l → Kin C C' → C'.env.scope.names = fd.scope.names → (∀ n, n = C'.env.locals → C'.env.cells = cellsFrom (n + 1) fd.scope.names []) → Exs C' ρ [] body (fun fl _ _ => match fl with | .ret d => K d | .next => K .none | _ => False)) : CodeC C (.ref f) as K :=
  enterK G fo room ρ hbind hkind fun L => h _ (G.ok fo room) ⟨rfl, rfl, rfl, rfl, rfl⟩ rfl fun n hn => by subst hn; rfl
theorem ints_all {Z : Addr → Prop} {h : Heap} : ∀ {vs : List Value} {ns : List Int}, IntsAre vs ns → IsAll Z h vs (ns.map .int)
  | _, _, .nil => .nil
  | _, _, .cons _ _ x => .cons .int (ints_all x)
/-- a law's call, under the claim's caller -/
theorem law_run {prog : Program} {w : World} {s₁ : Shared} {fa la : Addr} {vs : List Value} {ns : List Int} {mg mb : Str → Option Value} {env : Env} {R : Result → Shared → Prop}
    (h : CodeC ⟨prog, w, callerA, env, s₁.heap, mg, mb⟩ (.ref fa) [.list (ns.map .int)] (fun d => d = .bool true)) (hL : s₁.heap.IsList la vs.toArray) (hI : IntsAre vs ns)
    (hR : ∀ s', Kp s₁ s' → R (.ok (.ret (.bool true))) s') : codeAny (model prog w) callerA (.call (.ref fa) ⟨[.ref la], []⟩) R s₁ := by
  refine codeAny_mono (h.run (Z := fun _ => False) s₁ [.ref la] ⟨(fun _ h => h.elim), (fun _ _ e => e), (fun _ h => h.elim)⟩ (.one (.list (fun h => h) hL (ints_all hI)))) fun r s' x => ?_
  obtain ⟨v, rfl, k, d, i, rfl⟩ := x
  cases i
  exact hR s' k
end Mine

namespace Mine

theorem mkS_append (x y : List Nat) : mkS x ++ mkS y = mkS (x ++ y) := by
  show Str.mk (x.toArray ++ y.toArray) = _
  simp [mkS]
theorem mkS_length (x : List Nat) : (mkS x).length = x.length := by simp [Str.length]
theorem mkS_beq (x y : List Nat) : (mkS x == mkS y) = decide (x = y) := by
  by_cases h : x = y
  · subst h; simp
  · simp only [h, decide_false, beq_eq_false_iff_ne, ne_eq, mkS, Str.mk.injEq]
    intro e; exact h (by simpa using e)

section
variable {C : Cx} {l : Nat} {K : D → Prop} {a b : Int} {x y : List Nat}

theorem do_add_int (h : K (.int (a + b))) : Do2 C (binaryOp .Add) (.int a) (.int b) K := .mk fun s v w U i j => by
  cases i; cases j; exact PyProof.Rows.add_int ⟨Kp.tok _ _, _, .int, h⟩
theorem do_sub_int (h : K (.int (a - b))) : Do2 C (binaryOp .Sub) (.int a) (.int b) K := .mk fun s v w U i j => by
  cases i; cases j; exact PyProof.Rows.sub_int ⟨Kp.tok _ _, _, .int, h⟩
theorem do_mul_int (hm : a.natAbs < 2 ^ 40) (hm' : b.natAbs < 2 ^ 40) (h : K (.int (a * b))) : Do2 C (binaryOp .Mult) (.int a) (.int b) K := .mk fun s v w U i j => by
  cases i; cases j; exact PyProof.Rows.mul_int ⟨Kp.tok _ _, _, .int, h⟩
theorem do_fdiv_int (h0 : 0 < b) (hb : b < 1073741824) (h : K (.int (a / b))) : Do2 C (binaryOp .FloorDiv) (.int a) (.int b) K := .mk fun s v w U i j => by
  cases i; cases j
  refine PyProof.Rows.floordiv_int (by omega) ⟨Kp.tok _ _, _, .int, ?_⟩ (.inl (PyProof.noPylong_small (by omega)))
  rw [Int.fdiv_eq_ediv_of_nonneg _ (by omega)]; exact h
theorem do_mod_int (h0 : 0 < b) (hb : b < 1073741824) (h : K (.int (a % b))) : Do2 C (binaryOp .Mod) (.int a) (.int b) K := .mk fun s v w U i j => by
  cases i; cases j
  refine PyProof.Rows.mod_int' (by omega) ⟨Kp.tok _ _, _, .int, ?_⟩ 
  rw [Int.fmod_eq_emod_of_nonneg _ (by omega)]; exact h
theorem do_add_str (hl : x.length + y.length ≤ lim) (h : K (.str (x ++ y))) : Do2 C (binaryOp .Add) (.str x) (.str y) K := .mk fun s v w U i j => by
  cases i; cases j
  exact PyProof.Rows.add_str (fun t' tk => ⟨Kp.tok _ _, _, by rw [mkS_append]; exact .str, h⟩) (by rw [mkS_length, mkS_length]; exact lim_le hl)
theorem do_iadd_str (hl : x.length + y.length ≤ lim) (h : K (.str (x ++ y))) : Do2 C (inplaceOp .Add) (.str x) (.str y) K := .mk fun s v w U i j => by
  cases i; cases j
  exact PyProof.Rows.iadd_str (fun t' tk => ⟨Kp.tok _ _, _, by rw [mkS_append]; exact .str, h⟩) (by rw [mkS_length, mkS_length]; exact lim_le hl)
theorem do_iadd_int (h : K (.int (a + b))) : Do2 C (inplaceOp .Add) (.int a) (.int b) K := .mk fun s v w U i j => by
  cases i; cases j; exact PyProof.Rows.iadd_int ⟨Kp.tok _ _, _, .int, h⟩
theorem do_isub_int (h : K (.int (a - b))) : Do2 C (inplaceOp .Sub) (.int a) (.int b) K := .mk fun s v w U i j => by
  cases i; cases j; exact PyProof.Rows.isub_int ⟨Kp.tok _ _, _, .int, h⟩

theorem do_eq_int (h : K (.bool (decide (a = b)))) : Do2 C (compareOp .Eq) (.int a) (.int b) K := .mk fun s v w U i j => by
  cases i; cases j; exact PyProof.Rows.eq_int ⟨Kp.refl _, _, .bool, by rw [show (a == b) = decide (a = b) from rfl]; exact h⟩
theorem do_ne_int (h : K (.bool (decide (a ≠ b)))) : Do2 C (compareOp .NotEq) (.int a) (.int b) K := .mk fun s v w U i j => by
  cases i; cases j; exact PyProof.Rows.ne_int ⟨Kp.refl _, _, .bool, by rw [show (a != b) = decide (a ≠ b) from by simp [bne, decide_not]; rfl]; exact h⟩
theorem do_lt_int (h : K (.bool (decide (a < b)))) : Do2 C (compareOp .Lt) (.int a) (.int b) K := .mk fun s v w U i j => by
  cases i; cases j; exact PyProof.Rows.lt_int ⟨Kp.refl _, _, .bool, h⟩
theorem do_le_int (h : K (.bool (decide (a ≤ b)))) : Do2 C (compareOp .LtE) (.int a) (.int b) K := .mk fun s v w U i j => by
  cases i; cases j; exact PyProof.Rows.le_int ⟨Kp.refl _, _, .bool, h⟩
theorem do_gt_int (h : K (.bool (decide (b < a)))) : Do2 C (compareOp .Gt) (.int a) (.int b) K := .mk fun s v w U i j => by
  cases i; cases j; exact PyProof.Rows.gt_int ⟨Kp.refl _, _, .bool, h⟩
theorem do_ge_int (h : K (.bool (decide (b ≤ a)))) : Do2 C (compareOp .GtE) (.int a) (.int b) K := .mk fun s v w U i j => by
  cases i; cases j; exact PyProof.Rows.ge_int ⟨Kp.refl _, _, .bool, h⟩
theorem do_eq_str (h : K (.bool (decide (x = y)))) : Do2 C (compareOp .Eq) (.str x) (.str y) K := .mk fun s v w U i j => by
  cases i; cases j; exact PyProof.Rows.eq_str ⟨Kp.refl _, _, .bool, by rw [mkS_beq]; exact h⟩
theorem do_ne_str (h : K (.bool (decide (x ≠ y)))) : Do2 C (compareOp .NotEq) (.str x) (.str y) K := .mk fun s v w U i j => by
  cases i; cases j; exact PyProof.Rows.ne_str ⟨Kp.refl _, _, .bool, by rw [bne, mkS_beq, ← decide_not]; exact h⟩
theorem found_one (x : List Nat) (c : Nat) : (!(Builtin.Str.occurrences (mkS x) (mkS [c]) 0 (mkS x).length 1).isEmpty) = decide (c ∈ x) := by
  have := StrLaws.found_one (mkS x) c
  simpa using this
theorem do_in_str {c : Nat} (h : K (.bool (decide (c ∈ x)))) : Do2 C (compareOp .In) (.str [c]) (.str x) K := .mk fun s v w U i j => by
  cases i; cases j; exact PyProof.Rows.in_str ⟨Kp.refl _, _, .bool, by rw [found_one]; exact h⟩
theorem do_notin_str {c : Nat} (h : K (.bool (decide (c ∉ x)))) : Do2 C (compareOp .NotIn) (.str [c]) (.str x) K := .mk fun s v w U i j => by
  cases i; cases j; exact PyProof.Rows.notIn_str ⟨Kp.refl _, _, .bool, by rw [found_one, ← decide_not]; exact h⟩
theorem do_neg_int (h : K (.int (-a))) : Do1 C (unaryOp .USub) (.int a) K := .mk fun s v U i => by
  cases i; exact PyProof.Rows.neg_int ⟨Kp.tok _ _, _, .int, h⟩
theorem do_not {d : D} (h : Tr1 C d (fun b => K (.bool (!b)))) : Do1 C (unaryOp .Not) d K := .mk fun s v U i =>
  not_of (wpAny_mono (h.run s v U i) (fun b s' ⟨k, hk⟩ => ⟨k, _, .bool, hk⟩) fun _ _ e => e)

theorem tr_bool {c : Bool} {K : Bool → Prop} (h : K c) : Tr1 C (.bool c) K := .mk fun s v U i => by
  cases i; exact wpAny_truthy_bool ⟨Kp.refl _, h⟩
theorem tr_int {K : Bool → Prop} (h : K (decide (a ≠ 0))) : Tr1 C (.int a) K := .mk fun s v U i => by
  cases i; exact PyProof.Rows.truthy_int ⟨Kp.refl _, by rw [show (a != 0) = decide (a ≠ 0) from by simp [bne, decide_not]; rfl]; exact h⟩
theorem tr_str (hl : x.length ≤ lim) {K : Bool → Prop} (h : K (decide (x ≠ []))) : Tr1 C (.str x) K := .mk fun s v U i => by
  cases i
  simp only [lim] at hl
  refine SBL.truthy (by rw [mkS_length]; omega) ⟨Kp.tok _ _, ?_⟩
  rw [mkS_length]
  have : ((x.length : Int) != 0) = decide (x ≠ []) := by cases x <;> simp <;> omega
  rw [this]; exact h
end
end Mine

namespace Mine

/-- a text's lines -/
def linesGo : List Nat → Bool → List Nat → List (List Nat)
  | cur, _, [] => if cur = [] then [] else [cur]
  | cur, cr, c :: r =>
    if cr = true ∧ c = 10 then linesGo cur false r
    else if Unicode.isLineBreak c = true then cur :: linesGo [] (decide (c = 13)) r
    else linesGo (cur ++ [c]) false r
def linesL (l : List Nat) : List (List Nat) := linesGo [] false l

theorem linesGo_cr {cur : List Nat} {r : List Nat} (h : r.head? ≠ some 10) : linesGo cur true r = linesGo cur false r := by
  cases r with
  | nil => rfl
  | cons c r =>
    have hc : c ≠ 10 := fun e => h (by simp [e])
    simp only [linesGo, hc, and_false, if_false, Bool.false_eq_true, false_and]

open StrLaws in
theorem ls_lines (l : List Nat) : ∀ (m cur : Nat) (st : LsSt), cur + m = l.length → st.2 ≤ cur + 1 → (cur < st.2 → l[cur]? = some 10) →
    (lsEnd (mkS l) (Id.run (forIn (m := Id) (List.range' cur m) st (lsBody (mkS l))))).map (fun p => Builtin.Str.strSub (mkS l) p.1 p.2.1) =
      st.1.toList.map (fun p => Builtin.Str.strSub (mkS l) p.1 p.2.1) ++ (linesGo ((l.take cur).drop st.2) (decide (cur < st.2)) (l.drop cur)).map mkS
  | 0, cur, (lines, start), hm, h1, h2 => by
    have hcur : cur = l.length := by omega
    subst hcur
    simp only [List.range'_zero, List.forIn_nil, Id.run, pure, lsEnd, mkS_length, List.take_length, List.drop_length, linesGo]
    by_cases hs : start < l.length
    · have : l.drop start ≠ [] := by intro e; have := congrArg List.length e; simp at this; omega
      simp [hs, this, Builtin.Str.strSub, mkS]
      exact List.take_of_length_le (by simp)
    · have : l.drop start = [] := List.drop_of_length_le (by omega)
      simp [hs, this]
  | m + 1, cur, (lines, start), hm, h1, h2 => by
    have hlt : cur < l.length := by omega
    rw [List.range'_succ, List.forIn_cons]
    have hget : (mkS l).cps.getD cur 0 = l[cur] := by simp [mkS, Array.getD, hlt]
    have hdrop : l.drop cur = l[cur] :: l.drop (cur + 1) := List.drop_eq_getElem_cons hlt
    have htake : l.take (cur + 1) = l.take cur ++ [l[cur]] := by rw [List.take_succ_eq_append_getElem hlt]
    have a1 : start ≤ cur + 1 := h1
    have a2 : cur < start → l[cur]? = some 10 := h2
    unfold lsBody
    by_cases hst : start ≤ cur
    · have hn : ¬ cur < start := by omega
      by_cases hb : Unicode.isLineBreak l[cur] = true
      · simp only [hst, decide_true, Bool.true_and, hget, hb, if_true, pure_bind]
        have key := ls_lines l m (cur + 1) (lines.push (start, cur, lsNext (mkS l) cur), lsNext (mkS l) cur) (by omega) (by have := lsNext_bounds (mkS l) cur; show lsNext (mkS l) cur ≤ _; omega) ?_
        · refine key.trans ?_
          simp only [Array.toList_push, List.map_append, List.map_cons, List.map_nil, List.append_assoc]
          congr 1
          have e1 : Builtin.Str.strSub (mkS l) start cur = mkS ((l.take cur).drop start) := by
            apply congrArg Str.mk
            apply Array.ext'
            simp [mkS, List.drop_take]
          rw [e1, hdrop]
          simp only [hn, decide_false, linesGo, Bool.false_eq_true, false_and, if_false, hb, if_true, List.map_cons, List.singleton_append]
          congr 2
          have e2 : (l.take (cur + 1)).drop (lsNext (mkS l) cur) = [] := List.drop_of_length_le (by have := lsNext_bounds (mkS l) cur; simp; omega)
          rw [e2]
          unfold lsNext
          rw [hget]
          by_cases hc : l[cur] = 13
          · by_cases hd : (mkS l).cps[cur + 1]? = some 10
            · simp [hc, hd]
            · have hd' : (l.drop (cur + 1)).head? ≠ some 10 := by
                rw [List.head?_drop]; simpa [mkS] using hd
              simp only [hc, beq_self_eq_true, Bool.true_and, beq_iff_eq, hd, if_false, decide_true]
              rw [linesGo_cr hd']; simp
          · have : (l[cur] == 13) = false := by simpa using hc
            simp [this, hc]
        · show cur + 1 < lsNext (mkS l) cur → _
          intro hx
          unfold lsNext at hx
          split at hx
          · rename_i hq
            simp only [Bool.and_eq_true, beq_iff_eq] at hq
            simpa [mkS] using hq.2
          · omega
      · simp only [hst, decide_true, Bool.true_and, hget, hb, Bool.false_eq_true, if_false, pure_bind]
        have key := ls_lines l m (cur + 1) (lines, start) (by omega) (by show start ≤ _; omega) (fun hx => by have : cur + 1 < start := hx; omega)
        refine key.trans ?_
        congr 2
        rw [hdrop]
        have hn' : ¬ cur + 1 < start := by omega
        simp only [hn, hn', decide_false, linesGo, Bool.false_eq_true, false_and, if_false, hb]
        rw [htake, List.drop_append_of_le_length (by simp; omega)]
    · have hcs : cur < start := by omega
      have hs1 : start = cur + 1 := by omega
      have h10 : l[cur] = 10 := by have := a2 hcs; simpa [hlt] using this
      simp only [hst, decide_false, Bool.false_and, Bool.false_eq_true, if_false, pure_bind]
      have key := ls_lines l m (cur + 1) (lines, start) (by omega) (by show start ≤ _; omega) (fun hx => by have : cur + 1 < start := hx; omega)
      refine key.trans ?_
      congr 2
      rw [hdrop, h10]
      have hn' : ¬ cur + 1 < start := by omega
      simp only [hcs, hn', decide_false, decide_true, linesGo, and_self, if_true]
      congr 1
      rw [List.drop_of_length_le (by simp; omega), List.drop_of_length_le (by simp; omega)]
termination_by m => m

theorem linesOf_eq (l : List Nat) : linesOf (mkS l) = (linesL l).map mkS := by
  have h := ls_lines l l.length 0 (#[], 0) (by omega) (by show 0 ≤ 1; omega) (fun h => by have : 0 < 0 := h; omega)
  have e : linesOf (mkS l) = (Builtin.Str.lineSpans (mkS l)).map fun p => Builtin.Str.strSub (mkS l) p.1 p.2.1 := by
    unfold linesOf lineCuts
    rw [List.map_map]; rfl
  rw [e, StrLaws.ls_eq, mkS_length, h]
  simp [linesL]

def rstripL (l : List Nat) : List Nat := (l.reverse.dropWhile Unicode.isSpace).reverse
theorem rstrip_eq (l : List Nat) : Txt.rstrip (mkS l) = mkS (rstripL l) := by
  unfold Txt.rstrip
  rw [PyProof.Rows.stripBy_eq]
  apply congrArg Str.mk
  apply Array.ext'
  simp only [stripLo, stripHi, mkS_length, if_true, Bool.false_eq_true, if_false, List.drop_zero, mkS]
  simp only [List.extract_toArray, List.extract_eq_drop_take, List.drop_zero, Nat.sub_zero]
  unfold rstripL
  have h := List.takeWhile_append_dropWhile (p := Unicode.isSpace) (l := l.reverse)
  have e : l = (l.reverse.dropWhile Unicode.isSpace).reverse ++ (l.reverse.takeWhile Unicode.isSpace).reverse := by
    rw [← List.reverse_append, h, List.reverse_reverse]
  have hlen : l.length - (l.reverse.takeWhile Unicode.isSpace).length = (l.reverse.dropWhile Unicode.isSpace).reverse.length := by
    have := congrArg List.length e
    simp only [List.length_append, List.length_reverse] at this ⊢
    omega
  rw [hlen]
  conv => lhs; rw [e]
  simp
def endsL (x y : List Nat) : Bool := decide (y.length ≤ x.length) && decide (x.drop (x.length - y.length) = y)
theorem endswith_eq (x y : List Nat) : Txt.endswith (mkS x) (mkS y) = endsL x y := by
  unfold Txt.endswith endsL
  rw [StrLaws.subAt_eq, mkS_length, mkS_length, Nat.zero_add]
  by_cases h : y.length ≤ x.length
  · simp only [h, decide_true, Bool.true_and]
    have : (x.drop (x.length - y.length)).take y.length = x.drop (x.length - y.length) := List.take_of_length_le (by simp; omega)
    simp only [mkS, this]
    by_cases e : x.drop (x.length - y.length) = y <;> simp [e]
  · simp [h]
def joinL (sep : List Nat) : List (List Nat) → List Nat
  | [] => []
  | [x] => x
  | x :: y :: r => x ++ sep ++ joinL sep (y :: r)
theorem join_eq (sep : List Nat) : ∀ parts : List (List Nat), Txt.join (mkS sep) (parts.map mkS) = mkS (joinL sep parts) := by
  intro parts
  unfold Txt.join
  rw [StrLaws.glued_eq_join]
  induction parts with
  | nil => rfl
  | cons x r ih =>
    cases r with
    | nil => rfl
    | cons y r =>
      simp only [List.map_cons] at ih ⊢
      rw [Str.join, ih]
      · simp only [joinL, mkS_append]
      · simp
theorem joinL_nil (parts : List (List Nat)) : joinL [] parts = parts.flatten := by
  induction parts with
  | nil => rfl
  | cons x r ih =>
    cases r with
    | nil => simp [joinL]
    | cons y r => simp only [joinL, ih, List.append_nil, List.flatten_cons]

section
variable {C : Cx} {l : Nat} {K : D → Prop} {a b : Int} {x y : List Nat}
theorem doc_len_str (hl : x.length ≤ lim) (h : K (.int x.length)) : DoC C (.builtin "len") [.str x] K := .mk fun s vs U i => by
  cases i with | cons i j => cases j; cases i
                             simp only [lim] at hl
                             exact SBL.len (by rw [mkS_length]; omega) ⟨Kp.tok _ _, _, .int, by rw [mkS_length]; exact h⟩
theorem doc_ord {c : Nat} (h : K (.int c)) : DoC C (.builtin "ord") [.str [c]] K := .mk fun s vs U i => by
  cases i with | cons i j => cases j; cases i; exact ord_of_one rfl ⟨Kp.tok _ _, _, .int, h⟩
theorem doc_chr (h0 : 0 ≤ a) (h1 : a ≤ 1114111) (h : K (.str [a.toNat])) : DoC C (.builtin "chr") [.int a] K := .mk fun s vs U i => by
  cases i with | cons i j => cases j; cases i; exact chr_of_range h0 h1 ⟨Kp.tok _ _, _, .str, h⟩
theorem doc_rstrip (hl : x.length ≤ lim) (h : K (.str (rstripL x))) : DoC C (.builtin "str.rstrip") [.str x] K := .mk fun s vs U i => by
  cases i with | cons i j => cases j; cases i; exact SC.rstrip (fun t' k => ⟨Kp.tok _ _, _, by rw [rstrip_eq]; exact .str, h⟩) (by rw [mkS_length]; exact lim_le hl)
theorem doc_endswith (h : K (.bool (endsL x y))) : DoC C (.builtin "str.endswith") [.str x, .str y] K := .mk fun s vs U i => by
  cases i with | cons i j => cases j with | cons j k => cases k; cases i; cases j; exact SC.endswith ⟨Kp.refl _, _, .bool, by rw [endswith_eq]; exact h⟩
theorem strsFrom_all {Z : Addr → Prop} {h : Heap} : ∀ (parts : List (List Nat)) (n : Nat), IsAll Z h (strsFrom n (parts.map mkS)) (parts.map .str)
  | [], _ => .nil
  | p :: r, n => .cons .str (strsFrom_all r (n + 1))
theorem linesL_len (x : List Nat) : (linesL x).length ≤ x.length + 1 := by
  have : ∀ (r cur : List Nat) (cr : Bool), (linesGo cur cr r).length ≤ r.length + 1 := by
    intro r
    induction r with
    | nil => intro cur cr; simp only [linesGo]; split <;> simp
    | cons c r ih =>
      intro cur cr
      simp only [linesGo]
      split
      · have := ih cur false; simp; omega
      · split
        · have := ih [] (decide (c = 13)); simp; omega
        · have := ih (cur ++ [c]) false; simp; omega
  exact this x [] false
theorem doc_splitlines (hl : x.length < lim) (h : K (.list ((linesL x).map .str))) : DoC C (.builtin "str.splitlines") [.str x] K := .mk fun s vs U i => by
  cases i with | cons i j => cases j; cases i
                             rename_i t
                             have hln : (lineCuts (mkS x)).length = (linesL x).length := by
                               have := congrArg List.length (linesOf_eq x)
                               unfold linesOf at this; simpa using this
                             refine call_meets F.slot_str_splitlines (typeIs_str _ _ _) F.entry_str_splitlines (F.args_str_splitlines_1 _) (meets_str_splitlines (mkS x) t (by rw [mkS_length]; exact lim_le (by omega)) (by rw [hln]; have := linesL_len x; exact lim_le (by omega))) ?_
                             cases hw : lineCuts (mkS x) == [(0, (mkS x).length)]
                             · simp only [Bool.false_eq_true, if_false]
                               refine ⟨Kp.push_tok _ _ _, _, .list U.live.new ⟨_, Heap.get?_push_size _ rfl, rfl, 0, rfl⟩ ?_, h⟩
                               rw [linesOf_eq]; exact strsFrom_all _ _
                             · simp only [if_true]
                               have e : linesOf (mkS x) = [mkS x] := by
                                 unfold linesOf
                                 rw [eq_of_beq hw]
                                 simp [Builtin.Str.strSub, Str.length, mkS]
                               rw [linesOf_eq] at e
                               have e' : linesL x = [x] := by
                                 cases hq : linesL x with
                                 | nil => rw [hq] at e; cases e
                                 | cons p r =>
                                   rw [hq] at e
                                   simp only [List.map_cons, List.cons.injEq, List.map_eq_nil_iff] at e
                                   obtain ⟨e1, e2⟩ := e
                                   have : p = x := by have := congrArg (fun s => s.cps.toList) e1; simpa using this
                                   rw [this, e2]
                               rw [e'] at h
                               exact ⟨Kp.push _ _, _, .list U.live.new ⟨_, Heap.get?_push_size _ rfl, rfl, 0, rfl⟩ (.cons .str .nil), h⟩
end
end Mine

open PySem PySem.W PySem.Calls PySem.NumText PyProof.Rows
namespace Mine
def hexL : List Nat := [48, 49, 50, 51, 52, 53, 54, 55, 56, 57, 97, 98, 99, 100, 101, 102, 65, 66, 67, 68, 69, 70]
def hv (c : Nat) : Nat := if c ≤ 57 then c - 48 else if 97 ≤ c then c - 87 else c - 55

theorem hex_sign : ∀ c ∈ hexL, ∀ d ∈ hexL, sign ([c, d].dropWhile blank) = (false, [c, d]) ∧ based 16 [c, d] = (16, false, [c, d]) ∧ ([c, d].reverse.dropWhile blank).reverse = [c, d] ∧ digits? 16 [c, d] = some #[hv c, hv d] := by decide +kernel
theorem read16 {c d : Nat} (hc : c ∈ hexL) (hd : d ∈ hexL) : (int_private% "readNumeral") 0 16 [c, d] = (int_private% "Numeral.value") ((hv c * 16 + hv d : Nat) : Int) := by
  obtain ⟨h1, h2, h3, h4⟩ := hex_sign c hc d hd
  rw [readNumeral_eq, h1]
  dsimp only
  rw [h2]
  dsimp only
  rw [h3, h4]
  have e : judge 0 false 16 false (some #[hv c, hv d]) = (int_private% "Numeral.value") (((#[hv c, hv d] : Array Nat).foldl (fun acc d => acc * 16 + d) 0 : Nat) : Int) := rfl
  rw [e]
  congr 2
  simp
theorem wp_text16 {M : Model} {A : Around} {E : Value → Shared → Prop} {s : Shared} {Q : Value → Shared → Prop} {v : Value} {text : List Nat} {n : Int} {b : Nat}
    (hs : (text.takeWhile (· != 0)).length ≤ 640) (hr : (int_private% "readNumeral") 0 b (text.takeWhile (· != 0)) = (int_private% "Numeral.value") n)
    (ha : ((text.takeWhile (· != 0)).length == text.length) = true) (h : Q (.int n s.toks) { s with toks := s.toks + 1 }) :
    wpAny M A ((int_private% "intFromText") v text b) Q E s := by
  obtain ⟨hp, g, d, tk, os⟩ := s
  repeat (any_goals (first
    | assumption
    | (with_reducible refine wpAny_ite_true (decide_eq_true hs) ?_)
    | (with_reducible refine wpAny_ite_true (decide_eq_true ha) ?_)
    | wp_step))
  all_goals (try rw [hr])
  all_goals (try dsimp only)
  repeat (any_goals (first
    | assumption
    | (with_reducible refine wpAny_ite_true (decide_eq_true hs) ?_)
    | (with_reducible refine wpAny_ite_true (decide_eq_true ha) ?_)
    | wp_step))
theorem hex_seen : ∀ c ∈ hexL, ∀ d ∈ hexL, numTextOf (mkS [c, d]) = [c, d] ∧ [c, d].takeWhile (· != 0) = [c, d] := by decide +kernel
theorem gives_text16 {c d : Nat} (hc : c ∈ hexL) (hd : d ∈ hexL) {u v : Tok} : Gives (Builtin.«int.__new__» ⟨[.type "int", .str (mkS [c, d]) u, .int 16 v], []⟩) (.int ((hv c * 16 + hv d : Nat) : Int)) :=
  .of_wp fun M A E s Q h => by
    obtain ⟨hp, g, dr, tk, os⟩ := s
    have f1 := F.conv_sub_int
    have f2 := F.madeHere_int
    have f3 := KIN.str_int
    have f4 := KIN.str_idx
    have f5 := KIN.str_trunc
    have f6 : typeOf (.str (mkS [c, d]) u) = pure (.type "str") := rfl
    have hr := read16 hc hd
    obtain ⟨h1, h2⟩ := hex_seen c hc d hd
    have h1' : (if ((mkS [c, d]).cps.all fun x => decide (x < 128)) = true then (mkS [c, d]).cps.toList else Unicode.numberText (mkS [c, d]).cps.toList) = [c, d] := h1
    have hr' : (int_private% "readNumeral") 0 (Int.toNat 16) [c, d] = (int_private% "Numeral.value") ((hv c * 16 + hv d : Nat) : Int) := hr
    have hk := KIN.Hid.mk (And.intro hr' (And.intro h1' h2))
    clear hr h1 h2 h1' hr'
    repeat (any_goals (first
      | assumption
      | wp_step))
    rw [hk.out.2.1, hk.out.2.2]
    refine wpAny_ite_true (decide_eq_true (show [c, d].length ≤ 640 by simp)) ?_
    refine wpAny_bind (wpAny_pure ?_)
    dsimp only
    rw [hk.out.1]
    dsimp only
    refine wpAny_ite_true (by simp) ?_
    repeat (any_goals (first
      | assumption
      | wp_step))
    all_goals first | exact ⟨_, rfl, h⟩ | skip
theorem typeCall_int_2 (a b : Value) : checkTypeCall "int" ⟨[a, b], []⟩ = pure () := by kernel_rfl
theorem newCall_int_2 (a b : Value) : checkBuiltinCall "int.__new__" ⟨[.type "int", a, b], []⟩ = pure () := by kernel_rfl
theorem doc_int16 {C : Cx} {K : D → Prop} {c d : Nat} (hc : c ∈ hexL) (hd : d ∈ hexL) (h : K (.int ((hv c * 16 + hv d : Nat) : Int))) : DoC C (.type "int") [.str [c, d], .int 16] K := .mk fun s vs U i => by
  cases i with | cons i j => cases j with | cons j k => cases k; cases i; cases j; exact callType_new F.called_int F.newNe_int (typeCall_int_2 _ _) (newCall_int_2 _ _) (fun obj => F.initArgs_range_2 obj _ _) F.entry_int_new (gives_text16 hc hd).meets (show (Made.int _).post _ s from ⟨rfl, ⟨Kp.tok _ _, _, .int, h⟩⟩)
end Mine

namespace Mine
theorem get_put_same {ρ : Loc} {x : Str} {d : D} : get (put ρ x d) x = some d := by rw [get_put, if_pos rfl]
theorem get_put_ne {ρ : Loc} {x y : Str} {d : D} {r : Option D} (h : (y == x) = false) (e : get ρ y = r) : get (put ρ x d) y = r := by
  rw [get_put, if_neg (by simpa using h)]; exact e
theorem ite_dec {p : Prop} [Decidable p] {A B : Prop} (h1 : p → A) (h2 : ¬ p → B) : if decide p = true then A else B := by
  by_cases h : p
  · simp only [h, decide_true, if_true]; exact h1 h
  · simp only [h, decide_false, Bool.false_eq_true, if_false]; exact h2 h
theorem ite_ndec {p : Prop} [Decidable p] {A B : Prop} (h1 : ¬ p → A) (h2 : p → B) : if (!decide p) = true then A else B := by
  by_cases h : p
  · simp only [h, decide_true, Bool.not_true, Bool.false_eq_true, if_false]; exact h2 h
  · simp only [h, decide_false, Bool.not_false, if_true]; exact h1 h
theorem ite_b {b : Bool} {A B : Prop} (h1 : b = true → A) (h2 : b = false → B) : if b = true then A else B := by
  cases b
  · simpa using h2 rfl
  · simpa using h1 rfl
theorem ite_nb {b : Bool} {A B : Prop} (h1 : b = false → A) (h2 : b = true → B) : if (!b) = true then A else B := by
  cases b
  · simpa using h1 rfl
  · simpa using h2 rfl

theorem mg_of {h : Heap} {mg : Str → Option Value} {o : Obj} {es : Array DictEntry} {ep : Nat} (g : h.Ns mainGlobals mg) (ho : h.get? mainGlobals = some o) (hd : o.data = .dict es ep) (x : Str) : mg x = nsFind es x := by
  obtain ⟨o', es', ep', h1, h2, _, h4⟩ := g
  rw [ho] at h1; cases h1
  rw [hd] at h2; cases h2
  exact (h4 x).symm

/-- decode's work upon one line that is not empty -/
def lineGo (eol : List Nat) : List Nat → List Nat
  | [] => []
  | c :: r =>
    if c ≠ 61 then c :: (if r = [] then eol else lineGo eol r)
    else match r with
      | [] => []
      | [a] => 61 :: lineGo eol [a]
      | a :: b :: r' => if a ∈ hexL ∧ b ∈ hexL then (hv a * 16 + hv b) :: (if r' = [] then eol else lineGo eol r') else 61 :: lineGo eol (a :: b :: r')
def lineF (eol : List Nat) (line : List Nat) : List Nat := if rstripL line = [] then eol else lineGo eol (rstripL line)
def decRaw (eol x : List Nat) : List Nat := ((linesL x).map (lineF eol)).flatten
def decF (eol x : List Nat) : List Nat :=
  if x = [] then [] else if x.getLast? ≠ some 13 ∧ x.getLast? ≠ some 10 ∧ endsL (decRaw eol x) eol = true then sl (decRaw eol x) none (some (-(eol.length : Int))) else decRaw eol x
end Mine
namespace Mine
theorem kind_of {C : Cx} {ns : List (Str × NameKind)} {x : Str} {k : NameKind} (h : C.env.scope.names = ns) (e : ns.lookup x = some k) : C.env.kindOf x = some k := by
  unfold Env.kindOf; rw [h]; exact e
end Mine

namespace Mine
theorem lineGo_nil (eol : List Nat) : lineGo eol [] = [] := by unfold lineGo; rfl
theorem lineGo_ne {eol r : List Nat} {c : Nat} (h : c ≠ 61) : lineGo eol (c :: r) = c :: (if r = [] then eol else lineGo eol r) := by
  conv => lhs; unfold lineGo
  simp only [h, ne_eq, not_false_eq_true, if_true]
theorem lineGo_soft (eol : List Nat) : lineGo eol [61] = [] := by unfold lineGo; simp
theorem lineGo_esc {eol r : List Nat} {a b : Nat} (ha : a ∈ hexL) (hb : b ∈ hexL) : lineGo eol (61 :: a :: b :: r) = (hv a * 16 + hv b) :: (if r = [] then eol else lineGo eol r) := by
  conv => lhs; unfold lineGo
  simp [ha, hb]
theorem lineGo_lit1 {eol : List Nat} {a : Nat} : lineGo eol (61 :: [a]) = 61 :: lineGo eol [a] := by
  conv => lhs; unfold lineGo
  simp
theorem lineGo_lit2 {eol r : List Nat} {a b : Nat} (h : ¬ (a ∈ hexL ∧ b ∈ hexL)) : lineGo eol (61 :: a :: b :: r) = 61 :: lineGo eol (a :: b :: r) := by
  conv => lhs; unfold lineGo
  simp [h]
theorem lineGo_len (eol : List Nat) : ∀ (n : Nat) (l : List Nat), l.length ≤ n → (lineGo eol l).length ≤ l.length + eol.length
  | 0, l, h => by
    have : l = [] := List.length_eq_zero_iff.mp (by omega)
    subst this; simp [lineGo]
  | n + 1, [], h => by simp [lineGo]
  | n + 1, c :: r, h => by
    have ih := lineGo_len eol n
    unfold lineGo
    simp only [List.length_cons] at h ⊢
    split
    · split
      · simp; omega
      · have := ih r (by omega); simp; omega
    · cases r with
      | nil => simp
      | cons a r =>
        cases r with
        | nil => have := ih [a] (by simp at h ⊢; omega); simp at this ⊢; omega
        | cons b r =>
          simp only [List.length_cons] at h ⊢
          split
          · split
            · simp; omega
            · have := ih r (by omega); simp; omega
          · have := ih (a :: b :: r) (by simp; omega); simp at this ⊢; omega
theorem rstripL_len (l : List Nat) : (rstripL l).length ≤ l.length := by
  unfold rstripL
  rw [List.length_reverse]
  have := (List.dropWhile_sublist (p := Unicode.isSpace) (l := l.reverse)).length_le
  simpa using this
theorem lineF_len (eol l : List Nat) : (lineF eol l).length ≤ l.length + eol.length := by
  unfold lineF
  split
  · omega
  · have := lineGo_len eol _ (rstripL l) (Nat.le_refl _)
    have := rstripL_len l
    omega
theorem linesGo_sum : ∀ (r cur : List Nat) (cr : Bool), ((linesGo cur cr r).map List.length).sum ≤ cur.length + r.length
  | [], cur, cr => by simp only [linesGo]; split <;> simp
  | c :: r, cur, cr => by
    simp only [linesGo]
    split
    · have := linesGo_sum r cur false; simp; omega
    · split
      · have := linesGo_sum r [] (decide (c = 13)); simp at this ⊢; omega
      · have := linesGo_sum r (cur ++ [c]) false; simp at this ⊢; omega
theorem take_flat_len {α : Type} (ls : List (List α)) (k : Nat) : ((ls.take k).flatten).length ≤ ls.flatten.length := by
  conv => rhs; rw [← List.take_append_drop k ls]
  rw [List.flatten_append, List.length_append]; omega
theorem decRaw_len (eol x : List Nat) : (decRaw eol x).length ≤ (x.length + 1) * (eol.length + 1) := by
  have h : ∀ ls : List (List Nat), ((ls.map (lineF eol)).flatten).length ≤ (ls.map List.length).sum + ls.length * eol.length := by
    intro ls
    induction ls with
    | nil => simp
    | cons a r ih =>
      have := lineF_len eol a
      simp only [List.map_cons, List.flatten_cons, List.length_append, List.sum_cons, List.length_cons, Nat.add_mul, Nat.one_mul]
      omega
  have h1 := h (linesL x)
  have h2 : ((linesL x).map List.length).sum ≤ x.length := by have := linesGo_sum x [] false; simpa [linesL] using this
  have h3 := linesL_len x
  have h4 : (linesL x).length * eol.length ≤ (x.length + 1) * eol.length := Nat.mul_le_mul_right _ h3
  unfold decRaw
  rw [Nat.mul_add]
  omega
theorem line_len (x : List Nat) {k : Nat} {line : List Nat} (h : (linesL x)[k]? = some line) : line.length ≤ x.length := by
  have h2 : ((linesL x).map List.length).sum ≤ x.length := by have := linesGo_sum x [] false; simpa [linesL] using this
  have : ∀ (ls : List (List Nat)) (k : Nat), ls[k]? = some line → line.length ≤ (ls.map List.length).sum := by
    intro ls
    induction ls with
    | nil => intro k h; simp at h
    | cons a r ih =>
      intro k h
      cases k with
      | zero => simp at h; subst h; simp
      | succ k => simp at h; have := ih k h; simp; omega
  have := this _ _ h
  omega
theorem raw_step (eol x : List Nat) {k : Nat} {line : List Nat} (h : (linesL x)[k]? = some line) :
    (((linesL x).take (k + 1)).map (lineF eol)).flatten = (((linesL x).take k).map (lineF eol)).flatten ++ lineF eol line := by
  rw [List.take_add_one, h]; simp
theorem raw_le (eol x : List Nat) (k : Nat) : ((((linesL x).take k).map (lineF eol)).flatten).length ≤ (x.length + 1) * (eol.length + 1) := by
  refine Nat.le_trans ?_ (decRaw_len eol x)
  unfold decRaw
  rw [List.map_take]
  exact take_flat_len _ _
theorem idx_nat {α : Type} (l : List α) (i : Nat) (h : i < l.length) : idx l (i : Int) = some l[i] := by
  unfold idx seqIndex?
  have h1 : ¬ ((i : Int) < 0) := by omega
  simp [h1, h]
theorem idx_last {α : Type} (l : List α) (h : l ≠ []) : idx l (-1) = some (l.getLast h) := by
  have hl : 0 < l.length := List.length_pos_iff.mpr h
  unfold idx seqIndex?
  have h1 : (0 : Int) ≤ -1 + l.length := by omega
  have h2 : (-1 + (l.length : Int)) < l.length := by omega
  have h3 : (-1 + (l.length : Int)).toNat = l.length - 1 := by omega
  simp [h1, h2, h3, List.getLast_eq_getElem]
theorem sl_mid {α : Type} (l : List α) (i j : Nat) (h1 : i ≤ j) (h2 : j ≤ l.length) : sl l (some (i : Int)) (some (j : Int)) = (l.drop i).take (j - i) := by
  unfold sl
  simp only [Option.elim, clipAt_nat]
  have e1 : min i l.length = i := by omega
  have e2 : min j l.length = j := by omega
  simp only [e1, e2]
end Mine
namespace Mine
theorem Pb.mono {C : Cx} {ρ : Loc} {ω : Own} {op : BoolOp} {es : List Expr} {K K' : Bool → Prop} (x : Pb C ρ ω op es K) (h : ∀ d, K d → K' d) : Pb C ρ ω op es K' :=
  .mk fun s hs => wpAny_mono (x.run s hs) (fun _ _ g => ⟨g.1, h _ g.2⟩) fun _ _ e => e
theorem is_lit {Z : Addr → Prop} {h : Heap} {s : Str} {t : Tok} {l : List Nat} (e : s.cps.toList = l) : Is Z h (.str s t) (.str l) := by
  have : s = mkS l := by obtain ⟨a⟩ := s; subst e; simp [mkS]
  rw [this]; exact .str
end Mine

namespace Mine
def closL (cells : List (Str × Addr)) : List (Str × NameKind) → List (Str × Addr) → Option (List (Str × Addr))
  | [], acc => some acc
  | (n, k) :: r, acc => if k == .free then (match cells.lookup n with | some a => closL cells r ((n, a) :: acc) | none => none) else closL cells r acc
theorem closureFor_L {scope : Scope} {env : Env} {cl : List (Str × Addr)} (h : closL env.cells scope.names [] = some cl) : closureFor scope env = pure cl := by
  unfold closureFor
  have key : ∀ (names : List (Str × NameKind)) (acc cl : List (Str × Addr)), closL env.cells names acc = some cl →
      (forIn names acc fun (x : Str × NameKind) (cs : List (Str × Addr)) => if (x.2 == .free) = true then (do let a ← cellOf env x.1; pure (ForInStep.yield ((x.1, a) :: cs))) else pure (ForInStep.yield cs) : Sem _) = pure cl := by
    intro names
    induction names with
    | nil => intro acc cl h; cases h; rfl
    | cons p r ih =>
      obtain ⟨n, k⟩ := p
      intro acc cl h
      rw [List.forIn_cons]
      simp only [closL] at h
      by_cases hk : (k == NameKind.free) = true
      · rw [if_pos hk] at h
        simp only [hk, if_true]
        cases hl : env.cells.lookup n with
        | none => rw [hl] at h; cases h
        | some a =>
          rw [hl] at h
          have e : cellOf env n = pure a := by unfold cellOf; rw [hl]
          rw [e]
          exact ih _ _ h
      · rw [if_neg hk] at h
        simp only [hk, Bool.false_eq_true, if_false]
        exact ih _ _ h
  have k := key _ _ _ h
  show (forIn scope.names [] _ >>= fun cs => pure cs : Sem _) = pure cl
  refine Eq.trans (congrArg (fun t : Sem (List (Str × Addr)) => t >>= fun cs => pure cs) k) ?_
  rfl
theorem relabel_local {scope : Scope} {env : Env} {y : Str} (h : (relabel scope env).names.lookup y = some .local) : scope.names.lookup y = some .local := by
  unfold relabel at h
  dsimp only at h
  generalize scope.names = ns at h
  induction ns with
  | nil => cases h
  | cons p r ih =>
    obtain ⟨n, k⟩ := p
    simp only [List.map_cons] at h
    split at h
    · rename_i q
      rw [List.lookup_cons] at h ⊢
      cases hb : y == n with
      | true => rw [hb] at h; cases h
      | false => rw [hb] at h; exact ih h
    · rw [List.lookup_cons] at h ⊢
      cases hb : y == n with
      | true => rw [hb] at h; exact h
      | false => rw [hb] at h; exact ih h
theorem compOk_of {C : Cx} {scope : Scope} {cl : List (Str × Addr)} {x : Str} (h1 : closL C.env.cells scope.names [] = some cl) (h2 : ∀ y ∈ scope.names, y.2 ≠ .cell) (h3 : scope.kind = .function)
    (h4 : ∀ y ∈ scope.names, y.2 = .local → scope.names.lookup y.1 = some .local) (h5 : scope.names.lookup x = some .local)
    (hs : ∀ p ∈ cl, C.env.cells.lookup p.1 = some p.2 ∧ (C.env.kindOf p.1 = some .cell ∨ C.env.kindOf p.1 = some .free)) (hc : ∀ p ∈ cl, scope.names.lookup p.1 ≠ some .local) : CompOk C scope cl x :=
  ⟨closureFor_L h1, h2, h3, h4, h5, fun y c h => hs (y, c) (PySem.mem_of_lookup h), fun y c h e => hc (y, c) (PySem.mem_of_lookup h) (relabel_local e)⟩

theorem strs_are {Z : Addr → Prop} {h : Heap} : ∀ {vs : List Value} {parts : List (List Nat)}, IsAll Z h vs (parts.map .str) → StrsAre vs (parts.map mkS)
  | _, [], x => by cases x; exact .nil
  | _, p :: r, x => by
    cases x with
    | cons a b => cases a; exact .cons _ _ (strs_are b)
theorem doc_join {C : Cx} {K : D → Prop} {sep : List Nat} {parts : List (List Nat)} (hl : (parts.map List.length).sum + parts.length * sep.length ≤ lim) (h : K (.str (joinL sep parts))) :
    DoC C (.builtin "str.join") [.str sep, .list (parts.map .str)] K := .mk fun s vs U i => by
  cases i with | cons i j => cases j with | cons j k => cases k; cases i; cases j with
    | list hz hl' hi =>
      refine join_list hl' (by simpa using strs_are hi) ?_ ?_
      · have : ((parts.map mkS).map (·.length)).sum = (parts.map List.length).sum := by
          rw [List.map_map]; congr 1
        rw [this, List.length_map, mkS_length]; simpa [lim] using hl
      · intro t' k
        exact ⟨Kp.tok _ _, _, by rw [join_eq]; exact .str, h⟩
/-- the datum of a sign's find -/
def findL (x : List Nat) (c : Nat) (i : Nat) : Int := match (x.drop i).findIdx? (· == c) with
  | some k => ((i + k : Nat) : Int)
  | none => -1
end Mine
namespace Mine
open StrLaws in
theorem at_iff (x : List Nat) (c i : Nat) : At (mkS x) (mkS [c]) (mkS x).length i ↔ x[i]? = some c := by
  unfold At
  rw [subAt_eq, mkS_length, mkS_length]
  constructor
  · rintro ⟨h1, h2⟩
    have hlt : i < x.length := by simp only [List.length_cons, List.length_nil] at h1; omega
    have h2' : (x.drop i).take 1 = [c] := by simpa using h2
    rw [List.drop_eq_getElem_cons hlt] at h2'
    simp only [List.take_succ_cons, List.take_zero, List.cons.injEq, and_true] at h2'
    rw [List.getElem?_eq_getElem hlt, h2']
  · intro h
    obtain ⟨hlt, e⟩ := List.getElem?_eq_some_iff.mp h
    refine ⟨by simp only [List.length_cons, List.length_nil]; omega, ?_⟩
    have : (x.drop i).take 1 = [c] := by rw [List.drop_eq_getElem_cons hlt]; simp [e]
    simpa using this
open StrLaws in
theorem find3_eq (x : List Nat) (c i : Nat) (hi : i ≤ x.length) : Txt.find3 (mkS x) (mkS [c]) (i : Int) = findL x c i := by
  unfold Txt.find3
  have hf : fromIndex (mkS x).length (i : Int) = i := by
    unfold fromIndex
    rw [mkS_length]
    first | omega | (simp; omega) | (split <;> omega)
  rw [hf]
  unfold findL
  rcases occ_head_from (mkS x) (mkS [c]) i 1 (Nat.le_refl _) with ⟨h0, hn⟩ | ⟨k, r, h0, hk, ha, hn⟩
  · rw [h0]
    have : (x.drop i).findIdx? (· == c) = none := by
      rw [List.findIdx?_eq_none_iff]
      intro y hy
      obtain ⟨j, hj, e⟩ := List.mem_iff_getElem.mp hy
      have hj' : x[i + j]? = some y := by rw [← List.getElem?_drop, List.getElem?_eq_getElem hj, e]
      cases hb : y == c with
      | false => rfl
      | true =>
        have hyc : y = c := by simpa using hb
        exact absurd ((at_iff x c (i + j)).mpr (by rw [hj', hyc])) (hn (i + j) (by omega))
    rw [this]
  · rw [h0]
    have hkx := (at_iff x c k).mp ha
    have hlt : k < x.length := (List.getElem?_eq_some_iff.mp hkx).1
    have : (x.drop i).findIdx? (· == c) = some (k - i) := by
      rw [List.findIdx?_eq_some_iff_getElem]
      refine ⟨by simp; omega, ?_, ?_⟩
      · have : (x.drop i)[k - i]? = some c := by rw [List.getElem?_drop, show i + (k - i) = k by omega]; exact hkx
        obtain ⟨h1, h2⟩ := List.getElem?_eq_some_iff.mp this
        rw [h2]; simp
      · intro j hj
        have hjl : i + j < x.length := by omega
        have := mt (at_iff x c (i + j)).mpr (hn (i + j) (by omega) (by omega))
        simp only [List.getElem_drop, beq_iff_eq]
        intro e; exact this (by simp [hjl, e])
    rw [this]
    show (k : Int) = ((i + (k - i) : Nat) : Int)
    omega
theorem doc_find3 {C : Cx} {K : D → Prop} {x : List Nat} {c i : Nat} (hi : i ≤ x.length) (h : K (.int (findL x c i))) : DoC C (.builtin "str.find") [.str x, .str [c], .int i] K := .mk fun s vs U j => by
  cases j with | cons j k => cases k with | cons k l => cases l with | cons l m => cases m; cases j; cases k; cases l; exact SC.find3 ⟨Kp.tok _ _, _, .int, by rw [find3_eq x c i hi]; exact h⟩
end Mine

namespace Mine
/-- a blank that decode takes ahead of a line's end -/
def bk (c : Nat) : Bool := c == 32 || c == 9
def bl : List Nat → Bool
  | [] => false
  | c :: r => if c = 10 then true else if bk c = true then bl r else false
def cut : List Nat → List Nat
  | [] => []
  | c :: r => if c = 10 then r else cut r
theorem cut_len : ∀ r : List Nat, (cut r).length ≤ r.length
  | [] => Nat.le_refl _
  | c :: r => by
    simp only [cut]
    split
    · simp
    · have := cut_len r; simp; omega
def es : List Nat → Bool
  | a :: b :: _ => decide (a ∈ hexL) && decide (b ∈ hexL)
  | _ => false
theorem es_iff {r : List Nat} : es r = true ↔ ∃ a b r', r = a :: b :: r' ∧ a ∈ hexL ∧ b ∈ hexL := by
  constructor
  · intro h
    match r, h with
    | a :: b :: r', h => simp only [es, Bool.and_eq_true, decide_eq_true_eq] at h; exact ⟨a, b, r', rfl, h⟩
    | [], h => cases h
    | [_], h => cases h
  · rintro ⟨a, b, r', rfl, ha, hb⟩; simp [es, ha, hb]
/-- decode of a text, its end apart: all at once that stands there -/
def dd : List Nat → List Nat
  | [] => []
  | c :: r =>
    if c = 61 then
      if es r = true then (hv (r.getD 0 0) * 16 + hv (r.getD 1 0)) :: dd (r.drop 2)
      else if bl r = true then dd (cut r) else 61 :: dd r
    else if bk c = true ∧ bl r = true then dd r else c :: dd r
termination_by l => l.length
decreasing_by
  · simp; omega
  · have := cut_len r; simp; omega
  · simp
  · simp
  · simp
theorem hex_plain : ∀ a ∈ hexL, a ≠ 61 ∧ a ≠ 10 ∧ bk a = false ∧ hv a < 16 ∧ 48 ≤ a ∧ a < 128 := by decide
theorem bl_hex {a : Nat} {r : List Nat} (h : a ∈ hexL) : bl (a :: r) = false := by
  obtain ⟨_, h2, h3, _⟩ := hex_plain a h
  simp [bl, h2, h3]
theorem dd_nil : dd [] = [] := by rw [dd]
theorem dd_esc {a b : Nat} {r : List Nat} (ha : a ∈ hexL) (hb : b ∈ hexL) : dd (61 :: a :: b :: r) = (hv a * 16 + hv b) :: dd r := by
  rw [dd, if_pos rfl, if_pos (es_iff.mpr ⟨a, b, r, rfl, ha, hb⟩)]; rfl
theorem dd_soft {r : List Nat} (h : bl r = true) : dd (61 :: r) = dd (cut r) := by
  rw [dd, if_pos rfl, if_neg, if_pos h]
  intro q
  obtain ⟨a, b, r', rfl, ha, hb⟩ := es_iff.mp q
  rw [bl_hex ha] at h; cases h
theorem dd_lit {r : List Nat} (h : ¬ ∃ a b r', r = a :: b :: r' ∧ a ∈ hexL ∧ b ∈ hexL) (h2 : bl r = false) : dd (61 :: r) = 61 :: dd r := by
  rw [dd, if_pos rfl, if_neg fun q => h (es_iff.mp q), if_neg (by simp [h2])]
theorem dd_blank {c : Nat} {r : List Nat} (h : bk c = true) (h2 : bl r = true) : dd (c :: r) = dd r := by
  have hc : c ≠ 61 := by rintro rfl; revert h; decide
  rw [dd, if_neg hc, if_pos ⟨h, h2⟩]
theorem dd_keep {c : Nat} {r : List Nat} (hc : c ≠ 61) (h : ¬ (bk c = true ∧ bl r = true)) : dd (c :: r) = c :: dd r := by
  rw [dd, if_neg hc, if_neg h]

/-- some of it -/
inductive Dec : List Nat → List Nat → Prop where
  | nil : Dec [] []
  | keep (c : Nat) {r r' : List Nat} : Dec r r' → Dec (c :: r) (c :: r')
  | esc {a b : Nat} {r r' : List Nat} : a ∈ hexL → b ∈ hexL → Dec r r' → Dec (61 :: a :: b :: r) ((hv a * 16 + hv b) :: r')
  | soft {r r' : List Nat} : bl r = true → Dec (cut r) r' → Dec (61 :: r) r'
  | blank {c : Nat} {r r' : List Nat} : bk c = true → bl r = true → Dec r r' → Dec (c :: r) r'
theorem Dec.refl : ∀ l : List Nat, Dec l l
  | [] => .nil
  | c :: r => .keep c (Dec.refl r)
theorem Dec.plain {c : Nat} {r v : List Nat} (h1 : c ≠ 61) (h2 : bk c = false) (h : Dec (c :: r) v) : ∃ v', v = c :: v' ∧ Dec r v' := by
  cases h with
  | keep _ h => exact ⟨_, rfl, h⟩
  | esc => exact absurd rfl h1
  | soft => exact absurd rfl h1
  | blank h => rw [h2] at h; cases h
theorem Dec.line : ∀ {r v : List Nat}, Dec r v → bl r = true → bl v = true ∧ Dec (cut r) (cut v)
  | [], _, _, h => by cases h
  | c :: r, v, d, h => by
    by_cases hc : c = 10
    · subst hc
      obtain ⟨v', rfl, d'⟩ := d.plain (by decide) (by decide)
      exact ⟨by simp [bl], by simpa [cut] using d'⟩
    · simp only [bl, hc, if_false] at h
      split at h
      · rename_i hb
        cases d with
        | keep _ d =>
          obtain ⟨h1, h2⟩ := Dec.line d h
          exact ⟨by simp [bl, hc, hb, h1], by simpa [cut, hc] using h2⟩
        | esc => exact absurd hb (by decide)
        | soft => exact absurd hb (by decide)
        | blank _ _ d =>
          obtain ⟨h1, h2⟩ := Dec.line d h
          exact ⟨h1, by simpa [cut, hc] using h2⟩
      · cases h
theorem tri : ∀ (n : Nat) {t v : List Nat}, t.length ≤ n → Dec t v → Dec v (dd t)
  | _, [], v, _, d => by cases d; rw [dd_nil]; exact .nil
  | 0, c :: r, v, h, d => by simp at h
  | n + 1, c :: r, v, h, d => by
    have ih := fun {t v} (h : t.length ≤ n) (d : Dec t v) => tri n h d
    simp only [List.length_cons] at h
    have hcut := cut_len r
    by_cases hc : c = 61
    · subst hc
      by_cases hesc : ∃ a b r', r = a :: b :: r' ∧ a ∈ hexL ∧ b ∈ hexL
      · obtain ⟨a, b, r', rfl, ha, hb⟩ := hesc
        simp only [List.length_cons] at h
        rw [dd_esc ha hb]
        cases d with
        | keep _ d =>
          obtain ⟨a1, a2, a3, _⟩ := hex_plain a ha
          obtain ⟨b1, b2, b3, _⟩ := hex_plain b hb
          obtain ⟨v1, rfl, d1⟩ := d.plain a1 a3
          obtain ⟨v2, rfl, d2⟩ := d1.plain b1 b3
          exact .esc ha hb (ih (by omega) d2)
        | esc _ _ d => exact .keep _ (ih (by omega) d)
        | soft hbl _ => rw [bl_hex ha] at hbl; cases hbl
        | blank hb' => exact absurd hb' (by decide)
      · cases hbl : bl r with
        | true =>
          rw [dd_soft hbl]
          cases d with
          | keep _ d =>
            obtain ⟨h1, h2⟩ := d.line hbl
            exact .soft h1 (ih (by omega) h2)
          | esc ha hb _ => exact absurd ⟨_, _, _, rfl, ha, hb⟩ hesc
          | soft _ d => exact ih (by omega) d
          | blank hb' => exact absurd hb' (by decide)
        | false =>
          rw [dd_lit hesc hbl]
          cases d with
          | keep _ d => exact .keep _ (ih (by omega) d)
          | esc ha hb _ => exact absurd ⟨_, _, _, rfl, ha, hb⟩ hesc
          | soft h' _ => rw [hbl] at h'; cases h'
          | blank hb' => exact absurd hb' (by decide)
    · by_cases hb : bk c = true ∧ bl r = true
      · rw [dd_blank hb.1 hb.2]
        cases d with
        | keep _ d => exact .blank hb.1 (d.line hb.2).1 (ih (by omega) d)
        | esc => exact absurd rfl hc
        | soft => exact absurd rfl hc
        | blank _ _ d => exact ih (by omega) d
      · rw [dd_keep hc hb]
        cases d with
        | keep _ d => exact .keep _ (ih (by omega) d)
        | esc => exact absurd rfl hc
        | soft => exact absurd rfl hc
        | blank h1 h2 _ => exact absurd ⟨h1, h2⟩ hb
theorem Dec.tri {t v : List Nat} (d : Dec t v) : Dec v (dd t) := Mine.tri _ (Nat.le_refl _) d

def ddn : Nat → List Nat → List Nat
  | 0, t => t
  | n + 1, t => ddn n (dd t)
theorem ddn_succ (n : Nat) (t : List Nat) : ddn (n + 1) t = dd (ddn n t) := by
  induction n generalizing t with
  | zero => rfl
  | succ n ih => exact ih (dd t)
/-- a text that a step made of t: its rounds are t's, and one more -/
theorem rounds {u t : List Nat} (d : Dec u t) : ∀ n, Dec (ddn n t) (ddn (n + 1) u) ∧ Dec (ddn n u) (ddn n t)
  | 0 => ⟨d.tri, d⟩
  | n + 1 => by
    obtain ⟨h1, h2⟩ := rounds d n
    rw [ddn_succ (n + 1) u, ddn_succ n t]
    exact ⟨h1.tri.tri, h1.tri⟩
def Normal (p : List Nat) : Prop := ∀ w, Dec p w → w = p
theorem rounds_one {u t p : List Nat} (hp : Normal p) (d : Dec u t) {n : Nat} (h : ddn n t = p) : ddn (n + 1) u = p := by
  have := (rounds d n).1
  rw [h] at this
  exact hp _ this
theorem Normal.dd {p : List Nat} (hp : Normal p) : dd p = p := hp _ (Dec.refl p).tri
end Mine
namespace Mine
theorem ddn_add (a b : Nat) (t : List Nat) : ddn (a + b) t = ddn a (ddn b t) := by
  induction b generalizing t with
  | zero => rfl
  | succ b ih => exact ih (dd t)
theorem dd_len_go : ∀ (n : Nat) (w : List Nat), w.length ≤ n → (dd w).length ≤ w.length
  | _, [], _ => by rw [dd_nil]; exact Nat.le_refl _
  | 0, c :: w, h => by simp at h
  | n + 1, c :: w, h => by
    have ih := dd_len_go n
    simp only [List.length_cons] at h ⊢
    by_cases hc : c = 61
    · subst hc
      by_cases hes : ∃ a b r', w = a :: b :: r' ∧ a ∈ hexL ∧ b ∈ hexL
      · obtain ⟨a, b, r', rfl, ha, hb⟩ := hes
        rw [dd_esc ha hb]
        simp only [List.length_cons] at h ⊢
        have := ih r' (by omega); omega
      · cases hbl : bl w with
        | true => rw [dd_soft hbl]; have h1 := cut_len w; have := ih (cut w) (by omega); omega
        | false => rw [dd_lit hes hbl]; have := ih w (by omega); simp; omega
    · by_cases hb : bk c = true ∧ bl w = true
      · rw [dd_blank hb.1 hb.2]; have := ih w (by omega); omega
      · rw [dd_keep hc hb]; have := ih w (by omega); simp; omega
theorem dd_len (w : List Nat) : (dd w).length ≤ w.length := dd_len_go _ w (Nat.le_refl _)
end Mine

namespace Mine
/-- a sign that ends a line or is white only if it is one of the three -/
def fine (c : Nat) : Prop := (Unicode.isSpace c = true → bk c = true ∨ c = 10) ∧ (Unicode.isLineBreak c = true → c = 10)
theorem sp_bk : ∀ c, bk c = true → Unicode.isSpace c = true ∧ Unicode.isLineBreak c = false := by
  intro c h
  have : c = 32 ∨ c = 9 := by simpa [bk] using h
  rcases this with rfl | rfl <;> decide +kernel
theorem sp_nl : Unicode.isSpace 10 = true ∧ Unicode.isLineBreak 10 = true := by decide +kernel
theorem sp_eq : Unicode.isSpace 61 = false := by decide +kernel

theorem bl_white {ws r : List Nat} (h : ∀ c ∈ ws, bk c = true) : bl (ws ++ 10 :: r) = true ∧ cut (ws ++ 10 :: r) = r := by
  induction ws with
  | nil => simp [bl, cut]
  | cons c ws ih =>
    have hc := h c (.head _)
    have hn : c ≠ 10 := by rintro rfl; revert hc; decide
    obtain ⟨h1, h2⟩ := ih fun d hd => h d (.tail _ hd)
    exact ⟨by simp [bl, hn, hc, h1], by simpa [cut, hn] using h2⟩
theorem bl_solid {s r : List Nat} (h : ∃ c ∈ s, bk c = false) (h10 : 10 ∉ s) : bl (s ++ r) = false := by
  induction s with
  | nil => obtain ⟨c, hc, _⟩ := h; cases hc
  | cons c s ih =>
    have hn : c ≠ 10 := fun e => h10 (by simp [e])
    cases hb : bk c with
    | false => simp [bl, hn, hb]
    | true =>
      obtain ⟨d, hd, hbd⟩ := h
      have : ∃ c ∈ s, bk c = false := by
        rcases List.mem_cons.mp hd with rfl | hd
        · rw [hb] at hbd; cases hbd
        · exact ⟨d, hd, hbd⟩
      simp [bl, hn, hb, ih this fun q => h10 (.tail _ q)]
theorem bl_none {s : List Nat} (h10 : 10 ∉ s) : bl s = false := by
  induction s with
  | nil => rfl
  | cons c s ih =>
    have hn : c ≠ 10 := fun e => h10 (by simp [e])
    have := ih fun q => h10 (.tail _ q)
    simp [bl, hn, this]
def solid (s : List Nat) : Prop := s = [] ∨ ∃ c, s.getLast? = some c ∧ bk c = false
theorem solid.tail {c : Nat} {s : List Nat} (h : solid (c :: s)) : solid s := by
  cases s with
  | nil => exact .inl rfl
  | cons d s =>
    rcases h with h | ⟨e, he, hb⟩
    · cases h
    · exact .inr ⟨e, by simpa [List.getLast?_cons_cons] using he, hb⟩
theorem solid.ex {s : List Nat} (h : solid s) (hn : s ≠ []) : ∃ c ∈ s, bk c = false := by
  rcases h with h | ⟨e, he, hb⟩
  · exact absurd h hn
  · exact ⟨e, List.mem_of_getLast? he, hb⟩
theorem es_hex {a b : Nat} {r : List Nat} : es (a :: b :: r) = true ↔ a ∈ hexL ∧ b ∈ hexL := by simp [es]

/-- a line that a line feed ends -/
theorem line_dd (ws rest : List Nat) (hw : ∀ c ∈ ws, bk c = true) : ∀ (n : Nat) (s : List Nat), s.length ≤ n → solid s → 10 ∉ s → dd (s ++ (ws ++ 10 :: rest)) = (if s = [] then [10] else lineGo [10] s) ++ dd rest
  | _, [], _, _, _ => by
    simp only [List.nil_append, if_true]
    induction ws with
    | nil => rw [List.nil_append, dd_keep (by decide) (by rintro ⟨q, _⟩; revert q; decide)]; rfl
    | cons c ws ih =>
      have hw' := fun d hd => hw d (List.mem_cons_of_mem _ hd)
      rw [List.cons_append, dd_blank (hw c (.head _)) (bl_white hw').1]
      exact ih hw'
  | 0, c :: s, h, _, _ => by simp at h
  | n + 1, c :: s, h, hs, h10 => by
    have ih := line_dd ws rest hw n
    simp only [List.length_cons] at h
    have h10' : 10 ∉ s := fun q => h10 (.tail _ q)
    have hst := hs.tail
    rw [if_neg (by simp), List.cons_append]
    by_cases hc : c = 61
    · subst hc
      match s, h, hs, hst, h10' with
      | [], h, hs, hst, h10' =>
        rw [lineGo_soft, List.nil_append, dd_soft (bl_white hw).1, (bl_white hw).2]; rfl
      | [a], h, hs, hst, h10' =>
        have hbl : bl ([a] ++ (ws ++ 10 :: rest)) = false := bl_solid (hst.ex (by simp)) h10'
        have hes : ¬ ∃ x y r', [a] ++ (ws ++ 10 :: rest) = x :: y :: r' ∧ x ∈ hexL ∧ y ∈ hexL := by
          rintro ⟨x, y, r', e, hx, hy⟩
          have hy2 : bk y = true ∨ y = 10 := by
            cases ws with
            | nil => simp at e; exact .inr e.2.1.symm
            | cons w ws => simp at e; rw [← e.2.1]; exact .inl (hw w (.head _))
          obtain ⟨_, q2, q3, _⟩ := hex_plain y hy
          rcases hy2 with q | q
          · rw [q3] at q; cases q
          · exact q2 q
        rw [dd_lit hes hbl, ih [a] (by simp at h ⊢; omega) hst h10', lineGo_lit1, if_neg (by simp)]; rfl
      | a :: b :: s', h, hs, hst, h10' =>
        simp only [List.length_cons] at h
        by_cases hx : a ∈ hexL ∧ b ∈ hexL
        · rw [lineGo_esc hx.1 hx.2]
          show dd (61 :: a :: b :: (s' ++ (ws ++ 10 :: rest))) = _
          rw [dd_esc hx.1 hx.2, ih s' (by omega) hst.tail.tail fun q => h10' (.tail _ (.tail _ q))]; rfl
        · have hbl : bl ((a :: b :: s') ++ (ws ++ 10 :: rest)) = false := bl_solid (hst.ex (by simp)) h10'
          have hes : ¬ ∃ x y r', (a :: b :: s') ++ (ws ++ 10 :: rest) = x :: y :: r' ∧ x ∈ hexL ∧ y ∈ hexL := by
            rintro ⟨x, y, r', e, hx', hy'⟩
            simp at e
            obtain ⟨rfl, rfl, _⟩ := e
            exact hx ⟨hx', hy'⟩
          rw [dd_lit hes hbl, ih (a :: b :: s') (by simp; omega) hst h10', lineGo_lit2 hx, if_neg (by simp)]; rfl
    · have hk : ¬ (bk c = true ∧ bl (s ++ (ws ++ 10 :: rest)) = true) := by
        rintro ⟨q1, q2⟩
        have hsn : s ≠ [] := by
          rintro rfl
          rcases hs with h | ⟨e, he, hb⟩
          · cases h
          · simp at he; subst he; rw [q1] at hb; cases hb
        rw [bl_solid (hst.ex hsn) h10'] at q2; cases q2
      rw [dd_keep hc hk, lineGo_ne hc, ih s (by omega) hst h10']; rfl
/-- the last line -/
theorem last_dd : ∀ (n : Nat) (s : List Nat), s.length ≤ n → s ≠ [] → 10 ∉ s → s.getLast? ≠ some 61 → lineGo [10] s = dd s ++ [10]
  | _, [], _, h, _, _ => absurd rfl h
  | 0, c :: s, h, _, _, _ => by simp at h
  | n + 1, c :: s, h, _, h10, hl => by
    have ih := last_dd n
    simp only [List.length_cons] at h
    have h10' : 10 ∉ s := fun q => h10 (.tail _ q)
    have hbl := bl_none h10'
    by_cases hc : c = 61
    · subst hc
      match s, h, h10', hl, hbl with
      | [], h, h10', hl, hbl => exact absurd rfl hl
      | [a], h, h10', hl, hbl =>
        have hes : ¬ ∃ x y r', [a] = x :: y :: r' ∧ x ∈ hexL ∧ y ∈ hexL := by rintro ⟨x, y, r', e, _⟩; simp at e
        rw [lineGo_lit1, dd_lit hes hbl, ih [a] (by simp at h ⊢; omega) (by simp) h10' (by simpa using hl)]; rfl
      | a :: b :: s', h, h10', hl, hbl =>
        simp only [List.length_cons] at h
        by_cases hx : a ∈ hexL ∧ b ∈ hexL
        · rw [lineGo_esc hx.1 hx.2, dd_esc hx.1 hx.2]
          cases s' with
          | nil => rw [dd_nil]; rfl
          | cons d s'' =>
            rw [if_neg (by simp), ih (d :: s'') (by simp at h ⊢; omega) (by simp) (fun q => h10' (.tail _ (.tail _ q))) (by simpa [List.getLast?_cons_cons] using hl)]; rfl
        · have hes : ¬ ∃ x y r', (a :: b :: s') = x :: y :: r' ∧ x ∈ hexL ∧ y ∈ hexL := by
            rintro ⟨x, y, r', e, hx', hy'⟩
            simp at e
            obtain ⟨rfl, rfl, _⟩ := e
            exact hx ⟨hx', hy'⟩
          rw [lineGo_lit2 hx, dd_lit hes hbl, ih (a :: b :: s') (by simp; omega) (by simp) h10' (by simpa [List.getLast?_cons_cons] using hl)]; rfl
    · rw [lineGo_ne hc, dd_keep hc (fun q => by rw [hbl] at q; cases q.2)]
      cases s with
      | nil => rw [dd_nil]; rfl
      | cons d s' => rw [if_neg (by simp), ih (d :: s') (by omega) (by simp) h10' (by simpa [List.getLast?_cons_cons] using hl)]; rfl

theorem linesGo_break {cur line rest : List Nat} (h : ∀ c ∈ line, Unicode.isLineBreak c = false) : linesGo cur false (line ++ 10 :: rest) = (cur ++ line) :: linesL rest := by
  induction line generalizing cur with
  | nil => simp [linesGo, sp_nl.2, linesL]
  | cons c line ih =>
    have hc := h c (.head _)
    rw [List.cons_append, linesGo]
    simp only [Bool.false_eq_true, false_and, if_false, hc]
    rw [ih fun d hd => h d (.tail _ hd)]; simp
theorem linesGo_last {cur line : List Nat} (h : ∀ c ∈ line, Unicode.isLineBreak c = false) : linesGo cur false line = if cur ++ line = [] then [] else [cur ++ line] := by
  induction line generalizing cur with
  | nil => simp [linesGo]
  | cons c line ih =>
    have hc := h c (.head _)
    rw [linesGo]
    simp only [Bool.false_eq_true, false_and, if_false, hc]
    rw [ih fun d hd => h d (.tail _ hd)]; simp
theorem rstrip_split (l : List Nat) : ∃ ws, l = rstripL l ++ ws ∧ (∀ c ∈ ws, Unicode.isSpace c = true) ∧ (rstripL l = [] ∨ ∃ c, (rstripL l).getLast? = some c ∧ Unicode.isSpace c = false) := by
  refine ⟨(l.reverse.takeWhile Unicode.isSpace).reverse, ?_, ?_, ?_⟩
  · unfold rstripL
    rw [← List.reverse_append, List.takeWhile_append_dropWhile, List.reverse_reverse]
  · intro c hc
    have : ∀ (l : List Nat), c ∈ l.takeWhile Unicode.isSpace → Unicode.isSpace c = true := by
      intro l
      induction l with
      | nil => intro h; simp at h
      | cons d l ih =>
        intro h
        rw [List.takeWhile_cons] at h
        split at h
        · rename_i q
          rcases List.mem_cons.mp h with rfl | h
          · exact q
          · exact ih h
        · cases h
    exact this _ (List.mem_reverse.mp hc)
  · unfold rstripL
    cases hd : l.reverse.dropWhile Unicode.isSpace with
    | nil => exact .inl rfl
    | cons c r =>
      refine .inr ⟨c, by simp, ?_⟩
      have := List.head?_dropWhile_not Unicode.isSpace l.reverse
      rw [hd] at this
      simpa using this
theorem rstrip_same {l : List Nat} {c : Nat} (h : l.getLast? = some c) (hc : Unicode.isSpace c = false) : rstripL l = l := by
  unfold rstripL
  cases hr : l.reverse with
  | nil => have : l = [] := by simpa using hr
           subst this; cases h
  | cons d r =>
    have : d = c := by
      have : l.reverse.head? = some c := by rw [List.head?_reverse]; exact h
      rw [hr] at this; simpa using this
    subst this
    rw [List.dropWhile_cons, hc]
    simp only [Bool.false_eq_true, if_false]
    rw [← hr, List.reverse_reverse]
theorem split10 : ∀ w : List Nat, 10 ∈ w → ∃ line rest, w = line ++ 10 :: rest ∧ 10 ∉ line
  | [], h => by cases h
  | c :: w, h => by
    by_cases hc : c = 10
    · exact ⟨[], w, by simp [hc], by simp⟩
    · have : 10 ∈ w := by
        rcases List.mem_cons.mp h with e | e
        · exact absurd e.symm hc
        · exact e
      obtain ⟨line, rest, e, hn⟩ := split10 w this
      exact ⟨c :: line, rest, by simp [e], by simp [Ne.symm hc, hn]⟩
/-- the last sign is none that decode takes at a text's end -/
def endOk (w : List Nat) : Prop := ∀ c, w.getLast? = some c → bk c = false ∧ c ≠ 61
theorem decRaw_dd : ∀ (n : Nat) (w : List Nat), w.length ≤ n → (∀ c ∈ w, fine c) → endOk w → decRaw [10] w = if w = [] ∨ w.getLast? = some 10 then dd w else dd w ++ [10]
  | n, w, hn, hf, he => by
    by_cases h10 : 10 ∈ w
    · obtain ⟨line, rest, rfl, hl⟩ := split10 w h10
      have hlb : ∀ c ∈ line, Unicode.isLineBreak c = false := fun c hc => by
        cases q : Unicode.isLineBreak c with
        | false => rfl
        | true =>
          have := (hf c (by simp [hc])).2 q
          exact absurd (this ▸ hc) hl
      have e1 : linesL (line ++ 10 :: rest) = line :: linesL rest := by
        have := linesGo_break (cur := []) (rest := rest) hlb
        simpa [linesL] using this
      obtain ⟨ws, e2, hws, hsol⟩ := rstrip_split line
      have hwb : ∀ c ∈ ws, bk c = true := fun c hc => by
        have hcl : c ∈ line := by rw [e2]; simp [hc]
        rcases (hf c (by simp [hcl])).1 (hws c hc) with q | q
        · exact q
        · exact absurd (q ▸ hcl) hl
      have hs : solid (rstripL line) := by
        rcases hsol with q | ⟨c, q1, q2⟩
        · exact .inl q
        · refine .inr ⟨c, q1, ?_⟩
          cases hb : bk c with
          | false => rfl
          | true => rw [(sp_bk c hb).1] at q2; cases q2
      have hs10 : 10 ∉ rstripL line := fun q => hl (by rw [e2]; simp [q])
      have e3 : dd (line ++ 10 :: rest) = lineF [10] line ++ dd rest := by
        have := line_dd ws rest hwb _ (rstripL line) (Nat.le_refl _) hs hs10
        rw [← List.append_assoc, ← e2] at this
        rw [this]; rfl
      have e4 : decRaw [10] (line ++ 10 :: rest) = lineF [10] line ++ decRaw [10] rest := by
        unfold decRaw; rw [e1]; simp
      rw [e3, e4]
      cases n with
      | zero => simp at hn
      | succ n =>
        have ih := decRaw_dd n rest (by simp at hn; omega) (fun c hc => hf c (by simp [hc])) (fun c hc => he c (by
          cases rest with
          | nil => cases hc
          | cons d r => simpa [List.getLast?_append, List.getLast?_cons_cons] using hc))
        rw [ih]
        cases rest with
        | nil => simp [List.getLast?_append]
        | cons d r =>
          have : (line ++ 10 :: d :: r).getLast? = (d :: r).getLast? := by rw [List.getLast?_append, List.getLast?_cons_cons, List.getLast?_eq_some_getLast (by simp : d :: r ≠ [])]; rfl
          rw [this]
          have hne : line ++ 10 :: d :: r ≠ [] := by simp
          have hne2 : d :: r ≠ [] := by simp
          simp only [hne, hne2, false_or]
          split <;> simp
    · have hlb : ∀ c ∈ w, Unicode.isLineBreak c = false := fun c hc => by
        cases q : Unicode.isLineBreak c with
        | false => rfl
        | true => exact absurd ((hf c hc).2 q ▸ hc) h10
      have e1 : linesL w = if w = [] then [] else [w] := by
        have := linesGo_last (cur := []) hlb
        simpa [linesL] using this
      by_cases hw : w = []
      · subst hw; simp [decRaw, linesL, linesGo, dd_nil]
      · rw [if_neg hw] at e1
        obtain ⟨c, hc⟩ : ∃ c, w.getLast? = some c := ⟨_, List.getLast?_eq_some_getLast hw⟩
        obtain ⟨q1, q2⟩ := he c hc
        have hcw := List.mem_of_getLast? hc
        have hc10 : c ≠ 10 := fun e => h10 (e ▸ hcw)
        have hsp : Unicode.isSpace c = false := by
          cases q : Unicode.isSpace c with
          | false => rfl
          | true =>
            rcases (hf c hcw).1 q with q | q
            · rw [q1] at q; cases q
            · exact absurd q hc10
        have hrs := rstrip_same hc hsp
        have hnot : ¬ (w = [] ∨ w.getLast? = some 10) := by
          rw [hc]; rintro (q | q)
          · exact hw q
          · exact hc10 (by simpa using q)
        rw [if_neg hnot]
        unfold decRaw
        rw [e1]
        simp only [List.map_cons, List.map_nil, List.flatten_cons, List.flatten_nil, List.append_nil]
        unfold lineF
        rw [hrs, if_neg hw]
        exact last_dd _ w (Nat.le_refl _) hw h10 (by rw [hc]; simpa using q2)
theorem decF_dd {w : List Nat} (hf : ∀ c ∈ w, fine c) (he : endOk w) : decF [10] w = dd w := by
  unfold decF
  by_cases hw : w = []
  · rw [if_pos hw, hw, dd_nil]
  · rw [if_neg hw]
    have key := decRaw_dd _ w (Nat.le_refl _) hf he
    by_cases h10 : w.getLast? = some 10
    · rw [if_pos (Or.inr h10)] at key
      rw [if_neg fun q => q.2.1 h10]; exact key
    · have h13 : w.getLast? ≠ some 13 := fun q => by
        have := (hf 13 (List.mem_of_getLast? q)).2 (by decide +kernel)
        cases this
      have hnot : ¬ (w = [] ∨ w.getLast? = some 10) := fun q => q.elim hw h10
      rw [if_neg hnot] at key
      have hends : endsL (dd w ++ [10]) [10] = true := by simp [endsL]
      rw [key, if_pos ⟨h13, h10, hends⟩]
      unfold sl
      simp only [Option.elim, List.drop_zero, Nat.sub_zero, List.length_cons, List.length_nil, Nat.zero_add]
      rw [clipAt_neg _ 1 (Nat.le_refl _)]
      simp

/-- a sign that decode never takes stays -/
theorem dd_stays {c : Nat} (h1 : c ≠ 61) (h2 : c ∉ hexL) (h3 : bk c = false) (h4 : c ≠ 10) : ∀ (n : Nat) (w : List Nat), w.length ≤ n → c ∈ w → c ∈ dd w
  | _, [], _, h => by cases h
  | 0, d :: w, h, _ => by simp at h
  | n + 1, d :: w, h, hc => by
    have ih := dd_stays h1 h2 h3 h4 n
    simp only [List.length_cons] at h
    have tl : c ≠ d → c ∈ w := fun q => by
      rcases List.mem_cons.mp hc with e | e
      · exact absurd e q
      · exact e
    by_cases hd : d = 61
    · subst hd
      have hcw := tl h1
      by_cases hes : ∃ a b r', w = a :: b :: r' ∧ a ∈ hexL ∧ b ∈ hexL
      · obtain ⟨a, b, r', rfl, ha, hb⟩ := hes
        rw [dd_esc ha hb]
        simp only [List.length_cons] at h
        refine .tail _ (ih r' (by omega) ?_)
        rcases List.mem_cons.mp hcw with e | e
        · exact absurd (e ▸ ha) h2
        · rcases List.mem_cons.mp e with e | e
          · exact absurd (e ▸ hb) h2
          · exact e
      · cases hbl : bl w with
        | true =>
          rw [dd_soft hbl]
          have hl := cut_len w
          refine ih _ (by omega) ?_
          have : ∀ w : List Nat, bl w = true → c ∈ w → c ∈ cut w := by
            intro w
            induction w with
            | nil => intro _ h; cases h
            | cons e w ih =>
              intro hb hm
              simp only [bl] at hb
              split at hb
              · rename_i q
                simp only [cut, q, if_true]
                rcases List.mem_cons.mp hm with e' | e'
                · exact absurd (e'.trans q) h4
                · exact e'
              · rename_i q
                split at hb
                · rename_i qb
                  simp only [cut, q, if_false]
                  rcases List.mem_cons.mp hm with e' | e'
                  · rw [e', qb] at h3; cases h3
                  · exact ih hb e'
                · cases hb
          exact this w hbl hcw
        | false => rw [dd_lit hes hbl]; exact .tail _ (ih w (by omega) hcw)
    · by_cases hb : bk d = true ∧ bl w = true
      · rw [dd_blank hb.1 hb.2]
        exact ih w (by omega) (tl fun e => by rw [e, hb.1] at h3; cases h3)
      · rw [dd_keep hd hb]
        rcases List.mem_cons.mp hc with e | e
        · exact e ▸ .head _
        · exact .tail _ (ih w (by omega) e)
/-- such a last sign stays the last -/
theorem dd_last {c : Nat} (h : bk c = true ∨ c = 61) : ∀ (n : Nat) (w : List Nat), w.length ≤ n → w.getLast? = some c → (dd w).getLast? = some c
  | _, [], _, h => by cases h
  | 0, d :: w, h, _ => by simp at h
  | n + 1, d :: w, hn, hl => by
    have ih := dd_last h n
    simp only [List.length_cons] at hn
    have hc10 : c ≠ 10 := by rcases h with h | h <;> rintro rfl <;> revert h <;> decide
    have hhex : c ∉ hexL := fun q => by
      obtain ⟨q1, _, q3, _⟩ := hex_plain c q
      rcases h with h | h
      · rw [q3] at h; cases h
      · exact q1 h
    cases w with
    | nil =>
      have : d = c := by simpa using hl
      subst this
      by_cases hd : d = 61
      · subst hd
        rw [dd_lit (by rintro ⟨a, b, r', e, _⟩; cases e) rfl, dd_nil]; rfl
      · rw [dd_keep hd (by rintro ⟨_, q⟩; cases q), dd_nil]; rfl
    | cons e w =>
      have hl' : (e :: w).getLast? = some c := by simpa [List.getLast?_cons_cons] using hl
      have tl : ∀ x (l : List Nat), l.getLast? = some c → (x :: l).getLast? = some c := fun x l q => by
        cases l with
        | nil => cases q
        | cons y l => simpa [List.getLast?_cons_cons] using q
      by_cases hd : d = 61
      · subst hd
        by_cases hes : ∃ a b r', (e :: w) = a :: b :: r' ∧ a ∈ hexL ∧ b ∈ hexL
        · obtain ⟨a, b, r', e', ha, hb⟩ := hes
          rw [e'] at hl' ⊢
          rw [dd_esc ha hb]
          cases r' with
          | nil =>
            have : b = c := by simpa [List.getLast?_cons_cons] using hl'
            exact absurd (this ▸ hb) hhex
          | cons y r' =>
            refine tl _ _ (ih (y :: r') ?_ (by simpa [List.getLast?_cons_cons] using hl'))
            have := congrArg List.length e'; simp at this hn ⊢; omega
        · cases hbl : bl (e :: w) with
          | true =>
            rw [dd_soft hbl]
            have hcl := cut_len (e :: w)
            refine ih _ (by omega) ?_
            have : ∀ w : List Nat, bl w = true → w.getLast? = some c → (cut w).getLast? = some c := by
              intro w
              induction w with
              | nil => intro _ h; cases h
              | cons x w ih =>
                intro hb hm
                simp only [bl] at hb
                split at hb
                · rename_i q
                  simp only [cut, q, if_true]
                  cases w with
                  | nil => have : x = c := by simpa using hm
                           exact absurd (this.symm.trans q) hc10
                  | cons y w => simpa [List.getLast?_cons_cons] using hm
                · rename_i q
                  split at hb
                  · rename_i qb
                    simp only [cut, q, if_false]
                    cases w with
                    | nil => cases hb
                    | cons y w => exact ih hb (by simpa [List.getLast?_cons_cons] using hm)
                  · cases hb
            exact this _ hbl hl'
          | false => rw [dd_lit hes hbl]; exact tl _ _ (ih _ (by omega) hl')
      · by_cases hb : bk d = true ∧ bl (e :: w) = true
        · rw [dd_blank hb.1 hb.2]; exact ih _ (by omega) hl'
        · rw [dd_keep hd hb]; exact tl _ _ (ih _ (by omega) hl')
theorem hex_fine : ∀ a ∈ hexL, Unicode.isSpace a = false ∧ Unicode.isLineBreak a = false := by decide +kernel
theorem lb_eq : Unicode.isLineBreak 61 = false := by decide +kernel
theorem fine_of {c : Nat} (h : c = 61 ∨ c ∈ hexL ∨ bk c = true ∨ c = 10) : fine c := by
  rcases h with rfl | h | h | rfl
  · exact ⟨(fun q => by rw [sp_eq] at q; cases q), (fun q => by rw [lb_eq] at q; cases q)⟩
  · exact ⟨(fun q => by rw [(hex_fine c h).1] at q; cases q), (fun q => by rw [(hex_fine c h).2] at q; cases q)⟩
  · exact ⟨fun _ => .inl h, (fun q => by rw [(sp_bk c h).2] at q; cases q)⟩
  · exact ⟨fun _ => .inr rfl, fun _ => rfl⟩
/-- a text whose rounds end in a good one is good -/
theorem good_back {p : List Nat} (hf : ∀ c ∈ p, fine c) (he : endOk p) : ∀ (n : Nat) (w : List Nat), ddn n w = p → (∀ c ∈ w, fine c) ∧ endOk w
  | 0, w, h => by cases h; exact ⟨hf, he⟩
  | n + 1, w, h => by
    obtain ⟨h1, h2⟩ := good_back hf he n (dd w) h
    refine ⟨fun c hc => ?_, fun c hc => ?_⟩
    · by_cases q : c = 61 ∨ c ∈ hexL ∨ bk c = true ∨ c = 10
      · exact fine_of q
      · have q1 : c ≠ 61 := fun e => q (.inl e)
        have q2 : c ∉ hexL := fun e => q (.inr (.inl e))
        have q3 : bk c = false := by cases e : bk c with
          | false => rfl
          | true => exact absurd (.inr (.inr (.inl e))) q
        have q4 : c ≠ 10 := fun e => q (.inr (.inr (.inr e)))
        exact h1 c (dd_stays q1 q2 q3 q4 _ w (Nat.le_refl _) hc)
    · cases hb : bk c with
      | true =>
        have := (h2 c (dd_last (.inl hb) _ w (Nat.le_refl _) hc)).1
        rw [hb] at this; cases this
      | false =>
        refine ⟨rfl, fun e => ?_⟩
        exact (h2 c (dd_last (.inr e) _ w (Nat.le_refl _) hc)).2 e
end Mine

namespace Mine
structure B06 (C : Cx) : Prop where
  X : (hd.heap_39 C.w.params).In C.h₀
  G : Ground0 C
  bl : ∀ x : Str, x ≠ "__name__" → C.mb x = bootBuiltins x
theorem B06.kin {C C' : Cx} (B : B06 C) (k : Kin C C') : B06 C' := ⟨by rw [k.w, k.h₀]; exact B.X, ⟨by rw [k.h₀, k.mg]; exact B.G.g, by rw [k.h₀, k.mb]; exact B.G.b, by rw [k.h₀]; exact B.G.nolimit⟩, by rw [k.mb]; exact B.bl⟩
theorem B06.unquote {C : Cx} (B : B06 C) : C.mg (Str.ofString "unquote") = some (.ref 21) := by rw [mg_of B.G.g (B.X 3 _ rfl) rfl]; rfl
theorem B06.decode {C : Cx} (B : B06 C) : C.mg (Str.ofString "decode") = some (.ref 29) := by rw [mg_of B.G.g (B.X 3 _ rfl) rfl]; rfl
theorem B06.hexdigits {C : Cx} (B : B06 C) : C.mg (Str.ofString "hexdigits") = some (.str (Str.ofString "0123456789abcdefABCDEF") 194) := by rw [mg_of B.G.g (B.X 3 _ rfl) rfl]; rfl
theorem B06.chr {C : Cx} (B : B06 C) : C.mg (Str.ofString "chr") = none ∧ C.mb (Str.ofString "chr") = some (.builtin "chr") := ⟨by rw [mg_of B.G.g (B.X 3 _ rfl) rfl]; rfl, by rw [B.bl _ (by decide)]; exact boot_chr⟩
theorem B06.int {C : Cx} (B : B06 C) : C.mg (Str.ofString "int") = none ∧ C.mb (Str.ofString "int") = some (.type "int") := ⟨by rw [mg_of B.G.g (B.X 3 _ rfl) rfl]; rfl, by rw [B.bl _ (by decide)]; exact boot_int⟩
theorem B06.len {C : Cx} (B : B06 C) : C.mg (Str.ofString "len") = none ∧ C.mb (Str.ofString "len") = some (.builtin "len") := ⟨by rw [mg_of B.G.g (B.X 3 _ rfl) rfl]; rfl, by rw [B.bl _ (by decide)]; exact boot_len⟩
end Mine

namespace Mine
local macro_rules | `(tactic| walk_at "m_get") => `(tactic| first | exact get_put_same | with_reducible assumption | with_unfolding_all rfl | (refine get_put_ne (by decide) ?_; walk_at "m_get"))
local macro_rules | `(tactic| walk_at "m_kind") => `(tactic| exact kind_of (by with_reducible assumption) rfl)
local macro_rules | `(tactic| walk_at "m_stor") => `(tactic| first | exact Or.inl (kind_of (by with_reducible assumption) rfl))
local macro_rules | `(tactic| walk_at "m_name") => `(tactic| first
  | refine pe_loc (by assumption) (by walk_at "m_get") (by walk_at "m_kind") ?_ (by decide)
  | refine pe_glob (by assumption) (by with_reducible assumption) .val (by walk_at "m_kind") ?_ (by decide)
  | refine pe_blt (by assumption) (And.left (by with_reducible assumption)) (And.right (by with_reducible assumption)) (by walk_at "m_kind") ?_ (by decide))
local macro_rules | `(tactic| walk_at "m") => `(tactic| first
  | refine exs_nil ?_
  | refine exs_cons ?_
  | refine ex_ret ?_
  | refine ex_if ?_
  | refine ex_cont ?_
  | refine ex_assign (by assumption) (by walk_at "m_stor") ?_ (by rfl)
  | refine ex_aug (by assumption) (by walk_at "m_stor") (by walk_at "m_get") ?_
  | refine pe_int ?_
  | refine pe_str ?_
  | walk_at "m_name"
  | refine pe_bin ?_
  | refine pe_cmp ?_ (by rfl)
  | refine pe_slice ?_
  | refine pe_sub ?_ (by intros; rfl)
  | refine pe_call ?_ (by rfl) (by rfl)
  | refine pl_cons ?_ (by rfl)
  | refine pl_nil ?_
  | refine po_none ?_
  | refine po_some ?_
  | refine pt_cmp ?_ (by rfl)
  | refine pt_not ?_
  | refine pt_bool ?_
  | refine pb_and ?_ | refine pb_and_nil ?_ | refine pb_or ?_ | refine pb_or_nil ?_
  | refine ⟨_, rfl, .blt, ?_⟩ | refine ⟨_, rfl, .typ, ?_⟩
  | refine ⟨_, rfl, ?_⟩)

theorem unquote06 {C : Cx} {K : D → Prop} (B : B06 C) (room : Room C.A 1) {c d : Nat} (hc : c ∈ hexL) (hd : d ∈ hexL) (h : K (.str [hv c * 16 + hv d])) : DoC C (.ref 21) [.str [61, c, d]] K := by
  refine enter' (l := 0) B.G room [(Str.ofString "s", .str [61, c, d])] ⟨⟨_, B.X 21 _ rfl, rfl⟩, codeRec_of B.X rfl, rfl, rfl, rfl, rfl, rfl, rfl, rfl⟩ ?_ ?_ ?_
  · intro Z s vs U ia
    cases ia with | cons i j => cases j; exact ⟨[(Str.ofString "s", _)], BindsTo.of_eq rfl, rfl, .cons i .nil, by simp only [List.map_cons, List.map_nil]; decide⟩
  · intro n x hx; exact Or.inl (by simp only [List.map_cons, List.map_nil, List.mem_singleton] at hx; subst hx; rfl)
  intro C' ok kin hN hcl
  dsimp only at hN
  have B := B.kin kin
  have m1 := B.chr
  have m2 := B.int
  clear hcl kin
  repeat (walk_at "m")
  refine ⟨by simp [lim], ?_⟩
  repeat (walk_at "m")
  refine doc_int16 (c := c) (d := d) hc hd ?_
  repeat (walk_at "m")
  refine doc_chr (by omega) ?_ ?_
  · have h1 : ∀ c ∈ hexL, hv c < 16 := by decide
    have := h1 c hc; have := h1 d hd; omega
  · rw [Int.toNat_natCast]; exact h
end Mine

namespace Mine
local macro_rules | `(tactic| walk_at "m_get") => `(tactic| first | exact get_put_same | with_reducible assumption | with_unfolding_all rfl | (refine get_put_ne (by decide) ?_; walk_at "m_get"))
local macro_rules | `(tactic| walk_at "m_kind") => `(tactic| exact kind_of (by with_reducible assumption) rfl)
local macro_rules | `(tactic| walk_at "m_stor") => `(tactic| first | exact Or.inl (kind_of (by with_reducible assumption) rfl))
local macro_rules | `(tactic| walk_at "m_name") => `(tactic| first
  | refine pe_loc (by assumption) (by walk_at "m_get") (by walk_at "m_kind") ?_ (by decide)
  | refine pe_glob (by assumption) (by with_reducible assumption) (is_lit (by with_reducible assumption)) (by walk_at "m_kind") ?_ (by decide)
  | refine pe_glob (by assumption) (by with_reducible assumption) .val (by walk_at "m_kind") ?_ (by decide)
  | refine pe_blt (by assumption) (And.left (by with_reducible assumption)) (And.right (by with_reducible assumption)) (by walk_at "m_kind") ?_ (by decide))
local macro_rules | `(tactic| walk_at "m") => `(tactic| first
  | refine exs_nil ?_
  | refine exs_cons ?_
  | refine ex_ret ?_
  | refine ex_if ?_
  | refine ex_cont ?_
  | refine ex_assign (by assumption) (by walk_at "m_stor") ?_ (by rfl)
  | refine ex_aug (by assumption) (by walk_at "m_stor") (by walk_at "m_get") ?_
  | refine pe_int ?_
  | refine pe_str ?_
  | walk_at "m_name"
  | refine pe_bin ?_
  | refine pe_un ?_
  | refine pe_meth0 F.slot_str_rstrip F.type_str_rstrip ?_ rfl rfl
  | refine pe_meth F.slot_str_endswith F.type_str_endswith ?_ rfl rfl rfl rfl rfl
  | refine pe_cmp ?_ (by rfl)
  | refine pe_slice ?_
  | refine pe_sub ?_ (by intros; rfl)
  | refine pe_call ?_ (by rfl) (by rfl)
  | refine pl_cons ?_ (by rfl)
  | refine pl_nil ?_
  | refine po_none ?_
  | refine po_some ?_
  | refine pt_cmp ?_ (by rfl)
  | refine pt_not ?_
  | refine pt_bool ?_
  | refine pb_and ?_ | refine pb_and_nil ?_ | refine pb_or ?_ | refine pb_or_nil ?_
  | refine do_add_int ?_ | refine do_sub_int ?_ | refine do_iadd_int ?_ | refine do_isub_int ?_ | refine do_neg_int ?_
  | refine do_eq_int ?_ | refine do_ne_int ?_ | refine do_lt_int ?_ | refine do_le_int ?_ | refine do_gt_int ?_ | refine do_ge_int ?_
  | refine do_eq_str ?_ | refine do_ne_str ?_ | refine do_in_str ?_ | refine do_notin_str ?_
  | refine tr_bool ?_ | refine tr_int ?_
  | refine pt_val ?_ (by intro _; rfl)
  | refine ⟨_, rfl, .blt, ?_⟩ | refine ⟨_, rfl, .typ, ?_⟩
  | refine ⟨_, rfl, ?_⟩)

theorem decode06 {C : Cx} {K : D → Prop} (B : B06 C) (room : Room C.A 2) {x : List Nat} (hx : (x.length + 1) * 2 ≤ lim) (h : K (.str (decF [10] x))) : DoC C (.ref 29) [.str x] K := by
  refine enter' (l := 1) B.G room [(Str.ofString "encoded", .str x), (Str.ofString "eol", .str [10])] ⟨⟨_, B.X 29 _ rfl, rfl⟩, codeRec_of B.X rfl, rfl, rfl, rfl, rfl, rfl, rfl, rfl⟩ ?_ ?_ ?_
  · intro Z s vs U ia
    cases ia with | cons i j => cases j; exact ⟨[(Str.ofString "encoded", _), (Str.ofString "eol", _)], BindsTo.of_defaults rfl (U.base _ _ (B.X 22 _ rfl)) rfl rfl rfl, rfl, .cons i (.cons .str .nil), by simp only [List.map_cons, List.map_nil]; decide⟩
  · intro n y hy; exact Or.inl (by simp only [List.map_cons, List.map_nil, List.mem_cons, List.not_mem_nil, or_false] at hy; rcases hy with rfl | rfl <;> rfl)
  intro C' ok kin hN hcl
  dsimp only at hN
  have B := B.kin kin
  have m1 := B.len
  have m2 := B.unquote
  have m3 := B.hexdigits
  clear hcl kin
  have hxl : x.length ≤ lim := by omega
  have lit2 : (Str.ofString "0123456789abcdefABCDEF").cps.toList = hexL := by decide +kernel
  have lit1 : (Str.ofString "=").cps.toList = [61] := by decide +kernel
  repeat (walk_at "m")
  refine tr_str hxl ?_
  refine ite_ndec (fun h0 => ?_) (fun h0 => ?_)
  · have h0 : x = [] := by simpa using h0
    subst h0
    repeat (walk_at "m")
    exact h
  repeat (walk_at "m")
  refine ex_for ok (by walk_at "m_stor") ?_ (by intro _; rfl)
  refine pe_meth0 F.slot_str_splitlines F.type_str_splitlines ?_ rfl rfl
  repeat (walk_at "m")
  refine doc_splitlines (by simp only [lim] at hx ⊢; omega) ?_
  refine ⟨_, rfl, (fun k ρ' ω' => ω' = [] ∧ get ρ' (Str.ofString "encoded") = some (.str x) ∧ get ρ' (Str.ofString "eol") = some (.str [10]) ∧ get ρ' (Str.ofString "decoded") = some (.str ((((linesL x).take k).map (lineF [10])).flatten))), ?_, ?_, ?_⟩
  · exact ⟨rfl, by walk_at "m_get", by walk_at "m_get", by walk_at "m_get"⟩
  · rintro k d ρ' ω' hk ⟨rfl, g1, g2, g3⟩
    obtain ⟨line, hline, rfl⟩ : ∃ line, (linesL x)[k]? = some line ∧ d = .str line := by
      rw [List.getElem?_map] at hk
      cases hq : (linesL x)[k]? with
      | none => rw [hq] at hk; cases hk
      | some line => rw [hq] at hk; exact ⟨line, rfl, by simpa using hk.symm⟩
    have hll := line_len x hline
    have hstep := raw_step [10] x hline
    have hle := raw_le [10] x (k + 1)
    generalize (((linesL x).take k).map (lineF [10])).flatten = D0 at *
    repeat (walk_at "m")
    refine doc_rstrip (by simp only [lim] at hx ⊢; omega) ?_
    have hrl := rstripL_len line
    have hF : lineF [10] line = if rstripL line = [] then [10] else lineGo [10] (rstripL line) := rfl
    generalize rstripL line = ln at *
    repeat (walk_at "m")
    refine tr_str (by simp only [lim] at hx ⊢; omega) ?_
    refine ite_ndec (fun h1 => ?_) (fun h1 => ?_)
    · have h1 : ln = [] := by simpa using h1
      rw [if_pos h1] at hF
      rw [hF] at hstep
      rw [hstep] at hle
      repeat (walk_at "m")
      refine do_iadd_str (by simp only [lim, List.length_append, List.length_cons, List.length_nil] at hx hle ⊢; omega) ?_
      repeat (walk_at "m")
      refine ⟨rfl, by walk_at "m_get", by walk_at "m_get", ?_⟩
      rw [hstep]; walk_at "m_get"
    · rw [if_neg h1] at hF
      rw [hF] at hstep
      rw [hstep] at hle
      repeat (walk_at "m")
      refine doc_len_str (by simp only [lim] at hx ⊢; omega) ?_
      repeat (walk_at "m")
      refine ex_while (fun m ρ'' ω'' => ω'' = [] ∧ ∃ (i : Nat) (dec : List Nat), i ≤ ln.length ∧ m = ln.length - i ∧ dec ++ lineGo [10] (ln.drop i) = D0 ++ lineGo [10] ln ∧
        get ρ'' (Str.ofString "encoded") = some (.str x) ∧ get ρ'' (Str.ofString "eol") = some (.str [10]) ∧ get ρ'' (Str.ofString "decoded") = some (.str dec) ∧
        get ρ'' (Str.ofString "line") = some (.str ln) ∧ get ρ'' (Str.ofString "i") = some (.int i) ∧ get ρ'' (Str.ofString "n") = some (.int ln.length)) ln.length ?_ ?_
      · exact ⟨rfl, 0, D0, Nat.zero_le _, by omega, rfl, by walk_at "m_get", by walk_at "m_get", by walk_at "m_get", by walk_at "m_get", by walk_at "m_get", by walk_at "m_get"⟩
      rintro m ρ'' ω'' ⟨rfl, i, dec, hi, rfl, hdec, e1, e2, e3, e4, e5, e6⟩
      repeat (walk_at "m")
      refine ite_dec (fun hlt => ?_) (fun hge => ?_)
      · have hlt : i < ln.length := by omega
        have hdrop : ln.drop i = ln[i] :: ln.drop (i + 1) := List.drop_eq_getElem_cons hlt
        have hdl : dec.length + (lineGo [10] (ln.drop i)).length = (D0 ++ lineGo [10] ln).length := by rw [← List.length_append, hdec]
        repeat (walk_at "m")
        refine ⟨ln[i], idx_nat ln i hlt, by simp only [lim] at hx ⊢; omega, ?_⟩
        dsimp only
        have hne0 : ∀ r : List Nat, (if r = [] then [10] else lineGo [10] r) = (if r = [] then [10] else []) ++ lineGo [10] r := by
          intro r; cases r with
          | nil => simp [lineGo]
          | cons a r => simp
        repeat (walk_at "m")
        rw [lit1]
        refine ite_dec (fun hc => ?_) (fun hc => ?_)
        · have hc : ln[i] ≠ 61 := by simpa using hc
          have hg : lineGo [10] (ln.drop i) = ln[i] :: ((if ln.drop (i + 1) = [] then [10] else []) ++ lineGo [10] (ln.drop (i + 1))) := by
            rw [hdrop, lineGo_ne hc, hne0]
          rw [hg] at hdec hdl
          repeat (walk_at "m")
          refine do_iadd_str (by simp only [lim, List.length_append, List.length_cons, List.length_nil] at hx hle hdl ⊢; omega) ?_
          repeat (walk_at "m")
          refine ite_dec (fun hq => ?_) (fun hq => ?_)
          · have hq : i + 1 = ln.length := by omega
            have hd0 : ln.drop (i + 1) = [] := List.drop_of_length_le (by omega)
            rw [hd0] at hdec hdl
            simp only [if_true] at hdec hdl
            repeat (walk_at "m")
            refine do_iadd_str (by simp only [lim, List.length_append, List.length_cons, List.length_nil] at hx hle hdl ⊢; omega) ?_
            repeat (walk_at "m")
            refine ⟨ln.length - (i + 1), by omega, rfl, i + 1, _, by omega, rfl, ?_, by walk_at "m_get", by walk_at "m_get", by walk_at "m_get", by walk_at "m_get", by walk_at "m_get", by walk_at "m_get"⟩
            rw [hd0, ← hdec]; simp
          · have hd0 : ln.drop (i + 1) ≠ [] := by
              intro e; have := congrArg List.length e; simp at this; omega
            rw [if_neg hd0] at hdec
            repeat (walk_at "m")
            refine ⟨ln.length - (i + 1), by omega, rfl, i + 1, _, by omega, rfl, ?_, by walk_at "m_get", by walk_at "m_get", by walk_at "m_get", by walk_at "m_get", by walk_at "m_get", by walk_at "m_get"⟩
            rw [← hdec]; simp
        · have hc : ln[i] = 61 := by simpa using hc
          repeat (walk_at "m")
          refine ite_dec (fun hq => ?_) (fun hq => ?_)
          · -- a soft break
            have hq : i + 1 = ln.length := by omega
            have hd0 : ln.drop (i + 1) = [] := List.drop_of_length_le (by omega)
            rw [hdrop, hc, hd0, lineGo_soft] at hdec
            repeat (walk_at "m")
            refine ⟨ln.length - (i + 1), by omega, rfl, i + 1, dec, by omega, rfl, ?_, by walk_at "m_get", by walk_at "m_get", by walk_at "m_get", by walk_at "m_get", by walk_at "m_get", by walk_at "m_get"⟩
            rw [hd0, lineGo_nil]; exact hdec
          · have hlt2 : i + 1 < ln.length := by omega
            -- the literal case, shared
            have hdrop1 : ln.drop (i + 1) = ln[i + 1] :: ln.drop (i + 2) := List.drop_eq_getElem_cons hlt2
            refine exs_cons (ex_if (pt_bool ?_))
            refine Pb.mono (K := fun b => b = decide (∃ h2 : i + 2 < ln.length, ln[i + 1] ∈ hexL ∧ ln[i + 2] ∈ hexL)) ?_ ?_
            · repeat (walk_at "m")
              refine ite_dec (fun q1 => ?_) (fun q1 => ?_)
              · have q1 : i + 2 < ln.length := by omega
                repeat (walk_at "m")
                refine ⟨ln[i + 1], by exact_mod_cast idx_nat ln (i + 1) hlt2, by simp only [lim] at hx ⊢; omega, ?_⟩
                dsimp only
                repeat (walk_at "m")
                refine ite_dec (fun q2 => ?_) (fun q2 => ?_)
                · repeat (walk_at "m")
                  refine ⟨ln[i + 2], by exact_mod_cast idx_nat ln (i + 2) q1, by simp only [lim] at hx ⊢; omega, ?_⟩
                  dsimp only
                  repeat (walk_at "m")
                  refine ite_dec (fun q3 => ?_) (fun q3 => ?_)
                  · repeat (walk_at "m")
                    exact (decide_eq_true ⟨q1, q2, q3⟩).symm
                  · exact (decide_eq_false fun q => q3 q.2.2).symm
                · exact (decide_eq_false fun q => q2 q.2.1).symm
              · exact (decide_eq_false fun q => q1 (by have := q.1; omega)).symm
            rintro b rfl
            refine ite_dec (fun hq2 => ?_) (fun hq2 => ?_)
            · obtain ⟨h3, ha, hb⟩ := hq2
              have hdrop2 : ln.drop (i + 2) = ln[i + 2] :: ln.drop (i + 3) := List.drop_eq_getElem_cons h3
              have hg : lineGo [10] (ln.drop i) = (hv ln[i + 1] * 16 + hv ln[i + 2]) :: ((if ln.drop (i + 3) = [] then [10] else []) ++ lineGo [10] (ln.drop (i + 3))) := by
                rw [hdrop, hc, hdrop1, hdrop2, lineGo_esc ha hb, hne0]
              rw [hg] at hdec hdl
              have hsl : sl ln (some (i : Int)) (some ((i : Int) + 3)) = [61, ln[i + 1], ln[i + 2]] := by
                have e := sl_mid ln i (i + 3) (by omega) (by omega)
                have e' : ((i + 3 : Nat) : Int) = (i : Int) + 3 := by omega
                rw [e'] at e
                rw [e, hdrop, hc, hdrop1, hdrop2, show i + 3 - i = 3 by omega]; rfl
              repeat (walk_at "m")
              refine ⟨.fn ⟨_, _, _, _, B.X 21 _ rfl⟩, ?_⟩
              repeat (walk_at "m")
              refine ⟨by simp only [lim] at hx ⊢; omega, ?_⟩
              rw [hsl]
              repeat (walk_at "m")
              refine unquote06 B ok.room ha hb ?_
              refine do_iadd_str (by simp only [lim, List.length_append, List.length_cons, List.length_nil] at hx hle hdl ⊢; omega) ?_
              dsimp only
              repeat (walk_at "m")
              refine ite_dec (fun hq => ?_) (fun hq => ?_)
              · have hq : i + 3 = ln.length := by omega
                have hd0 : ln.drop (i + 3) = [] := List.drop_of_length_le (by omega)
                rw [hd0] at hdec hdl
                simp only [if_true] at hdec hdl
                repeat (walk_at "m")
                refine do_iadd_str (by simp only [lim, List.length_append, List.length_cons, List.length_nil] at hx hle hdl ⊢; omega) ?_
                dsimp only
                repeat (walk_at "m")
                refine ⟨ln.length - (i + 3), by omega, rfl, i + 3, _, by omega, rfl, ?_, by walk_at "m_get", by walk_at "m_get", by walk_at "m_get", by walk_at "m_get", by walk_at "m_get", by walk_at "m_get"⟩
                rw [hd0, ← hdec]; simp
              · have hd0 : ln.drop (i + 3) ≠ [] := by
                  intro e; have := congrArg List.length e; simp at this; omega
                rw [if_neg hd0] at hdec
                repeat (walk_at "m")
                refine ⟨ln.length - (i + 3), by omega, rfl, i + 3, _, by omega, rfl, ?_, by walk_at "m_get", by walk_at "m_get", by walk_at "m_get", by walk_at "m_get", by walk_at "m_get", by walk_at "m_get"⟩
                rw [← hdec]; simp
            · have hg : lineGo [10] (ln.drop i) = 61 :: lineGo [10] (ln.drop (i + 1)) := by
                rw [hdrop, hc, hdrop1]
                by_cases h3 : i + 2 < ln.length
                · have hdrop2 : ln.drop (i + 2) = ln[i + 2] :: ln.drop (i + 3) := List.drop_eq_getElem_cons h3
                  rw [hdrop2, lineGo_lit2 fun q => hq2 ⟨h3, q⟩]
                · have : ln.drop (i + 2) = [] := List.drop_of_length_le (by omega)
                  rw [this, lineGo_lit1]
              rw [hg] at hdec hdl
              repeat (walk_at "m")
              refine do_iadd_str (by simp only [lim, List.length_append, List.length_cons, List.length_nil] at hx hle hdl ⊢; omega) ?_
              dsimp only
              repeat (walk_at "m")
              refine ite_dec (fun hq => ?_) (fun hq => ?_)
              · exfalso; omega
              · repeat (walk_at "m")
                refine ⟨ln.length - (i + 1), by omega, rfl, i + 1, _, by omega, rfl, ?_, by walk_at "m_get", by walk_at "m_get", by walk_at "m_get", by walk_at "m_get", by walk_at "m_get", by walk_at "m_get"⟩
                rw [← hdec, hc]; simp
      · have : i = ln.length := by omega
        subst this
        simp only [List.drop_length, lineGo, List.append_nil] at hdec
        refine exs_nil ⟨rfl, e1, e2, ?_⟩
        rw [hstep, ← hdec]; exact e3
  · rintro ρ' ω' ⟨rfl, g1, g2, g3⟩
    have hraw : ((List.take (List.map D.str (linesL x)).length (linesL x)).map (lineF [10])).flatten = decRaw [10] x := by
      rw [List.length_map, List.take_length]; rfl
    rw [hraw] at g3
    have hdl := decRaw_len [10] x
    repeat (walk_at "m")
    have hlast : idx x (-1) = some (x.getLast (by simpa using h0)) := idx_last x _
    have hlast' : x.getLast? = some (x.getLast (by simpa using h0)) := List.getLast?_eq_some_getLast _
    refine ⟨_, hlast, hxl, ?_⟩
    have hdec : decF [10] x = if x.getLast? ≠ some 13 ∧ x.getLast? ≠ some 10 ∧ endsL (decRaw [10] x) [10] = true then sl (decRaw [10] x) none (some (-((1 : Nat) : Int))) else decRaw [10] x := by
      unfold decF; rw [if_neg (by simpa using h0)]; rfl
    rw [hlast'] at hdec
    generalize x.getLast _ = lc at *
    have lit3 : (Str.ofString "\x0d\n").cps.toList = [13, 10] := by decide +kernel
    dsimp only
    repeat (walk_at "m")
    rw [lit3]
    refine ite_dec (fun q1 => ?_) (fun q1 => ?_)
    · have q1 : lc ≠ 13 ∧ lc ≠ 10 := by simpa using q1
      repeat (walk_at "m")
      refine doc_endswith ?_
      repeat (walk_at "m")
      refine ite_b (fun q2 => ?_) (fun q2 => ?_)
      · repeat (walk_at "m")
        refine doc_len_str (by simp [lim]) ?_
        repeat (walk_at "m")
        refine ⟨by simp only [List.length_cons, List.length_nil] at hdl; simp only [lim] at hx ⊢; omega, ?_⟩
        dsimp only
        repeat (walk_at "m")
        rw [if_pos ⟨by simpa using q1.1, by simpa using q1.2, q2⟩] at hdec
        rw [hdec] at h; exact h
      · repeat (walk_at "m")
        rw [if_neg fun q => by rw [q.2.2] at q2; cases q2] at hdec
        rw [hdec] at h; exact h
    · repeat (walk_at "m")
      rw [if_neg fun q => q1 (by simpa using ⟨fun e => q.1 (by rw [e]), fun e => q.2.1 (by rw [e])⟩)] at hdec
      rw [hdec] at h; exact h
end Mine

namespace Mine
theorem B06.ord {C : Cx} (B : B06 C) : C.mg (Str.ofString "ord") = none ∧ C.mb (Str.ofString "ord") = some (.builtin "ord") := ⟨by rw [mg_of B.G.g (B.X 3 _ rfl) rfl]; rfl, by rw [B.bl _ (by decide)]; exact boot_ord⟩
theorem B06.plain {C : Cx} (B : B06 C) : C.mg (Str.ofString "_law_plain") = some (.ref 34) := by rw [mg_of B.G.g (B.X 3 _ rfl) rfl]; rfl
theorem B06.disg {C : Cx} (B : B06 C) : C.mg (Str.ofString "_law_disguised") = some (.ref 41) := by rw [mg_of B.G.g (B.X 3 _ rfl) rfl]; rfl
theorem sl_to {α : Type} (l : List α) (p : Nat) : sl l none (some (p : Int)) = l.take p := by
  unfold sl
  simp only [Option.elim, clipAt_nat, List.drop_zero, Nat.sub_zero]
  rcases Nat.le_total p l.length with h | h
  · rw [Nat.min_eq_left h]
  · rw [Nat.min_eq_right h, List.take_of_length_le (Nat.le_refl _), List.take_of_length_le h]
theorem sl_from {α : Type} (l : List α) (p : Nat) : sl l (some (p : Int)) none = l.drop p := by
  unfold sl
  simp only [Option.elim, clipAt_nat]
  rcases Nat.le_total p l.length with h | h
  · rw [Nat.min_eq_left h, List.take_of_length_le (by simp)]
  · rw [Nat.min_eq_right h, List.drop_of_length_le (Nat.le_refl _), List.drop_of_length_le h]; simp
theorem Dec.app (a : List Nat) {b b' : List Nat} (h : Dec b b') : Dec (a ++ b) (a ++ b') := by
  induction a with
  | nil => exact h
  | cons c a ih => exact .keep c ih
def figs (k : Int) : List Nat := if k = 0 then [48, 49, 50, 51, 52, 53, 54, 55, 56, 57, 65, 66, 67, 68, 69, 70] else [48, 49, 50, 51, 52, 53, 54, 55, 56, 57, 97, 98, 99, 100, 101, 102]
theorem figs_ok (k : Int) (n : Nat) (h : n < 16) : ∃ c, (figs k)[n]? = some c ∧ c ∈ hexL ∧ hv c = n ∧ c < 256 := by
  have h1 : ∀ m : _root_.Fin 16, ∃ c ∈ hexL, ([48, 49, 50, 51, 52, 53, 54, 55, 56, 57, 65, 66, 67, 68, 69, 70] : List Nat)[m.1]? = some c ∧ hv c = m.1 ∧ c < 256 := by decide
  have h2 : ∀ m : _root_.Fin 16, ∃ c ∈ hexL, ([48, 49, 50, 51, 52, 53, 54, 55, 56, 57, 97, 98, 99, 100, 101, 102] : List Nat)[m.1]? = some c ∧ hv c = m.1 ∧ c < 256 := by decide
  unfold figs
  split
  · obtain ⟨c, a, b, d, e⟩ := h1 ⟨n, h⟩; exact ⟨c, b, a, d, e⟩
  · obtain ⟨c, a, b, d, e⟩ := h2 ⟨n, h⟩; exact ⟨c, b, a, d, e⟩
theorem figs_len (k : Int) : (figs k).length = 16 := by unfold figs; split <;> rfl
theorem idx_of {α : Type} {l : List α} {n : Nat} {c : α} (h : l[n]? = some c) : idx l (n : Int) = some c := by
  obtain ⟨hn, e⟩ := List.getElem?_eq_some_iff.mp h
  rw [idx_nat l n hn, e]

local macro_rules | `(tactic| walk_at "m_get") => `(tactic| first | exact get_put_same | with_reducible assumption | with_unfolding_all rfl | (refine get_put_ne (by decide) ?_; walk_at "m_get"))
local macro_rules | `(tactic| walk_at "m_kind") => `(tactic| exact kind_of (by with_reducible assumption) rfl)
local macro_rules | `(tactic| walk_at "m_stor") => `(tactic| first | exact Or.inl (kind_of (by with_reducible assumption) rfl))
local macro_rules | `(tactic| walk_at "m_name") => `(tactic| first
  | refine pe_loc (by assumption) (by walk_at "m_get") (by walk_at "m_kind") ?_ (by decide)
  | refine pe_glob (by assumption) (by with_reducible assumption) .val (by walk_at "m_kind") ?_ (by decide)
  | refine pe_blt (by assumption) (And.left (by with_reducible assumption)) (And.right (by with_reducible assumption)) (by walk_at "m_kind") ?_ (by decide))
local macro_rules | `(tactic| walk_at "m") => `(tactic| first
  | refine exs_nil ?_
  | refine exs_cons ?_
  | refine ex_ret ?_
  | refine ex_if ?_
  | refine ex_assign (by assumption) (by walk_at "m_stor") ?_ (by rfl)
  | refine ex_aug (by assumption) (by walk_at "m_stor") (by walk_at "m_get") ?_
  | refine pe_int ?_
  | refine pe_str ?_
  | walk_at "m_name"
  | refine pe_bin ?_
  | refine pe_un ?_
  | refine pe_cmp ?_ (by rfl)
  | refine pe_slice ?_
  | refine pe_sub ?_ (by intros; rfl)
  | refine pe_list ?_
  | refine pe_meth F.slot_str_find F.type_str_find ?_ rfl rfl rfl rfl rfl
  | refine pe_call ?_ (by rfl) (by rfl)
  | refine pl_cons ?_ (by rfl)
  | refine pl_nil ?_
  | refine po_none ?_
  | refine po_some ?_
  | refine pt_cmp ?_ (by rfl)
  | refine pt_not ?_
  | refine pt_bool ?_
  | refine pb_and ?_ | refine pb_and_nil ?_ | refine pb_or ?_ | refine pb_or_nil ?_
  | refine do_add_int ?_ | refine do_sub_int ?_ | refine do_iadd_int ?_ | refine do_isub_int ?_ | refine do_neg_int ?_
  | refine do_fdiv_int (by decide) (by decide) ?_ | refine do_mod_int (by decide) (by decide) ?_
  | refine do_eq_int ?_ | refine do_ne_int ?_ | refine do_lt_int ?_ | refine do_le_int ?_ | refine do_gt_int ?_ | refine do_ge_int ?_
  | refine do_eq_str ?_ | refine do_ne_str ?_ | refine do_in_str ?_ | refine do_notin_str ?_
  | refine tr_bool ?_ | refine tr_int ?_
  | refine pt_val ?_ (by intro _; rfl)
  | refine ⟨_, rfl, .blt, ?_⟩ | refine ⟨_, rfl, .typ, ?_⟩
  | refine ⟨_, rfl, ?_⟩)

theorem disg06 {C : Cx} {K : D → Prop} (B : B06 C) (room : Room C.A 1) {t : List Nat} {x : Int} (ht : t ≠ []) (hl : t.length ≤ 1000) (hb : ∀ c ∈ t, c < 256)
    (h : ∀ u, Dec u t → (∀ c ∈ u, c < 256) → u.length ≤ t.length + 2 → K (.str u)) : DoC C (.ref 41) [.str t, .int x] K := by
  refine enter' (l := 0) B.G room [(Str.ofString "text", .str t), (Str.ofString "x", .int x)] ⟨⟨_, B.X 41 _ rfl, rfl⟩, codeRec_of B.X rfl, rfl, rfl, rfl, rfl, rfl, rfl, rfl⟩ ?_ ?_ ?_
  · intro Z s vs U ia
    cases ia with | cons i j => cases j with | cons j k => cases k; exact ⟨[(Str.ofString "text", _), (Str.ofString "x", _)], BindsTo.of_eq rfl, rfl, .cons i (.cons j .nil), by simp only [List.map_cons, List.map_nil]; decide⟩
  · intro n y hy; exact Or.inl (by simp only [List.map_cons, List.map_nil, List.mem_cons, List.not_mem_nil, or_false] at hy; rcases hy with rfl | rfl <;> rfl)
  intro C' ok kin hN hcl
  dsimp only at hN
  have B := B.kin kin
  have m1 := B.len
  have m2 := B.ord
  clear hcl kin
  have htl : 0 < t.length := List.length_pos_iff.mpr ht
  repeat (walk_at "m")
  refine doc_len_str (by simp only [lim]; omega) ?_
  refine do_mod_int (by omega) (by omega) ?_
  obtain ⟨p, hp, hpl⟩ : ∃ p : Nat, x / 48 % (t.length : Int) = p ∧ p < t.length := by
    have h1 := Int.emod_nonneg (x / 48) (show (t.length : Int) ≠ 0 by omega)
    have h2 := Int.emod_lt_of_pos (x / 48) (show (0 : Int) < t.length by omega)
    exact ⟨(x / 48 % (t.length : Int)).toNat, by omega, by omega⟩
  rw [hp]
  dsimp only
  repeat (walk_at "m")
  have litA : (Str.ofString "0123456789ABCDEF").cps.toList = figs 0 := by decide +kernel
  have litB : (Str.ofString "0123456789abcdef").cps.toList = figs 1 := by decide +kernel
  have litE : (Str.ofString "=").cps.toList = [61] := by decide +kernel
  have litS : (Str.ofString "=\n").cps.toList = [61, 10] := by decide +kernel
  have litN : (Str.ofString "\n").cps.toList = [10] := by decide +kernel
  have litW : (Str.ofString " \t").cps.toList = [32, 9] := by decide +kernel
  have hk0 := Int.emod_nonneg (x / 12) (show (4 : Int) ≠ 0 by decide)
  have hk4 := Int.emod_lt_of_pos (x / 12) (show (0 : Int) < 4 by decide)
  generalize x / 12 % 4 = k at *
  have hsplit : t = t.take p ++ t[p] :: t.drop (p + 1) := by
    rw [← List.drop_eq_getElem_cons hpl, List.take_append_drop]
  have hsplit2 : t = t.take p ++ t.drop p := (List.take_append_drop p t).symm
  have htake : ∀ c ∈ t.take p, c < 256 := fun c hc => hb c (List.mem_of_mem_take hc)
  refine ite_dec (fun hk => ?_) (fun hk => ?_)
  · repeat (walk_at "m")
    refine ⟨by simp [lim], ?_⟩
    repeat (walk_at "m")
    refine ⟨.str (figs k), ?_, by simp [lim], ?_⟩
    · rw [litA, litB]
      have : k = 0 ∨ k = 1 := by omega
      rcases this with rfl | rfl <;> rfl
    dsimp only
    repeat (walk_at "m")
    refine ⟨t[p], idx_nat t p hpl, by simp only [lim]; omega, ?_⟩
    repeat (walk_at "m")
    refine doc_ord ?_
    have hop := hb t[p] (List.getElem_mem hpl)
    obtain ⟨c1, e1, x1, v1, b1⟩ := figs_ok k (t[p] / 16) (by omega)
    obtain ⟨c2, e2, x2, v2, b2⟩ := figs_ok k (t[p] % 16) (by omega)
    have hval : hv c1 * 16 + hv c2 = t[p] := by rw [v1, v2]; omega
    generalize t[p] = o at *
    dsimp only
    repeat (walk_at "m")
    refine ⟨by simp only [lim]; omega, ?_⟩
    rw [sl_to]
    have hpl' : (t.take p).length = p := by simp; omega
    repeat (walk_at "m")
    rw [litE]
    refine do_add_str (by simp only [lim, hpl', List.length_cons, List.length_nil]; omega) ?_
    repeat (walk_at "m")
    refine ⟨c1, by have := idx_of e1; exact_mod_cast this, by simp [lim, figs_len], ?_⟩
    refine do_add_str (by simp only [lim, List.length_append, hpl', List.length_cons, List.length_nil]; omega) ?_
    repeat (walk_at "m")
    refine ⟨c2, by have := idx_of e2; exact_mod_cast this, by simp [lim, figs_len], ?_⟩
    refine do_add_str (by simp only [lim, List.length_append, hpl', List.length_cons, List.length_nil]; omega) ?_
    repeat (walk_at "m")
    refine ⟨by simp only [lim]; omega, ?_⟩
    have hsf : sl t (some ((p : Int) + 1)) none = t.drop (p + 1) := by have := sl_from t (p + 1); exact_mod_cast this
    rw [hsf]
    refine do_add_str (by simp only [lim, List.length_append, hpl', List.length_cons, List.length_nil, List.length_drop]; omega) ?_
    dsimp only
    refine h _ ?_ ?_ ?_
    · conv => arg 2; rw [hsplit]
      rw [← hval]
      simp only [List.append_assoc, List.cons_append, List.nil_append]
      exact Dec.app _ (.esc x1 x2 (Dec.refl _))
    · intro c hc
      simp only [List.mem_append, List.mem_cons, List.not_mem_nil, or_false] at hc
      rcases hc with (((hc | hc) | hc) | hc) | hc
      · exact htake c hc
      · omega
      · omega
      · omega
      · exact hb c (List.mem_of_mem_drop hc)
    · simp only [List.length_append, hpl', List.length_cons, List.length_nil, List.length_drop]; omega
  · repeat (walk_at "m")
    rw [litN]
    refine doc_find3 (by omega) ?_
    dsimp only
    repeat (walk_at "m")
    have fin2 : K (.str (t.take p ++ [61, 10] ++ t.drop p)) := by
      refine h _ ?_ ?_ ?_
      · conv => arg 2; rw [hsplit2]
        simp only [List.append_assoc, List.cons_append, List.nil_append]
        exact Dec.app _ (.soft (by simp [bl]) (by simpa [cut] using Dec.refl _))
      · intro c hc
        simp only [List.mem_append, List.mem_cons, List.not_mem_nil, or_false] at hc
        rcases hc with (hc | hc | hc) | hc
        · exact htake c hc
        · omega
        · omega
        · exact hb c (List.mem_of_mem_drop hc)
      · simp only [List.length_append, List.length_take, List.length_cons, List.length_nil, List.length_drop]; omega
    refine ite_dec (fun hk3 => ?_) (fun hk3 => ?_)
    · repeat (walk_at "m")
      refine ite_dec (fun hl0 => ?_) (fun hl0 => ?_)
      · obtain ⟨q, hq, hq10⟩ : ∃ q : Nat, findL t 10 p = (q : Int) ∧ t[q]? = some 10 := by
          unfold findL at hl0 ⊢
          cases hf : (t.drop p).findIdx? (· == 10) with
          | none => rw [hf] at hl0; exact absurd hl0 (show ¬ (0 : Int) ≤ -1 by decide)
          | some m =>
            refine ⟨p + m, rfl, ?_⟩
            obtain ⟨h1, h2, _⟩ := List.findIdx?_eq_some_iff_getElem.mp hf
            rw [← List.getElem?_drop, List.getElem?_eq_getElem h1]
            have : (t.drop p)[m] = 10 := by simpa using h2
            rw [this]
        rw [hq]
        obtain ⟨hql, hqe⟩ := List.getElem?_eq_some_iff.mp hq10
        have hs3 : t = t.take q ++ 10 :: t.drop (q + 1) := by
          rw [← hqe, ← List.drop_eq_getElem_cons hql, List.take_append_drop]
        have hd3 : t.drop q = 10 :: t.drop (q + 1) := by rw [List.drop_eq_getElem_cons hql, hqe]
        repeat (walk_at "m")
        refine ⟨by simp only [lim]; omega, ?_⟩
        rw [sl_to]
        repeat (walk_at "m")
        rw [litW]
        have hx0 := Int.emod_nonneg x (show (2 : Int) ≠ 0 by decide)
        have hx2 := Int.emod_lt_of_pos x (show (0 : Int) < 2 by decide)
        obtain ⟨w, hw, hwb, hwl⟩ : ∃ w, idx [32, 9] (x % 2) = some w ∧ bk w = true ∧ w < 256 := by
          have : x % 2 = 0 ∨ x % 2 = 1 := by omega
          rcases this with e | e <;> rw [e]
          · exact ⟨32, rfl, rfl, by decide⟩
          · exact ⟨9, rfl, rfl, by decide⟩
        refine ⟨w, hw, by simp [lim], ?_⟩
        have hqt : (t.take q).length = q := by simp; omega
        refine do_add_str (by simp only [lim, hqt, List.length_cons, List.length_nil]; omega) ?_
        repeat (walk_at "m")
        refine ⟨by simp only [lim]; omega, ?_⟩
        rw [sl_from]
        refine do_add_str (by simp only [lim, List.length_append, hqt, List.length_cons, List.length_nil, List.length_drop]; omega) ?_
        dsimp only
        refine h _ ?_ ?_ ?_
        · conv => arg 2; rw [hs3]
          rw [hd3]
          simp only [List.append_assoc, List.cons_append, List.nil_append]
          exact Dec.app _ (.blank hwb (by simp [bl]) (Dec.refl _))
        · intro c hc
          simp only [List.mem_append, List.mem_cons, List.not_mem_nil, or_false] at hc
          rcases hc with (hc | hc) | hc
          · exact hb c (List.mem_of_mem_take hc)
          · omega
          · exact hb c (List.mem_of_mem_drop hc)
        · simp only [List.length_append, hqt, List.length_cons, List.length_nil, List.length_drop]; omega
      · repeat (walk_at "m")
        refine ⟨by simp only [lim]; omega, ?_⟩
        rw [sl_to]
        repeat (walk_at "m")
        rw [litS]
        refine do_add_str (by simp only [lim, List.length_take, List.length_cons, List.length_nil]; omega) ?_
        repeat (walk_at "m")
        refine ⟨by simp only [lim]; omega, ?_⟩
        rw [sl_from]
        refine do_add_str (by simp only [lim, List.length_append, List.length_take, List.length_cons, List.length_nil, List.length_drop]; omega) ?_
        exact fin2
    · repeat (walk_at "m")
      refine ⟨by simp only [lim]; omega, ?_⟩
      rw [sl_to]
      repeat (walk_at "m")
      rw [litS]
      refine do_add_str (by simp only [lim, List.length_take, List.length_cons, List.length_nil]; omega) ?_
      repeat (walk_at "m")
      refine ⟨by simp only [lim]; omega, ?_⟩
      rw [sl_from]
      refine do_add_str (by simp only [lim, List.length_append, List.length_take, List.length_cons, List.length_nil, List.length_drop]; omega) ?_
      exact fin2
end Mine

namespace Mine
def pieces06 : List (List Nat) := [[97], [61, 107], [10], [32, 95], [61, 52, 103], [61, 61, 46], [52], [68], [48], [233], [106], [61, 233]]
def pick06 (x : Int) : List Nat := pieces06.getD (x % 12).toNat []
def plainF (ns : List Int) : List Nat := ((ns.take 12).map pick06).flatten ++ [46]
theorem nm_plain {c : Nat} {r : List Nat} (h1 : c ≠ 61) (h2 : bk c = false) (h : Normal r) : Normal (c :: r) := fun w d => by
  obtain ⟨v, rfl, d'⟩ := d.plain h1 h2
  rw [h _ d']
theorem nm_eq {r : List Nat} (h1 : es r = false) (h2 : bl r = false) (h : Normal r) : Normal (61 :: r) := fun w d => by
  cases d with
  | keep _ d => rw [h _ d]
  | esc ha hb _ => rw [es_iff.mpr ⟨_, _, _, rfl, ha, hb⟩] at h1; cases h1
  | soft hb _ => rw [h2] at hb; cases hb
  | blank hb => exact absurd hb (by decide)
theorem nm_bl {c : Nat} {r : List Nat} (h1 : bk c = true) (h2 : bl r = false) (h : Normal r) : Normal (c :: r) := fun w d => by
  cases d with
  | keep _ d => rw [h _ d]
  | esc => exact absurd h1 (by decide)
  | soft => exact absurd h1 (by decide)
  | blank _ hb _ => rw [h2] at hb; cases hb
theorem nm_piece : ∀ p ∈ pieces06, ∀ r, Normal r → Normal (p ++ r) := by
  intro p hp r h
  simp only [pieces06, List.mem_cons, List.not_mem_nil, or_false] at hp
  rcases hp with rfl | rfl | rfl | rfl | rfl | rfl | rfl | rfl | rfl | rfl | rfl | rfl
  · exact nm_plain (by decide) (by decide) h
  · exact nm_eq (by cases r <;> simp [es, hexL]) rfl (nm_plain (by decide) (by decide) h)
  · exact nm_plain (by decide) (by decide) h
  · exact nm_bl rfl rfl (nm_plain (by decide) (by decide) h)
  · exact nm_eq (by simp [es, hexL]) rfl (nm_plain (by decide) (by decide) (nm_plain (by decide) (by decide) h))
  · exact nm_eq (by simp [es, hexL]) rfl (nm_eq (by cases r <;> simp [es, hexL]) rfl (nm_plain (by decide) (by decide) h))
  · exact nm_plain (by decide) (by decide) h
  · exact nm_plain (by decide) (by decide) h
  · exact nm_plain (by decide) (by decide) h
  · exact nm_plain (by decide) (by decide) h
  · exact nm_plain (by decide) (by decide) h
  · exact nm_eq (by cases r <;> simp [es, hexL]) rfl (nm_plain (by decide) (by decide) h)
theorem pick_mem (x : Int) : pick06 x ∈ pieces06 := by
  have h0 := Int.emod_nonneg x (show (12 : Int) ≠ 0 by decide)
  have h1 := Int.emod_lt_of_pos x (show (0 : Int) < 12 by decide)
  unfold pick06
  have : (x % 12).toNat < pieces06.length := by show _ < 12; omega
  rw [List.getD_eq_getElem?_getD, List.getElem?_eq_getElem this]
  exact List.getElem_mem _
theorem plain_normal (ns : List Int) : Normal (plainF ns) := by
  unfold plainF
  generalize ns.take 12 = l
  induction l with
  | nil => exact nm_plain (by decide) (by decide) fun w d => by cases d; rfl
  | cons x l ih =>
    simp only [List.map_cons, List.flatten_cons, List.append_assoc]
    exact nm_piece _ (pick_mem x) _ ih
theorem piece_facts : ∀ p ∈ pieces06, p.length ≤ 3 ∧ ∀ c ∈ p, c < 256 ∧ (Unicode.isSpace c = true → bk c = true ∨ c = 10) ∧ (Unicode.isLineBreak c = true → c = 10) := by decide +kernel
theorem plain_mem {ns : List Int} {c : Nat} (h : c ∈ plainF ns) : (∃ p ∈ pieces06, c ∈ p) ∨ c = 46 := by
  unfold plainF at h
  rcases List.mem_append.mp h with h | h
  · obtain ⟨p, hp, hc⟩ := List.mem_flatten.mp h
    obtain ⟨x, _, rfl⟩ := List.mem_map.mp hp
    exact .inl ⟨_, pick_mem x, hc⟩
  · exact .inr (by simpa using h)
theorem plain_fine (ns : List Int) : ∀ c ∈ plainF ns, fine c := fun c hc => by
  rcases plain_mem hc with ⟨p, hp, hc⟩ | rfl
  · exact ((piece_facts p hp).2 c hc).2
  · unfold fine; decide +kernel
theorem plain_small (ns : List Int) : ∀ c ∈ plainF ns, c < 256 := fun c hc => by
  rcases plain_mem hc with ⟨p, hp, hc⟩ | rfl
  · exact ((piece_facts p hp).2 c hc).1
  · decide
theorem plain_end (ns : List Int) : endOk (plainF ns) := fun c hc => by
  unfold plainF at hc
  simp at hc
  subst hc; decide
theorem plain_len (ns : List Int) : (plainF ns).length ≤ 40 ∧ plainF ns ≠ [] := by
  refine ⟨?_, by simp [plainF]⟩
  unfold plainF
  have : ∀ l : List Int, ((l.map pick06).flatten).length ≤ 3 * l.length := by
    intro l
    induction l with
    | nil => simp
    | cons x l ih => have := (piece_facts _ (pick_mem x)).1; simp only [List.map_cons, List.flatten_cons, List.length_append, List.length_cons]; omega
  have h := this (ns.take 12)
  have : (ns.take 12).length ≤ 12 := by simp; omega
  simp only [List.length_append, List.length_cons, List.length_nil]; omega

theorem Cx.Ok.comp {C : Cx} {l : Nat} (ok : C.Ok l) {scope : Scope} {cl : List (Str × Addr)} {n : Addr} (h : scope.kind = .function) : (C.comp scope cl n).Ok l :=
  ⟨ok.room, h, ok.gl, ok.bl, ok.g, ok.b, ok.nolimit⟩
theorem in_comp {C : Cx} {l : Nat} {ρ : Loc} {ω : Own} {e : Expr} {K : D → Prop} {scope : Scope} {cl : List (Str × Addr)} {n : Addr} (ok : C.Ok l) (hk : scope.kind = .function)
    (h : ∀ C2, C2.Ok l → Kin C C2 → C2.env.scope.names = (relabel scope C.env).names → C2.env.cells = cl → Pe C2 ρ ω e K) : Pe (C.comp scope cl n) ρ ω e K :=
  h _ (ok.comp hk) ⟨rfl, rfl, rfl, rfl, rfl⟩ rfl rfl
theorem cells_of {C : Cx} {cs : List (Str × Addr)} {x : Str} (h : C.env.cells = cs) (e : (cs.lookup x).isSome = true) : (C.env.cells.lookup x).isSome = true := by rw [h]; exact e
local macro_rules | `(tactic| walk_at "m_get") => `(tactic| first | exact get_put_same | with_reducible assumption | with_unfolding_all rfl | (refine get_put_ne (by decide) ?_; walk_at "m_get"))
local macro_rules | `(tactic| walk_at "m_kind") => `(tactic| exact kind_of (by with_reducible assumption) rfl)
local macro_rules | `(tactic| walk_at "m_stor") => `(tactic| first | exact Or.inl (kind_of (by with_reducible assumption) rfl) | exact Or.inr ⟨kind_of (by with_reducible assumption) rfl, cells_of (by with_reducible assumption) rfl⟩)
local macro_rules | `(tactic| walk_at "m_name") => `(tactic| first
  | refine pe_loc (by assumption) (by walk_at "m_get") (by walk_at "m_kind") ?_ (by decide)
  | refine pe_cell (by assumption) (by walk_at "m_get") (by walk_at "m_kind") ?_ (by decide)
  | refine pe_glob (by assumption) (by with_reducible assumption) .val (by walk_at "m_kind") ?_ (by decide)
  | refine pe_blt (by assumption) (And.left (by with_reducible assumption)) (And.right (by with_reducible assumption)) (by walk_at "m_kind") ?_ (by decide))
local macro_rules | `(tactic| walk_at "m") => `(tactic| first
  | refine exs_nil ?_
  | refine exs_cons ?_
  | refine ex_ret ?_
  | refine ex_assign (by assumption) (by walk_at "m_stor") ?_ (by rfl)
  | refine pe_int ?_
  | refine pe_str ?_
  | walk_at "m_name"
  | refine pe_bin ?_
  | refine pe_slice ?_
  | refine pe_sub ?_ (by intros; rfl)
  | refine pe_list ?_
  | refine pe_meth F.slot_str_join F.type_str_join ?_ rfl rfl rfl rfl rfl
  | refine pl_cons ?_ (by rfl)
  | refine pl_nil ?_
  | refine po_none ?_
  | refine po_some ?_
  | refine do_mod_int (by decide) (by decide) ?_
  | refine ⟨_, rfl, ?_⟩)

theorem plain06 {C : Cx} {K : D → Prop} (B : B06 C) (room : Room C.A 1) {ns : List Int} (hn : ns.length ≤ 63) (h : K (.str (plainF ns))) : DoC C (.ref 34) [.list (ns.map .int)] K := by
  refine enter' (l := 0) B.G room [(Str.ofString "script", .list (ns.map .int))] ⟨⟨_, B.X 34 _ rfl, rfl⟩, codeRec_of B.X rfl, rfl, rfl, rfl, rfl, rfl, rfl, rfl⟩ ?_ ?_ ?_
  · intro Z s vs U ia
    cases ia with | cons i j => cases j; exact ⟨[(Str.ofString "script", _)], BindsTo.of_eq rfl, rfl, .cons i .nil, by simp only [List.map_cons, List.map_nil]; decide⟩
  · intro n x hx; exact Or.inl (by simp only [List.map_cons, List.map_nil, List.mem_singleton] at hx; subst hx; rfl)
  intro C' ok kin hN hcl
  replace hcl := hcl _ rfl
  dsimp only at hN
  replace hcl : C'.env.cells = [(Str.ofString "pieces", C'.env.locals + 1)] := hcl
  have B := B.kin kin
  clear kin
  repeat (walk_at "m")
  have hp : [D.str (Str.ofString "a").cps.toList, D.str (Str.ofString "=k").cps.toList, D.str (Str.ofString "\n").cps.toList, D.str (Str.ofString " _").cps.toList, D.str (Str.ofString "=4g").cps.toList, D.str (Str.ofString "==.").cps.toList, D.str (Str.ofString "4").cps.toList, D.str (Str.ofString "D").cps.toList, D.str (Str.ofString "0").cps.toList, D.str (Str.ofString "é").cps.toList, D.str (Str.ofString "j").cps.toList, D.str (Str.ofString "=é").cps.toList] = pieces06.map .str := by
    have : [(Str.ofString "a").cps.toList, (Str.ofString "=k").cps.toList, (Str.ofString "\n").cps.toList, (Str.ofString " _").cps.toList, (Str.ofString "=4g").cps.toList, (Str.ofString "==.").cps.toList, (Str.ofString "4").cps.toList, (Str.ofString "D").cps.toList, (Str.ofString "0").cps.toList, (Str.ofString "é").cps.toList, (Str.ofString "j").cps.toList, (Str.ofString "=é").cps.toList] = pieces06 := by decide +kernel
    rw [← this]; rfl
  rw [hp]
  refine ⟨by simp [lim, pieces06], ?_⟩
  dsimp only
  repeat (walk_at "m")
  refine pe_comp ok (cl := [(Str.ofString "pieces", C'.env.locals + 1)]) (compOk_of (by rw [hcl]; rfl) (by decide) rfl (by decide) rfl ?_ ?_) ?_ (by intro _; rfl)
  · intro p hp
    have : p = (Str.ofString "pieces", C'.env.locals + 1) := by simpa using hp
    subst this
    exact ⟨by rw [hcl]; rfl, .inl (kind_of hN rfl)⟩
  · intro p hp
    have : p = (Str.ofString "pieces", C'.env.locals + 1) := by simpa using hp
    subst this
    dsimp only
    decide
  repeat (walk_at "m")
  refine ⟨by simp [lim]; omega, ?_⟩
  have hsl : sl (ns.map D.int) none (some 12) = (ns.take 12).map .int := by
    have := sl_to (ns.map D.int) 12
    rw [List.map_take]; exact_mod_cast this
  rw [hsl]
  refine ⟨_, rfl, by simp [lim]; omega, (fun d => match d with | .int x => some (.str (pick06 x)) | _ => none), ?_, ?_⟩
  · intro d hd n
    obtain ⟨v, _, rfl⟩ := List.mem_map.mp hd
    refine pi_nil ?_
    refine in_comp ok rfl fun C2 ok2 kin2 hN2 hcl2 => ?_
    have hk : C'.env.kindOf (Str.ofString "pieces") = some .cell := kind_of hN rfl
    simp [relabel, hk, ok.kind] at hN2
    clear hN hcl B kin2 ok
    repeat (walk_at "m")
    have h0 := Int.emod_nonneg v (show (12 : Int) ≠ 0 by decide)
    have h1 := Int.emod_lt_of_pos v (show (0 : Int) < 12 by decide)
    obtain ⟨m, hm⟩ : ∃ m : Nat, v % 12 = m := ⟨(v % 12).toNat, by omega⟩
    have hlt : m < (pieces06.map D.str).length := by rw [List.length_map]; show m < 12; omega
    refine ⟨_, by rw [hm]; exact idx_nat _ m hlt, by simp [lim, pieces06], ?_⟩
    simp only [pick06, hm, Int.toNat_natCast, List.getElem_map]
    rw [List.getD_eq_getElem?_getD, List.getElem?_eq_getElem (by simpa using hlt)]; rfl
  · have hfm : ((ns.take 12).map D.int).filterMap (fun d => match d with | .int x => some (D.str (pick06 x)) | _ => none) = (((ns.take 12).map pick06).map D.str) := by
      generalize ns.take 12 = l
      induction l with
      | nil => rfl
      | cons x l ih => simp only [List.map_cons, List.filterMap_cons, ih]
    rw [hfm]
    repeat (walk_at "m")
    have hpl := (plain_len ns).1
    have lit0 : (Str.ofString "").cps.toList = [] := by decide +kernel
    have lit1 : (Str.ofString ".").cps.toList = [46] := by decide +kernel
    rw [lit0]
    have hsum : (((ns.take 12).map pick06).map List.length).sum ≤ 40 := by
      rw [← List.length_flatten]
      unfold plainF at hpl
      rw [List.length_append] at hpl; omega
    refine doc_join (by simp only [lim, List.length_nil, Nat.mul_zero]; omega) ?_
    rw [joinL_nil]
    repeat (walk_at "m")
    rw [lit1]
    refine do_add_str (by rw [List.length_flatten]; simp only [lim, List.length_cons, List.length_nil]; omega) ?_
    exact h
end Mine

namespace Mine
local macro_rules | `(tactic| walk_at "m_get") => `(tactic| first | exact get_put_same | with_reducible assumption | with_unfolding_all rfl | (refine get_put_ne (by decide) ?_; walk_at "m_get"))
local macro_rules | `(tactic| walk_at "m_kind") => `(tactic| exact kind_of (by with_reducible assumption) rfl)
local macro_rules | `(tactic| walk_at "m_stor") => `(tactic| first | exact Or.inl (kind_of (by with_reducible assumption) rfl))
local macro_rules | `(tactic| walk_at "m_name") => `(tactic| first
  | refine pe_loc (by assumption) (by walk_at "m_get") (by walk_at "m_kind") ?_ (by decide)
  | refine pe_glob (by assumption) (by with_reducible assumption) .val (by walk_at "m_kind") ?_ (by decide))
local macro_rules | `(tactic| walk_at "m") => `(tactic| first
  | refine exs_nil ?_
  | refine exs_cons ?_
  | refine ex_ret ?_
  | refine ex_assign (by assumption) (by walk_at "m_stor") ?_ (by rfl)
  | refine pe_int ?_
  | refine pe_str ?_
  | walk_at "m_name"
  | refine pe_slice ?_
  | refine pe_cmp ?_ (by rfl)
  | refine pe_and2 ?_
  | refine pe_call ?_ (by rfl) (by rfl)
  | refine pl_cons ?_ (by rfl)
  | refine pl_nil ?_
  | refine po_none ?_
  | refine po_some ?_
  | refine do_eq_str ?_
  | refine tr_bool ?_
  | refine ⟨_, rfl, ?_⟩)

theorem law06 {C : Cx} (B : B06 C) (room : Room C.A 3) {ns : List Int} (hn : ns.length ≤ 63) : CodeC C (.ref 48) [.list (ns.map .int)] (fun d => d = .bool true) := by
  refine enterK' (l := 2) B.G room [(Str.ofString "script", .list (ns.map .int))] ⟨⟨_, B.X 48 _ rfl, rfl⟩, codeRec_of B.X rfl, rfl, rfl, rfl, rfl, rfl, rfl, rfl⟩ ?_ ?_ ?_
  · intro Z s vs U ia
    cases ia with | cons i j => cases j; exact ⟨[(Str.ofString "script", _)], BindsTo.of_eq rfl, rfl, .cons i .nil, by simp only [List.map_cons, List.map_nil]; decide⟩
  · intro n x hx; exact Or.inl (by simp only [List.map_cons, List.map_nil, List.mem_singleton] at hx; subst hx; rfl)
  intro C' ok kin hN hcl
  dsimp only at hN
  have B := B.kin kin
  have m1 := B.plain
  have m2 := B.disg
  have m3 := B.decode
  clear hcl kin
  have hsl : sl (ns.map D.int) none (some 24) = (ns.take 24).map .int := by
    have := sl_to (ns.map D.int) 24
    rw [List.map_take]; exact_mod_cast this
  have hlen24 : ((ns.take 24).map D.int).length = (ns.take 24).length := List.length_map _
  have h24 : (ns.take 24).length ≤ 24 := by simp; omega
  have hnorm := plain_normal ns
  obtain ⟨hpl, hpn⟩ := plain_len ns
  have hpd : decF [10] (plainF ns) = plainF ns := by rw [decF_dd (plain_fine ns) (plain_end ns), hnorm.dd]
  repeat (walk_at "m")
  refine ⟨.fn ⟨_, _, _, _, B.X 34 _ rfl⟩, ?_⟩
  repeat (walk_at "m")
  refine plain06 B (ok.room.le (by decide)) hn ?_
  dsimp only
  repeat (walk_at "m")
  refine ex_for ok (by walk_at "m_stor") ?_ (by intro _; rfl)
  repeat (walk_at "m")
  refine ⟨by simp [lim]; omega, ?_⟩
  rw [hsl]
  refine ⟨_, rfl, (fun k ρ' ω' => ω' = [] ∧ k ≤ 24 ∧ get ρ' (Str.ofString "script") = some (.list (ns.map .int)) ∧ get ρ' (Str.ofString "plain") = some (.str (plainF ns)) ∧
    ∃ t, get ρ' (Str.ofString "now") = some (.str t) ∧ ddn k t = plainF ns ∧ t ≠ [] ∧ t.length ≤ 40 + 2 * k ∧ ∀ c ∈ t, c < 256), ?_, ?_, ?_⟩
  · exact ⟨rfl, by omega, by walk_at "m_get", by walk_at "m_get", plainF ns, by walk_at "m_get", rfl, hpn, by omega, plain_small ns⟩
  · rintro k d ρ' ω' hk ⟨rfl, hk24, g1, g2, t, g3, ht, htn, htl, htb⟩
    obtain ⟨v, rfl⟩ : ∃ v, d = .int v := by
      rw [List.getElem?_map] at hk
      cases hq : (ns.take 24)[k]? with
      | none => rw [hq] at hk; cases hk
      | some v => rw [hq] at hk; exact ⟨v, by simpa using hk.symm⟩
    have hk' : k < 24 := by
      have := (List.getElem?_eq_some_iff.mp hk).1
      omega
    repeat (walk_at "m")
    refine ⟨.fn ⟨_, _, _, _, B.X 41 _ rfl⟩, ?_⟩
    repeat (walk_at "m")
    refine disg06 B (ok.room.le (by decide)) htn (by omega) htb fun u du hub hul => ?_
    dsimp only
    repeat (walk_at "m")
    refine ⟨rfl, by omega, by walk_at "m_get", by walk_at "m_get", u, by walk_at "m_get", rounds_one hnorm du ht, ?_, by omega, hub⟩
    rintro rfl
    cases du
    exact htn rfl
  rintro ρ' ω' ⟨rfl, _, g1, g2, t, g3, ht, htn, htl, htb⟩
  rw [hlen24] at ht htl
  repeat (walk_at "m")
  refine ex_for ok (by walk_at "m_stor") ?_ (by intro _; rfl)
  repeat (walk_at "m")
  refine ⟨by simp [lim]; omega, ?_⟩
  rw [hsl]
  have hdn : ∀ j, (ddn j t).length ≤ t.length := by
    intro j
    induction j with
    | zero => exact Nat.le_refl _
    | succ j ih => rw [ddn_succ]; exact Nat.le_trans (dd_len _) ih
  refine ⟨_, rfl, (fun k ρ' ω' => ω' = [] ∧ get ρ' (Str.ofString "script") = some (.list (ns.map .int)) ∧ get ρ' (Str.ofString "plain") = some (.str (plainF ns)) ∧
    get ρ' (Str.ofString "now") = some (.str (ddn k t))), ?_, ?_, ?_⟩
  · exact ⟨rfl, g1, g2, g3⟩
  · rintro k d ρ' ω' hk ⟨rfl, g1, g2, g3⟩
    have hk' : k < (ns.take 24).length := by
      have := (List.getElem?_eq_some_iff.mp hk).1
      omega
    have hgood : (∀ c ∈ ddn k t, fine c) ∧ endOk (ddn k t) := by
      refine good_back (plain_fine ns) (plain_end ns) ((ns.take 24).length - k) _ ?_
      rw [← ddn_add, show (ns.take 24).length - k + k = (ns.take 24).length by omega]; exact ht
    have hlk := hdn k
    repeat (walk_at "m")
    refine ⟨.fn ⟨_, _, _, _, B.X 29 _ rfl⟩, ?_⟩
    repeat (walk_at "m")
    refine decode06 B ok.room (by simp only [lim]; omega) ?_
    rw [decF_dd hgood.1 hgood.2, ← ddn_succ]
    dsimp only
    repeat (walk_at "m")
    exact ⟨rfl, by walk_at "m_get", by walk_at "m_get", by walk_at "m_get"⟩
  rintro ρ' ω' ⟨rfl, g1, g2, g3⟩
  rw [hlen24, ht] at g3
  repeat (walk_at "m")
  rw [decide_eq_true rfl]
  simp only [if_true]
  repeat (walk_at "m")
  refine ⟨.fn ⟨_, _, _, _, B.X 29 _ rfl⟩, ?_⟩
  repeat (walk_at "m")
  refine decode06 B ok.room (by simp only [lim]; omega) ?_
  rw [hpd]
  repeat (walk_at "m")
  rw [decide_eq_true rfl]
end Mine

theorem PySem.Challenge.cw_dm0095_06_holds : PySem.Challenge.rw_dm0095_06.Holds := by
  refine Mine.hd ?_
  k_fill
  intro w s₀ s₁ mg mb G Y fa o pm cd doc dV kV ho hd hcd hD hmg hg args vals as hpre hlay hrd hwl hlo
  have KX := kIn_of Y
  refine Ground.open G ?_
  intro T B D TE TW
  wrow_args hpre hlay hrd hwl hlo
  refine enter_call ?_
  clear hD hcd hd
  have BB : Mine.B06 ⟨PySem.Challenge.rw_dm0095_06.row.prog, w, callerA, default, s₁.heap, mg, mb⟩ := ⟨KX, ⟨T.g, T.b, T.nolimit⟩, T.builtins⟩
  have hfa : fa = 48 := by
    have h1 : mg (Str.ofString "law") = some (.ref 48) := by rw [Mine.mg_of T.g (KX 3 _ rfl) rfl]; rfl
    have h2 : mg (Str.ofString "law") = some (.ref fa) := hmg
    rw [h1] at h2; cases h2; rfl
  subst hfa
  rename_i hlist _ _ _ hints _ hlen _
  refine Mine.law_run (Mine.law06 BB ⟨rfl, (show callerA.depth + 3 < 900 by decide), (show callerA.units + 10 * 3 < 9000 by decide)⟩ (by omega)) hlist hints fun s' k => ?_
  obtain ⟨h', tk, rfl, hk⟩ := k
  exact GoodW.toG ⟨.inl ⟨.bool true, .bool true, [], rfl, raisesW_false (by intro ct h; cases h), .bool true, postW_of rfl (w_eq_bool (w_res rfl) w_lit) rfl, unshared_nil⟩, hk, rfl, hg⟩
