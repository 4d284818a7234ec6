import PyProof.Rows.All
import Wide.All
import OpenK.AllK
import Wide.FinOn
import PySem.Challenge.RW_wf0092_01
set_option Elab.async false
set_option maxRecDepth 100000
set_option linter.unusedVariables false
-- V1
namespace Mine
open PySem PySem.W PySem.Calls PyProof.Rows

/-- plain data -/
inductive D where
  | none
  | bool (b : Bool)
  | int (i : Int)
  | str (s : Str)
  | tup (l : List D)
  | lst (l : List D)

/-- a plain list stands at a -/
def LAt (h : Heap) (a : Addr) (vs : List Value) : Prop := ∃ n, h.get? a = some { cls := .type "list", data := .seq vs.toArray n }
theorem LAt.isList {h : Heap} {a : Addr} {vs : List Value} (x : LAt h a vs) : h.IsList a vs.toArray := let ⟨n, e⟩ := x; ⟨_, e, rfl, n, rfl⟩
theorem LAt.keep {h h' : Heap} {a : Addr} {vs : List Value} (x : LAt h a vs) (k : ∀ o, h.get? a = some o → h'.get? a = some o) : LAt h' a vs := let ⟨n, e⟩ := x; ⟨n, k _ e⟩

mutual
/-- the value v is the datum d in h, through objects off X alone -/
inductive Is (h : Heap) (X : List Addr) : Value → D → Prop
  | none : Is h X .none .none
  | bool {b : Bool} : Is h X (.bool b) (.bool b)
  | int {i : Int} {t : Tok} : Is h X (.int i t) (.int i)
  | str {s : Str} {t : Tok} : Is h X (.str s t) (.str s)
  | tup {a : Addr} {vs : List Value} {ds : List D} : h.IsTuple a vs.toArray → a ∉ X → Are h X vs ds → Is h X (.ref a) (.tup ds)
  | lst {a : Addr} {vs : List Value} {ds : List D} : LAt h a vs → a ∉ X → Are h X vs ds → Is h X (.ref a) (.lst ds)
inductive Are (h : Heap) (X : List Addr) : List Value → List D → Prop
  | nil : Are h X [] []
  | cons {v : Value} {vs : List Value} {d : D} {ds : List D} : Is h X v d → Are h X vs ds → Are h X (v :: vs) (d :: ds)
end

theorem Is.map {h h' : Heap} {X X' : List Addr} (ht : ∀ a vs, h.IsTuple a vs → a ∉ X → h'.IsTuple a vs ∧ a ∉ X') (hl : ∀ a vs, LAt h a vs → a ∉ X → LAt h' a vs ∧ a ∉ X') {v : Value} {d : D} (x : Is h X v d) : Is h' X' v d :=
  Is.rec (motive_1 := fun v d _ => Is h' X' v d) (motive_2 := fun vs ds _ => Are h' X' vs ds) .none .bool .int .str (fun e hx _ ih => .tup (ht _ _ e hx).1 (ht _ _ e hx).2 ih) (fun e hx _ ih => .lst (hl _ _ e hx).1 (hl _ _ e hx).2 ih) .nil (fun _ _ a b => .cons a b) x
theorem Are.nilI {h : Heap} {X : List Addr} {vs : List Value} (a : Are h X vs []) : vs = [] := by cases a; rfl
theorem Are.consI {h : Heap} {X : List Addr} {vs : List Value} {d : D} {ds : List D} (a : Are h X vs (d :: ds)) : ∃ v vs', vs = v :: vs' ∧ Is h X v d ∧ Are h X vs' ds := by
  cases a with | cons a b => exact ⟨_, _, rfl, a, b⟩
theorem Is.intI {h : Heap} {X : List Addr} {v : Value} {i : Int} (a : Is h X v (.int i)) : ∃ t, v = .int i t := by cases a; exact ⟨_, rfl⟩
theorem Is.strI {h : Heap} {X : List Addr} {v : Value} {x : Str} (a : Is h X v (.str x)) : ∃ t, v = .str x t := by cases a; exact ⟨_, rfl⟩
theorem Is.lstI {h : Heap} {X : List Addr} {v : Value} {ds : List D} (a : Is h X v (.lst ds)) : ∃ b vs, v = .ref b ∧ LAt h b vs ∧ b ∉ X ∧ Are h X vs ds := by
  cases a with | lst a b c => exact ⟨_, _, rfl, a, b, c⟩
theorem Is.tupI {h : Heap} {X : List Addr} {v : Value} {ds : List D} (a : Is h X v (.tup ds)) : ∃ b vs, v = .ref b ∧ h.IsTuple b vs.toArray ∧ b ∉ X ∧ Are h X vs ds := by
  cases a with | tup a b c => exact ⟨_, _, rfl, a, b, c⟩
theorem Are.map {h h' : Heap} {X X' : List Addr} (f : ∀ {v : Value} {d : D}, Is h X v d → Is h' X' v d) {vs : List Value} {ds : List D} (x : Are h X vs ds) : Are h' X' vs ds := by
  induction ds generalizing vs with
  | nil => rw [x.nilI]; exact .nil
  | cons d ds ih => obtain ⟨v, vs', rfl, i, r⟩ := x.consI; exact .cons (f i) (ih r)
theorem Is.mono {h h' : Heap} {X X' : List Addr} (hk : ∀ b o, b ∉ X → h.get? b = some o → h'.get? b = some o ∧ b ∉ X') {v : Value} {d : D} (x : Is h X v d) : Is h' X' v d :=
  x.map (fun a vs e hx => by obtain ⟨o, e, c⟩ := e; exact ⟨⟨o, (hk _ _ hx e).1, c⟩, (hk _ _ hx e).2⟩) (fun a vs e hx => by obtain ⟨n, e⟩ := e; exact ⟨⟨n, (hk _ _ hx e).1⟩, (hk _ _ hx e).2⟩)
theorem Are.mono {h h' : Heap} {X X' : List Addr} (hk : ∀ b o, b ∉ X → h.get? b = some o → h'.get? b = some o ∧ b ∉ X') {vs : List Value} {ds : List D} (x : Are h X vs ds) : Are h' X' vs ds := x.map (Is.mono hk)

theorem len1 {l : List Value} (h : l.length = 1) : ∃ a, l = [a] := by
  cases l with
  | nil => cases h
  | cons a l => cases l with
    | nil => exact ⟨a, rfl⟩
    | cons _ _ => cases h
theorem len2 {l : List Value} (h : l.length = 2) : ∃ a b, l = [a, b] := by
  cases l with
  | nil => cases h
  | cons a l => obtain ⟨b, rfl⟩ := len1 (Nat.succ.inj h); exact ⟨a, b, rfl⟩
theorem len3 {l : List Value} (h : l.length = 3) : ∃ a b c, l = [a, b, c] := by
  cases l with
  | nil => cases h
  | cons a l => obtain ⟨b, c, rfl⟩ := len2 (Nat.succ.inj h); exact ⟨a, b, c, rfl⟩
theorem len4 {l : List Value} (h : l.length = 4) : ∃ a b c d, l = [a, b, c, d] := by
  cases l with
  | nil => cases h
  | cons a l => obtain ⟨b, c, d, rfl⟩ := len3 (Nat.succ.inj h); exact ⟨a, b, c, d, rfl⟩

theorem Are.length {h : Heap} {X : List Addr} {vs : List Value} {ds : List D} (x : Are h X vs ds) : vs.length = ds.length := by
  induction ds generalizing vs with
  | nil => rw [x.nilI]; rfl
  | cons d ds ih => obtain ⟨v, vs', rfl, i, r⟩ := x.consI; rw [List.length_cons, List.length_cons, ih r]
theorem Are.get {h : Heap} {X : List Addr} {vs : List Value} {ds : List D} (x : Are h X vs ds) {k : Nat} {d : D} (e : ds[k]? = some d) : ∃ v, vs[k]? = some v ∧ Is h X v d := by
  induction ds generalizing vs k with
  | nil => cases e
  | cons d' ds ih =>
    obtain ⟨v, vs', rfl, i, r⟩ := x.consI
    cases k with
    | zero => cases e; exact ⟨v, rfl, i⟩
    | succ k => exact ih r e
theorem Are.append {h : Heap} {X : List Addr} {vs ws : List Value} {ds es : List D} (x : Are h X vs ds) (k : Are h X ws es) : Are h X (vs ++ ws) (ds ++ es) := by
  induction ds generalizing vs with
  | nil => rw [x.nilI]; exact k
  | cons d ds ih => obtain ⟨v, vs', rfl, i, r⟩ := x.consI; exact .cons i (ih r)
theorem Are.one {h : Heap} {X : List Addr} {v : Value} {d : D} (x : Is h X v d) : Are h X [v] [d] := .cons x .nil
theorem Are.drop {h : Heap} {X : List Addr} {vs : List Value} {ds : List D} (k : Nat) (x : Are h X vs ds) : Are h X (vs.drop k) (ds.drop k) := by
  induction k generalizing vs ds with
  | zero => exact x
  | succ k ih =>
    cases ds with
    | nil => rw [x.nilI]; exact .nil
    | cons d ds => obtain ⟨v, vs', rfl, i, r⟩ := x.consI; exact ih r
theorem Are.take {h : Heap} {X : List Addr} {vs : List Value} {ds : List D} (k : Nat) (x : Are h X vs ds) : Are h X (vs.take k) (ds.take k) := by
  induction k generalizing vs ds with
  | zero => exact .nil
  | succ k ih =>
    cases ds with
    | nil => rw [x.nilI]; exact .nil
    | cons d ds => obtain ⟨v, vs', rfl, i, r⟩ := x.consI; exact .cons i (ih r)
theorem Are.reverse {h : Heap} {X : List Addr} {vs : List Value} {ds : List D} (x : Are h X vs ds) : Are h X vs.reverse ds.reverse := by
  induction ds generalizing vs with
  | nil => rw [x.nilI]; exact .nil
  | cons d ds ih => obtain ⟨v, vs', rfl, i, r⟩ := x.consI; rw [List.reverse_cons, List.reverse_cons]; exact (ih r).append (.one i)
theorem Are.rep {h : Heap} {X : List Addr} {v : Value} {d : D} (x : Is h X v d) : ∀ n : Nat, Are h X (List.replicate n v) (List.replicate n d)
  | 0 => .nil
  | n + 1 => .cons x (Are.rep x n)
theorem Are.set {h : Heap} {X : List Addr} {v : Value} {d : D} (x : Is h X v d) {vs : List Value} {ds : List D} (k : Nat) (a : Are h X vs ds) : Are h X (vs.set k v) (ds.set k d) := by
  induction ds generalizing vs k with
  | nil => rw [a.nilI]; exact .nil
  | cons d' ds ih =>
    obtain ⟨v', vs', rfl, i, r⟩ := a.consI
    cases k with
    | zero => exact .cons x r
    | succ k => exact .cons i (ih k r)

/-- what one step, or many, let be: all objects off Y, all generators off J; the others, and the new ones, sleep bare -/
structure ExtJ (Y : List Addr) (J : List Nat) (s s' : Shared) : Prop where
  keep : ∀ b o, b ∉ Y → s.heap.get? b = some o → s'.heap.get? b = some o
  gens : ∀ (i : Nat) (g : GenState), i ∉ J → s.gens[i]? = some g → s'.gens[i]? = some g
  fin : ∀ (i : Nat) (g : GenState), i ∈ J ∨ s.gens.size ≤ i → s'.gens[i]? = some g → g.bare = true
  size : s.gens.size ≤ s'.gens.size
  os : s'.os = s.os
abbrev Ext (Y : List Addr) (s s' : Shared) : Prop := ExtJ Y [] s s'

theorem fin_refl (s : Shared) (i : Nat) (g : GenState) (h : i ∈ ([] : List Nat) ∨ s.gens.size ≤ i) (e : s.gens[i]? = some g) : g.bare = true := by
  rcases h with h | h
  · cases h
  · rw [Array.getElem?_eq_none h] at e; cases e
theorem Ext.refl (Y : List Addr) (s : Shared) : Ext Y s s := ⟨fun _ _ _ e => e, fun _ _ _ e => e, fin_refl s, Nat.le_refl _, rfl⟩
theorem Ext.heap {Y : List Addr} {s : Shared} {h' : Heap} {k : Nat} (hk : ∀ b o, b ∉ Y → s.heap.get? b = some o → h'.get? b = some o) : Ext Y s { s with heap := h', toks := k } :=
  ⟨hk, fun _ _ _ e => e, fin_refl s, Nat.le_refl _, rfl⟩
theorem ExtJ.trans {Y Y' : List Addr} {J J' : List Nat} {s s' s'' : Shared} (a : ExtJ Y J s s') (b : ExtJ Y' J' s' s'') (hY : ∀ x ∈ Y', x ∈ Y ∨ s.heap.get? x = none) (hJ : ∀ i ∈ J', i ∈ J) : ExtJ Y J s s'' := by
  refine ⟨fun c o hc e => b.keep c o (fun h => ?_) (a.keep c o hc e), fun i g hi e => b.gens i g (fun h => hi (hJ i h)) (a.gens i g hi e), fun i g hi e => ?_, Nat.le_trans a.size b.size, b.os.trans a.os⟩
  · rcases hY c h with h | h
    · exact hc h
    · rw [h] at e; cases e
  · by_cases hj : i ∈ J'
    · exact b.fin i g (.inl hj) e
    · by_cases hs : s'.gens.size ≤ i
      · exact b.fin i g (.inr hs) e
      · have : i < s'.gens.size := Nat.lt_of_not_le hs
        have e' : s'.gens[i]? = some s'.gens[i] := Array.getElem?_eq_getElem this
        have h2 := b.gens i _ hj e'
        rw [h2] at e; cases e
        exact a.fin i _ hi e'
theorem Ext.trans {Y Y' : List Addr} {s s' s'' : Shared} (a : Ext Y s s') (b : Ext Y' s' s'') (hY : ∀ x ∈ Y', x ∈ Y ∨ s.heap.get? x = none) : Ext Y s s'' := ExtJ.trans a b hY fun _ h => h
theorem Ext.trans' {Y : List Addr} {s s' s'' : Shared} (a : Ext Y s s') (b : Ext Y s' s'') : Ext Y s s'' := a.trans b fun _ h => .inl h
theorem ExtJ.more {Y Y' : List Addr} {J J' : List Nat} {s s' : Shared} (a : ExtJ Y J s s') (h : ∀ x ∈ Y, x ∈ Y') (hJ : ∀ x ∈ J, x ∈ J') (hb : ∀ i ∈ J', i ∈ J ∨ ∀ g, s'.gens[i]? = some g → g.bare = true) : ExtJ Y' J' s s' :=
  ⟨fun b o hb e => a.keep b o (fun hh => hb (h _ hh)) e, fun i g hi e => a.gens i g (fun h => hi (hJ i h)) e, fun i g hi e => by
    rcases hi with hi | hi
    · rcases hb i hi with q | q
      · exact a.fin i g (.inl q) e
      · exact q g e
    · exact a.fin i g (.inr hi) e, a.size, a.os⟩
theorem Ext.more {Y Y' : List Addr} {s s' : Shared} (a : Ext Y s s') (h : ∀ x ∈ Y, x ∈ Y') : Ext Y' s s' := ExtJ.more a h (fun _ h => h) fun _ h => .inl h
/-- generators that were not there are no exception -/
theorem ExtJ.drop {Y : List Addr} {J : List Nat} {s s' : Shared} (a : ExtJ Y J s s') (h : ∀ i ∈ J, s.gens.size ≤ i) : Ext Y s s' :=
  ⟨a.keep, fun i g _ e => a.gens i g (fun hj => by rw [Array.getElem?_eq_none (h i hj)] at e; cases e) e, fun i g hi e => a.fin i g (.inr (hi.resolve_left (fun q => nomatch q))) e, a.size, a.os⟩

theorem Ns.uniq {h : Heap} {a : Addr} {m m' : Str → Option Value} (x : h.Ns a m) (y : h.Ns a m') : m = m' := by
  obtain ⟨o, es, ep, e1, e2, _, e4⟩ := x
  obtain ⟨o', es', ep', q1, q2, _, q4⟩ := y
  rw [e1] at q1; cases q1; rw [e2] at q2; cases q2
  funext y; rw [← e4, ← q4]
/-- an expression's step: all objects but the names' table, and the table's names -/
structure XL (L : Addr) (s s' : Shared) : Prop where
  ext : Ext [L] s s'
  tab : ∀ m, s.heap.Ns L m → s'.heap.Ns L m
theorem XL.refl (L : Addr) (s : Shared) : XL L s s := ⟨Ext.refl _ _, fun _ h => h⟩
theorem XL.heap {L : Addr} {s : Shared} {h' : Heap} {k : Nat} (hk : ∀ b o, s.heap.get? b = some o → h'.get? b = some o) : XL L s { s with heap := h', toks := k } := ⟨Ext.heap fun b o _ e => hk b o e, fun _ h => h.keeps hk⟩
theorem XL.trans' {L : Addr} {s s' s'' : Shared} (a : XL L s s') (b : XL L s' s'') : XL L s s'' := ⟨a.ext.trans' b.ext, fun m h => b.tab m (a.tab m h)⟩
theorem XL.keep {L : Addr} {s s' : Shared} (a : XL L s s') {b : Addr} {o : Obj} (hb : b ≠ L) (e : s.heap.get? b = some o) : s'.heap.get? b = some o := a.ext.keep b o (fun h => hb (List.mem_singleton.mp h)) e

/-- how a name of the frame is bound: a datum, a list of the frame's own, a cell that holds a datum, an empty cell -/
inductive B where
  | val (d : D)
  | own (ds : List D)
  | cell (d : D)
  | cell0
  | any
  | raw (v : Value)

abbrev Vars := List (Str × B)

abbrev P : Program := PySem.Challenge.pw_wf0092_01

/-- the i-th statement of the text, a def -/
def fnAt (i : Nat) : Option (Str × Arguments × List Stmt × Scope) := match P.main.body[i]? with
  | some (.FunctionDef n a b _ _ _ sc _ _ _) => some (n, a, b, sc)
  | _ => none
def FnAt (h : Heap) (f : Addr) (n : Str) (ar : Arguments) (b : List Stmt) (sc : Scope) : Prop :=
  ∃ o pm cd doc, h.get? f = some o ∧ o.data = .func (docDef n ar b sc pm cd doc) ∧ h.CodeRec cd n
theorem FnAt.keeps {h h' : Heap} {f : Addr} {n : Str} {ar : Arguments} {b : List Stmt} {sc : Scope} (x : FnAt h f n ar b sc) (hk : ∀ b o, h.get? b = some o → h'.get? b = some o) : FnAt h' f n ar b sc :=
  let ⟨o, pm, cd, doc, e, d, c⟩ := x; ⟨o, pm, cd, doc, hk _ _ e, d, c.keeps hk⟩

/-- the built-in names that the text asks -/
def blts : List Str := ["len", "range", "enumerate", "zip", "chr", "ord", "iter", "next", "StopIteration"]

def b1s : List Int := [173, 847, 6150, 6155, 6156, 6157, 8203, 8204, 8205, 8288, 65279] ++ (List.range 16).map fun k : Nat => (65024 + (k : Int) : Int)
def b3t : List (Int × Str) := [(119808, "a"), (119818, "k"), (119826, "s")]
def ett : List (Str × Int) := [("(", 7), (")", 8), ("+", 14), ("-", 15), ("*", 16), ("/", 17), ("%", 24), ("@", 49), ("|", 18), ("&", 19), ("^", 32), ("<", 20), (">", 21), ("=", 22)]
def etn : List Str := ["a", "k", "s", "\\(", "\\)", "\\\"", "\\\\", "\\-"]
/-- what stands at the top -/
structure GOk (w : World) (mg mb : Str → Option Value) (h : Heap) : Prop where
  g : h.Ns mainGlobals mg
  b : h.Ns builtinsNs mb
  lim : h.NoLimit
  bi : ∀ x : Str, x ≠ "__name__" → mb x = bootBuiltins x
  miss : ∀ x ∈ blts, mg x = none
  fn : ∀ i n ar b sc, fnAt i = some (n, ar, b, sc) → ∃ f, mg n = some (.ref f) ∧ FnAt h f n ar b sc
  nt : ∃ t, mg "NT_OFFSET" = some (.int 256 t)
  em : ∃ t, mg "ENDMARKER" = some (.int 0 t)
  b1 : ∃ a n, mg "b1_set" = some (.ref a) ∧ h.SetOf (intKind P w) a (fun k => b1s.contains k) n
  b3 : ∃ a f, mg "b3_exceptions" = some (.ref a) ∧ (a == sysModules) = false ∧ h.MapOf (intKind P w) a f ∧ (∀ p ∈ b3t, ∃ t, f p.1 = some (.str p.2 t)) ∧ ∀ k : Int, k < 181 → f k = none
  et : ∃ a f, mg "EXACT_TOKEN_TYPES" = some (.ref a) ∧ (a == sysModules) = false ∧ h.MapOf (strKind P w) a f ∧ (∀ p ∈ ett, ∃ t, f p.1 = some (.int p.2 t)) ∧ ∀ x ∈ etn, f x = none

theorem GOk.keeps {w : World} {mg mb : Str → Option Value} {h h' : Heap} (x : GOk w mg mb h) (hk : ∀ b o, h.get? b = some o → h'.get? b = some o) : GOk w mg mb h' := by
  refine ⟨x.g.keeps hk, x.b.keeps hk, x.lim.keeps hk, x.bi, x.miss, fun i n ar b sc e => ?_, x.nt, x.em, ?_, ?_, ?_⟩
  · obtain ⟨f, a, c⟩ := x.fn i n ar b sc e; exact ⟨f, a, c.keeps hk⟩
  · obtain ⟨a, n, e, o, es, ep, t, ho, r⟩ := x.b1; exact ⟨a, n, e, o, es, ep, t, hk _ _ ho, r⟩
  · obtain ⟨a, f, e, q, ⟨o, es, ep, ho, r⟩, z⟩ := x.b3; exact ⟨a, f, e, q, ⟨o, es, ep, hk _ _ ho, r⟩, z⟩
  · obtain ⟨a, f, e, q, ⟨o, es, ep, ho, r⟩, z⟩ := x.et; exact ⟨a, f, e, q, ⟨o, es, ep, hk _ _ ho, r⟩, z⟩

structure Cx where
  w : World
  A : Around
  env : Env
  h₀ : Heap
  mg : Str → Option Value
  mb : Str → Option Value
  /-- what the frames below may yet turn -/
  X₀ : List Addr
  lv : Nat

abbrev Cx.av (C : Cx) (X : List Addr) : List Addr := X ++ C.X₀

/-- more that is not to be met -/
abbrev Cx.plus (C : Cx) (W : List Addr) : Cx := { C with X₀ := W ++ C.X₀ }

abbrev Cx.M (C : Cx) : Model := model P C.w
abbrev Cx.L (C : Cx) : Addr := C.env.locals

structure CxOk (C : Cx) : Prop where
  kind : C.env.scope.kind = .function
  glob : C.env.globals = mainGlobals
  blt : C.env.builtins = builtinsNs
  hand : C.A.handled = none
  depth : C.A.depth ≤ 400 + C.lv
  units : C.A.units ≤ 1000 + 20 * C.lv
  lv : C.lv ≤ 100
  G : GOk C.w C.mg C.mb C.h₀

def Bd (C : Cx) (X : List Addr) (h : Heap) (m : Str → Option Value) (x : Str) : B → Prop
  | .val d => ∃ v, m x = some v ∧ Is h (C.av X) v d
  | .own ds => ∃ a vs, m x = some (.ref a) ∧ a ∈ X ∧ LAt h a vs ∧ Are h (C.av X) vs ds
  | .cell d => ∃ c v, C.env.cells.lookup x = some c ∧ h.IsCell c (some v) ∧ Is h (C.av X) v d ∧ c ∉ C.X₀ ∧ (C.env.kindOf x = some .cell → c ∈ X)
  | .cell0 => ∃ c, C.env.cells.lookup x = some c ∧ h.IsCell c none ∧ c ∈ X
  | .any => True
  | .raw v => m x = some v

/-- the frame's state -/
structure FS (C : Cx) (X : List Addr) (Γ : Vars) (s : Shared) : Prop where
  ok : CxOk C
  ex : ∃ m, Fr C.h₀ C.L s.heap m ∧ (∀ x b, Γ.lookup x = some b → Bd C X s.heap m x b) ∧
    ∀ x y ds es a, Γ.lookup x = some (.own ds) → Γ.lookup y = some (.own es) → m x = some (.ref a) → m y = some (.ref a) → x = y
  hL : C.L ∈ X
  live : ∀ a ∈ C.av X, ∃ o, s.heap.get? a = some o
  new : ∀ a ∈ X, C.h₀.get? a = none
  off : ∀ a ∈ X, a ∉ C.X₀

theorem FS.toks {C : Cx} {X : List Addr} {Γ : Vars} {s : Shared} (F : FS C X Γ s) {k : Nat} : FS C X Γ { s with toks := k } := ⟨F.ok, F.ex, F.hL, F.live, F.new, F.off⟩
theorem FS.G {C : Cx} {X : List Addr} {Γ : Vars} {s : Shared} (F : FS C X Γ s) : GOk C.w C.mg C.mb s.heap := by
  obtain ⟨m, Fr, _⟩ := F.ex; exact F.ok.G.keeps Fr.keep

theorem Bd.mono {C : Cx} {X : List Addr} {h h' : Heap} {m : Str → Option Value} {x : Str} {b : B} (hk : ∀ c o, c ≠ C.L → h.get? c = some o → h'.get? c = some o)
    (hL : C.L ∈ X) (hn : ∃ m, h.Ns C.L m) (B : Bd C X h m x b) : Bd C X h' m x b := by
  obtain ⟨m', oL, es, ep, hoL, hdL, _⟩ := hn
  have hI : ∀ {v d}, Is h (C.av X) v d → Is h' (C.av X) v d := fun i => i.mono fun c o hc e => ⟨hk c o (fun q => hc (q ▸ List.mem_append_left _ hL)) e, hc⟩
  have hA : ∀ {v d}, Are h (C.av X) v d → Are h' (C.av X) v d := fun i => i.mono fun c o hc e => ⟨hk c o (fun q => hc (q ▸ List.mem_append_left _ hL)) e, hc⟩
  cases b with
  | val d => obtain ⟨v, a, i⟩ := B; exact ⟨v, a, hI i⟩
  | own ds =>
    obtain ⟨a, vs, e, ha, ⟨n, ho⟩, hv⟩ := B
    refine ⟨a, vs, e, ha, ⟨n, hk _ _ (fun q => ?_) ho⟩, hA hv⟩
    subst q; rw [hoL] at ho; cases ho; cases hdL
  | cell d =>
    obtain ⟨c, v, e, ⟨o, ho, hd⟩, i, hc⟩ := B
    refine ⟨c, v, e, ⟨o, hk _ _ (fun q => ?_) ho, hd⟩, hI i, hc⟩
    subst q; rw [hoL] at ho; cases ho; rw [hdL] at hd; cases hd
  | cell0 =>
    obtain ⟨c, e, ⟨o, ho, hd⟩, i⟩ := B
    refine ⟨c, e, ⟨o, hk _ _ (fun q => ?_) ho, hd⟩, i⟩
    subst q; rw [hoL] at ho; cases ho; rw [hdL] at hd; cases hd
  | any => trivial
  | raw w => exact B

/-- a heap that keeps all but the names' table, and the table's names -/
theorem FS.keeps {C : Cx} {X : List Addr} {Γ : Vars} {s s' : Shared} (F : FS C X Γ s) (hk : ∀ b o, s.heap.get? b = some o → s'.heap.get? b = some o) : FS C X Γ s' := by
  obtain ⟨m, Fr, hb, ap⟩ := F.ex
  exact ⟨F.ok, ⟨m, ⟨Fr.ns.keeps hk, fun b o e => hk _ _ (Fr.keep b o e), Fr.above⟩, fun x b e => (hb x b e).mono (fun c o _ e => hk c o e) F.hL ⟨m, Fr.ns⟩, ap⟩, F.hL,
    fun a ha => let ⟨o, e⟩ := F.live a ha; ⟨o, hk _ _ e⟩, F.new, F.off⟩
theorem FS.push {C : Cx} {X : List Addr} {Γ : Vars} {s : Shared} (F : FS C X Γ s) (o : Obj) {k : Nat} : FS C X Γ { s with heap := s.heap.push o, toks := k } :=
  F.keeps fun _ _ e => Heap.get?_push_of_some _ e
theorem FS.weak {C : Cx} {X : List Addr} {Γ Γ' : Vars} {s : Shared} (F : FS C X Γ s) (h : ∀ x b, Γ'.lookup x = some b → b = .any ∨ Γ.lookup x = some b) : FS C X Γ' s := by
  obtain ⟨m, Fr, hb, ap⟩ := F.ex
  refine ⟨F.ok, ⟨m, Fr, fun x b e => ?_, fun x y ds es a e1 e2 => ap x y ds es a ?_ ?_⟩, F.hL, F.live, F.new, F.off⟩
  · rcases h x b e with q | q
    · subst q; trivial
    · exact hb x b q
  · rcases h x _ e1 with q | q
    · cases q
    · exact q
  · rcases h y _ e2 with q | q
    · cases q
    · exact q

theorem FS.hL' {C : Cx} {X : List Addr} {Γ : Vars} {s : Shared} (F : FS C X Γ s) : C.L ∈ C.av X := List.mem_append_left _ F.hL
theorem FS.fresh {C : Cx} {X : List Addr} {Γ : Vars} {s : Shared} (F : FS C X Γ s) : s.heap.objs.size ∉ C.av X := fun h => by
  obtain ⟨o, e⟩ := F.live _ h
  exact absurd (Heap.lt_size e) (Nat.lt_irrefl _)

/-- behind an expression -/
def Post (C : Cx) (X : List Addr) (Γ : Vars) (s : Shared) (d : D) (v : Value) (s' : Shared) : Prop := FS C X Γ s' ∧ Is s'.heap (C.av X) v d ∧ XL C.L s s'
abbrev no : Value → Shared → Prop := fun _ _ => False

def Ev (C : Cx) (Γ : Vars) (e : Expr) (d : D) : Prop :=
  ∀ X s, FS C X Γ s → wpAny C.M C.A (eval e C.env) (Post C X Γ s d) no s
/-- a list, the frame's own or not -/
def EvL (C : Cx) (Γ : Vars) (e : Expr) (ds : List D) : Prop :=
  ∀ X s, FS C X Γ s → wpAny C.M C.A (eval e C.env) (fun v s' => FS C X Γ s' ∧ (∃ a vs, v = .ref a ∧ LAt s'.heap a vs ∧ Are s'.heap (C.av X) vs ds ∧ a ≠ C.L) ∧ XL C.L s s') no s
/-- several -/
def Evs (C : Cx) (Γ : Vars) (es : List Expr) (ds : List D) : Prop :=
  ∀ X s pos, FS C X Γ s → wpAny C.M C.A (spliced (backTo pos (starEach es C.env))) (fun vs s' => FS C X Γ s' ∧ Are s'.heap (C.av X) vs ds ∧ XL C.L s s') no s
/-- a test -/
def Tr (C : Cx) (Γ : Vars) (e : Expr) (b : Bool) : Prop :=
  ∀ X s, FS C X Γ s → wpAny C.M C.A (isTrue e C.env (eval e C.env)) (fun b' s' => b' = b ∧ FS C X Γ s' ∧ XL C.L s s') no s

section
variable {C : Cx} {Γ : Vars}

theorem Is.ext {X : List Addr} {s s' : Shared} {v : Value} {d : D} (i : Is s.heap X v d) (hL : C.L ∈ X) (x : XL C.L s s') : Is s'.heap X v d :=
  i.mono fun b o hb e => ⟨x.keep (fun h => hb (h ▸ hL)) e, hb⟩
theorem Are.ext {X : List Addr} {s s' : Shared} {v : List Value} {d : List D} (i : Are s.heap X v d) (hL : C.L ∈ X) (x : XL C.L s s') : Are s'.heap X v d :=
  i.mono fun b o hb e => ⟨x.keep (fun h => hb (h ▸ hL)) e, hb⟩

theorem Post.same {X : List Addr} {s : Shared} {v : Value} {d : D} {k : Nat} (F : FS C X Γ s) (i : Is s.heap (C.av X) v d) : Post C X Γ s d v { s with toks := k } := ⟨F.toks, i, XL.heap fun _ _ e => e⟩
theorem Post.after {X : List Addr} {s s' s'' : Shared} {v : Value} {d : D} (x : XL C.L s s') (p : Post C X Γ s' d v s'') : Post C X Γ s d v s'' := ⟨p.1, p.2.1, x.trans' p.2.2⟩

theorem Ev.int {i : Int} {k : Nat} {pos : Pos} : Ev C Γ (.Constant (.int i) k pos) (.int i) := fun _ _ F => wpAny_Constant_int (Post.same F .int)
theorem Ev.str {x : Str} {k : Nat} {pos : Pos} : Ev C Γ (.Constant (.str x) k pos) (.str x) := fun _ _ F => wpAny_Constant_str (Post.same F .str)
theorem Ev.bool {b : Bool} {k : Nat} {pos : Pos} : Ev C Γ (.Constant (.bool b) k pos) (.bool b) := fun _ _ F => wpAny_Constant_bool (Post.same F .bool)
theorem Ev.none {k : Nat} {pos : Pos} : Ev C Γ (.Constant .none k pos) .none := fun _ _ F => wpAny_Constant_none (Post.same F .none)

theorem Ev.loc {x : Str} {pos : Pos} {d : D} (hx : Γ.lookup x = some (.val d)) (hl : C.env.kindOf x = some .local) (hd : (x == ("__debug__" : Str)) = false := by decide) : Ev C Γ (.Name x pos) d := fun _ _ F => by
  obtain ⟨m, Fr, hb, _⟩ := F.ex
  obtain ⟨v, e, i⟩ := hb x _ hx
  exact wpAny_Name (wpAny_loadName_local F.ok.kind hl Fr.ns e (Post.same F i)) hd
theorem Ev.cel {x : Str} {pos : Pos} {d : D} (hx : Γ.lookup x = some (.cell d)) (hl : C.env.kindOf x = some .cell) (hd : (x == ("__debug__" : Str)) = false := by decide) : Ev C Γ (.Name x pos) d := fun _ _ F => by
  obtain ⟨m, Fr, hb, _⟩ := F.ex
  obtain ⟨c, v, e, hc, i, _⟩ := hb x _ hx
  exact wpAny_Name (wpAny_loadName_cell F.ok.kind hl e hc (Post.same F i)) hd
theorem Ev.fre {x : Str} {pos : Pos} {d : D} (hx : Γ.lookup x = some (.cell d)) (hl : C.env.kindOf x = some .free) (hd : (x == ("__debug__" : Str)) = false := by decide) (hn : (x == ("__classdict__" : Str)) = false := by decide) : Ev C Γ (.Name x pos) d := fun _ _ F => by
  obtain ⟨m, Fr, hb, _⟩ := F.ex
  obtain ⟨c, v, e, hc, i, _⟩ := hb x _ hx
  exact wpAny_Name (wpAny_loadName_free F.ok.kind hl e hc (Post.same F i) hn) hd
theorem Is.isL {h : Heap} {X : List Addr} {v : Value} {ds : List D} (i : Is h X v (.lst ds)) (hL : L ∈ X) : ∃ a vs, v = .ref a ∧ LAt h a vs ∧ Are h X vs ds ∧ a ≠ L := by
  cases i with
  | lst hl hx hs => exact ⟨_, _, rfl, hl, hs, fun e => hx (e ▸ hL)⟩
theorem EvL.of {e : Expr} {ds : List D} (h : Ev C Γ e (.lst ds)) : EvL C Γ e ds := fun X s F =>
  wpAny_mono (h X s F) (fun _ _ p => ⟨p.1, p.2.1.isL F.hL', p.2.2⟩) fun _ _ x => x
theorem EvL.own {x : Str} {pos : Pos} {ds : List D} (hx : Γ.lookup x = some (.own ds)) (hl : C.env.kindOf x = some .local) (hd : (x == ("__debug__" : Str)) = false := by decide) : EvL C Γ (.Name x pos) ds := fun X s F => by
  obtain ⟨m, Fr, hb, _⟩ := F.ex
  obtain ⟨a, vs, e, ha, hli, hv⟩ := hb x _ hx
  refine wpAny_Name (wpAny_loadName_local F.ok.kind hl Fr.ns e ⟨F, ⟨a, vs, rfl, hli, hv, ?_⟩, XL.refl _ _⟩) hd
  rintro rfl
  obtain ⟨o, es, ep, h1, h2, _⟩ := Fr.ns
  obtain ⟨n, h3⟩ := hli
  rw [h1] at h3; cases h3; cases h2

/-- a step on values that only makes -/
def Bop (C : Cx) (t : Value → Value → Sem Value) (a b d : D) : Prop :=
  ∀ X Γ s va vb, FS C X Γ s → Is s.heap (C.av X) va a → Is s.heap (C.av X) vb b → wpAny C.M C.A (t va vb) (Post C X Γ s d) no s
def Uop (C : Cx) (t : Value → Sem Value) (a d : D) : Prop :=
  ∀ X Γ s va, FS C X Γ s → Is s.heap (C.av X) va a → wpAny C.M C.A (t va) (Post C X Γ s d) no s
def Truth (C : Cx) (a : D) (b : Bool) : Prop :=
  ∀ X Γ s va, FS C X Γ s → Is s.heap (C.av X) va a → wpAny C.M C.A (truthy va) (fun b' s' => b' = b ∧ FS C X Γ s' ∧ XL C.L s s') no s

theorem Ev.bin {l r : Expr} {op : Operator} {pos : Pos} {a b d : D} (hl : Ev C Γ l a) (hr : Ev C Γ r b) (ho : Bop C (binaryOp op) a b d) : Ev C Γ (.BinOp l op r pos) d := fun X s F =>
  wpAny_BinOp (wpAny_mono (hl X s F) (fun va s₁ p => wpAny_mono (hr X s₁ p.1) (fun vb s₂ q => wpAny_mono (ho X Γ s₂ va vb q.1 (p.2.1.ext F.hL' q.2.2) q.2.1)
    (fun _ _ z => (z.after q.2.2).after p.2.2) fun _ _ x => x) fun _ _ x => x) fun _ _ x => x)
theorem Ev.cmp {l r : Expr} {op : CmpOp} {pos : Pos} {a b d : D} (hl : Ev C Γ l a) (hr : Ev C Γ r b) (ho : Bop C (compareOp op) a b d) (hm : behindInMarks op r = false := by with_unfolding_all rfl) : Ev C Γ (.Compare l [op] [r] pos) d := fun X s F =>
  wpAny_Compare1 (wpAny_mono (hl X s F) (fun va s₁ p => wpAny_mono (hr X s₁ p.1) (fun vb s₂ q => wpAny_mono (ho X Γ s₂ va vb q.1 (p.2.1.ext F.hL' q.2.2) q.2.1)
    (fun _ _ z => (z.after q.2.2).after p.2.2) fun _ _ x => x) fun _ _ x => x) fun _ _ x => x) hm
theorem Ev.un {x : Expr} {op : UnaryOp} {pos : Pos} {a d : D} (hx : Ev C Γ x a) (ho : Uop C (unaryOp op) a d) : Ev C Γ (.UnaryOp op x pos) d := fun X s F => by
  rw [arm_eval_UnaryOp]
  exact wpAny_bind (wpAny_mono (hx X s F) (fun va s₁ p => wpAny_bind (wpAny_standAt (wpAny_holding (wpAny_mono (ho X Γ s₁ va p.1 p.2.1) (fun _ _ z => z.after p.2.2) fun _ _ x => x)))) fun _ _ x => x)

theorem Tr.cmp {l r : Expr} {op : CmpOp} {pos : Pos} {a b : D} {c : Bool} (hl : Ev C Γ l a) (hr : Ev C Γ r b) (ho : Bop C (compareOp op) a b (.bool c)) (hm : behindInMarks op r = false := by with_unfolding_all rfl) : Tr C Γ (.Compare l [op] [r] pos) c := fun X s F =>
  wpAny_isTrue_Compare1 (wpAny_mono (hl X s F) (fun va s₁ p => wpAny_mono (hr X s₁ p.1) (fun vb s₂ q => wpAny_mono (ho X Γ s₂ va vb q.1 (p.2.1.ext F.hL' q.2.2) q.2.1)
    (fun v s₃ z => by
      obtain ⟨z1, z2, z3⟩ := z
      cases z2
      exact wpAny_truthy_bool ⟨rfl, z1, (p.2.2.trans' q.2.2).trans' z3⟩) fun _ _ x => x) fun _ _ x => x) fun _ _ x => x) hm
theorem Tr.of {e : Expr} {d : D} {b : Bool} (h : Ev C Γ e d) (ht : Truth C d b) (he : isTrue e C.env (eval e C.env) = (do let v ← eval e C.env; standAt e.pos; holding [v] (truthy v)) := by rfl) : Tr C Γ e b := fun X s F =>
  wpAny_isTrue_value (wpAny_mono (h X s F) (fun v s₁ p => wpAny_mono (ht X Γ s₁ v p.1 p.2.1) (fun _ _ z => ⟨z.1, z.2.1, p.2.2.trans' z.2.2⟩) fun _ _ x => x) fun _ _ x => x) he
theorem Tr.not {e : Expr} {pos : Pos} {b : Bool} (h : Tr C Γ e b) : Tr C Γ (.UnaryOp .Not e pos) (!b) := fun X s F =>
  isTrue_not (wpAny_mono (h X s F) (fun c s' z => ⟨by rw [z.1], z.2⟩) fun _ _ x => x)
theorem Tr.or_nil {pos : Pos} : Tr C Γ (.BoolOp .Or [] pos) false := fun _ _ F => isTrue_or_nil ⟨rfl, F, XL.refl _ _⟩
theorem Tr.or_true {e : Expr} {es : List Expr} {pos : Pos} (h : Tr C Γ e true) : Tr C Γ (.BoolOp .Or (e :: es) pos) true := fun X s F =>
  isTrue_or (wpAny_mono (h X s F) (fun c s' z => by rw [z.1, if_pos rfl]; exact ⟨rfl, z.2⟩) fun _ _ x => x)
theorem Tr.or_false {e : Expr} {es : List Expr} {pos : Pos} {b : Bool} (h : Tr C Γ e false) (k : Tr C Γ (.BoolOp .Or es pos) b) : Tr C Γ (.BoolOp .Or (e :: es) pos) b := fun X s F =>
  isTrue_or (wpAny_mono (h X s F) (fun c s' z => by
    rw [z.1, if_neg Bool.false_ne_true]
    exact wpAny_mono (k X s' z.2.1) (fun _ _ y => ⟨y.1, y.2.1, z.2.2.trans' y.2.2⟩) fun _ _ x => x) fun _ _ x => x)

theorem Truth.bool {b : Bool} : Truth C (.bool b) b := fun _ _ _ _ F i => by cases i; exact wpAny_truthy_bool ⟨rfl, F, XL.refl _ _⟩

theorem Evs.nil : Evs C Γ [] [] := fun _ _ _ F => wpAny_items_nil ⟨F, .nil, XL.refl _ _⟩
theorem Evs.cons {e : Expr} {es : List Expr} {d : D} {ds : List D} (h : Ev C Γ e d) (k : Evs C Γ es ds) (he : starEach (e :: es) C.env = (false, eval e C.env) :: starEach es C.env := by rfl) : Evs C Γ (e :: es) (d :: ds) := fun X s pos F =>
  wpAny_items_cons (wpAny_mono (h X s F) (fun v s₁ p => wpAny_mono (k X s₁ pos p.1) (fun vs s₂ q => ⟨q.1, .cons (p.2.1.ext F.hL' q.2.2) q.2.1, p.2.2.trans' q.2.2⟩) fun _ _ x => x) fun _ _ x => x) he

theorem FS.newSeq {X : List Addr} {s : Shared} {c : String} {vs : List Value} {k : Nat} (F : FS C X Γ s) : XL C.L s { s with heap := s.heap.push { cls := .type c, data := .seq vs.toArray }, toks := k } :=
  XL.heap fun _ _ e => Heap.get?_push_of_some _ e
theorem Are.push {X : List Addr} {h : Heap} {vs : List Value} {ds : List D} (a : Are h X vs ds) (o : Obj) : Are (h.push o) X vs ds := a.mono fun _ _ hb e => ⟨Heap.get?_push_of_some _ e, hb⟩
theorem Is.push {X : List Addr} {h : Heap} {v : Value} {d : D} (a : Is h X v d) (o : Obj) : Is (h.push o) X v d := a.mono fun _ _ hb e => ⟨Heap.get?_push_of_some _ e, hb⟩
theorem FS.mkTuple {X : List Addr} {s : Shared} {vs : List Value} {ds : List D} (F : FS C X Γ s) (a : Are s.heap (C.av X) vs ds) : Is (s.heap.push { cls := .type "tuple", data := .seq vs.toArray }) (C.av X) (.ref s.heap.objs.size) (.tup ds) :=
  .tup ⟨_, Heap.get?_push_size _ rfl, rfl, _, rfl⟩ F.fresh (a.push _)
theorem FS.mkList {X : List Addr} {s : Shared} {vs : List Value} {ds : List D} {n : Nat} (F : FS C X Γ s) (a : Are s.heap (C.av X) vs ds) : Is (s.heap.push { cls := .type "list", data := .seq vs.toArray n }) (C.av X) (.ref s.heap.objs.size) (.lst ds) :=
  .lst ⟨_, Heap.get?_push_size _ rfl⟩ F.fresh (a.push _)

theorem Ev.tuple {es : List Expr} {k : Nat} {pos : Pos} {ds : List D} (h : Evs C Γ es ds) (hn : ds.length ≤ 1000) : Ev C Γ (.Tuple es k pos) (.tup ds) := fun X s F =>
  wpAny_Tuple (wpAny_mono (h X s pos F) (fun vs s₁ q => ⟨by rw [q.2.1.length]; exact Nat.le_trans hn (by decide), q.1.push _, q.1.mkTuple q.2.1, q.2.2.trans' q.1.newSeq⟩) fun _ _ x => x)
theorem Ev.list {es : List Expr} {pos : Pos} {ds : List D} (h : Evs C Γ es ds) (hn : ds.length ≤ 1000) : Ev C Γ (.List es pos) (.lst ds) := fun X s F =>
  wpAny_List (wpAny_mono (h X s pos F) (fun vs s₁ q => ⟨by rw [q.2.1.length]; exact Nat.le_trans hn (by decide), q.1.push _, q.1.mkList q.2.1, q.2.2.trans' q.1.newSeq⟩) fun _ _ x => x)

-- ints
theorem Bop.add {i j : Int} : Bop C (binaryOp .Add) (.int i) (.int j) (.int (i + j)) := fun _ _ _ _ _ F a b => by obtain ⟨_, rfl⟩ := a.intI; obtain ⟨_, rfl⟩ := b.intI; exact wpAny_add_int (Post.same F .int)
theorem Bop.sub {i j : Int} : Bop C (binaryOp .Sub) (.int i) (.int j) (.int (i - j)) := fun _ _ _ _ _ F a b => by obtain ⟨_, rfl⟩ := a.intI; obtain ⟨_, rfl⟩ := b.intI; exact sub_int (Post.same F .int)
end
end Mine

-- V2
namespace Mine
open PySem PySem.W PySem.Calls PyProof.Rows

section
variable {C : Cx} {Γ : Vars}

theorem CxOk.plus {W : List Addr} (k : CxOk C) : CxOk (C.plus W) := ⟨k.kind, k.glob, k.blt, k.hand, k.depth, k.units, k.lv, k.G⟩
theorem CxOk.unplus {W : List Addr} (k : CxOk (C.plus W)) : CxOk C := ⟨k.kind, k.glob, k.blt, k.hand, k.depth, k.units, k.lv, k.G⟩

theorem Bd.plus {X W : List Addr} {h h' : Heap} {m m' : Str → Option Value} {x : Str} {b : B} (hk : ∀ c o, c ≠ C.L → h.get? c = some o → h'.get? c = some o) (hW : ∀ a ∈ W, h.get? a = none)
    (hL : C.L ∈ X) (hn : h.Ns C.L m') (B : Bd C X h m x b) : Bd (C.plus W) X h' m x b := by
  obtain ⟨oL, es, ep, hoL, hdL, _⟩ := hn
  have hQ : ∀ c o, c ∉ C.av X → h.get? c = some o → h'.get? c = some o ∧ c ∉ (C.plus W).av X := fun c o hc e =>
    ⟨hk c o (fun q => hc (q ▸ List.mem_append_left _ hL)) e, fun hm => by
      rcases List.mem_append.mp hm with q | q
      · exact hc (List.mem_append_left _ q)
      · rcases List.mem_append.mp q with q | q
        · rw [hW c q] at e; cases e
        · exact hc (List.mem_append_right _ q)⟩
  cases b with
  | val d => obtain ⟨v, a, i⟩ := B; exact ⟨v, a, i.mono hQ⟩
  | own ds =>
    obtain ⟨a, vs, e, ha, ⟨n, ho⟩, hv⟩ := B
    refine ⟨a, vs, e, ha, ⟨n, hk _ _ (fun q => ?_) ho⟩, hv.mono hQ⟩
    subst q; rw [hoL] at ho; cases ho; cases hdL
  | cell d =>
    obtain ⟨c, v, e, ⟨o, ho, hd⟩, i, hcX⟩ := B
    refine ⟨c, v, e, ⟨o, hk _ _ (fun q => ?_) ho, hd⟩, i.mono hQ, fun hm => ?_, hcX.2⟩
    · subst q; rw [hoL] at ho; cases ho; rw [hdL] at hd; cases hd
    · rcases List.mem_append.mp hm with q | q
      · rw [hW c q] at ho; cases ho
      · exact hcX.1 q
  | cell0 =>
    obtain ⟨c, e, ⟨o, ho, hd⟩, i⟩ := B
    refine ⟨c, e, ⟨o, hk _ _ (fun q => ?_) ho, hd⟩, i⟩
    subst q; rw [hoL] at ho; cases ho; rw [hdL] at hd; cases hd
  | any => trivial
  | raw w => exact B

theorem FS.frame {X : List Addr} {s s' : Shared} (F : FS C X Γ s) (W : List Addr) (hx : ∀ m, Fr C.h₀ C.L s.heap m → Fr C.h₀ C.L s'.heap m) (hk : ∀ c o, c ≠ C.L → s.heap.get? c = some o → s'.heap.get? c = some o)
    (hW : ∀ a ∈ W, s.heap.get? a = none) (hl : ∀ a ∈ W, ∃ o, s'.heap.get? a = some o) : FS (C.plus W) X Γ s' := by
  obtain ⟨m, Fr, hb, ap⟩ := F.ex
  refine ⟨F.ok.plus, ⟨m, hx m Fr, fun x b e => (hb x b e).plus hk hW F.hL Fr.ns, ap⟩, F.hL, fun a ha => ?_, F.new, fun a ha hm => ?_⟩
  · have old : a ∈ C.av X → ∃ o, s'.heap.get? a = some o := fun ha => by
      by_cases q : a = C.L
      · subst q; obtain ⟨o, _, _, e, _⟩ := (hx m Fr).ns; exact ⟨o, e⟩
      · obtain ⟨o, e⟩ := F.live a ha; exact ⟨o, hk a o q e⟩
    rcases List.mem_append.mp ha with q | q
    · exact old (List.mem_append_left _ q)
    · rcases List.mem_append.mp q with q | q
      · exact hl a q
      · exact old (List.mem_append_right _ q)
  · rcases List.mem_append.mp hm with q | q
    · obtain ⟨o, e⟩ := F.live a (List.mem_append_left _ ha); rw [hW a q] at e; cases e
    · exact F.off a ha q
theorem FS.plus {X : List Addr} {s s' : Shared} (F : FS C X Γ s) (W : List Addr) (hk : ∀ c o, s.heap.get? c = some o → s'.heap.get? c = some o)
    (hW : ∀ a ∈ W, s.heap.get? a = none) (hl : ∀ a ∈ W, ∃ o, s'.heap.get? a = some o) : FS (C.plus W) X Γ s' :=
  F.frame W (fun m Fr => ⟨Fr.ns.keeps hk, fun b o e => hk _ _ (Fr.keep b o e), Fr.above⟩) (fun c o _ e => hk c o e) hW hl
theorem FS.unplus {X W : List Addr} {s : Shared} (F : FS (C.plus W) X Γ s) : FS C X Γ s := by
  obtain ⟨m, Fr, hb, ap⟩ := F.ex
  have hQ : ∀ c o, c ∉ (C.plus W).av X → s.heap.get? c = some o → s.heap.get? c = some o ∧ c ∉ C.av X := fun c o hc e => ⟨e, fun hm => hc (by
    rcases List.mem_append.mp hm with q | q
    · exact List.mem_append_left _ q
    · exact List.mem_append_right _ (List.mem_append_right _ q))⟩
  refine ⟨F.ok.unplus, ⟨m, Fr, fun x b e => ?_, ap⟩, F.hL, fun a ha => F.live a ?_, F.new, fun a ha hm => F.off a ha (List.mem_append_right _ hm)⟩
  · have B := hb x b e
    cases b with
    | val d => obtain ⟨v, a, i⟩ := B; exact ⟨v, a, i.mono hQ⟩
    | own ds => obtain ⟨a, vs, e, ha, l, hv⟩ := B; exact ⟨a, vs, e, ha, l, hv.mono hQ⟩
    | cell d => obtain ⟨c, v, e, l, i, hc⟩ := B; exact ⟨c, v, e, l, i.mono hQ, fun q => hc.1 (List.mem_append_right _ q), hc.2⟩
    | cell0 => exact B
    | any => trivial
    | raw w => exact B
  · rcases List.mem_append.mp ha with q | q
    · exact List.mem_append_left _ q
    · exact List.mem_append_right _ (List.mem_append_right _ q)
theorem Is.unplus {X W : List Addr} {h : Heap} {v : Value} {d : D} (i : Is h ((C.plus W).av X) v d) : Is h (C.av X) v d := i.mono fun c o hc e => ⟨e, fun hm => hc (by
    rcases List.mem_append.mp hm with q | q
    · exact List.mem_append_left _ q
    · exact List.mem_append_right _ (List.mem_append_right _ q))⟩
theorem Are.unplus {X W : List Addr} {h : Heap} {v : List Value} {d : List D} (i : Are h ((C.plus W).av X) v d) : Are h (C.av X) v d := i.mono fun c o hc e => ⟨e, fun hm => hc (by
    rcases List.mem_append.mp hm with q | q
    · exact List.mem_append_left _ q
    · exact List.mem_append_right _ (List.mem_append_right _ q))⟩
theorem Are.plus {X W : List Addr} {h h' : Heap} {v : List Value} {d : List D} (i : Are h (C.av X) v d) (hk : ∀ c o, c ∉ C.av X → h.get? c = some o → h'.get? c = some o) (hW : ∀ a ∈ W, h.get? a = none) : Are h' ((C.plus W).av X) v d := i.mono fun c o hc e => ⟨hk c o hc e, fun hm => by
    rcases List.mem_append.mp hm with q | q
    · exact hc (List.mem_append_left _ q)
    · rcases List.mem_append.mp q with q | q
      · rw [hW c q] at e; cases e
      · exact hc (List.mem_append_right _ q)⟩

/-- the library's rules over a frame and a ledger serve: the ledger of all that stands -/
theorem FS.led {X : List Addr} {s : Shared} (F : FS C X Γ s) : ∃ m news, Fr C.h₀ C.L s.heap m ∧ News C.h₀ C.L s.heap news ∧
    ∀ h' k, Fr C.h₀ C.L h' m → News C.h₀ C.L h' news → ∀ W : List Addr, (∀ a ∈ W, s.heap.get? a = none) → (∀ a ∈ W, ∃ o, h'.get? a = some o) → FS (C.plus W) X Γ { s with heap := h', toks := k } ∧ XL C.L s { s with heap := h', toks := k } := by
  obtain ⟨m, Fr, hb, ap⟩ := F.ex
  let news : List (Addr × Obj) := (List.range s.heap.objs.size).filterMap fun b => match s.heap.get? b, C.h₀.get? b with
    | some o, none => if b = C.L then none else some (b, o)
    | _, _ => none
  have mem : ∀ b o, s.heap.get? b = some o → C.h₀.get? b = none → b ≠ C.L → (b, o) ∈ news := fun b o h1 h2 h3 =>
    List.mem_filterMap.mpr ⟨b, List.mem_range.mpr (Heap.lt_size h1), by simp only [h1, h2, if_neg h3]⟩
  have mem' : ∀ p ∈ news, s.heap.get? p.1 = some p.2 ∧ p.1 ≠ C.L ∧ C.h₀.get? p.1 = none := fun p hp => by
    obtain ⟨b, _, e⟩ := List.mem_filterMap.mp hp
    split at e
    · rename_i o h1 h2
      split at e
      · cases e
      · rename_i h3; cases e; exact ⟨h1, h3, h2⟩
    · cases e
  refine ⟨m, news, Fr, mem', fun h' k Fr' N' W hW hl => ?_⟩
  have hk : ∀ b o, b ≠ C.L → s.heap.get? b = some o → h'.get? b = some o := fun b o hb e => by
    cases hz : C.h₀.get? b with
    | some o' => have := Fr.keep b o' hz; rw [e] at this; cases this; exact Fr'.keep b o hz
    | none => exact (N' (b, o) (mem b o e hz hb)).1
  have old : ∀ a ∈ C.av X, ∃ o, h'.get? a = some o := fun a ha => by
    by_cases q : a = C.L
    · rw [q]; obtain ⟨o, _, _, e, _⟩ := Fr'.ns; exact ⟨o, e⟩
    · obtain ⟨o, e⟩ := F.live a ha; exact ⟨o, hk a o q e⟩
  refine ⟨⟨F.ok.plus, ⟨m, Fr', fun x b e => (hb x b e).plus hk hW F.hL Fr.ns, ap⟩, F.hL, fun a ha => ?_, F.new, fun a ha hm => ?_⟩, ⟨Ext.heap fun b o hb e => hk b o (fun q => hb (q ▸ List.mem_singleton.mpr rfl)) e, fun m₂ hm₂ => by rw [Ns.uniq hm₂ Fr.ns]; exact Fr'.ns⟩⟩
  · rcases List.mem_append.mp ha with q | q
    · exact old a (List.mem_append_left _ q)
    · rcases List.mem_append.mp q with q | q
      · exact hl a q
      · exact old a (List.mem_append_right _ q)
  · rcases List.mem_append.mp hm with q | q
    · obtain ⟨o, e⟩ := F.live a (List.mem_append_left _ ha); rw [hW a q] at e; cases e
    · exact F.off a ha q

-- ints
theorem Bop.mul {i j : Int} (hm : i.natAbs < 2 ^ 62 ∨ j.natAbs < 2 ^ 62) : Bop C (binaryOp .Mult) (.int i) (.int j) (.int (i * j)) := fun _ _ _ _ _ F a b => by
  obtain ⟨_, rfl⟩ := a.intI; obtain ⟨_, rfl⟩ := b.intI
  refine mul_int (Post.same F .int) ?_
  rcases hm with h | h
  · exact .of_left (intBits_le_64 (by omega) (by omega))
  · exact .of_right (intBits_le_64 (by omega) (by omega))
theorem Bop.mod {i j : Int} (hj : 0 < j) : Bop C (binaryOp .Mod) (.int i) (.int j) (.int (i % j)) := fun _ _ _ _ _ F a b => by
  obtain ⟨_, rfl⟩ := a.intI; obtain ⟨_, rfl⟩ := b.intI
  refine mod_int (by omega) ?_
  rw [Int.fmod_eq_emod_of_nonneg _ (by omega)]
  exact Post.same F .int
theorem Bop.fdiv {i j : Int} (hj : 0 < j) (hs : j < 2 ^ 30) : Bop C (binaryOp .FloorDiv) (.int i) (.int j) (.int (i / j)) := fun _ _ _ _ _ F a b => by
  obtain ⟨_, rfl⟩ := a.intI; obtain ⟨_, rfl⟩ := b.intI
  refine floordiv_int (by omega) ?_ (.inl (PyProof.noPylong_small (by omega)))
  rw [Int.fdiv_eq_ediv_of_nonneg _ (by omega)]
  exact Post.same F .int
theorem Bop.pow {i : Int} {n : Nat} (hi : i.natAbs < 2 ^ 60) (hn : n ≤ 1000) : Bop C (binaryOp .Pow) (.int i) (.int n) (.int (i ^ n)) := fun _ _ _ _ _ F a b => by
  obtain ⟨_, rfl⟩ := a.intI; obtain ⟨_, rfl⟩ := b.intI
  refine pow_int (by omega) ?_ ?_
  · have h := intBits_le_64 (k := i) (by omega) (by omega)
    have h2 : Builtin.Int.intBits i * n ≤ 64 * 1000 := Nat.mul_le_mul h hn
    have h3 : ((Builtin.Int.intBits i * n : Nat) : Int) ≤ 64000 := by omega
    rw [Int.natCast_mul] at h3
    omega
  · rw [Int.toNat_natCast]; exact Post.same F .int
theorem Uop.neg {i : Int} : Uop C (unaryOp .USub) (.int i) (.int (-i)) := fun _ _ _ _ F a => by obtain ⟨_, rfl⟩ := a.intI; exact PySem.P.neg_int (Post.same F .int)
theorem Bop.lt {i j : Int} : Bop C (compareOp .Lt) (.int i) (.int j) (.bool (decide (i < j))) := fun _ _ _ _ _ F a b => by obtain ⟨_, rfl⟩ := a.intI; obtain ⟨_, rfl⟩ := b.intI; exact lt_int (Post.same F .bool)
theorem Bop.gt {i j : Int} : Bop C (compareOp .Gt) (.int i) (.int j) (.bool (decide (j < i))) := fun _ _ _ _ _ F a b => by obtain ⟨_, rfl⟩ := a.intI; obtain ⟨_, rfl⟩ := b.intI; exact gt_int (Post.same F .bool)
theorem Bop.ge {i j : Int} : Bop C (compareOp .GtE) (.int i) (.int j) (.bool (decide (j ≤ i))) := fun _ _ _ _ _ F a b => by obtain ⟨_, rfl⟩ := a.intI; obtain ⟨_, rfl⟩ := b.intI; exact ge_int (Post.same F .bool)
theorem Bop.eqI {i j : Int} : Bop C (compareOp .Eq) (.int i) (.int j) (.bool (i == j)) := fun _ _ _ _ _ F a b => by obtain ⟨_, rfl⟩ := a.intI; obtain ⟨_, rfl⟩ := b.intI; exact eq_int (Post.same F .bool)
theorem Bop.neI {i j : Int} : Bop C (compareOp .NotEq) (.int i) (.int j) (.bool (i != j)) := fun _ _ _ _ _ F a b => by obtain ⟨_, rfl⟩ := a.intI; obtain ⟨_, rfl⟩ := b.intI; exact ne_int (Post.same F .bool)

-- is
theorem bool_beq (a b : Bool) : (Value.bool a == Value.bool b) = (a == b) := by cases a <;> cases b <;> rfl
theorem Bop.isB {a b : Bool} : Bop C (compareOp .Is) (D.bool a) (D.bool b) (D.bool (a == b)) := fun _ _ _ _ _ F x y => by
  cases x; cases y
  refine wpAny_is_plain (by cases a <;> cases b <;> rfl) ?_
  rw [bool_beq]; exact Post.same F .bool
theorem Bop.isNotB {a b : Bool} : Bop C (compareOp .IsNot) (D.bool a) (D.bool b) (D.bool (!(a == b))) := fun _ _ _ _ _ F x y => by
  cases x; cases y
  refine wpAny_isNot_plain (by cases a <;> cases b <;> rfl) ?_
  rw [bool_beq]
  exact Post.same F .bool
theorem Bop.isNoneNone : Bop C (compareOp .Is) .none .none (.bool true) := fun _ _ _ _ _ F x y => by
  cases x; cases y; exact is_none (Post.same F .bool)
theorem Bop.isNotNoneNone : Bop C (compareOp .IsNot) .none .none (.bool false) := fun _ _ _ _ _ F x y => by
  cases x; cases y; exact isNot_none (Post.same F .bool)
theorem Bop.isNotNoneStr {x : Str} : Bop C (compareOp .IsNot) (.str x) .none (.bool true) := fun _ _ _ _ _ F x y => by
  cases x; cases y; exact isNot_none (Post.same F .bool)

-- strs
theorem made_same {X : List Addr} {s : Shared} {d : D} {m : Made} (F : FS C X Γ s) (h : ∃ x, d = .str x ∧ ((∃ t, m = .val (.str x t)) ∨ (m = .str x ∧ x.length ≤ sizeLine))) : m.post (Post C X Γ s d) s := by
  obtain ⟨x, rfl, ⟨t, rfl⟩ | ⟨rfl, h⟩⟩ := h
  · exact Post.same (k := s.toks) F .str
  · exact ⟨h, Post.same F .str⟩
theorem str_empty {x : Str} (h : (x.length == 0) = true) : x = ⟨#[]⟩ := by
  obtain ⟨a⟩ := x
  have : a.size = 0 := by simpa [Str.length] using h
  rw [Array.eq_empty_of_size_eq_zero this]
theorem Bop.addS {x y : Str} (h : x.length + y.length ≤ 1000000) : Bop C (binaryOp .Add) (.str x) (.str y) (.str (x ++ y)) := fun _ _ _ _ _ F a b => by
  obtain ⟨_, rfl⟩ := a.strI; obtain ⟨_, rfl⟩ := b.strI
  refine PySem.P.add_str ?_
  split
  · rename_i h1
    have e : x ++ y = y := by
      rw [str_empty h1]
      show Str.mk (#[] ++ y.cps) = y
      rw [Array.empty_append]
    rw [e]
    exact made_same F ⟨_, rfl, .inl ⟨_, rfl⟩⟩
  · split
    · rename_i h1
      have e : x ++ y = x := by
        rw [str_empty h1]
        show Str.mk (x.cps ++ #[]) = x
        rw [Array.append_empty]
      rw [e]
      exact made_same F ⟨_, rfl, .inl ⟨_, rfl⟩⟩
    · refine made_same F ⟨_, rfl, .inr ⟨rfl, ?_⟩⟩
      rw [strLen_append]
      exact Nat.le_trans h (by decide)
theorem Bop.iaddS {x y : Str} (h : x.length + y.length ≤ 1000000) : Bop C (inplaceOp .Add) (.str x) (.str y) (.str (x ++ y)) := fun _ _ _ _ _ F a b => by
  obtain ⟨_, rfl⟩ := a.strI; obtain ⟨_, rfl⟩ := b.strI
  refine PySem.P.iadd_str ?_
  split
  · rename_i h1
    have e : x ++ y = y := by
      rw [str_empty h1]
      show Str.mk (#[] ++ y.cps) = y
      rw [Array.empty_append]
    rw [e]
    exact made_same F ⟨_, rfl, .inl ⟨_, rfl⟩⟩
  · split
    · rename_i h1
      have e : x ++ y = x := by
        rw [str_empty h1]
        show Str.mk (x.cps ++ #[]) = x
        rw [Array.append_empty]
      rw [e]
      exact made_same F ⟨_, rfl, .inl ⟨_, rfl⟩⟩
    · refine made_same F ⟨_, rfl, .inr ⟨rfl, ?_⟩⟩
      rw [strLen_append]
      exact Nat.le_trans h (by decide)
theorem Bop.iaddI {i j : Int} : Bop C (inplaceOp .Add) (.int i) (.int j) (.int (i + j)) := fun _ _ _ _ _ F a b => by obtain ⟨_, rfl⟩ := a.intI; obtain ⟨_, rfl⟩ := b.intI; exact wpAny_iadd_int (Post.same F .int)
theorem Bop.isubI {i j : Int} : Bop C (inplaceOp .Sub) (.int i) (.int j) (.int (i - j)) := fun _ _ _ _ _ F a b => by obtain ⟨_, rfl⟩ := a.intI; obtain ⟨_, rfl⟩ := b.intI; exact PySem.P.isub_int (Post.same F .int)
/-- the sign c stands in x -/
def hasSign (x : Str) (c : Nat) : Bool := x.cps.toList.contains c
theorem Bop.eqS {x y : Str} : Bop C (compareOp .Eq) (.str x) (.str y) (.bool (x == y)) := fun _ _ _ _ _ F a b => by obtain ⟨_, rfl⟩ := a.strI; obtain ⟨_, rfl⟩ := b.strI; exact eq_str (Post.same F .bool)
theorem Bop.inS {x y : Str} : Bop C (compareOp .In) (.str y) (.str x) (.bool (Txt.contains x y)) := fun _ _ _ _ _ F a b => by obtain ⟨_, rfl⟩ := a.strI; obtain ⟨_, rfl⟩ := b.strI; exact SB.contains (Post.same F .bool)
theorem Bop.notInS {x y : Str} : Bop C (compareOp .NotIn) (.str y) (.str x) (.bool (!Txt.contains x y)) := fun _ _ _ _ _ F a b => by obtain ⟨_, rfl⟩ := a.strI; obtain ⟨_, rfl⟩ := b.strI; exact PySem.P.notIn_str (Post.same F .bool)

end
end Mine

-- V3
namespace Mine
open PySem PySem.W PySem.Calls PyProof.Rows

section
variable {prog : Program} {w : World} {A : Around} {E : Value → Shared → Prop} {s : Shared}
theorem mapSeq_set_plain (its : Array Value) (n j : Nat) (x : Value) : Obj.mapSeq (·.setIfInBounds j x) { cls := .type "list", data := .seq its n } = { cls := .type "list", data := .seq (its.setIfInBounds j x) n } := by
  simp [Obj.mapSeq]
theorem setItem_plain {l : Addr} {items : Array Value} {k : Int} {t : Tok} {v : Value} {Q : Unit → Shared → Prop} (hl : s.heap.PlainList l items)
    (h0 : 0 ≤ k) (hfit : k < 2 ^ 63) (hn : k < items.size)
    (hQ : ∀ h', h'.PlainList l (items.setIfInBounds k.toNat v) → Heap.SameBut l s.heap h' → Q () { s with heap := h' }) :
    wpAny (model prog w) A (setItem (.ref l) (.int k t) v) Q E s := by
  obtain ⟨ne, ho⟩ := id hl
  unfold setItem
  try with_reducible refine wpAny_holding ?_
  first | refine wpAny_bind (wpAny_pure ?_) | skip
  refine wpAny_bind (wpAny_sequenceKey hl.isList.typeIs (by decide) ?_)
  refine wpAny_bind (wpAny_callSpecial?_slot (name := Str.ofString "__setitem__") hl.isList.typeIs slot_list_setitem
    (wpAny_call_entry slot_list_setitem hl.isList.typeIs entry_list_setitem ?_ (args_list_setitem _ _ _)))
  show wpAny _ _ (Builtin.List.listSubscript? (.int k t) >>= _) _ _ s
  refine wpAny_bind (wpAny_listSubscript_int (fitsIndex_of h0 hfit) ?_)
  clear hfit
  obtain ⟨j, rfl⟩ := Int.eq_ofNat_of_zero_le h0
  have hj : j < items.size := by omega
  have hx' : items[j]? = some items[j] := Array.getElem?_eq_getElem hj
  show wpAny _ _ ((seqItemAt l j >>= fun r => pure (r.map (j, ·))) >>= _) _ _ s
  refine wpAny_bind (wpAny_bind (wpAny_seqItemAt ho rfl (wpAny_pure ?_)))
  rw [hx']
  show wpAny _ _ (setSeqItemAt l j v >>= _) _ _ s
  have hfin : (s.heap.update l (Obj.mapSeq (·.setIfInBounds j v))).PlainList l (items.setIfInBounds j v) :=
    ⟨ne, by rw [Heap.get?_update_self _ ho (by rw [mapSeq_set_plain]; rfl), mapSeq_set_plain]⟩
  refine wpAny_bind (wpAny_setSeqItemAt ho rfl ?_)
  first
    | exact wpAny_bind (wpAny_pure (wpAny_pure ⟨.none, rfl, wpAny_pure (hQ _ hfin (Heap.SameBut.update ..))⟩))
    | exact wpAny_pure ⟨.none, rfl, wpAny_pure (hQ _ hfin (Heap.SameBut.update ..))⟩
theorem setItem_plain_neg {l : Addr} {items : Array Value} {k : Int} {t : Tok} {v : Value} {Q : Unit → Shared → Prop} (hl : s.heap.PlainList l items)
    (h0 : k < 0) (h1 : -(items.size : Int) ≤ k) (hfit : -(2 ^ 63) ≤ k)
    (hQ : ∀ h', h'.PlainList l (items.setIfInBounds (k + items.size).toNat v) → Heap.SameBut l s.heap h' → Q () { s with heap := h' }) :
    wpAny (model prog w) A (setItem (.ref l) (.int k t) v) Q E s := by
  obtain ⟨ne, ho⟩ := id hl
  unfold setItem
  try with_reducible refine wpAny_holding ?_
  first | refine wpAny_bind (wpAny_pure ?_) | skip
  refine wpAny_bind (wpAny_sequenceKey hl.isList.typeIs (by decide) ?_)
  refine wpAny_bind (wpAny_callSpecial?_slot (name := Str.ofString "__setitem__") hl.isList.typeIs slot_list_setitem
    (wpAny_call_entry slot_list_setitem hl.isList.typeIs entry_list_setitem ?_ (args_list_setitem _ _ _)))
  show wpAny _ _ (Builtin.List.listSubscript? (.int k t) >>= _) _ _ s
  refine wpAny_bind (wpAny_listSubscript_int (fitsIndex_neg h0 hfit) ?_)
  clear hfit
  have hidx := seqIndex_neg h0 h1
  have hj : (k + items.size).toNat < items.size := by omega
  have hx' : items[(k + items.size).toNat]? = some items[(k + items.size).toNat] := Array.getElem?_eq_getElem hj
  obtain ⟨j, rfl⟩ : ∃ j : Nat, k = Int.negSucc j := by
    cases k with
    | ofNat n => exact absurd h0 (Int.not_lt.mpr (Int.natCast_nonneg n))
    | negSucc n => exact ⟨n, rfl⟩
  show wpAny _ _ ((Builtin.List.listItems (.ref l) >>= fun xs => pure ((seqIndex? (Int.negSucc j) xs.size).bind fun i => xs[i]?.map (i, ·))) >>= _) _ _ s
  refine wpAny_bind (wpAny_bind ?_)
  show wpAny _ _ (seqItems? (.ref l) >>= _) _ _ s
  refine wpAny_bind (wpAny_seqItems ho rfl (wpAny_pure (wpAny_pure ?_)))
  rw [hidx]
  simp only [Option.bind_some, hx', Option.map_some]
  show wpAny _ _ (setSeqItemAt l _ v >>= _) _ _ s
  have hfin : (s.heap.update l (Obj.mapSeq (·.setIfInBounds (Int.negSucc j + items.size).toNat v))).PlainList l (items.setIfInBounds (Int.negSucc j + items.size).toNat v) :=
    ⟨ne, by rw [Heap.get?_update_self _ ho (by rw [mapSeq_set_plain]; rfl), mapSeq_set_plain]⟩
  refine wpAny_bind (wpAny_setSeqItemAt ho rfl ?_)
  first
    | exact wpAny_bind (wpAny_pure (wpAny_pure ⟨.none, rfl, wpAny_pure (hQ _ hfin (Heap.SameBut.update ..))⟩))
    | exact wpAny_pure ⟨.none, rfl, wpAny_pure (hQ _ hfin (Heap.SameBut.update ..))⟩
end

/-- how a statement ends -/
inductive Out where
  | next (Γ : Vars)
  | ret (d : D)
  | brk (Γ : Vars)
  | cont (Γ : Vars)

def OutOk (C : Cx) (X : List Addr) : Out → Flow → Shared → Prop
  | .next Γ, .next, s => FS C X Γ s
  | .brk Γ, .brk, s => FS C X Γ s
  | .cont Γ, .cont, s => FS C X Γ s
  | .ret d, .ret v, s => Is s.heap C.X₀ v d
  | _, _, _ => False

def Ends (C : Cx) (X : List Addr) (s : Shared) (o : Out) (f : Flow) (s' : Shared) : Prop :=
  ∃ X', OutOk C X' o f s' ∧ Ext X s s' ∧ ∀ a ∈ X', a ∈ X ∨ s.heap.get? a = none
def Ex (C : Cx) (Γ : Vars) (st : Stmt) (o : Out) : Prop := ∀ X s, FS C X Γ s → wpAny C.M C.A (exec st C.env) (Ends C X s o) no s
def Exs (C : Cx) (Γ : Vars) (sts : List Stmt) (o : Out) : Prop := ∀ X s, FS C X Γ s → wpAny C.M C.A (execs sts C.env) (Ends C X s o) no s

section
variable {C : Cx} {Γ : Vars}

theorem Ends.after {X X' : List Addr} {s s' s'' : Shared} {o : Out} {f : Flow} (x : Ext X s s') (g : ∀ a ∈ X', a ∈ X ∨ s.heap.get? a = none) (e : Ends C X' s' o f s'') : Ends C X s o f s'' := by
  obtain ⟨Y, a, b, c⟩ := e
  refine ⟨Y, a, x.trans b g, fun y hy => ?_⟩
  rcases c y hy with h | h
  · exact g y h
  · by_cases q : y ∈ X
    · exact .inl q
    · refine .inr ?_
      cases hz : s.heap.get? y with
      | none => rfl
      | some o => rw [x.keep y o q hz] at h; cases h
theorem Ends.after' {X : List Addr} {s s' s'' : Shared} {o : Out} {f : Flow} (x : Ext X s s') (e : Ends C X s' o f s'') : Ends C X s o f s'' := e.after x fun _ h => .inl h
theorem FS.toX {X : List Addr} {s s' : Shared} (F : FS C X Γ s) (x : XL C.L s s') : Ext X s s' := x.ext.more fun a ha => (List.mem_singleton.mp ha) ▸ F.hL

theorem FS.toX' {X : List Addr} {s s' s'' : Shared} (F : FS C X Γ s) (x : Ext [C.L] s' s'') : Ext X s' s'' := x.more fun a ha => (List.mem_singleton.mp ha) ▸ F.hL

theorem Exs.nil : Exs C Γ [] (.next Γ) := fun X s F => wpAny_execs_nil ⟨X, F, Ext.refl _ _, fun _ h => .inl h⟩
theorem Exs.cons {st : Stmt} {rest : List Stmt} {Γ' : Vars} {o : Out} (h : Ex C Γ st (.next Γ')) (k : Exs C Γ' rest o) : Exs C Γ (st :: rest) o := fun X s F =>
  wpAny_execs_cons (wpAny_mono (h X s F) (fun f s₁ e => by
    obtain ⟨X', a, b, c⟩ := e
    cases f <;> first | exact a.elim | exact wpAny_mono (k X' s₁ a) (fun _ _ z => z.after b c) fun _ _ x => x) fun _ _ x => x)
theorem Exs.stop {st : Stmt} {rest : List Stmt} {o : Out} (h : Ex C Γ st o) (hn : ∀ Γ', o ≠ .next Γ') : Exs C Γ (st :: rest) o := fun X s F =>
  wpAny_execs_cons (wpAny_mono (h X s F) (fun f s₁ e => by
    cases f with
    | next => obtain ⟨X', a, _⟩ := e; cases o <;> first | exact a.elim | exact absurd rfl (hn _)
    | _ => exact e) fun _ _ x => x)
theorem Ex.weak {st : Stmt} {Γ' : Vars} {o : Out} (h : Ex C Γ' st o) (hw : ∀ x b, Γ'.lookup x = some b → b = .any ∨ Γ.lookup x = some b) : Ex C Γ st o := fun X s F => h X s (F.weak hw)
theorem Exs.weak {sts : List Stmt} {Γ' : Vars} {o : Out} (h : Exs C Γ' sts o) (hw : ∀ x b, Γ'.lookup x = some b → b = .any ∨ Γ.lookup x = some b) : Exs C Γ sts o := fun X s F => h X s (F.weak hw)
theorem Exs.post {sts : List Stmt} {Γ' Γ'' : Vars} (h : Exs C Γ sts (.next Γ')) (hw : ∀ x b, Γ''.lookup x = some b → b = .any ∨ Γ'.lookup x = some b) : Exs C Γ sts (.next Γ'') := fun X s F =>
  wpAny_mono (h X s F) (fun f s' e => by obtain ⟨X', a, b, c⟩ := e; refine ⟨X', ?_, b, c⟩; cases f <;> first | exact a.elim | exact FS.weak a hw) fun _ _ x => x
theorem Ex.post {st : Stmt} {Γ' Γ'' : Vars} (h : Ex C Γ st (.next Γ')) (hw : ∀ x b, Γ''.lookup x = some b → b = .any ∨ Γ'.lookup x = some b) : Ex C Γ st (.next Γ'') := fun X s F =>
  wpAny_mono (h X s F) (fun f s' e => by obtain ⟨X', a, b, c⟩ := e; refine ⟨X', ?_, b, c⟩; cases f <;> first | exact a.elim | exact FS.weak a hw) fun _ _ x => x

theorem Ex.pass {pos : Pos} : Ex C Γ (.Pass pos) (.next Γ) := fun X s F => wpAny_Pass ⟨X, F, Ext.refl _ _, fun _ h => .inl h⟩
theorem Ex.brk {pos : Pos} : Ex C Γ (.Break pos) (.brk Γ) := fun X s F => wpAny_Break ⟨X, F, Ext.refl _ _, fun _ h => .inl h⟩
theorem Ex.ret {e : Expr} {pos : Pos} {d : D} (h : Ev C Γ e d) : Ex C Γ (.Return (some e) pos) (.ret d) := fun X s F =>
  wpAny_Return_some (wpAny_mono (h X s F) (fun v s' p => ⟨X, p.2.1.mono fun b o hb e => ⟨e, fun h => hb (List.mem_append_right _ h)⟩, F.toX p.2.2, fun _ h => .inl h⟩) fun _ _ x => x)
theorem Ex.ift {t : Expr} {a b : List Stmt} {pos : Pos} {o : Out} (h : Tr C Γ t true) (k : Exs C Γ a o) : Ex C Γ (.If t a b pos) o := fun X s F =>
  wpAny_If (wpAny_mono (h X s F) (fun c s' z => by rw [z.1, if_pos rfl]; exact wpAny_mono (k X s' z.2.1) (fun _ _ y => y.after' (F.toX z.2.2)) fun _ _ x => x) fun _ _ x => x)
theorem Ex.iff {t : Expr} {a b : List Stmt} {pos : Pos} {o : Out} (h : Tr C Γ t false) (k : Exs C Γ b o) : Ex C Γ (.If t a b pos) o := fun X s F =>
  wpAny_If (wpAny_mono (h X s F) (fun c s' z => by rw [z.1, if_neg Bool.false_ne_true]; exact wpAny_mono (k X s' z.2.1) (fun _ _ y => y.after' (F.toX z.2.2)) fun _ _ x => x) fun _ _ x => x)

theorem get_size (h : Heap) : h.get? h.objs.size = none := by
  cases e : h.get? h.objs.size with
  | none => rfl
  | some o => exact absurd (Heap.lt_size e) (Nat.lt_irrefl _)
/-- a table of names with one more, nothing else turned -/
theorem FS.named {X : List Addr} {s : Shared} {h' : Heap} {k : Nat} {x : Str} {v : Value} {b : B} (F : FS C X Γ s) (hs : Heap.SameBut C.L s.heap h')
    (hn : ∀ m, s.heap.Ns C.L m → h'.Ns C.L (fun y => if y = x then some v else m y)) (hb : ∀ m', m' x = some v → Bd C X s.heap m' x b) (ho : ∀ ds, b = .own ds → ∀ m, s.heap.Ns C.L m → ∀ y es a, Γ.lookup y = some (.own es) → m y = some (.ref a) → v ≠ .ref a) : FS C X ((x, b) :: Γ) { s with heap := h', toks := k } := by
  obtain ⟨m, Fr, hB, ap⟩ := F.ex
  have hk : ∀ c o, c ≠ C.L → s.heap.get? c = some o → h'.get? c = some o := fun c o hc e => (hs.2 c hc).trans e
  have Fr' := Fr.set (hn m Fr.ns) hs
  have look : ∀ y c, ((x, b) :: Γ).lookup y = some c → (y = x ∧ c = b) ∨ (y ≠ x ∧ Γ.lookup y = some c) := fun y c e => by
    simp only [List.lookup] at e
    split at e
    · rename_i q; exact .inl ⟨beq_iff_eq.mp q, (Option.some.inj e).symm⟩
    · rename_i q; exact .inr ⟨fun z => by subst z; simp at q, e⟩
  have bd : ∀ y c, y ≠ x → Bd C X s.heap m y c → Bd C X s.heap (fun y => if y = x then some v else m y) y c := fun y c hy B => by
    cases c with
    | val d => obtain ⟨v, a, i⟩ := B; exact ⟨v, by simp only [if_neg hy]; exact a, i⟩
    | own ds => obtain ⟨a, vs, e, r⟩ := B; exact ⟨a, vs, by simp only [if_neg hy]; exact e, r⟩
    | cell d => exact B
    | cell0 => exact B
    | any => trivial
    | raw w => show (if _ then _ else _) = _; rw [if_neg hy]; exact B
  refine ⟨F.ok, ⟨_, Fr', fun y c e => ?_, fun y z ds es a e1 e2 e3 e4 => ?_⟩, F.hL, fun a ha => ?_, F.new, F.off⟩
  · rcases look y c e with ⟨rfl, rfl⟩ | ⟨hy, e⟩
    · exact (hb _ (by simp)).mono hk F.hL ⟨m, Fr.ns⟩
    · exact (bd y c hy (hB y c e)).mono hk F.hL ⟨m, Fr.ns⟩
  · rcases look y _ e1 with ⟨hy, q1⟩ | ⟨hy, f1⟩
    · rcases look z _ e2 with ⟨hz, q2⟩ | ⟨hz, f2⟩
      · rw [hy, hz]
      · simp only [if_pos hy] at e3
        simp only [if_neg hz] at e4
        exact absurd (Option.some.inj e3) (ho _ q1.symm m Fr.ns z es a f2 e4)
    · rcases look z _ e2 with ⟨hz, q2⟩ | ⟨hz, f2⟩
      · simp only [if_pos hz] at e4
        simp only [if_neg hy] at e3
        exact absurd (Option.some.inj e4) (ho _ q2.symm m Fr.ns y ds a f1 e3)
      · simp only [if_neg hy] at e3
        simp only [if_neg hz] at e4
        exact ap y z ds es a f1 f2 e3 e4
  · by_cases q : a = C.L
    · rw [q]; obtain ⟨o, _, _, e, _⟩ := Fr'.ns; exact ⟨o, e⟩
    · obtain ⟨o, e⟩ := F.live a ha; exact ⟨o, hk a o q e⟩

theorem FS.store {X : List Addr} {s : Shared} {x : Str} {v : Value} {d : D} (F : FS C X Γ s) (i : Is s.heap (C.av X) v d) (hl : C.env.kindOf x = some .local) :
    wpAny C.M C.A (storeName C.env x v) (fun _ s' => FS C X ((x, .val d) :: Γ) s' ∧ Ext [C.L] s s') no s := by
  obtain ⟨m, Fr, _⟩ := F.ex
  refine wpAny_storeName_local hl Fr.ns (fun h' hn hs => ⟨F.named hs (fun m₂ hm₂ => ?_) (fun m' e => ⟨v, e, i⟩) (fun ds q => nomatch q), Ext.heap fun b o hb e => (hs.2 b fun q => hb (q ▸ List.mem_singleton.mpr rfl)).trans e⟩)
    (by rw [F.ok.kind]; rfl)
  rw [Ns.uniq hm₂ Fr.ns]; exact hn

theorem Ex.assign {x : Str} {np pos : Pos} {e : Expr} {d : D} (h : Ev C Γ e d) (hl : C.env.kindOf x = some .local) (hs : swapsWith e (some (.Name x np)) pos.line C.env = pure false := by rfl) : Ex C Γ (.Assign [.Name x np] e pos) (.next ((x, .val d) :: Γ)) := fun X s F =>
  wpAny_Assign_Name (wpAny_mono (h X s F) (fun v s₁ p => wpAny_mono (p.1.store p.2.1 hl) (fun _ s₂ q => ⟨X, q.1, (F.toX p.2.2).trans' (F.toX' q.2), fun _ h => .inl h⟩) fun _ _ x => x) fun _ _ x => x) hs
theorem Ex.aug {x : Str} {np pos : Pos} {op : Operator} {e : Expr} {a b d : D} (hx : Γ.lookup x = some (.val a)) (h : Ev C Γ e b) (ho : Bop C (inplaceOp op) a b d) (hl : C.env.kindOf x = some .local) : Ex C Γ (.AugAssign (.Name x np) op e pos) (.next ((x, .val d) :: Γ)) := fun X s F => by
  obtain ⟨m, Fr, hb, _⟩ := F.ex
  obtain ⟨v, q, i⟩ := hb x _ hx
  exact wpAny_AugAssign_Name (wpAny_loadName_local F.ok.kind hl Fr.ns q (wpAny_mono (h X s F) (fun u s₁ p => wpAny_mono (ho X Γ s₁ v u p.1 (i.ext F.hL' p.2.2) p.2.1) (fun r s₂ z =>
    wpAny_mono (z.1.store z.2.1 hl) (fun _ s₃ y => ⟨X, y.1, (F.toX (p.2.2.trans' z.2.2)).trans' (F.toX' y.2), fun _ h => .inl h⟩) fun _ _ x => x) fun _ _ x => x) fun _ _ x => x))

/-- a cell's first value -/
theorem Ex.assignCell {x : Str} {np pos : Pos} {e : Expr} {d : D} (h : Ev C Γ e d) (hx : Γ.lookup x = some .cell0 ∨ ∃ d', Γ.lookup x = some (.cell d')) (hl : C.env.kindOf x = some .cell) (hs : swapsWith e (some (.Name x np)) pos.line C.env = pure false := by rfl)
    (hap : ∀ y b c, Γ.lookup y = some b → (b = .cell0 ∨ ∃ d, b = .cell d) → C.env.cells.lookup x = some c → C.env.cells.lookup y = some c → y = x) : Ex C Γ (.Assign [.Name x np] e pos) (.next ((x, .cell d) :: Γ)) := fun X s F =>
  wpAny_Assign_Name (wpAny_mono (h X s F) (fun v s₁ p => by
    obtain ⟨F₁, i, x₁⟩ := p
    obtain ⟨m, Fr, hb, ap⟩ := F₁.ex
    obtain ⟨c, ov, hc, hcell, hcX⟩ : ∃ c ov, C.env.cells.lookup x = some c ∧ s₁.heap.IsCell c ov ∧ c ∈ X := by
      rcases hx with hx | ⟨d', hx⟩
      · obtain ⟨c, q⟩ := hb x _ hx; exact ⟨c, _, q⟩
      · obtain ⟨c, v, q, r, _, _, k⟩ := hb x _ hx; exact ⟨c, _, q, r, k hl⟩
    obtain ⟨oc, hoc, hdc⟩ := id hcell
    refine wpAny_storeName_cell F.ok.kind hl hc hcell fun h' hc' hs' => ?_
    have hk : ∀ b o, b ≠ c → s₁.heap.get? b = some o → h'.get? b = some o := fun b o hb e => (hs'.2 b hb).trans e
    have hcL : c ≠ C.L := fun q => by
      obtain ⟨o, es, ep, e1, e2, _⟩ := Fr.ns
      rw [q, e1] at hoc; cases hoc; rw [e2] at hdc; cases hdc
    have hI : ∀ {v d}, Is s₁.heap (C.av X) v d → Is h' (C.av X) v d := fun i => i.mono fun b o hb e => ⟨hk b o (fun q => hb (q ▸ List.mem_append_left _ hcX)) e, hb⟩
    have hA : ∀ {v d}, Are s₁.heap (C.av X) v d → Are h' (C.av X) v d := fun i => i.mono fun b o hb e => ⟨hk b o (fun q => hb (q ▸ List.mem_append_left _ hcX)) e, hb⟩
    have look : ∀ y c, ((x, B.cell d) :: Γ).lookup y = some c → (y = x ∧ c = .cell d) ∨ (y ≠ x ∧ Γ.lookup y = some c) := fun y c e => by
      simp only [List.lookup] at e
      split at e
      · rename_i q; exact .inl ⟨beq_iff_eq.mp q, (Option.some.inj e).symm⟩
      · rename_i q; exact .inr ⟨fun z => by subst z; simp at q, e⟩
    refine ⟨X, ⟨F₁.ok, ⟨m, ⟨Fr.ns.sameBut hs' (Ne.symm hcL), fun b o e => hk b o (fun q => ?_) (Fr.keep b o e), Fr.above⟩, fun y b e => ?_, fun y z ds es a e1 e2 e3 e4 => ?_⟩, F₁.hL, fun a ha => ?_, F₁.new, F₁.off⟩, ?_, fun _ h => .inl h⟩
    · rw [q, F₁.new c hcX] at e; cases e
    · rcases look y b e with ⟨rfl, rfl⟩ | ⟨hy, e⟩
      · exact ⟨c, v, hc, hc', hI i, F₁.off c hcX, fun _ => hcX⟩
      · have B := hb y b e
        cases b with
        | val d => obtain ⟨v, a, i⟩ := B; exact ⟨v, a, hI i⟩
        | own ds =>
          obtain ⟨a, vs, e, ha, ⟨n, ho⟩, r⟩ := B
          exact ⟨a, vs, e, ha, ⟨n, hk _ _ (fun q => by rw [q, hoc] at ho; cases ho; cases hdc) ho⟩, hA r⟩
        | cell d' =>
          obtain ⟨c', v', e', ⟨o, ho, hd⟩, i', ho'⟩ := B
          exact ⟨c', v', e', ⟨o, hk _ _ (fun q => hy (hap y _ c e (.inr ⟨_, rfl⟩) hc (q ▸ e'))) ho, hd⟩, hI i', ho'⟩
        | cell0 =>
          obtain ⟨c', e', ⟨o, ho, hd⟩, i'⟩ := B
          exact ⟨c', e', ⟨o, hk _ _ (fun q => hy (hap y _ c e (.inl rfl) hc (q ▸ e'))) ho, hd⟩, i'⟩
        | any => trivial
        | raw w => exact B
    · rcases look y _ e1 with ⟨_, q⟩ | ⟨_, e1⟩
      · cases q
      · rcases look z _ e2 with ⟨_, q⟩ | ⟨_, e2⟩
        · cases q
        · exact ap y z ds es a e1 e2 e3 e4
    · by_cases q : a = c
      · rw [q]; obtain ⟨o, e, _⟩ := hc'; exact ⟨o, e⟩
      · obtain ⟨o, e⟩ := F₁.live a ha; exact ⟨o, hk a o q e⟩
    · exact (F.toX x₁).trans' (Ext.heap (k := s₁.toks) fun b o hb e => hk b o (fun q => hb (q ▸ hcX)) e)) fun _ _ x => x) hs

/-- a list that an expression has made -/
def EvN (C : Cx) (Γ : Vars) (e : Expr) (ds : List D) : Prop :=
  ∀ X s, FS C X Γ s → wpAny C.M C.A (eval e C.env) (fun v s' => ∃ a vs, v = .ref a ∧ LAt s'.heap a vs ∧ s.heap.get? a = none ∧ FS (C.plus [a]) X Γ s' ∧ Are s'.heap ((C.plus [a]).av X) vs ds ∧ XL C.L s s') no s
theorem EvN.toL {e : Expr} {ds : List D} (h : EvN C Γ e ds) : EvL C Γ e ds := fun X s F =>
  wpAny_mono (h X s F) (fun v s' p => by
    obtain ⟨a, vs, e1, e2, e3, e4, e5, e6⟩ := p
    exact ⟨e4.unplus, ⟨a, vs, e1, e2, e5.unplus, fun q => by obtain ⟨o, e⟩ := F.live _ F.hL'; rw [← q, e3] at e; cases e⟩, e6⟩) fun _ _ x => x
theorem EvN.toE {e : Expr} {ds : List D} (h : EvN C Γ e ds) : Ev C Γ e (.lst ds) := fun X s F =>
  wpAny_mono (h X s F) (fun v s' p => by
    obtain ⟨a, vs, rfl, e2, e3, e4, e5, e6⟩ := p
    exact ⟨e4.unplus, .lst e2 (fun hm => by obtain ⟨o, e⟩ := F.live _ hm; rw [e3] at e; cases e) e5.unplus, e6⟩) fun _ _ x => x
theorem EvN.list {es : List Expr} {pos : Pos} {ds : List D} (h : Evs C Γ es ds) (hn : ds.length ≤ 1000) : EvN C Γ (.List es pos) ds := fun X s F =>
  wpAny_List (wpAny_mono (h X s pos F) (fun vs s₁ q => by
    refine ⟨by rw [q.2.1.length]; exact Nat.le_trans hn (by decide), s₁.heap.objs.size, vs, rfl, ⟨_, Heap.get?_push_size _ rfl⟩, ?_, ?_, ?_, ?_⟩
    · cases hz : s.heap.get? s₁.heap.objs.size with
      | none => rfl
      | some o =>
        by_cases hL : s₁.heap.objs.size = C.L
        · exact absurd (List.mem_append_left _ (hL ▸ F.hL)) q.1.fresh
        · exact absurd (Heap.lt_size (q.2.2.keep hL hz)) (Nat.lt_irrefl _)
    · exact q.1.plus _ (fun _ _ e => Heap.get?_push_of_some _ e) (fun a ha => by rw [List.mem_singleton.mp ha]; exact get_size _) fun a ha => by rw [List.mem_singleton.mp ha]; exact ⟨_, Heap.get?_push_size _ rfl⟩
    · exact q.2.1.plus (fun _ _ _ e => Heap.get?_push_of_some _ e) fun a ha => by rw [List.mem_singleton.mp ha]; exact get_size _
    · exact q.2.2.trans' q.1.newSeq) fun _ _ x => x)

theorem Ex.assignOwn {x : Str} {np pos : Pos} {e : Expr} {ds : List D} (h : EvN C Γ e ds) (hl : C.env.kindOf x = some .local) (hs : swapsWith e (some (.Name x np)) pos.line C.env = pure false := by rfl) : Ex C Γ (.Assign [.Name x np] e pos) (.next ((x, .own ds) :: Γ)) := fun X s F =>
  wpAny_Assign_Name (wpAny_mono (h X s F) (fun v s₁ p => by
    obtain ⟨a, vs, rfl, e2, e3, F₁, e5, e6⟩ := p
    obtain ⟨m, Fr, hb, ap⟩ := F₁.ex
    have haX : a ∉ C.av X := fun hm => by obtain ⟨o, e⟩ := F.live _ hm; rw [e3] at e; cases e
    have haL : a ≠ C.L := fun q => haX (q ▸ F.hL')
    have hnew : C.h₀.get? a = none := by
      cases hz : C.h₀.get? a with
      | none => rfl
      | some o => obtain ⟨m, Fr, _⟩ := F.ex; rw [Fr.keep a o hz] at e3; cases e3
    -- the frame that owns a
    have hav : ∀ {c}, c ∈ C.av (a :: X) → c ∈ (C.plus [a]).av X := fun {c} hm => by
      rcases List.mem_append.mp hm with q | q
      · rcases List.mem_cons.mp q with q | q
        · exact List.mem_append_right _ (List.mem_append_left _ (q ▸ List.mem_singleton.mpr rfl))
        · exact List.mem_append_left _ q
      · exact List.mem_append_right _ (List.mem_append_right _ q)
    have hQ : ∀ c o, c ∉ (C.plus [a]).av X → s₁.heap.get? c = some o → s₁.heap.get? c = some o ∧ c ∉ C.av (a :: X) := fun c o hc e => ⟨e, fun hm => hc (hav hm)⟩
    have F₂ : FS C (a :: X) Γ s₁ := by
      refine ⟨F.ok, ⟨m, Fr, fun y b e => ?_, ap⟩, List.mem_cons_of_mem _ F.hL, fun c hc => F₁.live c (hav hc), fun c hc => ?_, fun c hc hm => ?_⟩
      · have B := hb y b e
        cases b with
        | val d => obtain ⟨v, q, i⟩ := B; exact ⟨v, q, i.mono hQ⟩
        | own es => obtain ⟨c, ws, q, hc, l, r⟩ := B; exact ⟨c, ws, q, List.mem_cons_of_mem _ hc, l, r.mono hQ⟩
        | cell d => obtain ⟨c, v, q, l, i, hc⟩ := B; exact ⟨c, v, q, l, i.mono hQ, fun q => hc.1 (List.mem_append_right _ q), fun k => List.mem_cons_of_mem _ (hc.2 k)⟩
        | cell0 => obtain ⟨c, q, l, i⟩ := B; exact ⟨c, q, l, List.mem_cons_of_mem _ i⟩
        | any => trivial
        | raw w => exact B
      · rcases List.mem_cons.mp hc with q | q
        · exact q ▸ hnew
        · exact F.new c q
      · rcases List.mem_cons.mp hc with q | q
        · exact haX (List.mem_append_right _ (q ▸ hm))
        · exact F.off c q hm
    refine wpAny_storeName_local hl Fr.ns (fun h' hn hs' => ⟨a :: X, F₂.named hs' (fun m₂ hm₂ => ?_) (fun m' e => ⟨a, vs, e, List.mem_cons_self .., e2, e5.mono hQ⟩) (fun ds' q m₂ hm₂ y es c hy hc => ?_), ?_, fun c hc => ?_⟩) (by rw [F.ok.kind]; rfl)
    · rw [Ns.uniq hm₂ Fr.ns]; exact hn
    · have : m₂ = m := Ns.uniq hm₂ Fr.ns
      subst this
      obtain ⟨c', ws, q', hc', _⟩ := hb y _ hy
      rw [hc] at q'; cases q'
      intro q''; cases q''
      exact haX (List.mem_append_left _ hc')
    · exact (F.toX e6).trans' (Ext.heap fun b o hb e => (hs'.2 b fun q => hb (q ▸ F.hL)).trans e)
    · rcases List.mem_cons.mp hc with q | q
      · exact .inr (q ▸ e3)
      · exact .inl q) fun _ _ x => x) hs
end
end Mine

-- V4
namespace Mine
open PySem PySem.W PySem.Calls PyProof.Rows

section
variable {C : Cx} {Γ : Vars}

theorem look_cons {x y : Str} {b c : B} {Γ : Vars} (e : ((x, b) :: Γ).lookup y = some c) : (y = x ∧ c = b) ∨ (y ≠ x ∧ Γ.lookup y = some c) := by
  simp only [List.lookup] at e
  split at e
  · rename_i q; exact .inl ⟨beq_iff_eq.mp q, (Option.some.inj e).symm⟩
  · rename_i q; exact .inr ⟨fun z => by subst z; simp at q, e⟩

/-- a list of the frame's own is turned -/
theorem FS.turned {X : List Addr} {s : Shared} {x : Str} {ds ds' : List D} {a : Addr} {vs' : List Value} {m : Str → Option Value} {h' : Heap} {k : Nat} (F : FS C X Γ s) (hm : s.heap.Ns C.L m) (hx : Γ.lookup x = some (.own ds)) (e : m x = some (.ref a))
    (hl : LAt h' a vs') (hs : Heap.SameBut a s.heap h') (hv : Are s.heap (C.av X) vs' ds') : FS C X ((x, .own ds') :: Γ) { s with heap := h', toks := k } ∧ Ext X s { s with heap := h', toks := k } := by
  obtain ⟨m₂, Fr, hb, ap⟩ := F.ex
  obtain rfl : m₂ = m := Ns.uniq Fr.ns hm
  obtain ⟨a', vs, e', ha, hla, hvs⟩ := hb x _ hx
  rw [e] at e'; cases e'
  have hk : ∀ b o, b ≠ a → s.heap.get? b = some o → h'.get? b = some o := fun b o hb e => (hs.2 b hb).trans e
  have haL : a ≠ C.L := fun q => by
    obtain ⟨n, ho⟩ := hla
    obtain ⟨o, es, ep, e1, e2, _⟩ := hm
    rw [q, e1] at ho; cases ho; cases e2
  have hI : ∀ {v d}, Is s.heap (C.av X) v d → Is h' (C.av X) v d := fun i => i.mono fun b o hb e => ⟨hk b o (fun q => hb (q ▸ List.mem_append_left _ ha)) e, hb⟩
  have hA : ∀ {v d}, Are s.heap (C.av X) v d → Are h' (C.av X) v d := fun i => i.mono fun b o hb e => ⟨hk b o (fun q => hb (q ▸ List.mem_append_left _ ha)) e, hb⟩
  refine ⟨⟨F.ok, ⟨m₂, ⟨hm.sameBut hs (Ne.symm haL), fun b o e => hk b o (fun q => ?_) (Fr.keep b o e), Fr.above⟩, fun y b ey => ?_, fun y z d1 d2 c e1 e2 e3 e4 => ?_⟩, F.hL, fun b hb => ?_, F.new, F.off⟩, Ext.heap fun b o hb e => hk b o (fun q => hb (q ▸ ha)) e⟩
  · rw [q, F.new a ha] at e; cases e
  · rcases look_cons ey with ⟨rfl, rfl⟩ | ⟨hy, ey⟩
    · exact ⟨a, vs', e, ha, hl, hA hv⟩
    · have B := hb y b ey
      cases b with
      | val d => obtain ⟨v, q, i⟩ := B; exact ⟨v, q, hI i⟩
      | own es =>
        obtain ⟨c, ws, q, hc, ⟨n, ho⟩, r⟩ := B
        exact ⟨c, ws, q, hc, ⟨n, hk _ _ (fun q' => hy (ap y x _ _ c ey hx q (q' ▸ e))) ho⟩, hA r⟩
      | cell d =>
        obtain ⟨c, v, q, ⟨o, ho, hd⟩, i, hcX⟩ := B
        refine ⟨c, v, q, ⟨o, hk _ _ (fun q' => ?_) ho, hd⟩, hI i, hcX⟩
        obtain ⟨n, hla⟩ := hla; rw [q', hla] at ho; cases ho; cases hd
      | cell0 =>
        obtain ⟨c, q, ⟨o, ho, hd⟩, i⟩ := B
        refine ⟨c, q, ⟨o, hk _ _ (fun q' => ?_) ho, hd⟩, i⟩
        obtain ⟨n, hla⟩ := hla; rw [q', hla] at ho; cases ho; cases hd
      | any => trivial
      | raw w => exact B
  · rcases look_cons e1 with ⟨hy, q1⟩ | ⟨hy, f1⟩
    · rcases look_cons e2 with ⟨hz, q2⟩ | ⟨hz, f2⟩
      · rw [hy, hz]
      · subst hy; exact ap y z _ _ c hx f2 e3 e4
    · rcases look_cons e2 with ⟨hz, q2⟩ | ⟨hz, f2⟩
      · subst hz; exact ap y z _ _ c f1 hx e3 e4
      · exact ap y z _ _ c f1 f2 e3 e4
  · by_cases q : b = a
    · obtain ⟨n, e⟩ := hl; exact ⟨_, q ▸ e⟩
    · obtain ⟨o, e⟩ := F.live b hb; exact ⟨o, hk b o q e⟩

/-- the table behind an expression is the table ahead -/
theorem FS.table {X : List Addr} {s : Shared} (F : FS C X Γ s) {x : Str} {ds : List D} (hx : Γ.lookup x = some (.own ds)) : ∃ m a vs, s.heap.Ns C.L m ∧ m x = some (.ref a) ∧ a ∈ X ∧ LAt s.heap a vs ∧ Are s.heap (C.av X) vs ds := by
  obtain ⟨m, Fr, hb, _⟩ := F.ex
  obtain ⟨a, vs, e, ha, hl, hv⟩ := hb x _ hx
  exact ⟨m, a, vs, Fr.ns, e, ha, hl, hv⟩

theorem Ex.append {x : Str} {np ap pos pos' : Pos} {e : Expr} {ds : List D} {d : D} (hx : Γ.lookup x = some (.own ds)) (h : Ev C Γ e d) (hn : ds.length ≤ 1000000) (hl : C.env.kindOf x = some .local)
    {pl : Sem Bool}
    (he : eval (.Call (.Attribute (.Name x np) "append" ap) [e] [] pos) C.env = (do
      let ov ← eval (.Name x np) C.env
      standAt ap.atName
      let (f, first) ← holding [ov] (getMethod ov "append" pl)
      callWith pos f first (backTo pos (starEach [e] C.env)) []) := by rfl)
    (hst : starEach [e] C.env = [(false, eval e C.env)] := by rfl)
    (hi : interactive C.env = false := by rfl) (hs : swapsWith (.Call (.Attribute (.Name x np) "append" ap) [e] [] pos) none pos'.line C.env = pure false := by rfl)
    (hd : (x == ("__debug__" : Str)) = false := by decide) :
    Ex C Γ (.Expr (.Call (.Attribute (.Name x np) "append" ap) [e] [] pos) pos') (.next ((x, .own (ds ++ [d])) :: Γ)) := fun X s F => by
  obtain ⟨m, a, vs, hm, em, ha, hla, hv⟩ := F.table hx
  refine wpAny_Expr (MethodCall_ (pl := pl) ?_ he) hi hs
  refine wpAny_Name (wpAny_loadName_local F.ok.kind hl hm em ?_) hd
  obtain ⟨n, hoa⟩ := id hla
  refine getMethod_list_append hoa rfl rfl ?_
  refine callWith_method1 ?_ (by rw [hst]; rfl)
  refine wpAny_items_cons (wpAny_mono (h X s F) (fun v s₁ p => wpAny_items_nil ?_) fun _ _ x => x) (by rw [hst]; rfl)
  obtain ⟨F₁, i, x₁⟩ := p
  have hm₁ := x₁.tab m hm
  obtain ⟨m₂, a₂, vs₂, hm₂, em₂, ha₂, hla₂, hv₂⟩ := F₁.table hx
  obtain rfl := Ns.uniq hm₂ hm₁
  rw [em] at em₂; cases em₂
  obtain ⟨n₂, ho₂⟩ := id hla₂
  refine wpAny_list_append_plain (l := a) (items := vs₂.toArray) (x := v) ⟨n₂, ho₂⟩ (fun h' hp hsb => ?_) ?_
  · obtain ⟨n', hp⟩ := hp
    have t := F₁.turned (k := s₁.toks) hm₁ hx em (vs' := vs₂ ++ [v]) ⟨n', by rw [hp]; simp⟩ hsb (hv₂.append (.one i))
    exact ⟨X, t.1, (F.toX x₁).trans' t.2, fun _ h => .inl h⟩
  · rw [List.size_toArray, hv₂.length]; exact Nat.le_trans hn (by decide)

/-- behind the evaluation of parts: the list still stands at its place -/
theorem FS.place {X : List Addr} {s s₁ : Shared} {x : Str} {ds : List D} {m : Str → Option Value} {a : Addr} (F₁ : FS C X Γ s₁) (x₁ : XL C.L s s₁) (hm : s.heap.Ns C.L m) (hx : Γ.lookup x = some (.own ds)) (em : m x = some (.ref a)) :
    s₁.heap.Ns C.L m ∧ a ∈ X ∧ ∃ vs, LAt s₁.heap a vs ∧ Are s₁.heap (C.av X) vs ds := by
  have hm₁ := x₁.tab m hm
  obtain ⟨m₂, a₂, vs₂, hm₂, em₂, ha₂, hla₂, hv₂⟩ := F₁.table hx
  obtain rfl := Ns.uniq hm₂ hm₁
  rw [em] at em₂; cases em₂
  exact ⟨hm₁, ha₂, vs₂, hla₂, hv₂⟩

theorem Ex.setItem {x : Str} {np sp pos : Pos} {i e : Expr} {ds : List D} {k : Int} {d : D} (hx : Γ.lookup x = some (.own ds)) (h : Ev C Γ e d) (hi : Ev C Γ i (.int k)) (h0 : 0 ≤ k) (hk : k < ds.length) (hn : ds.length ≤ 1000000) (hl : C.env.kindOf x = some .local)
    (hs : swapsWith e (some (.Subscript (.Name x np) i sp)) pos.line C.env = pure false := by rfl) (hd : (x == ("__debug__" : Str)) = false := by decide) :
    Ex C Γ (.Assign [.Subscript (.Name x np) i sp] e pos) (.next ((x, .own (ds.set k.toNat d)) :: Γ)) := fun X s F => by
  obtain ⟨m, a, vs, hm, em, ha, hla, hv⟩ := F.table hx
  refine wpAny_Assign_Subscript (wpAny_mono (h X s F) (fun v s₁ p => ?_) fun _ _ x => x) hs
  refine wpAny_Name (wpAny_loadName_local F.ok.kind hl (p.2.2.tab m hm) em ?_) hd
  refine wpAny_mono (hi X s₁ p.1) (fun w s₂ q => ?_) fun _ _ x => x
  obtain ⟨hm₂, ha₂, vs₂, hla₂, hv₂⟩ := q.1.place (p.2.2.trans' q.2.2) hm hx em
  obtain ⟨n₂, ho₂⟩ := id hla₂
  have iv := p.2.1.ext F.hL' q.2.2
  cases q.2.1
  have hlen := hv₂.length
  refine setItem_plain (items := vs₂.toArray) ⟨n₂, ho₂⟩ h0 (by omega) (by simp; omega) fun h' hp hsb => ?_
  obtain ⟨n', hp⟩ := hp
  have t := q.1.turned (k := s₂.toks) hm₂ hx em (vs' := vs₂.set k.toNat v) ⟨n', by rw [hp]; simp⟩ hsb (Are.set iv k.toNat hv₂)
  exact ⟨X, t.1, (F.toX (p.2.2.trans' q.2.2)).trans' t.2, fun _ h => .inl h⟩

theorem Ex.augItem {x : Str} {np sp pos : Pos} {op : Operator} {i e : Expr} {ds : List D} {k : Int} {a₀ b d : D} (hx : Γ.lookup x = some (.own ds)) (hi : Ev C Γ i (.int k)) (h0 : 0 ≤ k) (hk : ds[k.toNat]? = some a₀) (h : Ev C Γ e b) (ho : Bop C (inplaceOp op) a₀ b d) (hn : ds.length ≤ 1000000) (hl : C.env.kindOf x = some .local)
    (ha : ∀ ov iv new, augStore i ov iv new = (do holding [new, ov, iv] (PySem.setItem ov iv new); release [new, ov, iv] []; pure .next) := by intro _ _ _; rfl) (hd : (x == ("__debug__" : Str)) = false := by decide) :
    Ex C Γ (.AugAssign (.Subscript (.Name x np) i sp) op e pos) (.next ((x, .own (ds.set k.toNat d)) :: Γ)) := fun X s F => by
  obtain ⟨m, a, vs, hm, em, _, hla, hv⟩ := F.table hx
  refine wpAny_AugAssign_Subscript_any (wpAny_Name (wpAny_loadName_local F.ok.kind hl hm em ?_) hd) ha
  refine wpAny_mono (hi X s F) (fun w s₁ p => ?_) fun _ _ x => x
  obtain ⟨hm₁, _, vs₁, hla₁, hv₁⟩ := p.1.place p.2.2 hm hx em
  obtain ⟨F₁, iw, x₁⟩ := p
  cases iw
  have hlen := hv₁.length
  have hk' : k.toNat < ds.length := (List.getElem?_eq_some_iff.mp hk).1
  obtain ⟨v₀, e₀, i₀⟩ := hv₁.get hk
  refine wpAny_getItem_list hla₁.isList h0 (by omega) (by simpa using e₀) ?_
  refine wpAny_mono (h X s₁ F₁) (fun u s₂ q => ?_) fun _ _ x => x
  refine wpAny_mono (ho X Γ s₂ v₀ u q.1 (i₀.ext F.hL' q.2.2) q.2.1) (fun r s₃ z => ?_) fun _ _ x => x
  have xx := (x₁.trans' q.2.2).trans' z.2.2
  obtain ⟨hm₃, _, vs₃, hla₃, hv₃⟩ := z.1.place xx hm hx em
  obtain ⟨n₃, ho₃⟩ := id hla₃
  have hlen₃ := hv₃.length
  refine setItem_plain (items := vs₃.toArray) ⟨n₃, ho₃⟩ h0 (by omega) (by simp; omega) fun h' hp hsb => ?_
  obtain ⟨n', hp⟩ := hp
  have t := z.1.turned (k := s₃.toks) hm₃ hx em (vs' := vs₃.set k.toNat r) ⟨n', by rw [hp]; simp⟩ hsb (Are.set z.2.1 k.toNat hv₃)
  exact ⟨X, t.1, (F.toX xx).trans' t.2, fun _ h => .inl h⟩

theorem Ex.augLast {x : Str} {np sp pos : Pos} {op : Operator} {i e : Expr} {ds : List D} {a₀ b d : D} (hx : Γ.lookup x = some (.own (ds ++ [a₀]))) (hi : Ev C Γ i (.int (-1))) (h : Ev C Γ e b) (ho : Bop C (inplaceOp op) a₀ b d) (hn : ds.length ≤ 1000000) (hl : C.env.kindOf x = some .local)
    (ha : ∀ ov iv new, augStore i ov iv new = (do holding [new, ov, iv] (PySem.setItem ov iv new); release [new, ov, iv] []; pure .next) := by intro _ _ _; rfl) (hd : (x == ("__debug__" : Str)) = false := by decide) :
    Ex C Γ (.AugAssign (.Subscript (.Name x np) i sp) op e pos) (.next ((x, .own (ds ++ [d])) :: Γ)) := fun X s F => by
  obtain ⟨m, a, vs, hm, em, _, hla, hv⟩ := F.table hx
  refine wpAny_AugAssign_Subscript_any (wpAny_Name (wpAny_loadName_local F.ok.kind hl hm em ?_) hd) ha
  refine wpAny_mono (hi X s F) (fun w s₁ p => ?_) fun _ _ x => x
  obtain ⟨hm₁, _, vs₁, hla₁, hv₁⟩ := p.1.place p.2.2 hm hx em
  obtain ⟨F₁, iw, x₁⟩ := p
  cases iw
  have hlen := hv₁.length
  rw [List.length_append, List.length_singleton] at hlen
  obtain ⟨v₀, e₀, i₀⟩ := hv₁.get (k := ds.length) (d := a₀) (by simp)
  refine wpAny_getItem_list_neg hla₁.isList (by omega) (by simp; omega) (by omega) (by rw [List.size_toArray, show ((-1 : Int) + (vs₁.length : Int)).toNat = ds.length by omega]; simpa using e₀) ?_
  refine wpAny_mono (h X s₁ F₁) (fun u s₂ q => ?_) fun _ _ x => x
  refine wpAny_mono (ho X Γ s₂ v₀ u q.1 (i₀.ext F.hL' q.2.2) q.2.1) (fun r s₃ z => ?_) fun _ _ x => x
  have xx := (x₁.trans' q.2.2).trans' z.2.2
  obtain ⟨hm₃, _, vs₃, hla₃, hv₃⟩ := z.1.place xx hm hx em
  obtain ⟨n₃, ho₃⟩ := id hla₃
  have hlen₃ := hv₃.length
  rw [List.length_append, List.length_singleton] at hlen₃
  refine setItem_plain_neg (items := vs₃.toArray) ⟨n₃, ho₃⟩ (by omega) (by simp; omega) (by omega) fun h' hp hsb => ?_
  obtain ⟨n', hp⟩ := hp
  rw [List.size_toArray, show ((-1 : Int) + (vs₃.length : Int)).toNat = ds.length by omega] at hp
  have hset : (ds ++ [a₀]).set ds.length d = ds ++ [d] := by simp
  have t := z.1.turned (k := s₃.toks) hm₃ hx em (vs' := vs₃.set ds.length r) ⟨n', by rw [hp]; simp⟩ hsb (hset ▸ Are.set z.2.1 ds.length hv₃)
  exact ⟨X, t.1, (F.toX xx).trans' t.2, fun _ h => .inl h⟩

/-- from here on the list is not turned any more -/
theorem FS.freeze {X : List Addr} {s : Shared} {x : Str} {ds : List D} (F : FS C X Γ s) (hx : Γ.lookup x = some (.own ds)) : ∃ X', (∀ a ∈ X', a ∈ X) ∧ FS C X' ((x, .val (.lst ds)) :: Γ) s := by
  obtain ⟨m, Fr, hb, ap⟩ := F.ex
  obtain ⟨a, vs, e, ha, hla, hv⟩ := hb x _ hx
  have haL : a ≠ C.L := fun q => by
    obtain ⟨n, ho⟩ := hla
    obtain ⟨o, es, ep, e1, e2, _⟩ := Fr.ns
    rw [q, e1] at ho; cases ho; cases e2
  have sub : ∀ b ∈ X.filter (· ≠ a), b ∈ X := fun b hb => (List.mem_filter.mp hb).1
  have hav : ∀ b, b ∈ C.av (X.filter (· ≠ a)) → b ∈ C.av X := fun b hb => by
    rcases List.mem_append.mp hb with q | q
    · exact List.mem_append_left _ (sub b q)
    · exact List.mem_append_right _ q
  have hQ : ∀ c o, c ∉ C.av X → s.heap.get? c = some o → s.heap.get? c = some o ∧ c ∉ C.av (X.filter (· ≠ a)) := fun c o hc e => ⟨e, fun h => hc (hav c h)⟩
  have hany : a ∉ C.av (X.filter (· ≠ a)) := fun hm => by
    rcases List.mem_append.mp hm with q | q
    · have := (List.mem_filter.mp q).2; simp at this
    · exact F.off a ha q
  refine ⟨X.filter (· ≠ a), sub, F.ok, ⟨m, Fr, fun y b ey => ?_, fun y z d1 d2 c e1 e2 e3 e4 => ?_⟩, List.mem_filter.mpr ⟨F.hL, by simpa using Ne.symm haL⟩, fun b hb => F.live b (hav b hb), fun b hb => F.new b (sub b hb), fun b hb => F.off b (sub b hb)⟩
  · rcases look_cons ey with ⟨rfl, rfl⟩ | ⟨hy, ey⟩
    · exact ⟨_, e, .lst hla hany (hv.mono hQ)⟩
    · have B := hb y b ey
      cases b with
      | val d => obtain ⟨v, q, i⟩ := B; exact ⟨v, q, i.mono hQ⟩
      | own es =>
        obtain ⟨c, ws, q, hc, l, r⟩ := B
        exact ⟨c, ws, q, List.mem_filter.mpr ⟨hc, by simpa using fun q' : c = a => hy (ap y x _ _ c ey hx q (q' ▸ e))⟩, l, r.mono hQ⟩
      | cell d =>
        obtain ⟨c, v, q, l, i, hcX⟩ := B
        have hca : c ≠ a := fun q' => by
          obtain ⟨n, hla⟩ := hla; obtain ⟨o, ho, hd⟩ := l; rw [q', hla] at ho; cases ho; cases hd
        exact ⟨c, v, q, l, i.mono hQ, hcX.1, fun k => List.mem_filter.mpr ⟨hcX.2 k, by simpa using hca⟩⟩
      | cell0 =>
        obtain ⟨c, q, l, i⟩ := B
        have hca : c ≠ a := fun q' => by
          obtain ⟨n, hla⟩ := hla; obtain ⟨o, ho, hd⟩ := l; rw [q', hla] at ho; cases ho; cases hd
        exact ⟨c, q, l, List.mem_filter.mpr ⟨i, by simpa using hca⟩⟩
      | any => trivial
      | raw w => exact B
  · rcases look_cons e1 with ⟨_, q⟩ | ⟨_, e1⟩
    · cases q
    · rcases look_cons e2 with ⟨_, q⟩ | ⟨_, e2⟩
      · cases q
      · exact ap y z _ _ c e1 e2 e3 e4
theorem Exs.freeze {x : Str} {ds : List D} {sts : List Stmt} {o : Out} (hx : Γ.lookup x = some (.own ds)) (h : Exs C ((x, .val (.lst ds)) :: Γ) sts o) : Exs C Γ sts o := fun X s F => by
  obtain ⟨X', sub, F'⟩ := F.freeze hx
  exact wpAny_mono (h X' s F') (fun f s' e => by obtain ⟨Y, a, b, c⟩ := e; exact ⟨Y, a, b.more sub, fun y hy => (c y hy).imp (sub y) id⟩) fun _ _ x => x
end
end Mine

-- V5
namespace Mine
open PySem PySem.W PySem.Calls PyProof.Rows

section
variable {C : Cx} {Γ : Vars}

-- items
theorem Ev.subL {value slice : Expr} {pos : Pos} {ds : List D} {k : Int} {d : D} (hv : EvL C Γ value ds) (hi : Ev C Γ slice (.int k)) (h0 : 0 ≤ k) (hn : ds.length ≤ 1000000) (hk : ds[k.toNat]? = some d)
    (hs : ∀ o i, subscripted slice false o i = operate [o, i] (getItem o i) := by intro _ _; rfl) : Ev C Γ (.Subscript value slice pos) d := fun X s F =>
  Subscript_ (wpAny_mono (hv X s F) (fun v s₁ p => by
    obtain ⟨F₁, ⟨a, vs, rfl, hla, hvs, haL⟩, x₁⟩ := p
    refine wpAny_mono (hi X s₁ F₁) (fun u s₂ q => ?_) fun _ _ x => x
    obtain ⟨F₂, iu, x₂⟩ := q
    obtain ⟨_, rfl⟩ := iu.intI
    have hla₂ : LAt s₂.heap a vs := hla.keep fun o e => x₂.keep haL e
    have hvs₂ := hvs.ext F.hL' x₂
    obtain ⟨v, e, i⟩ := hvs₂.get hk
    have hk' : k.toNat < ds.length := (List.getElem?_eq_some_iff.mp hk).1
    exact tail_any hla₂.isList.typeIs slot_list_getitem.lookup (wpAny_getItem_list hla₂.isList h0 (by omega) (by simpa using e) (Post.after (x₁.trans' x₂) (Post.same F₂ i))) (hs _ _)) fun _ _ x => x)
theorem seqIndex_nat {k : Int} {n : Nat} (h0 : 0 ≤ k) (hk : k.toNat < n) : seqIndex? k n = some k.toNat := by
  unfold seqIndex?
  have h1 : ¬ k < 0 := by omega
  simp only [h1, if_false]
  rw [if_pos (by simp only [Bool.and_eq_true, decide_eq_true_eq]; omega)]
theorem Ev.subT {value slice : Expr} {pos : Pos} {ds : List D} {k : Int} {d : D} (hv : Ev C Γ value (.tup ds)) (hi : Ev C Γ slice (.int k)) (h0 : 0 ≤ k) (hn : ds.length ≤ 1000000) (hk : ds[k.toNat]? = some d)
    (hs : ∀ o i, subscripted slice false o i = operate [o, i] (getItem o i) := by intro _ _; rfl) : Ev C Γ (.Subscript value slice pos) d := fun X s F =>
  Subscript_ (wpAny_mono (hv X s F) (fun v s₁ p => by
    obtain ⟨F₁, iv, x₁⟩ := p
    refine wpAny_mono (hi X s₁ F₁) (fun u s₂ q => ?_) fun _ _ x => x
    obtain ⟨F₂, iu, x₂⟩ := q
    obtain ⟨_, rfl⟩ := iu.intI
    have iv₂ := iv.ext F.hL' x₂
    obtain ⟨_, _, rfl, ht, hx, hvs⟩ := iv₂.tupI
    · obtain ⟨v, e, i⟩ := hvs.get hk
      have hk' : k.toNat < ds.length := (List.getElem?_eq_some_iff.mp hk).1
      have hlen := hvs.length
      exact tail_any (IsTup.typeIs ht) slot_tuple_getitem.lookup (getItem_tuple ht (by omega) (by omega) (seqIndex_nat h0 (by rw [List.size_toArray, hlen]; exact hk')) (by simpa using e) (Post.after (x₁.trans' x₂) (Post.same F₂ i))) (hs _ _)) fun _ _ x => x)
theorem Ev.subS {value slice : Expr} {pos : Pos} {x : Str} {k : Int} {c : Nat} (hv : Ev C Γ value (.str x)) (hi : Ev C Γ slice (.int k)) (h0 : 0 ≤ k) (hn : x.length ≤ 1000000) (hk : x.cps[k.toNat]? = some c)
    (hs : ∀ o i, subscripted slice false o i = operate [o, i] (getItem o i) := by intro _ _; rfl) : Ev C Γ (.Subscript value slice pos) (.str ⟨#[c]⟩) := fun X s F =>
  Subscript_ (wpAny_mono (hv X s F) (fun v s₁ p => by
    obtain ⟨F₁, iv, x₁⟩ := p
    refine wpAny_mono (hi X s₁ F₁) (fun u s₂ q => ?_) fun _ _ x => x
    obtain ⟨F₂, iu, x₂⟩ := q
    obtain ⟨_, rfl⟩ := iu.intI; obtain ⟨_, rfl⟩ := iv.strI
    have hk' : k.toNat < x.length := (Array.getElem?_eq_some_iff.mp hk).1
    refine tail_any (typeIs_str _ _ _) PySem.F.slot_str_getitem.lookup (PySem.P.getItem_str ?_ ?_ (Post.after (x₁.trans' x₂) (Post.same F₂ .str))) (hs _ _)
    · simp only [Bool.or_eq_false_iff, decide_eq_false_iff_not]; omega
    · rw [seqIndex_nat h0 hk']; exact hk) fun _ _ x => x)

-- slices
def EvP (C : Cx) (Γ : Vars) (o : Option Expr) (p : Option Int) : Prop :=
  ∀ X s, FS C X Γ s → wpAny C.M C.A (valueOrNone (evalOpt o C.env)) (fun v s' => IsPart v p ∧ FS C X Γ s' ∧ XL C.L s s') no s
theorem EvP.none : EvP C Γ .none .none := fun X s F => wpAny_pure ⟨.none, F, XL.refl _ _⟩
theorem EvP.some {e : Expr} {i : Int} (h : Ev C Γ e (.int i)) : EvP C Γ (.some e) (.some i) := fun X s F =>
  wpAny_mono (h X s F) (fun v s' p => by obtain ⟨a, b, c⟩ := p; cases b; exact ⟨.int _ _, a, c⟩) fun _ _ x => x

theorem eval_slice {lo hi st : Option Expr} {pos : Pos} {l u t : Option Int} (hl : EvP C Γ lo l) (hu : EvP C Γ hi u) (ht : EvP C Γ st t) {X : List Addr} {s : Shared} (F : FS C X Γ s) {Q : Value → Shared → Prop}
    (h : ∀ vl vu vt s', IsPart vl l → IsPart vu u → IsPart vt t → FS C X Γ s' → XL C.L s s' → Q (.ref s'.heap.objs.size) { s' with heap := s'.heap.push { cls := .type "slice", data := .fields #[vl, vu, vt] } }) :
    wpAny C.M C.A (eval (.Slice lo hi st pos) C.env) Q no s := by
  rw [arm_eval_Slice]
  refine wpAny_bind (wpAny_mono (hl X s F) (fun vl s₁ p => wpAny_bind (wpAny_holding (wpAny_mono (hu X s₁ p.2.1) (fun vu s₂ q => wpAny_bind (wpAny_holding (wpAny_mono (ht X s₂ q.2.1) (fun vt s₃ r => ?_) fun _ _ x => x))) fun _ _ x => x))) fun _ _ x => x)
  exact wpAny_newObj_type (h vl vu vt s₃ p.1 q.1 r.1 r.2.1 ((p.2.2.trans' q.2.2).trans' r.2.2))

theorem sliceL {value : Expr} {lo hi st : Option Expr} {sp pos : Pos} {ds es : List D} {l u t : Option Int} {ops : Value → Value → List Value} (hv : EvL C Γ value ds) (hl : EvP C Γ lo l) (hu : EvP C Γ hi u) (ht : EvP C Γ st t) (h0 : t ≠ some 0) (hn : ds.length ≤ 1000000)
    (hp : ∀ {h : Heap} {X : List Addr} {vs : List Value}, Are h X vs ds → Are h X (slicePick vs.toArray l u t).toList es)
    (hs : ∀ o i, subscripted (.Slice lo hi st sp) false o i = operate (ops o i) (getItem o i)) : Ev C Γ (.Subscript value (.Slice lo hi st sp) pos) (.lst es) := fun X s F =>
  Subscript_ (wpAny_mono (hv X s F) (fun v s₁ p => by
    obtain ⟨F₁, ⟨a, vs, rfl, hla, hvs, haL⟩, x₁⟩ := p
    refine eval_slice hl hu ht F₁ fun vl vu vt s₂ pl pu pt F₂ x₂ => ?_
    have hla₂ : LAt s₂.heap a vs := hla.keep fun o e => x₂.keep haL e
    have hvs₂ := hvs.ext F.hL' x₂
    have hlen := hvs.length
    have hl₃ : (s₂.heap.push { cls := .type "slice", data := .fields #[vl, vu, vt] }).IsList a vs.toArray := hla₂.isList.push _
    refine tail_any (Heap.IsList.typeIs (s := { s₂ with heap := s₂.heap.push { cls := .type "slice", data := .fields #[vl, vu, vt] } }) hl₃) slot_list_getitem.lookup
      (wpAny_getItem_list_slice (s := { s₂ with heap := s₂.heap.push { cls := .type "slice", data := .fields #[vl, vu, vt] } }) hl₃ (Heap.IsSliceOf.new ..) pl pu pt h0 ?_ (by rw [List.size_toArray, hlen]; exact Nat.le_trans hn (by decide))) (hs _ _)
    have F₃ : FS C X Γ { s₂ with heap := s₂.heap.push { cls := .type "slice", data := .fields #[vl, vu, vt] } } := F₂.push _
    refine Post.after (x₁.trans' (x₂.trans' (XL.heap (k := s₂.toks) fun _ _ e => Heap.get?_push_of_some _ e))) ⟨F₃.push _, ?_, XL.heap fun _ _ e => Heap.get?_push_of_some _ e⟩
    have := F₃.mkList (n := 0) (hp (hvs₂.push { cls := .type "slice", data := .fields #[vl, vu, vt] }))
    simpa using this) fun _ _ x => x)
theorem Ev.sliceTo {value hi : Expr} {sp pos : Pos} {ds : List D} {k : Int} (hv : EvL C Γ value ds) (hu : Ev C Γ hi (.int k)) (h0 : 0 ≤ k) (hn : ds.length ≤ 1000000) : Ev C Γ (.Subscript value (.Slice Option.none (Option.some hi) Option.none sp) pos) (.lst (ds.take k.toNat)) :=
  sliceL (ops := fun o i => [i, o]) hv EvP.none (EvP.some hu) EvP.none (by simp) hn (fun a => by
    obtain ⟨j, rfl⟩ := Int.eq_ofNat_of_zero_le h0
    rw [slicePick_upto']; simpa using a.take j) (fun _ _ => rfl)
theorem Ev.sliceFrom {value lo : Expr} {sp pos : Pos} {ds : List D} {k : Int} (hv : EvL C Γ value ds) (hl : Ev C Γ lo (.int k)) (h0 : 0 ≤ k) (hn : ds.length ≤ 1000000) : Ev C Γ (.Subscript value (.Slice (Option.some lo) Option.none Option.none sp) pos) (.lst (ds.drop k.toNat)) :=
  sliceL (ops := fun o i => [i, o]) hv (EvP.some hl) EvP.none EvP.none (by simp) hn (fun a => by
    obtain ⟨j, rfl⟩ := Int.eq_ofNat_of_zero_le h0
    rw [slicePick_from']; simpa using a.drop j) (fun _ _ => rfl)
theorem Ev.sliceButLast {value hi : Expr} {sp pos : Pos} {ds : List D} (hv : EvL C Γ value ds) (hu : Ev C Γ hi (.int (-1))) (hn : ds.length ≤ 1000000) : Ev C Γ (.Subscript value (.Slice Option.none (Option.some hi) Option.none sp) pos) (.lst (ds.take (ds.length - 1))) :=
  sliceL (ops := fun o i => [i, o]) hv EvP.none (EvP.some hu) EvP.none (by simp) hn (fun a => by
    rw [show (-1 : Int) = -((1 : Nat) : Int) from rfl, slicePick_butLast _ 1 (Nat.le_refl _)]
    have := a.take (ds.length - 1)
    simpa [a.length] using this) (fun _ _ => rfl)
theorem Ev.sliceRev {value st : Expr} {sp pos : Pos} {ds : List D} (hv : EvL C Γ value ds) (ht : Ev C Γ st (.int (-1))) (hn : ds.length ≤ 1000000) : Ev C Γ (.Subscript value (.Slice Option.none Option.none (Option.some st) sp) pos) (.lst ds.reverse) :=
  sliceL (ops := fun o i => [o, i]) hv EvP.none EvP.none (EvP.some ht) (by simp) hn (fun a => by
    rw [krv_pick]; simpa using a.reverse) (fun _ _ => rfl)

theorem Ev.sliceStrTo {value hi : Expr} {sp pos : Pos} {x : Str} {j : Int} (hv : Ev C Γ value (.str x)) (hu : Ev C Γ hi (.int j)) (hn : x.length ≤ 1000000) : Ev C Γ (.Subscript value (.Slice Option.none (Option.some hi) Option.none sp) pos) (.str (Txt.slice x Option.none (Option.some j))) := fun X s F =>
  Subscript_ (wpAny_mono (hv X s F) (fun v s₁ p => by
    obtain ⟨F₁, iv, x₁⟩ := p
    obtain ⟨tx, rfl⟩ := iv.strI
    refine eval_slice EvP.none (EvP.some hu) EvP.none F₁ fun vl vu vt s₂ pl pu pt F₂ x₂ => ?_
    cases pl; cases pt; cases pu
    obtain ⟨T, id, hl, hT, hg⟩ := SBH.sliceItem_ns (prog := P) (w := C.w) (A := C.A) (E := no) (s := s₂) (x := x) (t := tx) (j := j) (uj := by assumption) (P := fun h => ∀ b o, s₂.heap.get? b = some o → h.get? b = some o) (Q := Post C X Γ s (.str (Txt.slice x Option.none (Option.some j)))) (fun h ob hp b o e => Heap.get?_push_of_some _ (hp b o e)) (fun _ _ e => e)
      (fun h' t' k hp => ⟨F₂.keeps hp, .str, (x₁.trans' x₂).trans' (XL.heap hp)⟩) (Nat.le_trans hn (by decide))
    exact tail_any hT hl hg rfl) fun _ _ x => x)
theorem Ev.sliceStrFrom {value lo : Expr} {sp pos : Pos} {x : Str} {j : Int} (hv : Ev C Γ value (.str x)) (hl : Ev C Γ lo (.int j)) (hn : x.length ≤ 1000000) : Ev C Γ (.Subscript value (.Slice (Option.some lo) Option.none Option.none sp) pos) (.str (Txt.slice x (Option.some j) Option.none)) := fun X s F =>
  Subscript_ (wpAny_mono (hv X s F) (fun v s₁ p => by
    obtain ⟨F₁, iv, x₁⟩ := p
    obtain ⟨tx, rfl⟩ := iv.strI
    refine eval_slice (EvP.some hl) EvP.none EvP.none F₁ fun vl vu vt s₂ pl pu pt F₂ x₂ => ?_
    cases pl; cases pt; cases pu
    obtain ⟨T, id, hl, hT, hg⟩ := SBH.sliceItem_sn (prog := P) (w := C.w) (A := C.A) (E := no) (s := s₂) (x := x) (t := tx) (i := j) (ui := by assumption) (P := fun h => ∀ b o, s₂.heap.get? b = some o → h.get? b = some o) (Q := Post C X Γ s (.str (Txt.slice x (Option.some j) Option.none))) (fun h ob hp b o e => Heap.get?_push_of_some _ (hp b o e)) (fun _ _ e => e)
      (fun h' t' k hp => ⟨F₂.keeps hp, .str, (x₁.trans' x₂).trans' (XL.heap hp)⟩) (Nat.le_trans hn (by decide))
    exact tail_any hT hl hg rfl) fun _ _ x => x)

-- lists put together
theorem EvN.add {l r : Expr} {pos : Pos} {ds es : List D} (hl : EvL C Γ l ds) (hr : EvL C Γ r es) (hn : ds.length + es.length ≤ 1000000) : EvN C Γ (.BinOp l .Add r pos) (ds ++ es) := fun X s F =>
  wpAny_BinOp (wpAny_mono (hl X s F) (fun va s₁ p => by
    obtain ⟨F₁, ⟨a, vs, rfl, hla, hvs, haL⟩, x₁⟩ := p
    refine wpAny_mono (hr X s₁ F₁) (fun vb s₂ q => ?_) fun _ _ x => x
    obtain ⟨F₂, ⟨b, ws, rfl, hlb, hws, hbL⟩, x₂⟩ := q
    have hla₂ : LAt s₂.heap a vs := hla.keep fun o e => x₂.keep haL e
    have hvs₂ := hvs.ext F.hL' x₂
    obtain ⟨m, news, Fr, N, fin⟩ := F₂.led
    refine add_lists Fr N hla₂.isList hlb.isList (fun h' F' N' => ?_) (by rw [hvs.length, hws.length]; exact Nat.le_trans hn (by decide))
    have e' := (N' _ (List.mem_cons_self ..)).1
    have fresh : s₂.heap.get? s₂.heap.objs.size = none := get_size _
    obtain ⟨F₃, x₃⟩ := fin h' s₂.toks F' (fun p hp => N' p (List.mem_cons_of_mem _ hp)) [s₂.heap.objs.size] (fun c hc => by rw [List.mem_singleton.mp hc]; exact fresh) (fun c hc => by rw [List.mem_singleton.mp hc]; exact ⟨_, e'⟩)
    refine ⟨_, vs ++ ws, rfl, ⟨_, e'⟩, ?_, F₃, ?_, (x₁.trans' x₂).trans' x₃⟩
    · cases hz : s.heap.get? s₂.heap.objs.size with
      | none => rfl
      | some o =>
        by_cases hL : s₂.heap.objs.size = C.L
        · exact absurd (hL ▸ F.hL' : s₂.heap.objs.size ∈ C.av X) F₂.fresh
        · rw [(x₁.trans' x₂).keep hL hz] at fresh; cases fresh
    · exact (hvs₂.append hws).plus (fun c o hc e => x₃.keep (fun q => hc (q ▸ F.hL')) e) fun c hc => by rw [List.mem_singleton.mp hc]; exact fresh) fun _ _ x => x)
theorem EvN.rep {e r : Expr} {lp pos : Pos} {d : D} {n : Int} (he : Ev C Γ e d) (hr : Ev C Γ r (.int n)) (h0 : 0 ≤ n) (hn : n ≤ 1000000) (hst : starEach [e] C.env = [(false, eval e C.env)] := by rfl) : EvN C Γ (.BinOp (.List [e] lp) .Mult r pos) (List.replicate n.toNat d) := fun X s F =>
  wpAny_BinOp (wpAny_mono (EvN.list (.cons he .nil (by rw [hst]; rfl)) (by simp) X s F) (fun va s₁ p => by
    obtain ⟨a, vs, rfl, ⟨n₁, hoa⟩, hf, F₁, hvs, x₁⟩ := p
    have haL : a ≠ C.L := fun q => by obtain ⟨o, e⟩ := F.live _ F.hL'; rw [← q, hf] at e; cases e
    refine wpAny_mono (hr X s₁ F₁.unplus) (fun vb s₂ q => ?_) fun _ _ x => x
    obtain ⟨F₂, iu, x₂⟩ := q
    obtain ⟨_, rfl⟩ := iu.intI
    have hoa₂ := x₂.keep haL hoa
    obtain ⟨m, news, Fr, N, fin⟩ := F₂.led
    have hlen := hvs.length
    have hvs₂ := hvs.unplus.ext F.hL' x₂
    obtain ⟨v, rfl⟩ := len1 hlen
    refine mul_list Fr N hoa₂ (by omega) (by omega) (by simp; omega) (fun h' F' N' => ?_)
    have e' := (N' _ (List.mem_cons_self ..)).1
    have fresh : s₂.heap.get? s₂.heap.objs.size = none := get_size _
    obtain ⟨F₃, x₃⟩ := fin h' s₂.toks F' (fun p hp => N' p (List.mem_cons_of_mem _ hp)) [s₂.heap.objs.size] (fun c hc => by rw [List.mem_singleton.mp hc]; exact fresh) (fun c hc => by rw [List.mem_singleton.mp hc]; exact ⟨_, e'⟩)
    have hrep : List.foldl (fun x1 x2 : Array Value => x1 ++ x2) #[] (List.replicate (if [v].toArray.isEmpty = true then 0 else n.toNat) [v].toArray) = (List.replicate n.toNat v).toArray := by
      rw [if_neg (by simp)]
      have : ∀ (k : Nat) (acc : Array Value), List.foldl (fun x1 x2 : Array Value => x1 ++ x2) acc (List.replicate k [v].toArray) = acc ++ (List.replicate k v).toArray := fun k => by
        induction k with
        | zero => intro acc; simp
        | succ k ih => intro acc; rw [List.replicate_succ, List.foldl_cons, ih, List.replicate_succ, Array.append_assoc]; congr 1; simp
      rw [this]; simp
    rw [hrep] at e'
    cases hvs₂ with
    | cons iv _ =>
      refine ⟨_, List.replicate n.toNat v, rfl, ⟨_, e'⟩, ?_, F₃, ?_, (x₁.trans' x₂).trans' x₃⟩
      · cases hz : s.heap.get? s₂.heap.objs.size with
        | none => rfl
        | some o =>
          by_cases hL : s₂.heap.objs.size = C.L
          · exact absurd (hL ▸ F.hL' : s₂.heap.objs.size ∈ C.av X) F₂.fresh
          · rw [(x₁.trans' x₂).keep hL hz] at fresh; cases fresh
      · exact (Are.rep iv n.toNat).plus (fun c o hc e => x₃.keep (fun q => hc (q ▸ F.hL')) e) fun c hc => by rw [List.mem_singleton.mp hc]; exact fresh) fun _ _ x => x)
end
end Mine

-- V6
namespace Mine
open PySem PySem.W PySem.Calls PyProof.Rows PySem.SeqAt

def Deep : Nat → D → Bool
  | _, .none | _, .bool _ | _, .int _ | _, .str _ => true
  | n + 1, .tup l => l.all (Deep n)
  | n + 1, .lst l => l.all (Deep n)
  | 0, _ => false

theorem Are.eqs {A : Around} {s : Shared} {X Y : List Addr} (f : D → Prop) (he : ∀ v v' d, f d → Is s.heap X v d → Is s.heap Y v' d → EqAt A s v v' true)
    {ds : List D} {vs ws : List Value} (hf : ∀ d ∈ ds, f d) (x : Are s.heap X vs ds) (y : Are s.heap Y ws ds) (j : Nat) (h1 : j < vs.toArray.size) (h2 : j < ws.toArray.size) : EqAt A s vs.toArray[j] ws.toArray[j] true := by
  induction ds generalizing vs ws j with
  | nil => obtain rfl := x.nilI; exact absurd h1 (by simp)
  | cons d ds ih =>
    obtain ⟨v, vs', rfl, a, as⟩ := x.consI
    obtain ⟨v', ws', rfl, b, bs⟩ := y.consI
    cases j with
    | zero => exact he _ _ _ (hf _ (List.mem_cons_self ..)) a b
    | succ j =>
      have := ih (fun d hd => hf d (List.mem_cons_of_mem _ hd)) as bs j (by simpa using h1) (by simpa using h2)
      simpa using this

theorem eqAt_same {s : Shared} {X Y : List Addr} (n : Nat) : ∀ (d : D), Deep n d = true → ∀ (A : Around) (v v' : Value), A.units + n < cLine → Is s.heap X v d → Is s.heap Y v' d → EqAt A s v v' true := by
  induction n with
  | zero =>
    intro d hd A v v' hu a b
    cases d with
    | none => cases a; cases b; exact .same _
    | bool => cases a; cases b; exact .same _
    | int i => obtain ⟨t, rfl⟩ := a.intI; obtain ⟨u, rfl⟩ := b.intI; have := EqAt.int_int (A := A) (s := s) i t i u; rw [beq_self_eq_true] at this; exact this
    | str x => obtain ⟨t, rfl⟩ := a.strI; obtain ⟨u, rfl⟩ := b.strI; have := EqAt.str_str (A := A) (s := s) x t x u; rw [beq_self_eq_true] at this; exact this
    | tup l => simp [Deep] at hd
    | lst l => simp [Deep] at hd
  | succ n ih =>
    intro d hd A v v' hu a b
    cases d with
    | none => cases a; cases b; exact .same _
    | bool => cases a; cases b; exact .same _
    | int i => obtain ⟨t, rfl⟩ := a.intI; obtain ⟨u, rfl⟩ := b.intI; have := EqAt.int_int (A := A) (s := s) i t i u; rw [beq_self_eq_true] at this; exact this
    | str x => obtain ⟨t, rfl⟩ := a.strI; obtain ⟨u, rfl⟩ := b.strI; have := EqAt.str_str (A := A) (s := s) x t x u; rw [beq_self_eq_true] at this; exact this
    | tup l =>
      obtain ⟨r1, vs, rfl, h1, h2, h3⟩ := a.tupI
      obtain ⟨r2, ws, rfl, k1, k2, k3⟩ := b.tupI
      by_cases q : r1 = r2
      · subst q; exact .same _
      · refine .of_refs q ?_
        have := RcAt.tuples (A := A) (s := s) (e := fun _ => true) h1 k1 (by omega) (Are.eqs (fun d => Deep n d = true) (fun v v' d hd i j => ih d hd A.in1 v v' (by rw [Around.in1_units]; omega) i j) (fun d hm => List.all_eq_true.mp hd d hm) h3 k3)
        rw [List.size_toArray, List.size_toArray, h3.length, k3.length, beq_self_eq_true, Bool.and_true, List.all_eq_true.mpr (fun _ _ => rfl)] at this
        exact this
    | lst l =>
      obtain ⟨r1, vs, rfl, h1, h2, h3⟩ := a.lstI
      obtain ⟨r2, ws, rfl, k1, k2, k3⟩ := b.lstI
      by_cases q : r1 = r2
      · subst q; exact .same _
      · refine .of_refs q ?_
        have := RcAt.lists (A := A) (s := s) (e := fun _ => true) h1.isList k1.isList (by rw [List.size_toArray, List.size_toArray, h3.length, k3.length]) (by omega) (Are.eqs (fun d => Deep n d = true) (fun v v' d hd i j => ih d hd A.in1 v v' (by rw [Around.in1_units]; omega) i j) (fun d hm => List.all_eq_true.mp hd d hm) h3 k3)
        rw [List.all_eq_true.mpr (fun _ _ => rfl)] at this
        exact this

section
variable {C : Cx} {Γ : Vars}
theorem CxOk.room (k : CxOk C) {n : Nat} (hn : n ≤ 100) : C.A.units + n < cLine := by
  have := k.units; have := k.lv; unfold cLine; omega
theorem CxOk.deep (k : CxOk C) : C.A.depth < recursionLimit := by
  have := k.depth; have := k.lv; show C.A.depth < 1000; omega

theorem Bop.eqT {ds : List D} (hd : Deep 8 (.tup ds) = true) : Bop C (compareOp .Eq) (.tup ds) (.tup ds) (.bool true) := fun X Γ s va vb F a b => by
  obtain ⟨_, _, rfl, h1, h2, h3⟩ := a.tupI; obtain ⟨_, _, rfl, k1, k2, k3⟩ := b.tupI
  refine eq_tupleAt h1 k1 (by have := F.ok.room (n := 10) (by omega); omega) (e := fun _ => true) (Are.eqs (fun d => Deep 7 d = true) (fun v v' d hd i j => eqAt_same 7 d hd C.A.in1 v v' (by rw [Around.in1_units]; have := F.ok.room (n := 10) (by omega); omega) i j) (fun d hm => List.all_eq_true.mp hd d hm) h3 k3) ?_
  rw [List.size_toArray, List.size_toArray, h3.length, k3.length, beq_self_eq_true, Bool.and_true, List.all_eq_true.mpr (fun _ _ => rfl)]
  exact Post.same (k := s.toks) F .bool
theorem Bop.neL {ds : List D} (hd : Deep 8 (.lst ds) = true) : Bop C (compareOp .NotEq) (.lst ds) (.lst ds) (.bool false) := fun X Γ s va vb F a b => by
  obtain ⟨_, _, rfl, h1, h2, h3⟩ := a.lstI; obtain ⟨_, _, rfl, k1, k2, k3⟩ := b.lstI
  have := RcNeAt.lists (A := C.A) (s := s) (e := fun _ => true) h1.isList k1.isList (by rw [List.size_toArray, List.size_toArray, h3.length, k3.length]) (by have := F.ok.room (n := 10) (by omega); omega) (Are.eqs (fun d => Deep 7 d = true) (fun v v' d hd i j => eqAt_same 7 d hd C.A.in1 v v' (by rw [Around.in1_units]; have := F.ok.room (n := 10) (by omega); omega) i j) (fun d hm => List.all_eq_true.mp hd d hm) h3 k3)
  rw [List.all_eq_true.mpr (fun _ _ => rfl)] at this
  exact this P C.w no _ (Post.same (k := s.toks) F .bool)
theorem Bop.eqLen {ds es : List D} (hn : ds.length ≠ es.length) : Bop C (compareOp .Eq) (.lst ds) (.lst es) (.bool false) := fun X Γ s va vb F a b => by
  obtain ⟨_, _, rfl, h1, h2, h3⟩ := a.lstI; obtain ⟨_, _, rfl, k1, k2, k3⟩ := b.lstI
  refine eq_list_lengthsAt h1.isList k1.isList ?_ (by have := F.ok.room (n := 10) (by omega); omega) (Post.same (k := s.toks) F .bool)
  rw [List.size_toArray, List.size_toArray, h3.length, k3.length]
  simpa using hn
theorem Bop.neS {x : Str} : Bop C (compareOp .NotEq) (.str x) (.str x) (.bool false) := fun X Γ s va vb F a b => by
  obtain ⟨t, rfl⟩ := a.strI; obtain ⟨u, rfl⟩ := b.strI
  have := RcNeAt.str_str (A := C.A) (s := s) x t x u
  rw [beq_self_eq_true] at this
  exact this P C.w no _ (Post.same (k := s.toks) F .bool)

theorem Are.ints_any {h : Heap} {X : List Addr} {k : Int} {ns : List Int} {vs : List Value} (x : Are h X vs (ns.map .int)) : vs.any (fun y => match y with | .int i _ => i == k | _ => false) = ns.contains k ∧ ∀ y ∈ vs, ∃ i t, y = .int i t := by
  induction ns generalizing vs with
  | nil => rw [Are.nilI x]; exact ⟨rfl, fun _ h => nomatch h⟩
  | cons n ns ih =>
    obtain ⟨v, vs', rfl, i, r⟩ := Are.consI x
    obtain ⟨t, rfl⟩ := i.intI
    obtain ⟨a, b⟩ := ih r
    refine ⟨?_, fun y hy => ?_⟩
    · rw [List.any_cons, a, List.contains_cons, BEq.comm]
    · rcases List.mem_cons.mp hy with q | q
      · exact ⟨_, _, q⟩
      · exact b y q
theorem Bop.notInT {ns : List Int} {k : Int} : Bop C (compareOp .NotIn) (.int k) (.tup (ns.map .int)) (.bool (!ns.contains k)) := fun X Γ s va vb F a b => by
  obtain ⟨_, rfl⟩ := a.intI; obtain ⟨_, _, rfl, k1, k2, k3⟩ := b.tupI
  obtain ⟨e1, e2⟩ := k3.ints_any (k := k)
  refine notIn_tupleAt (fun y => match y with | .int i _ => i == k | _ => false) k1 (fun y hy => ?_) ?_
  · obtain ⟨i, t, rfl⟩ := e2 y (by simpa using hy)
    exact EqAt.int_int _ _ _ _
  · rw [show ∀ (l : List Value) (f : Value → Bool), l.toArray.any f = l.any f from fun l f => by simp, e1]
    exact Post.same (k := s.toks) F .bool

-- names of the top
theorem Ev.nameB {x : Str} {pos : Pos} {X : List Addr} {s : Shared} {v : Value} {Q : Value → Shared → Prop} (F : FS C X Γ s) (hx : x ∈ blts) (hb : bootBuiltins x = some v) (hk : C.env.kindOf x = some .globalImplicit) (h : Q v s)
    (hn : x ≠ "__name__" := by decide) (hd : (x == ("__debug__" : Str)) = false := by decide) : wpAny C.M C.A (eval (.Name x pos) C.env) Q no s :=
  Name_function_global F.ok.kind hk (loadGlobal_builtin (mg := C.mg) (mb := C.mb) (by rw [F.ok.glob]; exact F.G.g) (F.G.miss x hx) (by rw [F.ok.blt]; exact F.G.b) ((F.G.bi x hn).trans hb) h) hd
theorem Ev.nameG {x : Str} {pos : Pos} {X : List Addr} {s : Shared} {v : Value} {Q : Value → Shared → Prop} (F : FS C X Γ s) (hx : C.mg x = some v) (hk : C.env.kindOf x = some .globalImplicit) (h : Q v s)
    (hd : (x == ("__debug__" : Str)) = false := by decide) : wpAny C.M C.A (eval (.Name x pos) C.env) Q no s :=
  Name_function_global F.ok.kind hk (loadGlobal_global (mg := C.mg) (by rw [F.ok.glob]; exact F.G.g) hx h) hd
theorem Ev.gint {x : Str} {pos : Pos} {i : Int} (hx : CxOk C → ∃ t, C.mg x = some (.int i t)) (hk : C.env.kindOf x = some .globalImplicit) (hd : (x == ("__debug__" : Str)) = false := by decide) : Ev C Γ (.Name x pos) (.int i) := fun X s F => by
  obtain ⟨t, e⟩ := hx F.ok
  exact Ev.nameG F e hk (Post.same (k := s.toks) F .int) hd

-- calls of built-in functions of one argument
theorem Ev.blt1 {x : Str} {np pos : Pos} {e : Expr} {id : String} {a d : D} (hx : x ∈ blts) (hb : bootBuiltins x = some (.builtin id)) (hk : C.env.kindOf x = some .globalImplicit) (h : Ev C Γ e a) (ho : Uop C (fun v => call (.builtin id) [v]) a d)
    (he : eval (.Call (.Name x np) [e] [] pos) C.env = (do callWith pos (← eval (.Name x np) C.env) [] (backTo pos (starEach [e] C.env)) (backToKw pos (keywordEach [] C.env))) := by rfl)
    (hst : starEach [e] C.env = [(false, eval e C.env)] := by rfl)
    (hn : x ≠ "__name__" := by decide) (hd : (x == ("__debug__" : Str)) = false := by decide) : Ev C Γ (.Call (.Name x np) [e] [] pos) d := fun X s F => by
  refine Call_ (Ev.nameB F hx hb hk ?_ hn hd) he
  refine PyProof.Rows.callWith_builtin1 ?_ (by rw [hst]; rfl) rfl
  refine wpAny_items_cons (wpAny_mono (h X s F) (fun v s₁ p => wpAny_items_nil ?_) fun _ _ x => x) (by rw [hst]; rfl)
  exact wpAny_mono (ho X Γ s₁ v p.1 p.2.1) (fun _ _ z => z.after p.2.2) fun _ _ x => x
theorem Ev.lenL {np pos : Pos} {e : Expr} {ds : List D} (hk : C.env.kindOf "len" = some .globalImplicit) (h : EvL C Γ e ds) (hn : ds.length ≤ 1000000)
    (he : eval (.Call (.Name "len" np) [e] [] pos) C.env = (do callWith pos (← eval (.Name "len" np) C.env) [] (backTo pos (starEach [e] C.env)) (backToKw pos (keywordEach [] C.env))) := by rfl)
    (hst : starEach [e] C.env = [(false, eval e C.env)] := by rfl) : Ev C Γ (.Call (.Name "len" np) [e] [] pos) (.int ds.length) := fun X s F => by
  refine Call_ (Ev.nameB F (by decide) (v := .builtin "len") (by rfl) hk ?_) he
  refine PyProof.Rows.callWith_builtin1 ?_ (by rw [hst]; rfl) rfl
  refine wpAny_items_cons (wpAny_mono (h X s F) (fun v s₁ p => wpAny_items_nil ?_) fun _ _ x => x) (by rw [hst]; rfl)
  obtain ⟨F₁, ⟨a, vs, rfl, hla, hvs, haL⟩, x₁⟩ := p
  have hlen := hvs.length
  refine call_len_list hla.isList (by rw [List.size_toArray]; omega) ?_
  rw [List.size_toArray, hlen]
  exact Post.after x₁ (Post.same F₁ .int)
theorem Uop.len {x : Str} (hn : x.length ≤ 1000000) : Uop C (fun v => call (.builtin "len") [v]) (.str x) (.int x.length) := fun X Γ s va F a => by
  obtain ⟨_, rfl⟩ := a.strI; exact PySem.P.len_str (by omega) (Post.same F .int)
theorem Uop.ord {c : Nat} : Uop C (fun v => call (.builtin "ord") [v]) (.str ⟨#[c]⟩) (.int c) := fun X Γ s va F a => by
  obtain ⟨_, rfl⟩ := a.strI; exact PySem.P.ord_of_char (Post.same F .int)
theorem Uop.chr {i : Int} (h0 : 0 ≤ i) (h1 : i ≤ 1114111) : Uop C (fun v => call (.builtin "chr") [v]) (.int i) (.str ⟨#[i.toNat]⟩) := fun X Γ s va F a => by
  obtain ⟨_, rfl⟩ := a.intI
  refine PySem.P.chr_of_int ?_ (Post.same F .str)
  simp only [Bool.or_eq_false_iff, decide_eq_false_iff_not]; omega

/-- what a def of the text gives back -/
def Fn (i N : Nat) (args : List D) (d : D) : Prop :=
  ∀ n ar b sc, fnAt i = some (n, ar, b, sc) → ∀ (w : World) (A : Around) (mg mb : Str → Option Value) (X₀ : List Addr) (s : Shared) (f : Addr) (vs : List Value) (lv : Nat),
    GOk w mg mb s.heap → FnAt s.heap f n ar b sc → A.handled = none → A.depth ≤ 400 + lv → A.units ≤ 1000 + 20 * lv → lv ≤ N → (∀ a ∈ X₀, ∃ o, s.heap.get? a = some o) → Are s.heap X₀ vs args →
    wpAny (model P w) A (call (.ref f) vs) (fun v s' => Is s'.heap X₀ v d ∧ Ext [] s s') no s

theorem Ev.fn {i N : Nat} {n : Str} {ar : Arguments} {b : List Stmt} {sc : Scope} {np pos : Pos} {e : Expr} {es : List Expr} {args : List D} {d : D} (hf : fnAt i = some (n, ar, b, sc)) (hF : Fn i N args d) (hN : C.lv ≤ N) (hk : C.env.kindOf n = some .globalImplicit) (h : Evs C Γ (e :: es) args)
    (he : eval (.Call (.Name n np) (e :: es) [] pos) C.env = (do callWith pos (← eval (.Name n np) C.env) [] (backTo pos (starEach (e :: es) C.env)) (backToKw pos (keywordEach [] C.env))) := by rfl)
    (hst : starEach (e :: es) C.env = (false, eval e C.env) :: starEach es C.env := by rfl) (hd : (n == ("__debug__" : Str)) = false := by decide) : Ev C Γ (.Call (.Name n np) (e :: es) [] pos) d := fun X s F => by
  obtain ⟨f, hm, hfa⟩ := F.G.fn i n ar b sc hf
  have hfa' := hfa
  obtain ⟨o, pm, cd, doc, ho, hdat, hcd⟩ := hfa'
  refine Call_ (Ev.nameG F hm hk ?_ hd) he
  refine callWith_def hdat (wpAny_mono (h X s pos F) (fun vs s₁ p => ?_) fun _ _ x => x) hst
  obtain ⟨F₁, iv, x₁⟩ := p
  have hfL : f ≠ C.L := fun q => by
    obtain ⟨m, Fr, _⟩ := F.ex
    obtain ⟨o', es, ep, e1, e2, _⟩ := Fr.ns
    rw [q, e1] at ho; cases ho; rw [e2] at hdat; cases hdat
  obtain ⟨f', hm', hfa₁⟩ := F₁.G.fn i n ar b sc hf
  rw [hm] at hm'; cases hm'
  refine ⟨x₁.keep hfL ho, wpAny_mono (hF n ar b sc hf C.w C.A C.mg C.mb (C.av X) s₁ f vs C.lv F₁.G hfa₁ F.ok.hand F.ok.depth F.ok.units hN F₁.live iv) (fun v s₂ q => ?_) fun _ _ x => x⟩
  have hk₂ : ∀ b o, s₁.heap.get? b = some o → s₂.heap.get? b = some o := fun b o e => q.2.keep b o (fun h => nomatch h) e
  exact ⟨F₁.keeps hk₂, q.1, x₁.trans' ⟨q.2.more (fun _ h => nomatch h), fun m hm => hm.keeps hk₂⟩⟩
end
end Mine

-- V7
namespace Mine
open PySem PySem.W PySem.Calls PyProof.Rows PySem.SeqAt

section
variable {C : Cx} {Γ : Vars}

theorem Bd.off {X W : List Addr} {h h' : Heap} {m : Str → Option Value} {x : Str} {b : B} (hW : ∀ a ∈ W, a ∈ C.X₀) (ho : ∀ a ∈ X, a ∉ C.X₀) (hk : ∀ b o, b ∉ W → h.get? b = some o → h'.get? b = some o) (B : Bd C X h m x b) : Bd C X h' m x b := by
  have hI : ∀ {v d}, Is h (C.av X) v d → Is h' (C.av X) v d := fun i => i.mono fun c o hc e => ⟨hk c o (fun q => hc (List.mem_append_right _ (hW c q))) e, hc⟩
  have hA : ∀ {v d}, Are h (C.av X) v d → Are h' (C.av X) v d := fun i => i.mono fun c o hc e => ⟨hk c o (fun q => hc (List.mem_append_right _ (hW c q))) e, hc⟩
  cases b with
  | val d => obtain ⟨v, a, i⟩ := B; exact ⟨v, a, hI i⟩
  | own ds => obtain ⟨a, vs, e, ha, ⟨n, ho'⟩, hv⟩ := B; exact ⟨a, vs, e, ha, ⟨n, hk _ _ (fun q => ho a ha (hW a q)) ho'⟩, hA hv⟩
  | cell d => obtain ⟨c, v, e, ⟨o, ho', hd⟩, i, hc⟩ := B; exact ⟨c, v, e, ⟨o, hk _ _ (fun q => hc.1 (hW c q)) ho', hd⟩, hI i, hc⟩
  | cell0 => obtain ⟨c, e, ⟨o, ho', hd⟩, i⟩ := B; exact ⟨c, e, ⟨o, hk _ _ (fun q => ho c i (hW c q)) ho', hd⟩, i⟩
  | any => trivial
  | raw w => exact B
theorem Ns.off {h h' : Heap} {L : Addr} {m : Str → Option Value} {W : List Addr} (hn : h.Ns L m) (hL : L ∉ W) (hk : ∀ b o, b ∉ W → h.get? b = some o → h'.get? b = some o) : h'.Ns L m :=
  let ⟨o, es, ep, e, r⟩ := hn; ⟨o, es, ep, hk _ _ hL e, r⟩
theorem FS.off' {X W : List Addr} {s s' : Shared} (F : FS C X Γ s) (hW : ∀ a ∈ W, a ∈ C.X₀) (h₀ : ∀ a ∈ W, C.h₀.get? a = none) (hk : ∀ b o, b ∉ W → s.heap.get? b = some o → s'.heap.get? b = some o) (hl : ∀ a ∈ W, ∃ o, s'.heap.get? a = some o) : FS C X Γ s' := by
  obtain ⟨m, Fr, hb, ap⟩ := F.ex
  refine ⟨F.ok, ⟨m, ⟨Ns.off Fr.ns (fun q => F.off _ F.hL (hW _ q)) hk, fun b o e => hk b o (fun q => by rw [h₀ b q] at e; cases e) (Fr.keep b o e), Fr.above⟩, fun x b e => (hb x b e).off hW F.off hk, ap⟩, F.hL, fun a ha => ?_, F.new, F.off⟩
  by_cases q : a ∈ W
  · exact hl a q
  · obtain ⟨o, e⟩ := F.live a ha; exact ⟨o, hk a o q e⟩
/-- the iterator's own objects are gone -/
theorem FS.offU {X W : List Addr} {s s' : Shared} (F : FS (C.plus W) X Γ s) (hx : ∀ a ∈ W, a ∉ C.X₀) (h₀ : ∀ a ∈ W, C.h₀.get? a = none) (hk : ∀ b o, b ∉ W → s.heap.get? b = some o → s'.heap.get? b = some o) : FS C X Γ s' := by
  have F₁ := F.unplus
  obtain ⟨m, Fr, hb, ap⟩ := F.ex
  have hW : ∀ a ∈ W, a ∈ (C.plus W).X₀ := fun a ha => List.mem_append_left _ ha
  have hQ : ∀ c o, c ∉ (C.plus W).av X → s'.heap.get? c = some o → s'.heap.get? c = some o ∧ c ∉ C.av X := fun c o hc e => ⟨e, fun hm => hc (by
    rcases List.mem_append.mp hm with q | q
    · exact List.mem_append_left _ q
    · exact List.mem_append_right _ (List.mem_append_right _ q))⟩
  refine ⟨F₁.ok, ⟨m, ⟨Ns.off Fr.ns (fun q => F.off _ F.hL (hW _ q)) hk, fun b o e => hk b o (fun q => by rw [h₀ b q] at e; cases e) (Fr.keep b o e), Fr.above⟩, fun x b e => ?_, ap⟩, F.hL, fun a ha => ?_, F.new, F₁.off⟩
  · have B := (hb x b e).off hW F.off hk
    cases b with
    | val d => obtain ⟨v, a, i⟩ := B; exact ⟨v, a, i.mono hQ⟩
    | own ds => obtain ⟨a, vs, e, ha, l, hv⟩ := B; exact ⟨a, vs, e, ha, l, hv.mono hQ⟩
    | cell d => obtain ⟨c, v, e, l, i, hc⟩ := B; exact ⟨c, v, e, l, i.mono hQ, fun q => hc.1 (List.mem_append_right _ q), hc.2⟩
    | cell0 => exact B
    | any => trivial
    | raw w => exact B
  · obtain ⟨o, e⟩ := F₁.live a ha
    refine ⟨o, hk a o (fun q => ?_) e⟩
    rcases List.mem_append.mp ha with q' | q'
    · exact F.off a q' (hW a q)
    · exact hx a q q'

theorem reMem {C : Cx} {X Z : List Addr} (h : ∀ a, a ∈ Z ↔ a ∈ C.X₀) (c : Addr) : c ∈ ({ C with X₀ := Z } : Cx).av X ↔ c ∈ C.av X := by
  show c ∈ X ++ Z ↔ c ∈ X ++ C.X₀
  rw [List.mem_append, List.mem_append, h]
/-- the frames below named otherwise -/
abbrev Cx.re (C : Cx) (Z : List Addr) : Cx := { C with X₀ := Z }
theorem FS.reX {X Z : List Addr} {s : Shared} (F : FS C X Γ s) (h : ∀ a, a ∈ Z ↔ a ∈ C.X₀) : FS (C.re Z) X Γ s := by
  obtain ⟨m, Fr, hb, ap⟩ := F.ex
  have hav : ∀ c, c ∈ (C.re Z).av X ↔ c ∈ C.av X := reMem h
  have hQ : ∀ c o, c ∉ C.av X → s.heap.get? c = some o → s.heap.get? c = some o ∧ c ∉ (C.re Z).av X := fun c o hc e => ⟨e, fun q => hc ((hav c).mp q)⟩
  refine ⟨⟨F.ok.kind, F.ok.glob, F.ok.blt, F.ok.hand, F.ok.depth, F.ok.units, F.ok.lv, F.ok.G⟩, ⟨m, Fr, fun x b e => ?_, ap⟩, F.hL, fun a ha => F.live a ((hav a).mp ha), F.new, fun a ha q => F.off a ha ((h a).mp q)⟩
  have B := hb x b e
  cases b with
  | val d => obtain ⟨v, a, i⟩ := B; exact ⟨v, a, i.mono hQ⟩
  | own ds => obtain ⟨a, vs, e, ha, l, r⟩ := B; exact ⟨a, vs, e, ha, l, r.mono hQ⟩
  | cell d => obtain ⟨c, v, e, l, i, hc⟩ := B; exact ⟨c, v, e, l, i.mono hQ, fun q => hc.1 ((h c).mp q), hc.2⟩
  | cell0 => exact B
  | any => trivial
  | raw w => exact B

/-- objects that are no list, tuple, cell or table of names -/
def Loose (h : Heap) (V : List Addr) : Prop := ∀ a ∈ V, ∃ o vs, h.get? a = some o ∧ o.data = .fields vs
theorem Is.loose {h : Heap} {X V : List Addr} (hV : Loose h V) {v : Value} {d : D} (x : Is h X v d) : Is h (V ++ X) v d :=
  x.map (fun a vs e hx => ⟨e, fun q => by
      obtain ⟨o, e, c⟩ := e
      rcases List.mem_append.mp q with q | q
      · obtain ⟨o', vs, e', d'⟩ := hV _ q; rw [e] at e'; cases e'; obtain ⟨_, _, c⟩ := c; rw [d'] at c; cases c
      · exact hx q⟩) (fun a vs e hx => ⟨e, fun q => by
      obtain ⟨n, e⟩ := e
      rcases List.mem_append.mp q with q | q
      · obtain ⟨o', vs, e', d'⟩ := hV _ q; rw [e] at e'; cases e'; cases d'
      · exact hx q⟩)
theorem Are.loose {h : Heap} {X V : List Addr} (hV : Loose h V) {vs : List Value} {ds : List D} (x : Are h X vs ds) : Are h (V ++ X) vs ds := x.map (Is.loose hV)
theorem FS.plusV {X V : List Addr} {s : Shared} (F : FS C X Γ s) (hV : Loose s.heap V) (hX : ∀ a ∈ V, a ∉ X) : FS (C.plus V) X Γ s := by
  obtain ⟨m, Fr, hb, ap⟩ := F.ex
  have sw : ∀ c, c ∉ V ++ C.av X → c ∉ (C.plus V).av X := fun c h q => h (by
    rcases List.mem_append.mp q with q | q
    · exact List.mem_append_right _ (List.mem_append_left _ q)
    · rcases List.mem_append.mp q with q | q
      · exact List.mem_append_left _ q
      · exact List.mem_append_right _ (List.mem_append_right _ q))
  have hI : ∀ {v d}, Is s.heap (C.av X) v d → Is s.heap ((C.plus V).av X) v d := fun i => (i.loose hV).mono fun c o hc e => ⟨e, sw c hc⟩
  have hA : ∀ {v d}, Are s.heap (C.av X) v d → Are s.heap ((C.plus V).av X) v d := fun i => (i.loose hV).mono fun c o hc e => ⟨e, sw c hc⟩
  refine ⟨F.ok.plus, ⟨m, Fr, fun x b e => ?_, ap⟩, F.hL, fun a ha => ?_, F.new, fun a ha q => ?_⟩
  · have B := hb x b e
    cases b with
    | val d => obtain ⟨v, a, i⟩ := B; exact ⟨v, a, hI i⟩
    | own ds => obtain ⟨a, vs, e, ha, l, r⟩ := B; exact ⟨a, vs, e, ha, l, hA r⟩
    | cell d =>
      obtain ⟨c, v, e, l, i, hc⟩ := B
      refine ⟨c, v, e, l, hI i, fun q => ?_, hc.2⟩
      rcases List.mem_append.mp q with q | q
      · obtain ⟨o', vs, e', d'⟩ := hV _ q; obtain ⟨o, e, d⟩ := l; rw [e] at e'; cases e'; rw [d] at d'; cases d'
      · exact hc.1 q
    | cell0 => exact B
    | any => trivial
    | raw w => exact B
  · rcases List.mem_append.mp ha with q | q
    · exact F.live a (List.mem_append_left _ q)
    · rcases List.mem_append.mp q with q | q
      · obtain ⟨o, _, e, _⟩ := hV a q; exact ⟨o, e⟩
      · exact F.live a (List.mem_append_right _ q)
  · rcases List.mem_append.mp q with q | q
    · exact hX a q ha
    · exact F.off a ha q
theorem FS.offUV {X W V : List Addr} {s s' : Shared} (F : FS (C.plus W) X Γ s) (hx : ∀ a ∈ W, a ∉ C.X₀) (h₀ : ∀ a ∈ W, C.h₀.get? a = none) (hk : ∀ b o, b ∉ W ++ V → s.heap.get? b = some o → s'.heap.get? b = some o)
    (hV : ∀ a ∈ V, a ∉ (C.plus W).av X) (hl : Loose s.heap V) (hV₀ : ∀ a ∈ V, C.h₀.get? a = none) : FS C X Γ s' := by
  have F₁ : FS (C.plus (W ++ V)) X Γ s := (F.plusV hl fun a ha q => hV a ha (List.mem_append_left _ q)).reX (Z := (W ++ V) ++ C.X₀) fun a => by
    show a ∈ (W ++ V) ++ C.X₀ ↔ a ∈ V ++ (W ++ C.X₀)
    simp only [List.mem_append]; constructor
    · rintro ((h | h) | h) <;> simp [h]
    · rintro (h | h | h) <;> simp [h]
  refine F₁.offU (fun a ha => ?_) (fun a ha => ?_) hk
  · rcases List.mem_append.mp ha with q | q
    · exact hx a q
    · exact fun z => hV a q (List.mem_append_right _ (List.mem_append_right _ z))
  · rcases List.mem_append.mp ha with q | q
    · exact h₀ a q
    · exact hV₀ a q

/-- what stood at the loop's start, off Y and off the iterator's own, stands, and is not to be turned -/
def Kp (C : Cx) (X W Y : List Addr) (h₂ : Heap) (s : Shared) : Prop := ∀ b o, b ∉ W → b ∉ Y → h₂.get? b = some o → s.heap.get? b = some o ∧ b ∉ C.av X

/-- an iterator that gives ds, one after the other -/
structure Iter (w : World) (tgt : Expr) (it : Value) (W : List Addr) (J : List Nat) (Y : List Addr) (h₂ : Heap) (ds : List D) (St : Nat → Shared → Prop) : Prop where
  item : ∀ (C : Cx) k d X Γ s, C.w = w → ds[k]? = some d → St k s → FS C X Γ s → (∀ a ∈ W, a ∈ C.X₀ ∧ C.h₀.get? a = none) → Kp C X W Y h₂ s →
    wpAny C.M C.A (pyNext it) (fun r s₁ => ∃ v, r = some v ∧ wpAny C.M C.A (letOwnedTupleGo tgt it v) (fun _ s₂ => FS C X Γ s₂ ∧ Is s₂.heap (C.av X) v d ∧ St (k + 1) s₂ ∧ ExtJ W J s s₂) no s₁) no s
  done : ∀ (C : Cx) X Γ s, C.w = w → St ds.length s → FS C X Γ s → Kp C X W Y h₂ s → wpAny C.M C.A (pyNext it) (fun r s₁ => r = none ∧ ExtJ W J s s₁) no s
  stay : ∀ (C C' : Cx) X X' k s s', St k s → Kp C X W Y h₂ s → Kp C' X' W Y h₂ s' → (∀ b o, b ∈ W → s.heap.get? b = some o → s'.heap.get? b = some o) → (∀ (i : Nat) (g : GenState), s.gens[i]? = some g → s'.gens[i]? = some g) → St k s'
  self : ∀ (C : Cx) X Γ k s, C.w = w → St k s → FS C X Γ s → Kp C X W Y h₂ s → wpAny C.M C.A (pyIter it) (fun v s' => v = it ∧ s' = s) no s

/-- the same around -/
def Same (C C₀ : Cx) : Prop := C.w = C₀.w ∧ C.A = C₀.A ∧ C.h₀ = C₀.h₀ ∧ C.mg = C₀.mg ∧ C.mb = C₀.mb
/-- the same, where the iterator may lay more objects of its own as it goes: V -/
structure IterV (C₀ : Cx) (tgt : Expr) (it : Value) (W : List Addr) (J : List Nat) (Y : List Addr) (h₂ : Heap) (ds : List D) (St : Nat → List Addr → Shared → Prop) : Prop where
  item : ∀ (C : Cx) k V d X Γ s, Same C C₀ → ds[k]? = some d → St k V s → FS C X Γ s → (∀ a ∈ W, a ∈ C.X₀ ∧ C.h₀.get? a = none) → Kp C X W Y h₂ s → (∀ a ∈ V, a ∉ C.av X) →
    wpAny C.M C.A (pyNext it) (fun r s₁ => ∃ v, r = some v ∧ wpAny C.M C.A (letOwnedTupleGo tgt it v) (fun _ s₂ => FS C X Γ s₂ ∧ Is s₂.heap (C.av X) v d ∧ (∃ V', St (k + 1) V' s₂ ∧ ∀ a ∈ V', a ∈ V ∨ s.heap.get? a = none) ∧ ExtJ (W ++ V) J s s₂) no s₁) no s
  done : ∀ (C : Cx) V X Γ s, Same C C₀ → St ds.length V s → FS C X Γ s → (∀ a ∈ W, a ∈ C.X₀ ∧ C.h₀.get? a = none) → Kp C X W Y h₂ s → (∀ a ∈ V, a ∉ C.av X) → wpAny C.M C.A (pyNext it) (fun r s₁ => r = none ∧ ExtJ (W ++ V) J s s₁) no s
  stay : ∀ (C C' : Cx) X X' k V s s', St k V s → Kp C X W Y h₂ s → Kp C' X' W Y h₂ s' → (∀ b o, b ∈ W ∨ b ∈ V → s.heap.get? b = some o → s'.heap.get? b = some o) → (∀ (i : Nat) (g : GenState), s.gens[i]? = some g → s'.gens[i]? = some g) → St k V s'
  self : ∀ (C : Cx) X Γ k V s, Same C C₀ → St k V s → FS C X Γ s → Kp C X W Y h₂ s → wpAny C.M C.A (pyIter it) (fun v s' => v = it ∧ s' = s) no s
  loose : ∀ k V s, St k V s → ∀ a ∈ V, ∃ o vs, s.heap.get? a = some o ∧ o.data = .fields vs
  new : ∀ k V s, St k V s → ∀ a ∈ V, h₂.get? a = none
theorem Iter.toV {C₀ : Cx} {tgt : Expr} {it : Value} {W : List Addr} {J : List Nat} {Y : List Addr} {h₂ : Heap} {ds : List D} {St : Nat → Shared → Prop} (I : Iter C₀.w tgt it W J Y h₂ ds St) : IterV C₀ tgt it W J Y h₂ ds (fun k V s => V = [] ∧ St k s) where
  item := fun C k V d X Γ s hw hd st F hW hK hV => by
    obtain ⟨rfl, st⟩ := st
    refine wpAny_mono (I.item C k d X Γ s hw.1 hd st F hW hK) (fun r s₁ h => ?_) fun _ _ x => x
    obtain ⟨v, rfl, h⟩ := h
    refine ⟨v, rfl, wpAny_mono h (fun _ s₂ h => ?_) fun _ _ x => x⟩
    obtain ⟨a, b, c, d⟩ := h
    exact ⟨a, b, ⟨[], ⟨rfl, c⟩, fun _ h => nomatch h⟩, by rw [List.append_nil]; exact d⟩
  done := fun C V X Γ s hw st F _ hK _ => by
    obtain ⟨rfl, st⟩ := st
    rw [List.append_nil]
    exact I.done C X Γ s hw.1 st F hK
  stay := fun C C' X X' k V s s' st a b c d => ⟨st.1, I.stay C C' X X' k s s' st.2 a b (fun b o hb e => c b o (.inl hb) e) d⟩
  self := fun C X Γ k V s hw st F hK => I.self C X Γ k s hw.1 st.2 F hK
  loose := fun k V s st a ha => by rw [st.1] at ha; cases ha
  new := fun k V s st a ha => by rw [st.1] at ha; cases ha

/-- an expression whose iterator gives ds -/
def EvIt (C : Cx) (Γ : Vars) (tgt e : Expr) (ds : List D) : Prop :=
  ∀ X s, FS C X Γ s → wpAny C.M C.A (eval e C.env) (fun x s₁ => wpAny C.M C.A (pyIter x) (fun it s₂ => ∃ W J St, IterV C tgt it W J (C.av X) s₂.heap ds St ∧ St 0 [] s₂ ∧ FS (C.plus W) X Γ s₂ ∧ (∀ a ∈ W, s.heap.get? a = none) ∧ (∀ i ∈ J, s.gens.size ≤ i) ∧ ExtJ [C.L] J s s₂ ∧ ∀ m, s.heap.Ns C.L m → s₂.heap.Ns C.L m) no s₁) no s

/-- an assignment to a target -/
def As (C : Cx) (Γ : Vars) (tgt : Expr) (d : D) (Γ' : Vars) : Prop :=
  ∀ X s v, FS C X Γ s → Is s.heap (C.av X) v d → wpAny C.M C.A (assign tgt C.env v) (fun _ s' => FS C X Γ' s' ∧ Ext [C.L] s s') no s
theorem As.name {x : Str} {pos : Pos} {d : D} (hl : C.env.kindOf x = some .local) : As C Γ (.Name x pos) d ((x, .val d) :: Γ) := fun X s v F i => wpAny_assign_Name (F.store i hl)

theorem notedBy_no {M : Model} {A : Around} {env : Env} {E : Value → Shared → Prop} {e : Value} {s : Shared} : no e s → notedBy M A env E e s := fun h => h.elim

theorem Ex.forGen {tgt iter : Expr} {body : List Stmt} {pos : Pos} {ds : List D} {m : Nat} (hi : EvIt C Γ tgt iter ds) (inv : Nat → Vars) (h0 : ∀ x b, (inv 0).lookup x = some b → b = .any ∨ Γ.lookup x = some b) (hm : m ≤ ds.length)
    (turn : ∀ W k d, ds[k]? = some d → k < m → ∃ Γ₁ o, As (C.plus W) (inv k) tgt d Γ₁ ∧ (o = .next (inv (k + 1)) ∨ o = .cont (inv (k + 1))) ∧ Exs (C.plus W) Γ₁ body o)
    {o : Out} (fin : (m = ds.length ∧ o = .next (inv m)) ∨ ∃ d r, ds[m]? = some d ∧ o = .ret r ∧ ∀ W, ∃ Γ₁, As (C.plus W) (inv m) tgt d Γ₁ ∧ Exs (C.plus W) Γ₁ body (.ret r))
    (hs : ∀ x, foldedSetIterable iter C.env x = pure x := by intro _; rfl) : Ex C Γ (.For tgt iter body [] pos) o := fun X s F => by
  refine wpAny_For (wpAny_mono (hi X s F) (fun x s₁ h => wpAny_mono h (fun it s₂ h => ?_) fun _ _ x => x.elim) fun _ _ x => x.elim) hs
  obtain ⟨W, J, St, IT, st, F₂, hWn, hJ, x₂, _⟩ := h
  have hW₀ : ∀ a ∈ W, C.h₀.get? a = none := fun a ha => by
    cases hz : C.h₀.get? a with
    | none => rfl
    | some o => obtain ⟨m, Fr, _⟩ := F.ex; have := Fr.keep a o hz; rw [hWn a ha] at this; cases this
  have hWX : ∀ a ∈ W, a ∉ C.av X := fun a ha hm => by obtain ⟨o, e⟩ := F.live a hm; rw [hWn a ha] at e; cases e
  have h₀none : ∀ a, s₂.heap.get? a = none → C.h₀.get? a = none := fun a ha => by
    cases hz : C.h₀.get? a with
    | none => rfl
    | some o => obtain ⟨m, Fr, _⟩ := F₂.ex; have := Fr.keep a o hz; rw [ha] at this; cases this
  let I : Nat → Shared → Prop := fun n s' => ∃ k X' V, n = m + 1 - k ∧ k ≤ m ∧ St k V s' ∧ FS (C.plus W) X' (inv k) s' ∧ ExtJ (W ++ X) J s₂ s' ∧ (∀ a ∈ X', a ∈ X ∨ s₂.heap.get? a = none) ∧ ∀ a ∈ V, a ∉ (C.plus W).av X'
  have endX : ∀ {s' : Shared}, ExtJ (W ++ X) J s₂ s' → Ext X s s' := fun x => by
    have x₁ : ExtJ X J s s₂ := x₂.more (fun a ha => (List.mem_singleton.mp ha) ▸ F.hL) (fun _ h => h) fun _ h => .inl h
    refine (x₁.trans x (fun a ha => ?_) fun _ h => h).drop hJ
    rcases List.mem_append.mp ha with q | q
    · exact .inr (hWn a q)
    · exact .inl q
  have gro : ∀ {X' : List Addr}, (∀ a ∈ X', a ∈ X ∨ s₂.heap.get? a = none) → ∀ a ∈ X', a ∈ X ∨ s.heap.get? a = none := fun h a ha => by
    rcases h a ha with q | q
    · exact .inl q
    · by_cases q' : a ∈ X
      · exact .inl q'
      · cases hz : s.heap.get? a with
        | none => exact .inr rfl
        | some o => rw [x₂.keep a o (fun h => q' ((List.mem_singleton.mp h) ▸ F.hL)) hz] at q; cases q
  have kp : ∀ {s' : Shared} {X' : List Addr}, ExtJ (W ++ X) J s₂ s' → (∀ a ∈ X', a ∈ X ∨ s₂.heap.get? a = none) → Kp (C.plus W) X' W (C.av X) s₂.heap s' := fun x g b o hb hx e => ⟨x.keep b o (fun h => by
      rcases List.mem_append.mp h with q | q
      · exact hb q
      · exact hx (List.mem_append_left _ q)) e, fun hm => by
    rcases List.mem_append.mp hm with q | q
    · rcases g b q with z | z
      · exact hx (List.mem_append_left _ z)
      · rw [z] at e; cases e
    · rcases List.mem_append.mp q with q | q
      · exact hb q
      · exact hx (List.mem_append_right _ q)⟩
  refine codeAny_forLoop_any I (fun n s' hI => ?_) (m + 1) ⟨0, X, [], rfl, Nat.zero_le _, st, F₂.weak h0, ⟨fun _ _ _ e => e, fun _ _ _ e => e, fun i g hi e => ?_, Nat.le_refl _, rfl⟩, fun _ h => .inl h, fun _ h => nomatch h⟩
  · obtain ⟨k, X', V, rfl, hk, st', F', x', g', hV⟩ := hI
    -- a turn
    have step : ∀ d, ds[k]? = some d → ∀ (Γ₁ : Vars) (o₁ : Out), As (C.plus W) (inv k) tgt d Γ₁ → Exs (C.plus W) Γ₁ body o₁ →
        (∀ X'' V'' s'' f, OutOk (C.plus W) X'' o₁ f s'' → St (k + 1) V'' s'' → ExtJ (W ++ X) J s₂ s'' → (∀ a ∈ X'', a ∈ X ∨ s₂.heap.get? a = none) → (∀ a ∈ V'', a ∉ (C.plus W).av X'') → (match f with
          | .next | .cont => ∃ n', n' < m + 1 - k ∧ I n' s''
          | .brk => Ends C X s o .next s''
          | .ret v => Ends C X s o (.ret v) s'')) →
        wpAny C.M C.A (pyNext it) (fun r s₁ => match r with
          | none => wpAny C.M C.A (execs [] C.env) (fun f s₃ => (match (Except.ok f : Result) with | .ok f => Ends C X s o f s₃ | .error e => cameBackBy C.M C.A C.env no e s₃)) (notedBy C.M C.A C.env fun e s' => (match (Except.error e : Result) with | .ok f => Ends C X s o f s' | .error e => cameBackBy C.M C.A C.env no e s')) s₁
          | some v => wpAny C.M C.A (letOwnedTupleGo tgt it v) (fun _ s₁' =>
              wpAny C.M C.A (PySem.assign tgt C.env v) (fun _ s₂ => wpAny C.M C.A (execs body C.env) (fun f s₃ => match f with
                | .next | .cont => ∃ m', m' < m + 1 - k ∧ I m' s₃
                | .brk => (match (Except.ok .next : Result) with | .ok f => Ends C X s o f s₃ | .error e => cameBackBy C.M C.A C.env no e s₃)
                | .ret v => (match (Except.ok (.ret v) : Result) with | .ok f => Ends C X s o f s₃ | .error e => cameBackBy C.M C.A C.env no e s₃)) (notedBy C.M C.A C.env fun e s' => (match (Except.error e : Result) with | .ok f => Ends C X s o f s' | .error e => cameBackBy C.M C.A C.env no e s')) s₂) (notedBy C.M C.A C.env fun e s' => (match (Except.error e : Result) with | .ok f => Ends C X s o f s' | .error e => cameBackBy C.M C.A C.env no e s')) s₁') (notedBy C.M C.A C.env fun e s' => (match (Except.error e : Result) with | .ok f => Ends C X s o f s' | .error e => cameBackBy C.M C.A C.env no e s')) s₁) (notedBy C.M C.A C.env fun e s' => (match (Except.error e : Result) with | .ok f => Ends C X s o f s' | .error e => cameBackBy C.M C.A C.env no e s')) s' := by
      intro d hd Γ₁ o₁ hAs hB done'
      refine wpAny_mono (IT.item (C.plus W) k V d X' (inv k) s' ⟨rfl, rfl, rfl, rfl, rfl⟩ hd st' F' (fun a ha => ⟨List.mem_append_left _ ha, hW₀ a ha⟩) (kp x' g') hV) (fun r s₃ h => ?_) fun _ _ x => x.elim
      obtain ⟨v, rfl, h⟩ := h
      refine wpAny_mono h (fun _ s₄ h => ?_) fun _ _ x => x.elim
      obtain ⟨F₄, i₄, ⟨V', st₄, hV'⟩, x₄⟩ := h
      have hVx : ∀ a ∈ V', a ∉ (C.plus W).av X' := fun a ha hm => by
        rcases hV' a ha with q | q
        · exact hV a q hm
        · obtain ⟨o, e⟩ := F'.live a hm; rw [q] at e; cases e
      refine wpAny_mono (hAs X' s₄ v F₄ i₄) (fun _ s₅ h => ?_) fun _ _ x => x.elim
      obtain ⟨F₅, x₅⟩ := h
      refine wpAny_mono (hB X' s₅ F₅) (fun f s₆ h => ?_) fun _ _ x => x.elim
      obtain ⟨X'', ok, x₆, g₆⟩ := h
      have hgrow : ∀ {Y : List Addr}, (∀ a ∈ Y, a ∈ X') → ∀ a ∈ Y, a ∈ W ++ X ∨ s₂.heap.get? a = none := fun hY a ha => (g' a (hY a ha)).imp (fun q => List.mem_append_right _ q) id
      have y₄ : ExtJ (W ++ X) J s₂ s₄ := x'.trans x₄ (fun a ha => by
        rcases List.mem_append.mp ha with q | q
        · exact .inl (List.mem_append_left _ q)
        · exact .inr (IT.new _ _ _ st' a q)) fun _ h => h
      have y₅ : ExtJ (W ++ X) J s₂ s₅ := y₄.trans x₅ (hgrow fun a ha => (List.mem_singleton.mp ha) ▸ F₄.hL) fun _ h => nomatch h
      have y₆ : ExtJ (W ++ X) J s₂ s₆ := y₅.trans x₆ (hgrow fun a ha => ha) fun _ h => nomatch h
      have hWX' : ∀ b ∈ W, b ∉ X' := fun b hb hm => F'.off b hm (List.mem_append_left _ hb)
      have hWV : ∀ b, b ∈ W ∨ b ∈ V' → b ∉ X' := fun b hb => hb.elim (hWX' b) fun q q' => hVx b q (List.mem_append_left _ q')
      have stay₅ : St (k + 1) V' s₅ := IT.stay (C.plus W) (C.plus W) X' X' (k + 1) V' s₄ s₅ st₄ (kp y₄ g') (kp y₅ g') (fun b o hb e => x₅.keep b o (fun q => hWV b hb ((List.mem_singleton.mp q) ▸ F₄.hL)) e) fun i g e => x₅.gens i g (fun h => nomatch h) e
      have stay₆ : St (k + 1) V' s₆ := IT.stay (C.plus W) (C.plus W) X' X' (k + 1) V' s₅ s₆ stay₅ (kp y₅ g') (kp y₆ g') (fun b o hb e => x₆.keep b o (hWV b hb) e) fun i g e => x₆.gens i g (fun h => nomatch h) e
      have hg₆ : ∀ a ∈ X'', a ∈ X ∨ s₂.heap.get? a = none := fun a ha => by
        rcases g₆ a ha with q | q
        · exact g' a q
        · by_cases q' : a ∈ X
          · exact .inl q'
          · cases hz : s₂.heap.get? a with
            | none => exact .inr rfl
            | some ob =>
              by_cases hw : a ∈ W
              · obtain ⟨ob', e'⟩ := F₅.live a (List.mem_append_right _ (List.mem_append_left _ hw)); rw [q] at e'; cases e'
              · rw [y₅.keep a ob (fun h => by rcases List.mem_append.mp h with z | z; exact hw z; exact q' z) hz] at q; cases q
      have hV₆ : ∀ a ∈ V', a ∉ (C.plus W).av X'' := fun a ha hm => by
        rcases List.mem_append.mp hm with q | q
        · rcases g₆ a q with z | z
          · exact hVx a ha (List.mem_append_left _ z)
          · obtain ⟨o, _, e, _⟩ := IT.loose _ _ _ stay₅ a ha; rw [z] at e; cases e
        · exact hVx a ha (List.mem_append_right _ q)
      have := done' X'' V' s₆ f ok stay₆ y₆ hg₆ hV₆
      cases f <;> exact this
    rcases Nat.lt_or_ge k m with hlt | hge
    · have hlen : k < ds.length := Nat.lt_of_lt_of_le hlt hm
      have hd : ds[k]? = some ds[k] := List.getElem?_eq_getElem hlen
      obtain ⟨Γ₁, o₁, hAs, ho, hB⟩ := turn W k ds[k] hd hlt
      refine step _ hd Γ₁ o₁ hAs hB fun X'' V'' s'' f ok st'' x'' g'' hV'' => ?_
      rcases ho with rfl | rfl
      · cases f <;> first | exact ok.elim | exact ⟨m + 1 - (k + 1), by omega, k + 1, X'', V'', rfl, hlt, st'', ok, x'', g'', hV''⟩
      · cases f <;> first | exact ok.elim | exact ⟨m + 1 - (k + 1), by omega, k + 1, X'', V'', rfl, hlt, st'', ok, x'', g'', hV''⟩
    · obtain rfl : k = m := Nat.le_antisymm hk hge
      rcases fin with ⟨hmd, rfl⟩ | ⟨d, r, hd, rfl, hr⟩
      · subst hmd
        refine wpAny_mono (IT.done (C.plus W) V X' (inv ds.length) s' ⟨rfl, rfl, rfl, rfl, rfl⟩ st' F' (fun a ha => ⟨List.mem_append_left _ ha, hW₀ a ha⟩) (kp x' g') hV) (fun r s₃ h => ?_) fun _ _ x => x.elim
        obtain ⟨rfl, x₃⟩ := h
        exact wpAny_execs_nil ⟨X', F'.offUV (V := V) (fun a ha hm => hWX a ha (List.mem_append_right _ hm)) hW₀ x₃.keep hV (IT.loose _ _ _ st') (fun a ha => h₀none a (IT.new _ _ _ st' a ha)), endX (x'.trans x₃ (fun a ha => by
          rcases List.mem_append.mp ha with q | q
          · exact .inl (List.mem_append_left _ q)
          · exact .inr (IT.new _ _ _ st' a q)) fun _ h => h), gro g'⟩
      · obtain ⟨Γ₁, hAs, hB⟩ := hr W
        refine step d hd Γ₁ _ hAs hB fun X'' V'' s'' f ok st'' x'' g'' hV'' => ?_
        cases f with
        | ret v => exact ⟨X'', ok.mono fun b o hb e => ⟨e, fun h => hb (List.mem_append_right _ h)⟩, endX x'', gro g''⟩
        | _ => exact ok.elim
  · rcases hi with q | q
    · exact x₂.fin i g (.inl q) e
    · rw [Array.getElem?_eq_none q] at e; cases e
theorem Ex.for {tgt iter : Expr} {body : List Stmt} {pos : Pos} {ds : List D} (hi : EvIt C Γ tgt iter ds) (inv : Nat → Vars) (h0 : ∀ x b, (inv 0).lookup x = some b → b = .any ∨ Γ.lookup x = some b)
    (turn : ∀ W k d, ds[k]? = some d → ∃ Γ₁, As (C.plus W) (inv k) tgt d Γ₁ ∧ Exs (C.plus W) Γ₁ body (.next (inv (k + 1))))
    (hs : ∀ x, foldedSetIterable iter C.env x = pure x := by intro _; rfl) : Ex C Γ (.For tgt iter body [] pos) (.next (inv ds.length)) :=
  Ex.forGen hi inv h0 (Nat.le_refl _) (fun W k d hd _ => let ⟨Γ₁, a, b⟩ := turn W k d hd; ⟨Γ₁, _, a, .inl rfl, b⟩) (.inl ⟨rfl, rfl⟩) hs
end
end Mine

-- V8
namespace Mine
open PySem PySem.W PySem.Calls PyProof.Rows PySem.SeqAt

section
variable {C : Cx} {Γ : Vars}

theorem FS.freshAt {X : List Addr} {s s₁ : Shared} {a : Addr} (F : FS C X Γ s) (F₁ : FS C X Γ s₁) (x : XL C.L s s₁) (ha : s₁.heap.get? a = none) : s.heap.get? a = none := by
  cases hz : s.heap.get? a with
  | none => rfl
  | some o =>
    by_cases hL : a = C.L
    · obtain ⟨o', e⟩ := F₁.live _ F₁.hL'; rw [← hL, ha] at e; cases e
    · rw [x.keep hL hz] at ha; cases ha

theorem get_ge {h : Heap} {a n : Nat} (hn : h.objs.size = n) (ha : n ≤ a) : h.get? a = none := by
  cases e : h.get? a with
  | none => rfl
  | some o => exact absurd (Heap.lt_size e) (Nat.not_lt.mpr (hn ▸ ha))
theorem n1 (n : Nat) : n + 1 ≠ n := by omega
theorem l1 {a n : Nat} (h : a < n) : a ≠ n + 1 := by omega
theorem l0 {a n : Nat} (h : a < n) : a ≠ n := by omega
def Bare (tgt : Expr) : Prop := ∀ it v, letOwnedTupleGo tgt it v = pure ()

theorem Iter.ofWalks {w : World} {tgt : Expr} {I : Addr} {fp wr Y : List Addr} {n : Nat} {Pr : Nat → Value → Prop} {St : Nat → Heap → Prop} {h₂ : Heap} {ds : List D} (Wk : ∀ A : Around, A.handled = none → Walks P w A I fp wr n Pr St) (hn : n = ds.length)
    (hgo : ∀ (A : Around) i (s : Shared) v (Q : Unit → Shared → Prop), St i s.heap → Q () s → wpAny (model P w) A (letOwnedTupleGo tgt (.ref I) v) Q no s)
    (hfp : ∀ b ∈ fp, b ∈ wr ∨ (b ∉ wr ∧ b ∉ Y ∧ ∃ o, h₂.get? b = some o)) (hlive : ∀ i h, St i h → ∀ b ∈ wr, ∃ o, h.get? b = some o)
    (dat : ∀ i v d, Pr i v → ds[i]? = some d → Is h₂ (wr ++ Y) v d) : Iter w tgt (.ref I) wr [] Y h₂ ds (fun i s => St i s.heap) where
  item := fun C k d X Γ s hw hd st F hW hK => by
    subst hw
    have hk : k < n := by rw [hn]; exact (List.getElem?_eq_some_iff.mp hd).1
    refine (Wk C.A F.ok.hand).item k s _ no hk st fun v h' tk hp st' hkeep => ⟨v, rfl, ?_⟩
    refine hgo C.A (k + 1) _ v _ st' ⟨F.off' (fun a ha => (hW a ha).1) (fun a ha => (hW a ha).2) hkeep (hlive _ _ st'), ?_, st', Ext.heap hkeep⟩
    exact (dat k v d hp hd).mono fun b o hb e => by
      have h1 : b ∉ wr := fun q => hb (List.mem_append_left _ q)
      have h2 : b ∉ Y := fun q => hb (List.mem_append_right _ q)
      obtain ⟨e', n'⟩ := hK b o h1 h2 e
      exact ⟨hkeep b o h1 e', n'⟩
  done := fun C X Γ s hw st F hK => by
    subst hw
    exact (Wk C.A F.ok.hand).done s _ no (hn ▸ st) fun h' tk hkeep => ⟨rfl, Ext.heap hkeep⟩
  stay := fun C C' X X' k s s' st hK hK' hkeep hg => (Wk ⟨none, 0, none, none, 1⟩ rfl).frame k s.heap s'.heap st fun b hb o e => by
    rcases hfp b hb with q | ⟨q1, q2, o₂, e₂⟩
    · exact hkeep b o q e
    · have e3 := (hK b o₂ q1 q2 e₂).1
      rw [e] at e3; cases e3
      exact (hK' b o q1 q2 e₂).1
  self := fun C X Γ k s hw st F hK => by
    subst hw
    exact (Wk C.A F.ok.hand).self k s _ no st ⟨rfl, rfl⟩

theorem Iter.ofWalksT {w : World} {elts : List Expr} {tk : Nat} {tp : Pos} {I : Addr} {fp wr Y : List Addr} {n : Nat} {Pt : Nat → Array Value → Prop} {St : Nat → Heap → Prop} {Mid : Nat → Addr → Heap → Prop} {h₂ : Heap} {ds : List D}
    (Wk : ∀ A : Around, A.handled = none → WalksT P w A I fp wr n Pt St Mid) (hn : n = ds.length)
    (hfp : ∀ b ∈ fp, b ∈ wr ∨ (b ∉ wr ∧ b ∉ Y ∧ ∃ o, h₂.get? b = some o)) (hlive : ∀ i h, St i h → ∀ b ∈ wr, ∃ o, h.get? b = some o)
    (dat : ∀ i vals d, Pt i vals → ds[i]? = some d → ∃ es, d = .tup es ∧ Are h₂ (wr ++ Y) vals.toList es) : Iter w (.Tuple elts tk tp) (.ref I) wr [] Y h₂ ds (fun i s => St i s.heap) where
  item := fun C k d X Γ s hw hd st F hW hK => by
    subst hw
    have hk : k < n := by rw [hn]; exact (List.getElem?_eq_some_iff.mp hd).1
    refine (Wk C.A F.ok.hand).item k s _ no hk st fun T vals h' tk' hp hT hit hmid hkeep => ⟨_, rfl, ?_⟩
    refine (Wk C.A F.ok.hand).go elts _ _ k T _ _ no hmid fun h'' st' hkeep' => ?_
    have kk : ∀ b o, b ∉ wr → s.heap.get? b = some o → h''.get? b = some o := fun b o hb e => hkeep' b o hb (hkeep b o hb e)
    refine ⟨F.off' (fun a ha => (hW a ha).1) (fun a ha => (hW a ha).2) kk (hlive _ _ st'), ?_, st', Ext.heap kk⟩
    obtain ⟨es, rfl, ha⟩ := dat k vals d hp hd
    have hTw : T ∉ wr := (Wk C.A F.ok.hand).apart k T h' hmid
    obtain ⟨o, e, c⟩ := hit
    refine .tup (vs := vals.toList) ⟨o, hkeep' T o hTw e, by simpa using c⟩ (fun hm => ?_) (ha.mono fun b o hb e => ?_)
    · obtain ⟨o', e'⟩ := F.live T hm
      exact absurd (Heap.lt_size e') (Nat.not_lt.mpr hT)
    · have h1 : b ∉ wr := fun q => hb (List.mem_append_left _ q)
      have h2 : b ∉ Y := fun q => hb (List.mem_append_right _ q)
      obtain ⟨e', n'⟩ := hK b o h1 h2 e
      exact ⟨kk b o h1 e', n'⟩
  done := fun C X Γ s hw st F hK => by
    subst hw
    exact (Wk C.A F.ok.hand).done s _ no (hn ▸ st) fun h' tk hkeep => ⟨rfl, Ext.heap hkeep⟩
  stay := fun C C' X X' k s s' st hK hK' hkeep hg => (Wk ⟨none, 0, none, none, 1⟩ rfl).frame k s.heap s'.heap st fun b hb o e => by
    rcases hfp b hb with q | ⟨q1, q2, o₂, e₂⟩
    · exact hkeep b o q e
    · have e3 := (hK b o₂ q1 q2 e₂).1
      rw [e] at e3; cases e3
      exact (hK' b o q1 q2 e₂).1
  self := fun C X Γ k s hw st F hK => by
    subst hw
    exact (Wk C.A F.ok.hand).self k s _ no st ⟨rfl, rfl⟩

/-- an iterator laid on what an expression gave -/
theorem EvIt.lay {tgt e : Expr} {ds : List D} {X : List Addr} {s s₁ : Shared} {it : Value} {W : List Addr} {h' : Heap} {k : Nat} {St : Nat → Shared → Prop} (F : FS C X Γ s) (F₁ : FS C X Γ s₁) (x₁ : XL C.L s s₁)
    (hk : ∀ b o, s₁.heap.get? b = some o → h'.get? b = some o) (hW : ∀ a ∈ W, s₁.heap.get? a = none) (hl : ∀ a ∈ W, ∃ o, h'.get? a = some o) (IT : Iter C.w tgt it W [] (C.av X) h' ds St) (st : St 0 { s₁ with heap := h', toks := k }) :
    ∃ W J St, IterV C tgt it W J (C.av X) h' ds St ∧ St 0 [] { s₁ with heap := h', toks := k } ∧ FS (C.plus W) X Γ { s₁ with heap := h', toks := k } ∧ (∀ a ∈ W, s.heap.get? a = none) ∧ (∀ i ∈ J, s.gens.size ≤ i) ∧ ExtJ [C.L] J s { s₁ with heap := h', toks := k } ∧ ∀ m, s.heap.Ns C.L m → h'.Ns C.L m :=
  ⟨W, [], _, IT.toV, ⟨rfl, st⟩, F₁.plus W hk hW hl, fun a ha => F.freshAt F₁ x₁ (hW a ha), (fun _ h => nomatch h), (x₁.trans' (XL.heap (k := k) hk)).ext, (x₁.trans' (XL.heap (k := k) hk)).tab⟩

theorem Are.at' {h : Heap} {X : List Addr} {vs : List Value} {ds : List D} (a : Are h X vs ds) {i : Nat} {v : Value} {d : D} (hv : vs[i]? = some v) (hd : ds[i]? = some d) : Is h X v d := by
  obtain ⟨v', e, i⟩ := a.get hd
  rw [hv] at e; cases e; exact i

theorem EvIt.list {tgt e : Expr} {ds : List D} (h : Ev C Γ e (.lst ds)) (hgo : ∀ (A : Around) (I l : Addr) i (s : Shared) v (Q : Unit → Shared → Prop), s.heap.IsListIter I l i → Q () s → wpAny (model P C.w) A (letOwnedTupleGo tgt (.ref I) v) Q no s) : EvIt C Γ tgt e ds := fun X s F =>
  wpAny_mono (h X s F) (fun v s₁ p => by
    obtain ⟨F₁, iv, x₁⟩ := p
    obtain ⟨a, vs, rfl, hla, hx, hvs⟩ := iv.lstI
    · have hoa := hla
      obtain ⟨n, hoa⟩ := hoa
      have hne : a ≠ s₁.heap.objs.size := Nat.ne_of_lt (Heap.lt_size hoa)
      refine wpAny_pyIter_list hla.isList (EvIt.lay (tgt := tgt) (e := e) (W := [s₁.heap.objs.size]) (k := s₁.toks) F F₁ x₁ (fun _ _ e => Heap.get?_push_of_some _ e) (fun c hc => by rw [List.mem_singleton.mp hc]; exact get_size _) (fun c hc => by rw [List.mem_singleton.mp hc]; exact ⟨_, Heap.get?_push_size _ rfl⟩) ?_ (St := fun i s => (fun i (h : Heap) => h.IsListIter s₁.heap.objs.size a i ∧ h.IsList a vs.toArray) i s.heap) ⟨⟨_, Heap.get?_push_size _ rfl, rfl, rfl⟩, hla.isList.push _⟩)
      refine Iter.ofWalks (fun A hA => Walks.list hA s₁.heap.objs.size a hne vs.toArray) (by rw [List.size_toArray, hvs.length]) (fun A i s v Q st q => hgo A _ a i s v Q st.1 q) (fun b hb => ?_) (fun i h st b hb => ?_) (fun i v d hp hd => ?_)
      · rcases List.mem_cons.mp hb with q | q
        · exact .inl (q ▸ List.mem_singleton.mpr rfl)
        · have := List.mem_singleton.mp q
          subst this
          exact .inr ⟨fun q => hne (List.mem_singleton.mp q), hx, _, Heap.get?_push_of_some _ hoa⟩
      · rw [List.mem_singleton.mp hb]; obtain ⟨o, e, _⟩ := st.1; exact ⟨o, e⟩
      · have hv : vs[i]? = some v := by simpa using hp
        exact (hvs.at' hv hd).mono fun b o hb e => ⟨Heap.get?_push_of_some _ e, fun hm => by
          rcases List.mem_append.mp hm with q | q
          · rw [List.mem_singleton.mp q, get_size] at e; cases e
          · exact hb q⟩) fun _ _ x => x
theorem go_name {x : Str} {pos : Pos} {A : Around} {it v : Value} {s : Shared} {w : World} {Q : Unit → Shared → Prop} (q : Q () s) : wpAny (model P w) A (letOwnedTupleGo (.Name x pos) it v) Q no s := wpAny_of_eq (by rfl) q
theorem go_tuple {elts : List Expr} {k : Nat} {pos : Pos} {A : Around} {I l : Addr} {i : Nat} {v : Value} {s : Shared} {w : World} {Q : Unit → Shared → Prop} (st : s.heap.IsListIter I l i) (q : Q () s) : wpAny (model P w) A (letOwnedTupleGo (.Tuple elts k pos) (.ref I) v) Q no s := by
  cases v <;> first | exact wpAny_letOwnedTupleGo_listiter st q | exact wpAny_of_eq (by rfl) q
theorem EvIt.listN {x : Str} {p : Pos} {e : Expr} {ds : List D} (h : Ev C Γ e (.lst ds)) : EvIt C Γ (.Name x p) e ds := EvIt.list h fun _ _ _ _ _ _ _ _ q => go_name q
theorem EvIt.listT {elts : List Expr} {k : Nat} {p : Pos} {e : Expr} {ds : List D} (h : Ev C Γ e (.lst ds)) : EvIt C Γ (.Tuple elts k p) e ds := EvIt.list h fun _ _ _ _ _ _ _ st q => go_tuple st q

theorem EvIt.tupN {x : Str} {p : Pos} {e : Expr} {ds : List D} (h : Ev C Γ e (.tup ds)) : EvIt C Γ (.Name x p) e ds := fun X s F =>
  wpAny_mono (h X s F) (fun v s₁ p => by
    obtain ⟨F₁, iv, x₁⟩ := p
    obtain ⟨a, vs, rfl, hla, hx, hvs⟩ := iv.tupI
    · obtain ⟨oa, hoa, hca⟩ := id hla
      have hne : a ≠ s₁.heap.objs.size := Nat.ne_of_lt (Heap.lt_size hoa)
      refine iter_tuple hla (EvIt.lay (tgt := .Name x _) (e := e) (W := [s₁.heap.objs.size]) (k := s₁.toks) F F₁ x₁ (fun _ _ e => Heap.get?_push_of_some _ e) (fun c hc => by rw [List.mem_singleton.mp hc]; exact get_size _) (fun c hc => by rw [List.mem_singleton.mp hc]; exact ⟨_, Heap.get?_push_size _ rfl⟩) ?_ (St := fun i s => (fun i (h : Heap) => h.IsTupleIter s₁.heap.objs.size a i ∧ h.IsTuple a vs.toArray) i s.heap) ⟨⟨_, Heap.get?_push_size _ rfl, rfl, rfl⟩, ⟨oa, Heap.get?_push_of_some _ hoa, hca⟩⟩)
      refine Iter.ofWalks (fun A hA => Walks.tuple hA s₁.heap.objs.size a hne vs.toArray) (by rw [List.size_toArray, hvs.length]) (fun A i s v Q st q => go_name q) (fun b hb => ?_) (fun i h st b hb => ?_) (fun i v d hp hd => ?_)
      · rcases List.mem_cons.mp hb with q | q
        · exact .inl (q ▸ List.mem_singleton.mpr rfl)
        · have := List.mem_singleton.mp q
          subst this
          exact .inr ⟨fun q => hne (List.mem_singleton.mp q), hx, _, Heap.get?_push_of_some _ hoa⟩
      · rw [List.mem_singleton.mp hb]; obtain ⟨o, e, _⟩ := st.1; exact ⟨o, e⟩
      · have hv : vs[i]? = some v := by simpa using hp
        exact (hvs.at' hv hd).mono fun b o hb e => ⟨Heap.get?_push_of_some _ e, fun hm => by
          rcases List.mem_append.mp hm with q | q
          · rw [List.mem_singleton.mp q, get_size] at e; cases e
          · exact hb q⟩) fun _ _ x => x

/-- the signs of a text -/
def signs (x : Str) : List D := x.cps.toList.map fun c => .str ⟨#[c]⟩
theorem signs_get {x : Str} {i : Nat} {c : Nat} {d : D} (hc : x.cps[i]? = some c) (hd : (signs x)[i]? = some d) : d = .str ⟨#[c]⟩ := by
  unfold signs at hd
  rw [List.getElem?_map, Array.getElem?_toList, hc] at hd
  cases hd; rfl
theorem signs_length (x : Str) : (signs x).length = x.length := by unfold signs Str.length; simp
theorem EvIt.strN {nm : Str} {np : Pos} {e : Expr} {x : Str} (h : Ev C Γ e (.str x)) : EvIt C Γ (.Name nm np) e (signs x) := fun X s F =>
  wpAny_mono (h X s F) (fun v s₁ p => by
    obtain ⟨F₁, iv, x₁⟩ := p
    obtain ⟨t, rfl⟩ := iv.strI
    · have hl : Iter C.w (.Name nm np) (.ref s₁.heap.objs.size) [s₁.heap.objs.size] [] (C.av X) (s₁.heap.push { cls := .type (strIterType x), data := .fields #[.str x t, .int 0 0] }) (signs x) (fun i s => s.heap.IsStrIter s₁.heap.objs.size (strIterType x) x t i) := by
        refine Iter.ofWalks (n := x.cps.size) (Pr := SignAt x) (fp := [s₁.heap.objs.size]) (St := fun i h => h.IsStrIter s₁.heap.objs.size (strIterType x) x t i) (fun A hA => ?_) (signs_length x).symm (fun A i s v Q st q => go_name q) (fun b hb => .inl hb) (fun i h st b hb => ?_) (fun i v d hp hd => ?_)
        · unfold strIterType
          split
          · exact Walks.strAscii hA _ x t
          · exact Walks.strWide hA _ x t
        · rw [List.mem_singleton.mp hb]; obtain ⟨o, e, _⟩ := st; exact ⟨o, e⟩
        · obtain ⟨c, u, hc, rfl⟩ := hp
          rw [signs_get hc hd]; exact .str
      exact wpAny_pyIter_strU (EvIt.lay (e := e) (k := s₁.toks) F F₁ x₁ (fun _ _ e => Heap.get?_push_of_some _ e) (fun c hc => by rw [List.mem_singleton.mp hc]; exact get_size _) (fun c hc => by rw [List.mem_singleton.mp hc]; exact ⟨_, Heap.get?_push_size _ rfl⟩) hl ⟨_, Heap.get?_push_size _ rfl, rfl, rfl⟩)) fun _ _ x => x
theorem Name_type {x : Str} {np pos : Pos} {e : Expr} {es : List Expr} {T : String} {X : List Addr} {s : Shared} {Q : Value → Shared → Prop} (F : FS C X Γ s) (hx : x ∈ blts) (hb : bootBuiltins x = some (.type T)) (hk : C.env.kindOf x = some .globalImplicit)
    (h : wpAny C.M C.A (spliced (backTo pos (starEach (e :: es) C.env))) (fun vs s₁ => wpAny C.M C.A (call (.type T) vs) Q no s₁) no s)
    (he : eval (.Call (.Name x np) (e :: es) [] pos) C.env = (do callWith pos (← eval (.Name x np) C.env) [] (backTo pos (starEach (e :: es) C.env)) (backToKw pos (keywordEach [] C.env))) := by rfl)
    (hst : starEach (e :: es) C.env = (false, eval e C.env) :: starEach es C.env := by rfl) (hpl : (backTo pos (starEach es C.env)).any (·.1) = false := by rfl)
    (hn : x ≠ "__name__" := by decide) (hd : (x == ("__debug__" : Str)) = false := by decide) : wpAny C.M C.A (eval (.Call (.Name x np) (e :: es) [] pos) C.env) Q no s :=
  Call_ (Ev.nameB F hx hb hk (callWith_type1 h hst hpl) hn hd) he

theorem rangeSize_nat (a : Int) (n : Nat) : Builtin.Range.rangeSize a (a + n) 1 = n := by
  rw [rangeSize_one]; split <;> omega
theorem range_small {a : Int} {n : Nat} (h1 : -1000000 ≤ a) (h2 : a ≤ 1000000) (h3 : n ≤ 1000000) : Builtin.Range.small a (a + n) 1 = true := by
  unfold Builtin.Range.small
  rw [rangeSize_nat]
  simp only [Builtin.Range.rangeFitsLong, Bool.and_eq_true, decide_eq_true_eq, Bool.or_eq_true, beq_iff_eq]
  refine ⟨⟨⟨⟨?_, ?_⟩, ?_⟩, ?_⟩, .inr ?_⟩
  · omega
  · omega
  · decide
  · omega
  · rw [if_pos (by decide)]
    simp only [Bool.and_eq_true, decide_eq_true_eq]; omega
theorem range_iter {nm : Str} {np : Pos} {a : Int} {n : Nat} {X : List Addr} {s s₁ : Shared} {r : Addr} {t u v : Tok} (F : FS C X Γ s) (F₁ : FS C X Γ s₁) (x₁ : XL C.L s s₁) (hr : IsRange s₁.heap r a (a + n) 1 t u v) (h1 : -1000000 ≤ a) (h2 : a ≤ 1000000) (h3 : n ≤ 1000000) :
    wpAny C.M C.A (pyIter (.ref r)) (fun it s₂ => ∃ W J St, IterV C (.Name nm np) it W J (C.av X) s₂.heap ((List.range n).map fun (k : Nat) => D.int (a + k)) St ∧ St 0 [] s₂ ∧ FS (C.plus W) X Γ s₂ ∧ (∀ a ∈ W, s.heap.get? a = none) ∧ (∀ i ∈ J, s.gens.size ≤ i) ∧ ExtJ [C.L] J s s₂ ∧ ∀ m, s.heap.Ns C.L m → s₂.heap.Ns C.L m) no s₁ := by
  refine wpAny_pyIter_range hr (range_small h1 h2 h3) ?_
  rw [rangeSize_nat]
  refine EvIt.lay (e := .Name nm np) (W := [s₁.heap.objs.size]) (k := s₁.toks) F F₁ x₁ (fun _ _ e => Heap.get?_push_of_some _ e) (fun c hc => by rw [List.mem_singleton.mp hc]; exact get_size _) (fun c hc => by rw [List.mem_singleton.mp hc]; exact ⟨_, Heap.get?_push_size _ rfl⟩) (Iter.ofWalks (fun A hA => Walks.range hA s₁.heap.objs.size a 1 n) (by simp) (fun A i s v Q st q => go_name q) (fun b hb => .inl hb) (fun i h st b hb => ?_) (fun i v d hp hd => ?_)) ?_
  · rw [List.mem_singleton.mp hb]; exact ⟨_, st⟩
  · obtain ⟨t, rfl⟩ := hp
    rw [List.getElem?_map] at hd
    have hi : i < n := by
      rcases Nat.lt_or_ge i n with q | q
      · exact q
      · rw [List.getElem?_eq_none (by simpa using q)] at hd; cases hd
    rw [List.getElem?_range hi] at hd
    cases hd
    rw [Int.mul_one]; exact .int
  · show IsRangeIter _ _ _ _ _
    simpa using (Heap.get?_push_size s₁.heap (o := { cls := .type "range_iterator", data := .fields #[rawInt a, rawInt n, rawInt 1] }) rfl)
theorem EvIt.range1 {nm : Str} {np rp pos : Pos} {e : Expr} {n : Nat} (hk : C.env.kindOf "range" = some .globalImplicit) (h : Ev C Γ e (.int n)) (hn : n ≤ 1000000)
    (he : eval (.Call (.Name "range" rp) [e] [] pos) C.env = (do callWith pos (← eval (.Name "range" rp) C.env) [] (backTo pos (starEach [e] C.env)) (backToKw pos (keywordEach [] C.env))) := by rfl)
    (hst : starEach [e] C.env = [(false, eval e C.env)] := by rfl) : EvIt C Γ (.Name nm np) (.Call (.Name "range" rp) [e] [] pos) ((List.range n).map fun (k : Nat) => D.int k) := fun X s F => by
  refine Name_type F (by decide) (T := "range") (by rfl) hk ?_ he (by rw [hst]; rfl) rfl
  refine wpAny_items_cons (wpAny_mono (h X s F) (fun v s₁ p => wpAny_items_nil ?_) fun _ _ x => x) (by rw [hst]; rfl)
  obtain ⟨F₁, iv, x₁⟩ := p
  obtain ⟨t, rfl⟩ := iv.intI
  refine call_range_1 ?_
  have := range_iter (nm := nm) (np := np) (a := 0) (n := n) F (F₁.push (k := s₁.toks + 1 + 1) { cls := .type "range", data := .fields #[.int 0 s₁.toks, .int n (by assumption), .int 1 (s₁.toks + 1)] }) (x₁.trans' (XL.heap fun _ _ e => Heap.get?_push_of_some _ e)) (by rw [Int.zero_add]; exact IsRange.new ..) (by decide) (by decide) hn
  simpa using this
theorem EvIt.range2 {nm : Str} {np rp pos : Pos} {e₁ e₂ : Expr} {a : Int} {n : Nat} (hk : C.env.kindOf "range" = some .globalImplicit) (h₁ : Ev C Γ e₁ (.int a)) (h₂ : Ev C Γ e₂ (.int (a + n))) (ha : -1000000 ≤ a) (ha' : a ≤ 1000000) (hn : n ≤ 1000000)
    (he : eval (.Call (.Name "range" rp) [e₁, e₂] [] pos) C.env = (do callWith pos (← eval (.Name "range" rp) C.env) [] (backTo pos (starEach [e₁, e₂] C.env)) (backToKw pos (keywordEach [] C.env))) := by rfl)
    (hst : starEach [e₁, e₂] C.env = (false, eval e₁ C.env) :: starEach [e₂] C.env := by rfl) (hst' : starEach [e₂] C.env = [(false, eval e₂ C.env)] := by rfl) : EvIt C Γ (.Name nm np) (.Call (.Name "range" rp) [e₁, e₂] [] pos) ((List.range n).map fun (k : Nat) => D.int (a + k)) := fun X s F => by
  refine Name_type F (by decide) (T := "range") (by rfl) hk ?_ he hst (by rw [hst']; rfl)
  refine wpAny_items_cons (wpAny_mono (h₁ X s F) (fun v s₁ p => wpAny_items_cons (wpAny_mono (h₂ X s₁ p.1) (fun u s₂ q => wpAny_items_nil ?_) fun _ _ x => x) (by rw [hst']; rfl)) fun _ _ x => x) hst
  obtain ⟨F₁, iv, x₁⟩ := p
  obtain ⟨F₂, iu, x₂⟩ := q
  obtain ⟨_, rfl⟩ := iv.intI; obtain ⟨_, rfl⟩ := iu.intI
  refine call_range_2 ?_
  exact range_iter (nm := nm) (np := np) F (F₂.push (k := s₂.toks + 1) _) ((x₁.trans' x₂).trans' (XL.heap fun _ _ e => Heap.get?_push_of_some _ e)) (IsRange.new ..) ha ha' hn

/-- pairs of a place and an item -/
def enum (ds : List D) : List D := ds.zipIdx.map fun p => .tup [.int p.2, p.1]
theorem enum_get {ds : List D} {i : Nat} {d e : D} (hd : ds[i]? = some d) (he : (enum ds)[i]? = some e) : e = .tup [.int i, d] := by
  unfold enum at he
  rw [List.getElem?_map, List.getElem?_zipIdx, hd] at he
  simp at he
  exact he.symm
theorem enum_length (ds : List D) : (enum ds).length = ds.length := by simp [enum]
theorem EvIt.enumL {elts : List Expr} {k : Nat} {tp np pos : Pos} {e : Expr} {ds : List D} (hk : C.env.kindOf "enumerate" = some .globalImplicit) (h : Ev C Γ e (.lst ds))
    (he : eval (.Call (.Name "enumerate" np) [e] [] pos) C.env = (do callWith pos (← eval (.Name "enumerate" np) C.env) [] (backTo pos (starEach [e] C.env)) (backToKw pos (keywordEach [] C.env))) := by rfl)
    (hst : starEach [e] C.env = [(false, eval e C.env)] := by rfl) : EvIt C Γ (.Tuple elts k tp) (.Call (.Name "enumerate" np) [e] [] pos) (enum ds) := fun X s F => by
  refine Name_type F (by decide) (T := "enumerate") (by rfl) hk ?_ he (by rw [hst]; rfl) rfl
  refine wpAny_items_cons (wpAny_mono (h X s F) (fun v s₁ p => wpAny_items_nil ?_) fun _ _ x => x) (by rw [hst]; rfl)
  obtain ⟨F₁, iv, x₁⟩ := p
  obtain ⟨a, vs, rfl, hla, hx, hvs⟩ := iv.lstI
  · obtain ⟨n, hoa⟩ := id hla
    have hlt := Heap.lt_size hoa
    refine call_enumerate_list hla.isList fun h' he' hit hsz hk' => ?_
    refine wpAny_pyIter_enum he' ?_
    refine EvIt.lay (W := [s₁.heap.objs.size + 1, s₁.heap.objs.size]) (e := e) (k := s₁.toks) F F₁ x₁ hk' (fun c hc => ?_) (fun c hc => ?_) (St := fun i s => (fun (i : Nat) (h : Heap) => (∃ old, IsEnum h (s₁.heap.objs.size + 1) s₁.heap.objs.size i old) ∧ h.IsListIter s₁.heap.objs.size a i ∧ h.IsList a vs.toArray) i s.heap) ?_ ⟨⟨_, he'⟩, hit, hla.isList.at fun o e => hk' _ o e⟩
    · rcases List.mem_cons.mp hc with q | q
      · rw [q]; exact get_ge rfl (Nat.le_succ _)
      · rw [List.mem_singleton.mp q]; exact get_size _
    · rcases List.mem_cons.mp hc with q | q
      · exact ⟨_, q ▸ he'⟩
      · obtain ⟨o, e, _⟩ := hit; rw [List.mem_singleton.mp q]; exact ⟨o, e⟩
    · refine Iter.ofWalksT (fun A hA => WalksT.enumerate hA (s₁.heap.objs.size + 1) s₁.heap.objs.size a (n1 _) (l1 hlt) (l0 hlt) vs.toArray) (by rw [List.size_toArray, enum_length, hvs.length]) (fun b hb => ?_) (fun i h st b hb => ?_) (fun i vals d hp hd => ?_)
      · rcases List.mem_cons.mp hb with q | q
        · exact .inl (List.mem_cons.mpr (.inl q))
        · rcases List.mem_cons.mp q with q | q
          · exact .inl (List.mem_cons_of_mem _ (q ▸ List.mem_singleton.mpr rfl))
          · have := List.mem_singleton.mp q
            subst this
            exact .inr ⟨fun q => by rcases List.mem_cons.mp q with q | q; exact l1 hlt q; exact l0 hlt (List.mem_singleton.mp q), hx, _, hk' _ _ hoa⟩
      · obtain ⟨⟨old, e1⟩, ⟨o, e2, _⟩, _⟩ := st
        rcases List.mem_cons.mp hb with q | q
        · exact ⟨_, q ▸ e1⟩
        · rw [List.mem_singleton.mp q]; exact ⟨o, e2⟩
      · obtain ⟨t, v, hv, rfl⟩ := hp
        have hv : vs[i]? = some v := by simpa using hv
        obtain ⟨d', hd'⟩ : ∃ d', ds[i]? = some d' := by
          have : i < ds.length := by
            have := (List.getElem?_eq_some_iff.mp hv).1
            rw [hvs.length] at this; exact this
          exact ⟨_, List.getElem?_eq_getElem this⟩
        rw [enum_get hd' hd]
        refine ⟨_, rfl, .cons .int (.one ((hvs.at' hv hd').mono fun b o hb e => ⟨hk' _ _ e, fun hm => ?_⟩))⟩
        rcases List.mem_append.mp hm with q | q
        · have := Heap.lt_size e
          rcases List.mem_cons.mp q with q | q
          · exact l1 this q
          · exact l0 this (List.mem_singleton.mp q)
        · exact hb q
theorem EvIt.enumS {elts : List Expr} {k : Nat} {tp np pos : Pos} {e : Expr} {x : Str} (hk : C.env.kindOf "enumerate" = some .globalImplicit) (h : Ev C Γ e (.str x))
    (he : eval (.Call (.Name "enumerate" np) [e] [] pos) C.env = (do callWith pos (← eval (.Name "enumerate" np) C.env) [] (backTo pos (starEach [e] C.env)) (backToKw pos (keywordEach [] C.env))) := by rfl)
    (hst : starEach [e] C.env = [(false, eval e C.env)] := by rfl) : EvIt C Γ (.Tuple elts k tp) (.Call (.Name "enumerate" np) [e] [] pos) (enum (signs x)) := fun X s F => by
  refine Name_type F (by decide) (T := "enumerate") (by rfl) hk ?_ he (by rw [hst]; rfl) rfl
  refine wpAny_items_cons (wpAny_mono (h X s F) (fun v s₁ p => wpAny_items_nil ?_) fun _ _ x => x) (by rw [hst]; rfl)
  obtain ⟨F₁, iv, x₁⟩ := p
  obtain ⟨t, rfl⟩ := iv.strI
  · refine call_enumerate_str fun h' he' hit hsz hk' => ?_
    refine wpAny_pyIter_enum he' ?_
    refine EvIt.lay (W := [s₁.heap.objs.size + 1, s₁.heap.objs.size]) (e := e) (k := s₁.toks) F F₁ x₁ hk' (fun c hc => ?_) (fun c hc => ?_) (St := fun i s => (fun (i : Nat) (h : Heap) => (∃ old, IsEnum h (s₁.heap.objs.size + 1) s₁.heap.objs.size i old) ∧ h.IsStrIter s₁.heap.objs.size (strIterType x) x t i) i s.heap) ?_ ⟨⟨_, he'⟩, hit⟩
    · rcases List.mem_cons.mp hc with q | q
      · rw [q]; exact get_ge rfl (Nat.le_succ _)
      · rw [List.mem_singleton.mp q]; exact get_size _
    · rcases List.mem_cons.mp hc with q | q
      · exact ⟨_, q ▸ he'⟩
      · obtain ⟨o, e, _⟩ := hit; rw [List.mem_singleton.mp q]; exact ⟨o, e⟩
    · refine Iter.ofWalksT (fun A hA => WalksT.enumerateD (P := fun i v => ∃ c u, x.cps[i]? = some c ∧ v = .str ⟨#[c]⟩ u) (St := fun i h => h.IsStrIter s₁.heap.objs.size (strIterType x) x t i) (n := x.cps.size) (fp := [s₁.heap.objs.size]) ?_ (s₁.heap.objs.size + 1) (n1 _) (fun q => n1 _ (List.mem_singleton.mp q)) (List.mem_singleton.mpr rfl)) (by rw [enum_length, signs_length]; rfl) (fun b hb => .inl hb) (fun i h st b hb => ?_) (fun i vals d hp hd => ?_)
      · unfold strIterType
        split
        · exact Draws.strAscii (A := A.in1) hA _ x t
        · exact Draws.strWide (A := A.in1) hA _ x t
      · obtain ⟨⟨old, e1⟩, ⟨o, e2, _⟩⟩ := st
        rcases List.mem_cons.mp hb with q | q
        · exact ⟨_, q ▸ e1⟩
        · rw [List.mem_singleton.mp q]; exact ⟨o, e2⟩
      · obtain ⟨t', v, ⟨c, u, hc, rfl⟩, rfl⟩ := hp
        have hd' : (signs x)[i]? = some (.str ⟨#[c]⟩) := by unfold signs; rw [List.getElem?_map, Array.getElem?_toList, hc]; rfl
        rw [enum_get hd' hd]
        exact ⟨_, rfl, .cons .int (.one .str)⟩

def zipD (ds es : List D) : List D := List.zipWith (fun d e => .tup [d, e]) ds es
theorem EvIt.zip {elts : List Expr} {k : Nat} {tp np pos : Pos} {e₁ e₂ : Expr} {ds es : List D} (hk : C.env.kindOf "zip" = some .globalImplicit) (h₁ : Ev C Γ e₁ (.lst ds)) (h₂ : Ev C Γ e₂ (.lst es))
    (he : eval (.Call (.Name "zip" np) [e₁, e₂] [] pos) C.env = (do callWith pos (← eval (.Name "zip" np) C.env) [] (backTo pos (starEach [e₁, e₂] C.env)) (backToKw pos (keywordEach [] C.env))) := by rfl)
    (hst : starEach [e₁, e₂] C.env = (false, eval e₁ C.env) :: starEach [e₂] C.env := by rfl) (hst' : starEach [e₂] C.env = [(false, eval e₂ C.env)] := by rfl) : EvIt C Γ (.Tuple elts k tp) (.Call (.Name "zip" np) [e₁, e₂] [] pos) (zipD ds es) := fun X s F => by
  refine Name_type F (by decide) (T := "zip") (by rfl) hk ?_ he hst (by rw [hst']; rfl)
  refine wpAny_items_cons (wpAny_mono (h₁ X s F) (fun v s₁ p => wpAny_items_cons (wpAny_mono (h₂ X s₁ p.1) (fun u s₂ q => wpAny_items_nil ?_) fun _ _ x => x) (by rw [hst']; rfl)) fun _ _ x => x) hst
  obtain ⟨F₁, iv, x₁⟩ := p
  obtain ⟨F₂, iu, x₂⟩ := q
  have iv := iv.ext F.hL' x₂
  obtain ⟨a, vs, rfl, hla, hx, hvs⟩ := iv.lstI
  obtain ⟨b, ws, rfl, hlb, hy, hws⟩ := iu.lstI
  · obtain ⟨n, hoa⟩ := id hla
    obtain ⟨n', hob⟩ := id hlb
    have hlt := Heap.lt_size hoa
    have hlt' := Heap.lt_size hob
    refine call_zip_2 hla.isList hlb.isList fun h' z1 z2 z3 z4 z5 hsz hk' => ?_
    refine wpAny_pyIter_zip z1 ?_
    generalize hN : s₂.heap.objs.size = N at *
    have ne : ∀ {i j : Nat}, i ≠ j → N + i ≠ N + j := fun h q => h (Nat.add_left_cancel q)
    have ne0 : ∀ {j : Nat}, j ≠ 0 → N ≠ N + j := fun h q => h (by omega)
    have Z : ZipApart (N + 4) (N + 2) (N + 3) N (N + 1) a b :=
      ⟨ne (by decide), ne (by decide), ne0 (by decide), ne (by decide), ne (by decide), (ne0 (by decide)).symm, ne (by decide), (ne0 (by decide)).symm, ne (by decide), ne0 (by decide),
        Nat.ne_of_lt (Nat.lt_add_right 4 hlt), Nat.ne_of_lt (Nat.lt_add_right 3 hlt), Nat.ne_of_lt hlt, Nat.ne_of_lt (Nat.lt_add_right 1 hlt), Nat.ne_of_lt (Nat.lt_add_right 4 hlt'), Nat.ne_of_lt (Nat.lt_add_right 3 hlt'), Nat.ne_of_lt hlt', Nat.ne_of_lt (Nat.lt_add_right 1 hlt')⟩
    have hW : ∀ c ∈ [N + 4, N + 3, N, N + 1], ∃ j, c = N + j := fun c hc => by
      simp only [List.mem_cons, List.not_mem_nil, or_false] at hc
      rcases hc with q | q | q | q
      · exact ⟨4, q⟩
      · exact ⟨3, q⟩
      · exact ⟨0, q⟩
      · exact ⟨1, q⟩
    have hnone : ∀ c ∈ [N + 4, N + 3, N, N + 1], s₂.heap.get? c = none := fun c hc => by
      obtain ⟨j, rfl⟩ := hW c hc
      exact get_ge hN (Nat.le_add_right _ _)
    have hoff : ∀ {c o}, s₂.heap.get? c = some o → c ∉ [N + 4, N + 3, N, N + 1] := fun e hm => by rw [hnone _ hm] at e; cases e
    refine EvIt.lay (W := [N + 4, N + 3, N, N + 1]) (e := e₁) (k := s₂.toks) F F₂ (x₁.trans' x₂) hk' hnone (fun c hc => ?_)
      (St := fun i s => (fun (i : Nat) (h : Heap) => IsZip h (N + 4) (N + 2) (N + 3) .none ∧ IsPair h (N + 2) (.ref N) (.ref (N + 1)) ∧ (∃ a b, IsPair h (N + 3) a b) ∧ h.IsListIter N a i ∧ h.IsListIter (N + 1) b i ∧ h.IsList a vs.toArray ∧ h.IsList b ws.toArray) i s.heap) ?_
      ⟨z1, z2, ⟨_, _, z3⟩, z4, z5, hla.isList.at fun o e => hk' _ o e, hlb.isList.at fun o e => hk' _ o e⟩
    · simp only [List.mem_cons, List.not_mem_nil, or_false] at hc
      rcases hc with q | q | q | q
      · exact ⟨_, q ▸ z1⟩
      · exact ⟨_, q ▸ z3⟩
      · obtain ⟨o, e, _⟩ := z4; exact ⟨o, q ▸ e⟩
      · obtain ⟨o, e, _⟩ := z5; exact ⟨o, q ▸ e⟩
    · refine Iter.ofWalksT (fun A hA => WalksT.zip2 hA (N + 4) (N + 2) (N + 3) N (N + 1) a b Z vs.toArray ws.toArray) ?_ (fun c hc => ?_) (fun i h st c hc => ?_) (fun i vals d hp hd => ?_)
      · unfold zipD; rw [List.length_zipWith, List.size_toArray, List.size_toArray, hvs.length, hws.length]
      · simp only [List.mem_cons, List.not_mem_nil, or_false] at hc
        rcases hc with q | q | q | q | q | q | q
        · exact .inl (by simp [q])
        · subst q
          refine .inr ⟨fun hm => ?_, fun hm => ?_, _, z2⟩
          · simp at hm
          · obtain ⟨o, e⟩ := F₂.live _ hm; rw [get_ge hN (Nat.le_add_right _ _)] at e; cases e
        · exact .inl (by simp [q])
        · exact .inl (by simp [q])
        · exact .inl (by simp [q])
        · subst q; exact .inr ⟨hoff hoa, hx, _, hk' _ _ hoa⟩
        · subst q; exact .inr ⟨hoff hob, hy, _, hk' _ _ hob⟩
      · simp only [List.mem_cons, List.not_mem_nil, or_false] at hc
        obtain ⟨y1, y2, ⟨_, _, y3⟩, ⟨o4, y4, _⟩, ⟨o5, y5, _⟩, _⟩ := st
        rcases hc with q | q | q | q
        · exact ⟨_, q ▸ y1⟩
        · exact ⟨_, q ▸ y3⟩
        · exact ⟨_, q ▸ y4⟩
        · exact ⟨_, q ▸ y5⟩
      · obtain ⟨v, w, hv, hw, rfl⟩ := hp
        have hv : vs[i]? = some v := by simpa using hv
        have hw : ws[i]? = some w := by simpa using hw
        have h1 : i < ds.length := by have := (List.getElem?_eq_some_iff.mp hv).1; rw [hvs.length] at this; exact this
        have h2 : i < es.length := by have := (List.getElem?_eq_some_iff.mp hw).1; rw [hws.length] at this; exact this
        have e1 : ds[i]? = some ds[i] := List.getElem?_eq_getElem h1
        have e2 : es[i]? = some es[i] := List.getElem?_eq_getElem h2
        unfold zipD at hd
        rw [List.getElem?_zipWith, e1, e2] at hd
        cases hd
        have up : ∀ {v : Value} {d : D}, Is s₂.heap (C.av X) v d → Is h' ([N + 4, N + 3, N, N + 1] ++ C.av X) v d := fun i => i.mono fun c o hc e => ⟨hk' c o e, fun hm => by
          rcases List.mem_append.mp hm with q | q
          · exact hoff e q
          · exact hc q⟩
        exact ⟨_, rfl, .cons (up (hvs.at' hv e1)) (.one (up (hws.at' hw e2)))⟩
end
end Mine

-- V9
namespace Mine
open PySem PySem.W PySem.Calls PyProof.Rows PySem.SeqAt

/-- the frame of a def without cells; with cells -/
abbrev cx (n : Str) (sc : Scope) (w : World) (A : Around) (L a : Addr) (cd : Value) (h₀ : Heap) (mg mb : Str → Option Value) (X₀ : List Addr) (lv : Nat) : Cx := ⟨w, A, envOf n sc L a cd, h₀, mg, mb, X₀, lv⟩
abbrev cxC (n : Str) (sc : Scope) (w : World) (A : Around) (L a : Addr) (cd : Value) (h₀ : Heap) (mg mb : Str → Option Value) (X₀ : List Addr) (lv : Nat) : Cx := ⟨w, A, envOfC n sc L a cd, h₀, mg, mb, X₀, lv⟩

inductive Prs (h : Heap) (X : List Addr) : List (Str × Value) → Vars → Prop
  | nil : Prs h X [] []
  | cons {x : Str} {v : Value} {d : D} {ps : List (Str × Value)} {Γ : Vars} : Is h X v d → Prs h X ps Γ → Prs h X ((x, v) :: ps) ((x, .val d) :: Γ)
theorem Prs.append {h : Heap} {X : List Addr} : ∀ {ps qs : List (Str × Value)} {Γ Δ : Vars}, Prs h X ps Γ → Prs h X qs Δ → Prs h X (ps ++ qs) (Γ ++ Δ)
  | _, _, _, _, .nil, k => k
  | _, _, _, _, .cons a b, k => .cons a (Prs.append b k)
theorem Prs.reverse {h : Heap} {X : List Addr} : ∀ {ps : List (Str × Value)} {Γ : Vars}, Prs h X ps Γ → Prs h X ps.reverse Γ.reverse
  | _, _, .nil => .nil
  | _, _, .cons a b => by rw [List.reverse_cons, List.reverse_cons]; exact (Prs.reverse b).append (.cons a .nil)
theorem Prs.zip {h : Heap} {X : List Addr} : ∀ {names : List Str} {vs : List Value} {ds : List D}, Are h X vs ds → Prs h X (names.zip vs) (names.zip (ds.map .val))
  | [], _, _, _ => .nil
  | _ :: _, _, _, .nil => .nil
  | _ :: _, _, _, .cons a b => .cons a (Prs.zip b)
theorem Prs.look {h : Heap} {X : List Addr} {x : Str} {b : B} : ∀ {ps : List (Str × Value)} {Γ : Vars}, Prs h X ps Γ → Γ.lookup x = some b → ∃ d v, b = .val d ∧ ps.lookup x = some v ∧ Is h X v d
  | _, _, .nil, e => by cases e
  | _, _, .cons (x := y) (v := v) a r, e => by
    rw [List.lookup_cons] at e ⊢
    cases q : x == y with
    | true => rw [q] at e; cases e; exact ⟨_, _, rfl, rfl, a⟩
    | false => rw [q] at e; exact Prs.look r e

theorem Fn.of {i N : Nat} {n : Str} {ar : Arguments} {b : List Stmt} {sc : Scope} {args : List D} {d : D} (names : List Str) (hf : fnAt i = some (n, ar, b, sc)) (hlen : names.length = args.length) (hN : N < 100)
    (hb : ∀ pm cd doc vs, vs.length = names.length → bindArgs (docDef n ar b sc pm cd doc) ⟨vs, []⟩ = pure (names.zip vs))
    (hn : (names.all fun x => decide (sc.names.lookup x = some .local)) = true)
    (h : ∀ w A L a cd h₀ mg mb X₀ lv, lv ≤ N + 1 → Exs (cx n sc w A L a cd h₀ mg mb X₀ lv) (names.zip (args.map .val)).reverse b (.ret d))
    (hco : sc.isCoroutine = false := by rfl) (hgen : sc.isGenerator = false := by rfl) (hk : sc.kind = .function := by rfl)
    (hcell : ∀ x ∈ sc.names, x.2 ≠ .cell := by decide) : Fn i N args d := by
  intro n' ar' b' sc' hf' w A mg mb X₀ s f vs lv G hfa hh hd hu hlv hlive ha
  rw [hf] at hf'; cases hf'
  obtain ⟨o, pm, cd, doc, ho, hdat, hcd⟩ := hfa
  have hvl : vs.length = names.length := by rw [ha.length, hlen]
  refine wpAny_call (call_plain_ret (by have : recursionLimit = 1000 := rfl; omega) ho hdat G.lim hcd (hb pm cd doc vs hvl) (fun x hx => ?_) (fun h₁ F₁ => ?_) hco hgen hk hcell)
  · have := List.all_eq_true.mp hn x.1 (List.of_mem_zip hx).1
    exact of_decide_eq_true this
  · have hLn : s.heap.get? s.heap.objs.size = none := get_size _
    have hLX : s.heap.objs.size ∉ X₀ := fun q => by obtain ⟨o, e⟩ := hlive _ q; rw [hLn] at e; cases e
    have hIs : ∀ {v d}, Is s.heap X₀ v d → Is h₁ (s.heap.objs.size :: X₀) v d := fun i => i.mono fun c o hc e => ⟨F₁.keep c o e, fun q => by
      rcases List.mem_cons.mp q with q | q
      · rw [q, hLn] at e; cases e
      · exact hc q⟩
    have FS0 : FS (cx n sc w (A.deeper (envOf n sc s.heap.objs.size f cd)) s.heap.objs.size f cd s.heap mg mb X₀ (lv + 1)) [s.heap.objs.size] (names.zip (args.map .val)).reverse { s with heap := h₁, toks := s.toks + (names.zip vs).length } := by
      refine ⟨⟨hk, rfl, rfl, hh, ?_, ?_, show lv + 1 ≤ 100 by omega, G⟩, ⟨_, F₁, fun x b e => ?_, fun x y ds es a e1 e2 e3 e4 => ?_⟩, List.mem_singleton.mpr rfl, fun a ha => ?_, fun a ha => ?_, fun a ha => ?_⟩
      · show A.depth + 1 ≤ 400 + (lv + 1); omega
      · show A.units + 3 ≤ 1000 + 20 * (lv + 1); omega
      · obtain ⟨d, v, rfl, e, i⟩ := (Prs.zip (names := names) ha).reverse.look e
        exact ⟨v, e, hIs i⟩
      · obtain ⟨d, v, q, _⟩ := (Prs.zip (names := names) ha).reverse.look e1; cases q
      · rcases List.mem_cons.mp ha with q | q
        · rw [q]; obtain ⟨o, _, _, e, _⟩ := F₁.ns; exact ⟨o, e⟩
        · obtain ⟨o, e⟩ := hlive a q; exact ⟨o, F₁.keep a o e⟩
      · rw [List.mem_singleton.mp ha]; exact hLn
      · rw [List.mem_singleton.mp ha]; exact hLX
    refine wpAny_mono (h w _ _ _ _ _ mg mb X₀ (lv + 1) (by omega) _ _ FS0) (fun fl s' e => ?_) fun _ _ x => x
    obtain ⟨X', ok, x, g⟩ := e
    cases fl with
    | ret v => exact ⟨ok, ⟨fun b o _ e => x.keep b o (fun q => by rw [List.mem_singleton.mp q, hLn] at e; cases e) (F₁.keep b o e), x.gens, x.fin, x.size, x.os⟩⟩
    | _ => exact ok.elim

theorem Fn.ofC {i N : Nat} {n : Str} {ar : Arguments} {b : List Stmt} {sc : Scope} {args : List D} {d : D} (names : List Str) (Γ : Vars) (hf : fnAt i = some (n, ar, b, sc)) (hlen : names.length = args.length) (hN : N < 100)
    (hb : ∀ pm cd doc vs, vs.length = names.length → bindArgs (docDef n ar b sc pm cd doc) ⟨vs, []⟩ = pure (names.zip vs))
    (hn : ∀ L, ∀ x ∈ names, sc.names.lookup x = some .local ∨ (sc.names.lookup x = some .cell ∧ ((cellsFrom (L + 1) sc.names []).lookup x).isSome = true))
    (hΓ : ∀ h X L vs, Are h X vs args → ∀ x b, Γ.lookup x = some b → (∃ d v, b = .val d ∧ bindL (envOfC n sc L L .none).kindOf (names.zip vs) (fun _ => none) x = some v ∧ Is h X v d) ∨
      (∃ d c v, b = .cell d ∧ (cellsFrom (L + 1) sc.names []).lookup x = some c ∧ bindC (envOfC n sc L L .none).kindOf (names.zip vs) (fun _ => none) x = some v ∧ Is h X v d) ∨
      (∃ c, b = .cell0 ∧ (cellsFrom (L + 1) sc.names []).lookup x = some c ∧ bindC (envOfC n sc L L .none).kindOf (names.zip vs) (fun _ => none) x = none))
    (h : ∀ w A L a cd h₀ mg mb X₀ lv, lv ≤ N + 1 → Exs (cxC n sc w A L a cd h₀ mg mb X₀ lv) Γ b (.ret d))
    (hnd : ∀ L n c, (n, c) ∈ cellsFrom (L + 1) sc.names [] → (cellsFrom (L + 1) sc.names []).lookup n = some c)
    (hco : sc.isCoroutine = false := by rfl) (hgen : sc.isGenerator = false := by rfl) (hk : sc.kind = .function := by rfl) : Fn i N args d := by
  intro n' ar' b' sc' hf' w A mg mb X₀ s f vs lv G hfa hh hd hu hlv hlive ha
  rw [hf] at hf'; cases hf'
  obtain ⟨o, pm, cd, doc, ho, hdat, hcd⟩ := hfa
  have hvl : vs.length = names.length := by rw [ha.length, hlen]
  refine wpAny_call (call_cells_ret (by have : recursionLimit = 1000 := rfl; omega) ho hdat G.lim hcd (hb pm cd doc vs hvl) (fun x hx => hn _ _ (List.of_mem_zip hx).1) (fun h₁ tk F₁ K => ?_) hco hgen hk)
  let L := s.heap.objs.size
  let cs := cellsFrom (L + 1) sc.names []
  have hnone : ∀ a : Nat, L ≤ a → s.heap.get? a = none := fun a ha => by
    cases e : s.heap.get? a with
    | none => rfl
    | some o => exact absurd (Heap.lt_size e) (Nat.not_lt.mpr ha)
  let X : List Addr := L :: cs.map (·.2)
  have hge : ∀ a ∈ X, s.heap.get? a = none := fun a ha => by
    rcases List.mem_cons.mp ha with q | q
    · rw [q]; exact hnone _ (Nat.le_refl _)
    · obtain ⟨p, hp, rfl⟩ := List.mem_map.mp q
      exact hnone _ (Nat.le_of_lt (K.above p.1 p.2 hp))
  have hX0 : ∀ a ∈ X, a ∉ X₀ := fun a ha q => by obtain ⟨o, e⟩ := hlive _ q; rw [hge a ha] at e; cases e
  have hIs : ∀ {v d}, Is s.heap X₀ v d → Is h₁ (X ++ X₀) v d := fun i => i.mono fun c o hc e => ⟨F₁.keep c o e, fun q => by
    rcases List.mem_append.mp q with q | q
    · rw [hge c q] at e; cases e
    · exact hc q⟩
  have FS0 : FS (cxC n sc w (A.deeper (envOfC n sc L f cd)) L f cd s.heap mg mb X₀ (lv + 1)) X Γ { s with heap := h₁, toks := tk } := by
    refine ⟨⟨hk, rfl, rfl, hh, ?_, ?_, show lv + 1 ≤ 100 by omega, G⟩, ⟨_, F₁, fun x b e => ?_, fun x y ds es a e1 e2 e3 e4 => ?_⟩, List.mem_cons_self, fun a ha => ?_, hge, hX0⟩
    · show A.depth + 1 ≤ 400 + (lv + 1); omega
    · show A.units + 3 ≤ 1000 + 20 * (lv + 1); omega
    · rcases hΓ _ _ L vs ha x b e with ⟨d, v, rfl, e, i⟩ | ⟨d, c, v, rfl, e, e', i⟩ | ⟨c, rfl, e, e'⟩
      · exact ⟨v, e, hIs i⟩
      · have hcX : c ∈ X := by
          have : (x, c) ∈ cs := by
            have := List.lookup_eq_some_iff.mp e
            obtain ⟨l₁, l₂, q, _⟩ := this
            show (x, c) ∈ cellsFrom (L + 1) sc.names []
            rw [q]; exact List.mem_append_right _ (.head _)
          exact List.mem_cons_of_mem _ (List.mem_map.mpr ⟨_, this, rfl⟩)
        have := K.cell x c e
        refine ⟨c, v, e, ?_, hIs i, hX0 c hcX, fun _ => hcX⟩
        rw [show bindC (envOfC n sc s.heap.objs.size f cd).kindOf (names.zip vs) (fun _ => none) x = some v from e'] at this
        exact this
      · have hcX : c ∈ X := by
          have : (x, c) ∈ cs := by
            have := List.lookup_eq_some_iff.mp e
            obtain ⟨l₁, l₂, q, _⟩ := this
            show (x, c) ∈ cellsFrom (L + 1) sc.names []
            rw [q]; exact List.mem_append_right _ (.head _)
          exact List.mem_cons_of_mem _ (List.mem_map.mpr ⟨_, this, rfl⟩)
        have := K.cell x c e
        refine ⟨c, e, ?_, hcX⟩
        rw [show bindC (envOfC n sc s.heap.objs.size f cd).kindOf (names.zip vs) (fun _ => none) x = none from e'] at this
        exact this
    · rcases hΓ _ _ L vs ha x _ e1 with ⟨_, _, q, _⟩ | ⟨_, _, _, q, _⟩ | ⟨_, q, _⟩ <;> cases q
    · rcases List.mem_append.mp ha with q | q
      · rcases List.mem_cons.mp q with q | q
        · rw [q]; obtain ⟨o, _, _, e, _⟩ := F₁.ns; exact ⟨o, e⟩
        · obtain ⟨p, hp, rfl⟩ := List.mem_map.mp q
          obtain ⟨o, e, _⟩ := K.cell p.1 p.2 (hnd L p.1 p.2 hp); exact ⟨o, e⟩
      · obtain ⟨o, e⟩ := hlive a q; exact ⟨o, F₁.keep a o e⟩
  refine wpAny_mono (h w _ _ _ _ _ mg mb X₀ (lv + 1) (by omega) _ _ FS0) (fun fl s' e => ?_) fun _ _ x => x
  obtain ⟨X', ok, x, g⟩ := e
  cases fl with
  | ret v => exact ⟨ok, ⟨fun b o _ e => x.keep b o (fun q => by rw [hge b q] at e; cases e) (F₁.keep b o e), x.gens, x.fin, x.size, x.os⟩⟩
  | _ => exact ok.elim

theorem Fn.mono {i N N' : Nat} {args : List D} {d : D} (h : Fn i N args d) (k : N' ≤ N) : Fn i N' args d :=
  fun n ar b sc hf w A mg mb X₀ s f vs lv a1 a2 a3 a4 a5 a6 => h n ar b sc hf w A mg mb X₀ s f vs lv a1 a2 a3 a4 a5 (Nat.le_trans a6 k)
end Mine

-- V10
namespace Mine
open PySem PySem.W PySem.Calls PyProof.Rows PySem.SeqAt

section
variable {C : Cx} {Γ : Vars}

theorem Are.L {X : List Addr} {s s' : Shared} {v : List Value} {d : List D} (i : Are s.heap (C.av X) v d) (hL : C.L ∈ C.av X) (x : Ext [C.L] s s') : Are s'.heap (C.av X) v d :=
  i.mono fun b o hb e => ⟨x.keep b o (fun q => hb ((List.mem_singleton.mp q) ▸ hL)) e, hb⟩
theorem Is.L {X : List Addr} {s s' : Shared} {v : Value} {d : D} (i : Is s.heap (C.av X) v d) (hL : C.L ∈ C.av X) (x : Ext [C.L] s s') : Is s'.heap (C.av X) v d :=
  i.mono fun b o hb e => ⟨x.keep b o (fun q => hb ((List.mem_singleton.mp q) ▸ hL)) e, hb⟩

/-- several targets in their order -/
def AsIn (C : Cx) (Γ : Vars) (elts : List Expr) (ds : List D) (Γ' : Vars) : Prop :=
  ∀ X s vs, FS C X Γ s → Are s.heap (C.av X) vs ds → wpAny C.M C.A (assignInOrder ((assignEach elts C.env).map (·.2)) vs) (fun _ s' => FS C X Γ' s' ∧ Ext [C.L] s s') no s
theorem AsIn.nil : AsIn C Γ [] [] Γ := fun X s vs F a => by cases a; exact wpAny_pure ⟨F, Ext.refl _ _⟩
theorem AsIn.cons {e : Expr} {es : List Expr} {d : D} {ds : List D} {Γ' Γ'' : Vars} (h : As C Γ e d Γ') (k : AsIn C Γ' es ds Γ'') (he : assignEach (e :: es) C.env = (false, fun v => PySem.assign e C.env v) :: assignEach es C.env := by rfl) : AsIn C Γ (e :: es) (d :: ds) Γ'' := fun X s vs F a => by
  cases a with | cons a as =>
  rw [he]
  refine assignInOrder_cons (wpAny_mono (h X s _ F a) (fun _ s₁ p => wpAny_mono (k X s₁ _ p.1 (as.L F.hL' p.2)) (fun _ s₂ q => ⟨q.1, p.2.trans' q.2⟩) fun _ _ x => x) fun _ _ x => x)
theorem As.tup {elts : List Expr} {k : Nat} {pos : Pos} {ds : List D} {Γ' : Vars} (h : AsIn C Γ elts ds Γ') (hn : (assignEach elts C.env).length = ds.length := by rfl) (hst : (assignEach elts C.env).findIdx? (·.1) = none := by rfl) : As C Γ (.Tuple elts k pos) (.tup ds) Γ' := fun X s v F i => by
  obtain ⟨_, _, rfl, ht, hx, hs⟩ := i.tupI
  refine assign_Tuple_tuple F.ok.hand ht (by rw [hn, List.size_toArray, hs.length]) hst fun h' hk => ?_
  have hk' : ∀ b o, s.heap.get? b = some o → h'.get? b = some o := fun b o e => hk b o (fun q => by rw [q, get_size] at e; cases e) e
  have x₁ : Ext [C.L] s { s with heap := h' } := Ext.heap (k := s.toks) fun b o _ e => hk' b o e
  refine wpAny_mono (h X { s with heap := h' } _ (F.keeps hk') (hs.L F.hL' x₁)) (fun _ s₂ q => ⟨q.1, x₁.trans' q.2⟩) fun _ _ x => x

theorem Ex.assignTup {elts : List Expr} {e : Expr} {k : Nat} {tp pos : Pos} {ds : List D} {Γ' : Vars} (h : Ev C Γ e (.tup ds)) (ha : As C Γ (.Tuple elts k tp) (.tup ds) Γ')
    (he : assignEach [.Tuple elts k tp] C.env = [(false, fun v => PySem.assign (.Tuple elts k tp) C.env v)] := by rfl)
    (hs : swapsWithSole [.Tuple elts k tp] e pos.line C.env = pure false := by rfl) (hw : swappedStores [.Tuple elts k tp] e C.env = pure Option.none := by rfl) : Ex C Γ (.Assign [.Tuple elts k tp] e pos) (.next Γ') := fun X s F => by
  refine wpAny_Assign_stores (wpAny_mono (h X s F) (fun v s₁ p => ?_) fun _ _ x => x) hs hw
  rw [he]
  exact wpAny_mono (ha X s₁ v p.1 p.2.1) (fun _ s₂ q => ⟨X, q.1, (F.toX p.2.2).trans' (F.toX' q.2), fun _ h => .inl h⟩) fun _ _ x => x

/-- two names at once, out of two expressions: the stores are exchanged -/
theorem Ex.assignSwap {x y : Str} {np1 np2 tp vp pos : Pos} {k vk : Nat} {e₁ e₂ : Expr} {a b : D} (hx : C.env.kindOf x = some .local) (hy : C.env.kindOf y = some .local)
    (hev : Evs C Γ [e₁, e₂] [a, b])
    (hs : swapsWithSole [.Tuple [.Name x np1, .Name y np2] k tp] (.Tuple [e₁, e₂] vk vp) pos.line C.env = pure false := by rfl) (hw : swappedStores [.Tuple [.Name x np1, .Name y np2] k tp] (.Tuple [e₁, e₂] vk vp) C.env = pure (some [x, y]) := by rfl) :
    Ex C Γ (.Assign [.Tuple [.Name x np1, .Name y np2] k tp] (.Tuple [e₁, e₂] vk vp) pos) (.next ((x, .val a) :: (y, .val b) :: Γ)) := fun X s F => by
  rw [arm_exec_Assign]
  refine wpAny_bind (wpAny_standAt ?_)
  rw [hs]
  refine wpAny_bind (wpAny_pure ?_)
  rw [if_neg (by decide)]
  refine wpAny_bind (wpAny_mono (Ev.tuple hev (by show 2 ≤ 1000; decide) X s F) (fun v s₁ p => ?_) fun _ _ x => x)
  rw [hw]
  refine wpAny_bind (wpAny_pure ?_)
  obtain ⟨F₁, i, x₁⟩ := p
  obtain ⟨_, _, rfl, ht, hX, hvs⟩ := i.tupI
  cases hvs with | cons v1 hvs => cases hvs with | cons v2 hvs => cases hvs with | nil =>
  show wpAny _ _ (do rule "assign.swapped-stores"; let items ← unpackItems _ 2 Option.none; assignInOrder _ items.reverse; pure Flow.next) _ _ _
  refine wpAny_bind (wpAny_rule ?_)
  refine wpAny_bind (unpackItems_tuple (items := #[_, _]) F.ok.hand ht fun h' hk => ?_)
  have hk' : ∀ b o, s₁.heap.get? b = some o → h'.get? b = some o := fun b o e => hk b o (fun q => by rw [q, get_size] at e; cases e) e
  have x₂ : Ext [C.L] s₁ { s₁ with heap := h' } := Ext.heap (k := s₁.toks) fun b o _ e => hk' b o e
  refine wpAny_bind (wpAny_mono (Q := fun _ s' => FS C X ((x, .val a) :: (y, .val b) :: Γ) s' ∧ Ext [C.L] s₁ s') ?_ (fun _ s' q => wpAny_pure ⟨X, q.1, (F.toX x₁).trans' (F.toX' q.2), fun _ h => .inl h⟩) fun _ _ x => x)
  refine assignInOrder_cons ?_
  refine wpAny_bindName ?_
  refine wpAny_mono ((F₁.keeps hk').store (x := y) (v2.L F₁.hL' x₂) hy) (fun _ s₃ q => ?_) fun _ _ x => x
  refine assignInOrder_cons ?_
  refine wpAny_bindName ?_
  refine wpAny_mono (q.1.store (x := x) ((v1.L F₁.hL' x₂).L F₁.hL' q.2) hx) (fun _ s₄ r => ?_) fun _ _ x => x
  exact assignInOrder_nil ⟨r.1, (x₂.trans' q.2).trans' r.2⟩

theorem Ex.while {test : Expr} {body : List Stmt} {pos : Pos} (inv : Nat → Vars) (m : Nat) (h0 : ∀ x b, (inv 0).lookup x = some b → b = .any ∨ Γ.lookup x = some b)
    (turn : ∀ k, k < m → Tr C (inv k) test true ∧ Exs C (inv k) body (.next (inv (k + 1))))
    {o : Out} (fin : (Tr C (inv m) test false ∧ o = .next (inv m)) ∨ ∃ Γ', Tr C (inv m) test true ∧ Exs C (inv m) body (.brk Γ') ∧ o = .next Γ') : Ex C Γ (.While test body [] pos) o := fun X s F => by
  refine wpAny_While ?_
  let I : Nat → Shared → Prop := fun n s' => ∃ k X', n = m + 1 - k ∧ k ≤ m ∧ FS C X' (inv k) s' ∧ Ext X s s' ∧ ∀ a ∈ X', a ∈ X ∨ s.heap.get? a = none
  refine codeAny_whileLoop I (fun n s' hI => ?_) (m + 1) ⟨0, X, rfl, Nat.zero_le _, F.weak h0, Ext.refl _ _, fun _ h => .inl h⟩
  obtain ⟨k, X', rfl, hk, F', x', g'⟩ := hI
  have eq : ∀ {o : Out} {f : Flow} {s'' s₃ : Shared}, XL C.L s' s'' → Ends C X' s'' o f s₃ → Ends C X s o f s₃ := fun xl e => (e.after' (F'.toX xl)).after x' g'
  rcases Nat.lt_or_ge k m with hlt | hge
  · obtain ⟨ht, hb⟩ := turn k hlt
    refine wpAny_mono (ht X' s' F') (fun b s'' h => ?_) fun _ _ x => x.elim
    obtain ⟨rfl, F'', xl⟩ := h
    rw [if_pos rfl]
    refine wpAny_mono (hb X' s'' F'') (fun f s₃ h => ?_) fun _ _ x => x.elim
    obtain ⟨Y, ok, x, g⟩ := eq xl h
    cases f <;> first | exact ok.elim | exact ⟨m + 1 - (k + 1), by omega, k + 1, Y, rfl, hlt, ok, x, g⟩
  · obtain rfl : k = m := Nat.le_antisymm hk hge
    rcases fin with ⟨ht, rfl⟩ | ⟨Γ', ht, hb, rfl⟩
    · refine wpAny_mono (ht X' s' F') (fun b s'' h => ?_) fun _ _ x => x.elim
      obtain ⟨rfl, F'', xl⟩ := h
      rw [if_neg Bool.false_ne_true]
      exact wpAny_execs_nil (eq xl ⟨X', F'', Ext.refl _ _, fun _ h => .inl h⟩)
    · refine wpAny_mono (ht X' s' F') (fun b s'' h => ?_) fun _ _ x => x.elim
      obtain ⟨rfl, F'', xl⟩ := h
      rw [if_pos rfl]
      refine wpAny_mono (hb X' s'' F'') (fun f s₃ h => ?_) fun _ _ x => x.elim
      have := eq xl h
      cases f with
      | brk => obtain ⟨Y, ok, x, g⟩ := this; exact ⟨Y, ok, x, g⟩
      | _ => obtain ⟨Y, ok, _⟩ := this; exact ok.elim
end
end Mine

-- V11
namespace Mine
open PySem PySem.W PySem.Calls PyProof.Rows PySem.SeqAt

section
variable {C : Cx} {Γ : Vars}

theorem Ex.extend {x : Str} {np ap pos pos' : Pos} {e : Expr} {ds es : List D} (hx : Γ.lookup x = some (.own ds)) (h : Ev C Γ e (.lst es)) (hn : ds.length + es.length ≤ 1000000) (hl : C.env.kindOf x = some .local)
    {pl : Sem Bool}
    (he : eval (.Call (.Attribute (.Name x np) "extend" ap) [e] [] pos) C.env = (do
      let ov ← eval (.Name x np) C.env
      standAt ap.atName
      let (f, first) ← holding [ov] (getMethod ov "extend" pl)
      callWith pos f first (backTo pos (starEach [e] C.env)) []) := by rfl)
    (hst : starEach [e] C.env = [(false, eval e C.env)] := by rfl)
    (hi : interactive C.env = false := by rfl) (hs : swapsWith (.Call (.Attribute (.Name x np) "extend" ap) [e] [] pos) none pos'.line C.env = pure false := by rfl)
    (hd : (x == ("__debug__" : Str)) = false := by decide) :
    Ex C Γ (.Expr (.Call (.Attribute (.Name x np) "extend" ap) [e] [] pos) pos') (.next ((x, .own (ds ++ es)) :: Γ)) := fun X s F => by
  obtain ⟨m, a, vs, hm, em, ha, hla, hv⟩ := F.table hx
  refine wpAny_Expr (MethodCall_ (pl := pl) ?_ he) hi hs
  refine wpAny_Name (wpAny_loadName_local F.ok.kind hl hm em ?_) hd
  obtain ⟨n, hoa⟩ := id hla
  refine getMethod_list_of PySem.F.slot_list_extend PySem.F.type_list_extend hla.isList ⟨_, hoa, rfl⟩ ?_
  refine callWith_method1 ?_ (by rw [hst]; rfl)
  refine wpAny_items_cons (wpAny_mono (h X s F) (fun v s₁ p => wpAny_items_nil ?_) fun _ _ x => x) (by rw [hst]; rfl)
  obtain ⟨F₁, i, x₁⟩ := p
  obtain ⟨b, ws, rfl, hb, hbX, hbs⟩ := i.lstI
  have hm₁ := x₁.tab m hm
  obtain ⟨m₂, a₂, vs₂, hm₂, em₂, ha₂, hla₂, hv₂⟩ := F₁.table hx
  obtain rfl := Ns.uniq hm₂ hm₁
  rw [em] at em₂; cases em₂
  obtain ⟨n₂, ho₂⟩ := id hla₂
  obtain ⟨nb, hob⟩ := id hb
  have hlen := hbs.length
  have hlen2 := hv₂.length
  have hsz' : vs₂.toArray.size + ws.toArray.size ≤ sizeLine := by rw [List.size_toArray, List.size_toArray]; unfold sizeLine; omega
  refine call_meets PySem.F.slot_list_extend ⟨_, ho₂, rfl⟩ PySem.F.entry_list_extend (PySem.F.args_list_extend_2 _ _) (AutoSeq1.list_extend_list_list_0 a vs₂.toArray n₂ b ws.toArray nb (extend_door hsz') (Nat.le_trans (Nat.le_add_right _ _) hsz')) ⟨ho₂, hob, ?_⟩
  have e : vs₂.toArray ++ ws.toArray = (vs₂ ++ ws).toArray := by simp
  have ho' : (s₁.heap.update a (Obj.mapSeq fun x => x ++ ws.toArray)).get? a = some { cls := .type "list", data := .seq (vs₂ ++ ws).toArray (if (vs₂.toArray ++ ws.toArray).size == vs₂.toArray.size then n₂ else n₂ + 1) } := by
    rw [Heap.get?_update_self _ ho₂ (by rw [mapSeq_app]; rfl), mapSeq_app, e]
  have t := F₁.turned (k := s₁.toks) hm₁ hx em (vs' := vs₂ ++ ws) ⟨_, ho'⟩ (Heap.SameBut.update ..) (hv₂.append hbs)
  exact ⟨X, t.1, (F.toX x₁).trans' t.2, fun _ h => .inl h⟩

theorem Ev.lower {o : Expr} {ap pos : Pos} {x y : Str} (h : Ev C Γ o (.str x)) (hn : x.length ≤ 100000) (hy : Txt.lower x = y) {pl : Sem Bool}
    (he : eval (.Call (.Attribute o "lower" ap) [] [] pos) C.env = (do
      let ov ← eval o C.env
      standAt ap.atName
      let (f, first) ← holding [ov] (getMethod ov "lower" pl)
      callWith pos f first (backTo pos (starEach [] C.env)) []) := by rfl) : Ev C Γ (.Call (.Attribute o "lower" ap) [] [] pos) (.str y) := fun X s F => by
  subst hy
  refine MethodCall_ (pl := pl) (wpAny_mono (h X s F) (fun v s₁ p => ?_) fun _ _ x => x) he
  obtain ⟨F₁, i, x₁⟩ := p
  obtain ⟨_, rfl⟩ := i.strI
  refine GM.lower ?_
  refine callWith_method0 ?_
  exact SCL.lower (by omega) fun _ => Post.after x₁ (Post.same F₁ .str)

theorem Are.strs {h : Heap} {X : List Addr} {ys : List Str} {vs : List Value} (x : Are h X vs (ys.map .str)) : StrsAre vs ys := by
  induction ys generalizing vs with
  | nil => rw [Are.nilI x]; exact .nil
  | cons y ys ih =>
    obtain ⟨v, vs', rfl, i, r⟩ := Are.consI x
    obtain ⟨t, rfl⟩ := i.strI
    exact .cons _ _ (ih r)

theorem Ev.join {o e : Expr} {ap pos : Pos} {x : Str} {ys : List Str} (h : Ev C Γ o (.str x)) (hl : Ev C Γ e (.lst (ys.map .str))) (hsep : x.length ≤ 16) (hw : (ys.map (·.length)).sum + ys.length ≤ 1048576) {pl : Sem Bool}
    (he : eval (.Call (.Attribute o "join" ap) [e] [] pos) C.env = (do
      let ov ← eval o C.env
      standAt ap.atName
      let (f, first) ← holding [ov] (getMethod ov "join" pl)
      callWith pos f first (backTo pos (starEach [e] C.env)) []) := by rfl)
    (hst : starEach [e] C.env = [(false, eval e C.env)] := by rfl) : Ev C Γ (.Call (.Attribute o "join" ap) [e] [] pos) (.str (Txt.join x ys)) := fun X s F => by
  refine MethodCall_ (pl := pl) (wpAny_mono (h X s F) (fun v s₁ p => ?_) fun _ _ x => x) he
  obtain ⟨F₁, i, x₁⟩ := p
  obtain ⟨_, rfl⟩ := i.strI
  refine GM.join ?_
  refine callWith_method1 ?_ (by rw [hst]; rfl)
  refine wpAny_items_cons (wpAny_mono (hl X s₁ F₁) (fun v s₂ p => wpAny_items_nil ?_) fun _ _ x => x) (by rw [hst]; rfl)
  obtain ⟨F₂, i, x₂⟩ := p
  obtain ⟨_, _, rfl, hb, hbX, hbs⟩ := i.lstI
  refine join_listW hb.isList hbs.strs hsep hw fun t' k => ?_
  exact Post.after x₁ (Post.after x₂ (Post.same F₂ .str))

theorem getMethod_dict {K : Type} [DecidableEq K] {knd : KeyKind P C.w K} {pl : Sem Bool} {a : Addr} {f : K → Option Value} {s : Shared} {Q : Value × List Value → Shared → Prop} {E : Value → Shared → Prop} (M : s.heap.MapOf knd a f) (h : Q (.builtin "dict.get", [.ref a]) s) : wpAny C.M C.A (getMethod (.ref a) "get" pl) Q E s := by
  obtain ⟨o, es, ep, ho, hx, hd, _⟩ := id M
  exact getMethod_builtin M.typeIs PySem.F.plainAttrs_dict PySem.F.slot_dict_get PySem.F.type_dict_get (fun b e => by cases e; exact ⟨o, ho, hx.2.1⟩) h

theorem Ev.getB3 {e : Expr} {np ap pos : Pos} {i : Int} {d : D} (h : Ev C Γ e (.int i)) (hk : C.env.kindOf "b3_exceptions" = some .globalImplicit) (hd : (∃ x, (i, x) ∈ b3t ∧ d = .str x) ∨ (i < 181 ∧ d = .none)) {pl : Sem Bool}
    (he : eval (.Call (.Attribute (.Name "b3_exceptions" np) "get" ap) [e] [] pos) C.env = (do
      let ov ← eval (.Name "b3_exceptions" np) C.env
      standAt ap.atName
      let (f, first) ← holding [ov] (getMethod ov "get" pl)
      callWith pos f first (backTo pos (starEach [e] C.env)) []) := by rfl)
    (hst : starEach [e] C.env = [(false, eval e C.env)] := by rfl) : Ev C Γ (.Call (.Attribute (.Name "b3_exceptions" np) "get" ap) [e] [] pos) d := fun X s F => by
  obtain ⟨a, f, em, hs, M, h1, h2⟩ := F.G.b3
  refine MethodCall_ (pl := pl) (Ev.nameG F em hk ?_) he
  refine getMethod_dict M ?_
  refine callWith_method1 ?_ (by rw [hst]; rfl)
  refine wpAny_items_cons (wpAny_mono (h X s F) (fun v s₂ p => wpAny_items_nil ?_) fun _ _ x => x) (by rw [hst]; rfl)
  obtain ⟨F₂, j, x₂⟩ := p
  obtain ⟨_, rfl⟩ := j.intI
  obtain ⟨a', f', em', _, M', h1, h2⟩ := F₂.G.b3
  rw [em] at em'; cases em'
  refine call_meetsIn PySem.F.slot_dict_get M'.typeIs PySem.F.entry_dict_get (PySem.F.args_dict_get_2 _ _) (meets_dict_get (intKind P C.w) (k := i) a (intKind_is _ _ _ _) hs) ⟨f', M', ?_⟩
  show Post C X Γ s d _ _
  refine Post.after x₂ (Post.same F₂ ?_)
  rcases hd with ⟨x, hx, rfl⟩ | ⟨hi, rfl⟩
  · obtain ⟨t, e⟩ := h1 _ hx
    rw [show f' i = some (.str x t) from e]; exact .str
  · rw [h2 i hi]; exact .none

theorem Ev.getEt {e e' : Expr} {np ap pos : Pos} {x : Str} {i : Int} (h : Ev C Γ e (.str x)) (h' : Ev C Γ e' (.int 256)) (hk : C.env.kindOf "EXACT_TOKEN_TYPES" = some .globalImplicit) (hd : (x, i) ∈ ett ∨ (x ∈ etn ∧ i = 256)) {pl : Sem Bool}
    (he : eval (.Call (.Attribute (.Name "EXACT_TOKEN_TYPES" np) "get" ap) [e, e'] [] pos) C.env = (do
      let ov ← eval (.Name "EXACT_TOKEN_TYPES" np) C.env
      standAt ap.atName
      let (f, first) ← holding [ov] (getMethod ov "get" pl)
      callWith pos f first (backTo pos (starEach [e, e'] C.env)) []) := by rfl)
    (hst : starEach [e, e'] C.env = [(false, eval e C.env), (false, eval e' C.env)] := by rfl) (hst' : starEach [e'] C.env = [(false, eval e' C.env)] := by rfl) : Ev C Γ (.Call (.Attribute (.Name "EXACT_TOKEN_TYPES" np) "get" ap) [e, e'] [] pos) (.int i) := fun X s F => by
  obtain ⟨a, f, em, hs, M, h1, h2⟩ := F.G.et
  refine MethodCall_ (pl := pl) (Ev.nameG F em hk ?_) he
  refine getMethod_dict M ?_
  refine callWith_method1 ?_ (by rw [hst, hst']) (by rw [hst']; rfl)
  refine wpAny_items_cons (wpAny_mono (h X s F) (fun v s₂ p => ?_) fun _ _ x => x) (by rw [hst, hst'])
  obtain ⟨F₂, j, x₂⟩ := p
  obtain ⟨_, rfl⟩ := j.strI
  refine wpAny_items_cons (wpAny_mono (h' X s₂ F₂) (fun v s₃ p => wpAny_items_nil ?_) fun _ _ x => x) (by rw [hst']; rfl)
  obtain ⟨F₃, j, x₃⟩ := p
  obtain ⟨_, rfl⟩ := j.intI
  obtain ⟨a', f', em', _, M', h1, h2⟩ := F₃.G.et
  rw [em] at em'; cases em'
  refine call_meetsIn PySem.F.slot_dict_get M'.typeIs PySem.F.entry_dict_get (PySem.F.args_dict_get_3 _ _ _) (meets_dict_get_default (strKind P C.w) (k := x) a (strKind_is _ _ _ _) hs _) ⟨f', M', ?_⟩
  show Post C X Γ s (.int i) _ _
  refine Post.after x₂ (Post.after x₃ (Post.same F₃ ?_))
  rcases hd with hx | ⟨hx, rfl⟩
  · obtain ⟨t, e⟩ := h1 _ hx
    rw [show f' x = some (.int i t) from e]; exact .int
  · rw [h2 x hx]; exact .int

theorem Ev.inB1 {e : Expr} {np pos : Pos} {i : Int} (h : Ev C Γ e (.int i)) (hk : C.env.kindOf "b1_set" = some .globalImplicit) (hm : behindInMarks .In (.Name "b1_set" np) = false := by with_unfolding_all rfl) : Ev C Γ (.Compare e [.In] [.Name "b1_set" np] pos) (.bool (b1s.contains i)) := fun X s F => by
  refine wpAny_Compare1 (wpAny_mono (h X s F) (fun va s₁ p => ?_) fun _ _ x => x) hm
  obtain ⟨F₁, j, x₁⟩ := p
  obtain ⟨_, rfl⟩ := j.intI
  obtain ⟨a, n, em, M⟩ := F₁.G.b1
  refine Ev.nameG F₁ em hk ?_
  exact wpAny_inSet_of (knd := intKind P C.w) (k := i) (intKind_is _ _ _ _) rfl M (Post.after x₁ (Post.same F₁ .bool))
end
end Mine

-- V12
namespace Mine
open PySem PySem.W PySem.Calls PyProof.Rows PySem.SeqAt

section
variable {C : Cx} {Γ : Vars}

theorem push_none {h : Heap} {a : Addr} {o : Obj} (e : h.get? a = none) (ne : a ≠ h.objs.size) : (h.push o).get? a = none := by
  cases hz : (h.push o).get? a with
  | none => rfl
  | some o' =>
    exfalso
    have hlt := Heap.lt_size hz
    rw [Heap.size_push] at hlt
    have hlt' : a < h.objs.size := by
      have : (a : Nat) ≠ h.objs.size := ne
      have h2 : (a : Nat) < h.objs.size + 1 := hlt
      exact Nat.lt_of_le_of_ne (Nat.le_of_lt_succ h2) this
    unfold Heap.get? Heap.push at hz
    unfold Heap.get? at e
    simp [Array.getElem?_push, Nat.ne_of_lt hlt'] at hz e
    simp_all

/-- the tests of a clause -/
def Tests (C : Cx) (Γ : Vars) (ifs : List Expr) (b : Bool) : Prop :=
  ∀ X s, FS C X Γ s → wpAny C.M C.A (forIn ifs true fun c r => if r = true then do let ok ← isTrue c C.env (eval c C.env); pure (ForInStep.yield ok) else pure (ForInStep.yield r)) (fun b' s' => b' = b ∧ FS C X Γ s' ∧ XL C.L s s') no s
theorem Tests.nil : Tests C Γ [] true := fun _ _ F => wpAny_tests_nil ⟨rfl, F, XL.refl _ _⟩
theorem Tests.one {e : Expr} {b : Bool} (h : Tr C Γ e b) : Tests C Γ [e] b := fun X s F => wpAny_tests_one (h X s F)

theorem compLoop_mine {prog : Program} {w : World} {A : Around} {R : Result → Shared → Prop} {s : Shared} {elt target iter : Expr} {ifs : List Expr} {scope : Scope} {pos : Pos} {it acc : Value} {env : Env} (I : Nat → Shared → Prop)
    (turn : ∀ n s, I n s → wpAny (model prog w) A (pyNext it) (fun r s₁ => match r with
      | none => R (.ok .next) s₁
      | some v => wpAny (model prog w) A (letOwnedTupleGo target it v) (fun _ s₁ => wpAny (model prog w) A (assign target env v) (fun _ s₂ =>
          wpAny (model prog w) A (forIn ifs true fun c r => if r = true then do let ok ← isTrue c env (eval c env); pure (ForInStep.yield ok) else pure (ForInStep.yield r)) (fun ok s₃ =>
            if ok = true then wpAny (model prog w) A (eval elt env) (fun x s₄ =>
              wpAny (model prog w) A (call (.builtin "list.append") [acc, x]) (fun _ s₅ => ∃ m, m < n ∧ I m s₅) no s₄) no s₃
            else ∃ m, m < n ∧ I m s₃) no s₂) no s₁) no s₁) no s)
    (n : Nat) (h : I n s) :
    codeAny (model prog w) A (.compLoop (.ListComp elt [⟨target, iter, ifs, 0⟩] scope pos) 0 it acc env) R s := by
  refine codeAny_loop rfl I (fun n s hI => ?_) n h
  show wpAny _ A ((compTurn (.ListComp elt [⟨target, iter, ifs, 0⟩] scope pos) 0 it acc env).onRaise (fun x => do noteFrame x env; theTreesLotGoes x)) _ _ s
  refine wpAny_noted ?_
  rw [compTurn_list]
  refine wpAny_bind (wpAny_standAt (wpAny_bind (wpAny_mono (turn n s hI) (fun r s₁ h₁ => ?_) fun _ _ h' => h'.elim)))
  cases r with
  | none => exact wpAny_pure h₁
  | some v =>
    refine wpAny_bind (wpAny_mono h₁ (fun _ s₁' h₁ => ?_) fun _ _ h' => h'.elim)
    refine wpAny_bind (wpAny_mono h₁ (fun _ s₂ h₂ => wpAny_bind (wpAny_mono h₂ (fun ok s₃ h₃ => ?_) fun _ _ h' => h'.elim)) fun _ _ h' => h'.elim)
    cases ok with
    | false => exact wpAny_pure ⟨rfl, h₃⟩
    | true =>
      exact wpAny_bind (wpAny_bind (wpAny_mono h₃ (fun x s₄ h₄ => wpAny_bind (wpAny_mono h₄ (fun _ s₅ h₅ => wpAny_pure (wpAny_pure ⟨rfl, h₅⟩)) fun _ _ h' => h'.elim)) fun _ _ h' => h'.elim))

/-- the frame of a comprehension -/
abbrev cxI (C : Cx) (scope : Scope) (cl : List (Str × Addr)) (K : Addr) (Z : List Addr) : Cx := ⟨C.w, C.A, compEnvC scope cl K C.env, C.h₀, C.mg, C.mb, Z, C.lv⟩

theorem comp_core {elt tgt iter : Expr} {ifs : List Expr} {scope : Scope} {pos pos' : Pos} {cl : List (Str × Addr)} {ds : List D} {use : Option (Value → Sem Unit)} {Q : Value → Shared → Prop} (Γi : Vars) (g : D → Option D)
    (hi : EvIt C Γ tgt iter ds) (hclos : closureFor scope C.env = pure cl) (hkind : scope.kind = .function) (hnames : ∀ y ∈ scope.names, y.2 = .local → scope.names.lookup y.1 = some .local) (hcell : ∀ y ∈ scope.names, y.2 ≠ .cell)
    (hΓ : ∀ x b, Γi.lookup x = some b → (∃ d, b = .cell d ∧ Γ.lookup x = some (.cell d)) ∧ C.env.kindOf x = some .cell ∧ cl.lookup x = C.env.cells.lookup x)
    (turn : ∀ (K : Addr) (Z : List Addr) (k : Nat) (d : D), ds[k]? = some d → ∃ Γ₁, As (cxI C scope cl K Z) Γi tgt d Γ₁ ∧ (∀ x b, Γi.lookup x = some b → b = .any ∨ Γ₁.lookup x = some b) ∧
      match g d with | none => Tests (cxI C scope cl K Z) Γ₁ ifs false | some e => Tests (cxI C scope cl K Z) Γ₁ ifs true ∧ Ev (cxI C scope cl K Z) Γ₁ elt e)
    (hn : ds.length ≤ 100000) {X : List Addr} {s : Shared} (F : FS C X Γ s)
    (hend : ∀ s₅ D K m, FS (C.plus [K]) X Γ s₅ → Is s₅.heap ((C.plus [K]).av X) (.ref D) (.lst (ds.filterMap g)) → Ext [C.L] s s₅ → s.heap.get? K = none → s₅.heap.Ns K m → C.h₀.get? K = none → K ∉ C.av X → (∀ m, s.heap.Ns C.L m → s₅.heap.Ns C.L m) → compPost C.M C.A no use Q (.ref D) K (.ok .next) s₅)
    (hs : ∀ x, foldedSetIterable iter C.env x = pure x := by intro _; rfl) :
    wpAny C.M C.A (comprehension (.ListComp elt [⟨tgt, iter, ifs, 0⟩] scope pos) scope C.env pos' (newList []) false (eval iter C.env) use) Q no s := by
  refine wpAny_comprehension_free rfl hs hclos hkind hnames (wpAny_mono (hi X s F) (fun x s₁ h => wpAny_mono h (fun it s₂ h => ?_) fun _ _ x => x) fun _ _ x => x)
  obtain ⟨W, J, St, IT, st, F₂, hWn, hJ, x₂, tab₂⟩ := h
  refine wpAny_newObj_type (wpAny_newFunctionEnv hcell (by intro y hy; simp at hy) (fun h₁ hns₁ hsb₁ => ?_) hkind)
  dsimp only at hns₁ hsb₁ ⊢
  generalize hH2 : s₂.heap.push { cls := .type "list", dict := none, data := .seq ([] : List Value).toArray } = H2 at hns₁ hsb₁ ⊢
  have hDn : s₂.heap.get? s₂.heap.objs.size = none := get_size _
  generalize hDe : s₂.heap.objs.size = Da at hDn ⊢
  have hKn : H2.get? H2.objs.size = none := get_size _
  generalize hKe : H2.objs.size = K at hKn hns₁ hsb₁ ⊢
  have h2D : H2.get? Da = some { cls := .type "list", dict := none, data := .seq ([] : List Value).toArray } := by rw [← hH2, ← hDe]; exact Heap.get?_push_size _ rfl
  have hDK : Da ≠ K := fun q => by rw [q, hKn] at h2D; cases h2D
  have k2 : ∀ b o, s₂.heap.get? b = some o → H2.get? b = some o := fun b o e => hH2 ▸ Heap.get?_push_of_some _ e
  have hK2 : s₂.heap.get? K = none := by
    cases e : s₂.heap.get? K with
    | none => rfl
    | some o => rw [k2 K o e] at hKn; cases hKn
  have k1 : ∀ b o, H2.get? b = some o → h₁.get? b = some o := fun b o e => hsb₁.extBut b o (fun q => by rw [q, hKn] at e; cases e) (Heap.get?_push_of_some _ e)
  let s₄ : Shared := { s₂ with heap := h₁, toks := s₂.toks + ([] : List (Str × Value)).length }
  have hKl : ∃ o, h₁.get? K = some o := by obtain ⟨o, _, _, e, _⟩ := hns₁; exact ⟨o, e⟩
  have old : ∀ b o, s₂.heap.get? b = some o → h₁.get? b = some o := fun b o e => k1 b o (k2 b o e)
  have hW₀ : ∀ a ∈ W, C.h₀.get? a = none := fun a ha => by
    cases hz : C.h₀.get? a with
    | none => rfl
    | some o => obtain ⟨m, Fr, _⟩ := F.ex; have := Fr.keep a o hz; rw [hWn a ha] at this; cases this
  have hWX : ∀ a ∈ W, a ∉ C.av X := fun a ha hm => by obtain ⟨o, e⟩ := F.live a hm; rw [hWn a ha] at e; cases e
  have keep0 : ∀ b o, b ≠ C.L → s.heap.get? b = some o → s₂.heap.get? b = some o := fun b o hb e => x₂.keep b o (fun q => hb (List.mem_singleton.mp q)) e
  have hnew : ∀ a, s₂.heap.get? a = none → C.h₀.get? a = none := fun a ha => by
    cases hz : C.h₀.get? a with
    | none => rfl
    | some o => obtain ⟨m, Fr, _⟩ := F₂.ex; have := Fr.keep a o hz; rw [ha] at this; cases this
  have hD₀ := hnew Da hDn
  have hK₀ := hnew K hK2
  have avlive : ∀ a, a ∈ W ∨ a ∈ C.av X → ∃ o, s₂.heap.get? a = some o := fun a ha => F₂.live a (by
    rcases ha with q | q
    · exact List.mem_append_right _ (List.mem_append_left _ q)
    · rcases List.mem_append.mp q with q | q
      · exact List.mem_append_left _ q
      · exact List.mem_append_right _ (List.mem_append_right _ q))
  have hDav : Da ∉ C.av X := fun q => by obtain ⟨o, e⟩ := avlive Da (.inr q); rw [hDn] at e; cases e
  have hKav : K ∉ C.av X := fun q => by obtain ⟨o, e⟩ := avlive K (.inr q); rw [hK2] at e; cases e
  have hDW : Da ∉ W := fun q => by obtain ⟨o, e⟩ := avlive Da (.inl q); rw [hDn] at e; cases e
  have hKW : K ∉ W := fun q => by obtain ⟨o, e⟩ := avlive K (.inl q); rw [hK2] at e; cases e
  -- the outer frame
  have F₃ : FS ((C.plus W).plus [Da, K]) X Γ s₄ := F₂.plus [Da, K] old (fun a ha => by
      rcases List.mem_cons.mp ha with q | q
      · rw [q]; exact hDn
      · rw [List.mem_singleton.mp q]; exact hK2) (fun a ha => by
      rcases List.mem_cons.mp ha with q | q
      · rw [q]; exact ⟨_, k1 _ _ h2D⟩
      · rw [List.mem_singleton.mp q]; exact hKl)
  have F₄ : FS (((C.plus [K]).plus [Da]).plus W) X Γ s₄ := F₃.reX (Z := W ++ ([Da] ++ ([K] ++ C.X₀))) fun a => by simp; constructor <;> (rintro (h | h | h | h) <;> simp [h])
  -- the inner frame
  let cs : List Addr := Γi.filterMap fun p => cl.lookup p.1
  obtain ⟨m₂, Fr₂, hb₂, _⟩ := F₂.ex
  have inΓ : ∀ x b, Γi.lookup x = some b → ∃ d c v, b = .cell d ∧ cl.lookup x = some c ∧ s₂.heap.IsCell c (some v) ∧ Is s₂.heap ((C.plus W).av X) v d ∧ c ∈ X := fun x b e => by
    obtain ⟨⟨d, rfl, e'⟩, hk, hc⟩ := hΓ x b e
    obtain ⟨c, v, q, l, i, hcX⟩ := hb₂ x _ e'
    exact ⟨d, c, v, rfl, hc.trans q, l, i, hcX.2 hk⟩
  have mem_look : ∀ (x : Str) (b : B), (x, b) ∈ Γi → ∃ b', Γi.lookup x = some b' := fun x b hm => by
    cases e : Γi.lookup x with
    | some b' => exact ⟨b', rfl⟩
    | none => have := List.lookup_eq_none_iff.mp e (x, b) hm; simp at this
  have csX : ∀ c ∈ cs, c ∈ X ∧ ∃ v, s₂.heap.IsCell c v := fun c hc => by
    obtain ⟨p, hp, e⟩ := List.mem_filterMap.mp hc
    obtain ⟨b', e'⟩ := mem_look p.1 p.2 hp
    obtain ⟨d, c', v, _, q, l, _, r⟩ := inΓ p.1 b' e'
    rw [e] at q; cases q; exact ⟨r, _, l⟩
  let Z : List Addr := W ++ Da :: (C.av X).filter (· ∉ cs)
  let X' : List Addr := K :: cs
  let C' : Cx := cxI C scope cl K Z
  have hav : ∀ c, c ∈ C'.av X' ↔ (c = K ∨ c = Da ∨ c ∈ W ∨ c ∈ C.av X) := fun c => by
    show c ∈ (K :: cs) ++ (W ++ Da :: (C.av X).filter (· ∉ cs)) ↔ _
    constructor
    · intro h
      rcases List.mem_append.mp h with h | h
      · rcases List.mem_cons.mp h with h | h
        · exact .inl h
        · exact .inr (.inr (.inr (List.mem_append_left _ (csX c h).1)))
      · rcases List.mem_append.mp h with h | h
        · exact .inr (.inr (.inl h))
        · rcases List.mem_cons.mp h with h | h
          · exact .inr (.inl h)
          · exact .inr (.inr (.inr (List.mem_filter.mp h).1))
    · rintro (h | h | h | h)
      · exact List.mem_append_left _ (h ▸ List.mem_cons_self)
      · exact List.mem_append_right _ (List.mem_append_right _ (h ▸ List.mem_cons_self))
      · exact List.mem_append_right _ (List.mem_append_left _ h)
      · by_cases q : c ∈ cs
        · exact List.mem_append_left _ (List.mem_cons_of_mem _ q)
        · exact List.mem_append_right _ (List.mem_append_right _ (List.mem_cons_of_mem _ (List.mem_filter.mpr ⟨h, by simpa using q⟩)))
  have hIs4 : ∀ {v d}, Is s₂.heap ((C.plus W).av X) v d → Is h₁ (C'.av X') v d := fun i => i.mono fun c o hc e => ⟨old c o e, fun q => by
    rcases (hav c).mp q with q | q | q | q
    · rw [q, hK2] at e; cases e
    · rw [q, hDn] at e; cases e
    · exact hc (List.mem_append_right _ (List.mem_append_left _ q))
    · rcases List.mem_append.mp q with q | q
      · exact hc (List.mem_append_left _ q)
      · exact hc (List.mem_append_right _ (List.mem_append_right _ q))⟩
  have XcsZ : ∀ c ∈ cs, c ∉ Z := fun c hc q => by
    obtain ⟨hcX, _⟩ := csX c hc
    rcases List.mem_append.mp q with q | q
    · exact hWX c q (List.mem_append_left _ hcX)
    · rcases List.mem_cons.mp q with q | q
      · exact hDav (q ▸ List.mem_append_left _ hcX)
      · have := (List.mem_filter.mp q).2; simp at this; exact this hc
  have FI : FS C' X' Γi s₄ := by
    refine ⟨⟨hkind, F.ok.glob, F.ok.blt, F.ok.hand, F.ok.depth, F.ok.units, F.ok.lv, F.ok.G⟩, ⟨_, ⟨hns₁, fun b o e => old b o (Fr₂.keep b o e), ?_⟩, fun x b e => ?_, fun x y ds es a e1 e2 e3 e4 => ?_⟩, List.mem_cons_self, fun a ha => ?_, fun a ha => ?_, fun a ha => ?_⟩
    · refine Nat.le_of_not_lt fun hlt => ?_
      have : K < s₂.heap.objs.size := Nat.lt_of_lt_of_le hlt (by
        have := Fr₂.above
        exact Nat.le_trans this (Nat.le_of_lt (by obtain ⟨o, _, _, e, _⟩ := Fr₂.ns; exact Heap.lt_size e)))
      rw [← hKe, ← hH2, Heap.size_push] at this
      omega
    · obtain ⟨d, c, v, rfl, q, l, i, hcX⟩ := inΓ x b e
      have hcs : c ∈ cs := List.mem_filterMap.mpr ⟨(x, .cell d), by
        obtain ⟨l1, l2, q, _⟩ := List.lookup_eq_some_iff.mp e
        rw [q]; exact List.mem_append_right _ (.head _), q⟩
      obtain ⟨o, ho, hd⟩ := l
      exact ⟨c, v, q, ⟨o, old _ _ ho, hd⟩, hIs4 i, XcsZ c hcs, fun _ => List.mem_cons_of_mem _ hcs⟩
    · obtain ⟨_, _, _, q, _⟩ := inΓ x _ e1; cases q
    · rcases (hav a).mp ha with q | q | q | q
      · rw [q]; exact hKl
      · rw [q]; exact ⟨_, k1 _ _ h2D⟩
      · obtain ⟨o, e⟩ := avlive a (.inl q); exact ⟨o, old _ _ e⟩
      · obtain ⟨o, e⟩ := avlive a (.inr q); exact ⟨o, old _ _ e⟩
    · rcases List.mem_cons.mp ha with q | q
      · rw [q]; exact hK₀
      · exact F.new a (csX a q).1
    · rcases List.mem_cons.mp ha with q | q
      · rw [q]; intro q'
        rcases List.mem_append.mp q' with q' | q'
        · exact hKW q'
        · rcases List.mem_cons.mp q' with q' | q'
          · exact hDK q'.symm
          · exact hKav (List.mem_filter.mp q').1
      · exact XcsZ a q
  have hWin : ∀ a ∈ W, a ∈ C'.X₀ ∧ C'.h₀.get? a = none := fun a ha => ⟨List.mem_append_left _ ha, hW₀ a ha⟩
  have kp : ∀ {s' : Shared}, (∀ b o, b ∉ W → s₂.heap.get? b = some o → s'.heap.get? b = some o) → Kp C' X' W (C.av X) s₂.heap s' := fun hk b o hb hx e => ⟨hk b o hb e, fun q => by
    rcases (hav b).mp q with q | q | q | q
    · rw [q, hK2] at e; cases e
    · rw [q, hDn] at e; cases e
    · exact hb q
    · exact hx q⟩
  have kp2 : Kp (C.plus W) X W (C.av X) s₂.heap s₂ := fun b o hb hx e => ⟨e, fun q => by
    rcases List.mem_append.mp q with q | q
    · exact hx (List.mem_append_left _ q)
    · rcases List.mem_append.mp q with q | q
      · exact hb q
      · exact hx (List.mem_append_right _ q)⟩
  have kp4 : Kp C' X' W (C.av X) s₂.heap s₄ := kp fun b o _ e => old b o e
  have st₄ : St 0 [] s₄ := IT.stay (C.plus W) C' X X' 0 [] s₂ s₄ st kp2 kp4 (fun b o _ e => old b o e) fun _ _ e => e
  have s4none : ∀ a, a ∉ C'.av X' → s₂.heap.get? a = none → s₄.heap.get? a = none := fun a ha e => by
    have h1 : a ≠ Da := fun q => ha ((hav a).mpr (.inr (.inl q)))
    have h2 : a ≠ K := fun q => ha ((hav a).mpr (.inl q))
    have h3 : H2.get? a = none := by rw [← hH2]; exact push_none e (by rw [hDe]; exact h1)
    show h₁.get? a = none
    rw [hsb₁.2 a h2]
    exact push_none h3 (by rw [hKe]; exact h2)
  let I : Nat → Shared → Prop := fun n s' => ∃ k vs V, n = ds.length + 1 - k ∧ k ≤ ds.length ∧ (∀ a ∈ V, a ∉ C'.av X') ∧ St k V s' ∧ FS C' X' Γi s' ∧ LAt s'.heap Da vs ∧ Are s'.heap (C'.av X') vs ((ds.take k).filterMap g) ∧ ExtJ (Da :: K :: W) J s₄ s'
  have x0 : ExtJ (Da :: K :: W) J s₄ s₄ := ⟨fun _ _ _ e => e, fun _ _ _ e => e, (fun i q hi e => by
    rcases hi with hi | hi
    · exact x₂.fin i q (.inl hi) e
    · rw [Array.getElem?_eq_none hi] at e; cases e), Nat.le_refl _, rfl⟩
  have hDW' : ∀ b, b ∈ W → b ≠ Da ∧ b ≠ K := fun b hb => ⟨fun q => hDW (q ▸ hb), fun q => hKW (q ▸ hb)⟩
  have kp' : ∀ {s' : Shared}, ExtJ (Da :: K :: W) J s₄ s' → Kp C' X' W (C.av X) s₂.heap s' := fun x => kp fun b o hb e => x.keep b o (fun q => by
    rcases List.mem_cons.mp q with q | q
    · rw [q, hDn] at e; cases e
    · rcases List.mem_cons.mp q with q | q
      · rw [q, hK2] at e; cases e
      · exact hb q) (old b o e)
  have loop : codeAny C.M C.A (.compLoop (.ListComp elt [⟨tgt, iter, ifs, 0⟩] scope pos) 0 it (.ref Da) C'.env) (compPost C.M C.A no use Q (.ref Da) K) s₄ := by
    refine compLoop_mine I (fun n s' hI => ?_) (ds.length + 1) ⟨0, [], [], rfl, Nat.zero_le _, (fun _ h => nomatch h), st₄, FI, ⟨0, k1 _ _ h2D⟩, .nil, x0⟩
    obtain ⟨k, vs, V, rfl, hk, hV, st', F', hl', hv', x'⟩ := hI
    have hLo : Loose s'.heap V := IT.loose _ _ _ st'
    have hVs4 : ∀ a ∈ V, s₄.heap.get? a = none := fun a ha => s4none a (hV a ha) (IT.new _ _ _ st' a ha)
    have hWVn : ∀ b, b ∉ V ++ C'.av X' → b ∉ W ++ V := fun b hb q => hb (by
      rcases List.mem_append.mp q with q | q
      · exact List.mem_append_right _ ((hav b).mpr (.inr (.inr (.inl q))))
      · exact List.mem_append_left _ q)
    have hDWV : Da ∉ W ++ V := fun q => by
      rcases List.mem_append.mp q with q | q
      · exact hDW q
      · exact hV Da q ((hav Da).mpr (.inr (.inl rfl)))
    have hKWV : K ∉ W ++ V := fun q => by
      rcases List.mem_append.mp q with q | q
      · exact hKW q
      · exact hV K q ((hav K).mpr (.inl rfl))
    have hYV : ∀ a ∈ W ++ V, a ∈ Da :: K :: W ∨ s₄.heap.get? a = none := fun a ha => by
      rcases List.mem_append.mp ha with q | q
      · exact .inl (List.mem_cons_of_mem _ (List.mem_cons_of_mem _ q))
      · exact .inr (hVs4 a q)
    rcases Nat.lt_or_ge k ds.length with hlt | hge
    · have hd : ds[k]? = some ds[k] := List.getElem?_eq_getElem hlt
      obtain ⟨Γ₁, hAs, hwk, hT⟩ := turn K Z k ds[k] hd
      refine wpAny_mono (IT.item C' k V ds[k] X' Γi s' ⟨rfl, rfl, rfl, rfl, rfl⟩ hd st' F' hWin (kp' x') hV) (fun r s₃ h => ?_) fun _ _ x => x
      obtain ⟨v, rfl, h⟩ := h
      refine wpAny_mono h (fun _ s₅ h => ?_) fun _ _ x => x
      obtain ⟨F₅, i₅, ⟨V', st₅, hV'⟩, x₅⟩ := h
      have hVx : ∀ a ∈ V', a ∉ C'.av X' := fun a ha hm => by
        rcases hV' a ha with q | q
        · exact hV a q hm
        · obtain ⟨o, e⟩ := F'.live a hm; rw [q] at e; cases e
      have hVD : ∀ b, b ∈ W ∨ b ∈ V' → b ≠ Da ∧ b ≠ K := fun b hb => hb.elim (hDW' b) fun q => ⟨fun z => hVx b q ((hav b).mpr (.inr (.inl z))), fun z => hVx b q ((hav b).mpr (.inl z))⟩
      have y₅ : ExtJ (Da :: K :: W) J s₄ s₅ := x'.trans x₅ hYV fun _ h => h
      have hDnotW : ∀ o, s'.heap.get? Da = some o → s₅.heap.get? Da = some o := fun o e => x₅.keep Da o hDWV e
      have hl₅ : LAt s₅.heap Da vs := hl'.keep hDnotW
      have hv₅ : Are s₅.heap (C'.av X') vs ((ds.take k).filterMap g) := (hv'.loose hLo).mono fun b o hb e => ⟨x₅.keep b o (hWVn b hb) e, fun q => hb (List.mem_append_right _ q)⟩
      refine wpAny_mono (hAs X' s₅ v F₅ i₅) (fun _ s₆ h => ?_) fun _ _ x => x
      obtain ⟨F₆, x₆⟩ := h
      have x₆' : ExtJ (Da :: K :: W) J s₅ s₆ := ExtJ.more x₆ (fun a ha => by rw [List.mem_singleton.mp ha]; exact List.mem_cons_of_mem _ List.mem_cons_self) (fun i hi => nomatch hi) (fun i hi => .inr fun q e => by
        have hlt : i < s₅.gens.size ∨ s₅.gens.size ≤ i := Nat.lt_or_ge _ _
        rcases hlt with hlt | hlt
        · have e' := x₆.gens i _ (fun h => nomatch h) (Array.getElem?_eq_getElem hlt)
          rw [e] at e'; cases e'
          exact x₅.fin i _ (.inl hi) (Array.getElem?_eq_getElem hlt)
        · exact x₆.fin i q (.inr hlt) e)
      have y₆ : ExtJ (Da :: K :: W) J s₄ s₆ := y₅.trans x₆' (fun a ha => .inl ha) fun _ h => h
      have hl₆ : LAt s₆.heap Da vs := hl₅.keep fun o e => x₆.keep Da o (fun q => hDK (List.mem_singleton.mp q)) e
      have hv₆ : Are s₆.heap (C'.av X') vs ((ds.take k).filterMap g) := hv₅.L F₅.hL' x₆
      have stay₆ : St (k + 1) V' s₆ := IT.stay C' C' X' X' (k + 1) V' s₅ s₆ st₅ (kp' y₅) (kp' y₆) (fun b o hb e => x₆.keep b o (fun q => (hVD b hb).2 (List.mem_singleton.mp q)) e) fun i q e => x₆.gens i q (fun h => nomatch h) e
      -- behind a step that makes
      have after : ∀ {s₆ s₇ : Shared}, FS C' X' Γ₁ s₆ → XL C'.L s₆ s₇ → LAt s₆.heap Da vs → Are s₆.heap (C'.av X') vs ((ds.take k).filterMap g) → ExtJ (Da :: K :: W) J s₄ s₆ → St (k + 1) V' s₆ →
          LAt s₇.heap Da vs ∧ Are s₇.heap (C'.av X') vs ((ds.take k).filterMap g) ∧ ExtJ (Da :: K :: W) J s₄ s₇ ∧ St (k + 1) V' s₇ := fun {s₆ s₇} F₆ x₇ hl₆ hv₆ y₆ stay₆ => by
        have x₇' : ExtJ (Da :: K :: W) J s₆ s₇ := ExtJ.more x₇.ext (fun a ha => by rw [List.mem_singleton.mp ha]; exact List.mem_cons_of_mem _ List.mem_cons_self) (fun i hi => nomatch hi) (fun i hi => .inr fun q e => by
          have hlt : i < s₆.gens.size ∨ s₆.gens.size ≤ i := Nat.lt_or_ge _ _
          rcases hlt with hlt | hlt
          · have e' := x₇.ext.gens i _ (fun h => nomatch h) (Array.getElem?_eq_getElem hlt)
            rw [e] at e'; cases e'
            exact y₆.fin i _ (.inl hi) (Array.getElem?_eq_getElem hlt)
          · exact x₇.ext.fin i q (.inr hlt) e)
        have y₇ : ExtJ (Da :: K :: W) J s₄ s₇ := y₆.trans x₇' (fun a ha => .inl ha) fun _ h => h
        exact ⟨hl₆.keep fun o e => x₇.keep hDK e, hv₆.ext F₆.hL' x₇, y₇, IT.stay C' C' X' X' (k + 1) V' s₆ s₇ stay₆ (kp' y₆) (kp' y₇) (fun b o hb e => x₇.keep (hVD b hb).2 e) fun i q e => x₇.ext.gens i q (fun h => nomatch h) e⟩
      have htake : ds.take (k + 1) = ds.take k ++ [ds[k]] := by rw [List.take_add_one, hd]; rfl
      cases hg : g ds[k] with
      | none =>
        rw [hg] at hT
        refine wpAny_mono (hT X' s₆ F₆) (fun b s₇ h => ?_) fun _ _ x => x
        obtain ⟨rfl, F₇, x₇⟩ := h
        rw [if_neg Bool.false_ne_true]
        obtain ⟨a1, a2, a3, a4⟩ := after F₆ x₇ hl₆ hv₆ y₆ stay₆
        exact ⟨ds.length + 1 - (k + 1), by omega, k + 1, vs, V', rfl, hlt, hVx, a4, F₇.weak hwk, a1, by rw [htake, List.filterMap_append]; simpa [hg] using a2, a3⟩
      | some e =>
        rw [hg] at hT
        refine wpAny_mono (hT.1 X' s₆ F₆) (fun b s₇ h => ?_) fun _ _ x => x
        obtain ⟨rfl, F₇, x₇⟩ := h
        rw [if_pos rfl]
        obtain ⟨a1, a2, a3, a4⟩ := after F₆ x₇ hl₆ hv₆ y₆ stay₆
        refine wpAny_mono (hT.2 X' s₇ F₇) (fun y s₈ h => ?_) fun _ _ x => x
        obtain ⟨F₈, i₈, x₈⟩ := h
        obtain ⟨b1, b2, b3, b4⟩ := after F₇ x₈ a1 a2 a3 a4
        obtain ⟨n₈, ho₈⟩ := id b1
        have hlen := b2.length
        have hfl : ((ds.take k).filterMap g).length ≤ k := Nat.le_trans (List.length_filterMap_le ..) (by simp; omega)
        refine wpAny_list_append_plain (l := Da) (items := vs.toArray) (x := y) ⟨n₈, ho₈⟩ (fun h' hp hsb => ?_) (by rw [List.size_toArray]; unfold sizeLine; omega)
        obtain ⟨n', hp⟩ := hp
        have hDC' : Da ∈ C'.X₀ := List.mem_append_right _ List.mem_cons_self
        have hk9 : ∀ b o, b ≠ Da → s₈.heap.get? b = some o → h'.get? b = some o := fun b o hb e => (hsb.2 b hb).trans e
        have F₉ : FS C' X' Γ₁ { s₈ with heap := h' } := F₈.off' (W := [Da]) (fun a ha => (List.mem_singleton.mp ha) ▸ hDC') (fun a ha => (List.mem_singleton.mp ha) ▸ hD₀) (fun b o hb e => hk9 b o (fun q => hb (q ▸ List.mem_singleton.mpr rfl)) e) (fun a ha => by rw [List.mem_singleton.mp ha]; exact ⟨_, hp⟩)
        have x₉ : ExtJ (Da :: K :: W) J s₈ { s₈ with heap := h' } := ⟨fun b o hb e => hk9 b o (fun q => hb (q ▸ List.mem_cons_self)) e, fun _ _ _ e => e, (fun i q hi e => by
          rcases hi with hi | hi
          · exact b3.fin i q (.inl hi) e
          · rw [Array.getElem?_eq_none hi] at e; cases e), Nat.le_refl _, rfl⟩
        have y₉ : ExtJ (Da :: K :: W) J s₄ { s₈ with heap := h' } := b3.trans x₉ (fun a ha => .inl ha) fun _ h => h
        refine ⟨ds.length + 1 - (k + 1), by omega, k + 1, vs ++ [y], V', rfl, hlt, hVx, ?_, F₉.weak hwk, ⟨n', by rw [hp]; simp⟩, ?_, y₉⟩
        · exact IT.stay C' C' X' X' (k + 1) V' s₈ _ b4 (kp' b3) (kp' y₉) (fun b o hb e => hk9 b o (hVD b hb).1 e) fun _ _ e => e
        · have hm : ∀ {v d}, Is s₈.heap (C'.av X') v d → Is h' (C'.av X') v d := fun i => i.mono fun b o hb e => ⟨hk9 b o (fun q => hb ((hav b).mpr (.inr (.inl q)))) e, hb⟩
          rw [htake, List.filterMap_append]
          refine Are.append (b2.mono fun b o hb e => ⟨hk9 b o (fun q => hb ((hav b).mpr (.inr (.inl q)))) e, hb⟩) ?_
          simp [hg]
          exact .one (hm i₈)
    · obtain rfl : k = ds.length := Nat.le_antisymm hk hge
      refine wpAny_mono (IT.done C' V X' Γi s' ⟨rfl, rfl, rfl, rfl, rfl⟩ st' F' hWin (kp' x') hV) (fun r s₃ h => ?_) fun _ _ x => x
      obtain ⟨rfl, x₃⟩ := h
      have y₃ : ExtJ (Da :: K :: W) J s₄ s₃ := x'.trans x₃ hYV fun _ h => h
      obtain ⟨m', Fr', _⟩ := F'.ex
      have hK3 : s₃.heap.Ns K m' := Ns.off Fr'.ns hKWV x₃.keep
      refine hend s₃ Da K m' ?_ ?_ ?_ ?_ hK3 hK₀ hKav (fun mm hmm => Ns.off (W := Da :: K :: W) ((tab₂ mm hmm).keeps old) (fun q => ?_) y₃.keep)
      rotate_right
      · rcases List.mem_cons.mp q with q | q
        · exact hDav (q ▸ F.hL')
        · rcases List.mem_cons.mp q with q | q
          · exact hKav (q ▸ F.hL')
          · exact hWX _ q F.hL'
      · have F₅ : FS (((C.plus [K]).plus [Da]).plus W) X Γ s' := F₄.off' (W := Da :: K :: W) (fun a ha => by
            rcases List.mem_cons.mp ha with q | q
            · exact List.mem_append_right _ (List.mem_append_left _ (q ▸ List.mem_cons_self))
            · rcases List.mem_cons.mp q with q | q
              · exact List.mem_append_right _ (List.mem_append_right _ (q ▸ List.mem_cons_self))
              · exact List.mem_append_left _ q) (fun a ha => by
            rcases List.mem_cons.mp ha with q | q
            · rw [q]; exact hD₀
            · rcases List.mem_cons.mp q with q | q
              · rw [q]; exact hK₀
              · exact hW₀ a q) x'.keep (fun a ha => by
            rcases List.mem_cons.mp ha with q | q
            · obtain ⟨n, e⟩ := hl'; rw [q]; exact ⟨_, e⟩
            · rcases List.mem_cons.mp q with q | q
              · rw [q]; exact F'.live K ((hav K).mpr (.inl rfl))
              · exact F'.live a ((hav a).mpr (.inr (.inr (.inl q)))))
        exact (F₅.offUV (V := V) (fun a ha q => by
          rcases List.mem_append.mp q with q | q
          · exact hDW ((List.mem_singleton.mp q) ▸ ha)
          · rcases List.mem_append.mp q with q | q
            · exact hKW ((List.mem_singleton.mp q) ▸ ha)
            · exact hWX a ha (List.mem_append_right _ q)) hW₀ x₃.keep (fun a ha q => hV a ha ((hav a).mpr (by
          rcases List.mem_append.mp q with q | q
          · exact .inr (.inr (.inr (List.mem_append_left _ q)))
          · rcases List.mem_append.mp q with q | q
            · exact .inr (.inr (.inl q))
            · rcases List.mem_append.mp q with q | q
              · exact .inr (.inl (List.mem_singleton.mp q))
              · rcases List.mem_append.mp q with q | q
                · exact .inl (List.mem_singleton.mp q)
                · exact .inr (.inr (.inr (List.mem_append_right _ q)))))) hLo (fun a ha => hnew a (IT.new _ _ _ st' a ha))).unplus
      · refine .lst (hl'.keep fun o e => x₃.keep Da o hDWV e) (fun q => ?_) ?_
        · rcases List.mem_append.mp q with q | q
          · exact hDav (List.mem_append_left _ q)
          · rcases List.mem_append.mp q with q | q
            · exact hDK (List.mem_singleton.mp q)
            · exact hDav (List.mem_append_right _ q)
        · rw [List.take_length] at hv'
          refine (hv'.loose hLo).mono fun b o hb e => ⟨x₃.keep b o (hWVn b hb) e, fun q => hb (List.mem_append_right _ ((hav b).mpr ?_))⟩
          rcases List.mem_append.mp q with q | q
          · exact .inr (.inr (.inr (List.mem_append_left _ q)))
          · rcases List.mem_append.mp q with q | q
            · exact .inl (List.mem_singleton.mp q)
            · exact .inr (.inr (.inr (List.mem_append_right _ q)))
      · have x₄ : ExtJ [C.L] J s s₄ := x₂.trans (Y' := []) (J' := []) (s'' := s₄) (Ext.heap fun b o _ e => old b o e) (fun _ h => nomatch h) (fun _ h => nomatch h)
        refine ExtJ.drop (J := J) (x₄.trans y₃ (fun a ha => .inr ?_) fun _ h => h) hJ
        have hns : ∀ a, a ∉ C.av X → s₂.heap.get? a = none → s.heap.get? a = none := fun a ha e2 => by
          cases e : s.heap.get? a with
          | none => rfl
          | some o => rw [keep0 a o (fun q => ha (q ▸ F.hL')) e] at e2; cases e2
        rcases List.mem_cons.mp ha with q | q
        · rw [q]; exact hns _ hDav hDn
        · rcases List.mem_cons.mp q with q | q
          · rw [q]; exact hns _ hKav hK2
          · exact hWn a q
      · cases e : s.heap.get? K with
        | none => rfl
        | some o =>
          have := keep0 K o (fun q => hKav (q ▸ F.hL')) e
          rw [hK2] at this; cases this
  exact codeAny_compStart_list loop (wpAny_mono (IT.self C' X' Γi 0 [] s₄ ⟨rfl, rfl, rfl, rfl, rfl⟩ st₄ FI kp4) (fun v s' h => by obtain ⟨rfl, rfl⟩ := h; exact loop) fun _ _ x => x.elim)
end
end Mine

-- V13
namespace Mine
open PySem PySem.W PySem.Calls PyProof.Rows PySem.SeqAt

section
variable {C : Cx} {Γ : Vars}

theorem Is.plusOut {W X : List Addr} {h : Heap} {v : Value} {d : D} (i : Is h ((C.plus W).av X) v d) : Is h (C.av X) v d := i.unplus

theorem SameBut.offK {X : List Addr} {K : Addr} {s : Shared} {h' : Heap} (F : FS (C.plus [K]) X Γ s) (hK : K ∉ C.X₀) (hK₀ : C.h₀.get? K = none) (hs : Heap.SameBut K s.heap h') : FS C X Γ { s with heap := h' } :=
  F.offU (W := [K]) (fun a ha => (List.mem_singleton.mp ha) ▸ hK) (fun a ha => (List.mem_singleton.mp ha) ▸ hK₀) (fun b o hb e => (hs.2 b (fun q => hb (q ▸ List.mem_singleton.mpr rfl))).trans e)
theorem Is.offK {X : List Addr} {K : Addr} {s : Shared} {h' : Heap} {v : Value} {d : D} (i : Is s.heap ((C.plus [K]).av X) v d) (hs : Heap.SameBut K s.heap h') : Is h' (C.av X) v d :=
  i.mono fun b o hb e => ⟨(hs.2 b (fun q => hb (List.mem_append_right _ (q ▸ List.mem_cons_self)))).trans e, fun q => hb (by
    rcases List.mem_append.mp q with q | q
    · exact List.mem_append_left _ q
    · exact List.mem_append_right _ (List.mem_append_right _ q))⟩

theorem Ev.comp {elt tgt iter : Expr} {ifs : List Expr} {scope : Scope} {pos : Pos} {cl : List (Str × Addr)} {ds : List D} (Γi : Vars) (g : D → Option D)
    (hi : EvIt C Γ tgt iter ds) (hclos : closureFor scope C.env = pure cl)
    (hΓ : ∀ x b, Γi.lookup x = some b → (∃ d, b = .cell d ∧ Γ.lookup x = some (.cell d)) ∧ C.env.kindOf x = some .cell ∧ cl.lookup x = C.env.cells.lookup x)
    (turn : ∀ (K : Addr) (Z : List Addr) (k : Nat) (d : D), ds[k]? = some d → ∃ Γ₁, As (cxI C scope cl K Z) Γi tgt d Γ₁ ∧ (∀ x b, Γi.lookup x = some b → b = .any ∨ Γ₁.lookup x = some b) ∧
      match g d with | Option.none => Tests (cxI C scope cl K Z) Γ₁ ifs false | Option.some e => Tests (cxI C scope cl K Z) Γ₁ ifs true ∧ Ev (cxI C scope cl K Z) Γ₁ elt e)
    (hn : ds.length ≤ 100000) (hkind : scope.kind = .function := by rfl) (hnames : ∀ y ∈ scope.names, y.2 = .local → scope.names.lookup y.1 = some .local := by decide) (hcell : ∀ y ∈ scope.names, y.2 ≠ .cell := by decide)
    (hs : ∀ x, foldedSetIterable iter C.env x = pure x := by intro _; rfl) : Ev C Γ (.ListComp elt [⟨tgt, iter, ifs, 0⟩] scope pos) (.lst (ds.filterMap g)) := fun X s F => by
  rw [eval_ListComp]
  refine comp_core (use := Option.none) Γi g hi hclos hkind hnames hcell hΓ turn hn F (fun s₅ D K m F₅ i x₅ hKs hns hK₀ hKav tab => ?_) hs
  refine ⟨m, hns, fun h' hs' => ?_⟩
  refine ⟨SameBut.offK F₅ (fun q => hKav (List.mem_append_right _ q)) hK₀ hs', Is.offK i hs', ?_⟩
  have x₆ : Ext [C.L] s { s₅ with heap := h' } := x₅.trans (Y' := [K]) (Ext.heap (k := s₅.toks) fun b o hb e => (hs'.2 b (fun q => hb (q ▸ List.mem_singleton.mpr rfl))).trans e) fun a ha => .inr ((List.mem_singleton.mp ha) ▸ hKs)
  refine ⟨x₆, fun m₁ hm₁ => ?_⟩
  exact (tab m₁ hm₁).sameBut hs' (fun q => hKav (q ▸ F.hL'))

theorem Ex.assignComp {y : Str} {py spos : Pos} {elt tgt iter : Expr} {ifs : List Expr} {scope : Scope} {pos : Pos} {cl : List (Str × Addr)} {ds : List D} (Γi : Vars) (g : D → Option D)
    (hi : EvIt C Γ tgt iter ds) (hclos : closureFor scope C.env = pure cl)
    (hΓ : ∀ x b, Γi.lookup x = some b → (∃ d, b = .cell d ∧ Γ.lookup x = some (.cell d)) ∧ C.env.kindOf x = some .cell ∧ cl.lookup x = C.env.cells.lookup x)
    (turn : ∀ (K : Addr) (Z : List Addr) (k : Nat) (d : D), ds[k]? = some d → ∃ Γ₁, As (cxI C scope cl K Z) Γi tgt d Γ₁ ∧ (∀ x b, Γi.lookup x = some b → b = .any ∨ Γ₁.lookup x = some b) ∧
      match g d with | Option.none => Tests (cxI C scope cl K Z) Γ₁ ifs false | Option.some e => Tests (cxI C scope cl K Z) Γ₁ ifs true ∧ Ev (cxI C scope cl K Z) Γ₁ elt e)
    (hn : ds.length ≤ 100000) (hy : C.env.kindOf y = some .local)
    (hsw : swapsWith (.ListComp elt [⟨tgt, iter, ifs, 0⟩] scope pos) (some (.Name y py)) spos.line C.env = pure true := by rfl)
    (hkind : scope.kind = .function := by rfl) (hnames : ∀ y ∈ scope.names, y.2 = .local → scope.names.lookup y.1 = some .local := by decide) (hcell : ∀ y ∈ scope.names, y.2 ≠ .cell := by decide)
    (hs : ∀ x, foldedSetIterable iter C.env x = pure x := by intro _; rfl) : Ex C Γ (.Assign [.Name y py] (.ListComp elt [⟨tgt, iter, ifs, 0⟩] scope pos) spos) (.next ((y, .val (.lst (ds.filterMap g))) :: Γ)) := fun X s F => by
  rw [exec_Assign_Name_used _ _ _ _ hsw]
  refine wpAny_bind (wpAny_standAt (wpAny_bind ?_))
  show wpAny _ _ (do let _ ← comprehension (.ListComp elt [⟨tgt, iter, ifs, 0⟩] scope pos) scope C.env _ (newList []) false (eval iter C.env) (some (PySem.assign (.Name y py) C.env))) _ _ s
  refine wpAny_bind (wpAny_mono (Q := fun _ s' => Ends C X s (.next ((y, .val (.lst (ds.filterMap g))) :: Γ)) .next s') (comp_core (use := some (PySem.assign (.Name y py) C.env)) Γi g hi hclos hkind hnames hcell hΓ turn hn F (fun s₅ D K m F₅ i x₅ hKs hns hK₀ hKav tab => ?_) hs) (fun _ s' h => wpAny_pure (wpAny_pure h)) fun _ _ x => x)
  show wpAny _ _ (PySem.assign (.Name y py) C.env (.ref D)) _ _ _
  have hKL : K ≠ C.L := fun q => hKav (q ▸ F.hL')
  refine wpAny_assign_Name (wpAny_mono (F₅.store i hy) (fun _ s₆ h => ?_) fun _ _ x => x)
  obtain ⟨F₆, x₆⟩ := h
  refine ⟨m, Ns.off hns (fun q => hKL (List.mem_singleton.mp q)) x₆.keep, fun h' hs' => ?_⟩
  have x₇ : Ext [C.L] s { s₆ with heap := h' } := (x₅.trans' x₆).trans (Y' := [K]) (Ext.heap (k := s₆.toks) fun b o hb e => (hs'.2 b (fun q => hb (q ▸ List.mem_singleton.mpr rfl))).trans e) fun a ha => .inr ((List.mem_singleton.mp ha) ▸ hKs)
  exact ⟨X, SameBut.offK F₆ (fun q => hKav (List.mem_append_right _ q)) hK₀ hs', F.toX' x₇, fun _ h => .inl h⟩
end
end Mine

-- V14
namespace Mine
open PySem PySem.W PySem.Calls PyProof.Rows PySem.SeqAt

section
variable {M : Model} {A : Around} {R : GenEnd} {Y : Protocol} {n : Nat} {s₀ : Shared} {c : Code} {fs : List Frame} {s : Shared} {env : Env}
  {K : Flow → Sem Fin} {H : Value → Sem Fin} {gd : Bool → Bool} {lv : List Value → List Value}

theorem segIf {test : Expr} {body orelse : List Stmt} {pos : Pos}
    (h : wpAny M (A.over c fs) (isTrue test env (eval test env)) (fun b s' => if b = true then Seg M A R Y n s₀ c ((execs body env).wrap K H gd lv) fs s' else Seg M A R Y n s₀ c ((execs orelse env).wrap K H gd lv) fs s') no s) :
    Seg M A R Y n s₀ c ((exec (.If test body orelse pos) env).wrap K H gd lv) fs s := by
  rw [exec_If]
  show Seg M A R Y n s₀ c (.at pos fun _ => (isTrue test env (eval test env) >>= fun b => if b = true then execs body env else execs orelse env).wrap K H gd lv) fs s
  refine seg_at ?_
  rw [Sem.bind_eq_wrap', Sem.wrap_wrap]
  refine seg_wrap (wpAny_mono h (fun b s' hb => ?_) fun _ _ x => x.elim)
  cases b with
  | true => exact hb
  | false => exact hb

/-- a statement that gives nothing out -/
theorem segStmt {st : Stmt} (h : wpAny M (A.over c fs) (exec st env) (fun f s' => f = .next ∧ Seg M A R Y n s₀ c (K .next) fs s') no s) : Seg M A R Y n s₀ c ((exec st env).wrap K H gd lv) fs s :=
  seg_wrap (wpAny_mono h (fun f s' q => by obtain ⟨rfl, q⟩ := q; exact q) fun _ _ x => x.elim)

theorem segFor {target iter : Expr} {body orelse : List Stmt} {pos : Pos}
    (h : wpAny M (A.over c fs) (eval iter env) (fun x s₁ => wpAny M (A.over c fs) (pyIter x) (fun it s₂ => ∀ p, Seg M A R Y n s₀ (.forLoop target it body orelse env) (M.den (.forLoop target it body orelse env))
      (.ret (fun r => ((match r with | .ok f => (.pure f : Sem Flow) | .error e => .raise e).onRaise fun (x : Value) => do
        if (← field x 1) == Value.none then unsupported "frame.own-activation:exception-without-traceback"
        setFlight x env.frame).wrap K H gd lv) none (gd false) (lv []) c p [] :: fs) s₂) no s₁) no s)
    (hs : ∀ x, foldedSetIterable iter env x = pure x := by intro _; rfl) :
    Seg M A R Y n s₀ c ((exec (.For target iter body orelse pos) env).wrap K H gd lv) fs s := by
  have e : exec (.For target iter body orelse pos) env = (do
      standAt pos
      let x ← foldedSetIterable iter env (← eval iter env)
      standAt iter.pos
      holding [x] (pyIter x)) >>= fun it => runOwn (.forLoop target it body orelse env) env := by
    rw [exec_For]; simp only [bind_assoc]
  rw [e, Sem.bind_eq_wrap', Sem.wrap_wrap]
  refine seg_wrap (wpAny_bind (wpAny_standAt (wpAny_bind (wpAny_mono h (fun x s₁ h₁ => wpAny_bind (wpAny_of_eq (hs x) (wpAny_bind (wpAny_standAt (wpAny_holding (wpAny_mono h₁ (fun it s₂ h₂ => ?_) fun _ _ x => x.elim)))))) fun _ _ x => x.elim))))
  exact seg_call h₂
end

section
variable {prog : Program} {w : World} {A : Around} {R : GenEnd} {Y : Protocol} {n : Nat} {s₀ : Shared} {fs : List Frame} {s : Shared} {env : Env}

theorem segLoop {target : Expr} {it : Value} {body orelse : List Stmt}
    (h : wpAny (model prog w) (A.over (.forLoop target it body orelse env) fs) (pyNext it) (fun r s' => match r with
      | none => Seg (model prog w) A R Y n s₀ (.block orelse env) ((model prog w).den (.block orelse env)) fs s'
      | some v => wpAny (model prog w) (A.over (.forLoop target it body orelse env) fs) (letOwnedTupleGo target it v) (fun _ s₁ => wpAny (model prog w) (A.over (.forLoop target it body orelse env) fs) (assign target env v) (fun _ s₂ =>
          Seg (model prog w) A R Y n s₀ (.forLoop target it body orelse env) ((execs body env).wrap (fun f => match f with
            | .next | .cont => .pure (.again (.forLoop target it body orelse env))
            | .brk => .pure (.done .next)
            | .ret v => .pure (.done (.ret v))) (fun e => (do noteFrame e env; theTreesLotGoes e : Sem Unit).wrap (fun _ => .raise e) .raise id id) id id) fs s₂) no s₁) no s') no s) :
    Seg (model prog w) A R Y n s₀ (.forLoop target it body orelse env) ((model prog w).den (.forLoop target it body orelse env)) fs s := by
  show Seg _ A R Y n s₀ _ ((forTurn target it body orelse env).onRaise (fun x => do noteFrame x env; theTreesLotGoes x)) fs s
  unfold forTurn
  rw [Sem.onRaise_eq_wrap, Sem.bind_eq_wrap', Sem.wrap_wrap]
  refine seg_wrap (wpAny_standAt ?_)
  rw [Sem.bind_eq_wrap', Sem.wrap_wrap]
  refine seg_wrap (wpAny_onRaise (wpAny_mono h (fun r s' hr => ?_) fun _ _ x => x.elim))
  cases r with
  | none => exact seg_again rfl hr
  | some v =>
    show Seg _ A R Y n s₀ _ (Sem.wrap _ _ _ _ (letOwnedTupleGo target it v >>= fun _ => assign target env v >>= fun _ => execs body env >>= fun f => _)) fs s'
    rw [Sem.bind_eq_wrap', Sem.wrap_wrap]
    refine seg_wrap (wpAny_mono hr (fun _ s₁ h₁ => ?_) fun _ _ x => x.elim)
    rw [Sem.bind_eq_wrap', Sem.wrap_wrap]
    refine seg_wrap (wpAny_mono h₁ (fun _ s₂ h₂ => ?_) fun _ _ x => x.elim)
    rw [Sem.bind_eq_wrap', Sem.wrap_wrap]
    rw [Sem.wrap_congr (execs body env) _ _ (K' := fun f => match f with
            | .next | .cont => .pure (.again (.forLoop target it body orelse env))
            | .brk => .pure (.done .next)
            | .ret v => .pure (.done (.ret v))) (H' := (fun e => (do noteFrame e env; theTreesLotGoes e : Sem Unit).wrap (fun _ => .raise e) .raise id id))
        (fun f => by cases f <;> rfl)
        (fun e => by first | exact Sem.bind_eq_wrap _ _ | (show (do noteFrame e env; theTreesLotGoes e : Sem Unit).bind (fun _ => .raise e) = _; rw [Sem.bind_eq_wrap]))]
    exact h₂
end

/-- one step of a generator that sleeps bare -/
theorem nextGen {prog : Program} {w : World} {A : Around} {s : Shared} {a : Addr} {g n : Nat} {gs : GenState} {R : Nat → Shared → Shared → Prop} {Y : Protocol} {Q : Option Value → Shared → Prop} (hh : A.handled = none)
    (hl : s.heap.NoLimit) (hroom : A.depth < recursionLimit) (hg : s.heap.IsGen a g) (hgs : s.gens[g]? = some gs)
    (hgo : gs.Goes (model prog w) A.in1 (fun n s₀ r s₁ => r = .ok (.ret .none) ∧ R n s₀ s₁) Y n (.send .none) (s.setGen g .running))
    (hY : ∀ v s₁ gs', gs'.bare = true → Y (n - 1) (s.setGen g .running) v s₁ (fun r' s'' => match n with
        | 0 => False
        | m + 1 => gs'.Goes (model prog w) A.in1 (fun n s₀ r s₁ => r = .ok (.ret .none) ∧ R n s₀ s₁) Y m r' s'') → Q (some v) (s₁.setGen g gs'))
    (hR : ∀ s₁, R n (s.setGen g .running) s₁ → ∀ h', (∀ b o, s₁.heap.get? b = some o → h'.get? b = some o) → Q none { s₁.setGen g .finished with heap := h' }) :
    wpAny (model prog w) A (pyNext (.ref a)) Q no s := by
  have hne : gs.status ≠ .running ∧ gs.status ≠ .finished := by cases gs <;> simp_all [GenState.Goes, GenState.status]
  unfold pyNext
  refine wpAny_bind (wpAny_attempt (wpAny_callSpecial?_slot (name := Str.ofString "__next__") hg.typeIs slot_gen_next (wpAny_call_entry slot_gen_next hg.typeIs entry_gen_next ?_ (args_gen_next _))))
  show wpAny _ A.in1 (Builtin.Generator.genWake (.ref a) (.send .none)) _ _ s
  unfold Builtin.Generator.genWake
  refine wpAny_bind (wpAny_holding (wpAny_genNumber hg (wpAny_bind (wpAny_genState hgs ?_))))
  cases gs with
  | running => exact absurd rfl hne.1
  | finished => exact absurd rfl hne.2
  | _ =>
    refine wpAny_bind (wpAny_roomToWake hl hroom ?_)
    show wpAny _ A.in1 (.resume g (.send .none) [] _) _ _ s
    refine wpAny_resumeQ hgs hgo (fun x s₁ hx => ?_) fun v s₁ gs' hb hv => wpAny_pure ⟨v, rfl, wpAny_pure (hY v s₁ gs' hb hv)⟩
    obtain ⟨rfl, hp⟩ := hx
    show wpAny _ A.in1 (newExc (.type "StopIteration") [] >>= _) _ _ _
    refine wpAny_bind ?_
    simp only [newExc, newTuple]
    refine wpAny_bind (wpAny_newObj_type ?_ (by size_fits))
    refine wpAny_bind (m := firstArgMember _ _) (wpAny_of_eq (a := Value.none) (by first | rfl | (simp only [firstArgMember]; rfl)) ?_)
    refine wpAny_newObj_type ?_ (by size_fits)
    simp only [raiseNew]
    refine wpAny_bind (wpAny_bind (wpAny_handled ?_))
    first | rw [show A.in1.handled = none from hh] | rw [hh]
    refine wpAny_throw ?_
    refine wpAny_bind (wpAny_isInstance (T := "StopIteration") (b := true) ⟨_, Heap.get?_push_size _ rfl, rfl⟩ isSubtype_stop ?_)
    exact wpAny_pure (hR s₁ hp _ fun b o hb => Heap.get?_push_of_some _ (Heap.get?_push_of_some _ hb))
end Mine

-- V15
namespace Mine
open PySem PySem.W PySem.Calls PyProof.Rows PySem.SeqAt

abbrev txt (l : List Nat) : Str := ⟨l.toArray⟩
abbrev tx (l : List Nat) : D := .str (txt l)

theorem txt_app (a b : List Nat) : txt a ++ txt b = txt (a ++ b) := by
  show (⟨a.toArray ++ b.toArray⟩ : Str) = _
  simp
theorem txt_len (a : List Nat) : (txt a).length = a.length := by show a.toArray.size = _; simp

def SubV : Vars → Vars → Prop
  | [], _ => True
  | (x, b) :: r, Γ => Γ.lookup x = some b ∧ SubV r Γ
theorem weak : ∀ {Γ' Γ : Vars}, SubV Γ' Γ → ∀ x b, Γ'.lookup x = some b → b = .any ∨ Γ.lookup x = some b
  | [], _, _, x, b, e => by cases e
  | (y, c) :: r, Γ, h, x, b, e => by
    rw [List.lookup_cons] at e
    cases q : x == y with
    | true => rw [q] at e; cases e; rw [eq_of_beq q]; exact .inr h.1
    | false => rw [q] at e; exact weak h.2 x b e

theorem take_next {α : Type} {l : List α} {k : Nat} {a : α} (h : l[k]? = some a) : l.take (k + 1) = l.take k ++ [a] := by
  rw [List.take_add_one, h]; rfl

theorem get_map {α β : Type} {f : α → β} {l : List α} {k : Nat} {d : β} (hd : (l.map f)[k]? = some d) : ∃ a, l[k]? = some a ∧ f a = d := by
  rw [List.getElem?_map] at hd
  cases e : l[k]? with
  | none => rw [e] at hd; cases hd
  | some s => rw [e] at hd; cases hd; exact ⟨s, rfl, rfl⟩

/-- the units of a text, from sign j on; behind a backslash or not -/
def ufrom : Nat → List Nat → Bool → List (Nat × List Nat)
  | _, [], false => []
  | j, [], true => [(j - 1, [92])]
  | j, c :: cs, true => (j, [92, c]) :: ufrom (j + 1) cs false
  | j, c :: cs, false => if c = 92 then ufrom (j + 1) cs true else (j, [c]) :: ufrom (j + 1) cs false

def gB : List Stmt := match fnAt 1 with | some (_, _, b, _) => b | none => []
def gSc : Scope := match fnAt 1 with | some (_, _, _, sc) => sc | none => { kind := .function, names := [], isGenerator := true, isCoroutine := false }
def gN : Str := match fnAt 1 with | some (n, _, _, _) => n | none => ""
def gT : Expr := match gB with | [_, _, .For t _ _ _ _, _] => t | _ => .Name "" default
def gL : List Stmt := match gB with | [_, _, .For _ _ b _ _, _] => b | _ => []
def gR : List Stmt := match gB with | [_, _, _, r] => [r] | _ => []

structure Gen where
  C₀ : Cx
  L : Addr
  f : Addr
  cd : Value
  xs : List Nat
  hok : CxOk C₀
  hlv : C₀.lv ≤ 90
  hLn : C₀.h₀.get? L = none
  hab : C₀.h₀.objs.size ≤ L

namespace Gen
variable (G : Gen)
abbrev env : Env := envOf gN gSc G.L G.f G.cd
abbrev cx (A : Around) (Z : List Addr) : Cx := ⟨G.C₀.w, A, G.env, G.C₀.h₀, G.C₀.mg, G.C₀.mb, Z, G.C₀.lv + 3⟩
def Ar (A : Around) : Prop := A.handled = none ∧ A.depth ≤ G.C₀.A.depth + 3 ∧ A.units ≤ G.C₀.A.units + 60
theorem okA {A : Around} (h : G.Ar A) (Z : List Addr) : CxOk (G.cx A Z) := by
  have h1 := G.hok.depth
  have h2 := G.hok.units
  have h3 := G.hlv
  refine ⟨rfl, rfl, rfl, h.1, ?_, ?_, ?_, G.hok.G⟩
  · show A.depth ≤ 400 + (G.C₀.lv + 3); have := h.2.1; omega
  · show A.units ≤ 1000 + 20 * (G.C₀.lv + 3); have := h.2.2; omega
  · show G.C₀.lv + 3 ≤ 100; omega

abbrev Gam (b : Bool) (p : Int) : Vars := [("addr", .val (tx G.xs)), ("escape", .val (.bool b)), ("pos", .val (.int p))]

theorem mkF {A : Around} {Z : List Addr} {s : Shared} {m : Str → Option Value} {b : Bool} {p : Int} (h : G.Ar A) (hkeep : ∀ b o, G.C₀.h₀.get? b = some o → s.heap.get? b = some o) (hNs : s.heap.Ns G.L m)
    (h1 : ∃ t, m "addr" = some (.str (txt G.xs) t)) (h2 : m "escape" = some (.bool b)) (h3 : ∃ t, m "pos" = some (.int p t)) (hZ : ∀ a ∈ Z, ∃ o, s.heap.get? a = some o) (hLZ : G.L ∉ Z) : FS (G.cx A Z) [G.L] (G.Gam b p) s := by
  obtain ⟨t, h1⟩ := h1
  obtain ⟨u, h3⟩ := h3
  refine ⟨G.okA h Z, ⟨m, ⟨hNs, hkeep, G.hab⟩, fun x c e => ?_, fun x y ds es a e1 e2 e3 e4 => ?_⟩, List.mem_singleton.mpr rfl, fun a ha => ?_, fun a ha => (List.mem_singleton.mp ha) ▸ G.hLn, fun a ha => (List.mem_singleton.mp ha) ▸ hLZ⟩
  · rcases look_cons e with ⟨rfl, rfl⟩ | ⟨_, e⟩
    · exact ⟨_, h1, .str⟩
    · rcases look_cons e with ⟨rfl, rfl⟩ | ⟨_, e⟩
      · exact ⟨_, h2, .bool⟩
      · rcases look_cons e with ⟨rfl, rfl⟩ | ⟨_, e⟩
        · exact ⟨_, h3, .int⟩
        · cases e
  · rcases look_cons e1 with ⟨_, q⟩ | ⟨_, e⟩
    · cases q
    · rcases look_cons e with ⟨_, q⟩ | ⟨_, e⟩
      · cases q
      · rcases look_cons e with ⟨_, q⟩ | ⟨_, e⟩
        · cases q
        · cases e
  · rcases List.mem_cons.mp ha with q | q
    · rw [q]; obtain ⟨o, _, _, e, _⟩ := hNs; exact ⟨o, e⟩
    · exact hZ a q

/-- what the table says -/
structure Tab (s : Shared) (b : Bool) (p : Int) : Prop where
  ex : ∃ m t u, s.heap.Ns G.L m ∧ m "addr" = some (.str (txt G.xs) t) ∧ m "escape" = some (.bool b) ∧ m "pos" = some (.int p u)
theorem tab {A : Around} {Z : List Addr} {s : Shared} {b : Bool} {p : Int} {Γ : Vars} (F : FS (G.cx A Z) [G.L] Γ s) (h1 : Γ.lookup ("addr" : Str) = some (.val (tx G.xs))) (h2 : Γ.lookup ("escape" : Str) = some (.val (.bool b))) (h3 : Γ.lookup ("pos" : Str) = some (.val (.int p))) : G.Tab s b p := by
  obtain ⟨m, Fr, hb, _⟩ := F.ex
  obtain ⟨v1, e1, i1⟩ := hb _ _ h1
  obtain ⟨v2, e2, i2⟩ := hb _ _ h2
  obtain ⟨v3, e3, i3⟩ := hb _ _ h3
  cases i1; cases i2; cases i3
  exact ⟨m, _, _, Fr.ns, e1, e2, e3⟩
theorem Tab.keep {G : Gen} {s s' : Shared} {b : Bool} {p : Int} (T : G.Tab s b p) (h : ∀ o, s.heap.get? G.L = some o → s'.heap.get? G.L = some o) : G.Tab s' b p := by
  obtain ⟨m, t, u, ⟨o, es, ep, e, r⟩, q⟩ := T.ex
  exact ⟨m, t, u, ⟨o, es, ep, h _ e, r⟩, q⟩

/-- the units, all -/
abbrev us : List (Nat × List Nat) := ufrom 0 G.xs false

structure Yd (V : List Addr) (n : Nat) (s₀ : Shared) (v : Value) (s₁ : Shared) (kap : Resume → Shared → Prop) : Prop where
  lt : n < G.us.length
  val : ∃ p q T t u, G.us[G.us.length - 1 - n]? = some (p, q) ∧ v = .ref T ∧ s₁.heap.IsTuple T #[.int (p : Nat) t, .str (txt q) u] ∧ s₀.heap.get? T = none
  ext : ExtJ (G.L :: V) [] s₀ s₁
  loose : Loose s₁.heap V
  live : ∃ o, s₁.heap.get? G.L = some o
  go : ∀ s'', (∀ b o, b = G.L ∨ b ∈ V → s₁.heap.get? b = some o → s''.heap.get? b = some o) → (∀ b o, G.C₀.h₀.get? b = some o → s''.heap.get? b = some o) → kap (.send .none) s''
def Rd (V : List Addr) (n : Nat) (s₀ s₁ : Shared) : Prop := n = 0 ∧ ExtJ (G.L :: V) [] s₀ s₁ ∧ ∃ o, s₁.heap.get? G.L = some o

abbrev M : Model := model P G.C₀.w
abbrev Sg (V : List Addr) (n : Nat) (s₀ : Shared) (c : Code) (t : Sem Fin) (fs : List Frame) (s : Shared) : Prop :=
  Seg G.M G.C₀.A.in1 (fun n s₀ r s₁ => r = .ok (.ret .none) ∧ G.Rd V n s₀ s₁) (G.Yd V) n s₀ c t fs s

/-- a unit given out -/
theorem yield {V Z : List Addr} {n : Nat} {s₀ s : Shared} {c : Code} {fs : List Frame} {K : Flow → Sem Fin} {H : Value → Sem Fin} {gd : Bool → Bool} {lv : List Value → List Value} {e : Expr} {ypos pos : Pos} {Γ : Vars} {p : Nat} {q : List Nat} {b : Bool} {p' : Int}
    (hA : G.Ar (G.C₀.A.in1.over c fs)) (hfs : splitAtGen fs = none) (hgd : gd false = false) (hfg : fs.any Frame.guarded = false)
    (F : FS (G.cx (G.C₀.A.in1.over c fs) (V ++ Z)) [G.L] Γ s) (h1 : Γ.lookup ("addr" : Str) = some (.val (tx G.xs))) (h2 : Γ.lookup ("escape" : Str) = some (.val (.bool b))) (h3 : Γ.lookup ("pos" : Str) = some (.val (.int p')))
    (he : Ev (G.cx (G.C₀.A.in1.over c fs) (V ++ Z)) Γ e (.tup [.int p, tx q])) (hV : Loose s.heap V) (hVL : G.L ∉ V)
    (x : ExtJ (G.L :: V) [] s₀ s) (hz : ∀ a o, s₀.heap.get? a = some o → a = G.L ∨ a ∈ V ∨ a ∈ Z) (hn : n < G.us.length) (hu : G.us[G.us.length - 1 - n]? = some (p, q))
    (go : ∀ s₁, (∀ b o, b ∈ V → s.heap.get? b = some o → s₁.heap.get? b = some o) → G.Tab s₁ b p' → (∀ b o, G.C₀.h₀.get? b = some o → s₁.heap.get? b = some o) → G.Sg V n s₁ c (K .next) fs s₁) :
    G.Sg V (n + 1) s₀ c ((exec (.Expr (.Yield (some e) ypos) pos) G.env).wrap K H gd lv) fs s := by
  refine seg_Expr_Yield hfs hgd hfg (wpAny_mono (he _ s F) (fun v s₁ h => ?_) fun _ _ x => x.elim)
  obtain ⟨F₁, i, x₁⟩ := h
  intro kap hkap
  obtain ⟨_, _, rfl, ht, hX, hvs⟩ := i.tupI
  cases hvs with | cons v1 hvs => cases hvs with | cons v2 hvs => cases hvs with | nil =>
  obtain ⟨_, rfl⟩ := v1.intI; obtain ⟨_, rfl⟩ := v2.strI
  have keepV : ∀ b o, b ∈ V → s.heap.get? b = some o → s₁.heap.get? b = some o := fun b o hb e => x₁.keep (fun (q : b = G.L) => hVL (q ▸ hb)) e
  have T₁ : G.Tab s₁ b p' := G.tab F₁ h1 h2 h3
  refine ⟨hn, ⟨p, q, _, _, _, hu, rfl, ht, ?_⟩, x.trans x₁.ext (fun a ha => .inl ((List.mem_singleton.mp ha) ▸ List.mem_cons_self)) (fun _ h => nomatch h), fun a ha => ?_, ?_, fun s'' hk hk0 => ?_⟩
  · cases hz0 : s₀.heap.get? _ with
    | none => rfl
    | some o =>
      exfalso
      rcases hz _ o hz0 with z | z | z
      · exact hX (List.mem_append_left _ (List.mem_singleton.mpr z))
      · exact hX (List.mem_append_right _ (List.mem_append_left _ z))
      · exact hX (List.mem_append_right _ (List.mem_append_right _ z))
  · obtain ⟨o, vs, e, d⟩ := hV a ha; exact ⟨o, vs, keepV a o ha e, d⟩
  · obtain ⟨m, _, _, ⟨o, _, _, e, _⟩, _⟩ := T₁.ex; exact ⟨o, e⟩
  · refine hkap _ _ (go s'' (fun b o hb e => hk b o (.inr hb) (keepV b o hb e)) (T₁.keep fun o e => hk _ o (.inl rfl) e) hk0)
end Gen
end Mine

-- V16
namespace Mine
open PySem PySem.W PySem.Calls PyProof.Rows PySem.SeqAt

/-- the two objects of enumerate over a text -/
abbrev EnSt (x : Str) (t : Tok) (e src : Addr) (i : Nat) (h : Heap) : Prop := (∃ old, IsEnum h e src i old) ∧ h.IsStrIter src (strIterType x) x t i
theorem enumWalk {w : World} {A : Around} (hA : A.handled = none) (x : Str) (t : Tok) (src e : Addr) (h : e ≠ src) : WalksT P w A e [e, src] [e, src] x.cps.size
    (fun i vals => ∃ t' y, (∃ c u, x.cps[i]? = some c ∧ y = Value.str ⟨#[c]⟩ u) ∧ vals = #[.int i t', y]) (fun i h => EnSt x t e src i h)
    (fun i T h => (∃ x, IsEnumOut h e src ((i : Int) + 1) x T) ∧ h.IsStrIter src (strIterType x) x t (i + 1) ∧ T ≠ e ∧ T ≠ src) := by
  refine WalksT.enumerateD (P := fun i v => ∃ c u, x.cps[i]? = some c ∧ v = .str ⟨#[c]⟩ u) (St := fun i h => h.IsStrIter src (strIterType x) x t i) (n := x.cps.size) (fp := [src]) ?_ e h (fun q => h (List.mem_singleton.mp q)) (List.mem_singleton.mpr rfl)
  unfold strIterType
  split
  · exact Draws.strAscii (A := A.in1) hA _ x t
  · exact Draws.strWide (A := A.in1) hA _ x t
theorem EnSt.loose {x : Str} {t : Tok} {e src : Addr} {i : Nat} {h : Heap} (s : EnSt x t e src i h) : Loose h [e, src] := fun a ha => by
  obtain ⟨⟨old, e1⟩, ⟨o, e2, _, d⟩⟩ := s
  rcases List.mem_cons.mp ha with q | q
  · exact ⟨_, _, q ▸ e1, rfl⟩
  · rw [List.mem_singleton.mp q]; exact ⟨o, _, e2, d⟩
theorem EnSt.keep {x : Str} {t : Tok} {e src : Addr} {i : Nat} {h h' : Heap} (s : EnSt x t e src i h) (k : ∀ b o, b ∈ [e, src] → h.get? b = some o → h'.get? b = some o) : EnSt x t e src i h' := by
  obtain ⟨⟨old, e1⟩, ⟨o, e2, r⟩⟩ := s
  exact ⟨⟨old, k _ _ (by simp) e1⟩, ⟨o, k _ _ (by simp) e2, r⟩⟩

namespace Gen
variable (G : Gen)

/-- the frame of the generator around its loop -/
abbrev kR : Result → Sem Fin := fun r => ((match r with | .ok f => (.pure f : Sem Flow) | .error e => .raise e).onRaise fun (x : Value) => do
        if (← field x 1) == Value.none then unsupported "frame.own-activation:exception-without-traceback"
        setFlight x G.env.frame).wrap (fun (f : Flow) => match f with | .next => (execs gR G.env).wrap (fun (f : Flow) => .pure (.done (.ret (match f with | .ret v => v | _ => .none)))) (fun e => (leaving G.env e).wrap (fun _ => .raise e) .raise id id) id id | f => .pure (.done (.ret (match f with | .ret v => v | _ => .none))))
          (fun e => (leaving G.env e).wrap (fun _ => .raise e) .raise id id) id id
abbrev fr (p : Pos) : Frame := .ret G.kR none false [] (.func gB G.env) p []
abbrev lc (e : Addr) : Code := .forLoop gT (.ref e) gL [] G.env

theorem arL (p : Pos) (e : Addr) (h : G.C₀.A.handled = none) : G.Ar (G.C₀.A.in1.over (G.lc e) [G.fr p]) := by
  refine ⟨?_, ?_, ?_⟩
  · show (marksOver [G.fr p] (G.C₀.A.handled, G.C₀.A.handled)).1 = none
    rw [h]; rfl
  · show G.C₀.A.depth + _ + _ ≤ _
    have h1 : frameCount ([G.fr p].map Frame.where_) = 1 := rfl
    have h2 : (G.lc e).weight = 0 := rfl
    rw [h1, h2]; omega
  · show G.C₀.A.units + 1 + _ + _ ≤ _
    have h1 : unitsOf ([G.fr p].map Frame.where_) ≤ 20 := Nat.le_of_ble_eq_true rfl
    have h2 : (G.lc e).cUnits ≤ 20 := Nat.le_of_ble_eq_true rfl
    omega
theorem arF (h : G.C₀.A.handled = none) : G.Ar (G.C₀.A.in1.over (.func gB G.env) []) := by
  refine ⟨?_, ?_, ?_⟩
  · exact h
  · show G.C₀.A.depth + _ + _ ≤ _
    have h1 : frameCount (([] : List Frame).map Frame.where_) = 0 := rfl
    have h2 : (Code.func gB G.env).weight = 1 := rfl
    rw [h1, h2]; omega
  · show G.C₀.A.units + 1 + _ + _ ≤ _
    have h1 : unitsOf (([] : List Frame).map Frame.where_) ≤ 20 := Nat.le_of_ble_eq_true rfl
    have h2 : (Code.func gB G.env).cUnits ≤ 20 := Nat.le_of_ble_eq_true rfl
    omega

theorem reA {A A' : Around} {Z : List Addr} {Γ : Vars} {s : Shared} (h : G.Ar A') (F : FS (G.cx A Z) [G.L] Γ s) : FS (G.cx A' Z) [G.L] Γ s := by
  obtain ⟨m, Fr, hb, ap⟩ := F.ex
  refine ⟨G.okA h Z, ⟨m, Fr, fun x b e => ?_, ap⟩, F.hL, F.live, F.new, F.off⟩
  have B := hb x b e
  cases b <;> exact B

/-- the end of the text -/
theorem seg_tail {V Z : List Addr} {n : Nat} {s₀ s : Shared} {b : Bool} {p' : Int} (hh : G.C₀.A.handled = none) (F : FS (G.cx (G.C₀.A.in1.over (.func gB G.env) []) (V ++ Z)) [G.L] (G.Gam b p') s)
    (hV : Loose s.heap V) (hVL : G.L ∉ V) (x : ExtJ (G.L :: V) [] s₀ s) (hz : ∀ a o, s₀.heap.get? a = some o → a = G.L ∨ a ∈ V ∨ a ∈ Z) (hn : n ≤ G.us.length)
    (hu : G.us.drop (G.us.length - n) = ufrom G.xs.length [] b) (hp : b = true → p' = ((G.xs.length - 1 : Nat) : Int)) :
    G.Sg V n s₀ (.func gB G.env) ((execs gR G.env).wrap (fun f => .pure (.done (.ret (match f with | .ret v => v | _ => .none)))) (fun e => (leaving G.env e).wrap (fun _ => .raise e) .raise id id) id id) [] s := by
  have fin : ∀ {s₀ s : Shared}, ExtJ (G.L :: V) [] s₀ s → (∃ o, s.heap.get? G.L = some o) → G.Sg V 0 s₀ (.func gB G.env) (.pure (.done (.ret .none))) [] s := fun x l => seg_end (.ok (.ret .none)) ⟨rfl, rfl, x, l⟩
  refine seg_execs_cons (segIf ?_)
  cases b with
  | false =>
    have hn0 : n = 0 := by have := congrArg List.length hu; simp [ufrom] at this; omega
    subst hn0
    refine wpAny_mono ((Tr.of (Ev.loc (d := .bool false) rfl rfl) Truth.bool) _ s F) (fun b' s' h => ?_) fun _ _ x => x
    obtain ⟨rfl, F', x'⟩ := h
    rw [if_neg Bool.false_ne_true]
    refine seg_execs_nil ?_
    refine fin (x.trans x'.ext (fun a ha => .inl ((List.mem_singleton.mp ha) ▸ List.mem_cons_self)) fun _ h => nomatch h) ?_
    obtain ⟨m, Fr, _⟩ := F'.ex
    obtain ⟨o, _, _, e, _⟩ := Fr.ns
    exact ⟨o, e⟩
  | true =>
    have hlen := congrArg List.length hu
    simp [ufrom] at hlen
    obtain ⟨n', rfl⟩ : ∃ n', n = n' + 1 := ⟨n - 1, by omega⟩
    have hn' : n' = 0 := by omega
    subst hn'
    have hu' : G.us[G.us.length - 1 - 0]? = some (G.xs.length - 1, [92]) := by
      have := congrArg List.head? hu
      rw [List.head?_drop] at this
      simpa [ufrom] using this
    refine wpAny_mono ((Tr.of (Ev.loc (d := .bool true) rfl rfl) Truth.bool) _ s F) (fun b' s' h => ?_) fun _ _ x => x
    obtain ⟨rfl, F', x'⟩ := h
    rw [if_pos rfl]
    refine seg_execs_cons ?_
    have hV' : Loose s'.heap V := fun a ha => by
      obtain ⟨o, vs, e, d⟩ := hV a ha
      exact ⟨o, vs, x'.keep (fun (q : a = G.L) => hVL (q ▸ ha)) e, d⟩
    refine G.yield (p := G.xs.length - 1) (q := [92]) (b := true) (p' := p') (G.arF hh) rfl rfl rfl F' rfl rfl rfl (Ev.tuple (Evs.cons (by rw [← hp rfl]; exact Ev.loc rfl rfl) (Evs.cons Ev.str Evs.nil)) (by show 2 ≤ 1000; decide)) hV' hVL (x.trans x'.ext (fun a ha => .inl ((List.mem_singleton.mp ha) ▸ List.mem_cons_self)) fun _ h => nomatch h) hz (by omega) hu' (fun s₁ hk T h0 => ?_)
    refine seg_execs_nil ?_
    refine fin ⟨fun _ _ _ e => e, fun _ _ _ e => e, fun i g hi e => ?_, Nat.le_refl _, rfl⟩ ?_
    · rcases hi with hi | hi
      · cases hi
      · rw [Array.getElem?_eq_none hi] at e; cases e
    · obtain ⟨m, _, _, ⟨o, _, _, e, _⟩, _⟩ := T.ex; exact ⟨o, e⟩
end Gen
end Mine

-- V17
namespace Mine
open PySem PySem.W PySem.Calls PyProof.Rows PySem.SeqAt

section
variable {w : World} {A : Around} {s : Shared}

theorem looseField {h : Heap} {it : Addr} {o : Obj} {vs : Array Value} {k : Nat} {x : Value} {o1 o2 : Obj} (ho : h.get? it = some o) (hd : o.data = .fields vs) :
    Loose (((h.update it (Obj.mapFields (·.setIfInBounds k x))).push o1).push o2) [it] := fun a ha => by
  rw [List.mem_singleton.mp ha]
  have hd' := Obj.data_mapFields (f := (·.setIfInBounds k x)) hd
  exact ⟨_, _, Heap.get?_push_of_some _ (Heap.get?_push_of_some _ (Heap.get?_update_self _ ho (Obj.isFreed_of_fields hd'))), hd'⟩

/-- behind the last sign: the text's iterator still stands -/
theorem enumDone {x : Str} {t : Tok} {e src : Addr} {Q : Option Value → Shared → Prop} (hA : A.handled = none) (st : EnSt x t e src x.cps.size s.heap)
    (hQ : ∀ h', Heap.ExtBut src s.heap h' → Loose h' [src] → Q none { s with heap := h' }) : wpAny (model P w) A (pyNext (.ref e)) Q no s := by
  obtain ⟨⟨old, he⟩, hit⟩ := st
  obtain ⟨o, ho, hc, hd⟩ := id hit
  have hT : s.TypeIs (.ref e) "enumerate" := ⟨_, he, rfl⟩
  have hx : x.cps[x.cps.size]? = none := by simp
  unfold pyNext
  refine wpAny_bind (wpAny_attempt (wpAny_callSpecial?_slot (name := Str.ofString "__next__") hT PySem.F.slot_enumerate_next
    (wpAny_call_entry PySem.F.slot_enumerate_next hT PySem.F.entry_enumerate_next ?_ (PySem.F.args_enumerate_next_1 _))))
  show wpAny _ _ (field (.ref e) 2 >>= _) _ _ _
  refine wpAny_bind (wpAny_field he rfl (x := .ref src) rfl (wpAny_bind ?_))
  unfold Builtin.SmallTypes.nextOf
  unfold strIterType at hit hc
  split at hc
  · rename_i q
    rw [if_pos q] at hit
    refine wpAny_bind (wpAny_callSpecial?_slot (name := Str.ofString "__next__") hit.typeIs PySem.F.slot_str_ascii_iterator_next
      (wpAny_call_entry PySem.F.slot_str_ascii_iterator_next hit.typeIs PySem.F.entry_str_ascii_iterator_next ?_ (PySem.F.args_str_ascii_iterator_next_1 _)))
    show wpAny _ _ (field (.ref src) 0 >>= _) _ _ s
    refine wpAny_bind (wpAny_field ho hd (x := .str x t) rfl ?_)
    show wpAny _ _ (field (.ref src) 1 >>= _) _ _ s
    refine wpAny_bind (wpAny_field ho hd (x := .int x.cps.size 0) rfl ?_)
    simp only [Int.toNat_natCast, hx]
    refine wpAny_bind (wpAny_rule (wpAny_bind (wpAny_setField ho hd (by simp) (wpAny_bind (wpAny_letGo ?_)))))
    show wpAny _ _ (newExc (.type "StopIteration") [] >>= _) _ _ _
    refine wpAny_bind ?_
    simp only [newExc, newTuple]
    refine wpAny_bind (wpAny_newObj_type ?_ (by size_fits))
    refine wpAny_bind (m := firstArgMember _ _) (wpAny_of_eq (a := Value.none) (by first | rfl | (simp only [firstArgMember]; rfl)) ?_)
    refine wpAny_newObj_type ?_ (by size_fits)
    simp only [raiseNew]
    refine wpAny_bind (wpAny_handled ?_)
    first | rw [show A.in1.in1.handled = none from hA] | rw [show A.in1.handled = none from hA] | rw [hA]
    refine wpAny_bind (wpAny_pure (wpAny_throw ?_))
    refine wpAny_bind (wpAny_isInstance (T := "StopIteration") (b := true) ⟨_, Heap.get?_push_size _ rfl, rfl⟩ isSubtype_stop ?_)
    exact wpAny_pure (hQ _ (((Heap.SameBut.update ..).extBut.push _).push _) (looseField ho hd))
  · rename_i q
    rw [if_neg q] at hit
    refine wpAny_bind (wpAny_callSpecial?_slot (name := Str.ofString "__next__") hit.typeIs PySem.F.slot_str_iterator_next
      (wpAny_call_entry PySem.F.slot_str_iterator_next hit.typeIs PySem.F.entry_str_iterator_next ?_ (PySem.F.args_str_iterator_next_1 _)))
    show wpAny _ _ (field (.ref src) 0 >>= _) _ _ s
    refine wpAny_bind (wpAny_field ho hd (x := .str x t) rfl ?_)
    show wpAny _ _ (field (.ref src) 1 >>= _) _ _ s
    refine wpAny_bind (wpAny_field ho hd (x := .int x.cps.size 0) rfl ?_)
    simp only [Int.toNat_natCast, hx]
    refine wpAny_bind (wpAny_rule (wpAny_bind (wpAny_setField ho hd (by simp) (wpAny_bind (wpAny_letGo ?_)))))
    show wpAny _ _ (newExc (.type "StopIteration") [] >>= _) _ _ _
    refine wpAny_bind ?_
    simp only [newExc, newTuple]
    refine wpAny_bind (wpAny_newObj_type ?_ (by size_fits))
    refine wpAny_bind (m := firstArgMember _ _) (wpAny_of_eq (a := Value.none) (by first | rfl | (simp only [firstArgMember]; rfl)) ?_)
    refine wpAny_newObj_type ?_ (by size_fits)
    simp only [raiseNew]
    refine wpAny_bind (wpAny_handled ?_)
    first | rw [show A.in1.in1.handled = none from hA] | rw [show A.in1.handled = none from hA] | rw [hA]
    refine wpAny_bind (wpAny_pure (wpAny_throw ?_))
    refine wpAny_bind (wpAny_isInstance (T := "StopIteration") (b := true) ⟨_, Heap.get?_push_size _ rfl, rfl⟩ isSubtype_stop ?_)
    exact wpAny_pure (hQ _ (((Heap.SameBut.update ..).extBut.push _).push _) (looseField ho hd))
end
end Mine

-- V18
namespace Mine
open PySem PySem.W PySem.Calls PyProof.Rows PySem.SeqAt

theorem assignX {C : Cx} {Γ : Vars} {x : Str} {np pos : Pos} {e : Expr} {d : D} {X : List Addr} {s : Shared} (h : Ev C Γ e d) (F : FS C X Γ s) (hl : C.env.kindOf x = some .local) (hs : swapsWith e (some (.Name x np)) pos.line C.env = pure false := by rfl) :
    wpAny C.M C.A (exec (.Assign [.Name x np] e pos) C.env) (fun f s' => f = .next ∧ FS C X ((x, .val d) :: Γ) s' ∧ Ext [C.L] s s') no s :=
  wpAny_Assign_Name (wpAny_mono (h X s F) (fun v s₁ p => wpAny_mono (p.1.store p.2.1 hl) (fun _ s₂ q => ⟨rfl, q.1, p.2.2.ext.trans' q.2⟩) fun _ _ x => x) fun _ _ x => x) hs

/-- what stands, but for some -/
def liveOff (s : Shared) (ex : List Addr) : List Addr := (List.range s.heap.objs.size).filter fun b => (s.heap.get? b).isSome && !ex.contains b
theorem mem_liveOff {s : Shared} {ex : List Addr} {a : Addr} : a ∈ liveOff s ex ↔ (∃ o, s.heap.get? a = some o) ∧ a ∉ ex := by
  unfold liveOff
  rw [List.mem_filter, List.mem_range]
  constructor
  · rintro ⟨_, h⟩
    simp only [Bool.and_eq_true, Bool.not_eq_true', Option.isSome_iff_exists] at h
    exact ⟨h.1, by have := h.2; simpa using this⟩
  · rintro ⟨⟨o, e⟩, h⟩
    refine ⟨Heap.lt_size e, ?_⟩
    simp [e, h]

theorem drop_cons {α : Type} {l : List α} {k : Nat} {a : α} {r : List α} (h : l.drop k = a :: r) : k < l.length ∧ l[k]? = some a ∧ l.drop (k + 1) = r := by
  have hk : k < l.length := by
    refine Nat.lt_of_not_le fun q => ?_
    rw [List.drop_eq_nil_of_le q] at h; cases h
  rw [List.drop_eq_getElem_cons hk] at h
  cases h
  exact ⟨hk, List.getElem?_eq_getElem hk, rfl⟩

namespace Gen
variable (G : Gen)

theorem again_refl {V : List Addr} (s : Shared) : ExtJ V [] s s := ⟨fun _ _ _ e => e, fun _ _ _ e => e, (fun i g hi e => by
  rcases hi with hi | hi
  · cases hi
  · rw [Array.getElem?_eq_none hi] at e; cases e), Nat.le_refl _, rfl⟩

theorem seg_loop (hh : G.C₀.A.handled = none) {t : Tok} {e src : Addr} (hne : e ≠ src) (hVL : G.L ∉ [e, src]) (h0 : ∀ a ∈ [e, src], G.C₀.h₀.get? a = none) (p : Pos) :
    ∀ (cs : List Nat) (j : Nat) (b : Bool) (p' : Int) (n : Nat) (Z : List Addr) (s₀ s : Shared), G.xs.drop j = cs → j ≤ G.xs.length →
      FS (G.cx (G.C₀.A.in1.over (G.lc e) [G.fr p]) ([e, src] ++ Z)) [G.L] (G.Gam b p') s → EnSt (txt G.xs) t e src j s.heap → (∀ a ∈ [e, src], a ∉ Z) → ExtJ (G.L :: [e, src]) [] s₀ s →
      (∀ a o, s₀.heap.get? a = some o → a = G.L ∨ a ∈ [e, src] ∨ a ∈ Z) → n ≤ G.us.length → G.us.drop (G.us.length - n) = ufrom j cs b → (b = true → p' = ((j - 1 : Nat) : Int)) →
      G.Sg [e, src] n s₀ (G.lc e) (G.M.den (G.lc e)) [G.fr p] s
  | [], j, b, p', n, Z, s₀, s, hcs, hj, F, st, hZ, x, hz, hn, hu, hp => by
    have hjl : j = G.xs.length := by
      have := congrArg List.length hcs; simp at this; omega
    subst hjl
    have hAr := G.arL p e hh
    have st' : EnSt (txt G.xs) t e src (txt G.xs).cps.size s.heap := by
      have : (txt G.xs).cps.size = G.xs.length := by simp
      rw [this]; exact st
    refine segLoop (enumDone hAr.1 st' fun h' hk hl => ?_)
    have he : ∃ o vs, h'.get? e = some o ∧ o.data = .fields vs := by
      obtain ⟨o, vs, q, d⟩ := st.loose e (by simp); exact ⟨o, vs, hk e o hne q, d⟩
    have hlo : Loose h' [e, src] := fun a ha => by
      rcases List.mem_cons.mp ha with q | q
      · rw [q]; exact he
      · exact hl a q
    have kk : ∀ b o, b ∉ [e, src] → s.heap.get? b = some o → h'.get? b = some o := fun b o hb q => hk b o (fun z => hb (by simp [z])) q
    have F' : FS (G.cx (G.C₀.A.in1.over (G.lc e) [G.fr p]) ([e, src] ++ Z)) [G.L] (G.Gam b p') { s with heap := h' } := F.off' (W := [e, src]) (fun a ha => List.mem_append_left _ ha) h0 kk fun a ha => by obtain ⟨o, _, q, _⟩ := hlo a ha; exact ⟨o, q⟩
    have x' : ExtJ (G.L :: [e, src]) [] s { s with heap := h' } := Ext.heap (k := s.toks) fun b o hb q => kk b o (fun z => hb (List.mem_cons_of_mem _ z)) q
    exact seg_leaf (.ok .next) (G.seg_tail hh (G.reA (G.arF hh) F') hlo hVL (x.trans x' (fun a ha => .inl ha) fun _ h => nomatch h) hz hn hu hp)
  | c :: cs, j, b, p', n, Z, s₀, s, hcs, hj, F, st, hZ, x, hz, hn, hu, hp => by
    obtain ⟨hjl, hc, hcs'⟩ := drop_cons hcs
    have hAr := G.arL p e hh
    have hjs : j < (txt G.xs).cps.size := by simpa using hjl
    have hWk := enumWalk (w := G.C₀.w) hAr.1 (txt G.xs) t src e hne
    refine segLoop (hWk.item j s _ no hjs st fun T vals h1 tk hP hT hit hmid hk1 => ?_)
    refine hWk.go _ _ _ j T _ _ no hmid fun h2 st2 hk2 => ?_
    have kk : ∀ b o, b ∉ [e, src] → s.heap.get? b = some o → h2.get? b = some o := fun b o hb q => hk2 b o hb (hk1 b o hb q)
    have F2 : FS (G.cx (G.C₀.A.in1.over (G.lc e) [G.fr p]) ([e, src] ++ Z)) [G.L] (G.Gam b p') { s with heap := h2, toks := tk } := F.off' (W := [e, src]) (s' := { s with heap := h2, toks := tk }) (fun a ha => List.mem_append_left _ ha) h0 kk fun a ha => by obtain ⟨o, _, q, _⟩ := st2.loose a ha; exact ⟨o, q⟩
    obtain ⟨t', y, ⟨c', u, hc', rfl⟩, rfl⟩ := hP
    have hcc : c' = c := by
      have h1 : (txt G.xs).cps[j]? = G.xs[j]? := by simp
      rw [h1, hc] at hc'; exact (Option.some.inj hc').symm
    subst hcc
    have hTav : T ∉ (G.cx (G.C₀.A.in1.over (G.lc e) [G.fr p]) ([e, src] ++ Z)).av [G.L] := fun q => by
      obtain ⟨o, q'⟩ := F.live T q
      exact absurd (Heap.lt_size q') (Nat.not_lt.mpr hT)
    have iT : Is h2 ((G.cx (G.C₀.A.in1.over (G.lc e) [G.fr p]) ([e, src] ++ Z)).av [G.L]) (.ref T) (.tup [.int j, tx [c']]) := by
      obtain ⟨o, q, r⟩ := hit
      exact .tup (vs := [.int j t', .str ⟨#[c']⟩ u]) ⟨o, hk2 T o (hWk.apart j T h1 hmid) q, r⟩ hTav (.cons .int (.one .str))
    have x2 : ExtJ (G.L :: [e, src]) [] s₀ { s with heap := h2, toks := tk } := x.trans (Y' := [e, src]) (J' := []) (Ext.heap kk) (fun a ha => .inl (List.mem_cons_of_mem _ ha)) fun _ h => nomatch h
    refine wpAny_mono ((As.tup (AsIn.cons (As.name rfl) (AsIn.cons (As.name rfl) AsIn.nil)) : As (G.cx (G.C₀.A.in1.over (G.lc e) [G.fr p]) ([e, src] ++ Z)) (G.Gam b p') gT (.tup [.int j, tx [c']]) (("ch", .val (tx [c'])) :: ("pos", .val (.int j)) :: G.Gam b p')) _ _ _ F2 iT) (fun _ s3 h => ?_) fun _ _ x => x
    obtain ⟨F3, x3⟩ := h
    have keepL : ∀ {s s' : Shared}, Ext [G.L] s s' → ∀ b o, b ∈ [e, src] → s.heap.get? b = some o → s'.heap.get? b = some o := fun x b o hb q => x.keep b o (fun z => hVL ((List.mem_singleton.mp z) ▸ hb)) q
    have st3 : EnSt (txt G.xs) t e src (j + 1) s3.heap := st2.keep (keepL x3)
    have x3' : ExtJ (G.L :: [e, src]) [] s₀ s3 := x2.trans x3 (fun a ha => .inl ((List.mem_singleton.mp ha) ▸ List.mem_cons_self)) fun _ h => nomatch h
    have addLL : ∀ {s s' : Shared}, ExtJ (G.L :: [e, src]) [] s₀ s → Ext [G.L] s s' → ExtJ (G.L :: [e, src]) [] s₀ s' := fun a b => a.trans b (fun a ha => .inl ((List.mem_singleton.mp ha) ▸ List.mem_cons_self)) fun _ h => nomatch h
    -- the frame again, after a pause
    have back : ∀ {s₁ : Shared} {b : Bool} {p' : Int}, G.Tab s₁ b p' → (∀ b o, G.C₀.h₀.get? b = some o → s₁.heap.get? b = some o) → EnSt (txt G.xs) t e src (j + 1) s₁.heap →
        FS (G.cx (G.C₀.A.in1.over (G.lc e) [G.fr p]) ([e, src] ++ liveOff s₁ [G.L, e, src])) [G.L] (G.Gam b p') s₁ ∧ (∀ a ∈ [e, src], a ∉ liveOff s₁ [G.L, e, src]) ∧ ∀ a o, s₁.heap.get? a = some o → a = G.L ∨ a ∈ [e, src] ∨ a ∈ liveOff s₁ [G.L, e, src] := fun {s₁ b p'} T hk0 st => by
      obtain ⟨m, t1, u1, hNs, a1, a2, a3⟩ := T.ex
      refine ⟨G.mkF hAr hk0 hNs ⟨_, a1⟩ a2 ⟨_, a3⟩ (fun a ha => ?_) (fun q => ?_), fun a ha q => (mem_liveOff.mp q).2 (List.mem_cons_of_mem _ ha), fun a o q => ?_⟩
      · rcases List.mem_append.mp ha with q | q
        · obtain ⟨o, _, z, _⟩ := st.loose a q; exact ⟨o, z⟩
        · exact (mem_liveOff.mp q).1
      · rcases List.mem_append.mp q with q | q
        · exact hVL q
        · exact (mem_liveOff.mp q).2 List.mem_cons_self
      · by_cases z : a = G.L
        · exact .inl z
        · by_cases z' : a ∈ [e, src]
          · exact .inr (.inl z')
          · exact .inr (.inr (mem_liveOff.mpr ⟨⟨o, q⟩, fun q => (List.mem_cons.mp q).elim z z'⟩))
    refine seg_execs_cons (segIf ?_)
    cases b with
    | true =>
      have hu' : G.us.drop (G.us.length - n) = (j, [92, c']) :: ufrom (j + 1) cs false := hu
      obtain ⟨u1, u2, u3⟩ := drop_cons hu'
      obtain ⟨n', rfl⟩ : ∃ n', n = n' + 1 := ⟨n - 1, by omega⟩
      refine wpAny_mono ((Tr.of (Ev.loc (d := .bool true) rfl rfl) Truth.bool) _ s3 F3) (fun b' s4 h => ?_) fun _ _ x => x
      obtain ⟨rfl, F4, x4⟩ := h
      rw [if_pos rfl]
      have st4 := st3.keep (keepL x4.ext)
      refine seg_execs_cons ?_
      have hq : txt [92] ++ txt [c'] = txt [92, c'] := txt_app [92] [c']
      refine G.yield (p := j) (q := [92, c']) (b := true) (p' := j) hAr rfl rfl rfl F4 rfl rfl rfl (Ev.tuple (Evs.cons (Ev.loc rfl rfl) (Evs.cons (by rw [show tx [92, c'] = .str (txt [92] ++ txt [c']) by rw [hq]]; exact Ev.bin Ev.str (Ev.loc rfl rfl) (Bop.addS (by show 1 + 1 ≤ 1000000; omega))) Evs.nil)) (by show 2 ≤ 1000; decide)) st4.loose hVL (addLL x3' x4.ext) hz (by omega) (by rw [show G.us.length - 1 - n' = G.us.length - (n' + 1) by omega]; exact u2) (fun s₁ hk T hk0 => ?_)
      have st5 := st4.keep hk
      obtain ⟨F5, z1, z2⟩ := back T hk0 st5
      refine seg_execs_cons (segStmt (wpAny_mono (assignX Ev.bool F5 rfl) (fun f s6 h => ?_) fun _ _ x => x))
      obtain ⟨rfl, F6, x6⟩ := h
      refine ⟨rfl, seg_execs_nil (seg_again rfl ?_)⟩
      refine seg_loop hh hne hVL h0 p cs (j + 1) false j n' _ s₁ s6 hcs' (by omega) (F6.weak (weak ⟨rfl, rfl, rfl, trivial⟩)) (st5.keep (keepL x6)) z1 ((again_refl s₁).trans x6 (fun a ha => .inl ((List.mem_singleton.mp ha) ▸ List.mem_cons_self)) fun _ h => nomatch h) z2 (by omega) ?_ (fun h => nomatch h)
      rw [← u3]; congr 1; omega
    | false =>
      refine wpAny_mono ((Tr.of (Ev.loc (d := .bool false) rfl rfl) Truth.bool) _ s3 F3) (fun b' s4 h => ?_) fun _ _ x => x
      obtain ⟨rfl, F4, x4⟩ := h
      rw [if_neg Bool.false_ne_true]
      have st4 := st3.keep (keepL x4.ext)
      refine seg_execs_cons (segIf ?_)
      have heq : (txt [c'] == txt [92]) = decide (c' = 92) := by
        by_cases q : c' = 92
        · subst q; rfl
        · rw [decide_eq_false q]
          refine beq_eq_false_iff_ne.mpr fun z => q ?_
          have := congrArg (fun s : Str => s.cps.toList) z
          simpa using this
      refine wpAny_mono ((Tr.cmp (c := decide (c' = 92)) (Ev.loc (d := tx [c']) rfl rfl) (Ev.str (x := txt [92])) (by rw [← heq]; exact Bop.eqS)) _ s4 F4) (fun b' s5 h => ?_) fun _ _ x => x
      obtain ⟨rfl, F5, x5⟩ := h
      have st5 := st4.keep (keepL x5.ext)
      by_cases q : c' = 92
      · rw [decide_eq_true q, if_pos rfl]
        refine seg_execs_cons (segStmt (wpAny_mono (assignX Ev.bool F5 rfl) (fun f s6 h => ?_) fun _ _ x => x))
        obtain ⟨rfl, F6, x6⟩ := h
        refine ⟨rfl, seg_execs_nil (seg_execs_nil (seg_again rfl ?_))⟩
        refine seg_loop hh hne hVL h0 p cs (j + 1) true j n Z s₀ s6 hcs' (by omega) (F6.weak (weak ⟨rfl, rfl, rfl, trivial⟩)) (st5.keep (keepL x6)) hZ (addLL (addLL (addLL x3' x4.ext) x5.ext) x6) hz hn ?_ (fun _ => by rw [Nat.add_sub_cancel])
        rw [hu, ufrom, if_pos q]
      · rw [decide_eq_false q, if_neg Bool.false_ne_true]
        have hu' : G.us.drop (G.us.length - n) = (j, [c']) :: ufrom (j + 1) cs false := by rw [hu, ufrom, if_neg q]
        obtain ⟨u1, u2, u3⟩ := drop_cons hu'
        obtain ⟨n', rfl⟩ : ∃ n', n = n' + 1 := ⟨n - 1, by omega⟩
        refine seg_execs_cons ?_
        refine G.yield (p := j) (q := [c']) (b := false) (p' := j) hAr rfl rfl rfl F5 rfl rfl rfl (Ev.tuple (Evs.cons (Ev.loc rfl rfl) (Evs.cons (Ev.loc rfl rfl) Evs.nil)) (by show 2 ≤ 1000; decide)) st5.loose hVL (addLL (addLL x3' x4.ext) x5.ext) hz (by omega) (by rw [show G.us.length - 1 - n' = G.us.length - (n' + 1) by omega]; exact u2) (fun s₁ hk T hk0 => ?_)
        have st6 := st5.keep hk
        obtain ⟨F6, z1, z2⟩ := back T hk0 st6
        refine seg_execs_nil (seg_execs_nil (seg_again rfl ?_))
        refine seg_loop hh hne hVL h0 p cs (j + 1) false j n' _ s₁ s₁ hcs' (by omega) F6 st6 z1 (again_refl s₁) z2 (by omega) ?_ (fun h => nomatch h)
        rw [← u3]; congr 1; omega
end Gen
end Mine

-- V19
namespace Mine
open PySem PySem.W PySem.Calls PyProof.Rows PySem.SeqAt

namespace Gen
variable (G : Gen)

theorem seg_start (hh : G.C₀.A.handled = none) {m : Str → Option Value} {t : Tok} {s : Shared} (hNs : s.heap.Ns G.L m) (hm : m "addr" = some (.str (txt G.xs) t)) (hk0 : ∀ b o, G.C₀.h₀.get? b = some o → s.heap.get? b = some o) :
    G.Sg [s.heap.objs.size + 1, s.heap.objs.size] G.us.length s (.func gB G.env) (G.M.den (.func gB G.env)) [] s := by
  have hAr := G.arF hh
  have hLlt : G.L < s.heap.objs.size := by obtain ⟨o, _, _, e, _⟩ := hNs; exact Heap.lt_size e
  refine seg_func (seg_execs_cons (segStmt ?_))
  refine wpAny_Assign_Name (wpAny_Constant_int (wpAny_storeName_local rfl hNs (fun h1 hn1 hs1 => ⟨rfl, ?_⟩) rfl)) (by rfl)
  refine seg_execs_cons (segStmt ?_)
  refine wpAny_Assign_Name (wpAny_Constant_bool (wpAny_storeName_local rfl hn1 (fun h2 hn2 hs2 => ⟨rfl, ?_⟩) rfl)) (by rfl)
  have hsz : h2.objs.size = s.heap.objs.size := by rw [hs2.1, hs1.1]
  have kL : ∀ b o, b ≠ G.L → s.heap.get? b = some o → h2.get? b = some o := fun b o hb e => (hs2.2 b hb).trans ((hs1.2 b hb).trans e)
  refine seg_execs_cons ?_
  let s2 : Shared := { s with heap := h2, toks := s.toks + 1 + 1 + 1 }
  have hk2 : ∀ b o, G.C₀.h₀.get? b = some o → h2.get? b = some o := fun b o e => kL b o (fun q => by rw [q, G.hLn] at e; cases e) (hk0 b o e)
  have F : FS (G.cx (G.C₀.A.in1.over (.func gB G.env) []) (liveOff s [G.L])) [G.L] (G.Gam false 0) s2 := G.mkF hAr hk2 hn2 ⟨t, by rw [if_neg (by decide), if_neg (by decide)]; exact hm⟩ (by rw [if_pos rfl]) ⟨_, by rw [if_neg (by decide), if_pos rfl]⟩ (fun a ha => by
      obtain ⟨⟨o, e⟩, hn⟩ := mem_liveOff.mp ha
      exact ⟨o, kL a o (fun q => hn (q ▸ List.mem_cons_self)) e⟩) (fun q => (mem_liveOff.mp q).2 List.mem_cons_self)
  refine segFor (s := s2) ?_
  refine Name_type F (by decide) (T := "enumerate") (by rfl) rfl ?_ (by rfl) (by rfl) (by rfl)
  refine wpAny_items_cons ?_ (by rfl)
  refine wpAny_Name (wpAny_loadName_local rfl rfl hn2 (show _ = some (Value.str (txt G.xs) t) by rw [if_neg (by decide), if_neg (by decide)]; exact hm) (wpAny_items_nil ?_)) (by decide)
  refine call_enumerate_str fun h' he' hit hsz' hk' => ?_
  refine wpAny_pyIter_enum he' ?_
  intro p
  have e1 : s2.heap.objs.size = s.heap.objs.size := hsz
  rw [e1] at he' hit hsz' ⊢
  have hne : s.heap.objs.size + 1 ≠ s.heap.objs.size := Nat.succ_ne_self _
  have hVL : G.L ∉ [s.heap.objs.size + 1, s.heap.objs.size] := fun q => by
    rcases List.mem_cons.mp q with q | q
    · rw [q] at hLlt; exact absurd hLlt (Nat.not_lt.mpr (Nat.le_succ _))
    · rw [List.mem_singleton.mp q] at hLlt; exact absurd hLlt (Nat.lt_irrefl _)
  have hVn : ∀ a ∈ [s.heap.objs.size + 1, s.heap.objs.size], s.heap.get? a = none := fun a ha => by
    rcases List.mem_cons.mp ha with q | q
    · rw [q]; exact get_ge rfl (Nat.le_succ _)
    · rw [List.mem_singleton.mp q]; exact get_size _
  have hV2 : ∀ a ∈ [s.heap.objs.size + 1, s.heap.objs.size], h2.get? a = none := fun a ha => by
    have hne' : a ≠ G.env.locals := fun (q : a = G.L) => hVL (q ▸ ha)
    rw [hs2.2 a hne', hs1.2 a hne']; exact hVn a ha
  have h0 : ∀ a ∈ [s.heap.objs.size + 1, s.heap.objs.size], G.C₀.h₀.get? a = none := fun a ha => by
    cases hz : G.C₀.h₀.get? a with
    | none => rfl
    | some o => have := hk0 a o hz; rw [hVn a ha] at this; cases this
  have st : EnSt (txt G.xs) t (s.heap.objs.size + 1) s.heap.objs.size 0 h' := ⟨⟨_, he'⟩, hit⟩
  have F3 : FS (G.cx (G.C₀.A.in1.over (.func gB G.env) []) ([s.heap.objs.size + 1, s.heap.objs.size] ++ liveOff s [G.L])) [G.L] (G.Gam false 0) { s2 with heap := h' } := F.plus [s.heap.objs.size + 1, s.heap.objs.size] hk' hV2 fun a ha => by
    obtain ⟨o, _, q, _⟩ := st.loose a ha; exact ⟨o, q⟩
  have x : ExtJ (G.L :: [s.heap.objs.size + 1, s.heap.objs.size]) [] s { s2 with heap := h' } := Ext.heap (k := s.toks + 1 + 1 + 1) fun b o hb e => hk' b o (kL b o (fun q => hb (q ▸ List.mem_cons_self)) e)
  refine G.seg_loop hh hne hVL h0 p G.xs 0 false 0 G.us.length (liveOff s [G.L]) s { s2 with heap := h' } rfl (Nat.zero_le _) (G.reA (G.arL p _ hh) F3) st (fun a ha q => ?_) x (fun a o e => ?_) (Nat.le_refl _) ?_ (fun h => nomatch h)
  · obtain ⟨⟨o, e⟩, _⟩ := mem_liveOff.mp q
    rw [hVn a ha] at e; cases e
  · by_cases q : a = G.L
    · exact .inl q
    · exact .inr (.inr (mem_liveOff.mpr ⟨⟨o, e⟩, by simpa using q⟩))
  · rw [Nat.sub_self]; rfl
end Gen
end Mine

-- V20
namespace Mine
open PySem PySem.W PySem.Calls PyProof.Rows PySem.SeqAt

theorem go_gen {tgt : Expr} {w : World} {A : Around} {a : Addr} {g : Nat} {v : Value} {s : Shared} {Q : Unit → Shared → Prop} (ht : (∃ x p, tgt = .Name x p) ∨ ∃ es k p, tgt = .Tuple es k p) (h : s.heap.IsGen a g) (q : Q () s) : wpAny (model P w) A (letOwnedTupleGo tgt (.ref a) v) Q no s := by
  rcases ht with ⟨x, p, rfl⟩ | ⟨es, k, p, rfl⟩
  · exact go_name q
  · cases v <;> first | exact wpAny_of_eq (by rfl) q | skip
    obtain ⟨o, nm, qn, ho, hc, hd, _⟩ := h
    unfold letOwnedTupleGo
    refine wpAny_bind (wpAny_load ho ?_)
    rw [hc, hd]
    exact wpAny_pure q

theorem setGen_at (s : Shared) (g : Nat) (x : GenState) (i : Nat) : (s.setGen g x).gens[i]? = if i = g ∧ g < s.gens.size then some x else s.gens[i]? := by
  unfold Shared.setGen
  simp only [Array.getElem?_setIfInBounds]
  by_cases h : g = i
  · subst h
    by_cases h2 : g < s.gens.size
    · simp [h2]
    · simp [h2, Array.getElem?_eq_none (Nat.le_of_not_lt h2)]
  · simp [h, Ne.symm h]

abbrev unitD (p : Nat × List Nat) : D := .tup [.int p.1, tx p.2]

namespace Gen
variable (G : Gen)

/-- the generator, ahead of its item k; V: the objects it has laid since -/
structure Stt (a : Addr) (g : Nat) (h₂ : Heap) (k : Nat) (V : List Addr) (s : Shared) : Prop where
  gen : s.heap.IsGen a g
  liveL : ∃ o, s.heap.get? G.L = some o
  loose : Loose s.heap V
  new : ∀ v ∈ V, h₂.get? v = none
  offA : a ∉ V
  go : ∃ gs, s.gens[g]? = some gs ∧ ∀ s'' : Shared, (∀ b o, b = G.L ∨ b = a ∨ b ∈ V → s.heap.get? b = some o → s''.heap.get? b = some o) → (∀ b o, G.C₀.h₀.get? b = some o → s''.heap.get? b = some o) →
    ∃ Vp, (∀ v ∈ Vp, v ∈ V ∨ (s''.heap.get? v = none ∧ h₂.get? v = none)) ∧ (∀ v ∈ V, v ∈ Vp) ∧ G.L ∉ Vp ∧
      gs.Goes G.M G.C₀.A.in1 (fun n s₀ r s₁ => r = .ok (.ret .none) ∧ G.Rd Vp n s₀ s₁) (G.Yd Vp) (G.us.length - k) (.send .none) (s''.setGen g .running)

theorem Stt.mono {G : Gen} {a : Addr} {g : Nat} {h₂ : Heap} {k : Nat} {V : List Addr} {s s' : Shared} (T : G.Stt a g h₂ k V s) (hk : ∀ b o, b = G.L ∨ b = a ∨ b ∈ V → s.heap.get? b = some o → s'.heap.get? b = some o)
    (hg : ∀ (i : Nat) (x : GenState), s.gens[i]? = some x → s'.gens[i]? = some x) : G.Stt a g h₂ k V s' := by
  obtain ⟨⟨o, nm, qn, ho, r⟩, ⟨oL, hL⟩, l, n, oa, gs, e, go⟩ := T
  refine ⟨⟨o, nm, qn, hk _ _ (.inr (.inl rfl)) ho, r⟩, ⟨oL, hk _ _ (.inl rfl) hL⟩, fun v hv => ?_, n, oa, gs, hg _ _ e, fun s'' h1 h2 => go s'' (fun b o hb e => h1 b o hb (hk b o hb e)) h2⟩
  obtain ⟨o, vs, e, d⟩ := l v hv
  exact ⟨o, vs, hk _ _ (.inr (.inr hv)) e, d⟩

theorem iter (hh : G.C₀.A.handled = none) {tgt : Expr} (ht : (∃ x p, tgt = .Name x p) ∨ ∃ es k p, tgt = .Tuple es k p) {a : Addr} {g : Nat} {h₂ : Heap} {Y : List Addr} (hk2 : ∀ b o, G.C₀.h₀.get? b = some o → h₂.get? b = some o) (hLa : G.L ≠ a) :
    IterV G.C₀ tgt (.ref a) [G.L, a] [g] Y h₂ (G.us.map unitD) (G.Stt a g h₂) where
  item := fun C k V d X Γ s hw hd T F hW hK hV => by
    obtain ⟨hw1, hw2, hw3, hw4, hw5⟩ := hw
    have hA : C.A.handled = none := F.ok.hand
    have hroom : C.A.depth < recursionLimit := by have h1 : recursionLimit = 1000 := rfl; have h2 := F.ok.depth; have h3 := F.ok.lv; omega
    have hCh : ∀ b o, G.C₀.h₀.get? b = some o → s.heap.get? b = some o := fun b o e => by obtain ⟨m, Fr, _⟩ := F.ex; exact Fr.keep b o (hw3 ▸ e)
    obtain ⟨p, hp, rfl⟩ := get_map hd
    have hklt : k < G.us.length := (List.getElem?_eq_some_iff.mp hp).1
    obtain ⟨gs, hgs, hgo⟩ := T.go
    obtain ⟨Vp, v1, v2, v3, go⟩ := hgo s (fun _ _ _ e => e) hCh
    have hglt : g < s.gens.size := (Array.getElem?_eq_some_iff.mp hgs).1
    obtain ⟨m, hm⟩ : ∃ m, G.us.length - k = m + 1 := Nat.exists_eq_add_one_of_ne_zero (Nat.sub_ne_zero_of_lt hklt)
    have hWX : ∀ b, b ∈ [G.L, a] → b ∈ C.av X := fun b hb => List.mem_append_right _ (hW b hb).1
    have haVp : a ∉ Vp := fun q => by
      rcases v1 a q with z | ⟨z, _⟩
      · exact T.offA z
      · obtain ⟨o, _, _, e, _⟩ := T.gen; rw [z] at e; cases e
    rw [hm] at go
    have go' : gs.Goes (model P C.w) C.A.in1 (fun n s₀ r s₁ => r = .ok (.ret .none) ∧ G.Rd Vp n s₀ s₁) (G.Yd Vp) (m + 1) (.send .none) (s.setGen g .running) := by rw [hw1, hw2]; exact go
    refine nextGen hA F.G.lim hroom T.gen hgs go' (fun v s₁ gs' hbare y => ?_) fun s₁ r _ _ => absurd r.1 (by omega)
    obtain ⟨y1, ⟨p', q', Ta, t, u, y2, rfl, y3, y4⟩, y5, y6, y7, y8⟩ := y
    have hpq : p = (p', q') := by
      have : G.us.length - 1 - (m + 1 - 1) = k := by rw [(Nat.sub_eq_iff_eq_add (Nat.le_of_lt hklt)).mp hm, Nat.add_sub_cancel, Nat.add_right_comm, Nat.add_sub_cancel, Nat.add_sub_cancel_left]
      rw [this, hp] at y2; exact Option.some.inj y2
    subst hpq
    have keep : ∀ b o, b ∉ G.L :: V → s.heap.get? b = some o → s₁.heap.get? b = some o := fun b o hb e => y5.keep b o (fun q => by
      rcases List.mem_cons.mp q with q | q
      · exact hb (q ▸ List.mem_cons_self)
      · rcases v1 b q with z | ⟨z, _⟩
        · exact hb (List.mem_cons_of_mem _ z)
        · rw [z] at e; cases e) e
    have hIs : s₁.heap.IsGen a g := by
      obtain ⟨o, nm, qn, ho, r⟩ := T.gen
      exact ⟨o, nm, qn, keep a o (fun q => by
        rcases List.mem_cons.mp q with q | q
        · exact hLa q.symm
        · exact T.offA q) ho, r⟩
    have hV0 : ∀ b ∈ V, C.h₀.get? b = none := fun b hb => by
      cases hz : C.h₀.get? b with
      | none => rfl
      | some o => have := hk2 b o (hw3 ▸ hz); rw [T.new b hb] at this; cases this
    refine ⟨.ref Ta, rfl, go_gen ht (s := s₁.setGen g gs') hIs ⟨?_, ?_, ⟨Vp, ⟨hIs, y7, y6, fun v hv => ?_, haVp, gs', ?_, fun s'' h1 h2 => ⟨Vp, fun v hv => .inl hv, fun _ h => h, v3, ?_⟩⟩, fun v hv => (v1 v hv).imp id fun z => z.1⟩, ?_⟩⟩
    · have F1 : FS (C.plus V) X Γ s := F.plusV T.loose fun b hb q => hV b hb (List.mem_append_left _ q)
      have F2 : FS (C.plus V) X Γ (s₁.setGen g gs') := F1.off' (W := G.L :: V) (fun b hb => by
          rcases List.mem_cons.mp hb with q | q
          · exact List.mem_append_right _ (q ▸ (hW G.L (by simp)).1)
          · exact List.mem_append_left _ q) (fun b hb => by
          rcases List.mem_cons.mp hb with q | q
          · rw [q]; exact (hW G.L (by simp)).2
          · exact hV0 b q) keep (fun b hb => by
          rcases List.mem_cons.mp hb with q | q
          · rw [q]; exact y7
          · obtain ⟨o, _, e, _⟩ := y6 b (v2 b q); exact ⟨o, e⟩)
      exact F2.unplus
    · refine .tup (vs := [.int p' t, .str (txt q') u]) y3 (fun q => ?_) (.cons .int (.one .str))
      obtain ⟨o, e⟩ := F.live Ta q
      have : s.heap.get? Ta = none := y4
      rw [this] at e; cases e
    · rcases v1 v hv with z | ⟨_, z⟩
      · exact T.new v z
      · exact z
    · have hlt : g < s₁.gens.size := by
        have := y5.size
        have h2 : (s.setGen g .running).gens.size = s.gens.size := by simp [Shared.setGen]
        omega
      rw [setGen_at, if_pos ⟨rfl, hlt⟩]
    · have := y8 (s''.setGen g .running) (fun b o hb e => h1 b o (hb.imp id fun q => .inr q) e) h2
      rw [show G.us.length - (k + 1) = m by rw [← Nat.sub_sub, hm]; rfl]
      have : gs'.Goes (model P C.w) C.A.in1 (fun n s₀ r s₁ => r = .ok (.ret .none) ∧ G.Rd Vp n s₀ s₁) (G.Yd Vp) m (.send .none) (s''.setGen g .running) := this
      rw [hw1, hw2] at this
      exact this
    · refine ⟨fun b o hb e => keep b o (fun q => hb ?_) e, fun i x hi e => ?_, fun i x hi e => ?_, ?_, y5.os⟩
      · rcases List.mem_cons.mp q with q | q
        · exact List.mem_append_left _ (q ▸ List.mem_cons_self)
        · exact List.mem_append_right _ q
      · have hne : i ≠ g := fun q => hi (q ▸ List.mem_singleton.mpr rfl)
        have e1 : (s.setGen g .running).gens[i]? = some x := by rw [setGen_at, if_neg (fun q => hne q.1)]; exact e
        have e2 := y5.gens i x (fun h => nomatch h) e1
        rw [setGen_at, if_neg (fun q => hne q.1)]; exact e2
      · rw [setGen_at] at e
        split at e
        · cases e; exact hbare
        · rename_i hn
          rcases hi with hi | hi
          · have := List.mem_singleton.mp hi
            subst this
            rw [Array.getElem?_eq_none] at e
            · cases e
            · exact Nat.le_of_not_lt fun q => hn ⟨rfl, q⟩
          · exact y5.fin i x (.inr (by simpa [Shared.setGen] using hi)) e
      · have := y5.size
        have h2 : (s.setGen g .running).gens.size = s.gens.size := by simp [Shared.setGen]
        have h3 : (s₁.setGen g gs').gens.size = s₁.gens.size := by simp [Shared.setGen]
        omega
  done := fun C V X Γ s hw T F hW hK hV => by
    obtain ⟨hw1, hw2, hw3, hw4, hw5⟩ := hw
    have hA : C.A.handled = none := F.ok.hand
    have hroom : C.A.depth < recursionLimit := by have h1 : recursionLimit = 1000 := rfl; have h2 := F.ok.depth; have h3 := F.ok.lv; omega
    have hCh : ∀ b o, G.C₀.h₀.get? b = some o → s.heap.get? b = some o := fun b o e => by obtain ⟨m, Fr, _⟩ := F.ex; exact Fr.keep b o (hw3 ▸ e)
    obtain ⟨gs, hgs, hgo⟩ := T.go
    obtain ⟨Vp, v1, v2, v3, go⟩ := hgo s (fun _ _ _ e => e) hCh
    rw [List.length_map, Nat.sub_self] at go
    have go' : gs.Goes (model P C.w) C.A.in1 (fun n s₀ r s₁ => r = .ok (.ret .none) ∧ G.Rd Vp n s₀ s₁) (G.Yd Vp) 0 (.send .none) (s.setGen g .running) := by rw [hw1, hw2]; exact go
    refine nextGen hA F.G.lim hroom T.gen hgs go' (fun v s₁ gs' hbare y => ?_) fun s₁ r h' hk' => ⟨rfl, ?_⟩
    · have h0 := y.go s₁ (fun _ _ _ e => e) (fun b o e => by
        refine y.ext.keep b o (fun q => ?_) (hCh b o e)
        rcases List.mem_cons.mp q with q | q
        · rw [q, G.hLn] at e; cases e
        · rcases v1 b q with z | ⟨_, z⟩
          · have := T.new b z; rw [hk2 b o e] at this; cases this
          · rw [hk2 b o e] at z; cases z)
      exact h0.elim
    · obtain ⟨_, r2, _⟩ := r
      have keep : ∀ b o, b ∉ [G.L, a] ++ V → s.heap.get? b = some o → h'.get? b = some o := fun b o hb e => hk' b o (r2.keep b o (fun q => by
        rcases List.mem_cons.mp q with q | q
        · exact hb (List.mem_append_left _ (q ▸ List.mem_cons_self))
        · rcases v1 b q with z | ⟨z, _⟩
          · exact hb (List.mem_append_right _ z)
          · rw [z] at e; cases e) e)
      refine ⟨keep, fun i x hi e => ?_, fun i x hi e => ?_, ?_, r2.os⟩
      · have hne : i ≠ g := fun q => hi (q ▸ List.mem_singleton.mpr rfl)
        have e1 : (s.setGen g .running).gens[i]? = some x := by rw [setGen_at, if_neg (fun q => hne q.1)]; exact e
        have e2 := r2.gens i x (fun h => nomatch h) e1
        show (s₁.setGen g .finished).gens[i]? = _
        rw [setGen_at, if_neg (fun q => hne q.1)]; exact e2
      · have e : (s₁.setGen g .finished).gens[i]? = some x := e
        rw [setGen_at] at e
        split at e
        · cases e; rfl
        · rename_i hn
          rcases hi with hi | hi
          · have := List.mem_singleton.mp hi
            subst this
            rw [Array.getElem?_eq_none] at e
            · cases e
            · exact Nat.le_of_not_lt fun q => hn ⟨rfl, by
                have h3 : (s₁.setGen i .finished).gens.size = s₁.gens.size := by simp [Shared.setGen]
                have q' : i < (s₁.setGen i .finished).gens.size := q
                omega⟩
          · exact r2.fin i x (.inr (by simpa [Shared.setGen] using hi)) e
      · have := r2.size
        have h2 : (s.setGen g .running).gens.size = s.gens.size := by simp [Shared.setGen]
        have h3 : (s₁.setGen g .finished).gens.size = s₁.gens.size := by simp [Shared.setGen]
        show s.gens.size ≤ (s₁.setGen g .finished).gens.size
        omega
  stay := fun C C' X X' k V s s' T _ _ hk hg => T.mono (fun b o hb e => hk b o (by
    rcases hb with q | q | q
    · exact .inl (q ▸ by simp)
    · exact .inl (q ▸ by simp)
    · exact .inr q) e) hg
  self := fun C X Γ k V s hw T F hK => by
    obtain ⟨hw1, _⟩ := hw
    exact wpAny_pyIter_gen (prog := P) (w := C.w) T.gen ⟨rfl, rfl⟩
  loose := fun k V s T => T.loose
  new := fun k V s T => T.new
end Gen
end Mine

-- V21
namespace Mine
open PySem PySem.W PySem.Calls PyProof.Rows PySem.SeqAt

def gAr : Arguments := match fnAt 1 with | some (_, a, _, _) => a | none => { posonlyargs := [], args := [], vararg := none, kwonlyargs := [], kw_defaults := [], kwarg := none, defaults := [] }
theorem gAll : fnAt 1 = some (gN, gAr, gB, gSc) := rfl
abbrev unitsD (xs : List Nat) : List D := (ufrom 0 xs false).map unitD

section
variable {C : Cx} {Γ : Vars}
theorem EvIt.gen {tgt : Expr} {np pos : Pos} {e : Expr} {xs : List Nat} (ht : (∃ x p, tgt = .Name x p) ∨ ∃ es k p, tgt = .Tuple es k p) (hk : C.env.kindOf gN = some .globalImplicit) (hlv : C.lv ≤ 90) (h : Ev C Γ e (tx xs))
    (he : eval (.Call (.Name gN np) [e] [] pos) C.env = (do callWith pos (← eval (.Name gN np) C.env) [] (backTo pos (starEach [e] C.env)) (backToKw pos (keywordEach [] C.env))) := by rfl)
    (hst : starEach [e] C.env = (false, eval e C.env) :: starEach [] C.env := by rfl) : EvIt C Γ tgt (.Call (.Name gN np) [e] [] pos) (unitsD xs) := fun X s F => by
  obtain ⟨f, hm, hfa⟩ := F.G.fn 1 gN gAr gB gSc gAll
  have hfa' := hfa
  obtain ⟨o, pm, cd, doc, ho, hdat, hcd⟩ := hfa'
  refine Call_ (Ev.nameG F hm hk ?_ (by decide)) he
  refine callWith_def hdat (wpAny_items_cons (wpAny_mono (h X s F) (fun v s₁ p => wpAny_items_nil ?_) fun _ _ x => x) hst) hst
  obtain ⟨F₁, iv, x₁⟩ := p
  obtain ⟨t, rfl⟩ := iv.strI
  have hfL : f ≠ C.L := fun q => by
    obtain ⟨m, Fr, _⟩ := F.ex
    obtain ⟨o', es, ep, e1, e2, _⟩ := Fr.ns
    rw [q, e1] at ho; cases ho; rw [e2] at hdat; cases hdat
  have ho₁ := x₁.keep hfL ho
  refine ⟨ho₁, ?_⟩
  obtain ⟨f', hm', o', pm', cd', doc', ho', hdat', hcd'⟩ := F₁.G.fn 1 gN gAr gB gSc gAll
  rw [hm] at hm'; cases hm'
  rw [ho₁] at ho'; cases ho'
  have hroom : C.A.depth < recursionLimit := by have h1 : recursionLimit = 1000 := rfl; have h2 := F.ok.depth; have h3 := F.ok.lv; omega
  refine wpAny_call (codeAny_call_generator hroom ho₁ hdat' (by rfl) (by rfl) (body := gB) (by rfl) hcd' ?_)
  refine wpAny_of_eq (show bindArgs (docDef gN gAr gB gSc pm' cd' doc') ⟨[.str (txt xs) t], []⟩ = pure [(("addr" : Str), Value.str (txt xs) t)] by rfl) ?_
  refine wpAny_newFunctionEnv (show ∀ x ∈ gSc.names, x.2 ≠ .cell by decide) (fun x hx => by rw [List.mem_singleton.mp hx]; rfl) (fun h' hns hsb => ?_) (by rfl)
  have hns : h'.Ns s₁.heap.objs.size (fun x => ([("addr", Value.str (txt xs) t)] : List (Str × Value)).reverse.lookup x) := hns
  have hLn : s₁.heap.get? s₁.heap.objs.size = none := get_size _
  have kp : ∀ b o, s₁.heap.get? b = some o → h'.get? b = some o := fun b o e => hsb.extBut b o (fun q => by rw [q, hLn] at e; cases e) (Heap.get?_push_of_some _ e)
  refine ⟨F₁.G.lim.keeps kp, ?_⟩
  refine wpAny_pyIter_gen (g := s₁.gens.size) ⟨_, _, _, Heap.get?_push_size _ rfl, rfl, rfl, rfl⟩ ?_
  have hsz : h'.objs.size = s₁.heap.objs.size + 1 := by rw [hsb.1, Heap.size_push]
  have hLa : s₁.heap.objs.size ≠ h'.objs.size := by rw [hsz]; exact Ne.symm (Nat.succ_ne_self _)
  have hXs : ∀ c o, C.h₀.get? c = some o → s₁.heap.get? c = some o := fun c o q => by obtain ⟨m, Fr, _⟩ := F₁.ex; exact Fr.keep c o q
  have hLn0 : C.h₀.get? s₁.heap.objs.size = none := by
    cases hz : C.h₀.get? s₁.heap.objs.size with
    | none => rfl
    | some o => rw [hXs _ o hz] at hLn; cases hLn
  have hab : C.h₀.objs.size ≤ s₁.heap.objs.size := by
    obtain ⟨m, Fr, _⟩ := F₁.ex
    have h1 := Fr.above
    obtain ⟨o, _, _, e, _⟩ := Fr.ns
    exact Nat.le_trans h1 (Nat.le_of_lt (Heap.lt_size e))
  let G : Gen := ⟨C, s₁.heap.objs.size, f, cd', xs, F.ok, hlv, hLn0, hab⟩
  have hns' : ∀ o, (h'.push o).Ns s₁.heap.objs.size (fun x => ([("addr", Value.str (txt xs) t)] : List (Str × Value)).reverse.lookup x) := fun o => hns.push o
  have hane : s₁.heap.get? h'.objs.size = none := get_ge rfl (by rw [hsz]; exact Nat.le_succ _)
  have hWn : ∀ c ∈ [s₁.heap.objs.size, h'.objs.size], s₁.heap.get? c = none := fun c hc => by
    rcases List.mem_cons.mp hc with q | q
    · rw [q]; exact hLn
    · rw [List.mem_singleton.mp q]; exact hane
  have kp3 : ∀ ob, ∀ b o, s₁.heap.get? b = some o → (h'.push ob).get? b = some o := fun ob b o q => Heap.get?_push_of_some _ (kp b o q)
  refine ⟨[s₁.heap.objs.size, h'.objs.size], [s₁.gens.size], G.Stt h'.objs.size s₁.gens.size _, G.iter F.ok.hand ht (fun b o q => kp3 _ b o (hXs b o q)) hLa, ?_, ?_, fun c hc => F.freshAt F₁ x₁ (hWn c hc), fun i hi => ?_, ?_, fun m hm' => (x₁.tab m hm').keeps (kp3 _)⟩
  · refine ⟨⟨_, _, _, Heap.get?_push_size _ rfl, rfl, rfl, rfl⟩, ?_, (fun _ h => nomatch h), (fun _ h => nomatch h), (fun h => nomatch h), .fresh (.func gB G.env), ?_, fun s'' h1 h2 => ⟨[s''.heap.objs.size + 1, s''.heap.objs.size], fun v hv => .inr ?_, (fun _ h => nomatch h), ?_, rfl, ?_⟩⟩
    · obtain ⟨oL, _, _, e, _⟩ := hns' { cls := .type "generator", data := .fields #[] }
      obtain ⟨oL, _, _, e, _⟩ := hns
      exact ⟨oL, Heap.get?_push_of_some _ e⟩
    · exact Array.getElem?_push_size ..
    · have ha2 := h1 h'.objs.size _ (.inr (.inl rfl)) (Heap.get?_push_size _ rfl)
      have hlt := Heap.lt_size ha2
      have hv' : s''.heap.objs.size ≤ v := by
        rcases List.mem_cons.mp hv with q | q
        · rw [q]; exact Nat.le_succ _
        · rw [List.mem_singleton.mp q]; exact Nat.le_refl _
      refine ⟨get_ge rfl hv', get_ge rfl ?_⟩
      rw [Heap.size_push]
      exact Nat.le_trans hlt hv'
    · intro q
      obtain ⟨oL, es, ep, e, _⟩ := hns
      have := Heap.lt_size (h1 s₁.heap.objs.size _ (.inl rfl) (Heap.get?_push_of_some _ e))
      rcases List.mem_cons.mp q with q | q
      · have q' : s₁.heap.objs.size = s''.heap.objs.size + 1 := q
        rw [q'] at this; exact absurd this (Nat.not_lt.mpr (Nat.le_succ _))
      · have q' : s₁.heap.objs.size = s''.heap.objs.size := List.mem_singleton.mp q
        rw [q'] at this; exact absurd this (Nat.lt_irrefl _)
    · have hNs'' : (s''.setGen s₁.gens.size .running).heap.Ns s₁.heap.objs.size (fun x => ([("addr", Value.str (txt xs) t)] : List (Str × Value)).reverse.lookup x) := by
        obtain ⟨oL, es, ep, e, r⟩ := hns
        exact ⟨oL, es, ep, h1 _ _ (.inl rfl) (Heap.get?_push_of_some _ e), r⟩
      exact G.seg_start F.ok.hand (s := s''.setGen s₁.gens.size .running) hNs'' rfl h2
  · exact F₁.plus _ (kp3 _) hWn fun c hc => by
      rcases List.mem_cons.mp hc with q | q
      · obtain ⟨oL, _, _, e, _⟩ := hns; rw [q]; exact ⟨oL, Heap.get?_push_of_some _ e⟩
      · rw [List.mem_singleton.mp q]; exact ⟨_, Heap.get?_push_size _ rfl⟩
  · rw [List.mem_singleton.mp hi]; exact x₁.ext.size
  · refine ⟨fun b o hb q => kp3 _ b o (x₁.ext.keep b o hb q), fun i x hi q => ?_, fun i x hi q => ?_, ?_, x₁.ext.os⟩
    · have := x₁.ext.gens i x (fun h => nomatch h) q
      have hlt := (Array.getElem?_eq_some_iff.mp this).1
      show (s₁.gens.push _)[i]? = _
      rw [Array.getElem?_push_lt hlt]
      rw [Array.getElem?_eq_getElem hlt] at this; exact this
    · have q : (s₁.gens.push (.fresh (.func gB G.env)))[i]? = some x := q
      rw [Array.getElem?_push] at q
      split at q
      · cases q; rfl
      · rename_i hne
        rcases hi with hi | hi
        · exact absurd (List.mem_singleton.mp hi) hne
        · exact x₁.ext.fin i x (.inr hi) q
    · show s.gens.size ≤ (s₁.gens.push _).size
      rw [Array.size_push]; exact Nat.le_succ_of_le x₁.ext.size
end
end Mine

-- V22
namespace Mine
open PySem PySem.W PySem.Calls PyProof.Rows PySem.SeqAt

section
variable {C : Cx} {Γ : Vars}
theorem Bop.and {i j : Int} : Bop C (binaryOp .BitAnd) (.int i) (.int j) (.int (Builtin.bitAnd i j)) := fun _ _ _ _ _ F a b => by obtain ⟨_, rfl⟩ := a.intI; obtain ⟨_, rfl⟩ := b.intI; exact PyProof.Rows.and_int (Post.same F .int)
theorem Bop.ior {i j : Int} : Bop C (inplaceOp .BitOr) (.int i) (.int j) (.int (Builtin.bitOr i j)) := fun _ _ _ _ _ F a b => by obtain ⟨_, rfl⟩ := a.intI; obtain ⟨_, rfl⟩ := b.intI; exact PyProof.Rows.ior_int (Post.same F .int)
theorem Bop.ishl {i n : Int} (hn : 0 ≤ n) (hs : (Builtin.Int.intBits i : Int) + n ≤ 2 ^ 27) : Bop C (inplaceOp .LShift) (.int i) (.int n) (.int (i * 2 ^ n.toNat)) := fun _ _ _ _ _ F a b => by obtain ⟨_, rfl⟩ := a.intI; obtain ⟨_, rfl⟩ := b.intI; exact PyProof.Rows.ilshift_int hn hs (Post.same F .int)
theorem Truth.int {i : Int} : Truth C (.int i) (i != 0) := fun _ _ _ _ F a => by
  cases a
  exact PySem.P.truthy_int ⟨rfl, F, XL.refl _ _⟩

theorem FS.storeRaw {X : List Addr} {s : Shared} {x : Str} {v : Value} (F : FS C X Γ s) (hl : C.env.kindOf x = some .local) :
    wpAny C.M C.A (storeName C.env x v) (fun _ s' => FS C X ((x, .raw v) :: Γ) s' ∧ Ext [C.L] s s') no s := by
  obtain ⟨m, Fr, _⟩ := F.ex
  refine wpAny_storeName_local hl Fr.ns (fun h' hn hs => ⟨F.named hs (fun m₂ hm₂ => ?_) (fun m' e => e) (fun ds q => nomatch q), Ext.heap fun b o hb e => (hs.2 b fun q => hb (q ▸ List.mem_singleton.mpr rfl)).trans e⟩)
    (by rw [F.ok.kind]; rfl)
  rw [Ns.uniq hm₂ Fr.ns]; exact hn
theorem FS.rawName {X : List Addr} {s : Shared} {x : Str} {pos : Pos} {v : Value} {Q : Value → Shared → Prop} {E : Value → Shared → Prop} (F : FS C X Γ s) (hx : Γ.lookup x = some (.raw v)) (hl : C.env.kindOf x = some .local) (h : Q v s) (hd : (x == ("__debug__" : Str)) = false := by decide) : wpAny C.M C.A (eval (.Name x pos) C.env) Q E s := by
  obtain ⟨m, Fr, hb, _⟩ := F.ex
  exact wpAny_Name (wpAny_loadName_local F.ok.kind hl Fr.ns (hb x _ hx) h) hd
end

section
variable {w : World} {A : Around} {E : Value → Shared → Prop} {s : Shared}

theorem call_iter_list {a : Addr} {vs : List Value} {Q : Value → Shared → Prop} (hl : LAt s.heap a vs)
    (h : ∀ h', h'.IsListIter s.heap.objs.size a 0 → (∀ b o, s.heap.get? b = some o → h'.get? b = some o) → Q (.ref s.heap.objs.size) { s with heap := h' }) : wpAny (model P w) A (call (.builtin "iter") [.ref a]) Q E s := by
  refine call_function_entry (by decide +kernel) (by decide +kernel) kdk_entry_iter (kdk_args_iter _) ?_
  unfold Builtin.«iter»
  refine wpAny_bind (m := someArgs "iter" 1 2 _) (wpAny_of_eq (a := [Value.ref a]) (by first | rfl | kernel_rfl!) ?_)
  show wpAny _ _ (pyIter (.ref a) >>= _) _ _ _
  refine wpAny_bind (wpAny_pyIter_list hl.isList ?_)
  exact wpAny_pure ⟨_, rfl, h _ ⟨_, Heap.get?_push_size _ rfl, rfl, rfl⟩ fun b o e => Heap.get?_push_of_some _ e⟩

theorem call_next_item {I a : Addr} {i : Nat} {vs : List Value} {x : Value} {Q : Value → Shared → Prop} (hit : s.heap.IsListIter I a i) (hl : LAt s.heap a vs) (hx : vs[i]? = some x)
    (h : ∀ h', h'.IsListIter I a (i + 1) → Heap.SameBut I s.heap h' → Q x { s with heap := h' }) : wpAny (model P w) A (call (.builtin "next") [.ref I]) Q E s := by
  refine call_function_entry (by decide +kernel) (by decide +kernel) kdk_entry_next (kdk_args_next _) ?_
  unfold Builtin.«next»
  refine wpAny_bind (m := someArgs "next" 1 2 _) (wpAny_of_eq (a := [Value.ref I]) (by first | rfl | kernel_rfl!) ?_)
  dsimp only [List.headD]
  refine wpAny_bind (wpAny_specialOf hit.typeIs slot_listiter_next.lookup ?_)
  show wpAny _ _ (callSpecial? (.ref I) "__next__" >>= _) _ _ _
  obtain ⟨o, ho, hc, hd⟩ := id hit
  obtain ⟨nl, hol⟩ := id hl
  refine wpAny_bind (wpAny_callSpecial?_slot (name := Str.ofString "__next__") hit.typeIs slot_listiter_next (wpAny_call_entry slot_listiter_next hit.typeIs entry_listiter_next ?_ (args_listiter_next _)))
  show wpAny _ _ (field (.ref I) 0 >>= _) _ _ s
  refine wpAny_bind (wpAny_field ho hd (x := .ref a) rfl ?_)
  show wpAny _ _ (if (Value.ref a == Value.none) = true then _ else _) _ _ s
  rw [if_neg (show ¬ ((Value.ref a == Value.none) = true) from Bool.false_ne_true)]
  show wpAny _ _ (field (.ref I) 1 >>= _) _ _ s
  refine wpAny_bind (wpAny_field ho hd (x := .int i 0) rfl ?_)
  show wpAny _ _ (seqItems? (.ref a) >>= _) _ _ s
  refine wpAny_bind (wpAny_seqItems hol rfl ?_)
  have hx' : vs.toArray[i]? = some x := by simpa using hx
  simp only [Int.toNat_natCast, hx']
  refine wpAny_bind (wpAny_setField ho hd (by simp) (wpAny_pure ⟨x, rfl, wpAny_pure ⟨_, rfl, h _ ?_ (Heap.SameBut.update ..)⟩⟩))
  exact ⟨_, Heap.get?_update_self _ ho (Obj.isFreed_of_fields (Obj.data_mapFields hd _)), (Obj.cls_mapFields ..).trans hc, by
    rw [Obj.data_mapFields hd]; simp [rawInt]⟩

/-- a StopIteration that flies: its head entry -/
def Fly (h : Heap) (e : Addr) (hd : Value) : Prop := ∃ o vs, h.get? e = some o ∧ o.cls = .type "StopIteration" ∧ o.data = .fields vs ∧ vs[1]? = some hd

theorem call_next_stop {I a : Addr} {vs : List Value} {Q : Value → Shared → Prop} (hA : A.handled = none) (hit : s.heap.IsListIter I a vs.length) (hl : LAt s.heap a vs)
    (h : ∀ h' e, (∀ b o, b ≠ I → s.heap.get? b = some o → h'.get? b = some o) → s.heap.get? e = none → Fly h' e .none → Loose h' [I] → E (.ref e) { s with heap := h' }) : wpAny (model P w) A (call (.builtin "next") [.ref I]) Q E s := by
  refine call_function_entry (by decide +kernel) (by decide +kernel) kdk_entry_next (kdk_args_next _) ?_
  unfold Builtin.«next»
  refine wpAny_bind (m := someArgs "next" 1 2 _) (wpAny_of_eq (a := [Value.ref I]) (by first | rfl | kernel_rfl!) ?_)
  dsimp only [List.headD]
  refine wpAny_bind (wpAny_specialOf hit.typeIs slot_listiter_next.lookup ?_)
  show wpAny _ _ (callSpecial? (.ref I) "__next__" >>= _) _ _ _
  obtain ⟨o, ho, hc, hd⟩ := id hit
  obtain ⟨nl, hol⟩ := id hl
  refine wpAny_bind (wpAny_callSpecial?_slot (name := Str.ofString "__next__") hit.typeIs slot_listiter_next (wpAny_call_entry slot_listiter_next hit.typeIs entry_listiter_next ?_ (args_listiter_next _)))
  show wpAny _ _ (field (.ref I) 0 >>= _) _ _ s
  refine wpAny_bind (wpAny_field ho hd (x := .ref a) rfl ?_)
  show wpAny _ _ (if (Value.ref a == Value.none) = true then _ else _) _ _ s
  rw [if_neg (show ¬ ((Value.ref a == Value.none) = true) from Bool.false_ne_true)]
  show wpAny _ _ (field (.ref I) 1 >>= _) _ _ s
  refine wpAny_bind (wpAny_field ho hd (x := .int vs.length 0) rfl ?_)
  show wpAny _ _ (seqItems? (.ref a) >>= _) _ _ s
  refine wpAny_bind (wpAny_seqItems hol rfl ?_)
  have hx' : vs.toArray[vs.length]? = none := by simp
  simp only [Int.toNat_natCast, hx']
  refine wpAny_bind (wpAny_rule (wpAny_bind (wpAny_setField ho hd (by simp) ?_)))
  show wpAny _ _ (newExc (.type "StopIteration") [] >>= _) _ _ _
  refine wpAny_bind ?_
  simp only [newExc, newTuple]
  refine wpAny_bind (wpAny_newObj_type ?_ (by size_fits))
  refine wpAny_bind (m := firstArgMember _ _) (wpAny_of_eq (a := Value.none) (by first | rfl | (simp only [firstArgMember]; rfl)) ?_)
  refine wpAny_newObj_type ?_ (by size_fits)
  simp only [raiseNew]
  refine wpAny_bind (wpAny_handled ?_)
  first | rw [show A.in1.in1.handled = none from hA] | rw [show A.in1.handled = none from hA] | rw [hA]
  refine wpAny_bind (wpAny_pure (wpAny_throw ?_))
  refine h _ _ (fun b o hb e => (((Heap.SameBut.update ..).extBut.push _).push _) b o hb e) ?_ ⟨_, _, Heap.get?_push_size _ rfl, rfl, rfl, rfl⟩ (looseField ho hd)
  refine get_ge rfl ?_
  rw [Heap.size_push, Heap.size_after_update]
  exact Nat.le_succ _
end
end Mine

-- V23
namespace Mine
open PySem PySem.W PySem.Calls PyProof.Rows PySem.SeqAt

/-- an entry of a traceback, its fourth field -/
def Entry (h : Heap) (T : Addr) (x : Value) : Prop := ∃ o ts, h.get? T = some o ∧ o.data = .fields ts ∧ ts[3]? = some x
/-- the frames' objects -/
abbrev frs (l : List Env) : List Addr := l.filterMap (·.frame)
/-- all stands but S, where slots alone may be other, and but Y -/
structure Slot (S Y : List Addr) (h h' : Heap) : Prop where
  keep : ∀ b o, b ∉ S → b ∉ Y → h.get? b = some o → h'.get? b = some o
  slot : ∀ b o, b ∈ S → h.get? b = some o → ∃ sl, h'.get? b = some { o with slots := sl }
theorem Slot.trans {S Y Y' : List Addr} {h h' h'' : Heap} (x : Slot S Y h h') (y : Slot S Y' h' h'') (hY : ∀ b ∈ Y', b ∈ Y ∨ h.get? b = none) : Slot S Y h h'' :=
  ⟨fun b o h1 h2 e => y.keep b o h1 (fun q => (hY b q).elim h2 fun z => by rw [z] at e; cases e) (x.keep b o h1 h2 e), fun b o h1 e => let ⟨sl, e1⟩ := x.slot b o h1 e; let ⟨sl2, e2⟩ := y.slot b _ h1 e1; ⟨sl2, e2⟩⟩
theorem Slot.mono {S S' Y Y' : List Addr} {h h' : Heap} (x : Slot S Y h h') (hS : ∀ b ∈ S, b ∈ S') (hY : ∀ b ∈ Y, b ∈ Y') (hSY : ∀ b ∈ S', b ∉ Y) : Slot S' Y' h h' :=
  ⟨fun b o h1 h2 e => x.keep b o (fun q => h1 (hS b q)) (fun q => h2 (hY b q)) e, fun b o h1 e => by
    by_cases q : b ∈ S
    · exact x.slot b o q e
    · exact ⟨o.slots, x.keep b o q (hSY b h1) e⟩⟩
theorem Slot.of {S Y : List Addr} {h h' : Heap} (k : ∀ b o, b ∉ Y → h.get? b = some o → h'.get? b = some o) (hSY : ∀ b ∈ S, b ∉ Y) : Slot S Y h h' :=
  ⟨fun b o _ h2 e => k b o h2 e, fun b o h1 e => ⟨o.slots, k b o (hSY b h1) e⟩⟩
theorem Slot.frames {S Y : List Addr} {base h h' : Heap} {l : List Env} (x : Slot S Y h h') (hS : ∀ b ∈ frs l, b ∈ S) (F : h.FunFrames base l) : h'.FunFrames base l := by
  induction l with
  | nil => trivial
  | cons env rest ih =>
    obtain ⟨hk, ⟨L, o, hf, hn, ho, hd⟩, hr⟩ := F
    have hm : ∀ b ∈ frs rest, b ∈ S := fun b hb => hS b (by simp only [frs, List.filterMap_cons, hf]; exact List.mem_cons_of_mem _ hb)
    obtain ⟨sl, e⟩ := x.slot L o (hS L (by simp only [frs, List.filterMap_cons, hf]; exact List.mem_cons_self)) ho
    exact ⟨hk, ⟨L, _, hf, hn, e, hd⟩, ih hm hr⟩
theorem FunFrames.no {base h : Heap} {l : List Env} (F : h.FunFrames base l) {e : Addr} {o : Obj} {vs : Array Value} (he : h.get? e = some o) (hd : o.data = .fields vs) : e ∉ frs l := fun hm => by
  obtain ⟨_, o', ho, hnf⟩ := F.mem hm
  rw [he] at ho; cases ho; exact hnf vs hd

section
variable {M : Model} {A : Around} {E : Value → Shared → Prop} {s : Shared}

theorem noteMine {base : Heap} {env : Env} {outer : List Env} {L e : Addr} {hd : Value} {Q : Unit → Shared → Prop} (hfr : A.frames = some (env :: outer)) (hl : s.heap.FunFrames base (env :: outer)) (hf : env.frame = some L)
    (he : Fly s.heap e hd) (hhead : hd = .none ∨ ∃ T, hd = .ref T ∧ Entry s.heap T .none ∧ T ≠ e)
    (h : ∀ h' T', Slot (frs (env :: outer)) (e :: match hd with | .ref T => [T] | _ => []) s.heap h' → s.heap.get? T' = none → Fly h' e (.ref T') → Entry h' T' (rawInt L) → T' ≠ e → Q () { s with heap := h' }) :
    wpAny M A (noteFrame (.ref e) env) Q E s := by
  -- the new entry
  have entry : ∀ (s : Shared) (Q : Unit → Shared → Prop) (b : Bool), s.heap.FunFrames base (env :: outer) → Fly s.heap e hd →
      (∀ h' T', Slot (frs (env :: outer)) [e] s.heap h' → s.heap.get? T' = none → Fly h' e (.ref T') → Entry h' T' (rawInt L) → T' ≠ e → Q () { s with heap := h' }) →
      wpAny M A (do let a ← frameOf env; let pl ← entryPlaceOf L b; let x ← EntryCells.newEntry hd a .none (rawInt L) .none pl; setField (.ref e) 1 x) Q E s := fun s Q b hl ⟨oe, vs, he, hcls, hdt, h1⟩ h => by
    have hene : e ∉ frs (env :: outer) := FunFrames.no hl he hdt
    refine wpAny_bind (wpAny_frameOf_fun hfr hl hf fun h₁ hs₁ => ?_)
    refine wpAny_bind (wpAny_entryPlaceOf fun pl hpl => ?_)
    unfold EntryCells.newEntry newFields
    refine wpAny_bind (wpAny_newObj_type ?_ (hpl.sizeOk5 _ _ _ _ _))
    have he₁ : h₁.get? e = some oe := (hs₁.2.1 e hene).trans he
    have he₂ := Heap.get?_push_of_some (h := h₁) { cls := .type "traceback", dict := none, data := .fields ([hd, .ref L, .none, rawInt L, .none] ++ (if pl.isEmpty then List.replicate 6 Value.none else pl)).toArray } he₁
    have hsz : 1 < vs.size := (Array.getElem?_eq_some_iff.mp h1).1
    refine wpAny_setField he₂ hdt hsz ?_
    have hTe : h₁.objs.size ≠ e := Nat.ne_of_gt (Heap.lt_size he₁)
    have hd₃ := Obj.data_mapFields hdt (·.setIfInBounds 1 (Value.ref h₁.objs.size))
    refine h _ h₁.objs.size ⟨fun b o hb hb2 q => ?_, fun b o hb q => ?_⟩ ?_ ⟨_, _, Heap.get?_update_self _ he₂ (Obj.isFreed_of_fields hd₃), (Obj.cls_mapFields ..).trans hcls, hd₃, by simp [hsz]⟩ ⟨_, _, (Heap.get?_update_other _ _ (Ne.symm hTe)).trans (Heap.get?_push_size h₁ rfl), rfl, ?_⟩ hTe
    · have hbe : b ≠ e := fun z => hb2 (z ▸ List.mem_singleton.mpr rfl)
      rw [Heap.get?_update_other _ _ (Ne.symm hbe)]
      exact Heap.get?_push_of_some _ ((hs₁.2.1 b hb).trans q)
    · obtain ⟨sl, e1⟩ := hs₁.2.2 b o q
      have hbe : b ≠ e := fun z => hene (z ▸ hb)
      exact ⟨sl, by rw [Heap.get?_update_other _ _ (Ne.symm hbe)]; exact Heap.get?_push_of_some _ e1⟩
    · exact get_ge rfl (by rw [hs₁.1]; exact Nat.le_refl _)
    · simp
  obtain ⟨oe, vs, he1, hcls, hdt, h1⟩ := id he
  unfold noteFrame
  simp only [hf]
  refine wpAny_bind (wpAny_field he1 hdt h1 ?_)
  rcases hhead with rfl | ⟨T, rfl, ⟨oT, ts, hT, hdT, h3⟩, hTe⟩
  · rw [if_neg (by decide)]
    exact entry s Q _ hl he h
  · rw [if_pos (show (Value.ref T != Value.none) = true from by simp)]
    refine wpAny_bind (wpAny_field hT hdT h3 ?_)
    rw [if_neg (show ¬ ((Value.none == rawInt L) = true) from by simp [rawInt])]
    have hTf : T ∉ frs (env :: outer) := FunFrames.no hl hT hdT
    refine wpAny_bind (wpAny_setField hT hdT (Array.getElem?_eq_some_iff.mp h3).1 ?_)
    have oth : ∀ b o, b ≠ T → s.heap.get? b = some o → (s.heap.update T (Obj.mapFields (·.setIfInBounds 3 Value.none))).get? b = some o := fun b o hb q => (Heap.get?_update_other _ _ (Ne.symm hb)).trans q
    have sl0 : Slot (frs (env :: outer)) [T] s.heap (s.heap.update T (Obj.mapFields (·.setIfInBounds 3 Value.none))) := Slot.of (fun b o hb q => oth b o (fun z => hb (z ▸ List.mem_singleton.mpr rfl)) q) fun b hb z => hTf ((List.mem_singleton.mp z) ▸ hb)
    refine entry { s with heap := s.heap.update T (Obj.mapFields (·.setIfInBounds 3 Value.none)) } Q _ (sl0.frames (fun _ h => h) hl) ⟨oe, vs, oth e oe (Ne.symm hTe) he1, hcls, hdt, h1⟩ fun h' T' x1 x2 x3 x4 x5 => h h' T' ?_ ?_ x3 x4 x5
    · exact ⟨fun b o hb hb2 q => x1.keep b o hb (fun z => hb2 ((List.mem_singleton.mp z) ▸ List.mem_cons_self)) (oth b o (fun z => hb2 (by simp [z])) q), fun b o hb q => by
        obtain ⟨sl, e1⟩ := sl0.slot b o hb q
        obtain ⟨sl2, e2⟩ := x1.slot b _ hb e1
        exact ⟨sl2, e2⟩⟩
    · cases hz : s.heap.get? T' with
      | none => rfl
      | some o =>
        by_cases q : T' = T
        · have hd₃ := Obj.data_mapFields hdT (·.setIfInBounds 3 Value.none)
          have := Heap.get?_update_self (h := s.heap) (Obj.mapFields (·.setIfInBounds 3 Value.none)) hT (Obj.isFreed_of_fields hd₃)
          rw [q] at x2
          have x2 : (s.heap.update T (Obj.mapFields (·.setIfInBounds 3 Value.none))).get? T = none := x2
          rw [this] at x2; cases x2
        · have := oth T' o q hz
          have x2 : (s.heap.update T (Obj.mapFields (·.setIfInBounds 3 Value.none))).get? T' = none := x2
          rw [this] at x2; cases x2

theorem noteHere {env : Env} {L e T : Addr} {Q : Unit → Shared → Prop} (hf : env.frame = some L) (he : Fly s.heap e (.ref T)) (hT : Entry s.heap T (rawInt L)) (h : Q () s) : wpAny M A (noteFrame (.ref e) env) Q E s := by
  obtain ⟨oe, vs, he1, hcls, hdt, h1⟩ := he
  obtain ⟨oT, ts, hT, hdT, h3⟩ := hT
  exact wpAny_noteFrame_inFlight hf he1 hdt h1 hT hdT h3 h

theorem flight {e T : Addr} {x : Value} {fr : Option Addr} {Q : Unit → Shared → Prop} (he : Fly s.heap e (.ref T)) (hT : Entry s.heap T x) (hTe : T ≠ e)
    (h : ∀ h', (∀ b o, b ≠ T → s.heap.get? b = some o → h'.get? b = some o) → Fly h' e (.ref T) → Entry h' T (fr.elim .none fun f => rawInt f) → Q () { s with heap := h' }) : wpAny M A (setFlight (.ref e) fr) Q E s := by
  obtain ⟨oe, vs, he1, hcls, hdt, h1⟩ := he
  obtain ⟨oT, ts, hT, hdT, h3⟩ := hT
  have hsz := (Array.getElem?_eq_some_iff.mp h3).1
  unfold setFlight
  refine wpAny_bind (wpAny_field he1 hdt h1 ?_)
  rw [if_pos (show (Value.ref T != Value.none) = true from by simp)]
  have hd₃ := Obj.data_mapFields hdT (·.setIfInBounds 3 (fr.elim Value.none fun f => rawInt f))
  refine wpAny_setField hT hdT hsz (h _ (fun b o hb q => (Heap.get?_update_other _ _ (Ne.symm hb)).trans q) ⟨oe, vs, (Heap.get?_update_other _ _ hTe).trans he1, hcls, hdt, h1⟩ ⟨_, _, Heap.get?_update_self _ hT (Obj.isFreed_of_fields hd₃), hd₃, by simp [hsz]⟩)
end
end Mine

-- V24
namespace Mine
open PySem PySem.W PySem.Calls PyProof.Rows PySem.SeqAt

section
variable {C : Cx} {Γ : Vars}

theorem augX {x : Str} {np pos : Pos} {op : Operator} {e : Expr} {a b d : D} {X : List Addr} {s : Shared} (hx : Γ.lookup x = some (.val a)) (h : Ev C Γ e b) (ho : Bop C (inplaceOp op) a b d) (F : FS C X Γ s) (hl : C.env.kindOf x = some .local) :
    wpAny C.M C.A (exec (.AugAssign (.Name x np) op e pos) C.env) (fun f s' => f = .next ∧ FS C X ((x, .val d) :: Γ) s' ∧ Ext [C.L] s s') no s := by
  obtain ⟨m, Fr, hb, _⟩ := F.ex
  obtain ⟨v, em, iv⟩ := hb x _ hx
  exact wpAny_AugAssign_Name (wpAny_loadName_local F.ok.kind hl Fr.ns em (wpAny_mono (h X s F) (fun u s₁ p => wpAny_mono (ho X Γ s₁ v u p.1 (iv.ext F.hL' p.2.2) p.2.1) (fun r s₂ z =>
    wpAny_mono (z.1.store z.2.1 hl) (fun _ s₃ y => ⟨rfl, y.1, (p.2.2.trans' z.2.2).ext.trans' y.2⟩) fun _ _ x => x) fun _ _ x => x) fun _ _ x => x))

/-- b = next(iterator), where there is one more -/
theorem exNext {np np2 np3 pos pos' : Pos} {X : List Addr} {s : Shared} {I a : Addr} {i : Nat} {vs : List Value} {k : Int} {E : Value → Shared → Prop} (F : FS C X Γ s) (hI : I ∈ C.X₀) (hI0 : C.h₀.get? I = none) (hx : Γ.lookup ("iterator" : Str) = some (.raw (.ref I)))
    (hl1 : C.env.kindOf "iterator" = some .local) (hl2 : C.env.kindOf "b" = some .local) (hk : C.env.kindOf "next" = some .globalImplicit)
    (hit : s.heap.IsListIter I a i) (hl : LAt s.heap a vs) (hv : ∃ t, vs[i]? = some (.int k t))
    (he : eval (.Call (.Name "next" np2) [.Name "iterator" np3] [] pos) C.env = (do callWith pos (← eval (.Name "next" np2) C.env) [] (backTo pos (starEach [.Name "iterator" np3] C.env)) (backToKw pos (keywordEach [] C.env))) := by rfl)
    (hst : starEach [.Name "iterator" np3] C.env = [(false, eval (.Name "iterator" np3) C.env)] := by rfl)
    (hs : swapsWith (.Call (.Name "next" np2) [.Name "iterator" np3] [] pos) (some (.Name "b" np)) pos'.line C.env = pure false := by rfl) :
    wpAny C.M C.A (exec (.Assign [.Name "b" np] (.Call (.Name "next" np2) [.Name "iterator" np3] [] pos) pos') C.env)
      (fun f s' => f = .next ∧ FS C X (("b", .val (.int k)) :: Γ) s' ∧ s'.heap.IsListIter I a (i + 1) ∧ LAt s'.heap a vs ∧ Ext [C.L, I] s s') E s := by
  obtain ⟨t, hv⟩ := hv
  have hIL : I ≠ C.L := fun q => F.off _ F.hL (q ▸ hI)
  have haI : a ≠ I := fun q => by
    obtain ⟨n, e⟩ := hl; obtain ⟨o, e', hc, _⟩ := hit
    rw [q, e'] at e; cases e; have hc : Value.type "list" = Value.type "list_iterator" := hc; simp at hc
  have haL : a ≠ C.L := fun q => by
    obtain ⟨m, Fr, _⟩ := F.ex
    obtain ⟨n, e⟩ := hl; obtain ⟨o, es, ep, e1, e2, _⟩ := Fr.ns
    rw [q, e1] at e; cases e; cases e2
  refine wpAny_Assign_Name ?_ hs
  refine Call_ (wpAny_mono (Ev.nameB (pos := np2) F (by decide) (v := .builtin "next") (by rfl) hk (Q := fun v s' => v = .builtin "next" ∧ s' = s) ⟨rfl, rfl⟩) (fun v s' q => ?_) fun _ _ x => x.elim) he
  obtain ⟨rfl, rfl⟩ := q
  refine PyProof.Rows.callWith_builtin1 ?_ (by rw [hst]; rfl) rfl
  refine wpAny_items_cons ?_ (by rw [hst]; rfl)
  refine F.rawName hx hl1 (wpAny_items_nil ?_)
  refine call_next_item hit hl hv fun h' hit' hsb => ?_
  have kk : ∀ b o, b ≠ I → s'.heap.get? b = some o → h'.get? b = some o := fun b o hb e => (hsb.2 b hb).trans e
  have F' : FS C X Γ { s' with heap := h' } := F.off' (W := [I]) (s' := { s' with heap := h' }) (fun b hb => (List.mem_singleton.mp hb) ▸ hI) (fun b hb => (List.mem_singleton.mp hb) ▸ hI0) (fun b o hb e => kk b o (fun q => hb (q ▸ List.mem_singleton.mpr rfl)) e) (fun b hb => by
    obtain ⟨o, e, _⟩ := hit'; rw [List.mem_singleton.mp hb]; exact ⟨o, e⟩)
  refine wpAny_mono (F'.store (.int (t := t)) hl2) (fun _ s₂ q => ⟨rfl, q.1, ?_, ?_, ?_⟩) fun _ _ x => x.elim
  · obtain ⟨o, e, r⟩ := hit'
    exact ⟨o, q.2.keep I o (fun z => hIL (List.mem_singleton.mp z)) e, r⟩
  · exact (hl.keep fun o e => kk a o haI e).keep fun o e => q.2.keep a o (fun z => haL (List.mem_singleton.mp z)) e
  · have x1 : Ext [C.L, I] s' { s' with heap := h' } := Ext.heap (k := s'.toks) fun b o hb e => kk b o (fun z => hb (by simp [z])) e
    exact x1.trans q.2 fun b hb => .inl (by rw [List.mem_singleton.mp hb]; exact List.mem_cons_self)
end
end Mine

-- V25
namespace Mine
open PySem PySem.W PySem.Calls PyProof.Rows PySem.SeqAt

def vB : List Stmt := match fnAt 5 with | some (_, _, b, _) => b | none => []
def vSc : Scope := match fnAt 5 with | some (_, _, _, sc) => sc | none => { kind := .function, names := [], isGenerator := true, isCoroutine := false }
def vN : Str := match fnAt 5 with | some (n, _, _, _) => n | none => ""
def vAr : Arguments := match fnAt 5 with | some (_, a, _, _) => a | none => { posonlyargs := [], args := [], vararg := none, kwonlyargs := [], kw_defaults := [], kwarg := none, defaults := [] }
theorem vAll : fnAt 5 = some (vN, vAr, vB, vSc) := rfl
abbrev vcx (w : World) (A : Around) (L f : Addr) (cd : Value) (h₀ : Heap) (mg mb : Str → Option Value) (X₀ : List Addr) (lv : Nat) : Cx := ⟨w, A, envOf vN vSc L f cd, h₀, mg, mb, X₀, lv⟩

structure VOk (w : World) (A : Around) (mg mb : Str → Option Value) (h₀ : Heap) (s : Shared) (lv : Nat) : Prop where
  G : GOk w mg mb h₀
  keep : ∀ b o, h₀.get? b = some o → s.heap.get? b = some o
  size : h₀.objs.size ≤ s.heap.objs.size
  hand : A.handled = none
  depth : A.depth ≤ 400 + lv
  units : A.units ≤ 1000 + 20 * lv
  lv : lv ≤ 50

theorem VOk.fs {w : World} {A : Around} {mg mb : Str → Option Value} {h₀ : Heap} {s : Shared} {lv : Nat} (V : VOk w A mg mb h₀ s lv) {f I : Addr} {cd : Value} {h₁ : Heap} {k : Nat} (hI : ∃ o, s.heap.get? I = some o)
    (F : Fr s.heap s.heap.objs.size h₁ (fun x => ([(("iterator" : Str), Value.ref I)] : List (Str × Value)).reverse.lookup x)) :
    FS (vcx w (A.deeper (envOf vN vSc s.heap.objs.size f cd)) s.heap.objs.size f cd h₀ mg mb [I] (lv + 1)) [s.heap.objs.size] [("iterator", .raw (.ref I))] { s with heap := h₁, toks := k } := by
  have hLn : s.heap.get? s.heap.objs.size = none := get_size _
  have h1 := V.depth
  have h2 := V.units
  have h3 := V.lv
  refine ⟨⟨rfl, rfl, rfl, V.hand, ?_, ?_, ?_, V.G⟩, ⟨_, ⟨F.ns, fun b o e => F.keep b o (V.keep b o e), V.size⟩, fun x b e => ?_, fun x y ds es a e1 e2 e3 e4 => ?_⟩, List.mem_singleton.mpr rfl, fun a ha => ?_, fun a ha => ?_, fun a ha q => ?_⟩
  · show A.depth + 1 ≤ 400 + (lv + 1); omega
  · show A.units + 3 ≤ 1000 + 20 * (lv + 1); omega
  · show lv + 1 ≤ 100; omega
  · rcases look_cons e with ⟨rfl, rfl⟩ | ⟨_, e⟩
    · rfl
    · cases e
  · rcases look_cons e1 with ⟨_, q⟩ | ⟨_, e⟩
    · cases q
    · cases e
  · rcases List.mem_cons.mp ha with q | q
    · rw [q]; obtain ⟨o, _, _, e, _⟩ := F.ns; exact ⟨o, e⟩
    · rw [List.mem_singleton.mp q]; obtain ⟨o, e⟩ := hI; exact ⟨o, F.keep I o e⟩
  · rw [List.mem_singleton.mp ha]
    cases hz : h₀.get? s.heap.objs.size with
    | none => rfl
    | some o => rw [V.keep _ o hz] at hLn; cases hLn
  · rw [List.mem_singleton.mp ha] at q
    obtain ⟨o, e⟩ := hI
    rw [← List.mem_singleton.mp q, hLn] at e; cases e

theorem bits : Builtin.bitAnd 64 63 = 0 ∧ Builtin.bitAnd 64 64 = 64 ∧ Builtin.bitOr 0 0 = 0 ∧ Builtin.Int.intBits 0 ≤ 1 := by decide +kernel

theorem varintOk {w : World} {A : Around} {mg mb : Str → Option Value} {h₀ : Heap} {s : Shared} {lv : Nat} {E : Value → Shared → Prop} {f I a : Addr} {i : Nat} {vs : List Value} (V : VOk w A mg mb h₀ s lv) (hfa : FnAt s.heap f vN vAr vB vSc)
    (hit : s.heap.IsListIter I a i) (hl : LAt s.heap a vs) (hI0 : h₀.get? I = none) (p : Nat) (ov val : Int) (h1 : ∀ q, q < p → ∃ t, vs[i + q]? = some (.int 64 t)) (h2 : ∃ t, vs[i + p]? = some (.int ov t))
    (h64 : Builtin.bitAnd ov 64 = 0) (h63 : Builtin.bitAnd ov 63 = val) (hor : Builtin.bitOr 0 val = val) :
    wpAny (model P w) A (call (.ref f) [.ref I]) (fun v s' => (∃ t, v = .int val t) ∧ s'.heap.IsListIter I a (i + p + 1) ∧ Ext [I] s s') E s := by
  obtain ⟨o, pm, cd, doc, ho, hdat, hcd⟩ := hfa
  have hroom : A.depth < recursionLimit := by have h1 : recursionLimit = 1000 := rfl; have h2 := V.depth; have h3 := V.lv; omega
  have hIl : ∃ o, s.heap.get? I = some o := by obtain ⟨o, e, _⟩ := hit; exact ⟨o, e⟩
  have hLn : s.heap.get? s.heap.objs.size = none := get_size _
  refine wpAny_call (call_plain_ret hroom ho hdat (V.G.lim.keeps V.keep) hcd (binds := [(("iterator" : Str), .ref I)]) (by rfl) (fun x hx => by rw [List.mem_singleton.mp hx]; rfl) (fun h₁ F₁ => ?_) rfl rfl rfl (by decide))
  have F := V.fs (f := f) (cd := cd) (k := s.toks + 1) hIl F₁
  have hit1 : h₁.IsListIter I a i := by obtain ⟨o, e, r⟩ := hit; exact ⟨o, F₁.keep I o e, r⟩
  have hl1 : LAt h₁ a vs := hl.keep fun o e => F₁.keep a o e
  have x0 : Ext [s.heap.objs.size, I] s { s with heap := h₁, toks := s.toks + 1 } := Ext.heap fun b o _ e => F₁.keep b o e
  have addL : ∀ {s' s'' : Shared}, Ext [s.heap.objs.size, I] s s' → Ext [s.heap.objs.size] s' s'' → Ext [s.heap.objs.size, I] s s'' := fun a b => a.trans b fun c hc => .inl (by rw [List.mem_singleton.mp hc]; exact List.mem_cons_self)
  -- the first octet: 64 or the last
  obtain ⟨k0, hk0, hk1⟩ : ∃ k0 : Int, (∃ t, vs[i]? = some (.int k0 t)) ∧ ((p = 0 ∧ k0 = ov) ∨ (0 < p ∧ k0 = 64)) := by
    by_cases q : p = 0
    · subst q; exact ⟨ov, h2, .inl ⟨rfl, rfl⟩⟩
    · exact ⟨64, h1 0 (by omega), .inr ⟨by omega, rfl⟩⟩
  refine wpAny_execs_cons (wpAny_mono (exNext F (List.mem_singleton.mpr rfl) hI0 rfl rfl rfl rfl hit1 hl1 hk0) (fun fl s2 h => ?_) fun _ _ x => x)
  obtain ⟨rfl, F2, it2, l2, x2⟩ := h
  have y2 : Ext [s.heap.objs.size, I] s s2 := x0.trans' x2
  refine wpAny_execs_cons (wpAny_mono (assignX (Ev.bin (Ev.loc (d := .int k0) rfl rfl) Ev.int Bop.and) F2 rfl) (fun fl s3 h => ?_) fun _ _ x => x)
  obtain ⟨rfl, F3, x3⟩ := h
  have keepL : ∀ {s s' : Shared} {L : Addr}, L ≠ I → L ≠ a → Ext [L] s s' → ∀ {j}, s.heap.IsListIter I a j → LAt s.heap a vs → s'.heap.IsListIter I a j ∧ LAt s'.heap a vs := fun n1 n2 x j hi hl => by
    obtain ⟨o, e, r⟩ := hi
    exact ⟨⟨o, x.keep I o (fun q => n1 (List.mem_singleton.mp q).symm) e, r⟩, hl.keep fun o e => x.keep a o (fun q => n2 (List.mem_singleton.mp q).symm) e⟩
  have nI : s.heap.objs.size ≠ I := fun q => by obtain ⟨o, e⟩ := hIl; rw [← q, hLn] at e; cases e
  have na : s.heap.objs.size ≠ a := fun q => by obtain ⟨n, e⟩ := hl; rw [← q, hLn] at e; cases e
  obtain ⟨it3, l3⟩ := keepL nI na x3 it2 l2
  have y3 := addL y2 x3
  -- the loop
  refine wpAny_execs_cons (wpAny_While ?_)
  have bt := bits
  let K : Cx := vcx w (A.deeper (envOf vN vSc s.heap.objs.size f cd)) s.heap.objs.size f cd h₀ mg mb [I] (lv + 1)
  let J : Nat → Shared → Prop := fun n s' => n ≤ p ∧ s'.heap.IsListIter I a (i + (p - n) + 1) ∧ LAt s'.heap a vs ∧ Ext [s.heap.objs.size, I] s s' ∧
    FS K [s.heap.objs.size] [("val", .val (.int (if n = 0 then val else 0))), ("b", .val (.int (if n = 0 then ov else 64))), ("iterator", .raw (.ref I))] s'
  refine codeAny_whileLoop J (fun n s' hJ => ?_) p ⟨Nat.le_refl _, by rw [Nat.sub_self]; exact it3, l3, y3, F3.weak (weak ⟨?_, ?_, rfl, trivial⟩)⟩
  · obtain ⟨hn, it, l, y, FF⟩ := hJ
    refine wpAny_mono ((Tr.of (Ev.bin (Ev.loc rfl rfl) Ev.int Bop.and) Truth.int) _ s' FF) (fun b s4 h => ?_) fun _ _ x => x.elim
    obtain ⟨rfl, F4, x4⟩ := h
    obtain ⟨it4, l4⟩ := keepL nI na x4.ext it l
    have y4 := addL y x4.ext
    cases n with
    | zero =>
      rw [if_neg (by rw [if_pos rfl, h64]; decide)]
      refine wpAny_execs_nil ?_
      refine wpAny_execs_cons (wpAny_Return_some ?_)
      refine wpAny_mono ((Ev.loc (C := K) (d := .int val) rfl rfl) _ s4 F4) (fun v s5 h => ?_) fun _ _ x => x
      obtain ⟨F5, i5, x5⟩ := h
      cases i5 with | int =>
      obtain ⟨it5, _⟩ := keepL nI na x5.ext it4 l4
      have y5 := addL y4 x5.ext
      refine ⟨⟨_, rfl⟩, (by have := it5; rw [Nat.sub_zero] at this; exact this), fun b o hb e => y5.keep b o (fun q => ?_) e, y5.gens, y5.fin, y5.size, y5.os⟩
      rcases List.mem_cons.mp q with q | q
      · rw [q, hLn] at e; cases e
      · exact hb q
    | succ n =>
      rw [if_pos (by rw [if_neg (Nat.succ_ne_zero n), bt.2.1]; decide)]
      refine wpAny_execs_cons (wpAny_mono (augX rfl Ev.int (Bop.ishl (by omega) (by rw [if_neg (Nat.succ_ne_zero n)]; have := bt.2.2.2; omega)) F4 rfl) (fun fl s5 h => ?_) fun _ _ x => x.elim)
      obtain ⟨rfl, F5, x5⟩ := h
      obtain ⟨it5, l5⟩ := keepL nI na x5 it4 l4
      have y5 := addL y4 x5
      have hnext : ∃ t, vs[i + (p - (n + 1)) + 1]? = some (.int (if n = 0 then ov else 64) t) := by
        by_cases q : n = 0
        · rw [if_pos q]; subst q
          obtain ⟨t, e⟩ := h2
          exact ⟨t, by rw [← e]; congr 1; omega⟩
        · rw [if_neg q]
          obtain ⟨t, e⟩ := h1 (p - n) (by omega)
          exact ⟨t, by rw [← e]; congr 1; omega⟩
      refine wpAny_execs_cons (wpAny_mono (exNext (E := no) F5 (List.mem_singleton.mpr rfl) hI0 rfl rfl rfl rfl it5 l5 hnext) (fun fl s6 h => ?_) fun _ _ x => x.elim)
      obtain ⟨rfl, F6, it6, l6, x6⟩ := h
      have y6 : Ext [s.heap.objs.size, I] s s6 := y5.trans' x6
      refine wpAny_execs_cons (wpAny_mono (augX rfl (Ev.bin (Ev.loc rfl rfl) Ev.int Bop.and) Bop.ior F6 rfl) (fun fl s7 h => ?_) fun _ _ x => x.elim)
      obtain ⟨rfl, F7, x7⟩ := h
      obtain ⟨it7, l7⟩ := keepL nI na x7 it6 l6
      refine wpAny_execs_nil ⟨n, Nat.lt_succ_self n, by omega, ?_, l7, addL y6 x7, F7.weak (weak ⟨?_, rfl, rfl, trivial⟩)⟩
      · rw [show i + (p - n) + 1 = i + (p - (n + 1)) + 1 + 1 from congrArg (fun z => i + z + 1) (Nat.succ_pred_eq_of_pos (Nat.sub_pos_of_lt (by omega))).symm]; exact it7
      · rw [if_neg (Nat.succ_ne_zero n)]
        by_cases q : n = 0
        · rw [if_pos q, if_pos q, h63]
          show some (B.val (D.int (Builtin.bitOr (0 * 2 ^ (6 : Int).toNat) val))) = _
          rw [Int.zero_mul, hor]
        · rw [if_neg q, if_neg q, bt.1]
          show some (B.val (D.int (Builtin.bitOr (0 * 2 ^ (6 : Int).toNat) 0))) = _
          rw [Int.zero_mul, bt.2.2.1]
  · rcases hk1 with ⟨q, rfl⟩ | ⟨q, rfl⟩
    · rw [if_pos q, ← h63]; rfl
    · rw [if_neg (by omega), ← bt.1]; rfl
  · rcases hk1 with ⟨q, rfl⟩ | ⟨q, rfl⟩
    · rw [if_pos q]; rfl
    · rw [if_neg (by omega)]; rfl
end Mine

-- V26
namespace Mine
open PySem PySem.W PySem.Calls PyProof.Rows PySem.SeqAt

theorem iterFields {h : Heap} {I a : Addr} {i : Nat} (hit : h.IsListIter I a i) : ∃ o vs, h.get? I = some o ∧ o.data = .fields vs := by
  obtain ⟨o, e, _, d⟩ := hit; exact ⟨o, _, e, d⟩

theorem varintStop {w : World} {A : Around} {mg mb : Str → Option Value} {h₀ base : Heap} {s : Shared} {lv : Nat} {Q : Value → Shared → Prop} {f I a : Addr} {vs : List Value} {fr : List Env} (V : VOk w A mg mb h₀ s lv) (hfa : FnAt s.heap f vN vAr vB vSc)
    (hit : s.heap.IsListIter I a vs.length) (hl : LAt s.heap a vs) (hI0 : h₀.get? I = none) (hfr : A.frames = some fr) (hF : s.heap.FunFrames base fr) (hb : ∀ b o, base.get? b = some o → s.heap.get? b = some o) :
    wpAny (model P w) A (call (.ref f) [.ref I]) Q (fun e s' => ∃ ea T h', e = .ref ea ∧ s' = { s with heap := h', toks := s'.toks } ∧ s.heap.get? ea = none ∧ s.heap.get? T = none ∧ T ≠ ea ∧ Fly h' ea (.ref T) ∧ Entry h' T .none ∧ Slot (frs fr) [I] s.heap h') s := by
  obtain ⟨o, pm, cd, doc, ho, hdat, hcd⟩ := hfa
  have hroom : A.depth < recursionLimit := by have h1 : recursionLimit = 1000 := rfl; have h2 := V.depth; have h3 := V.lv; omega
  have hIl : ∃ o, s.heap.get? I = some o := by obtain ⟨o, e, _⟩ := hit; exact ⟨o, e⟩
  have hLn : s.heap.get? s.heap.objs.size = none := get_size _
  have hIF : I ∉ frs fr := by obtain ⟨o, vs, e, d⟩ := iterFields hit; exact FunFrames.no hF e d
  refine wpAny_call (call_plain hroom ho hdat (V.G.lim.keeps V.keep) hcd (binds := [(("iterator" : Str), .ref I)]) (by rfl) (fun x hx => by rw [List.mem_singleton.mp hx]; rfl) (fun h₁ F₁ => ?_) rfl rfl rfl (by decide))
  have F := V.fs (f := f) (cd := cd) (k := s.toks + 1) hIl F₁
  have hit1 : h₁.IsListIter I a vs.length := by obtain ⟨o, e, r⟩ := hit; exact ⟨o, F₁.keep I o e, r⟩
  have hl1 : LAt h₁ a vs := hl.keep fun o e => F₁.keep a o e
  refine wpAny_execs_cons ?_
  refine wpAny_Assign_Name ?_ rfl
  refine Call_ (wpAny_mono (Ev.nameB F (by decide) (v := .builtin "next") (by rfl) rfl (Q := fun v s' => v = .builtin "next" ∧ s' = { s with heap := h₁, toks := s.toks + 1 }) ⟨rfl, rfl⟩) (fun v s' q => ?_) fun _ _ x => x.elim) rfl
  obtain ⟨rfl, rfl⟩ := q
  refine PyProof.Rows.callWith_builtin1 ?_ rfl rfl
  refine wpAny_items_cons ?_ rfl
  refine F.rawName (x := "iterator") rfl rfl (wpAny_items_nil ?_)
  refine call_next_stop V.hand hit1 hl1 fun h2 ea k2 hea fly hlo => ?_
  have hea : h₁.get? ea = none := hea
  have k2 : ∀ b o, b ≠ I → h₁.get? b = some o → h2.get? b = some o := k2
  have eas : s.heap.get? ea = none := by
    cases hz : s.heap.get? ea with
    | none => rfl
    | some o => rw [F₁.keep ea o hz] at hea; cases hea
  have nI : s.heap.objs.size ≠ I := fun q => by obtain ⟨o, e⟩ := hIl; rw [← q, hLn] at e; cases e
  have hF2 : h2.FunFrames base (envOf vN vSc s.heap.objs.size f cd :: fr) := by
    refine ⟨(show ScopeKind.function ≠ ScopeKind.module by decide), ⟨s.heap.objs.size, ?_⟩, ?_⟩
    · obtain ⟨m, Fr, _⟩ := F.ex
      obtain ⟨oL, es, ep, e, d, _⟩ := Fr.ns
      refine ⟨oL, rfl, ?_, k2 _ _ nI e, fun vs q => by rw [d] at q; cases q⟩
      cases hz : base.get? s.heap.objs.size with
      | none => rfl
      | some o => rw [hb _ o hz] at hLn; cases hLn
    · refine (Slot.of (S := frs fr) (Y := [I]) (h := s.heap) (h' := h2) (fun b o hb e => k2 b o (fun q => hb (q ▸ List.mem_singleton.mpr rfl)) (F₁.keep b o e)) fun b hb q => hIF ((List.mem_singleton.mp q) ▸ hb)).frames (fun _ h => h) hF
  unfold leaving
  refine wpAny_bind (noteMine (Around.frames_deeper hfr) hF2 rfl fly (.inl rfl) fun h3 T sl hT fly3 en hTe => ?_)
  have hT2 : h2.get? T = none := hT
  have hLv : s.heap.objs.size ≠ T := fun q => by
    obtain ⟨m, Fr, _⟩ := F.ex
    obtain ⟨oL, es, ep, e, d, _⟩ := Fr.ns
    have := k2 _ _ nI e
    have hT2 : h2.get? T = none := hT2
    rw [← q] at hT2
    have this : h2.get? s.heap.objs.size = some oL := this
    rw [hT2] at this; cases this
  have Ts : s.heap.get? T = none := by
    cases hz : s.heap.get? T with
    | none => rfl
    | some o =>
      by_cases q : T = I
      · -- the iterator stands
        exfalso
        obtain ⟨o', _, e', _⟩ := hlo I (List.mem_singleton.mpr rfl)
        have e' : h2.get? I = some o' := e'
        rw [q, e'] at hT2; cases hT2
      · rw [k2 T o q (F₁.keep T o hz)] at hT2; cases hT2
  refine flight (fr := none) fly3 en hTe fun h4 k4 fly4 en4 => ?_
  refine ⟨ea, T, h4, rfl, rfl, eas, Ts, hTe, fly4, en4, ⟨fun b o hb1 hb2 e => ?_, fun b o hb1 e => ?_⟩⟩
  · have e1 := F₁.keep b o e
    have e2 := k2 b o (fun q => hb2 (q ▸ List.mem_singleton.mpr rfl)) e1
    refine k4 b o (fun q => by rw [q, Ts] at e; cases e) (sl.keep b o (fun q => ?_) (fun q => ?_) e2)
    · rcases List.mem_cons.mp q with q | q
      · rw [q, hLn] at e; cases e
      · exact hb1 q
    · rw [List.mem_singleton.mp q, eas] at e; cases e
  · have e1 := F₁.keep b o e
    have e2 := k2 b o (fun q => hIF (q ▸ hb1)) e1
    obtain ⟨x, e3⟩ := sl.slot b o (List.mem_cons_of_mem _ hb1) e2
    exact ⟨x, k4 b _ (fun q => by rw [q, Ts] at e; cases e) e3⟩
end Mine

-- V27
namespace Mine
open PySem PySem.W PySem.Calls PyProof.Rows PySem.SeqAt

def kB : List Stmt := match fnAt 71 with | some (_, _, b, _) => b | none => []
def kSc : Scope := match fnAt 71 with | some (_, _, _, sc) => sc | none => { kind := .function, names := [], isGenerator := true, isCoroutine := false }
def kN : Str := match fnAt 71 with | some (n, _, _, _) => n | none => ""
def kAr : Arguments := match fnAt 71 with | some (_, a, _, _) => a | none => { posonlyargs := [], args := [], vararg := none, kwonlyargs := [], kw_defaults := [], kwarg := none, defaults := [] }
theorem kAll : fnAt 71 = some (kN, kAr, kB, kSc) := rfl
abbrev kcx (w : World) (A : Around) (L f : Addr) (cd : Value) (h₀ : Heap) (mg mb : Str → Option Value) (X₀ : List Addr) (lv : Nat) : Cx := ⟨w, A, envOf kN kSc L f cd, h₀, mg, mb, X₀, lv⟩

/-- the numbers of a tape: where the k-th begins, how many octets lie ahead of its last one, that last one, and what it tells -/
structure Taped (vs : List Value) (hs : List Int) (at' : Nat → Nat) (p : Nat → Nat) (ov : Nat → Int) : Prop where
  zero : at' 0 = 0
  last : at' hs.length = vs.length
  next : ∀ k, k < hs.length → at' (k + 1) = at' k + p k + 1
  pre : ∀ k, k < hs.length → ∀ q, q < p k → ∃ t, vs[at' k + q]? = some (.int 64 t)
  oct : ∀ k, k < hs.length → ∃ t, vs[at' k + p k]? = some (.int (ov k) t)
  b64 : ∀ k, k < hs.length → Builtin.bitAnd (ov k) 64 = 0
  b63 : ∀ k, k < hs.length → Builtin.bitAnd (ov k) 63 = hs.getD k 0
  bor : ∀ k, k < hs.length → Builtin.bitOr 0 (hs.getD k 0) = hs.getD k 0

section
variable {C : Cx} {Γ : Vars}

/-- told.append(_parse_varint(octets)) -/
theorem appendNext {np np2 np3 ap pos pos2 pos' : Pos} {X : List Addr} {s : Shared} {I : Addr} {ds : List D} {Q : Flow → Shared → Prop} {E : Value → Shared → Prop} (F : FS C X Γ s)
    (hx : Γ.lookup ("told" : Str) = some (.own ds)) (ho : Γ.lookup ("octets" : Str) = some (.raw (.ref I))) (hl1 : C.env.kindOf "told" = some .local) (hl2 : C.env.kindOf "octets" = some .local) (hk : C.env.kindOf vN = some .globalImplicit)
    {pl : Sem Bool}
    (he : eval (.Call (.Attribute (.Name "told" np) "append" ap) [.Call (.Name vN np2) [.Name "octets" np3] [] pos2] [] pos) C.env = (do
      let ov ← eval (.Name "told" np) C.env
      standAt ap.atName
      let (f, first) ← holding [ov] (getMethod ov "append" pl)
      callWith pos f first (backTo pos (starEach [.Call (.Name vN np2) [.Name "octets" np3] [] pos2] C.env)) []))
    (he2 : eval (.Call (.Name vN np2) [.Name "octets" np3] [] pos2) C.env = (do callWith pos2 (← eval (.Name vN np2) C.env) [] (backTo pos2 (starEach [.Name "octets" np3] C.env)) (backToKw pos2 (keywordEach [] C.env))))
    (hst : starEach [.Call (.Name vN np2) [.Name "octets" np3] [] pos2] C.env = [(false, eval (.Call (.Name vN np2) [.Name "octets" np3] [] pos2) C.env)])
    (hst2 : starEach [.Name "octets" np3] C.env = [(false, eval (.Name "octets" np3) C.env)])
    (hi : interactive C.env = false) (hs : swapsWith (.Call (.Attribute (.Name "told" np) "append" ap) [.Call (.Name vN np2) [.Name "octets" np3] [] pos2] [] pos) none pos'.line C.env = pure false)
    (h : ∀ (f Tl : Addr) (ws : List Value) (m : Str → Option Value), C.mg vN = some (.ref f) → s.heap.Ns C.L m → m ("told" : Str) = some (.ref Tl) → Tl ∈ X → LAt s.heap Tl ws → Are s.heap (C.av X) ws ds → FnAt s.heap f vN vAr vB vSc →
      wpAny C.M C.A (call (.ref f) [.ref I]) (fun v s₁ => wpAny C.M C.A (call (.builtin "list.append") [.ref Tl, v]) (fun r s' => r = .none ∧ Q .next s') E s₁) E s) :
    wpAny C.M C.A (exec (.Expr (.Call (.Attribute (.Name "told" np) "append" ap) [.Call (.Name vN np2) [.Name "octets" np3] [] pos2] [] pos) pos') C.env) Q E s := by
  obtain ⟨m, Tl, ws, hm, em, hT, hla, hv⟩ := F.table hx
  obtain ⟨f, hf, hfa⟩ := F.G.fn 5 vN vAr vB vSc vAll
  have hfa' := hfa
  obtain ⟨o, pm, cd, doc, hof, hdat, hcd⟩ := hfa'
  refine wpAny_Expr (MethodCall_ (pl := pl) ?_ he) hi hs
  refine wpAny_Name (wpAny_loadName_local F.ok.kind hl1 hm em ?_) (by decide)
  obtain ⟨n, hoa⟩ := id hla
  refine getMethod_list_append hoa rfl rfl ?_
  refine callWith_method1 ?_ (by rw [hst]; rfl)
  refine wpAny_items_cons ?_ (by rw [hst]; rfl)
  refine Call_ ?_ he2
  refine wpAny_mono (Ev.nameG (pos := np2) F hf hk (Q := fun v s' => v = .ref f ∧ s' = s) ⟨rfl, rfl⟩ (by decide)) (fun v s' q => ?_) fun _ _ x => x.elim
  obtain ⟨rfl, rfl⟩ := q
  refine callWith_def hdat ?_ (by rw [hst2]; rfl)
  refine wpAny_items_cons ?_ (by rw [hst2]; rfl)
  refine F.rawName ho hl2 (wpAny_items_nil ⟨hof, ?_⟩)
  exact wpAny_mono (h f Tl ws m hf hm em hT hla hv hfa) (fun v s₁ z => wpAny_items_nil (wpAny_mono z (fun r s' q => by obtain ⟨rfl, q⟩ := q; exact q) fun _ _ x => x)) fun _ _ x => x
end

theorem Ns.slot {S Y : List Addr} {h h' : Heap} {a : Addr} {m : Str → Option Value} (n : h.Ns a m) (x : Slot S Y h h') (ha : a ∉ Y) : h'.Ns a m := by
  obtain ⟨o, es, ep, e, d, r⟩ := n
  by_cases q : a ∈ S
  · obtain ⟨sl, e'⟩ := x.slot a o q e; exact ⟨_, es, ep, e', d, r⟩
  · exact ⟨o, es, ep, x.keep a o q ha e, d, r⟩

/-- the way of the exception through the loop and the try, to the suite -/
theorem caught {w : World} {A : Around} {L f : Addr} {cd : Value} {fr : List Env} {base : Heap} {s : Shared} {ea T : Addr} {mg mb : Str → Option Value} {pos p2 p3 p4 : Pos} {Q : Flow → Shared → Prop} {v : Value} {m : Str → Option Value}
    (hA : A.handled = none) (hfr : A.frames = some (envOf kN kSc L f cd :: fr)) (hF : s.heap.FunFrames base (envOf kN kSc L f cd :: fr)) (fly : Fly s.heap ea (.ref T)) (en : Entry s.heap T .none) (hTe : T ≠ ea)
    (hm : s.heap.Ns L m) (hv : m ("told" : Str) = some v) (hg : s.heap.Ns mainGlobals mg) (hb : s.heap.Ns builtinsNs mb) (hs1 : mg "StopIteration" = none) (hs2 : mb "StopIteration" = some (.type "StopIteration"))
    (h : ∀ h', Slot (frs (envOf kN kSc L f cd :: fr)) [ea, T] s.heap h' → Q (.ret v) { s with heap := h' }) :
    notedBy (model P w) A (envOf kN kSc L f cd) (fun e s' => cameBackBy (model P w) A (envOf kN kSc L f cd) (fun e s₁ => wpAny (model P w) A (noteFrame e (envOf kN kSc L f cd)) (fun _ s₂ => wpAny (model P w) A (setFlight e none) (fun _ s₃ =>
      wpAny (model P w) A (handleBy e (envOf kN kSc L f cd) [.ExceptHandler (some (.Name "StopIteration" p2)) none [.Return (some (.Name "told" p3)) p4] pos]) Q no s₃) no s₂) no s₁) e s') (.ref ea) s := by
  have hTf : T ∉ frs (envOf kN kSc L f cd :: fr) := by obtain ⟨o, vs, e, d, _⟩ := en; exact FunFrames.no hF e d
  have hef : ea ∉ frs (envOf kN kSc L f cd :: fr) := by obtain ⟨o, vs, e, _, d, _⟩ := fly; exact FunFrames.no hF e d
  unfold notedBy
  refine noteMine hfr hF rfl fly (.inr ⟨T, rfl, en, hTe⟩) fun h1 T2 sl1 hT2 fly1 en1 hTe1 => ?_
  unfold cameBackBy
  obtain ⟨oe, vs, he1, hcls, hdt, hv1⟩ := id fly1
  refine wpAny_bind (wpAny_field he1 hdt hv1 ?_)
  rw [if_neg (show ¬ ((Value.ref T2 == Value.none) = true) from by simp)]
  refine flight (fr := some L) fly1 en1 hTe1 fun h2 k2 fly2 en2 => ?_
  refine noteHere rfl fly2 en2 ?_
  refine flight (fr := none) fly2 en2 hTe1 fun h3 k3 fly3 en3 => ?_
  have nT2 : ∀ {b : Addr} {o : Obj}, s.heap.get? b = some o → b ≠ T2 := fun {b o} e q => by rw [q] at e; have hT2 : s.heap.get? T2 = none := hT2; rw [hT2] at e; cases e
  have slAll : ∀ h', (∀ b o, b ≠ T2 → h1.get? b = some o → h'.get? b = some o) → Slot (frs (envOf kN kSc L f cd :: fr)) [ea, T] s.heap h' := fun h' k => ⟨fun b o hb hb2 e => k b o (nT2 e) (sl1.keep b o hb hb2 e), fun b o hb e => by
    obtain ⟨sl, e1⟩ := sl1.slot b o hb e
    exact ⟨sl, k b _ (nT2 e) e1⟩⟩
  have k13 : ∀ b o, b ≠ T2 → h1.get? b = some o → h3.get? b = some o := fun b o hb e => k3 b o hb (k2 b o hb e)
  have sl3 := slAll h3 k13
  have off : ∀ {a : Addr} {m : Str → Option Value}, s.heap.Ns a m → a ∉ [ea, T] := fun {a m} n q => by
    obtain ⟨o, es, ep, e, d, _⟩ := n
    rcases List.mem_cons.mp q with q | q
    · obtain ⟨o', vs, e', _, d', _⟩ := fly; rw [q, e'] at e; cases e; rw [d] at d'; cases d'
    · obtain ⟨o', vs, e', d', _⟩ := en; rw [List.mem_singleton.mp q, e'] at e; cases e; rw [d] at d'; cases d'
  have ty : isSubtype (.type "StopIteration") (.type "BaseException") = pure true := by kernel_rfl
  refine wpAny_handleBy_builtin (X := "StopIteration") (T := "StopIteration") (b := true) ty (by kernel_rfl) isSubtype_stop ?_
  refine Name_function_global rfl rfl (loadGlobal_builtin (mg := mg) (mb := mb) (Ns.slot hg sl3 (off hg)) hs1 (Ns.slot hb sl3 (off hb)) hs2 ⟨rfl, ?_, ?_⟩) (by decide)
  · obtain ⟨o, vs, e, c, _⟩ := fly3; exact ⟨o, e, c⟩
  · refine flight (fr := none) fly3 en3 hTe1 fun h4 k4 fly4 en4 => ?_
    have sl4 := slAll h4 fun b o hb e => k4 b o hb (k13 b o hb e)
    refine wpAny_execs_cons (wpAny_Return_some (wpAny_Name (wpAny_loadName_local rfl rfl (Ns.slot hm sl4 (off hm)) hv ?_) (by decide)))
    exact h h4 sl4
end Mine

-- V28
namespace Mine
open PySem PySem.W PySem.Calls PyProof.Rows PySem.SeqAt

structure Gk (s s' : Shared) : Prop where
  gens : ∀ (i : Nat) (g : GenState), s.gens[i]? = some g → s'.gens[i]? = some g
  fin : ∀ (i : Nat) (g : GenState), s.gens.size ≤ i → s'.gens[i]? = some g → g.bare = true
  size : s.gens.size ≤ s'.gens.size
  os : s'.os = s.os
theorem Gk.of {Y : List Addr} {s s' : Shared} (x : Ext Y s s') : Gk s s' := ⟨fun i g e => x.gens i g (fun h => nomatch h) e, fun i g hi e => x.fin i g (.inr hi) e, x.size, x.os⟩
theorem Gk.ext {s s' : Shared} (Y : List Addr) (g : Gk s s') (k : ∀ b o, b ∉ Y → s.heap.get? b = some o → s'.heap.get? b = some o) : Ext Y s s' :=
  ⟨k, fun i x _ e => g.gens i x e, fun i x hi e => g.fin i x (hi.resolve_left fun h => nomatch h) e, g.size, g.os⟩
theorem Gk.trans {s s' s'' : Shared} (a : Gk s s') (b : Gk s' s'') : Gk s s'' := ⟨fun i g e => b.gens i g (a.gens i g e), fun i g hi e => by
  by_cases q : s'.gens.size ≤ i
  · exact b.fin i g q e
  · have hlt : i < s'.gens.size := Nat.lt_of_not_le q
    have e' := b.gens i _ (Array.getElem?_eq_getElem hlt)
    rw [e] at e'; cases e'
    exact a.fin i _ hi (Array.getElem?_eq_getElem hlt), Nat.le_trans a.size b.size, b.os.trans a.os⟩
theorem Gk.same {s s' : Shared} (h1 : s'.gens = s.gens) (h2 : s'.os = s.os) : Gk s s' := ⟨fun i g e => by rw [h1]; exact e, (fun i g hi e => by rw [h1, Array.getElem?_eq_none hi] at e; cases e), by rw [h1]; exact Nat.le_refl _, h2⟩

theorem told {w : World} {A : Around} {mg mb : Str → Option Value} {base : Heap} {s : Shared} {lv : Nat} {f : Addr} {v : Value} {X₀ : List Addr} {fr : List Env} {vs' : List Int} {hs : List Int} {at' p : Nat → Nat} {ov : Nat → Int}
    (G : GOk w mg mb s.heap) (hfa : FnAt s.heap f kN kAr kB kSc) (hA : A.handled = none) (hd : A.depth ≤ 400 + lv) (hu : A.units ≤ 1000 + 20 * lv) (hlv : lv ≤ 40) (hlive : ∀ a ∈ X₀, ∃ o, s.heap.get? a = some o) (iv : Is s.heap X₀ v (.lst (vs'.map .int)))
    (hfr : A.frames = some fr) (hF : s.heap.FunFrames base fr) (hb : ∀ b o, base.get? b = some o → s.heap.get? b = some o)
    (hT : ∀ vs, Are s.heap X₀ vs (vs'.map .int) → Taped vs hs at' p ov) (hn : hs.length ≤ 1000) :
    wpAny (model P w) A (call (.ref f) [v]) (fun r s' => Is s'.heap X₀ r (.lst (hs.map .int)) ∧ Slot (frs fr) [] s.heap s'.heap ∧ Gk s s') no s := by
  obtain ⟨o, pm, cd, doc, ho, hdat, hcd⟩ := hfa
  have hroom : A.depth < recursionLimit := by have h1 : recursionLimit = 1000 := rfl; omega
  obtain ⟨a, vs, rfl, hla, haX, hvs⟩ := iv.lstI
  have TT := hT vs hvs
  have hLn : s.heap.get? s.heap.objs.size = none := get_size _
  have hLX : s.heap.objs.size ∉ X₀ := fun q => by obtain ⟨o, e⟩ := hlive _ q; rw [hLn] at e; cases e
  refine wpAny_call (call_plain_ret hroom ho hdat G.lim hcd (binds := [(("tape" : Str), .ref a)]) (by rfl) (fun x hx => by rw [List.mem_singleton.mp hx]; rfl) (fun h₁ F₁ => ?_) rfl rfl rfl (by decide))
  let K : Cx := kcx w (A.deeper (envOf kN kSc s.heap.objs.size f cd)) s.heap.objs.size f cd s.heap mg mb X₀ (lv + 1)
  have hIs : ∀ {v d}, Is s.heap X₀ v d → Is h₁ (s.heap.objs.size :: X₀) v d := fun i => i.mono fun c o hc e => ⟨F₁.keep c o e, fun q => by
    rcases List.mem_cons.mp q with q | q
    · rw [q, hLn] at e; cases e
    · exact hc q⟩
  have F : FS K [s.heap.objs.size] [("tape", .val (.lst (vs'.map .int)))] { s with heap := h₁, toks := s.toks + 1 } := by
    refine ⟨⟨rfl, rfl, rfl, hA, ?_, ?_, ?_, G⟩, ⟨_, F₁, fun x b e => ?_, fun x y ds es a e1 e2 e3 e4 => ?_⟩, List.mem_singleton.mpr rfl, fun a ha => ?_, fun a ha => ?_, fun a ha => ?_⟩
    · show A.depth + 1 ≤ 400 + (lv + 1); omega
    · show A.units + 3 ≤ 1000 + 20 * (lv + 1); omega
    · show lv + 1 ≤ 100; omega
    · rcases look_cons e with ⟨rfl, rfl⟩ | ⟨_, e⟩
      · exact ⟨_, rfl, hIs (.lst hla haX hvs)⟩
      · cases e
    · rcases look_cons e1 with ⟨_, q⟩ | ⟨_, e⟩
      · cases q
      · cases e
    · rcases List.mem_cons.mp ha with q | q
      · rw [q]; obtain ⟨o, _, _, e, _⟩ := F₁.ns; exact ⟨o, e⟩
      · obtain ⟨o, e⟩ := hlive a q; exact ⟨o, F₁.keep a o e⟩
    · rw [List.mem_singleton.mp ha]; exact hLn
    · rw [List.mem_singleton.mp ha]; exact hLX
  -- octets = iter(tape)
  refine wpAny_execs_cons (wpAny_Assign_Name ?_ rfl)
  refine Call_ (wpAny_mono (Ev.nameB F (by decide) (v := .builtin "iter") (by rfl) rfl (Q := fun v s' => v = .builtin "iter" ∧ s' = { s with heap := h₁, toks := s.toks + 1 }) ⟨rfl, rfl⟩) (fun v s' q => ?_) fun _ _ x => x.elim) rfl
  obtain ⟨rfl, rfl⟩ := q
  refine PyProof.Rows.callWith_builtin1 ?_ rfl rfl
  refine wpAny_items_cons (wpAny_Name (wpAny_loadName_local rfl rfl F₁.ns (show _ = some (Value.ref a) from rfl) (wpAny_items_nil ?_)) (by decide)) rfl
  have hl1 : LAt h₁ a vs := hla.keep fun o e => F₁.keep a o e
  refine call_iter_list hl1 fun h2 hit k2 => ?_
  have hIn : h₁.get? h₁.objs.size = none := get_size _
  generalize hIe : h₁.objs.size = I at hit hIn ⊢
  have hIn : h₁.get? I = none := hIn
  have k2 : ∀ b o, h₁.get? b = some o → h2.get? b = some o := k2
  have hI0 : s.heap.get? I = none := by
    cases hz : s.heap.get? I with
    | none => rfl
    | some o => rw [F₁.keep I o hz] at hIn; cases hIn
  let s2 : Shared := { s with heap := h2, toks := s.toks + 1 }
  have F2 : FS (K.plus [I]) [s.heap.objs.size] [("tape", .val (.lst (vs'.map .int)))] s2 := F.plus [I] k2 (fun b hb => by rw [List.mem_singleton.mp hb]; exact hIn) (fun b hb => by rw [List.mem_singleton.mp hb]; obtain ⟨o, e, _⟩ := hit; exact ⟨o, e⟩)
  refine wpAny_mono (F2.storeRaw (x := "octets") (v := .ref I) rfl) (fun _ s3 q => ?_) fun _ _ x => x
  obtain ⟨F3, x3⟩ := q
  have IL : I ≠ s.heap.objs.size := fun q => F2.off _ (List.mem_singleton.mpr rfl) (by rw [← q]; exact List.mem_append_left _ (List.mem_singleton.mpr rfl))
  have it3 : s3.heap.IsListIter I a 0 := by obtain ⟨o, e, r⟩ := hit; exact ⟨o, x3.keep I o (fun z => IL (List.mem_singleton.mp z)) e, r⟩
  have g3 : Gk s s3 := (Gk.same (s := s) (s' := s2) rfl rfl).trans (Gk.of x3)
  -- told = []
  refine wpAny_execs_cons (wpAny_mono (Ex.assignOwn (C := K.plus [I]) (x := "told") (EvN.list Evs.nil (by show 0 ≤ 1000; decide)) rfl rfl _ _ F3) (fun fl s4 h => ?_) fun _ _ x => x)
  obtain ⟨X4, ok4, x4, gr4⟩ := h
  cases fl <;> first | exact ok4.elim | skip
  have F4 : FS (K.plus [I]) X4 _ s4 := ok4
  have keepI : ∀ {X : List Addr} {Γ : Vars} {s s' : Shared} {j : Nat}, FS (K.plus [I]) X Γ s → Ext X s s' → s.heap.IsListIter I a j → s'.heap.IsListIter I a j := fun F x hi => by
    obtain ⟨o, e, r⟩ := hi
    exact ⟨o, x.keep I o (fun q => F.off I q (List.mem_append_left _ (List.mem_singleton.mpr rfl))) e, r⟩
  have it4 := keepI F3 x4 it3
  have g4 := g3.trans (Gk.of x4)
  refine wpAny_execs_cons (wpAny_Try_except (wpAny_execs_cons (wpAny_While ?_)))
  have keep0 : ∀ {X : List Addr} {Γ : Vars} {s' : Shared}, FS (K.plus [I]) X Γ s' → ∀ b o, s.heap.get? b = some o → s'.heap.get? b = some o := fun F b o e => by obtain ⟨m, Fr, _⟩ := F.ex; exact Fr.keep b o e
  let J : Nat → Shared → Prop := fun n s' => ∃ j X, j ≤ hs.length ∧ n = hs.length + 1 - j ∧ FS (K.plus [I]) X [("told", .own ((hs.take j).map .int)), ("octets", .raw (.ref I))] s' ∧ s'.heap.IsListIter I a (at' j) ∧ Gk s s'
  refine codeAny_whileLoop J (fun n s' hJ => ?_) (hs.length + 1) ⟨0, X4, Nat.zero_le _, rfl, F4.weak (weak ⟨rfl, rfl, trivial⟩), by rw [TT.zero]; exact it4, g4⟩
  obtain ⟨j, X, hj, rfl, FF, it, gk⟩ := hJ
  refine wpAny_mono ((Tr.of (C := K.plus [I]) (Ev.bool (b := true)) Truth.bool) _ s' FF) (fun b s5 h => ?_) fun _ _ x => x.elim
  obtain ⟨rfl, F5, x5⟩ := h
  rw [if_pos rfl]
  have it5 := keepI FF (FF.toX x5) it
  have g5 := gk.trans (Gk.of x5.ext)
  have l5 : LAt s5.heap a vs := hla.keep fun o e => keep0 F5 a o e
  refine wpAny_execs_cons (appendNext F5 rfl rfl rfl rfl rfl rfl rfl rfl rfl rfl rfl fun fv Tl ws m hfv hm em hTX hTl hws hfa5 => ?_)
  have V : VOk w (A.deeper (envOf kN kSc s.heap.objs.size f cd)) mg mb s.heap s5 (lv + 1) := ⟨G, keep0 F5, by
      obtain ⟨m, Fr, _⟩ := F5.ex
      obtain ⟨o, _, _, e, _⟩ := Fr.ns
      exact Nat.le_of_lt (Heap.lt_size e), hA, by show A.depth + 1 ≤ 400 + (lv + 1); omega, by show A.units + 3 ≤ 1000 + 20 * (lv + 1); omega, by omega⟩
  rcases Nat.lt_or_ge j hs.length with hlt | hge
  · refine wpAny_mono (varintOk V hfa5 it5 l5 hI0 (p j) (ov j) (hs.getD j 0) (TT.pre j hlt) (TT.oct j hlt) (TT.b64 j hlt) (TT.b63 j hlt) (TT.bor j hlt)) (fun v s6 h => ?_) fun _ _ x => x
    obtain ⟨⟨t, rfl⟩, it6, x6⟩ := h
    have kI : ∀ b o, b ∉ [I] → s5.heap.get? b = some o → s6.heap.get? b = some o := x6.keep
    have F6 : FS (K.plus [I]) X [("told", .own ((hs.take j).map .int)), ("octets", .raw (.ref I))] s6 := F5.off' (W := [I]) (fun b hb => (List.mem_singleton.mp hb) ▸ List.mem_append_left _ (List.mem_singleton.mpr rfl)) (fun b hb => (List.mem_singleton.mp hb) ▸ hI0) kI (fun b hb => by
      obtain ⟨o, e, _⟩ := it6; rw [List.mem_singleton.mp hb]; exact ⟨o, e⟩)
    have hTI : Tl ∉ [I] := fun q => F5.off Tl hTX ((List.mem_singleton.mp q) ▸ List.mem_append_left _ (List.mem_singleton.mpr rfl))
    have hTl6 : LAt s6.heap Tl ws := hTl.keep fun o e => kI Tl o hTI e
    obtain ⟨n6, ho6⟩ := id hTl6
    have hm6 : s6.heap.Ns K.L m := Ns.off hm (W := [I]) (fun q => IL (List.mem_singleton.mp q).symm) kI
    have hws6 : Are s6.heap ((K.plus [I]).av X) ws ((hs.take j).map .int) := hws.mono fun b o hb e => ⟨kI b o (fun q => hb (List.mem_append_right _ (List.mem_append_left _ q))) e, hb⟩
    have hwl := hws6.length
    refine wpAny_list_append_plain (l := Tl) (items := ws.toArray) (x := .int (hs.getD j 0) t) ⟨n6, ho6⟩ (fun h' hp hsb => ⟨rfl, ?_⟩) (by rw [List.size_toArray, hwl]; simp; show _ ≤ 16777216 ; omega)
    obtain ⟨n', hp⟩ := hp
    have tt := F6.turned (x := "told") (k := s6.toks) hm6 rfl em (vs' := ws ++ [.int (hs.getD j 0) t]) ⟨n', by rw [hp]; simp⟩ hsb (hws6.append (.one .int))
    refine wpAny_execs_nil ⟨hs.length + 1 - (j + 1), by omega, j + 1, X, hlt, rfl, tt.1.weak (weak ⟨?_, rfl, trivial⟩), ?_, (g5.trans (Gk.of x6)).trans (Gk.of tt.2)⟩
    · show some (B.own _) = some (B.own _)
      have e1 : hs[j]? = some (hs.getD j 0) := by rw [List.getD_eq_getElem?_getD, List.getElem?_eq_getElem hlt]; rfl
      rw [take_next e1, List.map_append]; rfl
    · rw [TT.next j hlt]
      exact keepI F6 tt.2 it6
  · obtain rfl : j = hs.length := Nat.le_antisymm hj hge
    rw [TT.last] at it5
    have hF5 : s5.heap.FunFrames base (envOf kN kSc s.heap.objs.size f cd :: fr) := by
      refine ⟨(show ScopeKind.function ≠ ScopeKind.module by decide), ⟨s.heap.objs.size, ?_⟩, ?_⟩
      · obtain ⟨oL, es, ep, e, d, _⟩ := hm
        refine ⟨oL, rfl, ?_, e, fun vs q => by rw [d] at q; cases q⟩
        cases hz : base.get? s.heap.objs.size with
        | none => rfl
        | some o => rw [hb _ o hz] at hLn; cases hLn
      · exact (Slot.of (S := frs fr) (Y := []) (fun b o _ e => keep0 F5 b o e) fun _ _ h => nomatch h).frames (fun _ h => h) hF
    refine wpAny_mono (varintStop V hfa5 it5 l5 hI0 (Around.frames_deeper hfr) hF5 (fun b o e => keep0 F5 b o (hb b o e))) (Q' := fun v s₁ => wpAny _ _ (call (.builtin "list.append") [.ref Tl, v]) _ _ s₁) (fun v s6 h => h) (fun e s6 h => ?_)
    obtain ⟨ea, T, h', rfl, hs6, hea, hTn, hTe, fly, en, sl⟩ := h
    rw [hs6]
    have ITl : Tl ∉ [I] := fun q => F5.off Tl hTX ((List.mem_singleton.mp q) ▸ List.mem_append_left _ (List.mem_singleton.mpr rfl))
    have nsI : ∀ {b : Addr} {m : Str → Option Value}, s5.heap.Ns b m → b ∉ [I] := fun {b m} n q => by
      obtain ⟨o, es, ep, e, d, _⟩ := n
      obtain ⟨o', e', _, d'⟩ := it5
      rw [List.mem_singleton.mp q, e'] at e; cases e; rw [d] at d'; cases d'
    have hmg := F5.G.g
    have hmb := F5.G.b
    refine caught hA (Around.frames_deeper hfr) (sl.frames (fun _ h => h) hF5) fly en hTe (Ns.slot hm sl (nsI hm)) em (Ns.slot hmg sl (nsI hmg)) (Ns.slot hmb sl (nsI hmb)) (G.miss _ (by decide)) ((G.bi _ (by decide)).trans (by rfl)) fun h7 sl7 => ?_
    have hTlf : Tl ∉ frs (envOf kN kSc s.heap.objs.size f cd :: fr) := fun q => by
      have hL5 : s.heap.objs.size ≠ Tl := fun z => by
        obtain ⟨oL, es, ep, e, d, _⟩ := hm
        obtain ⟨n, e'⟩ := hTl
        have e : s5.heap.get? s.heap.objs.size = some oL := e
        rw [z, e'] at e; cases e; cases d
      rcases List.mem_cons.mp q with q | q
      · exact hL5 q.symm
      · obtain ⟨_, o, e, _⟩ := hF.mem q
        have := F5.new Tl hTX
        have this : s.heap.get? Tl = none := this
        rw [this] at e; cases e
    have new5 : ∀ {b : Addr} {o : Obj}, s5.heap.get? b = some o → b ∉ [ea, T] := fun {b o} e q => by
      rcases List.mem_cons.mp q with q | q
      · rw [q, hea] at e; cases e
      · rw [List.mem_singleton.mp q, hTn] at e; cases e
    have hTl7 : LAt h7 Tl ws := hTl.keep fun o e => sl7.keep Tl o hTlf (new5 e) (sl.keep Tl o hTlf ITl e)
    refine ⟨.lst hTl7 (fun q => ?_) ?_, ⟨fun b o hb1 _ e => ?_, fun b o hb1 e => ?_⟩, g5.trans (Gk.same rfl rfl)⟩
    · exact F5.off Tl hTX (List.mem_append_right _ q)
    · rw [List.take_length] at hws
      have : ∀ {ws : List Value} {ns : List Int} {h h' : Heap} {X Y : List Addr}, Are h X ws (ns.map .int) → Are h' Y ws (ns.map .int) := by
        intro ws ns
        induction ns generalizing ws with
        | nil => intro h h' X Y a; cases a; exact .nil
        | cons n ns ih => intro h h' X Y a; cases a with | cons a as => cases a; exact .cons .int (ih as)
      exact this hws
    · have e5 := keep0 F5 b o e
      have hbf : b ∉ frs (envOf kN kSc s.heap.objs.size f cd :: fr) := fun q => by
        rcases List.mem_cons.mp q with q | q
        · rw [q, hLn] at e; cases e
        · exact hb1 q
      have hbI : b ∉ [I] := fun q => by rw [List.mem_singleton.mp q, hI0] at e; cases e
      exact sl7.keep b o hbf (new5 e5) (sl.keep b o hbf hbI e5)
    · have e5 := keep0 F5 b o e
      have hbf : b ∈ frs (envOf kN kSc s.heap.objs.size f cd :: fr) := List.mem_cons_of_mem _ hb1
      obtain ⟨x1, e6⟩ := sl.slot b o hbf e5
      obtain ⟨x2, e7⟩ := sl7.slot b _ hbf e6
      exact ⟨x2, e7⟩
end Mine

-- F1
namespace Mine
open PySem PySem.W PySem.Calls PyProof.Rows PySem.SeqAt

theorem f63 (i : Int) : Fn 63 9 [.int i] (.bool (decide (i ≥ 256))) := by
  refine Fn.of ["x"] rfl rfl (by omega) (fun _ _ _ vs h => by obtain ⟨_, rfl⟩ := len1 h; rfl) (by decide) (fun w A L a cd h₀ mg mb X₀ lv hlv => ?_)
  refine Exs.stop (Ex.ret ?_) (fun _ h => nomatch h)
  exact Ev.cmp (Ev.loc rfl rfl) (Ev.gint (fun k => k.G.nt) rfl) Bop.ge
end Mine

-- F2
namespace Mine
open PySem PySem.W PySem.Calls PyProof.Rows PySem.SeqAt

abbrev nums (l : List Int) : D := .lst (l.map .int)

def hstep (p : List Int × Int) (s : Int) : List Int × Int := if 256 ≤ s then (p.1 ++ [p.2], 0) else (p.1, p.2 + 1)
def hst (l : List Int) : List Int × Int := l.foldl hstep ([], 0)
theorem hst_len : ∀ (l : List Int), (hst l).1.length ≤ l.length := by
  have : ∀ (l : List Int) p, (l.foldl hstep p).1.length ≤ p.1.length + l.length := by
    intro l
    induction l with
    | nil => intro p; simp
    | cons s l ih =>
      intro p
      rw [List.foldl_cons]
      refine Nat.le_trans (ih _) ?_
      unfold hstep
      split <;> simp <;> omega
  intro l; simpa [hst] using this l ([], 0)
theorem hst_small : ∀ (l : List Int), (∀ g ∈ (hst l).1, 0 ≤ g ∧ g ≤ l.length) ∧ 0 ≤ (hst l).2 ∧ (hst l).2 ≤ l.length := by
  have : ∀ (l : List Int) p n, (∀ g ∈ p.1, 0 ≤ g ∧ g ≤ (n : Int)) → 0 ≤ p.2 → p.2 ≤ n → (∀ g ∈ (l.foldl hstep p).1, 0 ≤ g ∧ g ≤ n + l.length) ∧ 0 ≤ (l.foldl hstep p).2 ∧ (l.foldl hstep p).2 ≤ n + l.length := by
    intro l
    induction l with
    | nil => intro p n h1 h2 h3; exact ⟨fun g hg => ⟨(h1 g hg).1, by have := (h1 g hg).2; simpa using this⟩, h2, by simpa using h3⟩
    | cons s l ih =>
      intro p n h1 h2 h3
      rw [List.foldl_cons]
      have := ih (hstep p s) (n + 1) (by
        intro g hg
        unfold hstep at hg
        split at hg
        · rcases List.mem_append.mp hg with q | q
          · have := h1 g q; exact ⟨this.1, by push_cast; omega⟩
          · rw [List.mem_singleton.mp q]; exact ⟨h2, by push_cast; omega⟩
        · have := h1 g hg; exact ⟨this.1, by push_cast; omega⟩) (by unfold hstep; split <;> simp <;> omega) (by unfold hstep; split <;> simp <;> omega)
      refine ⟨fun g hg => ⟨(this.1 g hg).1, ?_⟩, this.2.1, ?_⟩
      · have := (this.1 g hg).2; simp only [List.length_cons]; push_cast at this ⊢; omega
      · have := this.2.2; simp only [List.length_cons]; push_cast at this ⊢; omega
  intro l; simpa [hst] using this l ([], 0) 0 (by simp) (by simp) (by simp)
def gaps (l : List Int) : List Int := (hst l).1 ++ [(hst l).2]
theorem gaps_small (l : List Int) (g : Int) (h : g ∈ gaps l) : 0 ≤ g ∧ g ≤ l.length := by
  rcases List.mem_append.mp h with q | q
  · exact (hst_small l).1 g q
  · rw [List.mem_singleton.mp q]; exact (hst_small l).2
def rstep (p : Int × Int × List Int) (h : Int) : Int × Int × List Int := (p.2.1, h * p.2.1 - p.1, p.2.2 ++ [h * p.2.1 - p.1])
def runst (l : List Int) (u v : Int) : Int × Int × List Int := l.foldl rstep (-v, u, [u])
theorem run_len (l : List Int) (u v : Int) : (runst l u v).2.2.length = l.length + 1 := by
  have : ∀ (l : List Int) p, (l.foldl rstep p).2.2.length = p.2.2.length + l.length := by
    intro l
    induction l with
    | nil => intro p; simp
    | cons s l ih => intro p; rw [List.foldl_cons, ih]; simp [rstep]; omega
  rw [runst, this]; simp; omega
def runOf (syms : List Int) (u v : Int) : List Int := (runst (gaps syms) u v).2.2

theorem f73 (syms : List Int) (u v : Int) (hn : syms.length ≤ 10000) (hs : ∀ s ∈ syms, 0 ≤ s) : Fn 73 8 [nums syms, .int u, .int v] (nums (runOf syms u v)) := by
  refine Fn.of ["symbols", "u", "v"] rfl rfl (by omega) (fun _ _ _ vs h => by obtain ⟨_, _, _, rfl⟩ := len3 h; rfl) (by decide) (fun w A L a cd h₀ mg mb X₀ lv hlv => ?_)
  refine Exs.cons (Ex.assignOwn (EvN.list (Evs.cons Ev.int Evs.nil) (by decide)) rfl) ?_
  refine Exs.cons (Ex.for (EvIt.listN (Ev.loc rfl rfl)) (fun k => [("heaps", .own (((hst (syms.take k)).1.map .int) ++ [.int (hst (syms.take k)).2])), ("symbols", .val (nums syms)), ("u", .val (.int u)), ("v", .val (.int v))]) (weak ⟨rfl, rfl, rfl, rfl, trivial⟩) (fun W k d hd => ?_)) ?_
  · obtain ⟨s, hs', rfl⟩ := get_map hd
    refine ⟨_, As.name rfl, ?_⟩
    have hk : k < syms.length := (List.getElem?_eq_some_iff.mp hs').1
    have hl := hst_len (syms.take k)
    have hl' : (syms.take k).length ≤ k := by simp; omega
    have e : hst (syms.take (k + 1)) = hstep (hst (syms.take k)) s := by rw [take_next hs', hst, List.foldl_append]; rfl
    simp only [e, hstep]
    by_cases h : 256 ≤ s
    · rw [if_pos h]
      refine Exs.cons (Ex.ift (Tr.of (Ev.fn rfl (f63 s) (by show lv ≤ 9; omega) rfl (Evs.cons (Ev.loc rfl rfl) Evs.nil)) (by rw [show decide (s ≥ 256) = true from decide_eq_true h]; exact Truth.bool)) (Exs.cons (Ex.append rfl Ev.int (by simp; omega) rfl) Exs.nil)) ?_
      refine Exs.nil.post (weak ⟨by simp, rfl, rfl, rfl, trivial⟩)
    · rw [if_neg h]
      refine Exs.cons (Ex.iff (Tr.of (Ev.fn rfl (f63 s) (by show lv ≤ 9; omega) rfl (Evs.cons (Ev.loc rfl rfl) Evs.nil)) (by rw [show decide (s ≥ 256) = false from decide_eq_false h]; exact Truth.bool)) (Exs.cons (Ex.augLast rfl (Ev.un Ev.int Uop.neg) Ev.int Bop.iaddI (by simp; omega) rfl) Exs.nil)) ?_
      refine Exs.nil.post (weak ⟨rfl, rfl, rfl, rfl, trivial⟩)
  refine Exs.cons (Ex.assign (Ev.un (Ev.loc rfl rfl) Uop.neg) rfl) ?_
  refine Exs.cons (Ex.assign (Ev.loc rfl rfl) rfl) ?_
  refine Exs.cons (Ex.assignOwn (EvN.list (Evs.cons (Ev.loc rfl rfl) Evs.nil) (by show 1 ≤ 1000; decide)) rfl) ?_
  rw [show (syms.map D.int).length = syms.length by simp, List.take_length]
  refine Exs.freeze (x := "heaps") (ds := (gaps syms).map .int) (by simp [gaps]; rfl) ?_
  refine Exs.cons (Ex.for (EvIt.listN (ds := (gaps syms).map .int) (Ev.loc rfl rfl)) (fun k => [("run", .own ((runst ((gaps syms).take k) u v).2.2.map .int)), ("earlier", .val (.int (runst ((gaps syms).take k) u v).1)), ("latest", .val (.int (runst ((gaps syms).take k) u v).2.1))]) (weak ⟨rfl, rfl, rfl, trivial⟩) (fun W k d hd => ?_)) ?_
  · obtain ⟨g, hg, rfl⟩ := get_map hd
    refine ⟨_, As.name rfl, ?_⟩
    have hk : k < (gaps syms).length := (List.getElem?_eq_some_iff.mp hg).1
    have hgl := hst_len syms
    have hl := run_len ((gaps syms).take k) u v
    have hl' : ((gaps syms).take k).length ≤ k := by simp; omega
    have hl2 : (gaps syms).length = (hst syms).1.length + 1 := by simp [gaps]
    have e : runst ((gaps syms).take (k + 1)) u v = rstep (runst ((gaps syms).take k) u v) g := by rw [take_next hg, runst, List.foldl_append]; rfl
    simp only [e, rstep]
    have hb := gaps_small syms g (List.mem_of_getElem? hg)
    refine Exs.cons (Ex.assignSwap rfl rfl (Evs.cons (Ev.loc rfl rfl) (Evs.cons (Ev.bin (Ev.bin (Ev.loc rfl rfl) (Ev.loc rfl rfl) (Bop.mul (.inl (by omega)))) (Ev.loc rfl rfl) Bop.sub) Evs.nil))) ?_
    refine Exs.cons (Ex.append rfl (Ev.loc rfl rfl) (by simp; omega) rfl) ?_
    refine Exs.nil.post (weak ⟨by simp, rfl, rfl, trivial⟩)
  rw [show ((gaps syms).map D.int).length = (gaps syms).length by simp, List.take_length]
  refine Exs.freeze (x := "run") rfl ?_
  exact Exs.stop (Ex.ret (Ev.loc rfl rfl)) (fun _ h => nomatch h)
end Mine

-- F3
namespace Mine
open PySem PySem.W PySem.Calls PyProof.Rows PySem.SeqAt

theorem f64 (i : Int) : Fn 64 9 [.int i] (.bool (i == 0)) := by
  refine Fn.of ["x"] rfl rfl (by omega) (fun _ _ _ vs h => by obtain ⟨_, rfl⟩ := len1 h; rfl) (by decide) (fun w A L a cd h₀ mg mb X₀ lv hlv => ?_)
  refine Exs.stop (Ex.ret ?_) (fun _ h => nomatch h)
  exact Ev.cmp (Ev.loc rfl rfl) (Ev.gint (fun k => k.G.em) rfl) Bop.eqI

theorem signs_txt (l : List Nat) : signs (txt l) = l.map fun c => tx [c] := by simp [signs]

theorem f8 (c : Nat) : Fn 8 9 [tx [c]] (.bool (b1s.contains c)) := by
  refine Fn.of ["code"] rfl rfl (by omega) (fun _ _ _ vs h => by obtain ⟨_, rfl⟩ := len1 h; rfl) (by decide) (fun w A L a cd h₀ mg mb X₀ lv hlv => ?_)
  refine Exs.stop (Ex.ret ?_) (fun _ h => nomatch h)
  exact Ev.inB1 (Ev.blt1 (by decide) rfl rfl (Ev.loc rfl rfl) Uop.ord) rfl

/-- the signs of a formula -/
def alph : List Nat := [97, 107, 115, 40, 41, 92, 34, 45, 43, 42, 47, 37, 64, 124, 38, 94, 60, 62, 61]
def bold : List Nat := [119808, 119818, 119826]
def low (c : Nat) : Nat := if c = 119808 then 97 else if c = 119818 then 107 else if c = 119826 then 115 else if c = 65 then 97 else if c = 75 then 107 else if c = 83 then 115 else c
theorem low_lower : ∀ c ∈ alph ++ [65, 75, 83], Txt.lower (txt [c]) = txt [low c] := by
  have : (alph ++ [65, 75, 83]).all (fun c => decide (Txt.lower (txt [c]) = txt [low c])) = true := by kernel_rfl
  intro c hc
  exact of_decide_eq_true (List.all_eq_true.mp this c hc)
theorem low_bold : ∀ c ∈ bold, ((c : Int), txt [low c]) ∈ b3t := by decide

theorem f10 (c : Nat) (hc : c ∈ alph ++ [65, 75, 83] ∨ c ∈ bold) : Fn 10 9 [tx [c]] (tx [low c]) := by
  refine Fn.of ["code"] rfl rfl (by omega) (fun _ _ _ vs h => by obtain ⟨_, rfl⟩ := len1 h; rfl) (by decide) (fun w A L a cd h₀ mg mb X₀ lv hlv => ?_)
  rcases hc with hc | hc
  · have h1 : (c : Int) < 181 := by
      have : ∀ c : Nat, c ∈ alph ++ [65, 75, 83] → c < 181 := by decide
      have := this c hc; omega
    refine Exs.cons (Ex.assign (Ev.getB3 (d := .none) (Ev.blt1 (by decide) rfl rfl (Ev.loc rfl rfl) Uop.ord) rfl (.inr ⟨h1, rfl⟩)) rfl) ?_
    refine Exs.cons (Ex.iff (Tr.cmp (Ev.loc rfl rfl) Ev.none Bop.isNotNoneNone) Exs.nil) ?_
    exact Exs.stop (Ex.ret (Ev.lower (Ev.loc rfl rfl) (by rw [txt_len]; show 1 ≤ 100000; omega) (low_lower c hc))) (fun _ h => nomatch h)
  · refine Exs.cons (Ex.assign (Ev.getB3 (d := tx [low c]) (Ev.blt1 (by decide) rfl rfl (Ev.loc rfl rfl) Uop.ord) rfl (.inl ⟨_, low_bold c hc, rfl⟩)) rfl) ?_
    exact Exs.stop (Ex.ift (Tr.cmp (Ev.loc rfl rfl) Ev.none Bop.isNotNoneStr) (Exs.stop (Ex.ret (Ev.loc rfl rfl)) (fun _ h => nomatch h))) (fun _ h => nomatch h)

/-- six totals -/
def totk (script : List Int) : Nat → List Int
  | 0 => [358, 1435665, 37704, 22, 4, 6]
  | k + 1 => (totk script k).set (k % 6) ((totk script k).getD (k % 6) 0 + script.getD k 0 % 1000000)
theorem totk_len (script : List Int) : ∀ k, (totk script k).length = 6
  | 0 => rfl
  | k + 1 => by rw [totk, List.length_set, totk_len]
theorem totk_pos (script : List Int) : ∀ k, ∀ x ∈ totk script k, 0 ≤ x
  | 0 => by show ∀ x ∈ ([358, 1435665, 37704, 22, 4, 6] : List Int), 0 ≤ x; decide
  | k + 1 => by
    intro x hx
    rw [totk] at hx
    have hg : 0 ≤ (totk script k).getD (k % 6) 0 := by
      rw [List.getD_eq_getElem?_getD]
      cases e : (totk script k)[k % 6]? with
      | none => simp
      | some y => exact totk_pos script k y (List.mem_of_getElem? e)
    have hm : 0 ≤ script.getD k 0 % 1000000 := Int.emod_nonneg _ (by omega)
    rcases List.mem_or_eq_of_mem_set hx with q | q
    · exact totk_pos script k x q
    · omega
def tot (script : List Int) : List Int := totk (script.take 60) (script.take 60).length

theorem f66 (script : List Int) (hn : script.length ≤ 1000) : Fn 66 8 [nums script] (nums (tot script)) := by
  refine Fn.of ["script"] rfl rfl (by omega) (fun _ _ _ vs h => by obtain ⟨_, rfl⟩ := len1 h; rfl) (by decide) (fun w A L a cd h₀ mg mb X₀ lv hlv => ?_)
  refine Exs.cons (Ex.assignOwn (EvN.list (Evs.cons Ev.int (Evs.cons Ev.int (Evs.cons Ev.int (Evs.cons Ev.int (Evs.cons Ev.int (Evs.cons Ev.int Evs.nil)))))) (by decide)) rfl) ?_
  refine Exs.cons (Ex.for (ds := enum ((script.take 60).map .int)) ?_ (fun k => [("totals", .own ((totk (script.take 60) k).map .int))]) (weak ⟨rfl, trivial⟩) (fun W k d hd => ?_)) ?_
  · refine EvIt.enumL rfl ?_
    rw [List.map_take]
    exact Ev.sliceTo (k := 60) (EvL.of (Ev.loc rfl rfl)) Ev.int (by omega) (by simp; omega)
  · have hlen : k < (script.take 60).length := by have := (List.getElem?_eq_some_iff.mp hd).1; rw [enum_length] at this; simpa using this
    have hx : (script.take 60)[k]? = some ((script.take 60)[k]) := List.getElem?_eq_getElem hlen
    have hd2 : ((script.take 60).map D.int)[k]? = some (.int ((script.take 60)[k])) := by rw [List.getElem?_map, hx]; rfl
    obtain rfl := enum_get hd2 hd
    refine ⟨_, As.tup (AsIn.cons (As.name rfl) (AsIn.cons (As.name rfl) AsIn.nil)), ?_⟩
    have hk6 : k % 6 < 6 := Nat.mod_lt _ (by omega)
    have hl := totk_len (script.take 60) k
    have hget : ((totk (script.take 60) k).map D.int)[((k : Int) % 6).toNat]? = some (.int ((totk (script.take 60) k).getD (k % 6) 0)) := by
      rw [List.getElem?_map, show ((k : Int) % 6).toNat = k % 6 by omega, List.getD_eq_getElem?_getD, List.getElem?_eq_getElem (by rw [hl]; exact hk6)]; rfl
    refine Exs.cons (Ex.augItem rfl (Ev.bin (Ev.loc rfl rfl) Ev.int (Bop.mod (by omega))) (Int.emod_nonneg _ (by omega)) hget (Ev.bin (Ev.loc rfl rfl) (Ev.bin Ev.int Ev.int (Bop.pow (n := 6) (by decide) (by omega))) (Bop.mod (by decide))) Bop.iaddI (by simp [hl]) rfl) ?_
    refine Exs.nil.post (weak ⟨?_, trivial⟩)
    show some (B.own _) = some (B.own _)
    rw [totk, List.map_set, show ((k : Int) % 6).toNat = k % 6 by omega]
    rw [List.getD_eq_getElem?_getD (l := script.take 60), hx]
    rfl
  · refine Exs.freeze (x := "totals") rfl ?_
    rw [enum_length, List.length_map]
    exact Exs.stop (Ex.ret (Ev.loc rfl rfl)) (fun _ h => nomatch h)
end Mine

-- F4
namespace Mine
open PySem PySem.W PySem.Calls PyProof.Rows PySem.SeqAt

/-- three places: the first gap, the one between, the last -/
abbrev Corner := Nat × Nat × Nat
abbrev cornD (c : Corner) : D := .tup [.int c.1, .int c.2.1, .int c.2.2]
def wstep (W : List Int) (c : Corner) : List Int := W.set c.2.1 (W.getD c.1 0 + W.getD c.2.2 0)
def wts (cs : List Corner) (u v : Int) : List Int := cs.reverse.foldl wstep ([u] ++ List.replicate cs.length 0 ++ [v])
theorem wstep_len (W : List Int) (c : Corner) : (wstep W c).length = W.length := by simp [wstep]
theorem wfold_len : ∀ (l : List Corner) (W : List Int), (l.foldl wstep W).length = W.length
  | [], _ => rfl
  | c :: l, W => by rw [List.foldl_cons, wfold_len l, wstep_len]
theorem getD_int {W : List Int} {i : Nat} (h : i < W.length) : (W.map D.int)[((i : Int)).toNat]? = some (.int (W.getD i 0)) := by
  rw [List.getElem?_map, Int.toNat_natCast, List.getD_eq_getElem?_getD, List.getElem?_eq_getElem h]; rfl

theorem f68 (cs : List Corner) (u v : Int) (hn : cs.length ≤ 100) (hc : ∀ c ∈ cs, c.1 < cs.length + 2 ∧ c.2.1 < cs.length + 2 ∧ c.2.2 < cs.length + 2) : Fn 68 8 [.lst (cs.map cornD), .int u, .int v] (nums (wts cs u v)) := by
  refine Fn.of ["corners", "u", "v"] rfl rfl (by omega) (fun _ _ _ vs h => by obtain ⟨_, _, _, rfl⟩ := len3 h; rfl) (by decide) (fun w A L a cd h₀ mg mb X₀ lv hlv => ?_)
  refine Exs.cons (Ex.assignOwn (EvN.add (EvN.add (EvL.of (Ev.list (Evs.cons (Ev.loc rfl rfl) Evs.nil) (by show 1 ≤ 1000; decide))) (EvN.rep Ev.int (Ev.lenL rfl (EvL.of (Ev.loc rfl rfl)) (by simp; omega)) (by simp) (by simp; omega)).toL (by simp; omega)).toL (EvL.of (Ev.list (Evs.cons (Ev.loc rfl rfl) Evs.nil) (by show 1 ≤ 1000; decide))) (by simp; omega)) rfl) ?_
  refine Exs.cons (Ex.for (EvIt.listT (Ev.sliceRev (EvL.of (Ev.loc rfl rfl)) (Ev.un Ev.int Uop.neg) (by simp; omega))) (fun k => [("weights", .own (((cs.reverse.take k).foldl wstep ([u] ++ List.replicate cs.length 0 ++ [v])).map .int))]) (weak ⟨by simp, trivial⟩) (fun W k d hd => ?_)) ?_
  · rw [← List.map_reverse] at hd
    obtain ⟨c, hc', rfl⟩ := get_map hd
    have hmem : c ∈ cs := List.mem_reverse.mp (List.mem_of_getElem? hc')
    obtain ⟨h1, h2, h3⟩ := hc c hmem
    refine ⟨_, As.tup (AsIn.cons (As.name rfl) (AsIn.cons (As.name rfl) (AsIn.cons (As.name rfl) AsIn.nil))), ?_⟩
    have hl := wfold_len (cs.reverse.take k) ([u] ++ List.replicate cs.length 0 ++ [v])
    have hl2 : ([u] ++ List.replicate cs.length 0 ++ [v]).length = cs.length + 2 := by simp
    have e : (cs.reverse.take (k + 1)).foldl wstep ([u] ++ List.replicate cs.length 0 ++ [v]) = wstep ((cs.reverse.take k).foldl wstep ([u] ++ List.replicate cs.length 0 ++ [v])) c := by rw [take_next hc', List.foldl_append]; rfl
    rw [e]
    rw [hl2] at hl
    generalize (cs.reverse.take k).foldl wstep ([u] ++ List.replicate cs.length 0 ++ [v]) = V at hl ⊢
    have hl3 : (V.map D.int).length ≤ 1000000 := by rw [List.length_map]; omega
    refine Exs.cons (Ex.setItem rfl (Ev.bin (Ev.subL (EvL.own rfl rfl) (Ev.loc rfl rfl) (by omega) hl3 (getD_int (i := c.1) (by omega))) (Ev.subL (EvL.own rfl rfl) (Ev.loc rfl rfl) (by omega) hl3 (getD_int (i := c.2.2) (by omega))) Bop.add) (Ev.loc rfl rfl) (by omega) (by rw [List.length_map]; omega) hl3 rfl) ?_
    refine Exs.nil.post (weak ⟨?_, trivial⟩)
    show some (B.own _) = some (B.own _)
    rw [wstep, List.map_set]
    rfl
  · refine Exs.freeze (x := "weights") rfl ?_
    rw [List.length_reverse, List.length_map, show cs.reverse.take cs.length = cs.reverse from List.take_of_length_le (by simp)]
    exact Exs.stop (Ex.ret (Ev.loc rfl rfl)) (fun _ h => nomatch h)

/-- a number of the tape -/
def tape1 (number : Int) (k : Nat) (h : Int) : List Int :=
  (if number / 2 ^ k % 4 % 2 = 1 then List.replicate (1 + k % 2) 64 else []) ++ [h + 128 * (number / 2 ^ k % 4 / 2)]
def tapeTo (number : Int) (hs : List Int) : Nat → List Int
  | 0 => []
  | k + 1 => tapeTo number hs k ++ tape1 number k (hs.getD k 0)
def tape (number : Int) (hs : List Int) : List Int := tapeTo number hs hs.length
theorem tape1_len (number : Int) (k : Nat) (h : Int) : (tape1 number k h).length ≤ 3 := by unfold tape1; split <;> simp; omega
theorem tapeTo_len (number : Int) (hs : List Int) : ∀ k, (tapeTo number hs k).length ≤ 3 * k
  | 0 => by simp [tapeTo]
  | k + 1 => by have := tapeTo_len number hs k; have := tape1_len number k (hs.getD k 0); rw [tapeTo, List.length_append]; omega

theorem enumN_get {l : List Int} {k : Nat} {d : D} (hd : (enum (l.map D.int))[k]? = some d) : k < l.length ∧ d = .tup [.int k, .int (l.getD k 0)] := by
  have hlen : k < l.length := by have := (List.getElem?_eq_some_iff.mp hd).1; rw [enum_length] at this; simpa using this
  refine ⟨hlen, ?_⟩
  have hd2 : (l.map D.int)[k]? = some (.int (l.getD k 0)) := by rw [List.getElem?_map, List.getD_eq_getElem?_getD, List.getElem?_eq_getElem hlen]; rfl
  exact enum_get hd2 hd
theorem two_pow_lt {k n : Nat} (h : k < n) : ((2 : Int) ^ k) < 2 ^ n := by
  have := Nat.pow_lt_pow_right (a := 2) (by omega) h
  exact_mod_cast this

theorem f70 (hs : List Int) (number : Int) (hn : hs.length ≤ 20) : Fn 70 8 [nums hs, .int number] (nums (tape number hs)) := by
  refine Fn.of ["heaps", "number"] rfl rfl (by omega) (fun _ _ _ vs h => by obtain ⟨_, _, rfl⟩ := len2 h; rfl) (by decide) (fun w A L a cd h₀ mg mb X₀ lv hlv => ?_)
  refine Exs.cons (Ex.assignOwn (EvN.list Evs.nil (by show 0 ≤ 1000; decide)) rfl) ?_
  refine Exs.cons (Ex.for (EvIt.enumL rfl (Ev.loc rfl rfl)) (fun k => [("tape", .own ((tapeTo number hs k).map .int)), ("number", .val (.int number))]) (weak ⟨rfl, rfl, trivial⟩) (fun W k d hd => ?_)) ?_
  · obtain ⟨hlen, rfl⟩ := enumN_get hd
    refine ⟨_, As.tup (AsIn.cons (As.name rfl) (AsIn.cons (As.name rfl) AsIn.nil)), ?_⟩
    have hl := tapeTo_len number hs k
    refine Exs.cons (Ex.assign (Ev.bin (Ev.bin (Ev.loc rfl rfl) (Ev.bin Ev.int (Ev.loc rfl rfl) (Bop.pow (by decide) (by omega))) (Bop.fdiv (Int.pow_pos (by omega)) (two_pow_lt (by omega)))) Ev.int (Bop.mod (by omega))) rfl) ?_
    by_cases h : number / 2 ^ k % 4 % 2 = 1
    · refine Exs.cons (Ex.ift (Tr.cmp (c := true) (Ev.bin (Ev.loc rfl rfl) Ev.int (Bop.mod (by omega))) Ev.int (by rw [show (true : Bool) = (number / 2 ^ k % 4 % 2 == 1) by rw [h]; rfl]; exact Bop.eqI)) (Exs.cons (Ex.extend rfl (EvN.rep Ev.int (Ev.bin Ev.int (Ev.bin (Ev.loc rfl rfl) Ev.int (Bop.mod (by omega))) Bop.add) (by omega) (by omega)).toE (by simp; omega) rfl) Exs.nil)) ?_
      refine Exs.cons (Ex.append rfl (Ev.bin (Ev.loc rfl rfl) (Ev.bin Ev.int (Ev.bin (Ev.loc rfl rfl) Ev.int (Bop.fdiv (by omega) (by omega))) (Bop.mul (.inl (by decide)))) Bop.add) (by simp; omega) rfl) ?_
      refine Exs.nil.post (weak ⟨?_, rfl, trivial⟩)
      show some (B.own _) = some (B.own _)
      rw [tapeTo, tape1, if_pos h, show ((1 : Int) + (k : Int) % 2).toNat = 1 + k % 2 by omega]
      simp
    · refine Exs.cons (Ex.iff (Tr.cmp (c := false) (Ev.bin (Ev.loc rfl rfl) Ev.int (Bop.mod (by omega))) Ev.int (by rw [show (false : Bool) = (number / 2 ^ k % 4 % 2 == 1) from (beq_eq_false_iff_ne.mpr h).symm]; exact Bop.eqI)) Exs.nil) ?_
      refine Exs.cons (Ex.append rfl (Ev.bin (Ev.loc rfl rfl) (Ev.bin Ev.int (Ev.bin (Ev.loc rfl rfl) Ev.int (Bop.fdiv (by omega) (by omega))) (Bop.mul (.inl (by decide)))) Bop.add) (by simp; omega) rfl) ?_
      refine Exs.nil.post (weak ⟨?_, rfl, trivial⟩)
      show some (B.own _) = some (B.own _)
      rw [tapeTo, tape1, if_neg h]
      simp
  · refine Exs.freeze (x := "tape") rfl ?_
    rw [enum_length, List.length_map]
    exact Exs.stop (Ex.ret (Ev.loc rfl rfl)) (fun _ h => nomatch h)

/-- units beside the places of their last signs -/
def placeTo (us : List (List Nat)) : Nat → Int
  | 0 => -1
  | k + 1 => placeTo us k + (us.getD k []).length
def placed (us : List (List Nat)) (k : Nat) : List D := (List.range k).map fun j => .tup [.int (placeTo us (j + 1)), tx (us.getD j [])]

theorem f72 (us : List (List Nat)) (hn : us.length ≤ 1000) (hu : ∀ x ∈ us, x.length ≤ 1000) : Fn 72 8 [.lst (us.map tx)] (.lst (placed us us.length)) := by
  refine Fn.of ["units"] rfl rfl (by omega) (fun _ _ _ vs h => by obtain ⟨_, rfl⟩ := len1 h; rfl) (by decide) (fun w A L a cd h₀ mg mb X₀ lv hlv => ?_)
  refine Exs.cons (Ex.assignOwn (EvN.list Evs.nil (by show 0 ≤ 1000; decide)) rfl) ?_
  refine Exs.cons (Ex.assign (Ev.un Ev.int Uop.neg) rfl) ?_
  refine Exs.cons (Ex.for (EvIt.listN (Ev.loc rfl rfl)) (fun k => [("placed", .own (placed us k)), ("place", .val (.int (placeTo us k)))]) (weak ⟨rfl, rfl, trivial⟩) (fun W k d hd => ?_)) ?_
  · obtain ⟨x, hx, rfl⟩ := get_map hd
    have hk : k < us.length := (List.getElem?_eq_some_iff.mp hx).1
    have hg : us.getD k [] = x := by rw [List.getD_eq_getElem?_getD, hx]; rfl
    have hxl := hu x (List.mem_of_getElem? hx)
    refine ⟨_, As.name rfl, ?_⟩
    refine Exs.cons (Ex.aug rfl (Ev.blt1 (by decide) rfl rfl (Ev.loc rfl rfl) (Uop.len (by rw [txt_len]; omega))) Bop.iaddI rfl) ?_
    refine Exs.cons (Ex.append rfl (Ev.tuple (Evs.cons (Ev.loc rfl rfl) (Evs.cons (Ev.loc rfl rfl) Evs.nil)) (by show 2 ≤ 1000; decide)) (by simp [placed]; omega) rfl) ?_
    refine Exs.nil.post (weak ⟨?_, ?_, trivial⟩)
    · show some (B.own _) = some (B.own _)
      rw [placed, placed, List.range_succ, List.map_append, List.map_singleton, placeTo, hg, txt_len]
    · show some (B.val _) = some (B.val _)
      rw [placeTo, hg, txt_len]
  · refine Exs.freeze (x := "placed") rfl ?_
    rw [List.length_map]
    exact Exs.stop (Ex.ret (Ev.loc rfl rfl)) (fun _ h => nomatch h)

/-- one sign spelled -/
def b1p : List Nat := [173, 847, 6155, 8203, 8205, 8288, 65024, 65039, 65279]
def spell1 (number : Int) (k : Nat) (c : Nat) : List Nat :=
  (if number / 2 ^ (k % 16) % 4 = 1 then [b1p.getD (k % 9) 0] else []) ++
  (if number / 2 ^ (k % 16) % 4 < 2 ∨ ¬ [97, 107, 115].contains c then [c] else if number / 2 ^ (k % 16) % 4 = 2 then [c - 32] else [c + 119711])
def spellTo (number : Int) (l : List Nat) : Nat → List Nat
  | 0 => []
  | k + 1 => spellTo number l k ++ spell1 number k (l.getD k 0)
theorem spell1_len (number : Int) (k : Nat) (c : Nat) : (spell1 number k c).length ≤ 2 := by unfold spell1; split <;> split <;> simp; all_goals split <;> simp
theorem spellTo_len (number : Int) (l : List Nat) : ∀ k, (spellTo number l k).length ≤ 2 * k
  | 0 => by simp [spellTo]
  | k + 1 => by have := spellTo_len number l k; have := spell1_len number k (l.getD k 0); rw [spellTo, List.length_append]; omega
theorem aks_in : ∀ c ∈ alph, Txt.contains (Str.ofString "aks") (txt [c]) = [97, 107, 115].contains c := by decide +kernel

theorem enumS_get {l : List Nat} {k : Nat} {d : D} (hd : (enum (signs (txt l)))[k]? = some d) : k < l.length ∧ d = .tup [.int k, tx [l.getD k 0]] := by
  rw [signs_txt] at hd
  have hlen : k < l.length := by have := (List.getElem?_eq_some_iff.mp hd).1; rw [enum_length] at this; simpa using this
  refine ⟨hlen, ?_⟩
  have hd2 : (l.map fun c => tx [c])[k]? = some (tx [l.getD k 0]) := by rw [List.getElem?_map, List.getD_eq_getElem?_getD, List.getElem?_eq_getElem hlen]; rfl
  exact enum_get hd2 hd

abbrev b1D : List D := [.int 173, .int 847, .int 6155, .int 8203, .int 8205, .int 8288, .int 65024, .int 65039, .int 65279]
theorem b1p_get (k : Nat) : (b1D[((k : Int) % 9).toNat]? = some (.int ((b1p.getD (k % 9) 0 : Nat) : Int))) ∧ b1p.getD (k % 9) 0 ≤ 1114111 := by
  rw [show ((k : Int) % 9).toNat = k % 9 by omega]
  have : ∀ j, j < 9 → (b1D[j]? = some (.int ((b1p.getD j 0 : Nat) : Int))) ∧ b1p.getD j 0 ≤ 1114111 := by
    intro j hj
    match j, hj with
    | 0, _ => exact ⟨rfl, by decide⟩
    | 1, _ => exact ⟨rfl, by decide⟩
    | 2, _ => exact ⟨rfl, by decide⟩
    | 3, _ => exact ⟨rfl, by decide⟩
    | 4, _ => exact ⟨rfl, by decide⟩
    | 5, _ => exact ⟨rfl, by decide⟩
    | 6, _ => exact ⟨rfl, by decide⟩
    | 7, _ => exact ⟨rfl, by decide⟩
    | 8, _ => exact ⟨rfl, by decide⟩
  exact this _ (Nat.mod_lt _ (by omega))

set_option maxHeartbeats 1000000 in
theorem f69 (l : List Nat) (number : Int) (hn : l.length ≤ 1000) (hl : ∀ c ∈ l, c ∈ alph) : Fn 69 8 [tx l, .int number] (tx (spellTo number l l.length)) := by
  refine Fn.of ["plain", "number"] rfl rfl (by omega) (fun _ _ _ vs h => by obtain ⟨_, _, rfl⟩ := len2 h; rfl) (by decide) (fun w A L a cd h₀ mg mb X₀ lv hlv => ?_)
  refine Exs.cons (Ex.assign Ev.str rfl) ?_
  refine Exs.cons (Ex.for (EvIt.enumS rfl (Ev.loc rfl rfl)) (fun k => [("spelled", .val (tx (spellTo number l k))), ("number", .val (.int number))]) (weak ⟨rfl, rfl, trivial⟩) (fun W k d hd => ?_)) ?_
  · obtain ⟨hlen, rfl⟩ := enumS_get hd
    refine ⟨_, As.tup (AsIn.cons (As.name rfl) (AsIn.cons (As.name rfl) AsIn.nil)), ?_⟩
    have hsl := spellTo_len number l k
    have hc : l.getD k 0 ∈ alph := hl _ (by rw [List.getD_eq_getElem?_getD, List.getElem?_eq_getElem hlen]; exact List.getElem_mem hlen)
    have hb := b1p_get k
    have haks := aks_in _ hc
    have hcs : ∀ c ∈ alph, 32 ≤ c ∧ c ≤ 126 := by decide
    have hcs := hcs _ hc
    refine Exs.cons (Ex.assign (d := .int (number / 2 ^ (k % 16) % 4)) (Ev.bin (Ev.bin (Ev.loc rfl rfl) (Ev.bin Ev.int (Ev.bin (Ev.loc rfl rfl) Ev.int (Bop.mod (by omega))) (by rw [show ((k : Int) % 16) = ((k % 16 : Nat) : Int) by omega]; exact Bop.pow (by decide) (by omega))) (Bop.fdiv (Int.pow_pos (by omega)) (two_pow_lt (by omega)))) Ev.int (Bop.mod (by omega))) rfl) ?_
    rw [spellTo]
    generalize l.getD k 0 = c at hc haks hcs ⊢
    generalize hS : spellTo number l k = S at hsl ⊢
    generalize hT : number / 2 ^ (k % 16) % 4 = T
    generalize hk9 : b1p.getD (k % 9) 0 = p at hb
    refine Exs.cons (Γ' := [("spelled", .val (tx (S ++ if T = 1 then [p] else []))), ("sign", .val (tx [c])), ("turn", .val (.int T)), ("number", .val (.int number))]) ?_ ?_
    · by_cases h : T = 1
      · refine Ex.post (Ex.ift (Tr.cmp (c := true) (Ev.loc rfl rfl) Ev.int (by rw [show (true : Bool) = (T == 1) by rw [h]; rfl]; exact Bop.eqI)) (Exs.cons (Ex.aug rfl (Ev.blt1 (by decide) rfl rfl (Ev.subT (ds := b1D) (Ev.tuple (Evs.cons Ev.int (Evs.cons Ev.int (Evs.cons Ev.int (Evs.cons Ev.int (Evs.cons Ev.int (Evs.cons Ev.int (Evs.cons Ev.int (Evs.cons Ev.int (Evs.cons Ev.int Evs.nil))))))))) (by decide)) (Ev.bin (Ev.loc rfl rfl) Ev.int (Bop.mod (by omega))) (Int.emod_nonneg _ (by omega)) (by decide) hb.1) (Uop.chr (by omega) (by omega))) (Bop.iaddS (by rw [txt_len]; show S.length + 1 ≤ _; omega)) rfl) Exs.nil)) (weak ⟨?_, rfl, rfl, rfl, trivial⟩)
        show some (B.val (D.str _)) = some (B.val (D.str _))
        rw [if_pos h, ← txt_app]; rfl
      · refine Ex.post (Ex.iff (Tr.cmp (c := false) (Ev.loc rfl rfl) Ev.int (by rw [show (false : Bool) = (T == 1) from (beq_eq_false_iff_ne.mpr h).symm]; exact Bop.eqI)) Exs.nil) (weak ⟨?_, rfl, rfl, rfl, trivial⟩)
        rw [if_neg h, List.append_nil]; rfl
    have hS' : (S ++ if T = 1 then [p] else []).length ≤ 10000 := by split <;> simp <;> omega
    have e : S ++ spell1 number k c = (S ++ if T = 1 then [p] else []) ++ (if T < 2 ∨ ¬ [97, 107, 115].contains c then [c] else if T = 2 then [c - 32] else [c + 119711]) := by
      rw [spell1, hT, hk9, List.append_assoc]
    rw [e]
    generalize (S ++ if T = 1 then [p] else []) = S' at hS'
    by_cases h : T < 2
    · refine Exs.cons (Ex.ift (Tr.or_true (Tr.cmp (c := true) (Ev.loc rfl rfl) Ev.int (by rw [← show decide (T < 2) = true from decide_eq_true h]; exact Bop.lt))) (Exs.cons (Ex.aug rfl (Ev.loc rfl rfl) (Bop.iaddS (by rw [txt_len]; show S'.length + 1 ≤ _; omega)) rfl) Exs.nil)) ?_
      refine Exs.nil.post (weak ⟨?_, rfl, trivial⟩)
      show some (B.val (D.str _)) = some (B.val (D.str _))
      rw [if_pos (.inl h), ← txt_app]
    · by_cases h2 : [97, 107, 115].contains c = true
      · by_cases h3 : T = 2
        · refine Exs.cons (Ex.iff (Tr.or_false (Tr.cmp (c := false) (Ev.loc rfl rfl) Ev.int (by rw [← show decide (T < 2) = false from decide_eq_false h]; exact Bop.lt)) (Tr.or_false (Tr.cmp (c := false) (Ev.loc rfl rfl) Ev.str (by rw [show false = !Txt.contains (Str.ofString "aks") (txt [c]) by rw [haks, h2]; rfl]; exact Bop.notInS)) Tr.or_nil))
            (Exs.cons (Ex.ift (Tr.cmp (c := true) (Ev.loc rfl rfl) Ev.int (by rw [show (true : Bool) = (T == 2) by rw [h3]; rfl]; exact Bop.eqI)) (Exs.cons (Ex.aug rfl (Ev.blt1 (by decide) rfl rfl (Ev.bin (Ev.blt1 (by decide) rfl rfl (Ev.loc rfl rfl) Uop.ord) Ev.int Bop.sub) (Uop.chr (by omega) (by omega))) (Bop.iaddS (by rw [txt_len]; show S'.length + 1 ≤ _; omega)) rfl) Exs.nil)) Exs.nil)) ?_
          refine Exs.nil.post (weak ⟨?_, rfl, trivial⟩)
          show some (B.val (D.str _)) = some (B.val (D.str _))
          rw [if_neg (fun q => q.elim h fun z => z h2), if_pos h3, ← txt_app, show c - 32 = ((c : Int) - 32).toNat by omega]
        · refine Exs.cons (Ex.iff (Tr.or_false (Tr.cmp (c := false) (Ev.loc rfl rfl) Ev.int (by rw [← show decide (T < 2) = false from decide_eq_false h]; exact Bop.lt)) (Tr.or_false (Tr.cmp (c := false) (Ev.loc rfl rfl) Ev.str (by rw [show false = !Txt.contains (Str.ofString "aks") (txt [c]) by rw [haks, h2]; rfl]; exact Bop.notInS)) Tr.or_nil))
            (Exs.cons (Ex.iff (Tr.cmp (c := false) (Ev.loc rfl rfl) Ev.int (by rw [show (false : Bool) = (T == 2) from (beq_eq_false_iff_ne.mpr h3).symm]; exact Bop.eqI)) (Exs.cons (Ex.aug rfl (Ev.blt1 (by decide) rfl rfl (Ev.bin (Ev.blt1 (by decide) rfl rfl (Ev.loc rfl rfl) Uop.ord) Ev.int Bop.add) (Uop.chr (by omega) (by omega))) (Bop.iaddS (by rw [txt_len]; show S'.length + 1 ≤ _; omega)) rfl) Exs.nil)) Exs.nil)) ?_
          refine Exs.nil.post (weak ⟨?_, rfl, trivial⟩)
          show some (B.val (D.str _)) = some (B.val (D.str _))
          rw [if_neg (fun q => q.elim h fun z => z h2), if_neg h3, ← txt_app, show c + 119711 = ((c : Int) + 119711).toNat by omega]
      · refine Exs.cons (Ex.ift (Tr.or_false (Tr.cmp (c := false) (Ev.loc rfl rfl) Ev.int (by rw [← show decide (T < 2) = false from decide_eq_false h]; exact Bop.lt)) (Tr.or_true (Tr.cmp (c := true) (Ev.loc rfl rfl) Ev.str (by rw [show true = !Txt.contains (Str.ofString "aks") (txt [c]) by rw [haks, Bool.eq_false_iff.mpr h2]; rfl]; exact Bop.notInS)))) (Exs.cons (Ex.aug rfl (Ev.loc rfl rfl) (Bop.iaddS (by rw [txt_len]; show S'.length + 1 ≤ _; omega)) rfl) Exs.nil)) ?_
        refine Exs.nil.post (weak ⟨?_, rfl, trivial⟩)
        show some (B.val (D.str _)) = some (B.val (D.str _))
        rw [if_pos (.inr h2), ← txt_app]
  · rw [enum_length, signs_txt, List.length_map]
    exact Exs.stop (Ex.ret (Ev.loc rfl rfl)) (fun _ h => nomatch h)
end Mine

-- P1
namespace Mine

/-- a formula -/
inductive T where
  | leaf (x : List Nat)
  | node (l : T) (m : Nat) (r : T)

namespace T
def text : T → List Nat
  | leaf x => x
  | node l m r => 40 :: (l.text ++ [m] ++ r.text ++ [41])
def units : T → List (List Nat)
  | leaf x => [x]
  | node l m r => [40] :: (l.units ++ [[m]] ++ r.units ++ [[41]])
def n : T → Nat
  | leaf _ => 1
  | node l _ r => l.n + r.n
def leaves : T → List (List Nat)
  | leaf x => [x]
  | node l _ r => l.leaves ++ r.leaves
def marks : T → List Nat
  | leaf _ => []
  | node l m r => l.marks ++ [m] ++ r.marks
/-- what lies in the first gap, the ones between, the last -/
def f : T → Int
  | leaf _ => 0
  | node l _ _ => l.f + 1
def la : T → Int
  | leaf _ => 0
  | node _ _ r => r.la + 1
def mid : T → List Int
  | leaf _ => []
  | node l _ r => l.mid ++ [l.la + 1 + r.f] ++ r.mid
def wm : T → Int → Int → List Int
  | leaf _, _, _ => []
  | node l _ r, u, v => l.wm u (u + v) ++ [u + v] ++ r.wm (u + v) v
theorem n_pos : ∀ t : T, 0 < t.n
  | leaf _ => Nat.one_pos
  | node l _ r => Nat.lt_of_lt_of_le l.n_pos (Nat.le_add_right _ _)
theorem mid_len : ∀ t : T, t.mid.length + 1 = t.n
  | leaf _ => rfl
  | node l _ r => by have := mid_len l; have := mid_len r; simp [mid, n]; omega
theorem wm_len : ∀ (t : T) u v, (t.wm u v).length + 1 = t.n
  | leaf _, _, _ => rfl
  | node l _ r, u, v => by have := wm_len l u (u + v); have := wm_len r (u + v) v; simp [wm, n]; omega
theorem leaves_len : ∀ t : T, t.leaves.length = t.n
  | leaf _ => rfl
  | node l _ r => by simp [leaves, n, leaves_len l, leaves_len r]
theorem marks_len : ∀ t : T, t.marks.length + 1 = t.n
  | leaf _ => rfl
  | node l _ r => by have := marks_len l; have := marks_len r; simp [marks, n]; omega
theorem f_pos : ∀ t : T, 0 ≤ t.f
  | leaf _ => Int.le_refl _
  | node l _ _ => by have := f_pos l; simp [f]; omega
theorem la_pos : ∀ t : T, 0 ≤ t.la
  | leaf _ => Int.le_refl _
  | node _ _ r => by have := la_pos r; simp [la]; omega

/-- the frieze: from (e, u), with a more ahead in the first gap -/
theorem frieze : ∀ (t : T) (u v a e : Int) (R : List Int), a * u - e = v →
    ((t.f + a) :: t.mid).foldl rstep (e, u, R) = (t.la * v + u, v, R ++ t.wm u v ++ [v])
  | leaf _, u, v, a, e, R, h => by
    simp [f, mid, rstep, la, wm, h]
  | node l m r, u, v, a, e, R, h => by
    have h1 := frieze l u (u + v) (a + 1) e R (by rw [Int.add_mul]; omega)
    have h2 := frieze r (u + v) v (l.la + 1) (l.la * (u + v) + u) (R ++ l.wm u (u + v) ++ [u + v]) (by rw [Int.add_mul]; omega)
    have e1 : (node l m r).f + a = l.f + (a + 1) := by simp [f]; omega
    have e2 : (node l m r).mid = l.mid ++ ((r.f + (l.la + 1)) :: r.mid) := by simp [mid]; omega
    rw [e1, e2, ← List.cons_append, List.foldl_append, h1, h2]
    simp [la, wm, Int.add_mul]; omega
end T

/-- a gap's count, all gaps -/
def T.gl (t : T) : List Int := t.f :: t.mid ++ [t.la]
theorem T.run (t : T) (u v : Int) : (runst t.gl u v).2.2 = u :: t.wm u v ++ [v, -u] := by
  have := T.frieze t u v 0 (-v) [u] (by omega)
  rw [Int.add_zero] at this
  unfold runst T.gl
  rw [List.foldl_append, this]
  simp [rstep]; omega

/-- several formulas, side by side -/
def hs (c : Int) : List T → List Int
  | [] => [c]
  | t :: ts => (c + t.f) :: t.mid ++ hs t.la ts
def sz : List T → Nat
  | [] => 0
  | t :: ts => t.n + sz ts
theorem sz_app : ∀ (a b : List T), sz (a ++ b) = sz a + sz b
  | [], b => by simp [sz]
  | t :: a, b => by simp [sz, sz_app a b]; omega
theorem hs_len : ∀ (F : List T) (c : Int), (hs c F).length = sz F + 1
  | [], c => rfl
  | t :: F, c => by have := hs_len F t.la; have := t.mid_len; simp [hs, sz]; omega
def bump (h : List Int) (i : Nat) : List Int := h.set i (h.getD i 0 + 1)
theorem bump_len (h : List Int) (i : Nat) : (bump h i).length = h.length := by simp [bump]
theorem bump_app (a b : List Int) (i : Nat) : bump (a ++ b) (a.length + i) = a ++ bump b i := by
  unfold bump
  rw [List.set_append_right _ _ (by omega), List.getD_eq_getElem?_getD, List.getElem?_append_right (by omega), List.getD_eq_getElem?_getD]
  simp
theorem bump_zero (x : Int) (b : List Int) : bump (x :: b) 0 = (x + 1) :: b := by simp [bump]
theorem hs_bump : ∀ (F : List T) (c : Int), bump (hs c F) 0 = hs (c + 1) F
  | [], c => by simp [hs, bump_zero]
  | t :: F, c => by simp [hs, bump_zero]; omega
theorem bump_at (a : List Int) (b : List Int) {i : Nat} (h : i = a.length) : bump (a ++ b) i = a ++ bump b 0 := by
  have := bump_app a b 0
  rw [h]; simpa using this

theorem hs_app : ∀ (A B : List T) (c : Int), ∃ (P : List Int) (d : Int), P.length = sz A ∧ ∀ B, hs c (A ++ B) = P ++ hs d B
  | [], B, c => ⟨[], c, rfl, fun _ => rfl⟩
  | t :: A, B, c => by
    obtain ⟨P, d, h1, h2⟩ := hs_app A B t.la
    refine ⟨(c + t.f) :: t.mid ++ P, d, ?_, fun B => ?_⟩
    · have := t.mid_len; simp [sz]; omega
    · simp [hs, h2]
theorem hs_merge (A B : List T) (l r : T) (m : Nat) (c : Int) :
    hs c (A ++ T.node l m r :: B) = bump (bump (bump (hs c (A ++ l :: r :: B)) (sz A)) (sz A + l.n)) (sz A + l.n + r.n) := by
  obtain ⟨P, d, hP, h⟩ := hs_app A B c
  rw [h, h, bump_at P _ hP.symm]
  have hl := l.mid_len
  have hr := r.mid_len
  simp only [hs, List.cons_append, bump_zero]
  rw [show P ++ ((d + l.f + 1) :: (l.mid ++ (l.la + r.f) :: (r.mid ++ hs r.la B))) = (P ++ (d + l.f + 1) :: l.mid) ++ ((l.la + r.f) :: (r.mid ++ hs r.la B)) by simp]
  rw [bump_at _ _ (by simp; omega), bump_zero]
  rw [show (P ++ (d + l.f + 1) :: l.mid) ++ ((l.la + r.f + 1) :: (r.mid ++ hs r.la B)) = (P ++ (d + l.f + 1) :: l.mid ++ (l.la + r.f + 1) :: r.mid) ++ hs r.la B by simp]
  rw [bump_at _ _ (by simp; omega), hs_bump]
  simp [T.f, T.mid, T.la]
  omega

/-- the parts as the code holds them -/
def lay (p : Nat) : List T → List (Nat × List Nat × Nat)
  | [] => []
  | t :: ts => (p, t.text, p + t.n) :: lay (p + t.n) ts
theorem lay_app : ∀ (A B : List T) (p : Nat), lay p (A ++ B) = lay p A ++ lay (p + sz A) B
  | [], B, p => by simp [lay, sz]
  | t :: A, B, p => by simp [lay, sz, lay_app A B, Nat.add_assoc]
theorem lay_len : ∀ (F : List T) (p : Nat), (lay p F).length = F.length
  | [], _ => rfl
  | t :: F, p => by simp [lay, lay_len F]

/-- the weights between the parts' ends -/
def fill (V : List Int) (p : Nat) : List T → List Int
  | [] => []
  | t :: ts => t.wm (V.getD p 0) (V.getD (p + t.n) 0) ++ [V.getD (p + t.n) 0] ++ fill V (p + t.n) ts
theorem fill_congr {V V' : List Int} : ∀ (F : List T) (p : Nat), (∀ q, p ≤ q → V.getD q 0 = V'.getD q 0) → fill V p F = fill V' p F
  | [], _, _ => rfl
  | t :: F, p, h => by rw [fill, fill, h p (Nat.le_refl _), h (p + t.n) (by omega), fill_congr F (p + t.n) fun q hq => h q (by omega)]
theorem getD_set_ne {V : List Int} {i j : Nat} {x : Int} (h : i ≠ j) : (V.set i x).getD j 0 = V.getD j 0 := by
  rw [List.getD_eq_getElem?_getD, List.getElem?_set_ne h, ← List.getD_eq_getElem?_getD]
theorem getD_set_eq {V : List Int} {i : Nat} {x : Int} (h : i < V.length) : (V.set i x).getD i 0 = x := by
  rw [List.getD_eq_getElem?_getD, List.getElem?_set_self h]; rfl
theorem fill_merge : ∀ (A B : List T) (l r : T) (m : Nat) (V : List Int) (p : Nat), p + sz A + l.n < V.length →
    fill V p (A ++ T.node l m r :: B) = fill (V.set (p + sz A + l.n) (V.getD (p + sz A) 0 + V.getD (p + sz A + l.n + r.n) 0)) p (A ++ l :: r :: B)
  | [], B, l, r, m, V, p, h => by
    have hl := l.n_pos
    have hr := r.n_pos
    simp only [sz, Nat.add_zero] at h ⊢
    simp only [List.nil_append, fill, T.n, T.wm]
    rw [getD_set_ne (by omega), getD_set_eq h, getD_set_ne (by omega)]
    rw [fill_congr (V := V.set _ _) (V' := V) B (p + l.n + r.n) fun q hq => getD_set_ne (by omega)]
    simp [Nat.add_assoc]
  | t :: A, B, l, r, m, V, p, h => by
    have hl := l.n_pos
    have hr := r.n_pos
    have ht := t.n_pos
    simp only [sz] at h ⊢
    have e1 : p + (t.n + sz A) = p + t.n + sz A := by omega
    rw [e1] at h ⊢
    simp only [List.cons_append, fill]
    rw [fill_merge A B l r m V (p + t.n) h, getD_set_ne (by omega), getD_set_ne (by omega)]
theorem fill_leaves : ∀ (xs : List (List Nat)) (V : List Int) (p : Nat), V.length = p + xs.length + 1 → V.getD p 0 :: fill V p (xs.map T.leaf) = V.drop p
  | [], V, p, h => by
    simp at h
    rw [List.map_nil, fill, List.drop_eq_getElem_cons (by omega), List.getD_eq_getElem?_getD, List.getElem?_eq_getElem (by omega), List.drop_eq_nil_of_le (by omega)]
    rfl
  | x :: xs, V, p, h => by
    simp at h
    have ih := fill_leaves xs V (p + 1) (by omega)
    rw [List.map_cons, fill, T.wm, T.n, List.nil_append, List.singleton_append, ih, List.drop_eq_getElem_cons (i := p) (by omega), List.getD_eq_getElem?_getD, List.getElem?_eq_getElem (by omega)]
    rfl
end Mine

-- P2
namespace Mine

def pool : List (List Nat) := [[97], [107], [92, 40], [115], [92, 41], [92, 34], [92, 92], [92, 45]]
def ops : List Nat := [43, 45, 42, 47, 37, 64, 124, 38, 94, 60, 62, 61]
def T.Ok : T → Prop
  | .leaf x => x ∈ pool
  | .node l m r => l.Ok ∧ m ∈ ops ∧ r.Ok
theorem pool_len : ∀ x ∈ pool, 1 ≤ x.length ∧ x.length ≤ 2 := by decide
theorem T.text_len : ∀ t : T, t.Ok → t.text.length + 3 ≤ 5 * t.n
  | .leaf x, h => by have := pool_len x h; simp [T.text, T.n]; omega
  | .node l m r, h => by have := text_len l h.1; have := text_len r h.2.2; simp [T.text, T.n]; omega
theorem pool_alph : ∀ x ∈ pool, ∀ c ∈ x, c ∈ alph := by decide
theorem ops_alph : ∀ c ∈ ops, c ∈ alph := by decide
theorem T.text_alph : ∀ t : T, t.Ok → ∀ c ∈ t.text, c ∈ alph
  | .leaf x, h, c, hc => pool_alph x h c hc
  | .node l m r, h, c, hc => by
    simp only [T.text, List.mem_cons, List.mem_append, List.mem_singleton, List.not_mem_nil, or_false] at hc
    rcases hc with rfl | ((hc | rfl) | hc) | rfl
    · decide
    · exact text_alph l h.1 c hc
    · exact ops_alph c h.2.1
    · exact text_alph r h.2.2 c hc
    · decide

abbrev FS3 := List T × Int × List Corner
def stepF (marks : List Nat) (S : FS3) : FS3 :=
  match S.1.drop (S.2.1 % ((S.1.length - 1 : Nat) : Int)).toNat with
  | l :: r :: B =>
    let A := S.1.take (S.2.1 % ((S.1.length - 1 : Nat) : Int)).toNat
    (A ++ T.node l (marks.getD (sz A + l.n - 1) 0) r :: B, S.2.1 / ((S.1.length - 1 : Nat) : Int), S.2.2 ++ [(sz A, sz A + l.n, sz A + l.n + r.n)])
  | _ => S

/-- one merging, told -/
theorem stepF_eq (marks : List Nat) (S : FS3) (h : 2 ≤ S.1.length) : ∃ A l r B, S.1 = A ++ l :: r :: B ∧ ((A.length : Nat) : Int) = S.2.1 % ((S.1.length - 1 : Nat) : Int) ∧
    stepF marks S = (A ++ T.node l (marks.getD (sz A + l.n - 1) 0) r :: B, S.2.1 / ((S.1.length - 1 : Nat) : Int), S.2.2 ++ [(sz A, sz A + l.n, sz A + l.n + r.n)]) := by
  obtain ⟨F, p, cs⟩ := S
  simp only at h ⊢
  have h0 : 0 ≤ p % ((F.length - 1 : Nat) : Int) := Int.emod_nonneg _ (by omega)
  have h1 : p % ((F.length - 1 : Nat) : Int) < ((F.length - 1 : Nat) : Int) := Int.emod_lt_of_pos _ (by omega)
  obtain ⟨k, hk⟩ := Int.eq_ofNat_of_zero_le h0
  unfold stepF
  simp only [hk, Int.toNat_natCast]
  rw [hk] at h1
  have hk1 : k + 1 < F.length := by omega
  have e : F.drop k = F[k] :: F[k + 1] :: F.drop (k + 2) := by
    rw [List.drop_eq_getElem_cons (by omega), List.drop_eq_getElem_cons (by omega)]
  refine ⟨F.take k, F[k], F[k + 1], F.drop (k + 2), ?_, ?_, ?_⟩
  · rw [← e, List.take_append_drop]
  · rw [List.length_take]; omega
  · rw [e]

def stF (things : List (List Nat)) (marks : List Nat) (pick : Int) : Nat → FS3
  | 0 => (things.map T.leaf, pick, [])
  | j + 1 => stepF marks (stF things marks pick j)

structure InvF (N j : Nat) (S : FS3) : Prop where
  len : S.1.length + j = N
  size : sz S.1 = N
  ok : ∀ t ∈ S.1, t.Ok
  cl : S.2.2.length = j
  cb : ∀ c ∈ S.2.2, c.1 < c.2.1 ∧ c.2.1 < c.2.2 ∧ c.2.2 ≤ N
  w : ∀ V : List Int, V.length = N + 1 → S.2.2.reverse.foldl wstep V = V.getD 0 0 :: fill V 0 S.1

theorem stepF_inv {N j : Nat} {S : FS3} {marks : List Nat} (hm : marks.length + 1 = N) (hmk : ∀ m ∈ marks, m ∈ ops) (I : InvF N j S) (h : 2 ≤ S.1.length) : InvF N (j + 1) (stepF marks S) := by
  obtain ⟨A, l, r, B, e, hA, e'⟩ := stepF_eq marks S h
  have hl := l.n_pos
  have hr := r.n_pos
  have hsz : sz A + l.n + r.n + sz B = N := by rw [← I.size, e, sz_app]; simp [sz]; omega
  rw [e']
  refine ⟨?_, ?_, fun t ht => ?_, ?_, fun c hc => ?_, fun V hV => ?_⟩
  · have := I.len; rw [e] at this; simp at this ⊢; omega
  · show sz (A ++ T.node l _ r :: B) = N
    rw [sz_app]; simp only [sz, T.n]; omega
  · rcases List.mem_append.mp ht with q | q
    · exact I.ok t (by rw [e]; exact List.mem_append_left _ q)
    · rcases List.mem_cons.mp q with q | q
      · rw [q]
        refine ⟨I.ok l (by rw [e]; simp), ?_, I.ok r (by rw [e]; simp)⟩
        rw [List.getD_eq_getElem?_getD, List.getElem?_eq_getElem (by omega)]
        exact hmk _ (List.getElem_mem _)
      · exact I.ok t (by rw [e]; simp [q])
  · simp [I.cl]
  · rcases List.mem_append.mp hc with q | q
    · exact I.cb c q
    · rw [List.mem_singleton.mp q]; simp; omega
  · show (S.2.2 ++ [_]).reverse.foldl wstep V = _
    rw [List.reverse_append, List.reverse_singleton, List.singleton_append, List.foldl_cons]
    rw [I.w _ (by rw [wstep_len]; exact hV), e]
    have := fill_merge A B l r (marks.getD (sz A + l.n - 1) 0) V 0 (by omega)
    rw [Nat.zero_add] at this
    simp only [wstep]
    rw [this, getD_set_ne (by omega)]

theorem stF_inv {things : List (List Nat)} {marks : List Nat} {pick : Int} (hm : marks.length + 1 = things.length) (hmk : ∀ m ∈ marks, m ∈ ops) (hth : ∀ x ∈ things, x ∈ pool) : ∀ j, j < things.length → InvF things.length j (stF things marks pick j)
  | 0, _ => by
    refine ⟨by simp [stF], ?_, fun t ht => ?_, rfl, (fun c hc => nomatch hc), fun V hV => ?_⟩
    · show sz (things.map T.leaf) = _
      have : ∀ xs : List (List Nat), sz (xs.map T.leaf) = xs.length := by
        intro xs
        induction xs with
        | nil => rfl
        | cons x xs ih => simp [sz, T.n, ih]; omega
      exact this things
    · obtain ⟨x, hx, rfl⟩ := List.mem_map.mp ht; exact hth x hx
    · show V = V.getD 0 0 :: fill V 0 (things.map T.leaf)
      rw [fill_leaves things V 0 (by omega)]; rfl
  | j + 1, h => by
    have I := stF_inv (pick := pick) hm hmk hth j (by omega)
    exact stepF_inv hm hmk I (by have := I.len; omega)

/-- the end of all merging -/
theorem stF_end {things : List (List Nat)} {marks : List Nat} (pick : Int) (h1 : 1 ≤ things.length) (hm : marks.length + 1 = things.length) (hmk : ∀ m ∈ marks, m ∈ ops) (hth : ∀ x ∈ things, x ∈ pool) :
    ∃ t p cs, stF things marks pick (things.length - 1) = ([t], p, cs) ∧ t.Ok ∧ t.n = things.length ∧ cs.length + 1 = things.length ∧ (∀ c ∈ cs, c.1 < c.2.1 ∧ c.2.1 < c.2.2 ∧ c.2.2 ≤ things.length) ∧
      (∀ u v, wts cs u v = u :: t.wm u v ++ [v]) ∧ hs 0 [t] = t.gl := by
  have I := stF_inv (pick := pick) hm hmk hth (things.length - 1) (by omega)
  generalize hS : stF things marks pick (things.length - 1) = S at I ⊢
  obtain ⟨F, p, cs⟩ := S
  have hlen := I.len
  simp only at hlen
  match F, hlen with
  | [t], hlen =>
    have hn : t.n = things.length := by have := I.size; simpa [sz] using this
    have hce : cs.length + 1 = things.length := by have := I.cl; simp only at this; rw [this]; exact Nat.sub_add_cancel h1
    refine ⟨t, p, cs, rfl, I.ok t (by simp), hn, hce, I.cb, fun u v => ?_, by simp [hs, T.gl]⟩
    have hcl := I.cl
    simp only at hcl
    unfold wts
    have := I.w ([u] ++ List.replicate cs.length 0 ++ [v]) (by simp; omega)
    simp only at this
    rw [this]
    have g0 : ([u] ++ List.replicate cs.length 0 ++ [v]).getD 0 0 = u := rfl
    have gn : ([u] ++ List.replicate cs.length 0 ++ [v]).getD t.n 0 = v := by
      rw [List.getD_eq_getElem?_getD, List.getElem?_append_right (by simp; omega)]
      simp [show t.n - (cs.length + 1) = 0 by rw [hn, hce]; exact Nat.sub_self _]
    rw [fill, Nat.zero_add, g0, gn, fill]
    simp
  | [], hlen => simp at hlen; omega
  | _ :: _ :: _, hlen => simp at hlen; omega
end Mine

-- F5
namespace Mine
open PySem PySem.W PySem.Calls PyProof.Rows PySem.SeqAt

abbrev partD (p : Nat × List Nat × Nat) : D := .tup [.int p.1, tx p.2.1, .int p.2.2]
def bumps (h : List Int) (l : List Nat) : List Int := l.foldl bump h
theorem bumps_len : ∀ (l : List Nat) (h : List Int), (bumps h l).length = h.length
  | [], _ => rfl
  | i :: l, h => by show (bumps (bump h i) l).length = _; rw [bumps_len l, bump_len]

def gParts : D → Option D
  | .tup [.int k, x] => some (.tup [.int k, x, .int (k + 1)])
  | _ => none
theorem gParts_all (things : List (List Nat)) : (enum (things.map tx)).filterMap gParts = (lay 0 (things.map T.leaf)).map partD := by
  have : ∀ (xs : List (List Nat)) (p : Nat), (((xs.map tx).zipIdx p).map fun q => D.tup [.int q.2, q.1]).filterMap gParts = (lay p (xs.map T.leaf)).map partD := by
    intro xs
    induction xs with
    | nil => intro p; rfl
    | cons x xs ih =>
      intro p
      simp only [List.map_cons, List.zipIdx_cons, lay, T.text, T.n]
      rw [← ih (p + 1)]
      simp [gParts]
  exact this things 0

theorem enumT_get {xs : List (List Nat)} {k : Nat} {d : D} (hd : (enum (xs.map tx))[k]? = some d) : ∃ x, xs[k]? = some x ∧ d = .tup [.int k, tx x] := by
  have hlen : k < xs.length := by have := (List.getElem?_eq_some_iff.mp hd).1; rw [enum_length] at this; simpa using this
  refine ⟨xs[k], List.getElem?_eq_getElem hlen, ?_⟩
  exact enum_get (by rw [List.getElem?_map, List.getElem?_eq_getElem hlen]; rfl) hd

theorem noV {Γ : Vars} {P : Str → B → Prop} : ∀ (x : Str) (b : B), ([] : Vars).lookup x = some b → P x b := fun x b e => by cases e

theorem a5_tn1 (n : Nat) : ((n : Int) + 1).toNat = n + 1 := by omega
theorem a5_tn2 (n : Nat) : ((n : Int) + 2).toNat = n + 2 := by omega
theorem a5_tnp (n : Nat) : ((n : Int) - 1).toNat = n - 1 := by omega
theorem a5_text {x l r s b n : Nat} (h : x + 3 ≤ 5 * l) (e : s + (l + (r + b)) = n) (hn : n ≤ 10) : x ≤ 60 := by omega
theorem a5_text2 {x l r s b n : Nat} (h : x + 3 ≤ 5 * r) (e : s + (l + (r + b)) = n) (hn : n ≤ 10) : x ≤ 60 := by omega
theorem a5_lt {s l r b n m : Nat} (e : s + (l + (r + b)) = n) (hm : m + 1 = n) (hl : 0 < l) (hr : 0 < r) : s + l - 1 < m := by omega
theorem a5_h {s l r b n h : Nat} (e : s + (l + (r + b)) = n) (hh : h = n + 1) : s < h ∧ s + l < h ∧ s + l + r < h := by omega
theorem a5_k {s l : Nat} (hl : 0 < l) : (0 : Int) ≤ ((s + l : Nat) : Int) - 1 := by omega
theorem a5_s {n : Nat} (h : 2 ≤ n) : ((n - 1 : Nat) : Int) = (n : Int) - 1 := by omega
theorem a5_m {n : Nat} (h : 2 ≤ n) : (0 : Int) < (n : Int) - 1 := by omega
theorem a5_b {n : Nat} (h : n ≤ 10) : (n : Int) - 1 < 2 ^ 30 := by omega
theorem a5_la {a b : Nat} (h : a + (b + 2) ≤ 1000) : a ≤ 999999 ∧ a + 1 + b ≤ 1000000 := by omega
theorem a5_q {a b : Nat} (ha : a ≤ 60) (hb : b ≤ 60) : 1 + a + 1 + b + 1 ≤ 1000000 := by omega
theorem a5_q3 {a b : Nat} (ha : a ≤ 60) (hb : b ≤ 60) : a + 1 + 1 + b ≤ 1000000 := by omega
theorem a5_q4 {a b : Nat} (ha : a ≤ 60) (hb : b ≤ 60) : a + (b + 1) ≤ 999998 := by omega

set_option maxHeartbeats 1000000 in
theorem f67 (things : List (List Nat)) (marks : List Nat) (pick : Int) (h1 : 1 ≤ things.length) (h2 : things.length ≤ 10) (hm : marks.length + 1 = things.length) (hmk : ∀ m ∈ marks, m ∈ ops) (hth : ∀ x ∈ things, x ∈ pool)
    (t : T) (p : Int) (cs : List Corner) (hend : stF things marks pick (things.length - 1) = ([t], p, cs)) :
    Fn 67 8 [.lst (things.map tx), .lst (marks.map fun m => tx [m]), .int pick] (.tup [tx t.text, nums (hs 0 [t]), .lst (cs.map cornD)]) := by
  refine Fn.of ["things", "marks", "pick"] rfl rfl (by omega) (fun _ _ _ vs h => by obtain ⟨_, _, _, rfl⟩ := len3 h; rfl) (by decide) (fun w A L a cd h₀ mg mb X₀ lv hlv => ?_)
  refine Exs.cons (Ex.assignOwn (EvN.rep Ev.int (Ev.bin (Ev.lenL rfl (EvL.of (Ev.loc rfl rfl)) (by simp; omega)) Ev.int Bop.add) (by omega) (by simp; omega)) rfl) ?_
  refine Exs.cons (Ex.assignOwn (EvN.list Evs.nil (by show 0 ≤ 1000; decide)) rfl) ?_
  refine Exs.cons (Ex.assignComp (cl := []) (ds := enum (things.map tx)) [] gParts (EvIt.enumL rfl (Ev.loc rfl rfl)) (closureFor_none (by decide)) (noV (Γ := [])) (fun K Z k d hd => ?_) (by rw [enum_length]; simp; omega) rfl) ?_
  · obtain ⟨x, hx, rfl⟩ := enumT_get hd
    refine ⟨_, As.tup (AsIn.cons (As.name rfl) (AsIn.cons (As.name rfl) AsIn.nil)), noV (Γ := []), ?_⟩
    exact ⟨Tests.nil, Ev.tuple (Evs.cons (Ev.loc rfl rfl) (Evs.cons (Ev.loc rfl rfl) (Evs.cons (Ev.bin (Ev.loc rfl rfl) Ev.int Bop.add) Evs.nil))) (by show 3 ≤ 1000; decide)⟩
  rw [gParts_all]
  have inv : ∀ j, j < things.length → InvF things.length j (stF things marks pick j) := stF_inv hm hmk hth
  refine Exs.cons (Ex.while (fun j => [("parts", .val (.lst ((lay 0 (stF things marks pick j).1).map partD))), ("heaps", .own ((hs 0 (stF things marks pick j).1).map .int)), ("corners", .own ((stF things marks pick j).2.2.map cornD)), ("pick", .val (.int (stF things marks pick j).2.1)), ("marks", .val (.lst (marks.map fun m => tx [m])))]) (things.length - 1) (weak ⟨rfl, ?_, rfl, rfl, rfl, trivial⟩) (fun j hj => ?_) (.inl ⟨?_, rfl⟩)) ?_
  · show some (B.own _) = some (B.own _)
    have : ∀ xs : List (List Nat), hs 0 (xs.map T.leaf) = List.replicate (xs.length + 1) 0 := by
      intro xs
      induction xs with
      | nil => rfl
      | cons x xs ih => simp only [List.map_cons, hs, T.f, T.mid, T.la, ih, List.nil_append, List.length_cons]; rfl
    show _ = some (B.own ((hs 0 (things.map T.leaf)).map .int))
    rw [this, List.map_replicate, List.length_map, show ((things.length : Int) + 1).toNat = things.length + 1 by omega]
  · have I := inv j (by omega)
    have hF2 : 2 ≤ (stF things marks pick j).1.length := by have := I.len; omega
    obtain ⟨Af, l, r, Bf, e, hA, e'⟩ := stepF_eq marks _ hF2
    have hlen : (lay 0 (stF things marks pick j).1).length = (stF things marks pick j).1.length := lay_len _ _
    constructor
    · refine Tr.cmp (Ev.lenL rfl (EvL.of (Ev.loc rfl rfl)) (by rw [List.length_map, hlen]; have := I.len; omega)) Ev.int ?_
      rw [show true = decide ((1 : Int) < (((lay 0 (stF things marks pick j).1).map partD).length : Int)) from (decide_eq_true (by rw [List.length_map, hlen]; omega)).symm]
      exact Bop.gt
    · have hstep : stF things marks pick (j + 1) = stepF marks (stF things marks pick j) := rfl
      rw [hstep, e']
      have hcl := I.cl
      have hcb := I.cb
      have hIok := I.ok
      have hIlen := I.len
      have hIsz := I.size
      clear e' hstep I inv
      generalize stF things marks pick j = S at *
      obtain ⟨F, pk, cs'⟩ := S
      simp only at e hA hcl hcb hIok hIlen hIsz hF2 hlen ⊢
      subst e
      have hl := l.n_pos
      have hr := r.n_pos
      have hsz : sz Af + (l.n + (r.n + sz Bf)) = things.length := by rw [← hIsz, sz_app]; simp [sz]
      have hlt := l.text_len (hIok l (by simp))
      have hrt := r.text_len (hIok r (by simp))
      have hhs := hs_len (Af ++ l :: r :: Bf) 0
      have hlay : lay 0 (Af ++ l :: r :: Bf) = lay 0 Af ++ (sz Af, l.text, sz Af + l.n) :: (sz Af + l.n, r.text, sz Af + l.n + r.n) :: lay (sz Af + l.n + r.n) Bf := by rw [lay_app]; simp [lay]
      have hlay2 : ∀ m, lay 0 (Af ++ T.node l m r :: Bf) = lay 0 Af ++ (sz Af, (T.node l m r).text, sz Af + l.n + r.n) :: lay (sz Af + l.n + r.n) Bf := fun m => by rw [lay_app]; simp [lay, T.n, Nat.add_assoc]
      have hAl : (lay 0 Af).length = Af.length := lay_len _ _
      rw [hs_merge, hlay, hlay2]
      generalize hs 0 (Af ++ l :: r :: Bf) = H at hhs ⊢
      generalize lay (sz Af + l.n + r.n) Bf = LB at *
      generalize lay 0 Af = LA at *
      have hHl : H.length = things.length + 1 := by rw [hhs, hIsz]
      generalize hs' : sz Af = s at *
      have hm1 : marks[s + l.n - 1]? = some (marks.getD (s + l.n - 1) 0) := by rw [List.getD_eq_getElem?_getD, List.getElem?_eq_getElem (a5_lt hsz hm hl hr)]; rfl
      generalize marks.getD (s + l.n - 1) 0 = mk at *
      have hpl : ((LA ++ (s, l.text, s + l.n) :: (s + l.n, r.text, s + l.n + r.n) :: LB).map partD).length = (Af ++ l :: r :: Bf).length := by rw [List.length_map, ← hlay, lay_len]
      have hFn : (Af ++ l :: r :: Bf).length ≤ 10 := Nat.le_trans (Nat.le_trans (Nat.le_add_right _ _) (Nat.le_of_eq hIlen)) h2
      have hkA : ((Af.length : Nat) : Int) = pk % ((((LA ++ (s, l.text, s + l.n) :: (s + l.n, r.text, s + l.n + r.n) :: LB).map partD).length : Int) - 1) := by rw [hA, hpl]; congr 1; exact a5_s hF2
      refine Exs.cons (Ex.assign (d := .int (Af.length : Int)) (by rw [hkA]; exact Ev.bin (Ev.loc rfl rfl) (Ev.bin (Ev.lenL rfl (EvL.of (Ev.loc rfl rfl)) (by rw [hpl]; exact Nat.le_trans hFn (by decide))) Ev.int Bop.sub) (Bop.mod (by rw [hpl]; exact a5_m hF2))) rfl) ?_
      refine Exs.cons (Ex.assign (d := .int (pk / (((Af ++ l :: r :: Bf).length - 1 : Nat) : Int))) (by rw [show (((Af ++ l :: r :: Bf).length - 1 : Nat) : Int) = (((LA ++ (s, l.text, s + l.n) :: (s + l.n, r.text, s + l.n + r.n) :: LB).map partD).length : Int) - 1 by rw [hpl]; exact a5_s hF2]; exact Ev.bin (Ev.loc rfl rfl) (Ev.bin (Ev.lenL rfl (EvL.of (Ev.loc rfl rfl)) (by rw [hpl]; exact Nat.le_trans hFn (by decide))) Ev.int Bop.sub) (Bop.fdiv (by rw [hpl]; exact a5_m hF2) (by rw [hpl]; exact a5_b hFn))) rfl) ?_
      clear hkA hA
      have hM : marks.length ≤ 10 := Nat.le_of_succ_le (Nat.le_trans (Nat.le_of_eq hm) h2)
      have hlT : l.text.length ≤ 60 := a5_text hlt hsz h2
      have hrT : r.text.length ≤ 60 := a5_text2 hrt hsz h2
      have hcs : cs'.length ≤ 10 := by rw [hcl]; exact Nat.le_trans (Nat.le_trans (Nat.le_add_left _ _) (Nat.le_of_eq hIlen)) h2
      have hH11 : H.length ≤ 11 := Nat.le_trans (Nat.le_of_eq hHl) (Nat.succ_le_succ h2)
      have hA1 : (0 : Int) ≤ ((Af.length : Nat) : Int) := Int.natCast_nonneg _
      have hA2 : (0 : Int) ≤ ((Af.length : Nat) : Int) + 1 := Int.natCast_nonneg (Af.length + 1)
      have hA3 : (0 : Int) ≤ ((Af.length : Nat) : Int) + 2 := Int.natCast_nonneg (Af.length + 2)
      have get1 : ((LA ++ (s, l.text, s + l.n) :: (s + l.n, r.text, s + l.n + r.n) :: LB).map partD)[((Af.length : Nat) : Int).toNat]? = some (partD (s, l.text, s + l.n)) := by
        rw [Int.toNat_natCast, List.getElem?_map, List.getElem?_append_right (Nat.le_of_eq hAl), hAl]; simp
      have get2 : ((LA ++ (s, l.text, s + l.n) :: (s + l.n, r.text, s + l.n + r.n) :: LB).map partD)[(((Af.length : Nat) : Int) + 1).toNat]? = some (partD (s + l.n, r.text, s + l.n + r.n)) := by
        rw [a5_tn1, List.getElem?_map, List.getElem?_append_right (Nat.le_trans (Nat.le_of_eq hAl) (Nat.le_succ _)), hAl]; simp
      have hp6 : ((LA ++ (s, l.text, s + l.n) :: (s + l.n, r.text, s + l.n + r.n) :: LB).map partD).length ≤ 1000000 := by rw [hpl]; exact Nat.le_trans hFn (by decide)
      refine Exs.cons (Ex.assignTup (Ev.subL (EvL.of (Ev.loc rfl rfl)) (Ev.loc rfl rfl) hA1 hp6 get1) (As.tup (AsIn.cons (As.name rfl) (AsIn.cons (As.name rfl) (AsIn.cons (As.name rfl) AsIn.nil))))) ?_
      refine Exs.cons (Ex.assignTup (Ev.subL (EvL.of (Ev.loc rfl rfl)) (Ev.bin (Ev.loc rfl rfl) Ev.int Bop.add) hA2 hp6 get2) (As.tup (AsIn.cons (As.name rfl) (AsIn.cons (As.name rfl) (AsIn.cons (As.name rfl) AsIn.nil))))) ?_
      have hmg : (marks.map fun m => tx [m])[(((s + l.n : Nat) : Int) - 1).toNat]? = some (tx [mk]) := by
        rw [a5_tnp, List.getElem?_map, hm1]; rfl
      have q1 : (txt [40]).length + (txt l.text).length ≤ 1000000 := by rw [txt_len, txt_len]; simp; first | exact Nat.le_trans hlT (by decide) | exact Nat.le_trans (Nat.add_le_add_left hlT 1) (by decide)
      have q2 : (txt [40] ++ txt l.text).length + (txt [mk]).length ≤ 1000000 := by rw [txt_app, txt_len, txt_len]; simp; first | exact Nat.le_trans hlT (by decide) | exact Nat.le_trans (Nat.add_le_add_right hlT _) (by decide)
      have q3 : (txt [40] ++ txt l.text ++ txt [mk]).length + (txt r.text).length ≤ 1000000 := by rw [txt_app, txt_app, txt_len, txt_len]; simp; first | exact a5_q3 hlT hrT | exact a5_q4 hlT hrT | omega
      have q4 : (txt [40] ++ txt l.text ++ txt [mk] ++ txt r.text).length + (txt [41]).length ≤ 1000000 := by rw [txt_app, txt_app, txt_app, txt_len, txt_len]; simp; first | exact a5_q3 hlT hrT | exact a5_q4 hlT hrT | omega
      refine Exs.cons (Ex.assign (d := tx (T.node l mk r).text) (by
        rw [show (T.node l mk r).text = [40] ++ l.text ++ [mk] ++ r.text ++ [41] by simp [T.text]]
        show Ev _ _ _ (.str (txt _))
        rw [← txt_app, ← txt_app, ← txt_app, ← txt_app]
        exact Ev.bin (Ev.bin (Ev.bin (Ev.bin Ev.str (Ev.loc rfl rfl) (Bop.addS q1)) (Ev.subL (EvL.of (Ev.loc rfl rfl)) (Ev.bin (Ev.loc rfl rfl) Ev.int Bop.sub) (a5_k hl) (by rw [List.length_map]; exact Nat.le_trans hM (by decide)) hmg) (Bop.addS q2)) (Ev.loc rfl rfl) (Bop.addS q3)) Ev.str (Bop.addS q4)) rfl) ?_
      have htk : ((LA ++ (s, l.text, s + l.n) :: (s + l.n, r.text, s + l.n + r.n) :: LB).map partD).take ((Af.length : Nat) : Int).toNat = LA.map partD := by
        have hq : (LA.map partD).length = Af.length := by rw [List.length_map, hAl]
        rw [Int.toNat_natCast, List.map_append, ← hq, List.take_left]
      have hdr : ((LA ++ (s, l.text, s + l.n) :: (s + l.n, r.text, s + l.n + r.n) :: LB).map partD).drop (((Af.length : Nat) : Int) + 2).toNat = LB.map partD := by
        rw [show (((Af.length : Nat) : Int) + 2).toNat = (LA.map partD).length + 2 by rw [List.length_map, hAl, a5_tn2], List.map_append, List.drop_append]; simp
      have e1 : ∀ {C : Cx} {Γ : Vars} {x : Expr}, EvN C Γ x (((LA ++ (s, l.text, s + l.n) :: (s + l.n, r.text, s + l.n + r.n) :: LB).map partD).take ((Af.length : Nat) : Int).toNat ++ [partD (s, (T.node l mk r).text, s + l.n + r.n)] ++ ((LA ++ (s, l.text, s + l.n) :: (s + l.n, r.text, s + l.n + r.n) :: LB).map partD).drop (((Af.length : Nat) : Int) + 2).toNat) → Ev C Γ x (.lst ((LA ++ (s, (T.node l mk r).text, s + l.n + r.n) :: LB).map partD)) := fun h => by
        rw [htk, hdr] at h
        simpa using h.toE
      have hLB : LA.length + (LB.length + 2) ≤ 1000 := by
        have := Nat.le_trans (Nat.le_of_eq hpl) hFn
        rw [List.length_map, List.length_append, List.length_cons, List.length_cons] at this
        exact Nat.le_trans this (by decide)
      refine Exs.cons (Ex.assign (e1 (EvN.add (EvN.add (EvL.of (Ev.sliceTo (EvL.of (Ev.loc rfl rfl)) (Ev.loc rfl rfl) hA1 hp6)) (EvL.of (Ev.list (Evs.cons (Ev.tuple (Evs.cons (Ev.loc rfl rfl) (Evs.cons (Ev.loc rfl rfl) (Evs.cons (Ev.loc rfl rfl) Evs.nil))) (by show 3 ≤ 1000; decide)) Evs.nil) (by show 1 ≤ 1000; decide))) (by rw [htk]; simp; exact (a5_la hLB).1)).toL (EvL.of (Ev.sliceFrom (EvL.of (Ev.loc rfl rfl)) (Ev.bin (Ev.loc rfl rfl) Ev.int Bop.add) hA3 hp6)) (by rw [htk, hdr]; simp; exact (a5_la hLB).2))) rfl) ?_
      refine Exs.cons (Ex.append (d := cornD (s, s + l.n, s + l.n + r.n)) rfl (Ev.tuple (Evs.cons (Ev.loc rfl rfl) (Evs.cons (Ev.loc rfl rfl) (Evs.cons (Ev.loc rfl rfl) Evs.nil))) (by show 3 ≤ 1000; decide)) (by rw [List.length_map]; exact Nat.le_trans hcs (by decide)) rfl) ?_
      have hHb : ∀ m, (bumps H ([s, s + l.n, s + l.n + r.n].take m)).length = H.length := fun m => bumps_len _ _
      refine Exs.cons (Ex.for (ds := [.int (s : Nat), .int (s + l.n : Nat), .int (s + l.n + r.n : Nat)]) (EvIt.tupN (Ev.tuple (Evs.cons (Ev.loc rfl rfl) (Evs.cons (Ev.loc rfl rfl) (Evs.cons (Ev.loc rfl rfl) Evs.nil))) (by show 3 ≤ 1000; decide))) (fun m => [("heaps", .own ((bumps H ([s, s + l.n, s + l.n + r.n].take m)).map .int)), ("parts", .val (.lst ((LA ++ (s, (T.node l mk r).text, s + l.n + r.n) :: LB).map partD))), ("corners", .own (cs'.map cornD ++ [cornD (s, s + l.n, s + l.n + r.n)])), ("pick", .val (.int (pk / (((Af ++ l :: r :: Bf).length - 1 : Nat) : Int)))), ("marks", .val (.lst (marks.map fun m => tx [m])))]) (weak ⟨rfl, rfl, rfl, rfl, rfl, trivial⟩) (fun W2 m d hd => ?_)) ?_
      · obtain ⟨i, hi, rfl, hi2⟩ : ∃ i : Nat, [s, s + l.n, s + l.n + r.n][m]? = some i ∧ .int (i : Int) = d ∧ i < H.length := by
          match m, hd with
          | 0, hd => exact ⟨s, rfl, Option.some.inj hd, (a5_h hsz hHl).1⟩
          | 1, hd => exact ⟨s + l.n, rfl, Option.some.inj hd, (a5_h hsz hHl).2.1⟩
          | 2, hd => exact ⟨s + l.n + r.n, rfl, Option.some.inj hd, (a5_h hsz hHl).2.2⟩
        refine ⟨_, As.name rfl, ?_⟩
        have hb := hHb m
        have e3 : bumps H ([s, s + l.n, s + l.n + r.n].take (m + 1)) = bump (bumps H ([s, s + l.n, s + l.n + r.n].take m)) i := by rw [take_next hi, bumps, List.foldl_append]; rfl
        rw [e3]
        generalize bumps H ([s, s + l.n, s + l.n + r.n].take m) = H2 at hb ⊢
        refine Exs.cons (Ex.augItem rfl (Ev.loc rfl rfl) (Int.natCast_nonneg i) (getD_int (i := i) (by rw [hb]; exact hi2)) Ev.int Bop.iaddI (by rw [List.length_map, hb]; exact Nat.le_trans hH11 (by decide)) rfl) ?_
        refine Exs.nil.post (weak ⟨?_, rfl, rfl, rfl, rfl, trivial⟩)
        show some (B.own _) = some (B.own _)
        rw [bump, List.map_set]
        rfl
      · refine Exs.nil.post (weak ⟨rfl, rfl, ?_, rfl, rfl, trivial⟩)
        show some (B.own _) = some (B.own _)
        rw [List.map_append]
        rfl
  · rw [hend]
    refine Tr.cmp (Ev.lenL rfl (EvL.of (Ev.loc rfl rfl)) (by simp [lay])) Ev.int ?_
    exact Bop.gt
  · rw [hend]
    refine Exs.freeze (x := "heaps") rfl (Exs.freeze (x := "corners") rfl ?_)
    exact Exs.stop (Ex.ret (Ev.tuple (Evs.cons (Ev.subT (k := 1) (ds := [.int 0, tx t.text, .int (0 + t.n : Nat)]) (Ev.subL (k := 0) (EvL.of (Ev.loc rfl rfl)) Ev.int (by omega) (by simp [lay]) (by rfl)) Ev.int (by omega) (by simp) (by rfl)) (Evs.cons (Ev.loc rfl rfl) (Evs.cons (Ev.loc rfl rfl) Evs.nil))) (by show 3 ≤ 1000; decide))) (fun _ h => nomatch h)
end Mine

-- F6
namespace Mine
open PySem PySem.W PySem.Calls PyProof.Rows PySem.SeqAt

theorem slice0 (l : List Nat) : Txt.slice (txt l) (some 0) none = txt l := by
  rw [slice_from_eq (b := (txt l).length) (by omega) (by omega) rfl]
  have : (txt l).length = l.length := txt_len l
  simp [this]
theorem filterMap_range (l : List Nat) (n : Nat) (h : n ≤ l.length) : (List.range n).filterMap (fun k => l.toArray[k]?) = l.take n := by
  induction n with
  | zero => simp
  | succ n ih =>
    rw [List.range_succ, List.filterMap_append, ih (by omega), List.take_add_one]
    simp [List.getElem?_eq_getElem (show n < l.length by omega)]
theorem slice1 (l : List Nat) (h : l ≠ []) : Txt.slice (txt l) none (some (-1)) = txt l.dropLast := by
  have hl : 0 < l.length := List.length_pos_iff.mpr h
  have hn : (txt l).length = l.length := txt_len l
  have e : Builtin.Str.strSliceIndices none (some (-1)) 1 (txt l).length = List.range (l.length - 1) := by
    unfold Builtin.Str.strSliceIndices sliceRange
    rw [hn]
    simp only [show (1 : Int) > 0 by decide, if_true, show (-1 : Int) < 0 by decide]
    have h1 : max 0 (min (-1 + (l.length : Int)) l.length) = ((l.length - 1 : Nat) : Int) := by omega
    rw [h1]
    by_cases q : (0 : Int) < ((l.length - 1 : Nat) : Int)
    · rw [if_pos q]
      have : ((((l.length - 1 : Nat) : Int) - 0 + 1 - 1) / 1).toNat = l.length - 1 := by omega
      rw [this]
      simp
    · rw [if_neg q]
      have : l.length - 1 = 0 := by omega
      rw [this]; rfl
  unfold Txt.slice
  rw [e, if_neg (by rw [hn]; simp; omega)]
  have := filterMap_range l (l.length - 1) (by omega)
  show (⟨_⟩ : Str) = ⟨_⟩
  rw [this, List.dropLast_eq_take]

theorem Ev.eqv {C : Cx} {Γ : Vars} {x : Expr} {d d' : D} (h : d = d') (e : Ev C Γ x d) : Ev C Γ x d' := h ▸ e
theorem joinAll (ls : List (List Nat)) : Txt.join ⟨#[]⟩ (ls.map txt) = txt ls.flatten := by
  have key : ∀ (ls : List (List Nat)) (a : List Nat), (ls.map txt).foldl (fun (acc : Array Nat) (p : Str) => acc ++ (⟨#[]⟩ : Str).cps ++ p.cps) a.toArray = (a ++ ls.flatten).toArray := by
    intro ls
    induction ls with
    | nil => intro a; simp
    | cons x ls ih =>
      intro a
      rw [List.map_cons, List.foldl_cons]
      have : a.toArray ++ (⟨#[]⟩ : Str).cps ++ (txt x).cps = (a ++ x).toArray := by simp
      rw [this, ih]; simp
  unfold Txt.join Builtin.Str.glued
  cases ls with
  | nil => rfl
  | cons x ls =>
    have := key ls x
    show (⟨(ls.map txt).foldl _ x.toArray⟩ : Str) = _
    rw [this]; simp

theorem txt_eq {a b : List Nat} : (txt a == txt b) = decide (a = b) := by
  by_cases q : a = b
  · subst q; simp
  · rw [decide_eq_false q]
    refine beq_eq_false_iff_ne.mpr fun z => q ?_
    have := congrArg (fun s : Str => s.cps.toList) z
    simpa using this

theorem f2 (xs : List Nat) (h0 : xs ≠ []) (hn : xs.length ≤ 1000) (hq : ∀ u ∈ ufrom 0 xs false, u.2 ≠ [34]) : Fn 2 7 [tx xs] (tx xs) := by
  refine Fn.of ["addr"] rfl rfl (by omega) (fun _ _ _ vs h => by obtain ⟨_, rfl⟩ := len1 h; rfl) (by decide) (fun w A L a cd h₀ mg mb X₀ lv hlv => ?_)
  cases hc : Txt.contains (txt xs) (txt [34]) with
  | false =>
    refine Exs.stop (Ex.ift (Tr.cmp (c := true) (Ev.str (x := txt [34])) (Ev.loc (d := tx xs) rfl rfl) (by rw [show true = !Txt.contains (txt xs) (txt [34]) by rw [hc]; rfl]; exact Bop.notInS)) (Exs.stop (Ex.ret (Ev.loc rfl rfl)) (fun _ h => nomatch h))) (fun _ h => nomatch h)
  | true =>
    refine Exs.cons (Ex.iff (Tr.cmp (c := false) (Ev.str (x := txt [34])) (Ev.loc (d := tx xs) rfl rfl) (by rw [show false = !Txt.contains (txt xs) (txt [34]) by rw [hc]; rfl]; exact Bop.notInS)) Exs.nil) ?_
    refine Exs.cons (Ex.assign Ev.int rfl) ?_
    refine Exs.cons (Ex.assign Ev.none rfl) ?_
    refine Exs.cons (Ex.assignOwn (EvN.list Evs.nil (by show 0 ≤ 1000; decide)) rfl) ?_
    refine Exs.cons (Ex.for (EvIt.gen (.inr ⟨_, _, _, rfl⟩) rfl (by show lv ≤ 90; omega) (Ev.loc rfl rfl)) (fun k => [("addr", .val (tx xs)), ("start", .val (.int 0)), ("result", .own [])]) (weak ⟨rfl, rfl, rfl, trivial⟩) (fun W k d hd => ?_)) ?_
    · obtain ⟨u, hu, rfl⟩ := get_map hd
      have hne := hq u (List.mem_of_getElem? hu)
      refine ⟨_, As.tup (AsIn.cons (As.name rfl) (AsIn.cons (As.name rfl) AsIn.nil)), ?_⟩
      refine Exs.cons (Ex.iff (Tr.cmp (c := false) (Ev.loc (d := tx u.2) rfl rfl) (Ev.str (x := txt [34])) (by rw [show false = (txt u.2 == txt [34]) by rw [txt_eq, decide_eq_false hne]]; exact Bop.eqS)) Exs.nil) ?_
      exact Exs.nil.post (weak ⟨rfl, rfl, rfl, trivial⟩)
    · have hlen : 0 < xs.length := List.length_pos_iff.mpr h0
      refine Exs.cons (Ex.ift (Tr.cmp (c := true) (Ev.loc rfl rfl) (Ev.blt1 (by decide) rfl rfl (Ev.loc rfl rfl) (Uop.len (x := txt xs) (by rw [txt_len]; omega))) (by rw [show true = decide ((0 : Int) < ((txt xs).length : Int)) from (decide_eq_true (by rw [txt_len]; omega)).symm]; exact Bop.lt)) (Exs.cons (Ex.append rfl (Ev.sliceStrFrom (x := txt xs) (j := 0) (Ev.loc rfl rfl) (Ev.loc rfl rfl) (by rw [txt_len]; omega)) (by simp) rfl) Exs.nil)) ?_
      refine Exs.freeze (x := "result") (ds := [txt xs].map .str) (by rw [slice0]; rfl) ?_
      refine Exs.stop (Ex.ret ?_) (fun _ h => nomatch h)
      refine Ev.eqv (d := .str (Txt.join ⟨#[]⟩ ([xs].map txt))) (by rw [joinAll]; simp) (Ev.join (x := ⟨#[]⟩) (ys := [xs].map txt) Ev.str (Ev.loc rfl rfl) (by decide) (by show xs.toArray.size + 0 + 1 ≤ _; rw [List.size_toArray]; omega))

/-- how deep in brackets -/
def deep (us : List (Nat × List Nat)) (k : Nat) : Int := (((us.take k).filter fun u => u.2 = [40]).length : Int) - (((us.take k).filter fun u => u.2 = [41]).length : Int)
theorem deep_next {us : List (Nat × List Nat)} {k : Nat} {u : Nat × List Nat} (h : us[k]? = some u) : deep us (k + 1) = deep us k + (if u.2 = [40] then 1 else 0) - (if u.2 = [41] then 1 else 0) := by
  unfold deep
  rw [take_next h, List.filter_append, List.filter_append, List.length_append, List.length_append]
  by_cases h1 : u.2 = [40] <;> by_cases h2 : u.2 = [41] <;> simp [h1, h2] <;> omega

theorem f3 (xs : List Nat) (h0 : xs ≠ []) (hn : xs.length ≤ 1000) (hq : ∀ u ∈ ufrom 0 xs false, u.2 ≠ [34]) (b : Bool)
    (hb : (∀ k, k ≤ (ufrom 0 xs false).length → 0 ≤ deep (ufrom 0 xs false) k) ∧ b = (deep (ufrom 0 xs false) (ufrom 0 xs false).length == 0) ∨ ((ufrom 0 xs false)[0]?.map (·.2) = some [41] ∧ b = false)) : Fn 3 6 [tx xs] (.bool b) := by
  refine Fn.of ["addr"] rfl rfl (by omega) (fun _ _ _ vs h => by obtain ⟨_, rfl⟩ := len1 h; rfl) (by decide) (fun w A L a cd h₀ mg mb X₀ lv hlv => ?_)
  refine Exs.cons (Ex.assign (Ev.fn rfl (f2 xs h0 hn hq) (by show lv ≤ 7; omega) rfl (Evs.cons (Ev.loc rfl rfl) Evs.nil)) rfl) ?_
  refine Exs.cons (Ex.assign Ev.int rfl) ?_
  generalize hus : ufrom 0 xs false = us at *
  have hit : ∀ {C : Cx} {Γ : Vars} {tgt e : Expr}, EvIt C Γ tgt e (unitsD xs) → EvIt C Γ tgt e (us.map unitD) := fun h => by rw [← hus]; exact h
  rcases hb with ⟨h1, rfl⟩ | ⟨h1, rfl⟩
  · refine Exs.cons (Ex.for (hit (EvIt.gen (.inr ⟨_, _, _, rfl⟩) rfl (by show lv ≤ 90; omega) (Ev.loc rfl rfl))) (fun k => [("opens", .val (.int (deep us k)))]) (weak ⟨rfl, trivial⟩) (fun W k d hd => ?_)) ?_
    · obtain ⟨u, hu, rfl⟩ := get_map hd
      have hk := (List.getElem?_eq_some_iff.mp hu).1
      refine ⟨_, As.tup (AsIn.cons (As.name rfl) (AsIn.cons (As.name rfl) AsIn.nil)), ?_⟩
      rw [deep_next hu]
      have hpos := h1 (k + 1) hk
      rw [deep_next hu] at hpos
      by_cases q1 : u.2 = [40]
      · have q2 : u.2 ≠ [41] := by rw [q1]; decide
        rw [if_pos q1, if_neg q2]
        refine Exs.cons (Ex.ift (Tr.cmp (c := true) (Ev.loc (d := tx u.2) rfl rfl) (Ev.str (x := txt [40])) (by rw [show true = (txt u.2 == txt [40]) by rw [txt_eq, decide_eq_true q1]]; exact Bop.eqS)) (Exs.cons (Ex.aug rfl Ev.int Bop.iaddI rfl) Exs.nil)) ?_
        refine Exs.nil.post (weak ⟨by rw [Int.sub_zero]; rfl, trivial⟩)
      · by_cases q2 : u.2 = [41]
        · rw [if_neg q1, if_pos q2] at hpos ⊢
          refine Exs.cons (Ex.iff (Tr.cmp (c := false) (Ev.loc (d := tx u.2) rfl rfl) (Ev.str (x := txt [40])) (by rw [show false = (txt u.2 == txt [40]) by rw [txt_eq, decide_eq_false q1]]; exact Bop.eqS))
            (Exs.cons (Ex.ift (Tr.cmp (c := true) (Ev.loc (d := tx u.2) rfl rfl) (Ev.str (x := txt [41])) (by rw [show true = (txt u.2 == txt [41]) by rw [txt_eq, decide_eq_true q2]]; exact Bop.eqS))
              (Exs.cons (Ex.aug rfl Ev.int Bop.isubI rfl) (Exs.cons (Ex.iff (Tr.cmp (c := false) (Ev.loc rfl rfl) Ev.int (by rw [show false = decide (deep us k - 1 < 0) from (decide_eq_false (by omega)).symm]; exact Bop.lt)) Exs.nil) Exs.nil))) Exs.nil)) ?_
          refine Exs.nil.post (weak ⟨by rw [Int.add_zero]; rfl, trivial⟩)
        · rw [if_neg q1, if_neg q2]
          refine Exs.cons (Ex.iff (Tr.cmp (c := false) (Ev.loc (d := tx u.2) rfl rfl) (Ev.str (x := txt [40])) (by rw [show false = (txt u.2 == txt [40]) by rw [txt_eq, decide_eq_false q1]]; exact Bop.eqS))
            (Exs.cons (Ex.iff (Tr.cmp (c := false) (Ev.loc (d := tx u.2) rfl rfl) (Ev.str (x := txt [41])) (by rw [show false = (txt u.2 == txt [41]) by rw [txt_eq, decide_eq_false q2]]; exact Bop.eqS)) Exs.nil) Exs.nil)) ?_
          refine Exs.nil.post (weak ⟨by rw [Int.add_zero, Int.sub_zero]; rfl, trivial⟩)
    · rw [List.length_map]
      exact Exs.stop (Ex.ret (Ev.cmp (Ev.loc rfl rfl) Ev.int Bop.eqI)) (fun _ h => nomatch h)
  · obtain ⟨u, hu, q2⟩ : ∃ u, us[0]? = some u ∧ u.2 = [41] := by
      cases e : us[0]? with
      | none => rw [e] at h1; cases h1
      | some u => rw [e] at h1; exact ⟨u, rfl, Option.some.inj h1⟩
    have q1 : u.2 ≠ [40] := by rw [q2]; decide
    refine Exs.stop (Ex.forGen (m := 0) (hit (EvIt.gen (.inr ⟨_, _, _, rfl⟩) rfl (by show lv ≤ 90; omega) (Ev.loc rfl rfl))) (fun k => [("opens", .val (.int 0))]) (weak ⟨rfl, trivial⟩) (Nat.zero_le _) (fun W k d hd hk => absurd hk (Nat.not_lt_zero _)) (.inr ⟨unitD u, .bool false, by rw [List.getElem?_map, hu]; rfl, rfl, fun W => ?_⟩)) (fun _ h => nomatch h)
    refine ⟨_, As.tup (AsIn.cons (As.name rfl) (AsIn.cons (As.name rfl) AsIn.nil)), ?_⟩
    refine Exs.stop (Ex.iff (Tr.cmp (c := false) (Ev.loc (d := tx u.2) rfl rfl) (Ev.str (x := txt [40])) (by rw [show false = (txt u.2 == txt [40]) by rw [txt_eq, decide_eq_false q1]]; exact Bop.eqS))
      (Exs.stop (Ex.ift (Tr.cmp (c := true) (Ev.loc (d := tx u.2) rfl rfl) (Ev.str (x := txt [41])) (by rw [show true = (txt u.2 == txt [41]) by rw [txt_eq, decide_eq_true q2]]; exact Bop.eqS))
        (Exs.cons (Ex.aug rfl Ev.int Bop.isubI rfl) (Exs.stop (Ex.ift (Tr.cmp (c := true) (Ev.loc rfl rfl) Ev.int (by rw [show true = decide ((0 : Int) - 1 < 0) by rfl]; exact Bop.lt)) (Exs.stop (Ex.ret Ev.bool) (fun _ h => nomatch h))) (fun _ h => nomatch h)))) (fun _ h => nomatch h))) (fun _ h => nomatch h)
end Mine

-- P3
namespace Mine

/-- a nought laid in at place k -/
def ins (k : Nat) (g : List Int) : List Int := g.take k ++ 0 :: g.drop k
theorem ins_len (k : Nat) (g : List Int) (h : k ≤ g.length) : (ins k g).length = g.length + 1 := by simp [ins]; omega
theorem bump_get (g : List Int) (i j : Nat) : (bump g i)[j]? = if i = j then g[j]?.map (· + 1) else g[j]? := by
  unfold bump
  rw [List.getElem?_set]
  by_cases h : i = j
  · subst h
    rw [if_pos rfl, if_pos rfl]
    by_cases h2 : i < g.length
    · rw [if_pos h2, List.getD_eq_getElem?_getD, List.getElem?_eq_getElem h2]; rfl
    · rw [if_neg h2, List.getElem?_eq_none (by omega)]; rfl
  · rw [if_neg h, if_neg h]
theorem ins_get (g : List Int) (k j : Nat) (h : k ≤ g.length) : (ins k g)[j]? = if j < k then g[j]? else if j = k then some 0 else g[j - 1]? := by
  unfold ins
  have ht : (g.take k).length = k := by simp; omega
  by_cases h1 : j < k
  · rw [if_pos h1, List.getElem?_append_left (by omega), List.getElem?_take_of_lt h1]
  · rw [if_neg h1, List.getElem?_append_right (by omega), ht]
    by_cases h2 : j = k
    · subst h2; simp
    · rw [if_neg h2]
      obtain ⟨i, rfl⟩ : ∃ i, j = k + (i + 1) := ⟨j - k - 1, by omega⟩
      rw [show k + (i + 1) - k = i + 1 by omega, List.getElem?_cons_succ, List.getElem?_drop]
      congr 1
theorem bump_comm (g : List Int) (i j : Nat) : bump (bump g i) j = bump (bump g j) i := by
  apply List.ext_getElem?
  intro n
  rw [bump_get, bump_get, bump_get, bump_get]
  by_cases h1 : j = n <;> by_cases h2 : i = n <;> simp [h1, h2]
theorem ins_bump (g : List Int) (k i : Nat) (h : k ≤ g.length) : ins k (bump g i) = bump (ins k g) (if i < k then i else i + 1) := by
  apply List.ext_getElem?
  intro n
  simp only [ins_get _ _ _ (show k ≤ (bump g i).length by rw [bump_len]; exact h), bump_get, ins_get _ _ _ h]
  by_cases hk : i < k
  · rw [if_pos hk]
    by_cases h1 : n < k
    · rw [if_pos h1, if_pos h1]
    · rw [if_neg h1, if_neg h1]
      by_cases h2 : n = k
      · subst h2; rw [if_pos rfl, if_pos rfl, if_neg (by omega)]
      · rw [if_neg h2, if_neg h2, if_neg (by omega), if_neg (by omega)]
  · rw [if_neg hk]
    by_cases h1 : n < k
    · rw [if_pos h1, if_pos h1, if_neg (by omega), if_neg (by omega)]
    · rw [if_neg h1, if_neg h1]
      by_cases h2 : n = k
      · subst h2; rw [if_pos rfl, if_pos rfl, if_neg (by omega)]
      · rw [if_neg h2, if_neg h2]
        by_cases h3 : i = n - 1
        · rw [if_pos h3, if_pos (by omega)]
        · rw [if_neg h3, if_neg (by omega)]
theorem ins_app (P g : List Int) (k : Nat) : ins (P.length + k) (P ++ g) = P ++ ins k g := by
  unfold ins
  rw [List.take_append, List.drop_append]
  simp [List.take_of_length_le (show P.length ≤ P.length + k by omega), List.drop_eq_nil_of_le (show P.length ≤ P.length + k by omega)]

namespace T
/-- at k an ear: two things side by side in their own brackets -/
def ear : T → Nat → Prop
  | leaf _, _ => False
  | node l m r, k => if k < l.n then l.ear k else if k = l.n then (∃ x, l = leaf x) ∧ ∃ y, r = leaf y else r.ear (k - l.n)
def red (k : Nat) : T → T
  | leaf x => leaf x
  | node l m r => if k < l.n then node (red k l) m r else if k = l.n then leaf (node l m r).text else node l m (red (k - l.n) r)
theorem la_zero : ∀ t : T, t.la = 0 → ∃ x, t = leaf x
  | leaf x, _ => ⟨x, rfl⟩
  | node l m r, h => by have := r.la_pos; simp [la] at h; omega
theorem f_zero : ∀ t : T, t.f = 0 → ∃ x, t = leaf x
  | leaf x, _ => ⟨x, rfl⟩
  | node l m r, h => by have := l.f_pos; simp [f] at h; omega
theorem ear_of : ∀ (t : T) (k : Nat), 1 ≤ k → k < t.n → t.mid[k - 1]? = some 1 → t.ear k
  | leaf x, k, h1, h2, h => by simp [n] at h2; omega
  | node l m r, k, h1, h2, h => by
    have hl := l.mid_len
    have hr := r.mid_len
    have hln := l.n_pos
    unfold ear
    simp only [n] at h2
    simp only [mid] at h
    by_cases q : k < l.n
    · rw [if_pos q]
      refine ear_of l k h1 q ?_
      rw [List.append_assoc, List.getElem?_append_left (by omega)] at h
      exact h
    · rw [if_neg q]
      by_cases q2 : k = l.n
      · rw [if_pos q2]
        rw [List.append_assoc, List.getElem?_append_right (by omega)] at h
        have e : k - 1 - l.mid.length = 0 := by omega
        rw [e] at h
        simp at h
        have := l.la_pos
        have := r.f_pos
        exact ⟨la_zero l (by omega), f_zero r (by omega)⟩
      · rw [if_neg q2]
        refine ear_of r (k - l.n) (by omega) (by omega) ?_
        rw [List.append_assoc, List.getElem?_append_right (by omega)] at h
        obtain ⟨i, hi⟩ : ∃ i, k - 1 - l.mid.length = i + 1 := ⟨k - 1 - l.mid.length - 1, by omega⟩
        rw [hi] at h
        simp at h
        rw [show k - l.n - 1 = i by omega]; exact h
theorem ear_ex : ∀ (t : T), 2 ≤ t.n → ∃ k, 1 ≤ k ∧ k < t.n ∧ t.mid[k - 1]? = some 1
  | leaf x, h => by simp [n] at h
  | node l m r, h => by
    have hl := l.mid_len
    have hr := r.mid_len
    have hln := l.n_pos
    have hrn := r.n_pos
    by_cases q : 2 ≤ l.n
    · obtain ⟨k, h1, h2, h3⟩ := ear_ex l q
      refine ⟨k, h1, by simp [n]; omega, ?_⟩
      simp only [mid]
      rw [List.append_assoc, List.getElem?_append_left (by omega)]; exact h3
    · by_cases q2 : 2 ≤ r.n
      · obtain ⟨k, h1, h2, h3⟩ := ear_ex r q2
        refine ⟨l.n + k, by omega, by simp [n]; omega, ?_⟩
        simp only [mid]
        rw [List.append_assoc, List.getElem?_append_right (by omega), show l.n + k - 1 - l.mid.length = (k - 1) + 1 by omega]
        simpa using h3
      · match l, r, q, q2 with
        | leaf x, leaf y, _, _ => exact ⟨1, by omega, by simp [n], by simp [mid, la, f]⟩
        | node a _ b, _, q, _ => have := a.n_pos; have := b.n_pos; simp [n] at q; omega
        | leaf _, node a _ b, _, q2 => have := a.n_pos; have := b.n_pos; simp [n] at q2; omega

theorem red_n : ∀ (t : T) (k : Nat), t.ear k → (t.red k).n + 1 = t.n ∧ 1 ≤ k ∧ k < t.n
  | leaf x, k, h => h.elim
  | node l m r, k, h => by
    have hl := l.n_pos
    have hr := r.n_pos
    unfold ear at h
    unfold red
    by_cases q : k < l.n
    · rw [if_pos q] at h ⊢
      have := red_n l k h
      simp [n]; omega
    · rw [if_neg q] at h ⊢
      by_cases q2 : k = l.n
      · rw [if_pos q2] at h ⊢
        obtain ⟨⟨x, rfl⟩, y, rfl⟩ := h
        simp [n] at q2 ⊢; omega
      · rw [if_neg q2] at h ⊢
        have := red_n r (k - l.n) h
        simp [n]; omega
theorem red_text : ∀ (t : T) (k : Nat), (t.red k).text = t.text
  | leaf x, k => rfl
  | node l m r, k => by
    unfold red
    by_cases q : k < l.n
    · rw [if_pos q]; simp [text, red_text l k]
    · rw [if_neg q]
      by_cases q2 : k = l.n
      · rw [if_pos q2]; rfl
      · rw [if_neg q2]; simp [text, red_text r]
/-- things and marks -/
theorem red_lists : ∀ (t : T) (k : Nat), t.ear k → ∃ Pl x y R Mp m Mr, Pl.length = k - 1 ∧ t.leaves = Pl ++ x :: y :: R ∧ (t.red k).leaves = Pl ++ ([40] ++ x ++ [m] ++ y ++ [41]) :: R ∧ Mp.length = k - 1 ∧ t.marks = Mp ++ m :: Mr ∧ (t.red k).marks = Mp ++ Mr
  | leaf x, k, h => h.elim
  | node l m r, k, h => by
    have hll := l.leaves_len
    have hlm := l.marks_len
    unfold ear at h
    unfold red
    by_cases q : k < l.n
    · rw [if_pos q] at h ⊢
      obtain ⟨Pl, x, y, R, Mp, mm, Mr, h1, h2, h3, h4, h5, h6⟩ := red_lists l k h
      exact ⟨Pl, x, y, R ++ r.leaves, Mp, mm, Mr ++ [m] ++ r.marks, h1, by simp [leaves, h2], by simp [leaves, h3], h4, by simp [marks, h5], by simp [marks, h6]⟩
    · rw [if_neg q] at h ⊢
      by_cases q2 : k = l.n
      · rw [if_pos q2] at h ⊢
        obtain ⟨⟨x, rfl⟩, y, rfl⟩ := h
        exact ⟨[], x, y, [], [], m, [], by simp [n] at q2; simp [q2], by simp [leaves], by simp [leaves, text], by simp [n] at q2; simp [q2], by simp [marks], by simp [marks]⟩
      · rw [if_neg q2] at h ⊢
        have hk := (red_n r (k - l.n) h).2
        obtain ⟨Pl, x, y, R, Mp, mm, Mr, h1, h2, h3, h4, h5, h6⟩ := red_lists r (k - l.n) h
        exact ⟨l.leaves ++ Pl, x, y, R, l.marks ++ [m] ++ Mp, mm, Mr, by simp; omega, by simp [leaves, h2], by simp [leaves, h3], by simp; omega, by simp [marks, h5], by simp [marks, h6]⟩
/-- the gaps -/
theorem red_gaps : ∀ (t : T) (k : Nat), t.ear k → ∀ (c : Int) (ts : List T), hs c (t :: ts) = bump (bump (bump (ins k (hs c (t.red k :: ts))) (k - 1)) k) (k + 1)
  | leaf x, k, h => h.elim
  | node l m r, k, h => fun c ts => by
    have hm := hs_merge [] ts l r m c
    simp only [List.nil_append, sz, Nat.zero_add] at hm
    have hl := l.n_pos
    have hr := r.n_pos
    unfold ear at h
    unfold red
    by_cases q : k < l.n
    · rw [if_pos q] at h ⊢
      obtain ⟨n1, n2, n3⟩ := red_n l k h
      have hm' := hs_merge [] ts (l.red k) r m c
      simp only [List.nil_append, sz, Nat.zero_add] at hm'
      have hlen := hs_len (l.red k :: r :: ts) c
      simp only [sz] at hlen
      rw [hm, hm', red_gaps l k h c (r :: ts)]
      rw [ins_bump _ _ _ (by simp only [bump_len]; omega), ins_bump _ _ _ (by simp only [bump_len]; omega), ins_bump _ _ _ (by omega)]
      rw [if_pos (by omega), if_neg (by omega), if_neg (by omega), n1, show (l.red k).n + r.n + 1 = l.n + r.n by omega]
      generalize ins k (hs c (l.red k :: r :: ts)) = g
      rw [bump_comm _ (k + 1) 0, bump_comm _ k 0, bump_comm _ (k - 1) 0, bump_comm _ (k + 1) l.n, bump_comm _ k l.n, bump_comm _ (k - 1) l.n, bump_comm _ (k + 1) (l.n + r.n), bump_comm _ k (l.n + r.n), bump_comm _ (k - 1) (l.n + r.n)]
    · rw [if_neg q] at h ⊢
      by_cases q2 : k = l.n
      · rw [if_pos q2] at h ⊢
        obtain ⟨⟨x, rfl⟩, y, rfl⟩ := h
        rw [hm]
        have hk : k = 1 := q2
        subst hk
        simp only [hs, n, f, T.mid, la, List.nil_append, Int.add_zero]
        rfl
      · rw [if_neg q2] at h ⊢
        obtain ⟨n1, n2, n3⟩ := red_n r (k - l.n) h
        have hm' := hs_merge [] ts l (r.red (k - l.n)) m c
        simp only [List.nil_append, sz, Nat.zero_add] at hm'
        rw [hm, hm']
        obtain ⟨Pp, d, hP, hA⟩ := hs_app [l] [] c
        have hA1 := hA (r :: ts)
        have hA2 := hA (r.red (k - l.n) :: ts)
        simp only [sz, Nat.add_zero, List.singleton_append] at hP hA1 hA2
        rw [hA1, hA2, red_gaps r (k - l.n) h d ts]
        have hlen := hs_len (r.red (k - l.n) :: ts) d
        simp only [sz] at hlen
        rw [← bump_app, ← bump_app, ← bump_app, ← ins_app]
        rw [ins_bump _ _ _ (by simp only [bump_len, List.length_append]; omega), ins_bump _ _ _ (by simp only [bump_len, List.length_append]; omega), ins_bump _ _ _ (by simp only [List.length_append]; omega)]
        rw [if_pos (by omega), if_pos (by omega), if_neg (by omega), hP]
        rw [show l.n + (k - l.n) = k from Nat.add_sub_cancel' (Nat.le_of_not_lt q), show l.n + (k - l.n - 1) = k - 1 by rw [← Nat.add_sub_assoc n2, Nat.add_sub_cancel' (Nat.le_of_not_lt q)], show l.n + (k - l.n + 1) = k + 1 from congrArg (· + 1) (Nat.add_sub_cancel' (Nat.le_of_not_lt q)), show l.n + (r.red (k - l.n)).n + 1 = l.n + r.n by omega]
        generalize ins k (Pp ++ hs d (r.red (k - l.n) :: ts)) = g
        rw [bump_comm _ (k + 1) 0, bump_comm _ k 0, bump_comm _ (k - 1) 0, bump_comm _ (k + 1) l.n, bump_comm _ k l.n, bump_comm _ (k - 1) l.n, bump_comm _ (k + 1) (l.n + r.n), bump_comm _ k (l.n + r.n), bump_comm _ (k - 1) (l.n + r.n)]
theorem gl_hs (t : T) : hs 0 [t] = t.gl := by simp [hs, gl]
theorem gl_len (t : T) : t.gl.length = t.n + 1 := by have := t.mid_len; simp [gl]; omega
theorem red_gl (t : T) (k : Nat) (h : t.ear k) : ∃ A a b B, A.length = k - 1 ∧ t.gl = A ++ a :: 1 :: b :: B ∧ (t.red k).gl = A ++ (a - 1) :: (b - 1) :: B := by
  have := red_gaps t k h 0 []
  rw [gl_hs, gl_hs] at this
  obtain ⟨n1, n2, n3⟩ := red_n t k h
  have hlen := gl_len (t.red k)
  generalize (t.red k).gl = g at *
  obtain ⟨A, a, b, B, hA, e⟩ : ∃ A a b B, A.length = k - 1 ∧ g = A ++ a :: b :: B := by
    refine ⟨g.take (k - 1), g[k - 1]'(by omega), g[k]'(by omega), g.drop (k + 1), by simp; omega, ?_⟩
    conv => lhs; rw [← List.take_append_drop (k - 1) g]
    rw [List.drop_eq_getElem_cons (by omega)]
    congr 2
    rw [show k - 1 + 1 = k by omega, List.drop_eq_getElem_cons (by omega)]
  refine ⟨A, a + 1, b + 1, B, hA, ?_, by rw [e]; simp⟩
  rw [this, e]
  have e1 : ins k (A ++ a :: b :: B) = A ++ (a :: 0 :: b :: B) := by
    have := ins_app A (a :: b :: B) 1
    rw [show A.length + 1 = k by omega] at this
    rw [this]; rfl
  rw [e1, show k - 1 = A.length + 0 by omega, bump_app, show k = A.length + 1 by omega, bump_app, show A.length + 1 + 1 = A.length + 2 by omega, bump_app]
  rfl
theorem leaf_le : ∀ (t : T), ∀ x ∈ t.leaves, x.length ≤ t.text.length
  | leaf y, x, h => by simp [leaves] at h; simp [text, h]
  | node l m r, x, h => by
    simp only [leaves, List.mem_append] at h
    rcases h with h | h
    · have := leaf_le l x h; simp [text]; omega
    · have := leaf_le r x h; simp [text]; omega
end T
end Mine

-- F7
namespace Mine
open PySem PySem.W PySem.Calls PyProof.Rows PySem.SeqAt

/-- where the ears are -/
def earL (t : T) : List Nat := ((List.range (t.n - 1)).map (1 + ·)).filter fun k => t.gl.getD k 0 == 1
def pickE (number : Int) (t : T) : Nat := (earL t).getD (number % ((earL t).length : Int)).toNat 0
def stT (number : Int) (t : T) : Nat → T
  | 0 => t
  | j + 1 => (stT number t j).red (pickE number (stT number t j))
theorem gl_mid (t : T) (k : Nat) (h1 : 1 ≤ k) (h2 : k < t.n) : t.gl[k]? = t.mid[k - 1]? := by
  have := t.mid_len
  obtain ⟨i, rfl⟩ : ∃ i, k = i + 1 := ⟨k - 1, by omega⟩
  unfold T.gl
  rw [List.cons_append, List.getElem?_cons_succ, List.getElem?_append_left (by omega)]; rfl
theorem earL_mem {t : T} {k : Nat} (h : k ∈ earL t) : t.ear k := by
  obtain ⟨h1, h2⟩ := List.mem_filter.mp h
  obtain ⟨i, hi, rfl⟩ := List.mem_map.mp h1
  have hi' := List.mem_range.mp hi
  refine t.ear_of (1 + i) (by omega) (by omega) ?_
  rw [← gl_mid t _ (by omega) (by omega)]
  have hl := t.gl_len
  have h2 := eq_of_beq h2
  rw [List.getD_eq_getElem?_getD, List.getElem?_eq_getElem (by omega)] at h2
  rw [List.getElem?_eq_getElem (by omega)]
  exact congrArg some h2
theorem earL_ne (t : T) (h : 2 ≤ t.n) : 0 < (earL t).length := by
  obtain ⟨k, h1, h2, h3⟩ := t.ear_ex h
  refine List.length_pos_of_mem (a := k) (List.mem_filter.mpr ⟨List.mem_map.mpr ⟨k - 1, List.mem_range.mpr (by omega), by omega⟩, ?_⟩)
  rw [List.getD_eq_getElem?_getD, gl_mid t k h1 h2, h3]; rfl
theorem pickE_get (number : Int) (t : T) (h : 2 ≤ t.n) : (earL t)[(number % ((earL t).length : Int)).toNat]? = some (pickE number t) ∧ t.ear (pickE number t) := by
  have h0 := earL_ne t h
  have h1 : 0 ≤ number % ((earL t).length : Int) := Int.emod_nonneg _ (by omega)
  have h2 : number % ((earL t).length : Int) < ((earL t).length : Int) := Int.emod_lt_of_pos _ (by omega)
  have h3 : (number % ((earL t).length : Int)).toNat < (earL t).length := by omega
  have e : (earL t)[(number % ((earL t).length : Int)).toNat]? = some (pickE number t) := by
    unfold pickE
    rw [List.getD_eq_getElem?_getD, List.getElem?_eq_getElem h3]; rfl
  exact ⟨e, earL_mem (List.mem_of_getElem? e)⟩
theorem stT_n (number : Int) (t : T) : ∀ j, j < t.n → (stT number t j).n + j = t.n ∧ (stT number t j).text = t.text
  | 0, _ => ⟨rfl, rfl⟩
  | j + 1, h => by
    obtain ⟨h1, h2⟩ := stT_n number t j (by omega)
    obtain ⟨_, e⟩ := pickE_get number (stT number t j) (by omega)
    have := (T.red_n _ _ e).1
    exact ⟨by rw [stT]; omega, by rw [stT, T.red_text]; exact h2⟩

def gEar (gl : List Int) : D → Option D
  | .int k => if gl.getD k.toNat 0 == 1 then some (.int k) else none
  | _ => none
theorem gEar_all (t : T) : ((List.range (t.n - 1)).map fun (k : Nat) => D.int (1 + k)).filterMap (gEar t.gl) = (earL t).map fun k : Nat => D.int k := by
  unfold earL
  generalize t.gl = g
  generalize t.n - 1 = N
  induction N with
  | zero => rfl
  | succ N ih =>
    rw [List.range_succ, List.map_append, List.filterMap_append, ih, List.map_append, List.filter_append, List.map_append]
    congr 1
    have e : ((1 : Int) + (N : Int)).toNat = 1 + N := by omega
    simp only [List.map_cons, List.map_nil, List.filterMap_cons, List.filterMap_nil, gEar, e, List.filter_cons, List.filter_nil]
    cases g.getD (1 + N) 0 == 1 <;> simp

abbrev mkD (m : Nat) : D := tx [m]
theorem tn1 (n : Nat) : ((n : Int) + 1).toNat = n + 1 := by omega
theorem tn2 (n : Nat) : ((n : Int) + 2).toNat = n + 2 := by omega
theorem tnp (n : Nat) : ((n : Int) - 1).toNat = n - 1 := by omega
theorem t1n (n : Nat) : ((1 : Int) + (n : Int)).toNat = 1 + n := by omega
theorem pr_eq {k n : Nat} (h : 1 ≤ k) (e : n = k - 1) : k = n + 1 := by omega
theorem ar_k1 {k : Nat} (h : 1 ≤ k) : (0 : Int) ≤ (k : Int) - 1 := by omega
theorem ar_i {i n g : Nat} (h : i < n - 1) (hg : g = n + 1) : 1 + i < g := by omega
theorem ar_n1 {n : Nat} (h : 2 ≤ n) : (n : Int) = 1 + ((n - 1 : Nat) : Int) := by omega
theorem ar_1l {l n : Nat} (h : l = n) (h2 : 2 ≤ n) : (1 : Int) < (l : Int) := by omega
theorem ar_q3 {a b : Nat} (ha : a ≤ 1000) (hb : b ≤ 1000) : a + 1 + 1 + b ≤ 1000000 := by omega
theorem ar_q4 {a b : Nat} (ha : a ≤ 1000) (hb : b ≤ 1000) : a + (b + 1) ≤ 999998 := by omega

set_option maxHeartbeats 1000000 in
theorem f74 (t : T) (number : Int) (h1 : 1 ≤ t.n) (h2 : t.n ≤ 10) (hlen : t.text.length ≤ 1000) : Fn 74 8 [nums t.gl, .lst (t.leaves.map tx), .lst (t.marks.map mkD), .int number] (.tup [.lst [tx t.text], nums [0, 0]]) := by
  refine Fn.ofC ["told", "things", "marks", "number"] [("told", .cell (nums t.gl)), ("things", .val (.lst (t.leaves.map tx))), ("marks", .val (.lst (t.marks.map mkD))), ("number", .val (.int number))] rfl rfl (by omega) (fun _ _ _ vs h => by obtain ⟨_, _, _, _, rfl⟩ := len4 h; rfl) (fun L x hx => ?_) (fun h X L vs a x b e => ?_) (fun w A L a cd h₀ mg mb X₀ lv hlv => ?_) (fun L n c h => ?_)
  · rcases List.mem_cons.mp hx with rfl | hx
    · exact .inr ⟨rfl, rfl⟩
    · rcases List.mem_cons.mp hx with rfl | hx
      · exact .inl rfl
      · rcases List.mem_cons.mp hx with rfl | hx
        · exact .inl rfl
        · rw [List.mem_singleton.mp hx]; exact .inl rfl
  · cases a with | cons a1 a => cases a with | cons a2 a => cases a with | cons a3 a => cases a with | cons a4 a => cases a with | nil =>
    rcases look_cons e with ⟨rfl, rfl⟩ | ⟨_, e⟩
    · exact .inr (.inl ⟨_, _, _, rfl, rfl, rfl, a1⟩)
    · rcases look_cons e with ⟨rfl, rfl⟩ | ⟨_, e⟩
      · exact .inl ⟨_, _, rfl, rfl, a2⟩
      · rcases look_cons e with ⟨rfl, rfl⟩ | ⟨_, e⟩
        · exact .inl ⟨_, _, rfl, rfl, a3⟩
        · rcases look_cons e with ⟨rfl, rfl⟩ | ⟨_, e⟩
          · exact .inl ⟨_, _, rfl, rfl, a4⟩
          · cases e
  · refine Exs.cons (Ex.while (fun j => [("told", .cell (nums (stT number t j).gl)), ("things", .val (.lst ((stT number t j).leaves.map tx))), ("marks", .val (.lst ((stT number t j).marks.map mkD))), ("number", .val (.int number))]) (t.n - 1) (weak ⟨rfl, rfl, rfl, rfl, trivial⟩) (fun j hj => ?_) (.inl ⟨?_, rfl⟩)) ?_
    · obtain ⟨n1, n2⟩ := stT_n number t j (by omega)
      have hst : stT number t (j + 1) = (stT number t j).red (pickE number (stT number t j)) := rfl
      rw [hst]
      generalize stT number t j = T at *
      have hT2 : 2 ≤ T.n := by omega
      obtain ⟨p1, p2⟩ := pickE_get number T hT2
      have hE := earL_ne T hT2
      have hll := T.leaves_len
      have hml := T.marks_len
      have hgl := T.gl_len
      have hTn : T.n ≤ 10 := Nat.le_trans (Nat.le_trans (Nat.le_add_right _ _) (Nat.le_of_eq n1)) h2
      have hLv : T.leaves.length ≤ 10 := Nat.le_trans (Nat.le_of_eq hll) hTn
      have hGv : T.gl.length ≤ 11 := Nat.le_trans (Nat.le_of_eq hgl) (Nat.succ_le_succ hTn)
      have hEl : (earL T).length ≤ 10 := Nat.le_trans (List.length_filter_le ..) (by simp; omega)
      obtain ⟨r1, r2, r3⟩ := T.red_n _ p2
      constructor
      · refine Tr.cmp (Ev.lenL rfl (EvL.of (Ev.loc rfl rfl)) (by rw [List.length_map]; exact Nat.le_trans hLv (by decide))) Ev.int ?_
        rw [show true = decide ((1 : Int) < ((T.leaves.map tx).length : Int)) from (decide_eq_true (by rw [List.length_map]; exact ar_1l hll hT2)).symm]
        exact Bop.gt
      · refine Exs.cons (Ex.assignComp (cl := [("told", L + 1)]) (ds := (List.range (T.n - 1)).map fun (k : Nat) => D.int (1 + k)) [("told", .cell (nums T.gl))] (gEar T.gl) (EvIt.range2 rfl Ev.int (Ev.eqv (by rw [List.length_map, hll]; congr 1; exact ar_n1 hT2) (Ev.lenL rfl (EvL.of (Ev.loc rfl rfl)) (by rw [List.length_map]; exact Nat.le_trans hLv (by decide)))) (by decide) (by decide) (Nat.le_trans (Nat.sub_le _ _) (Nat.le_trans hTn (by decide)))) rfl (fun x b e => ?_) (fun K Z k d hd => ?_) (by simp; omega) rfl) ?_
        · rcases look_cons e with ⟨rfl, rfl⟩ | ⟨_, e⟩
          · exact ⟨⟨_, rfl, rfl⟩, rfl, rfl⟩
          · cases e
        · obtain ⟨i, hi, rfl⟩ := get_map hd
          have hi2 : i < T.n - 1 := by
            have := (List.getElem?_eq_some_iff.mp hi); obtain ⟨a, b⟩ := this; simp at a b; omega
          refine ⟨_, As.name rfl, weak ⟨rfl, trivial⟩, ?_⟩
          have e : ((1 : Int) + (i : Int)).toNat = 1 + i := t1n i
          have hg : (T.gl.map D.int)[((1 : Int) + (i : Int)).toNat]? = some (.int (T.gl.getD (1 + i) 0)) := by
            rw [e, List.getElem?_map, List.getD_eq_getElem?_getD, List.getElem?_eq_getElem (ar_i hi2 hgl)]; rfl
          simp only [gEar, e]
          cases hq : T.gl.getD (1 + i) 0 == 1 with
          | true =>
            have := eq_of_beq hq
            exact ⟨Tests.one (Tr.of (Ev.fn rfl (f64 _) (by show lv ≤ 9; omega) rfl (Evs.cons (Ev.bin (Ev.subL (EvL.of (Ev.cel rfl rfl)) (Ev.loc rfl rfl) (by omega) (by rw [List.length_map]; exact Nat.le_trans hGv (by decide)) hg) Ev.int Bop.sub) Evs.nil)) (by rw [show (T.gl.getD (1 + i) 0 - 1 == 0) = true by rw [this]; rfl]; exact Truth.bool)), Ev.loc rfl rfl⟩
          | false =>
            have := ne_of_beq_false hq
            exact Tests.one (Tr.of (Ev.fn rfl (f64 _) (by show lv ≤ 9; omega) rfl (Evs.cons (Ev.bin (Ev.subL (EvL.of (Ev.cel rfl rfl)) (Ev.loc rfl rfl) (by omega) (by rw [List.length_map]; exact Nat.le_trans hGv (by decide)) hg) Ev.int Bop.sub) Evs.nil)) (by rw [show (T.gl.getD (1 + i) 0 - 1 == 0) = false from beq_eq_false_iff_ne.mpr (by omega)]; exact Truth.bool))
        · rw [gEar_all]
          obtain ⟨Pl, x, y, R, Mp, m, Mr, l1, l2, l3, l4, l5, l6⟩ := T.red_lists _ p2
          obtain ⟨Ag, ga, gb, Bg, g1, g2, g3⟩ := T.red_gl _ p2
          have hxl := T.leaf_le x (by rw [l2]; simp)
          have hyl := T.leaf_le y (by rw [l2]; simp)
          rw [n2] at hxl hyl
          rw [l3, l6, g3]
          have hEk : (((earL T).map fun k : Nat => D.int k))[(number % ((((earL T).map fun k : Nat => D.int k)).length : Int)).toNat]? = some (.int (pickE number T : Nat)) := by
            rw [List.length_map, List.getElem?_map, p1]; rfl
          have hEm : 0 < (((((earL T).map fun k : Nat => D.int k)).length : Nat) : Int) := by rw [List.length_map]; omega
          have hE6 : (((earL T).map fun k : Nat => D.int k)).length ≤ 1000000 := by rw [List.length_map]; omega
          generalize hk : pickE number T = k at *
          rw [l2] at hll
          rw [l5] at hml
          rw [g2] at hgl
          rw [l2, l5, g2]
          clear p1 p2 r1
          refine Exs.cons (Ex.iff (Tr.cmp (Ev.loc rfl rfl) (Ev.list Evs.nil (by show 0 ≤ 1000; decide)) (Bop.eqLen (by rw [List.length_map]; simp; intro q; rw [q] at hE; simp at hE))) Exs.nil) ?_
          refine Exs.cons (Ex.assign (Ev.subL (EvL.of (Ev.loc rfl rfl)) (Ev.bin (Ev.loc rfl rfl) (Ev.lenL rfl (EvL.of (Ev.loc rfl rfl)) hE6) (Bop.mod hEm)) (Int.emod_nonneg _ (by omega)) hE6 hEk) rfl) ?_
          simp at hll hml hgl
          have bP : Pl.length + (R.length + 1 + 1) ≤ 10 := Nat.le_trans (Nat.le_of_eq hll) hTn
          have bM : Mp.length + (Mr.length + 1) ≤ 10 := Nat.le_of_succ_le (Nat.le_trans (Nat.le_of_eq hml) hTn)
          have bA : Ag.length + (Bg.length + 1 + 1 + 1) ≤ 11 := Nat.le_trans (Nat.le_of_eq hgl) (Nat.succ_le_succ hTn)
          have kP : k = Pl.length + 1 := pr_eq r2 l1
          have kM : k = Mp.length + 1 := pr_eq r2 l4
          have kA : k = Ag.length + 1 := pr_eq r2 g1
          have hk0 : (0 : Int) ≤ (k : Int) - 1 := ar_k1 r2
          have hkk : (0 : Int) ≤ (k : Int) := Int.natCast_nonneg k
          have hk1 : (0 : Int) ≤ (k : Int) + 1 := Int.natCast_nonneg (k + 1)
          have hk2 : (0 : Int) ≤ (k : Int) + 2 := Int.natCast_nonneg (k + 2)
          have hx3 : x.length ≤ 1000 := Nat.le_trans hxl hlen
          have hy3 : y.length ≤ 1000 := Nat.le_trans hyl hlen
          have hth6 : ((Pl ++ x :: y :: R).map tx).length ≤ 1000000 := by simp only [List.length_map, List.length_append, List.length_cons]; exact Nat.le_trans bP (by decide)
          have hmk6 : ((Mp ++ m :: Mr).map mkD).length ≤ 1000000 := by simp only [List.length_map, List.length_append, List.length_cons]; exact Nat.le_trans bM (by decide)
          have hgl6 : ((Ag ++ ga :: 1 :: gb :: Bg).map D.int).length ≤ 1000000 := by simp only [List.length_map, List.length_append, List.length_cons]; exact Nat.le_trans bA (by decide)
          have t1 : ((Pl ++ x :: y :: R).map tx)[((k : Int) - 1).toNat]? = some (tx x) := by
            rw [show ((k : Int) - 1).toNat = Pl.length from (tnp k).trans l1.symm, List.getElem?_map, List.getElem?_append_right (Nat.le_refl _)]; simp
          have t2 : ((Pl ++ x :: y :: R).map tx)[((k : Int)).toNat]? = some (tx y) := by
            rw [show ((k : Int)).toNat = Pl.length + 1 from (Int.toNat_natCast k).trans kP, List.getElem?_map, List.getElem?_append_right (Nat.le_add_right _ _)]; simp
          have t3 : ((Mp ++ m :: Mr).map mkD)[((k : Int) - 1).toNat]? = some (tx [m]) := by
            rw [show ((k : Int) - 1).toNat = Mp.length from (tnp k).trans l4.symm, List.getElem?_map, List.getElem?_append_right (Nat.le_refl _)]; simp
          have q1 : (txt [40]).length + (txt x).length ≤ 1000000 := by rw [txt_len, txt_len]; simp; first | exact Nat.le_trans hx3 (by decide) | exact Nat.le_trans (Nat.add_le_add_left hx3 1) (by decide)
          have q2 : (txt [40] ++ txt x).length + (txt [m]).length ≤ 1000000 := by rw [txt_app, txt_len, txt_len]; simp; first | exact Nat.le_trans hx3 (by decide) | exact Nat.le_trans (Nat.add_le_add_right hx3 _) (by decide)
          have q3 : (txt [40] ++ txt x ++ txt [m]).length + (txt y).length ≤ 1000000 := by rw [txt_app, txt_app, txt_len, txt_len]; simp; first | exact ar_q3 hx3 hy3 | exact ar_q4 hx3 hy3 | omega
          have q4 : (txt [40] ++ txt x ++ txt [m] ++ txt y).length + (txt [41]).length ≤ 1000000 := by rw [txt_app, txt_app, txt_app, txt_len, txt_len]; simp; first | exact ar_q3 hx3 hy3 | exact ar_q4 hx3 hy3 | omega
          have hw : txt [40] ++ txt x ++ txt [m] ++ txt y ++ txt [41] = txt ([40] ++ x ++ [m] ++ y ++ [41]) := by rw [txt_app, txt_app, txt_app, txt_app]
          refine Exs.cons (Ex.assign (Ev.eqv (congrArg D.str hw) (Ev.bin (Ev.bin (Ev.bin (Ev.bin Ev.str (Ev.subL (EvL.of (Ev.loc rfl rfl)) (Ev.bin (Ev.loc rfl rfl) Ev.int Bop.sub) hk0 hth6 t1) (Bop.addS q1)) (Ev.subL (EvL.of (Ev.loc rfl rfl)) (Ev.bin (Ev.loc rfl rfl) Ev.int Bop.sub) hk0 hmk6 t3) (Bop.addS q2)) (Ev.subL (EvL.of (Ev.loc rfl rfl)) (Ev.loc rfl rfl) hkk hth6 t2) (Bop.addS q3)) Ev.str (Bop.addS q4))) rfl) ?_
          have s1 : ((Ag ++ ga :: 1 :: gb :: Bg).map D.int)[((k : Int) - 1).toNat]? = some (.int ga) := by
            rw [show ((k : Int) - 1).toNat = Ag.length from (tnp k).trans g1.symm, List.getElem?_map, List.getElem?_append_right (Nat.le_refl _)]; simp
          have s2 : ((Ag ++ ga :: 1 :: gb :: Bg).map D.int)[((k : Int) + 1).toNat]? = some (.int gb) := by
            rw [show ((k : Int) + 1).toNat = Ag.length + 2 from (tn1 k).trans (congrArg (· + 1) kA), List.getElem?_map, List.getElem?_append_right (Nat.le_add_right _ _)]; simp
          have s3 : ((Ag ++ ga :: 1 :: gb :: Bg).map D.int).take ((k : Int) - 1).toNat ++ [.int (ga - 1), .int (gb - 1)] ++ ((Ag ++ ga :: 1 :: gb :: Bg).map D.int).drop ((k : Int) + 2).toNat = (Ag ++ (ga - 1) :: (gb - 1) :: Bg).map D.int := by
            rw [show ((k : Int) - 1).toNat = (Ag.map D.int).length from ((tnp k).trans g1.symm).trans (List.length_map _).symm, show ((k : Int) + 2).toNat = (Ag.map D.int).length + 3 from (tn2 k).trans ((congrArg (· + 2) kA).trans (by rw [List.length_map])), List.map_append, List.take_left, List.drop_append]
            simp
          have s4 : (((Ag ++ ga :: 1 :: gb :: Bg).map D.int).take ((k : Int) - 1).toNat).length ≤ 1000 := by simp; exact Nat.le_trans (Nat.min_le_right _ _) (Nat.le_trans bA (by decide))
          have s5 : (((Ag ++ ga :: 1 :: gb :: Bg).map D.int).drop ((k : Int) + 2).toNat).length ≤ 1000 := by simp; exact Nat.le_trans (Nat.le_trans bA (by decide)) (Nat.le_add_right 1000 _)
          refine Exs.cons (Ex.assignCell (Ev.eqv (congrArg D.lst s3) (EvN.add (EvN.add (EvL.of (Ev.sliceTo (EvL.of (Ev.cel rfl rfl)) (Ev.bin (Ev.loc rfl rfl) Ev.int Bop.sub) hk0 hgl6)) (EvL.of (Ev.list (Evs.cons (Ev.bin (Ev.subL (EvL.of (Ev.cel rfl rfl)) (Ev.bin (Ev.loc rfl rfl) Ev.int Bop.sub) hk0 hgl6 s1) Ev.int Bop.sub) (Evs.cons (Ev.bin (Ev.subL (EvL.of (Ev.cel rfl rfl)) (Ev.bin (Ev.loc rfl rfl) Ev.int Bop.add) hk1 hgl6 s2) Ev.int Bop.sub) Evs.nil)) (by show 2 ≤ 1000; decide))) (Nat.le_trans (Nat.add_le_add_right s4 2) (by decide))).toL (EvL.of (Ev.sliceFrom (EvL.of (Ev.cel rfl rfl)) (Ev.bin (Ev.loc rfl rfl) Ev.int Bop.add) (by omega) hgl6)) (by rw [List.length_append]; exact Nat.le_trans (Nat.add_le_add (Nat.add_le_add_right s4 2) s5) (by decide))).toE) (.inr ⟨_, rfl⟩) rfl (by rfl) (fun y b c _ _ c1 c2 => ?_)) ?_
          · have c2 : List.lookup y [(("told" : Str), (L + 1 : Addr))] = some c := c2
            rw [List.lookup_cons] at c2
            cases q : y == ("told" : Str) with
            | true => exact eq_of_beq q
            | false => rw [q] at c2; cases c2
          have u3 : ((Pl ++ x :: y :: R).map tx).take ((k : Int) - 1).toNat ++ [tx ([40] ++ x ++ [m] ++ y ++ [41])] ++ ((Pl ++ x :: y :: R).map tx).drop ((k : Int) + 1).toNat = (Pl ++ ([40] ++ x ++ [m] ++ y ++ [41]) :: R).map tx := by
            rw [show ((k : Int) - 1).toNat = (Pl.map tx).length from ((tnp k).trans l1.symm).trans (List.length_map _).symm, show ((k : Int) + 1).toNat = (Pl.map tx).length + 2 from (tn1 k).trans ((congrArg (· + 1) kP).trans (by rw [List.length_map])), List.map_append, List.take_left, List.drop_append]
            simp
          have u4 : (((Pl ++ x :: y :: R).map tx).take ((k : Int) - 1).toNat).length ≤ 1000 := by simp; exact Nat.le_trans (Nat.min_le_right _ _) (Nat.le_trans bP (by decide))
          have u5 : (((Pl ++ x :: y :: R).map tx).drop ((k : Int) + 1).toNat).length ≤ 1000 := by simp; exact Nat.le_trans (Nat.le_trans bP (by decide)) (Nat.le_add_right 1000 _)
          refine Exs.cons (Ex.assign (Ev.eqv (congrArg D.lst u3) (EvN.add (EvN.add (EvL.of (Ev.sliceTo (EvL.of (Ev.loc rfl rfl)) (Ev.bin (Ev.loc rfl rfl) Ev.int Bop.sub) hk0 hth6)) (EvL.of (Ev.list (Evs.cons (Ev.loc rfl rfl) Evs.nil) (by show 1 ≤ 1000; decide))) (Nat.le_trans (Nat.add_le_add_right u4 1) (by decide))).toL (EvL.of (Ev.sliceFrom (EvL.of (Ev.loc rfl rfl)) (Ev.bin (Ev.loc rfl rfl) Ev.int Bop.add) hk1 hth6)) (by rw [List.length_append]; exact Nat.le_trans (Nat.add_le_add (Nat.add_le_add_right u4 1) u5) (by decide))).toE) rfl) ?_
          have v3 : ((Mp ++ m :: Mr).map mkD).take ((k : Int) - 1).toNat ++ ((Mp ++ m :: Mr).map mkD).drop ((k : Int)).toNat = (Mp ++ Mr).map mkD := by
            rw [show ((k : Int) - 1).toNat = (Mp.map mkD).length from ((tnp k).trans l4.symm).trans (List.length_map _).symm, show ((k : Int)).toNat = (Mp.map mkD).length + 1 from (Int.toNat_natCast k).trans (kM.trans (by rw [List.length_map])), List.map_append, List.take_left, List.drop_append]
            simp
          have v4 : (((Mp ++ m :: Mr).map mkD).take ((k : Int) - 1).toNat).length ≤ 1000 := by simp; exact Nat.le_trans (Nat.min_le_right _ _) (Nat.le_trans bM (by decide))
          have v5 : (((Mp ++ m :: Mr).map mkD).drop ((k : Int)).toNat).length ≤ 1000 := by simp; exact Nat.le_trans (Nat.le_trans bM (by decide)) (Nat.le_add_right 1000 _)
          refine Exs.cons (Ex.assign (Ev.eqv (congrArg D.lst v3) (EvN.add (EvL.of (Ev.sliceTo (EvL.of (Ev.loc rfl rfl)) (Ev.bin (Ev.loc rfl rfl) Ev.int Bop.sub) hk0 hmk6)) (EvL.of (Ev.sliceFrom (EvL.of (Ev.loc rfl rfl)) (Ev.loc rfl rfl) hkk hmk6)) (Nat.le_trans (Nat.add_le_add v4 v5) (by decide))).toE) rfl) ?_
          exact Exs.nil.post (weak ⟨rfl, rfl, rfl, rfl, trivial⟩)
    · obtain ⟨n1, n2⟩ := stT_n number t (t.n - 1) (by omega)
      have hll := (stT number t (t.n - 1)).leaves_len
      refine Tr.cmp (Ev.lenL rfl (EvL.of (Ev.loc rfl rfl)) (by rw [List.length_map]; omega)) Ev.int ?_
      rw [show false = decide ((1 : Int) < (((stT number t (t.n - 1)).leaves.map tx).length : Int)) from (decide_eq_false (by rw [List.length_map]; omega)).symm]
      exact Bop.gt
    · obtain ⟨n1, n2⟩ := stT_n number t (t.n - 1) (by omega)
      have hone : ∀ T : T, T.n = 1 → ∃ x, T = .leaf x := fun T h => by
        cases T with
        | leaf x => exact ⟨x, rfl⟩
        | node l m r => have := l.n_pos; have := r.n_pos; simp [Mine.T.n] at h; omega
      obtain ⟨x, hx⟩ := hone _ (show (stT number t (t.n - 1)).n = 1 by omega)
      rw [hx] at n2 ⊢
      have hx2 : x = t.text := n2
      subst hx2
      exact Exs.stop (Ex.ret (Ev.tuple (Evs.cons (Ev.loc rfl rfl) (Evs.cons (Ev.cel rfl rfl) Evs.nil)) (by show 2 ≤ 1000; decide))) (fun _ h => nomatch h)
  · have h : (n, c) ∈ [(("told" : Str), (L + 1 : Addr))] := h
    have := List.mem_singleton.mp h
    cases this
    rfl
end Mine

-- P4
namespace Mine

/-- units beside the places of their last signs -/
def places : Nat → List (List Nat) → List (Nat × List Nat)
  | _, [] => []
  | j, u :: us => (j + u.length - 1, u) :: places (j + u.length) us
theorem places_app : ∀ (a b : List (List Nat)) (j : Nat), places j (a ++ b) = places j a ++ places (j + a.flatten.length) b
  | [], b, j => by simp [places]
  | u :: a, b, j => by simp [places, places_app a b, Nat.add_assoc]
theorem places_one (j c : Nat) (us : List (List Nat)) : places j ([c] :: us) = (j, [c]) :: places (j + 1) us := rfl
theorem places_snd : ∀ (a : List (List Nat)) (j : Nat), (places j a).map (·.2) = a
  | [], _ => rfl
  | u :: a, j => by simp [places, places_snd a]
theorem places_len (a : List (List Nat)) (j : Nat) : (places j a).length = a.length := by
  have := congrArg List.length (places_snd a j); simpa using this
namespace T
theorem units_flat : ∀ t : T, t.units.flatten = t.text
  | leaf x => by simp [units, text]
  | node l m r => by simp [units, text, units_flat l, units_flat r]
theorem pool_cases : ∀ x ∈ pool, (∃ c, x = [c] ∧ c ≠ 92) ∨ ∃ c, x = [92, c] := by
  intro x hx
  simp only [pool, List.mem_cons, List.not_mem_nil, or_false] at hx
  rcases hx with rfl | rfl | rfl | rfl | rfl | rfl | rfl | rfl
  all_goals first | exact .inl ⟨_, rfl, by decide⟩ | exact .inr ⟨_, rfl⟩
theorem ops_ne : ∀ m ∈ ops, m ≠ 92 ∧ m ≠ 40 ∧ m ≠ 41 := by decide
theorem ufrom_one (j c : Nat) (rest : List Nat) (h : c ≠ 92) : ufrom j (c :: rest) false = (j, [c]) :: ufrom (j + 1) rest false := by rw [ufrom, if_neg h]
theorem ufrom_text : ∀ (t : T), t.Ok → ∀ (j : Nat) (rest : List Nat), ufrom j (t.text ++ rest) false = places j t.units ++ ufrom (j + t.text.length) rest false
  | leaf x, h, j, rest => by
    rcases pool_cases x h with ⟨c, rfl, hc⟩ | ⟨c, rfl⟩
    · simp only [text, units, List.singleton_append]
      rw [ufrom_one _ _ _ hc]; simp [places]
    · simp only [text, units, List.cons_append, List.nil_append]
      rw [ufrom, if_pos rfl, ufrom]; simp [places]
  | node l m r, h, j, rest => by
    have hm := (ops_ne m h.2.1).1
    have e1 : (node l m r).text ++ rest = 40 :: (l.text ++ (m :: (r.text ++ (41 :: rest)))) := by simp [text]
    have e2 : (node l m r).units = [40] :: (l.units ++ ([m] :: (r.units ++ [[41]]))) := by simp [units]
    have e3 : j + (node l m r).text.length = j + 1 + l.text.length + 1 + r.text.length + 1 := by simp [text]; omega
    rw [e1, e2, e3, ufrom_one _ _ _ (by decide), ufrom_text l h.1, ufrom_one _ _ _ hm, ufrom_text r h.2.2, ufrom_one _ _ _ (by decide)]
    rw [places_one, places_app, units_flat, places_one, places_app, units_flat, places_one]
    simp [places]
theorem ufrom_all (t : T) (h : t.Ok) : ufrom 0 t.text false = places 0 t.units := by
  have := ufrom_text t h 0 []
  simpa [ufrom] using this
theorem ufrom_more (t : T) (h : t.Ok) : ufrom 0 (t.text ++ [92]) false = places 0 t.units ++ [(t.text.length, [92])] := by
  have := ufrom_text t h 0 [92]
  rw [this]; simp [ufrom]
end T

/-- brackets opened, less those closed -/
def bal (us : List (List Nat)) : Int := ((us.filter fun u => u = [40]).length : Int) - ((us.filter fun u => u = [41]).length : Int)
theorem bal_app (a b : List (List Nat)) : bal (a ++ b) = bal a + bal b := by simp [bal]; omega
theorem deep_bal (us : List (Nat × List Nat)) (k : Nat) : deep us k = bal ((us.map (·.2)).take k) := by
  unfold deep bal
  rw [← List.map_take]
  have : ∀ (l : List (Nat × List Nat)) (c : List Nat), (l.filter fun u => decide (u.2 = c)).length = ((l.map (·.2)).filter fun u => decide (u = c)).length := by
    intro l c
    induction l with
    | nil => rfl
    | cons x l ih => simp only [List.filter_cons, List.map_cons]; split <;> simp [ih]
  rw [this, this]
/-- no bracket is closed that was not opened -/
def Bal (us : List (List Nat)) (c : Int) : Prop := (∀ k, 0 ≤ bal (us.take k)) ∧ bal us = c
theorem Bal.app {a b : List (List Nat)} {c d : Int} (x : Bal a c) (hc : 0 ≤ c) (y : Bal b d) : Bal (a ++ b) (c + d) := by
  refine ⟨fun k => ?_, by rw [bal_app, x.2, y.2]⟩
  rw [List.take_append, bal_app]
  by_cases h : k ≤ a.length
  · rw [show k - a.length = 0 by omega]
    have := x.1 k
    simp [bal] at this ⊢; omega
  · rw [List.take_of_length_le (by omega), x.2]
    have := y.1 (k - a.length); omega
theorem Bal.one (u : List Nat) (h : u ≠ [41]) : Bal [u] (if u = [40] then 1 else 0) := by
  refine ⟨fun k => ?_, ?_⟩
  · cases k with
    | zero => simp [bal]
    | succ k => by_cases q : u = [40] <;> simp [bal, q, h]
  · by_cases q : u = [40] <;> simp [bal, q, h]
namespace T
theorem pool_plain : ∀ x ∈ pool, x ≠ [40] ∧ x ≠ [41] ∧ x ≠ [34] := by decide
theorem bal_units : ∀ t : T, t.Ok → Bal t.units 0
  | leaf x, h => by have := Bal.one x (pool_plain x h).2.1; rw [if_neg (pool_plain x h).1] at this; exact this
  | node l m r, h => by
    have hm := ops_ne m h.2.1
    have h1 := Bal.one [40] (by decide)
    have h2 := Bal.one [m] (by simpa using hm.2.2)
    rw [if_neg (by simpa using hm.2.1)] at h2
    have h3 : Bal ([40] :: (l.units ++ [[m]] ++ r.units)) 1 := by
      have := ((h1.app (by decide) (bal_units l h.1)).app (by decide) h2).app (by decide) (bal_units r h.2.2)
      simpa using this
    refine ⟨fun k => ?_, ?_⟩
    · have e : (node l m r).units = ([40] :: (l.units ++ [[m]] ++ r.units)) ++ [[41]] := by simp [units]
      rw [e, List.take_append, bal_app]
      have a := h3.1 k
      by_cases q : k ≤ ([40] :: (l.units ++ [[m]] ++ r.units)).length
      · rw [show k - ([40] :: (l.units ++ [[m]] ++ r.units)).length = 0 by omega]
        simp only [List.take_zero]
        have : bal [] = 0 := rfl
        omega
      · rw [List.take_of_length_le (by omega), h3.2, List.take_of_length_le (by show 1 ≤ _; omega)]
        decide
    · have e : (node l m r).units = ([40] :: (l.units ++ [[m]] ++ r.units)) ++ [[41]] := by simp [units]
      rw [e, bal_app, h3.2]; decide
/-- all but the last bracket -/
def cut : T → List (List Nat)
  | leaf x => [x]
  | node l m r => [40] :: (l.units ++ [[m]] ++ r.units)
theorem cut_bal (l : T) (m : Nat) (r : T) (h : (node l m r).Ok) : Bal (node l m r).cut 1 := by
  have hm := ops_ne m h.2.1
  have h1 := Bal.one [40] (by decide)
  have h2 := Bal.one [m] (by simpa using hm.2.2)
  rw [if_neg (by simpa using hm.2.1)] at h2
  have := ((h1.app (by decide) (bal_units l h.1)).app (by decide) h2).app (by decide) (bal_units r h.2.2)
  simpa [cut] using this
theorem text_cut (l : T) (m : Nat) (r : T) : (node l m r).text.dropLast = 40 :: (l.text ++ [m] ++ r.text) := by
  show (40 :: (l.text ++ [m] ++ r.text ++ [41])).dropLast = _
  rw [← List.cons_append, List.dropLast_concat]
theorem ufrom_cut (l : T) (m : Nat) (r : T) (h : (node l m r).Ok) (j : Nat) : ufrom j (node l m r).text.dropLast false = places j (node l m r).cut := by
  have hm := (ops_ne m h.2.1).1
  have e1 : (node l m r).text.dropLast = 40 :: (l.text ++ (m :: (r.text ++ []))) := by rw [text_cut]; simp
  have e2 : (node l m r).cut = [40] :: (l.units ++ ([m] :: r.units)) := by simp [cut]
  rw [e1, e2, ufrom_one _ _ _ (by decide), ufrom_text l h.1, ufrom_one _ _ _ hm, ufrom_text r h.2.2]
  rw [places_one, places_app, units_flat, places_one]
  simp [ufrom]
theorem units_no34 : ∀ t : T, t.Ok → ∀ u ∈ t.units, u ≠ [34]
  | leaf x, h, u, hu => by simp [units] at hu; rw [hu]; exact (pool_plain x h).2.2
  | node l m r, h, u, hu => by
    simp only [units, List.mem_cons, List.mem_append, List.mem_singleton, List.not_mem_nil, or_false] at hu
    have ho : ∀ m ∈ ops, [m] ≠ [34] := by decide
    rcases hu with rfl | ((hu | rfl) | hu) | rfl
    · decide
    · exact units_no34 l h.1 u hu
    · exact ho m h.2.1
    · exact units_no34 r h.2.2 u hu
    · decide
theorem cut_sub (t : T) : ∀ u ∈ t.cut, u ∈ t.units := by
  cases t with
  | leaf x => exact fun u h => h
  | node l m r => intro u h; simp only [cut, units, List.mem_cons, List.mem_append, List.not_mem_nil, or_false] at h ⊢; rcases h with h | (h | h) | h <;> simp [h]
end T
end Mine

-- P5
namespace Mine
open PySem PySem.W PySem.Calls PyProof.Rows PySem.SeqAt

/-- the number that tells a unit -/
def symU (u : List Nat) : Int := match u with
  | [40] => 7 | [41] => 8 | [43] => 14 | [45] => 15 | [42] => 16 | [47] => 17 | [37] => 24 | [64] => 49 | [124] => 18 | [38] => 19 | [94] => 32 | [60] => 20 | [62] => 21 | [61] => 22
  | _ => 256
theorem sym_pool : ∀ u ∈ pool, symU u = 256 := by decide
theorem sym_pool_etn : ∀ u ∈ pool, txt u ∈ etn := by decide +kernel
theorem sym_ops : ∀ m ∈ ops, 8 < symU [m] ∧ symU [m] < 256 := by decide
theorem sym_ops_ett : ∀ m ∈ ops, (txt [m], symU [m]) ∈ ett := by decide +kernel
theorem sym_open : (txt [40], symU [40]) ∈ ett ∧ (txt [41], symU [41]) ∈ ett := by decide +kernel
namespace T
theorem units_sym : ∀ t : T, t.Ok → ∀ u ∈ t.units, (txt u, symU u) ∈ ett ∨ (txt u ∈ etn ∧ symU u = 256)
  | leaf x, h, u, hu => by simp [units] at hu; rw [hu]; exact .inr ⟨sym_pool_etn x h, sym_pool x h⟩
  | node l m r, h, u, hu => by
    simp only [units, List.mem_cons, List.mem_append, List.mem_singleton, List.not_mem_nil, or_false] at hu
    rcases hu with rfl | ((hu | rfl) | hu) | rfl
    · exact .inl sym_open.1
    · exact units_sym l h.1 u hu
    · exact .inl (sym_ops_ett m h.2.1)
    · exact units_sym r h.2.2 u hu
    · exact .inl sym_open.2
theorem gaps_fold : ∀ t : T, t.Ok → ∀ (fr : List Int) (c : Int), (t.units.map symU).foldl hstep (fr, c) = (fr ++ [c + t.f] ++ t.mid, t.la)
  | leaf x, h, fr, c => by
    simp only [units, List.map_cons, List.map_nil, List.foldl_cons, List.foldl_nil, hstep, sym_pool x h, f, mid, la]
    simp
  | node l m r, h, fr, c => by
    have hm := sym_ops m h.2.1
    simp only [units, List.map_cons, List.map_nil, List.map_append, List.foldl_cons, List.foldl_append, List.foldl_nil]
    have s1 : hstep (fr, c) (symU [40]) = (fr, c + 1) := by unfold hstep; rw [if_neg (by decide)]
    rw [s1, gaps_fold l h.1]
    have s2 : ∀ p : List Int × Int, hstep p (symU [m]) = (p.1, p.2 + 1) := fun p => by unfold hstep; rw [if_neg (by omega)]
    rw [s2, gaps_fold r h.2.2]
    have s3 : ∀ p : List Int × Int, hstep p (symU [41]) = (p.1, p.2 + 1) := fun p => by unfold hstep; rw [if_neg (by decide)]
    rw [s3]
    simp [f, mid, la]; omega
theorem gaps_gl (t : T) (h : t.Ok) : gaps (t.units.map symU) = t.gl := by
  have := gaps_fold t h [] 0
  unfold gaps hst
  rw [this]
  simp [gl]
theorem read_leaves : ∀ t : T, t.Ok → t.units.filterMap (fun u => if 256 ≤ symU u then some (tx u) else none) = t.leaves.map tx
  | leaf x, h => by simp [units, leaves, sym_pool x h]
  | node l m r, h => by
    have hm := sym_ops m h.2.1
    have e1 : ¬ (256 : Int) ≤ symU [40] := by decide
    have e2 : ¬ (256 : Int) ≤ symU [41] := by decide
    have e3 : ¬ (256 : Int) ≤ symU [m] := by omega
    simp only [units, leaves, List.filterMap_cons, List.filterMap_append, List.filterMap_nil, read_leaves l h.1, read_leaves r h.2.2, List.map_append, if_neg e1, if_neg e2, if_neg e3]
    simp
theorem between_marks : ∀ t : T, t.Ok → t.units.filterMap (fun u => if ([7, 8, 256] : List Int).contains (symU u) then none else some (tx u)) = t.marks.map mkD
  | leaf x, h => by
    have : ([7, 8, 256] : List Int).contains (symU x) = true := by rw [sym_pool x h]; decide
    simp only [units, marks, List.filterMap_cons, List.filterMap_nil, this]; rfl
  | node l m r, h => by
    have hm := sym_ops m h.2.1
    have e1 : ([7, 8, 256] : List Int).contains (symU [40]) = true := by decide
    have e2 : ([7, 8, 256] : List Int).contains (symU [41]) = true := by decide
    have e3 : ([7, 8, 256] : List Int).contains (symU [m]) = false := by
      simp; omega
    simp only [units, marks, List.filterMap_cons, List.filterMap_append, List.filterMap_nil, between_marks l h.1, between_marks r h.2.2, List.map_append, e1, e2, e3]
    simp
end T

/-- each unit beside its number -/
theorem zip_units (us : List (List Nat)) (g : D → Option D) : (zipD (us.map tx) (us.map fun u => D.int (symU u))).filterMap g = us.filterMap fun u => g (.tup [tx u, .int (symU u)]) := by
  induction us with
  | nil => rfl
  | cons u us ih =>
    show ((D.tup [tx u, .int (symU u)]) :: zipD (us.map tx) (us.map fun u => D.int (symU u))).filterMap g = _
    rw [List.filterMap_cons, List.filterMap_cons, ih]

/-- a tape told again -/
theorem tapeTo_more (number : Int) (hs : List Int) (k : Nat) : ∀ d, ∃ R, tapeTo number hs (k + d) = tapeTo number hs k ++ R
  | 0 => ⟨[], by simp⟩
  | d + 1 => by
    obtain ⟨R, e⟩ := tapeTo_more number hs k d
    exact ⟨R ++ tape1 number (k + d) (hs.getD (k + d) 0), by rw [← Nat.add_assoc, tapeTo, e, List.append_assoc]⟩
theorem bit_facts : ∀ h, h < 32 → ∀ j, j < 2 → Builtin.bitAnd ((h : Nat) + 128 * (j : Nat) : Int) 64 = 0 ∧ Builtin.bitAnd ((h : Nat) + 128 * (j : Nat) : Int) 63 = (h : Nat) ∧ Builtin.bitOr 0 (h : Nat) = (h : Nat) := by decide +kernel
theorem Are.int_at {h : Heap} {X : List Addr} {vs : List Value} {ns : List Int} {i : Nat} {n : Int} (a : Are h X vs (ns.map .int)) (e : ns[i]? = some n) : ∃ t, vs[i]? = some (.int n t) := by
  obtain ⟨v, e1, i1⟩ := a.get (k := i) (d := .int n) (by rw [List.getElem?_map, e]; rfl)
  cases i1; exact ⟨_, e1⟩
theorem taped {h : Heap} {X : List Addr} {vs : List Value} {number : Int} {hs : List Int} (hh : ∀ x ∈ hs, 0 ≤ x ∧ x < 32) (a : Are h X vs ((tape number hs).map .int)) :
    Taped vs hs (fun k => (tapeTo number hs k).length) (fun k => if number / 2 ^ k % 4 % 2 = 1 then 1 + k % 2 else 0) (fun k => hs.getD k 0 + 128 * (number / 2 ^ k % 4 / 2)) := by
  have facts : ∀ k, k < hs.length → Builtin.bitAnd (hs.getD k 0 + 128 * (number / 2 ^ k % 4 / 2)) 64 = 0 ∧ Builtin.bitAnd (hs.getD k 0 + 128 * (number / 2 ^ k % 4 / 2)) 63 = hs.getD k 0 ∧ Builtin.bitOr 0 (hs.getD k 0) = hs.getD k 0 := fun k hk => by
    have hm : hs.getD k 0 ∈ hs := by rw [List.getD_eq_getElem?_getD, List.getElem?_eq_getElem hk]; exact List.getElem_mem hk
    obtain ⟨h1, h2⟩ := hh _ hm
    generalize hs.getD k 0 = x at *
    obtain ⟨n, rfl⟩ := Int.eq_ofNat_of_zero_le h1
    have h3 : 0 ≤ number / 2 ^ k % 4 / 2 ∧ number / 2 ^ k % 4 / 2 < 2 := by omega
    obtain ⟨j, hj⟩ := Int.eq_ofNat_of_zero_le h3.1
    rw [hj] at h3 ⊢
    exact bit_facts n (by omega) j (by omega)
  have at1 : ∀ k, k < hs.length → ∀ i x, (tape1 number k (hs.getD k 0))[i]? = some x → (tape number hs)[(tapeTo number hs k).length + i]? = some x := fun k hk i x e => by
    obtain ⟨R, eR⟩ := tapeTo_more number hs (k + 1) (hs.length - (k + 1))
    unfold tape
    rw [show hs.length = k + 1 + (hs.length - (k + 1)) by omega, eR, tapeTo, List.append_assoc, List.getElem?_append_right (by omega)]
    rw [show (tapeTo number hs k).length + i - (tapeTo number hs k).length = i by omega, List.getElem?_append_left (List.getElem?_eq_some_iff.mp e).1]
    exact e
  refine ⟨rfl, ?_, fun k hk => ?_, fun k hk q hq => ?_, fun k hk => ?_, fun k hk => (facts k hk).1, fun k hk => (facts k hk).2.1, fun k hk => (facts k hk).2.2⟩
  · have := a.length; rw [List.length_map] at this; exact this.symm
  · show (tapeTo number hs (k + 1)).length = _
    rw [tapeTo, List.length_append]
    unfold tape1
    by_cases q : number / 2 ^ k % 4 % 2 = 1
    · simp only [if_pos q]; simp; omega
    · simp only [if_neg q]; simp
  · refine a.int_at (at1 k hk q 64 ?_)
    unfold tape1
    by_cases z : number / 2 ^ k % 4 % 2 = 1
    · rw [if_pos z] at hq ⊢
      rw [List.getElem?_append_left (by simpa using hq), List.getElem?_replicate, if_pos hq]
    · rw [if_neg z] at hq; omega
  · refine a.int_at (at1 k hk _ _ ?_)
    unfold tape1
    by_cases z : number / 2 ^ k % 4 % 2 = 1
    · rw [if_pos z, if_pos z, List.getElem?_append_right (by simp)]; simp
    · rw [if_neg z, if_neg z]; simp

/-- spelled, and plain again -/
def plainG : D → Option D
  | .str x => match x.cps.toList with | [c] => if b1s.contains (c : Int) then none else some (tx [low c]) | _ => none
  | _ => none
theorem plainG_tx (c : Nat) : plainG (tx [c]) = if b1s.contains (c : Int) then none else some (tx [low c]) := rfl
theorem alph_plain : ∀ c : Nat, c ∈ alph ++ [65, 75, 83] ++ bold → b1s.contains (c : Int) = false := by decide +kernel
theorem alph_low : ∀ c ∈ alph, low c = c ∧ ([97, 107, 115].contains c = true → low (c - 32) = c ∧ (c - 32) ∈ alph ++ [65, 75, 83] ∧ low (c + 119711) = c ∧ (c + 119711) ∈ bold) := by decide +kernel
theorem b1p_in : ∀ j, j < 9 → b1s.contains ((b1p.getD j 0 : Nat) : Int) = true := by decide +kernel
theorem spell1_plain (number : Int) (k c : Nat) (hc : c ∈ alph) : ((spell1 number k c).map fun c => tx [c]).filterMap plainG = [tx [c]] := by
  obtain ⟨l1, l2⟩ := alph_low c hc
  have m1 : c ∈ alph ++ [65, 75, 83] ++ bold := List.mem_append_left _ (List.mem_append_left _ hc)
  have pre : ((if number / 2 ^ (k % 16) % 4 = 1 then [b1p.getD (k % 9) 0] else []).map fun c => tx [c]).filterMap plainG = [] := by
    split
    · rw [List.map_cons, List.map_nil, List.filterMap_cons, plainG_tx, if_pos (b1p_in _ (Nat.mod_lt _ (by omega)))]; rfl
    · rfl
  unfold spell1
  rw [List.map_append, List.filterMap_append, pre, List.nil_append]
  split
  · rw [List.map_cons, List.map_nil, List.filterMap_cons, plainG_tx, alph_plain c m1, l1]; rfl
  · rename_i h
    have hc2 : [97, 107, 115].contains c = true := by
      rcases Bool.eq_false_or_eq_true ([97, 107, 115].contains c) with q | q
      · exact q
      · exact absurd (.inr (by rw [q]; decide)) h
    obtain ⟨a1, a2, a3, a4⟩ := l2 hc2
    split
    · rw [List.map_cons, List.map_nil, List.filterMap_cons, plainG_tx, alph_plain _ (List.mem_append_left _ a2), a1]; rfl
    · rw [List.map_cons, List.map_nil, List.filterMap_cons, plainG_tx, alph_plain _ (List.mem_append_right _ a4), a3]; rfl
theorem spell_plain (number : Int) (l : List Nat) (hl : ∀ c ∈ l, c ∈ alph) : ((spellTo number l l.length).map fun c => tx [c]).filterMap plainG = l.map fun c => tx [c] := by
  have : ∀ k, k ≤ l.length → ((spellTo number l k).map fun c => tx [c]).filterMap plainG = (l.take k).map fun c => tx [c] := by
    intro k
    induction k with
    | zero => intro _; simp [spellTo]
    | succ k ih =>
      intro hk
      have e : l[k]? = some (l.getD k 0) := by rw [List.getD_eq_getElem?_getD, List.getElem?_eq_getElem (by omega)]; rfl
      rw [spellTo, List.map_append, List.filterMap_append, ih (by omega), take_next e, List.map_append, spell1_plain _ _ _ (hl _ (List.mem_of_getElem? e))]
      rfl
  have := this l.length (Nat.le_refl _)
  rwa [List.take_length] at this
theorem spell_ok (number : Int) (l : List Nat) (hl : ∀ c ∈ l, c ∈ alph) : ∀ c ∈ spellTo number l l.length, b1s.contains (c : Int) = true ∨ c ∈ alph ++ [65, 75, 83] ∨ c ∈ bold := by
  have : ∀ k, k ≤ l.length → ∀ c ∈ spellTo number l k, b1s.contains (c : Int) = true ∨ c ∈ alph ++ [65, 75, 83] ∨ c ∈ bold := by
    intro k
    induction k with
    | zero => intro _ c h; simp [spellTo] at h
    | succ k ih =>
      intro hk c h
      have e : l[k]? = some (l.getD k 0) := by rw [List.getD_eq_getElem?_getD, List.getElem?_eq_getElem (by omega)]; rfl
      have hc := hl _ (List.mem_of_getElem? e)
      rw [spellTo] at h
      rcases List.mem_append.mp h with h | h
      · exact ih (by omega) c h
      · unfold spell1 at h
        obtain ⟨l1, l2⟩ := alph_low _ hc
        rcases List.mem_append.mp h with h | h
        · split at h
          · rw [List.mem_singleton.mp h]; exact .inl (b1p_in _ (Nat.mod_lt _ (by omega)))
          · cases h
        · split at h
          · rw [List.mem_singleton.mp h]; exact .inr (.inl (List.mem_append_left _ hc))
          · rename_i hq
            have hc2 : [97, 107, 115].contains (l.getD k 0) = true := by
              rcases Bool.eq_false_or_eq_true ([97, 107, 115].contains (l.getD k 0)) with q | q
              · exact q
              · exact absurd (.inr (by rw [q]; decide)) hq
            obtain ⟨a1, a2, a3, a4⟩ := l2 hc2
            split at h
            · rw [List.mem_singleton.mp h]; exact .inr (.inl a2)
            · rw [List.mem_singleton.mp h]; exact .inr (.inr a4)
  exact this l.length (Nat.le_refl _)

/-- what _law_placed gives -/
theorem placed_places (us : List (List Nat)) (h1 : ∀ u ∈ us, 1 ≤ u.length) : placed us us.length = (places 0 us).map unitD := by
  have hp : ∀ k, k ≤ us.length → placeTo us k = ((us.take k).flatten.length : Int) - 1 := by
    intro k
    induction k with
    | zero => intro _; simp [placeTo]
    | succ k ih =>
      intro hk
      have e : us[k]? = some (us.getD k []) := by rw [List.getD_eq_getElem?_getD, List.getElem?_eq_getElem (by omega)]; rfl
      rw [placeTo, ih (by omega), take_next e]
      simp; omega
  have : ∀ k, k ≤ us.length → placed us k = (places 0 (us.take k)).map unitD := by
    intro k
    induction k with
    | zero => intro _; simp [placed, places]
    | succ k ih =>
      intro hk
      have e : us[k]? = some (us.getD k []) := by rw [List.getD_eq_getElem?_getD, List.getElem?_eq_getElem (by omega)]; rfl
      have hl := h1 _ (List.mem_of_getElem? e)
      have e2 : placed us (k + 1) = placed us k ++ [.tup [.int (placeTo us (k + 1)), tx (us.getD k [])]] := by
        rw [placed, placed, List.range_succ, List.map_append]; rfl
      rw [e2, ih (by omega), take_next e, places_app, List.map_append, hp (k + 1) hk, take_next e]
      congr 1
      show [D.tup [.int _, _]] = [D.tup [.int _, _]]
      have : (((us.take k ++ [us.getD k []]).flatten.length : Int) - 1) = ((0 + (us.take k).flatten.length + (us.getD k []).length - 1 : Nat) : Int) := by
        rw [List.flatten_append, List.length_append]
        simp only [List.flatten_cons, List.flatten_nil, List.append_nil]
        omega
      rw [this]
  have := this us.length (Nat.le_refl _)
  rwa [List.take_length] at this
end Mine

-- F8
namespace Mine
open PySem PySem.W PySem.Calls PyProof.Rows PySem.SeqAt

/-- the first call of all: its frame is known to be the only one -/
theorem lawOf {n : Str} {ar : Arguments} {b : List Stmt} {sc : Scope} {args : List D} {d : D} (names : List Str) (Γ : Vars) (hlen : names.length = args.length)
    (hb : ∀ pm cd doc vs, vs.length = names.length → bindArgs (docDef n ar b sc pm cd doc) ⟨vs, []⟩ = pure (names.zip vs))
    (hn : ∀ L, ∀ x ∈ names, sc.names.lookup x = some .local ∨ (sc.names.lookup x = some .cell ∧ ((cellsFrom (L + 1) sc.names []).lookup x).isSome = true))
    (hΓ : ∀ h X L vs, Are h X vs args → ∀ x b, Γ.lookup x = some b → (∃ d v, b = .val d ∧ bindL (envOfC n sc L L .none).kindOf (names.zip vs) (fun _ => none) x = some v ∧ Is h X v d) ∨
      (∃ c, b = .cell0 ∧ (cellsFrom (L + 1) sc.names []).lookup x = some c ∧ bindC (envOfC n sc L L .none).kindOf (names.zip vs) (fun _ => none) x = none))
    (h : ∀ w A L a cd h₀ mg mb X₀, A.frames = some [envOfC n sc L a cd] → Exs (cxC n sc w A L a cd h₀ mg mb X₀ 1) Γ b (.ret d))
    (hnd : ∀ L n c, (n, c) ∈ cellsFrom (L + 1) sc.names [] → (cellsFrom (L + 1) sc.names []).lookup n = some c)
    (hco : sc.isCoroutine = false := by rfl) (hgen : sc.isGenerator = false := by rfl) (hk : sc.kind = .function := by rfl)
    {w : World} {A : Around} {mg mb : Str → Option Value} {X₀ : List Addr} {s : Shared} {f : Addr} {vs : List Value}
    (G : GOk w mg mb s.heap) (hfa : FnAt s.heap f n ar b sc) (hh : A.handled = none) (hd : A.depth ≤ 400) (hu : A.units ≤ 1000) (hfr : A.frames = some []) (hlive : ∀ a ∈ X₀, ∃ o, s.heap.get? a = some o) (ha : Are s.heap X₀ vs args) :
    wpAny (model P w) A (call (.ref f) vs) (fun v s' => Is s'.heap X₀ v d ∧ Ext [] s s') no s := by
  obtain ⟨o, pm, cd, doc, ho, hdat, hcd⟩ := hfa
  have hvl : vs.length = names.length := by rw [ha.length, hlen]
  refine wpAny_call (call_cells_ret (by have : recursionLimit = 1000 := rfl; omega) ho hdat G.lim hcd (hb pm cd doc vs hvl) (fun x hx => hn _ _ (List.of_mem_zip hx).1) (fun h₁ tk F₁ K => ?_) hco hgen hk)
  let L := s.heap.objs.size
  let cs := cellsFrom (L + 1) sc.names []
  have hnone : ∀ a : Nat, L ≤ a → s.heap.get? a = none := fun a ha => by
    cases e : s.heap.get? a with
    | none => rfl
    | some o => exact absurd (Heap.lt_size e) (Nat.not_lt.mpr ha)
  let X : List Addr := L :: cs.map (·.2)
  have hge : ∀ a ∈ X, s.heap.get? a = none := fun a ha => by
    rcases List.mem_cons.mp ha with q | q
    · rw [q]; exact hnone _ (Nat.le_refl _)
    · obtain ⟨p, hp, rfl⟩ := List.mem_map.mp q
      exact hnone _ (Nat.le_of_lt (K.above p.1 p.2 hp))
  have hX0 : ∀ a ∈ X, a ∉ X₀ := fun a ha q => by obtain ⟨o, e⟩ := hlive _ q; rw [hge a ha] at e; cases e
  have hIs : ∀ {v d}, Is s.heap X₀ v d → Is h₁ (X ++ X₀) v d := fun i => i.mono fun c o hc e => ⟨F₁.keep c o e, fun q => by
    rcases List.mem_append.mp q with q | q
    · rw [hge c q] at e; cases e
    · exact hc q⟩
  have FS0 : FS (cxC n sc w (A.deeper (envOfC n sc L f cd)) L f cd s.heap mg mb X₀ 1) X Γ { s with heap := h₁, toks := tk } := by
    refine ⟨⟨hk, rfl, rfl, hh, ?_, ?_, show 1 ≤ 100 by omega, G⟩, ⟨_, F₁, fun x b e => ?_, fun x y ds es a e1 e2 e3 e4 => ?_⟩, List.mem_cons_self, fun a ha => ?_, hge, hX0⟩
    · show A.depth + 1 ≤ 400 + 1; omega
    · show A.units + 3 ≤ 1000 + 20 * 1; omega
    · rcases hΓ _ _ L vs ha x b e with ⟨d, v, rfl, e, i⟩ | ⟨c, rfl, e, e'⟩
      · exact ⟨v, e, hIs i⟩
      · have hcX : c ∈ X := by
          have : (x, c) ∈ cs := by
            have := List.lookup_eq_some_iff.mp e
            obtain ⟨l₁, l₂, q, _⟩ := this
            show (x, c) ∈ cellsFrom (L + 1) sc.names []
            rw [q]; exact List.mem_append_right _ (.head _)
          exact List.mem_cons_of_mem _ (List.mem_map.mpr ⟨_, this, rfl⟩)
        have := K.cell x c e
        refine ⟨c, e, ?_, hcX⟩
        rw [show bindC (envOfC n sc s.heap.objs.size f cd).kindOf (names.zip vs) (fun _ => none) x = none from e'] at this
        exact this
    · rcases hΓ _ _ L vs ha x _ e1 with ⟨_, _, q, _⟩ | ⟨_, q, _⟩ <;> cases q
    · rcases List.mem_append.mp ha with q | q
      · rcases List.mem_cons.mp q with q | q
        · rw [q]; obtain ⟨o, _, _, e, _⟩ := F₁.ns; exact ⟨o, e⟩
        · obtain ⟨p, hp, rfl⟩ := List.mem_map.mp q
          obtain ⟨o, e, _⟩ := K.cell p.1 p.2 (hnd L p.1 p.2 hp); exact ⟨o, e⟩
      · obtain ⟨o, e⟩ := hlive a q; exact ⟨o, F₁.keep a o e⟩
  refine wpAny_mono (h w _ _ _ _ _ mg mb X₀ (Around.frames_deeper hfr) _ _ FS0) (fun fl s' e => ?_) fun _ _ x => x
  obtain ⟨X', ok, x, g⟩ := e
  cases fl with
  | ret v => exact ⟨ok, ⟨fun b o _ e => x.keep b o (fun q => by rw [hge b q] at e; cases e) (F₁.keep b o e), x.gens, x.fin, x.size, x.os⟩⟩
  | _ => exact ok.elim

section
variable {C : Cx} {Γ : Vars}
/-- told = _law_told(a tape) -/
theorem Ex.assignTold {x : Str} {np np2 pos2 pos : Pos} {e : Expr} {hs : List Int} {number : Int} (hfr : C.A.frames = some [C.env]) (hf : C.env.frame = some C.L) (h : Ev C Γ e (nums (tape number hs))) (hh : ∀ x ∈ hs, 0 ≤ x ∧ x < 32) (hn : hs.length ≤ 1000) (hlv : C.lv ≤ 40)
    (hl : C.env.kindOf x = some .local) (hk : C.env.kindOf kN = some .globalImplicit)
    (he : eval (.Call (.Name kN np2) [e] [] pos2) C.env = (do callWith pos2 (← eval (.Name kN np2) C.env) [] (backTo pos2 (starEach [e] C.env)) (backToKw pos2 (keywordEach [] C.env))) := by rfl)
    (hst : starEach [e] C.env = (false, eval e C.env) :: starEach [] C.env := by rfl)
    (hs' : swapsWith (.Call (.Name kN np2) [e] [] pos2) (some (.Name x np)) pos.line C.env = pure false := by rfl) :
    Ex C Γ (.Assign [.Name x np] (.Call (.Name kN np2) [e] [] pos2) pos) (.next ((x, .val (nums hs)) :: Γ)) := fun X s F => by
  obtain ⟨f, hm, hfa⟩ := F.G.fn 71 kN kAr kB kSc kAll
  have hfa' := hfa
  obtain ⟨o, pm, cd, doc, ho, hdat, hcd⟩ := hfa'
  refine wpAny_Assign_Name (Call_ (Ev.nameG F hm hk ?_ (by decide)) he) hs'
  refine callWith_def hdat (wpAny_items_cons (wpAny_mono (h X s F) (fun v s₁ p => wpAny_items_nil ?_) fun _ _ x => x) hst) hst
  obtain ⟨F₁, iv, x₁⟩ := p
  have hfL : f ≠ C.L := fun q => by
    obtain ⟨m, Fr, _⟩ := F.ex
    obtain ⟨o', es, ep, e1, e2, _⟩ := Fr.ns
    rw [q, e1] at ho; cases ho; rw [e2] at hdat; cases hdat
  refine ⟨x₁.keep hfL ho, ?_⟩
  obtain ⟨f', hm', hfa₁⟩ := F₁.G.fn 71 kN kAr kB kSc kAll
  rw [hm] at hm'; cases hm'
  have hLn : C.h₀.get? C.L = none := F₁.new _ F₁.hL
  have hFF : s₁.heap.FunFrames C.h₀ [C.env] := by
    obtain ⟨m, Fr, _⟩ := F₁.ex
    obtain ⟨oL, es, ep, e1, e2, _⟩ := Fr.ns
    exact ⟨by rw [F.ok.kind]; decide, ⟨C.L, oL, hf, hLn, e1, fun vs q => by rw [e2] at q; cases q⟩, trivial⟩
  refine wpAny_mono (told (lv := C.lv) F₁.G hfa₁ F.ok.hand F.ok.depth F.ok.units hlv F₁.live iv hfr hFF (fun b o e => by obtain ⟨m, Fr, _⟩ := F₁.ex; exact Fr.keep b o e) (fun vs a => taped hh a) hn) (fun r s₂ q => ?_) fun _ _ x => x
  obtain ⟨i₂, sl, gk⟩ := q
  have hfrs : frs [C.env] = [C.L] := by simp [frs, hf]
  rw [hfrs] at sl
  have kk : ∀ b o, b ≠ C.L → s₁.heap.get? b = some o → s₂.heap.get? b = some o := fun b o hb e => sl.keep b o (fun q => hb (List.mem_singleton.mp q)) (fun h => nomatch h) e
  have F₂ : FS C X Γ s₂ := F₁.frame [] (fun m Fr => ⟨Ns.slot Fr.ns sl (fun h => nomatch h), fun b o e => kk b o (fun q => by rw [q, hLn] at e; cases e) (Fr.keep b o e), Fr.above⟩) kk (fun _ h => nomatch h) (fun _ h => nomatch h)
  have x₂ : Ext [C.L] s₁ s₂ := gk.ext [C.L] fun b o hb e => kk b o (fun q => hb (List.mem_singleton.mpr q)) e
  exact wpAny_mono (F₂.store i₂ hl) (fun _ s₃ q => ⟨X, q.1, (F.toX x₁).trans' (F.toX' (x₂.trans' q.2)), fun _ h => .inl h⟩) fun _ _ x => x
end
end Mine

-- F9
namespace Mine
open PySem PySem.W PySem.Calls PyProof.Rows PySem.SeqAt

def gTh (c : Int) : D → Option D
  | .int k => some (tx (pool.getD (c / 8 ^ k.toNat % 8).toNat []))
  | _ => none
def thingsOf (c : Int) (n : Nat) : List (List Nat) := (List.range n).map fun k => pool.getD (c / 8 ^ k % 8).toNat []
theorem gTh_all (c : Int) (n : Nat) : ((List.range n).map fun (k : Nat) => D.int k).filterMap (gTh c) = (thingsOf c n).map tx := by
  unfold thingsOf
  induction n with
  | zero => rfl
  | succ n ih => rw [List.range_succ, List.map_append, List.filterMap_append, ih, List.map_append, List.map_append]; rfl
def gMk (c : Int) : D → Option D
  | .int k => some (tx [ops.getD (c / 3 ^ k.toNat % 12).toNat 0])
  | _ => none
def marksOf (c : Int) (n : Nat) : List Nat := (List.range n).map fun k => ops.getD (c / 3 ^ k % 12).toNat 0
theorem gMk_all (c : Int) (n : Nat) : ((List.range n).map fun (k : Nat) => D.int k).filterMap (gMk c) = (marksOf c n).map fun m => tx [m] := by
  unfold marksOf
  induction n with
  | zero => rfl
  | succ n ih => rw [List.range_succ, List.map_append, List.filterMap_append, ih, List.map_append, List.map_append]; rfl
theorem getD_mem {α : Type} (l : List α) (i : Nat) (d : α) (h : i < l.length) : l.getD i d ∈ l := by
  rw [List.getD_eq_getElem?_getD, List.getElem?_eq_getElem h]; exact List.getElem_mem h
theorem things_pool (c : Int) (n : Nat) : ∀ x ∈ thingsOf c n, x ∈ pool := fun x hx => by
  obtain ⟨k, _, rfl⟩ := List.mem_map.mp hx
  refine getD_mem _ _ _ ?_
  have : 0 ≤ c / 8 ^ k % 8 ∧ c / 8 ^ k % 8 < 8 := by omega
  show _ < 8; omega
theorem marks_ops (c : Int) (n : Nat) : ∀ x ∈ marksOf c n, x ∈ ops := fun x hx => by
  obtain ⟨k, _, rfl⟩ := List.mem_map.mp hx
  refine getD_mem _ _ _ ?_
  have : 0 ≤ c / 3 ^ k % 12 ∧ c / 3 ^ k % 12 < 12 := by omega
  show _ < 12; omega
theorem pool_get (i : Int) (h0 : 0 ≤ i) (h1 : i < 8) : ([tx [97], tx [107], tx [92, 40], tx [115], tx [92, 41], tx [92, 34], tx [92, 92], tx [92, 45]] : List D)[i.toNat]? = some (tx (pool.getD i.toNat [])) := by
  obtain ⟨n, rfl⟩ := Int.eq_ofNat_of_zero_le h0
  simp only [Int.toNat_natCast]
  match n, (by omega : n < 8) with
  | 0, _ => rfl
  | 1, _ => rfl
  | 2, _ => rfl
  | 3, _ => rfl
  | 4, _ => rfl
  | 5, _ => rfl
  | 6, _ => rfl
  | 7, _ => rfl
theorem ops_get (i : Int) (h0 : 0 ≤ i) (h1 : i < 12) : (txt ops).cps[i.toNat]? = some (ops.getD i.toNat 0) := by
  have hl : i.toNat < ops.length := by show _ < 12; omega
  rw [List.getD_eq_getElem?_getD]
  show (ops.toArray)[i.toNat]? = _
  rw [List.getElem?_toArray, List.getElem?_eq_getElem hl]; rfl
theorem pow_lt30 {b k n : Nat} (hb : 2 ≤ b) (h : b ^ n < 2 ^ 30) (hk : k ≤ n) : ((b : Int) ^ k) < 2 ^ 30 := by
  have := Nat.pow_le_pow_right (n := b) (by omega) hk
  have : b ^ k < 2 ^ 30 := by omega
  exact_mod_cast this

theorem T.units_len : ∀ t : T, t.units.length + 3 = 4 * t.n
  | .leaf x => by simp [T.units, T.n]
  | .node l m r => by have := units_len l; have := units_len r; simp [T.units, T.n]; omega
theorem T.unit_len : ∀ t : T, t.Ok → ∀ u ∈ t.units, 1 ≤ u.length ∧ u.length ≤ 2
  | .leaf x, h, u, hu => by simp [T.units] at hu; rw [hu]; exact pool_len x h
  | .node l m r, h, u, hu => by
    simp only [T.units, List.mem_cons, List.mem_append, List.mem_singleton, List.not_mem_nil, or_false] at hu
    rcases hu with rfl | ((hu | rfl) | hu) | rfl
    · decide
    · exact unit_len l h.1 u hu
    · simp
    · exact unit_len r h.2.2 u hu
    · decide
theorem T.text_ne : ∀ t : T, t.Ok → t.text ≠ []
  | .leaf x, h, q => by have := (pool_len x h).1; have q : x = [] := q; rw [q] at this; simp at this
  | .node l m r, _, q => by simp [T.text] at q
theorem EvIt.eqv {C : Cx} {Γ : Vars} {tgt x : Expr} {ds ds' : List D} (h : ds = ds') (e : EvIt C Γ tgt x ds) : EvIt C Γ tgt x ds' := h ▸ e
theorem checkA (t : T) (hok : t.Ok) (hn : t.n ≤ 10) : Fn 3 6 [tx t.text] (.bool true) := by
  have hb := t.bal_units hok
  have hl := t.text_len hok
  have e := t.ufrom_all hok
  have hp := t.n_pos
  refine f3 t.text (fun q => ?_) (by omega) (fun u hu => ?_) true (.inl ⟨fun k hk => ?_, ?_⟩)
  · exact t.text_ne hok q
  · rw [e] at hu
    have : u.2 ∈ (places 0 t.units).map (·.2) := List.mem_map.mpr ⟨u, hu, rfl⟩
    rw [places_snd] at this
    exact t.units_no34 hok _ this
  · rw [e, deep_bal, places_snd]; exact hb.1 k
  · rw [e, deep_bal, places_snd, places_len, List.take_length, hb.2]; rfl
theorem checkB (l : T) (m : Nat) (r : T) (hok : (T.node l m r).Ok) (hn : (T.node l m r).n ≤ 10) : Fn 3 6 [tx (T.node l m r).text.dropLast] (.bool false) := by
  have hb := T.cut_bal l m r hok
  have hl := (T.node l m r).text_len hok
  have e := T.ufrom_cut l m r hok 0
  refine f3 _ (by rw [T.text_cut]; simp) (by simp; omega) (fun u hu => ?_) false (.inl ⟨fun k hk => ?_, ?_⟩)
  · rw [e] at hu
    have : u.2 ∈ (places 0 (T.node l m r).cut).map (·.2) := List.mem_map.mpr ⟨u, hu, rfl⟩
    rw [places_snd] at this
    exact (T.node l m r).units_no34 hok _ (T.cut_sub _ _ this)
  · rw [e, deep_bal, places_snd]; exact hb.1 k
  · rw [e, deep_bal, places_snd, places_len, List.take_length, hb.2]; rfl
theorem checkC (l : T) (m : Nat) (r : T) (hok : (T.node l m r).Ok) (hn : (T.node l m r).n ≤ 10) : Fn 3 6 [tx (41 :: (T.node l m r).text.dropLast)] (.bool false) := by
  have hl := (T.node l m r).text_len hok
  have e : ufrom 0 (41 :: (T.node l m r).text.dropLast) false = (0, [41]) :: places 1 (T.node l m r).cut := by
    rw [T.ufrom_one _ _ _ (by decide), T.ufrom_cut l m r hok]
  refine f3 _ (by simp) (by simp; omega) (fun u hu => ?_) false (.inr ⟨by rw [e]; rfl, rfl⟩)
  rw [e] at hu
  rcases List.mem_cons.mp hu with q | q
  · rw [q]; decide
  · have : u.2 ∈ (places 1 (T.node l m r).cut).map (·.2) := List.mem_map.mpr ⟨u, q, rfl⟩
    rw [places_snd] at this
    exact (T.node l m r).units_no34 hok _ (T.cut_sub _ _ this)

def g2 : D → Option D
  | .tup [_, u] => some u
  | _ => none
theorem g2_all (ps : List (Nat × List Nat)) : (ps.map unitD).filterMap g2 = (ps.map (·.2)).map tx := by
  induction ps with
  | nil => rfl
  | cons p ps ih => rw [List.map_cons, List.filterMap_cons, List.map_cons, List.map_cons, ← ih]; rfl
def gSym : D → Option D
  | .str x => some (.int (symU x.cps.toList))
  | _ => none
theorem gSym_all (us : List (List Nat)) : (us.map tx).filterMap gSym = us.map fun u => D.int (symU u) := by
  induction us with
  | nil => rfl
  | cons u us ih => rw [List.map_cons, List.filterMap_cons, List.map_cons, ← ih]; rfl
def gRead : D → Option D
  | .tup [u, .int s] => if 256 ≤ s then some u else none
  | _ => none
def gBet : D → Option D
  | .tup [u, .int s] => if ([7, 8, 256] : List Int).contains s then none else some u
  | _ => none
theorem zip_get {us : List (List Nat)} {k : Nat} {d : D} (h : (zipD (us.map tx) (us.map fun u => D.int (symU u)))[k]? = some d) : ∃ u, u ∈ us ∧ d = .tup [tx u, .int (symU u)] := by
  induction us generalizing k with
  | nil => cases k <;> simp [zipD] at h
  | cons u us ih =>
    have e : zipD ((u :: us).map tx) ((u :: us).map fun u => D.int (symU u)) = .tup [tx u, .int (symU u)] :: zipD (us.map tx) (us.map fun u => D.int (symU u)) := rfl
    rw [e] at h
    cases k with
    | zero => exact ⟨u, by simp, by simpa using h.symm⟩
    | succ k =>
      obtain ⟨v, h1, h2⟩ := ih (by simpa using h)
      exact ⟨v, by simp [h1], h2⟩
theorem zip_len (us : List (List Nat)) : (zipD (us.map tx) (us.map fun u => D.int (symU u))).length = us.length := by simp [zipD]
theorem deep_units (ps : List (Nat × List Nat)) : Deep 8 (.lst (ps.map unitD)) = true := by
  show (ps.map unitD).all (Deep 7) = true
  rw [List.all_eq_true]
  intro d hd
  obtain ⟨p, _, rfl⟩ := List.mem_map.mp hd
  rfl
theorem deep_ints (ns : List Int) : Deep 8 (nums ns) = true := by
  show (ns.map D.int).all (Deep 7) = true
  rw [List.all_eq_true]
  intro d hd
  obtain ⟨p, _, rfl⟩ := List.mem_map.mp hd
  rfl
theorem filterMap_id (l : List D) : l.filterMap (fun d => some d) = l := by simp

def lN : Str := match fnAt 75 with | some (n, _, _, _) => n | none => ""
def lB : List Stmt := match fnAt 75 with | some (_, _, b, _) => b | none => []
def lSc : Scope := match fnAt 75 with | some (_, _, _, sc) => sc | none => { kind := .function, names := [], isGenerator := true, isCoroutine := false }
def lAr : Arguments := match fnAt 75 with | some (_, a, _, _) => a | none => { posonlyargs := [], args := [], vararg := none, kwonlyargs := [], kw_defaults := [], kwarg := none, defaults := [] }
theorem lAll : fnAt 75 = some (lN, lAr, lB, lSc) := rfl

abbrev lcx (w : World) (A : Around) (L a : Addr) (cd : Value) (h₀ : Heap) (mg mb : Str → Option Value) (X₀ : List Addr) : Cx := cxC lN lSc w A L a cd h₀ mg mb X₀ 1
theorem lcells (L : Addr) : cellsFrom (L + 1) lSc.names [] = [(("pool" : Str), L + 1 + 1), (("totals" : Str), L + 1)] := rfl
theorem lap {L : Addr} {x y : Str} {c : Addr} (h1 : List.lookup x [(("pool" : Str), L + 1 + 1), (("totals" : Str), L + 1)] = some c) (h2 : List.lookup y [(("pool" : Str), L + 1 + 1), (("totals" : Str), L + 1)] = some c) : y = x := by
  rw [List.lookup_cons] at h1 h2
  have n1 : (L + 1 + 1 : Addr) ≠ L + 1 := Nat.succ_ne_self _
  cases q1 : x == ("pool" : Str) <;> cases q2 : y == ("pool" : Str) <;> simp only [q1, q2] at h1 h2
  · rw [List.lookup_cons] at h1 h2
    cases q3 : x == ("totals" : Str) <;> cases q4 : y == ("totals" : Str) <;> simp only [q3, q4, List.lookup_nil] at h1 h2
    · cases h1
    · cases h1
    · cases h2
    · rw [eq_of_beq q3, eq_of_beq q4]
  · rw [List.lookup_cons] at h1
    cases q3 : x == ("totals" : Str) <;> simp only [q3, List.lookup_nil] at h1
    · cases h1
    · cases h1; cases h2
  · rw [List.lookup_cons] at h2
    cases q3 : y == ("totals" : Str) <;> simp only [q3, List.lookup_nil] at h2
    · cases h2
    · cases h1; cases h2
  · rw [eq_of_beq q1, eq_of_beq q2]
theorem two_cells {x : Str} {b : B} {a c : D} (e : List.lookup x [(("totals" : Str), B.cell a), (("pool" : Str), B.cell c)] = some b) : (x = "totals" ∧ b = .cell a) ∨ (x = "pool" ∧ b = .cell c) := by
  rcases look_cons e with ⟨rfl, rfl⟩ | ⟨_, e⟩
  · exact .inl ⟨rfl, rfl⟩
  · rcases look_cons e with ⟨rfl, rfl⟩ | ⟨_, e⟩
    · exact .inr ⟨rfl, rfl⟩
    · cases e

theorem ar_mt {m t n : Nat} (h1 : m = n - 1) (h2 : t = n) (h3 : 3 ≤ n) : m + 1 = t := by omega
theorem ar_text {x n : Nat} (h : x + 3 ≤ 5 * n) (hn : n ≤ 7) : x ≤ 40 := by omega
theorem ar_units {x n : Nat} (h : x + 3 = 4 * n) (hn : n ≤ 7) : x ≤ 30 := by omega
theorem ar_pred {x n : Nat} (h : x + 1 = n) (hn : n ≤ 7) : x ≤ 7 := by omega
theorem ar_succ {x n : Nat} (h : x = n + 1) (hn : n ≤ 7) : x ≤ 8 := by omega
theorem ar_sub1 {n : Nat} (h : 3 ≤ n) : (n : Int) - 1 = ((n - 1 : Nat) : Int) := by omega
theorem ar_ml {m l n : Nat} (h : m + 1 = n) (h2 : l = n) : (m : Int) + 1 = (l : Int) := by omega
theorem ar_gl {g l n : Nat} (h : g = n + 1) (h2 : l = n) : (g : Int) = (l : Int) + 1 := by omega
theorem ar_lt {x : Int} {u : Nat} (h : 0 ≤ x ∧ x ≤ u) (hu : u ≤ 30) : 0 ≤ x ∧ x < 32 := by omega
theorem ar_c {a b c n k : Nat} (h : a < b ∧ b < c ∧ c ≤ n) (hk : k + 1 = n) : a < k + 2 ∧ b < k + 2 ∧ c < k + 2 := by omega
theorem ar_cat {x : Nat} (h : x ≤ 40) : 1 + (x - 1) ≤ 1000000 := by omega
theorem ett_pos : ∀ p ∈ ett, 0 ≤ p.2 := by decide +kernel

set_option maxHeartbeats 2000000 in
theorem lawBody1 (script : List Int) (hn : script.length ≤ 1000) (w : World) (A : Around) (L a : Addr) (cd : Value) (h₀ : Heap) (mg mb : Str → Option Value) (X₀ : List Addr) (hfr : A.frames = some [(lcx w A L a cd h₀ mg mb X₀).env]) :
    Exs (lcx w A L a cd h₀ mg mb X₀) [("totals", .cell0), ("pool", .cell0), ("script", .val (nums script))] lB (.ret (.bool true)) := by
  have ht6 : (tot script).length = 6 := totk_len _ _
  have htp : ∀ x ∈ tot script, 0 ≤ x := totk_pos _ _
  have hg : ∀ i : Nat, i < 6 → ((tot script).map D.int)[((i : Int)).toNat]? = some (.int ((tot script).getD i 0)) ∧ 0 ≤ (tot script).getD i 0 := fun i hi => ⟨getD_int (by omega), htp _ (getD_mem _ _ _ (by omega))⟩
  have hg0 := hg 0 (by omega)
  have hg1 := hg 1 (by omega)
  have hg2 := hg 2 (by omega)
  have hg3 := hg 3 (by omega)
  have hg4 := hg 4 (by omega)
  have hg5 := hg 5 (by omega)
  have hT6 : ((tot script).map D.int).length ≤ 1000000 := by rw [List.length_map]; omega
  have hF66 := f66 script hn
  generalize tot script = T0 at *
  generalize T0.getD 0 0 = c0 at *
  generalize T0.getD 1 0 = c1 at *
  generalize T0.getD 2 0 = c2 at *
  generalize T0.getD 3 0 = c3 at *
  generalize T0.getD 4 0 = c4 at *
  generalize T0.getD 5 0 = c5 at *
  refine Exs.cons (Ex.assignCell (Ev.fn rfl hF66 (by show 1 ≤ 8; decide) rfl (Evs.cons (Ev.loc rfl rfl) Evs.nil)) (.inl rfl) rfl (by rfl) (fun y b c _ _ q1 q2 => lap q1 q2)) ?_
  obtain ⟨n, hnn⟩ : ∃ n : Nat, (3 : Int) + c0 % 5 = n := Int.eq_ofNat_of_zero_le (by omega)
  have hn3 : 3 ≤ n ∧ n ≤ 7 := by omega
  have hn7 : n ≤ 7 := hn3.2
  refine Exs.cons (Ex.assign (d := .int n) (Ev.eqv (congrArg D.int hnn) (Ev.bin Ev.int (Ev.bin (Ev.subL (EvL.of (Ev.cel rfl rfl)) (Ev.int (i := 0)) (by omega) hT6 hg0.1) Ev.int (Bop.mod (by omega))) Bop.add)) rfl) ?_
  clear hnn
  refine Exs.cons (Ex.assignCell (d := .lst [tx [97], tx [107], tx [92, 40], tx [115], tx [92, 41], tx [92, 34], tx [92, 92], tx [92, 45]]) (Ev.list (Evs.cons Ev.str (Evs.cons Ev.str (Evs.cons Ev.str (Evs.cons Ev.str (Evs.cons Ev.str (Evs.cons Ev.str (Evs.cons Ev.str (Evs.cons Ev.str Evs.nil)))))))) (by show 8 ≤ 1000; decide)) (.inl rfl) rfl (by rfl) (fun y b c _ _ q1 q2 => lap q1 q2)) ?_
  refine Exs.cons (Ex.assignComp (cl := [("totals", L + 1), ("pool", L + 1 + 1)]) (ds := (List.range n).map fun (k : Nat) => D.int k) [("totals", .cell (nums T0)), ("pool", .cell (.lst [tx [97], tx [107], tx [92, 40], tx [115], tx [92, 41], tx [92, 34], tx [92, 92], tx [92, 45]]))] (gTh c1) (EvIt.range1 rfl (Ev.loc rfl rfl) (Nat.le_trans hn7 (by decide))) rfl (fun x b e => ?_) (fun K Z k d hd => ?_) (by simp; omega) rfl) ?_
  · rcases two_cells e with ⟨rfl, rfl⟩ | ⟨rfl, rfl⟩
    · exact ⟨⟨_, rfl, rfl⟩, rfl, rfl⟩
    · exact ⟨⟨_, rfl, rfl⟩, rfl, rfl⟩
  · obtain ⟨i, hi, rfl⟩ := get_map hd
    have hi2 : i = k ∧ k < n := by
      obtain ⟨a, b⟩ := List.getElem?_eq_some_iff.mp hi; simp at a b; exact ⟨b.symm, a⟩
    obtain ⟨rfl, hin⟩ := hi2
    refine ⟨_, As.name rfl, weak ⟨rfl, rfl, trivial⟩, Tests.nil, ?_⟩
    have qpos : (0 : Int) < 8 ^ i := Int.pow_pos (by decide)
    have qlt : (8 : Int) ^ i < 2 ^ 30 := pow_lt30 (b := 8) (k := i) (n := 7) (by decide) (by decide) (Nat.le_trans (Nat.le_of_lt hin) hn7)
    have e1 : 0 ≤ c1 / 8 ^ i % 8 ∧ c1 / 8 ^ i % 8 < 8 := ⟨Int.emod_nonneg _ (by decide), Int.emod_lt_of_pos _ (by decide)⟩
    exact Ev.subL (EvL.of (Ev.cel rfl rfl)) (Ev.bin (Ev.bin (Ev.subL (EvL.of (Ev.cel rfl rfl)) (Ev.int (i := 1)) (by omega) hT6 hg1.1) (Ev.bin Ev.int (Ev.loc rfl rfl) (Bop.pow (by decide) (Nat.le_trans (Nat.le_of_lt hin) (Nat.le_trans hn7 (by decide))))) (Bop.fdiv qpos qlt)) Ev.int (Bop.mod (by omega))) e1.1 (by show 8 ≤ 1000000; decide) (pool_get _ e1.1 e1.2)
  rw [gTh_all]
  refine Exs.cons (Ex.assignComp (cl := [("totals", L + 1)]) (ds := (List.range (n - 1)).map fun (k : Nat) => D.int k) [("totals", .cell (nums T0))] (gMk c1) (EvIt.range1 rfl (Ev.eqv (show D.int ((n : Int) - 1) = D.int ((n - 1 : Nat) : Int) by congr 1; exact ar_sub1 hn3.1) (Ev.bin (Ev.loc rfl rfl) Ev.int Bop.sub)) (Nat.le_trans (Nat.sub_le _ _) (Nat.le_trans hn7 (by decide)))) rfl (fun x b e => ?_) (fun K Z k d hd => ?_) (by simp; omega) rfl) ?_
  · rcases look_cons e with ⟨rfl, rfl⟩ | ⟨_, e⟩
    · exact ⟨⟨_, rfl, rfl⟩, rfl, rfl⟩
    · cases e
  · obtain ⟨i, hi, rfl⟩ := get_map hd
    have hi2 : i = k ∧ k < n - 1 := by
      obtain ⟨a, b⟩ := List.getElem?_eq_some_iff.mp hi; simp at a b; exact ⟨b.symm, a⟩
    obtain ⟨rfl, hin⟩ := hi2
    refine ⟨_, As.name rfl, weak ⟨rfl, trivial⟩, Tests.nil, ?_⟩
    have qpos : (0 : Int) < 3 ^ i := Int.pow_pos (by decide)
    have qlt : (3 : Int) ^ i < 2 ^ 30 := pow_lt30 (b := 3) (k := i) (n := 7) (by decide) (by decide) (Nat.le_trans (Nat.le_of_lt hin) (Nat.le_trans (Nat.sub_le _ _) hn7))
    have e1 : 0 ≤ c1 / 3 ^ i % 12 ∧ c1 / 3 ^ i % 12 < 12 := ⟨Int.emod_nonneg _ (by decide), Int.emod_lt_of_pos _ (by decide)⟩
    exact Ev.subS (x := txt ops) Ev.str (Ev.bin (Ev.bin (Ev.subL (EvL.of (Ev.cel rfl rfl)) (Ev.int (i := 1)) (by omega) hT6 hg1.1) (Ev.bin Ev.int (Ev.loc rfl rfl) (Bop.pow (by decide) (Nat.le_trans (Nat.le_of_lt hin) (Nat.le_trans (Nat.sub_le _ _) (Nat.le_trans hn7 (by decide)))))) (Bop.fdiv qpos qlt)) Ev.int (Bop.mod (by omega))) e1.1 (by show 12 ≤ 1000000; decide) (ops_get _ e1.1 e1.2)
  rw [gMk_all]
  have htl : (thingsOf c1 n).length = n := by simp [thingsOf]
  have hml : (marksOf c1 (n - 1)).length = n - 1 := by simp [marksOf]
  have hth := things_pool c1 n
  have hmk := marks_ops c1 (n - 1)
  generalize thingsOf c1 n = things at *
  generalize marksOf c1 (n - 1) = marks at *
  have hmt : marks.length + 1 = things.length := ar_mt hml htl hn3.1
  have ht1 : 1 ≤ things.length := by rw [htl]; exact Nat.le_trans (by decide) hn3.1
  have ht3 : 3 ≤ things.length := by rw [htl]; exact hn3.1
  have ht7 : things.length ≤ 7 := by rw [htl]; exact hn7
  obtain ⟨t, p, cs, hend, hok, htn, hcl, hcb, hw, hhs⟩ := stF_end (things := things) (marks := marks) (c0 / 5) ht1 hmt hmk hth
  have h67 := f67 things marks (c0 / 5) ht1 (Nat.le_trans ht7 (by decide)) hmt hmk hth t p cs hend
  refine Exs.cons (Ex.assignTup (Ev.fn rfl h67 (by show 1 ≤ 8; decide) rfl (Evs.cons (Ev.loc rfl rfl) (Evs.cons (Ev.loc rfl rfl) (Evs.cons (Ev.bin (Ev.subL (EvL.of (Ev.cel rfl rfl)) (Ev.int (i := 0)) (by omega) hT6 hg0.1) Ev.int (Bop.fdiv (by omega) (by omega))) Evs.nil)))) (As.tup (AsIn.cons (As.name rfl) (AsIn.cons (As.name rfl) (AsIn.cons (As.name rfl) AsIn.nil))))) ?_
  rw [hhs]
  have hunit := t.unit_len hok
  have hul := t.units_len
  have htl2 := t.text_len hok
  have hN7 : t.n ≤ 7 := Nat.le_trans (Nat.le_of_eq htn) ht7
  have hN1 := t.n_pos
  have hT : t.text.length ≤ 40 := ar_text htl2 hN7
  have hU : t.units.length ≤ 30 := ar_units hul hN7
  have hCs : cs.length ≤ 7 := ar_pred hcl ht7
  have halph := t.text_alph hok
  have hfl := t.units_flat
  have q6 : (10 : Int) ^ 6 = 1000000 := by decide
  refine Exs.cons (Ex.assign (d := .int (1 + c4 % 1000000)) (Ev.bin Ev.int (Ev.bin (Ev.subL (EvL.of (Ev.cel rfl rfl)) (Ev.int (i := 4)) (by omega) hT6 hg4.1) (Ev.bin Ev.int Ev.int (Bop.pow (n := 6) (by decide) (by omega))) (Bop.mod (by decide))) Bop.add) rfl) ?_
  refine Exs.cons (Ex.assign (d := .int (1 + c5 % 1000000)) (Ev.bin Ev.int (Ev.bin (Ev.subL (EvL.of (Ev.cel rfl rfl)) (Ev.int (i := 5)) (by omega) hT6 hg5.1) (Ev.bin Ev.int Ev.int (Bop.pow (n := 6) (by decide) (by omega))) (Bop.mod (by decide))) Bop.add) rfl) ?_
  generalize 1 + c4 % 1000000 = u
  generalize 1 + c5 % 1000000 = v
  refine Exs.cons (Ex.assign (Ev.fn rfl (f69 t.text c2 (Nat.le_trans hT (by decide)) halph) (by show 1 ≤ 8; decide) rfl (Evs.cons (Ev.loc rfl rfl) (Evs.cons (Ev.subL (EvL.of (Ev.cel rfl rfl)) (Ev.int (i := 2)) (by omega) hT6 hg2.1) Evs.nil))) rfl) ?_
  have hsp := spell_plain c2 t.text halph
  have hso := spell_ok c2 t.text halph
  have hsl := spellTo_len c2 t.text t.text.length
  have hS : (spellTo c2 t.text t.text.length).length ≤ 80 := Nat.le_trans hsl (Nat.mul_le_mul_left 2 hT)
  generalize spellTo c2 t.text t.text.length = sp at *
  have hys : (sp.map fun c => tx [c]).filterMap plainG = (t.text.map fun c => txt [c]).map .str := by rw [hsp, List.map_map]; rfl
  have hjoin : Txt.join ⟨#[]⟩ (t.text.map fun c => txt [c]) = txt t.text := by
    have := joinAll (t.text.map fun c => [c])
    rw [List.map_map] at this
    have e2 : (t.text.map fun c => [c]).flatten = t.text := by induction t.text with | nil => rfl | cons x xs ih => simp [ih]
    rw [e2] at this; exact this
  refine Exs.cons (Ex.assign (Ev.eqv (congrArg D.str hjoin) (Ev.join (x := ⟨#[]⟩) Ev.str (Ev.eqv (congrArg D.lst hys) (Ev.comp (cl := []) (ds := sp.map fun c => tx [c]) [] plainG (EvIt.eqv (signs_txt sp) (EvIt.strN (Ev.loc rfl rfl))) (closureFor_none (by decide)) (noV (Γ := [])) (fun K Z k d hd => ?_) (by rw [List.length_map]; exact Nat.le_trans hS (by decide)))) (by decide) (by
      have : ((t.text.map fun c => txt [c]).map (·.length)).sum = t.text.length := by
        induction t.text with
        | nil => rfl
        | cons x xs ih => simp only [List.map_cons, List.sum_cons, ih, txt_len, List.length_cons, List.length_nil]; omega
      rw [this, List.length_map]; exact Nat.le_trans (Nat.add_le_add hT hT) (by decide)))) rfl) ?_
  · obtain ⟨c, hc, rfl⟩ := get_map hd
    have hcm := hso c (List.mem_of_getElem? hc)
    refine ⟨_, As.name rfl, noV (Γ := []), ?_⟩
    simp only [plainG_tx]
    cases hcb : b1s.contains (c : Int) with
    | true =>
      rw [if_pos rfl]
      exact Tests.one (Tr.not (b := true) (Tr.of (Ev.fn rfl (f8 c) (by show 1 ≤ 9; decide) rfl (Evs.cons (Ev.loc rfl rfl) Evs.nil)) (by rw [hcb]; exact Truth.bool)))
    | false =>
      rw [if_neg Bool.false_ne_true]
      refine ⟨Tests.one (Tr.not (b := false) (Tr.of (Ev.fn rfl (f8 c) (by show 1 ≤ 9; decide) rfl (Evs.cons (Ev.loc rfl rfl) Evs.nil)) (by rw [hcb]; exact Truth.bool))), ?_⟩
      exact Ev.fn rfl (f10 c (hcm.resolve_left (by rw [hcb]; decide))) (by show 1 ≤ 9; decide) rfl (Evs.cons (Ev.loc rfl rfl) Evs.nil)
  refine Exs.cons (Ex.iff (Tr.cmp (Ev.loc rfl rfl) (Ev.loc rfl rfl) Bop.neS) Exs.nil) ?_
  obtain ⟨tl, tm, tr, htnode⟩ : ∃ l m r, t = .node l m r := by
    cases t with
    | leaf x => rw [← show 1 = things.length from htn] at ht3; exact absurd ht3 (by decide)
    | node l m r => exact ⟨l, m, r, rfl⟩
  have hA := checkA t hok (Nat.le_trans hN7 (by decide))
  have hB : Fn 3 6 [tx t.text.dropLast] (.bool false) := by subst htnode; exact checkB tl tm tr hok (Nat.le_trans hN7 (by decide))
  have hC : Fn 3 6 [tx (41 :: t.text.dropLast)] (.bool false) := by subst htnode; exact checkC tl tm tr hok (Nat.le_trans hN7 (by decide))
  have htne : t.text ≠ [] := by subst htnode; simp [T.text]
  have hsl1 : D.str (Txt.slice (txt t.text) Option.none (Option.some (-1))) = tx t.text.dropLast := congrArg D.str (slice1 t.text htne)
  have h6 : (txt t.text).length ≤ 1000000 := by rw [txt_len]; exact Nat.le_trans hT (by decide)
  refine Exs.cons (Ex.iff (Tr.or_false (Tr.cmp (c := false) (Ev.fn rfl hA (by show 1 ≤ 6; decide) rfl (Evs.cons (Ev.loc rfl rfl) Evs.nil)) Ev.bool Bop.isNotB) (Tr.or_false (Tr.cmp (c := false) (Ev.fn rfl hB (by show 1 ≤ 6; decide) rfl (Evs.cons (Ev.eqv hsl1 (Ev.sliceStrTo (Ev.loc rfl rfl) (Ev.un Ev.int Uop.neg) h6)) Evs.nil)) Ev.bool Bop.isNotB) Tr.or_nil)) Exs.nil) ?_
  have hcat : D.str (txt [41] ++ txt t.text.dropLast) = tx (41 :: t.text.dropLast) := congrArg D.str (txt_app [41] t.text.dropLast)
  refine Exs.cons (Ex.iff (Tr.cmp (c := false) (Ev.fn rfl hC (by show 1 ≤ 6; decide) rfl (Evs.cons (Ev.eqv hcat (Ev.bin Ev.str (Ev.eqv hsl1 (Ev.sliceStrTo (Ev.loc rfl rfl) (Ev.un Ev.int Uop.neg) h6)) (Bop.addS (by rw [txt_len, txt_len, List.length_dropLast]; exact ar_cat hT)))) Evs.nil)) Ev.bool Bop.isNotB) Exs.nil) ?_
  have hmore := t.ufrom_more hok
  have hup : D.str (txt t.text ++ txt [92]) = tx (t.text ++ [92]) := congrArg D.str (txt_app t.text [92])
  refine Exs.cons (Ex.assignComp (cl := []) (ds := unitsD (t.text ++ [92])) [] (fun d => Option.some d) (EvIt.gen (.inl ⟨_, _, rfl⟩) rfl (by show 1 ≤ 90; decide) (Ev.eqv hup (Ev.bin (Ev.loc rfl rfl) Ev.str (Bop.addS (by rw [txt_len]; exact Nat.le_trans (Nat.add_le_add_right hT 1) (by decide)))))) (closureFor_none (by decide)) (noV (Γ := [])) (fun K Z k d hd => ⟨_, As.name rfl, noV (Γ := []), Tests.nil, Ev.loc rfl rfl⟩) (by rw [List.length_map, hmore, List.length_append, places_len]; exact Nat.le_trans (Nat.add_le_add_right hU 1) (by decide)) rfl) ?_
  have hpairs : (unitsD (t.text ++ [92])).filterMap (fun d => Option.some d) = ((places 0 t.units ++ [(t.text.length, [92])]).map unitD) := by
    rw [filterMap_id]; show (ufrom 0 (t.text ++ [92]) false).map unitD = _; rw [hmore]
  rw [hpairs]
  have hP6 : ((places 0 t.units ++ [(t.text.length, [92])]).map unitD).length ≤ 1000000 := by rw [List.length_map, List.length_append, places_len]; exact Nat.le_trans (Nat.add_le_add_right hU 1) (by decide)
  have hbut : ((places 0 t.units ++ [(t.text.length, [92])]).map unitD).take (((places 0 t.units ++ [(t.text.length, [92])]).map unitD).length - 1) = (places 0 t.units).map unitD := by
    rw [List.map_append, List.length_append]
    exact List.take_left
  refine Exs.cons (Ex.assignComp (cl := []) (ds := (places 0 t.units).map unitD) [] g2 (EvIt.listT (Ev.eqv (congrArg D.lst hbut) (Ev.sliceButLast (EvL.of (Ev.loc rfl rfl)) (Ev.un Ev.int Uop.neg) hP6))) (closureFor_none (by decide)) (noV (Γ := [])) (fun K Z k d hd => ?_) (by rw [List.length_map, places_len]; exact Nat.le_trans hU (by decide)) rfl) ?_
  · obtain ⟨p, hp, rfl⟩ := get_map hd
    exact ⟨_, As.tup (AsIn.cons (As.name rfl) (AsIn.cons (As.name rfl) AsIn.nil)), noV (Γ := []), Tests.nil, Ev.loc rfl rfl⟩
  rw [g2_all, places_snd]
  have hpl := placed_places t.units (fun u hu => (hunit u hu).1)
  have h72 := f72 t.units (Nat.le_trans hU (by decide)) (fun u hu => by have := (hunit u hu).2; omega)
  rw [hpl] at h72
  have hcatP : (places 0 t.units).map unitD ++ [.tup [.int ((txt t.text).length : Int), tx [92]]] = (places 0 t.units ++ [(t.text.length, [92])]).map unitD := by
    rw [List.map_append, txt_len]; rfl
  refine Exs.cons (Ex.iff (Tr.cmp (c := false) (Ev.loc rfl rfl) (Ev.eqv (congrArg D.lst hcatP) (EvN.add (EvL.of (Ev.fn rfl h72 (by show 1 ≤ 8; decide) rfl (Evs.cons (Ev.loc rfl rfl) Evs.nil))) (EvL.of (Ev.list (Evs.cons (Ev.tuple (Evs.cons (Ev.blt1 (by decide) rfl rfl (Ev.loc rfl rfl) (Uop.len h6)) (Evs.cons Ev.str Evs.nil)) (by show 2 ≤ 1000; decide)) Evs.nil) (by show 1 ≤ 1000; decide))) (by rw [List.length_map, places_len]; exact Nat.le_trans (Nat.add_le_add_right hU 1) (by decide))).toE) (Bop.neL (deep_units _))) Exs.nil) ?_
  refine Exs.cons (Ex.assignComp (cl := []) (ds := t.units.map tx) [] gSym (EvIt.listN (Ev.loc rfl rfl)) (closureFor_none (by decide)) (noV (Γ := [])) (fun K Z k d hd => ?_) (by rw [List.length_map]; exact Nat.le_trans hU (by decide)) rfl) ?_
  · obtain ⟨x, hx, rfl⟩ := get_map hd
    exact ⟨_, As.name rfl, noV (Γ := []), Tests.nil, Ev.getEt (Ev.loc rfl rfl) Ev.int rfl (t.units_sym hok x (List.mem_of_getElem? hx))⟩
  rw [gSym_all]
  have hsy : (t.units.map fun u => D.int (symU u)) = (t.units.map symU).map D.int := by rw [List.map_map]; rfl
  have h73 := f73 (t.units.map symU) u v (by rw [List.length_map]; exact Nat.le_trans hU (by decide)) (fun s hs => by
    obtain ⟨x, hx, rfl⟩ := List.mem_map.mp hs
    rcases t.units_sym hok x hx with q | q
    · exact ett_pos _ q
    · rw [q.2]; decide)
  have hrun : runOf (t.units.map symU) u v = u :: t.wm u v ++ [v, -u] := by unfold runOf; rw [t.gaps_gl hok]; exact t.run u v
  have h68 := f68 cs u v (Nat.le_trans hCs (by decide)) (fun c hc => ar_c (hcb c hc) hcl)
  rw [hw u v] at h68
  rw [hrun] at h73
  unfold nums at h73
  rw [← hsy] at h73
  have hcatW : (u :: t.wm u v ++ [v]).map D.int ++ [.int (-u)] = (u :: t.wm u v ++ [v, -u]).map D.int := by simp
  have hwl := t.wm_len u v
  have hW : (t.wm u v).length ≤ 7 := ar_pred hwl hN7
  refine Exs.cons (Ex.iff (Tr.cmp (c := false) (Ev.fn rfl h73 (by show 1 ≤ 8; decide) rfl (Evs.cons (Ev.loc rfl rfl) (Evs.cons (Ev.loc rfl rfl) (Evs.cons (Ev.loc rfl rfl) Evs.nil)))) (Ev.eqv (congrArg D.lst hcatW) (EvN.add (EvL.of (Ev.fn rfl h68 (by show 1 ≤ 8; decide) rfl (Evs.cons (Ev.loc rfl rfl) (Evs.cons (Ev.loc rfl rfl) (Evs.cons (Ev.loc rfl rfl) Evs.nil))))) (EvL.of (Ev.list (Evs.cons (Ev.un (Ev.loc rfl rfl) Uop.neg) Evs.nil) (by show 1 ≤ 1000; decide))) (by simp; exact Nat.le_trans hW (by decide))).toE) (Bop.neL (deep_ints _))) Exs.nil) ?_
  have hread : (zipD (t.units.map tx) (t.units.map fun u => D.int (symU u))).filterMap gRead = t.leaves.map tx := by rw [zip_units]; exact t.read_leaves hok
  have hbet : (zipD (t.units.map tx) (t.units.map fun u => D.int (symU u))).filterMap gBet = t.marks.map mkD := by rw [zip_units]; exact t.between_marks hok
  refine Exs.cons (Ex.assignComp (cl := []) (ds := zipD (t.units.map tx) (t.units.map fun u => D.int (symU u))) [] gRead (EvIt.zip rfl (Ev.loc rfl rfl) (Ev.loc rfl rfl)) (closureFor_none (by decide)) (noV (Γ := [])) (fun K Z k d hd => ?_) (by rw [zip_len]; exact Nat.le_trans hU (by decide)) rfl) ?_
  · obtain ⟨x, hx, rfl⟩ := zip_get hd
    refine ⟨_, As.tup (AsIn.cons (As.name rfl) (AsIn.cons (As.name rfl) AsIn.nil)), noV (Γ := []), ?_⟩
    simp only [gRead]
    by_cases q : 256 ≤ symU x
    · rw [if_pos q]
      exact ⟨Tests.one (Tr.of (Ev.fn rfl (f63 (symU x)) (by show 1 ≤ 9; decide) rfl (Evs.cons (Ev.loc rfl rfl) Evs.nil)) (by rw [show decide (symU x ≥ 256) = true from decide_eq_true q]; exact Truth.bool)), Ev.loc rfl rfl⟩
    · rw [if_neg q]
      exact Tests.one (Tr.of (Ev.fn rfl (f63 (symU x)) (by show 1 ≤ 9; decide) rfl (Evs.cons (Ev.loc rfl rfl) Evs.nil)) (by rw [show decide (symU x ≥ 256) = false from decide_eq_false q]; exact Truth.bool))
  rw [hread]
  refine Exs.cons (Ex.assignComp (cl := []) (ds := zipD (t.units.map tx) (t.units.map fun u => D.int (symU u))) [] gBet (EvIt.zip rfl (Ev.loc rfl rfl) (Ev.loc rfl rfl)) (closureFor_none (by decide)) (noV (Γ := [])) (fun K Z k d hd => ?_) (by rw [zip_len]; exact Nat.le_trans hU (by decide)) rfl) ?_
  · obtain ⟨x, hx, rfl⟩ := zip_get hd
    refine ⟨_, As.tup (AsIn.cons (As.name rfl) (AsIn.cons (As.name rfl) AsIn.nil)), noV (Γ := []), ?_⟩
    simp only [gBet]
    cases q : ([7, 8, 256] : List Int).contains (symU x) with
    | true =>
      rw [if_pos rfl]
      exact Tests.one (Tr.cmp (c := false) (Ev.loc rfl rfl) (Ev.tuple (ds := ([7, 8, 256] : List Int).map D.int) (Evs.cons Ev.int (Evs.cons Ev.int (Evs.cons Ev.int Evs.nil))) (by show 3 ≤ 1000; decide)) (by rw [show false = !([7, 8, 256] : List Int).contains (symU x) by rw [q]; rfl]; exact Bop.notInT))
    | false =>
      rw [if_neg Bool.false_ne_true]
      exact ⟨Tests.one (Tr.cmp (c := true) (Ev.loc rfl rfl) (Ev.tuple (ds := ([7, 8, 256] : List Int).map D.int) (Evs.cons Ev.int (Evs.cons Ev.int (Evs.cons Ev.int Evs.nil))) (by show 3 ≤ 1000; decide)) (by rw [show true = !([7, 8, 256] : List Int).contains (symU x) by rw [q]; rfl]; exact Bop.notInT)), Ev.loc rfl rfl⟩
  rw [hbet]
  have hgl := t.gl_len
  have hGl : t.gl.length ≤ 8 := ar_succ hgl hN7
  have hgs : ∀ x ∈ t.gl, 0 ≤ x ∧ x < 32 := fun x hx => by
    rw [← t.gaps_gl hok] at hx
    have := gaps_small _ x hx
    rw [List.length_map] at this
    exact ar_lt this hU
  refine Exs.cons (Ex.assignTold (number := c3) hfr rfl (Ev.fn rfl (f70 t.gl c3 (Nat.le_trans hGl (by decide))) (by show 1 ≤ 8; decide) rfl (Evs.cons (Ev.loc rfl rfl) (Evs.cons (Ev.subL (EvL.of (Ev.cel rfl rfl)) (Ev.int (i := 3)) (by omega) hT6 hg3.1) Evs.nil))) hgs (Nat.le_trans hGl (by decide)) (by show 1 ≤ 40; decide) rfl rfl) ?_
  have hll := t.leaves_len
  have hmml := t.marks_len
  have hLl : t.leaves.length ≤ 7 := Nat.le_trans (Nat.le_of_eq hll) hN7
  have hMl : t.marks.length ≤ 7 := ar_pred hmml hN7
  have hG6 : (t.gl.map D.int).length ≤ 1000000 := by rw [List.length_map]; exact Nat.le_trans hGl (by decide)
  have hL6 : (t.leaves.map tx).length ≤ 1000000 := by rw [List.length_map]; exact Nat.le_trans hLl (by decide)
  have hM6 : (t.marks.map mkD).length ≤ 1000000 := by rw [List.length_map]; exact Nat.le_trans hMl (by decide)
  refine Exs.cons (Ex.iff (Tr.or_false (Tr.cmp (c := false) (Ev.lenL rfl (EvL.of (Ev.loc rfl rfl)) hG6) (Ev.bin (Ev.lenL rfl (EvL.of (Ev.loc rfl rfl)) hL6) Ev.int Bop.add) (by
      have e : ((t.gl.map D.int).length : Int) = ((t.leaves.map tx).length : Int) + 1 := by rw [List.length_map, List.length_map]; exact ar_gl hgl hll
      rw [e, show false = (((t.leaves.map tx).length : Int) + 1 != ((t.leaves.map tx).length : Int) + 1) from (bne_self_eq_false _).symm]; exact Bop.neI)) (Tr.or_false (Tr.cmp (c := false) (Ev.bin (Ev.lenL rfl (EvL.of (Ev.loc rfl rfl)) hM6) Ev.int Bop.add) (Ev.lenL rfl (EvL.of (Ev.loc rfl rfl)) hL6) (by
      have e : ((t.marks.map mkD).length : Int) + 1 = ((t.leaves.map tx).length : Int) := by rw [List.length_map, List.length_map]; exact ar_ml hmml hll
      rw [e, show false = (((t.leaves.map tx).length : Int) != ((t.leaves.map tx).length : Int)) from (bne_self_eq_false _).symm]; exact Bop.neI)) Tr.or_nil)) Exs.nil) ?_
  have h74 := f74 t c4 hN1 (Nat.le_trans hN7 (by decide)) (Nat.le_trans hT (by decide))
  refine Exs.stop (Ex.ret ?_) (fun _ h => nomatch h)
  exact Ev.cmp (Ev.fn rfl h74 (by show 1 ≤ 8; decide) rfl (Evs.cons (Ev.loc rfl rfl) (Evs.cons (Ev.loc rfl rfl) (Evs.cons (Ev.loc rfl rfl) (Evs.cons (Ev.subL (EvL.of (Ev.cel rfl rfl)) (Ev.int (i := 4)) (by omega) hT6 hg4.1) Evs.nil))))) (Ev.tuple (Evs.cons (Ev.list (Evs.cons (Ev.loc rfl rfl) Evs.nil) (by show 1 ≤ 1000; decide)) (Evs.cons (Ev.list (Evs.cons Ev.int (Evs.cons Ev.int Evs.nil)) (by show 2 ≤ 1000; decide)) Evs.nil)) (by show 2 ≤ 1000; decide)) (Bop.eqT (by rfl))
end Mine

-- F10
namespace Mine
open PySem PySem.W PySem.Calls PyProof.Rows PySem.SeqAt

/-- the law, called: it gives True -/
theorem lawCall {w : World} {A : Around} {mg mb : Str → Option Value} {X₀ : List Addr} {s : Shared} {f : Addr} {v : Value} {script : List Int} (hn : script.length ≤ 1000)
    (G : GOk w mg mb s.heap) (hfa : FnAt s.heap f lN lAr lB lSc) (hh : A.handled = none) (hd : A.depth ≤ 400) (hu : A.units ≤ 1000) (hfr : A.frames = some []) (hlive : ∀ a ∈ X₀, ∃ o, s.heap.get? a = some o) (ha : Is s.heap X₀ v (nums script)) :
    wpAny (model P w) A (call (.ref f) [v]) (fun r s' => r = .bool true ∧ Ext [] s s') no s := by
  refine wpAny_mono (lawOf (d := .bool true) ["script"] [("totals", .cell0), ("pool", .cell0), ("script", .val (nums script))] rfl (fun _ _ _ vs h => by obtain ⟨_, rfl⟩ := len1 h; rfl) (fun L x hx => by rw [List.mem_singleton.mp hx]; exact .inl rfl) (fun h X L vs a x b e => ?_)
    (fun w A L a cd h₀ mg mb X₀ hfr => lawBody1 script hn w A L a cd h₀ mg mb X₀ hfr) (fun L n c h => ?_) rfl rfl rfl G hfa hh hd hu hfr hlive (.one ha)) (fun r s' q => ?_) fun _ _ x => x
  · cases a with | cons a1 a => cases a with | nil =>
    rcases look_cons e with ⟨rfl, rfl⟩ | ⟨_, e⟩
    · exact .inr ⟨_, rfl, rfl, rfl⟩
    · rcases look_cons e with ⟨rfl, rfl⟩ | ⟨_, e⟩
      · exact .inr ⟨_, rfl, rfl, rfl⟩
      · rcases look_cons e with ⟨rfl, rfl⟩ | ⟨_, e⟩
        · exact .inl ⟨_, _, rfl, rfl, a1⟩
        · cases e
  · have h : (n, c) ∈ [(("pool" : Str), (L + 1 + 1 : Addr)), (("totals" : Str), (L + 1 : Addr))] := h
    rcases List.mem_cons.mp h with q | q
    · cases q; rfl
    · have := List.mem_singleton.mp q; cases this; rfl
  · obtain ⟨i, x⟩ := q
    cases i
    exact ⟨rfl, x⟩
end Mine

-- H1
namespace Mine
open PySem PySem.W PySem.Calls PyProof.Rows

def isDone : Step → Bool
  | .halt (.done _) _ => true
  | _ => false
theorem isDone_ite {c : Prop} [Decidable c] {a b : Step} (ha : isDone a = false) (hb : isDone b = false) : isDone (if c then a else b) = false := by
  split
  · exact ha
  · exact hb
theorem through_step {den : Code → Sem Fin} {p : Program} {w : World} {s : Shared} {t : Thread} (h : isDone (step den p w s t) = true) : through t = true := by
  obtain ⟨heap, gens, drawn, toks, os⟩ := s
  obtain ⟨cur, code, pos, stack⟩ := t
  have no : ∀ {st : Step}, st = step den p w ⟨heap, gens, drawn, toks, os⟩ ⟨cur, code, pos, stack⟩ → isDone st = false → through ⟨cur, code, pos, stack⟩ = true := fun e q => by rw [e, h] at q; cases q
  cases cur with
  | pure x => cases x with
    | again c => exact no rfl rfl
    | done f => cases stack with
      | nil => rfl
      | cons fr rest => cases fr <;> exact no rfl rfl
  | raise e => cases stack with
    | nil => exact no (st := if leftWithCleanup gens then _ else _) rfl (isDone_ite rfl rfl)
    | cons fr rest => cases fr <;> exact no rfl rfl
  | finish e => exact no (st := if leftWithCleanup gens then _ else _) rfl (isDone_ite rfl rfl)
  | load a _ k => exact no (st := match heap.get? a with | some o => .go _ _ | none => .halt (.stuck _) _) rfl (by cases heap.get? a <;> rfl)
  | update a _ f k => exact no (st := if (heap.get? a).isSome then _ else _) rfl (isDone_ite rfl rfl)
  | choose src n k => exact no (st := if n = 0 then _ else _) rfl (isDone_ite rfl rfl)
  | genState g k => exact no (st := match gens[g]? with | none => .halt (.stuck _) _ | some st => .go _ _) rfl (by cases gens[g]? <;> rfl)
  | resume g r l k =>
    exact no (st := match gens[g]? with
      | none => .halt (.stuck _) _
      | some (.fresh c) => (match (generalizing := false) r with
        | .send .none => .go _ _
        | .send _ => .go _ _
        | .throw e => .go _ _)
      | some (.suspended kk _ c p frames _) => .go _ _
      | some .running => .go _ _
      | some .finished => .go _ _) rfl (by
        cases gens[g]? with
        | none => rfl
        | some st =>
          cases st with
          | fresh c =>
            cases r with
            | send v => cases v <;> rfl
            | throw e => rfl
          | _ => rfl)
  | yield v g0 l kk =>
    exact no (st := match splitAtGen stack with
      | some (frames, (g, k, c, p), rest) => .go _ _
      | none => .halt (.stuck _) _) rfl (by
        cases splitAtGen stack with
        | none => rfl
        | some x => rfl)
  | _ => exact no rfl rfl

theorem through_of {den : Code → Sem Fin} {p : Program} {w : World} {f : Flow} {s'' : Shared} : ∀ (n : Nat) (s : Shared) (t : Thread), s.asleep → runN den p w n s t = .halted (.done f) s'' →
    (∀ k s₁ t₁, runN den p w k s t = .running s₁ t₁ → t₁.calm = true) → ∃ m t₁, schedN den p w m (.single s t) = .running (.single s'' t₁) ∧ through t₁ = true
  | 0, s, t, _, h, _ => by cases h
  | n + 1, s, t, hr, h, hc => by
    simp only [runN] at h
    have hc0 : t.calm = true := hc 0 s t rfl
    cases hs : step den p w s t with
    | halt o s' =>
      rw [hs] at h
      simp only [Run.halted.injEq] at h
      obtain ⟨rfl, rfl⟩ := h
      obtain rfl := step_halt_same den p w s s' t _ hs
      exact ⟨0, t, rfl, through_step (den := den) (p := p) (w := w) (by rw [hs]; rfl)⟩
    | go s' t' =>
      rw [hs] at h
      have hl := step_life den p w s s' t t' hs
      obtain ⟨m, t₁, hm, ht₁⟩ := through_of n s' t' (Shared.asleep_of_life hl hr) h fun k s₁ t₁ e => hc (k + 1) s₁ t₁ (by simp only [runN, hs]; exact e)
      have e : sstep den p w (.single s t) = .go (.single s' t') := by
        rcases sstep_single den p w s t hc0 hr with e | e
        · rw [e, hs]; rfl
        · rw [hs] at e; cases e
      exact ⟨m + 1, t₁, by simp only [schedN, e]; exact hm, ht₁⟩

theorem ran_of {P : Program} {w : World} {tree : Sem Fin} {s₀ : Shared} {R : Shared → Prop} (hz : s₀.asleep)
    (h : wpAny (model P w) callerA tree (fun fin s' => ∃ f, fin = .done f ∧ (R s' ∧ s'.gens = #[])) (fun _ _ => False) s₀) :
    ∃ s₁, (∃ n t, schedN (denote table) P w n (.single s₀ ⟨tree, .builtin "claim.caller" {}, default, []⟩) = .running (.single s₁ t) ∧ through t = true) ∧ s₁.heap.life = s₀.heap.life ∧ R s₁ ∧ s₁.gens = #[] := by
  let R' : Result → Shared → Prop := fun r s' => (∃ f, r = .ok f) ∧ R s' ∧ s'.gens = #[]
  have h' : wpAny (model P w) callerA tree (fun fin s' => ∃ f, fin = .done f ∧ (R' (.ok f) s' ∧ leftWithCleanup s'.gens = false)) (fun e s' => R' (.error e) s' ∧ leftWithCleanup s'.gens = false) s₀ :=
    wpAny_mono h (fun fin s' ⟨f, e, a, b⟩ => ⟨f, e, ⟨⟨f, rfl⟩, a, b⟩, by rw [b]; simp [leftWithCleanup]⟩) (fun _ _ x => x.elim)
  obtain ⟨n, r, s', hn, hR⟩ := (wp_iff_halts (M := model P w) (c := .builtin "claim.caller" {}) tree R' default s₀).mp (wp_of_wpAny_done (R := fun r s' => R' r s' ∧ leftWithCleanup s'.gens = false) caller_in h' default)
  obtain ⟨s'', hr, hf, hc⟩ := runNI_real (model P w).den (model P w).prog (model P w).w hn (outcomeOf_ends r)
  obtain ⟨⟨f, rfl⟩, a, b⟩ := hR
  obtain rfl := Shared.eq_of_forget_eq hf b
  exact ⟨s'', through_of n s₀ _ hz hr hc, runN_life _ _ _ hr, a, b⟩

end Mine

-- H2
namespace Mine
open PySem PySem.W PySem.Calls PyProof.Rows

section
variable {P₁ : Program} {w : World} {K : Type} [DecidableEq K] {knd : KeyKind P₁ w K} {A : Around} {E : Value → Shared → Prop} {s : Shared}

theorem dictPut_pairs {d : Addr} {kvs : List (K × Value)} {k : K} {key v : Value} {Q : Unit → Shared → Prop} (hkey : knd.is k key = true) (hm : s.heap.DictOf knd d kvs)
    (hQ : ∀ h', h'.DictOf knd d (stored kvs k v) → Heap.SameBut d s.heap h' → Q () { s with heap := h' })
    (hsz : kvs.length ≤ sizeLine := by size_fits) :
    wpAny (model P₁ w) A (dictPut d (knd.hash k) key v) Q E s := by
  obtain ⟨o, es, ep, ho, hc, hd, hk, hp, hn⟩ := hm
  have hes : es.size ≤ sizeLine := by have e1 := hp.length; have e2 : es.toList.length = es.size := by simp
                                      omega
  unfold dictPut
  refine wpAny_bind (wpAny_dictFind_of hkey ho hd hk ?_)
  have hidx : (es.findIdx? fun e => knd.is k e.key) = kvs.findIdx? fun kv => decide (kv.1 = k) := by
    rw [← hp.findIdx k]; obtain ⟨l⟩ := es; simp
  cases hi : es.findIdx? fun e => knd.is k e.key with
  | some i =>
    refine (wpAny_updateDict ho hd ((hQ _ ⟨_, _, ep, Heap.get?_update_self _ ho (Obj.isFreed_of_dict (Obj.data_mapDict hd _)),
      hc.mapDict _, Obj.data_mapDict hd _, hk.modify _ _, ?_, ?_⟩ (Heap.SameBut.update ..))))
    · rw [stored, if_pos (any_of_findIdx_some (hidx ▸ hi))]
      have hl : (es.toList.findIdx? fun e => knd.is k e.key) = some i := by rw [← hi]; obtain ⟨l⟩ := es; simp
      have := hp.modify hn hl v
      obtain ⟨l⟩ := es
      simpa using this
    · rw [stored, if_pos (any_of_findIdx_some (hidx ▸ hi)), keys_map_store]; exact hn
  | none =>
    have hnot : k ∉ kvs.map (·.1) := not_mem_of_findIdx_none (hidx ▸ hi)
    have hany : ¬ (kvs.any fun kv => decide (kv.1 = k)) = true := by
      rw [List.any_eq_true]; rintro ⟨kv, hkv, he⟩
      exact hnot (List.mem_map.mpr ⟨kv, hkv, of_decide_eq_true he⟩)
    refine (wpAny_updateDictKeys (hz := hes) ho hd (hQ _ ⟨_, _, ep + 1, Heap.get?_update_self _ ho (Obj.isFreed_of_dict (Obj.data_mapDictKeys hd _)),
      hc.mapDictKeys _, Obj.data_mapDictKeys hd _, hk.push hkey _, ?_, ?_⟩ (Heap.SameBut.update ..)))
    · rw [stored, if_neg hany]
      have := hp.append hkey (knd.hash k) v
      obtain ⟨l⟩ := es
      simpa using this
    · rw [stored, if_neg hany, List.map_append, List.nodup_append]
      refine ⟨hn, by simp, ?_⟩
      intro a ha b hb
      simp only [List.map_cons, List.map_nil, List.mem_singleton] at hb
      subst hb
      exact fun e => hnot (e ▸ ha)

theorem mergeMapping_dict {d o : Addr} {kvs more : List (K × Value)} {Q : Unit → Shared → Prop} (hne : kvs ≠ []) (hdo : d ≠ o) (hoS : (o == sysModules) = false)
    (hd : s.heap.DictOf knd d kvs) (ho : s.heap.DictOf knd o more)
    (hQ : ∀ h', h'.DictOf knd d (merged kvs more) → Heap.SameBut d s.heap h' → Q () { s with heap := h' })
    (hsz : kvs.length + more.length ≤ sizeLine := by size_fits) :
    wpAny (model P₁ w) A (mergeMapping d (.ref o) false) Q E s := by
  obtain ⟨od, esd, epd, hod, hcd, hdd, hkd, hpd, hnd⟩ := id hd
  obtain ⟨oo, eso, epo, hoo, hco, hdo', hko, hpo, hno⟩ := id ho
  have hlen : more.length = eso.size := by rw [← hpo.length]; simp
  have hT : s.TypeIs (.ref o) "dict" := ho.typeIs
  unfold mergeMapping
  refine wpAny_bind (wpAny_isInstance (b := true) hT isSubtype_dict_dict ?_)
  rw [if_pos rfl]
  refine wpAny_bind (wpAny_specialOf hT F.slot_dict_iter.lookup (wpAny_bind (wpAny_pure ?_)))
  simp only [beq_self_eq_true, hoS, Bool.false_eq_true, if_false]
  refine wpAny_bind (wpAny_dictEntries hod hdd ?_)
  have hes : ¬ esd.isEmpty = true := by
    intro hemp
    have h0 : esd = #[] := Array.isEmpty_iff.mp hemp
    have := hpd.length; rw [h0] at this; exact hne (List.length_eq_zero_iff.mp (by simpa using this.symm))
  rw [if_neg hes]
  refine wpAny_bind (wpAny_dictEntries hoo hdo' ?_)
  refine wpAny_bind (wpAny_dictEpoch hoo hdo' ?_)
  refine wpAny_bind ?_
  rw [List.range_eq_range']
  refine wpAny_forIn_list _
      (fun rest _ s' => ∃ h' i, s' = { s with heap := h' } ∧ rest = List.range' i (eso.size - i) ∧ i ≤ eso.size ∧ h'.DictOf knd d (merged kvs (more.take i)) ∧ h'.get? o = some oo ∧ Heap.SameBut d s.heap h')
      _ ?_ ?_ _ _ ⟨s.heap, 0, rfl, by simp, Nat.zero_le _, by simpa [merged] using hd, hoo, Heap.SameBut.refl _ _⟩
  · rintro x rest b s' ⟨h', i, rfl, hr, hi, hd', hoo', hs'⟩
    have hlt : i < eso.size := by
      rcases Nat.lt_or_ge i eso.size with h | h
      · exact h
      · rw [Nat.sub_eq_zero_of_le h] at hr; simp at hr
    obtain ⟨rfl, hrest⟩ : x = i ∧ rest = List.range' (i + 1) (eso.size - (i + 1)) := by
      have e : eso.size - i = (eso.size - (i + 1)) + 1 := by omega
      rw [e, List.range'_succ] at hr
      injection hr with h1 h2
      exact ⟨h1, h2⟩
    refine wpAny_bind (wpAny_dictEntries hoo' hdo' ?_)
    rw [Array.getElem?_eq_getElem hlt]
    obtain ⟨kv, hkv⟩ : ∃ kv, more[x]? = some kv := ⟨more[x]'(by rw [hlen]; exact hlt), List.getElem?_eq_getElem _⟩
    obtain ⟨k, v⟩ := kv
    obtain ⟨hkey, hval⟩ := hpo.get? (e := eso[x]) (by simp [hlt]) hkv
    obtain ⟨k', hkey', hhash⟩ := hko eso[x] (Array.getElem_mem hlt)
    obtain rfl : k' = k := knd.inj _ _ _ hkey' hkey
    show wpAny _ _ (holding [eso[x].key, eso[x].val] (dictPut d eso[x].hash eso[x].key eso[x].val) >>= _) _ _ _
    rw [hhash, hval]
    have hmx : (merged kvs (more.take x)).length ≤ sizeLine := by
      have e1 := merged_length_le kvs (more.take x)
      have e2 : (more.take x).length ≤ more.length := by rw [List.length_take]; omega
      omega
    refine wpAny_bind (wpAny_holding (dictPut_pairs (hsz := hmx) hkey hd' fun h'' hd'' hs'' => ?_))
    have hoo'' : h''.get? o = some oo := (hs''.2 o (Ne.symm hdo)).trans hoo'
    refine wpAny_bind (wpAny_dictEpoch hoo'' hdo' ?_)
    rw [if_neg (by simp)]
    exact wpAny_pure ⟨h'', x + 1, rfl, hrest, hlt, by rw [merged_take_succ kvs more x (k', v) hkv]; exact hd'', hoo'', hs'.trans hs''⟩
  · rintro b s' ⟨h', i, rfl, hr, hi, hd', hoo', hs'⟩
    have hin : i = eso.size := by
      rcases Nat.lt_or_ge i eso.size with h | h
      · have e : eso.size - i = (eso.size - (i + 1)) + 1 := by omega
        rw [e, List.range'_succ] at hr; exact nomatch hr
      · exact Nat.le_antisymm hi h
    refine wpAny_pure (hQ h' ?_ hs')
    rw [hin, ← hlen, List.take_length] at hd'; exact hd'
end
end Mine

-- H3
namespace Mine
open PySem PySem.W PySem.Calls PyProof.Rows

section
variable {P₁ : Program} {w : World} {K : Type} [DecidableEq K] {knd : KeyKind P₁ w K} {A : Around} {E : Value → Shared → Prop}

def KeyT (knd : KeyKind P₁ w K) (A : Around) (t : Sem Value) (k : K) : Prop :=
  ∀ (E : Value → Shared → Prop) (s : Shared) (Q : Value → Shared → Prop), (∀ v tk, knd.is k v = true → Q v { s with toks := tk }) → wpAny (model P₁ w) A t Q E s
def ValT (P₁ : Program) (w : World) (A : Around) (I : Heap → Prop) (t : Sem Value) (V : Value → Prop) : Prop :=
  ∀ (E : Value → Shared → Prop) (s : Shared) (Q : Value → Shared → Prop), I s.heap → (∀ v tk, V v → Q v { s with toks := tk }) → wpAny (model P₁ w) A t Q E s
def GivesAll (knd : KeyKind P₁ w K) (A : Around) (I : Heap → Prop) (V : K → Value → Prop) : List (Sem Value × Sem Value) → List K → Prop
  | [], [] => True
  | p :: ps, k :: ks => KeyT knd A p.1 k ∧ ValT P₁ w A I p.2 (V k) ∧ GivesAll knd A I V ps ks
  | _, _ => False

theorem GivesAll.append {I : Heap → Prop} {V : K → Value → Prop} : ∀ {ps qs : List (Sem Value × Sem Value)} {ks ls : List K}, GivesAll knd A I V ps ks → GivesAll knd A I V qs ls → GivesAll knd A I V (ps ++ qs) (ks ++ ls)
  | [], _, [], _, _, h => h
  | _ :: _, _, _ :: _, _, ⟨a, b, c⟩, h => ⟨a, b, c.append h⟩
  | [], _, _ :: _, _, h, _ => h.elim
  | _ :: _, _, [], _, h, _ => h.elim
theorem GivesAll.length {I : Heap → Prop} {V : K → Value → Prop} : ∀ {ps : List (Sem Value × Sem Value)} {ks : List K}, GivesAll knd A I V ps ks → ps.length = ks.length
  | [], [], _ => rfl
  | _ :: _, _ :: _, ⟨a, b, c⟩ => by simp [c.length]
  | [], _ :: _, h => h.elim
  | _ :: _, [], h => h.elim

theorem stored_fresh {kvs : List (K × Value)} {k : K} {v : Value} (h : k ∉ kvs.map (·.1)) : stored kvs k v = kvs ++ [(k, v)] := by
  rw [stored, if_neg]
  rw [List.any_eq_true]
  rintro ⟨kv, hkv, he⟩
  exact h (List.mem_map.mpr ⟨kv, hkv, of_decide_eq_true he⟩)

theorem fill_long {I : Heap → Prop} {V : K → Value → Prop} {d : Addr} {f : Sem Value × Sem Value → PUnit → Sem (ForInStep PUnit)} (hI : ∀ h h', I h → Heap.SameBut d h h' → I h')
    (hf : ∀ p u, f p u = (do let kv ← p.1; let vv ← holding [kv] p.2; holding [kv, vv] (dictSet d kv vv); pure (.yield PUnit.unit))) :
    ∀ (ps : List (Sem Value × Sem Value)) (ks : List K) (kvs : List (K × Value)) (s : Shared) (Q : PUnit → Shared → Prop), GivesAll knd A I V ps ks → s.heap.DictOf knd d kvs →
      (kvs.map (·.1) ++ ks).Nodup → (∀ kv ∈ kvs, V kv.1 kv.2) → kvs.length + ks.length ≤ sizeLine → I s.heap →
      (∀ h' tk kvs', h'.DictOf knd d kvs' → kvs'.map (·.1) = kvs.map (·.1) ++ ks → (∀ kv ∈ kvs', V kv.1 kv.2) → Heap.SameBut d s.heap h' → Q PUnit.unit { s with heap := h', toks := tk }) →
      wpAny (model P₁ w) A (forIn ps PUnit.unit f) Q E s
  | [], [], kvs, s, Q, _, hd, hn, hv, hz, hi, h => by
    rw [List.forIn_nil]
    exact wpAny_pure (h s.heap s.toks kvs hd (by simp) hv (Heap.SameBut.refl _ _))
  | p :: ps, k :: ks, kvs, s, Q, ⟨a, b, c⟩, hd, hn, hv, hz, hi, h => by
    rw [List.forIn_cons, hf]
    refine wpAny_bind (wpAny_bind (a _ _ _ fun kv tk hk => ?_))
    refine wpAny_bind (wpAny_holding (b _ _ _ hi fun vv tk₂ hvv => ?_))
    have hz' : kvs.length ≤ sizeLine := by omega
    refine wpAny_bind (wpAny_holding (wpAny_dictSet_pairs (hsz := hz') hk hd fun h₁ hd₁ hs₁ => wpAny_pure ?_))
    have hfr : k ∉ kvs.map (·.1) := fun e => by
      rw [List.nodup_append] at hn
      exact hn.2.2 k e k (List.mem_cons_self ..) rfl
    rw [stored_fresh hfr] at hd₁
    refine fill_long hI hf ps ks _ _ Q c hd₁ (by simpa using hn) (fun kv' h' => ?_) (by simp at hz ⊢; omega) (hI _ _ hi hs₁) fun h₂ tk₃ kvs' e1 e2 e3 e4 => h h₂ tk₃ kvs' e1 (by simpa using e2) e3 (hs₁.trans e4)
    rcases List.mem_append.mp h' with q | q
    · exact hv _ q
    · rw [List.mem_singleton.mp q]; exact hvv
  | [], _ :: _, _, _, _, h, _, _, _, _, _, _ => h.elim
  | _ :: _, [], _, _, _, h, _, _, _, _, _, _ => h.elim

theorem evalPairs_gives {I : Heap → Prop} {V : K → Value → Prop} : ∀ (ps : List (Sem Value × Sem Value)) (ks : List K) (s : Shared) (Q : List (Value × Value) → Shared → Prop), GivesAll knd A I V ps ks → I s.heap →
      (∀ vs kvs tk, Carries knd vs kvs → kvs.map (·.1) = ks → (∀ kv ∈ kvs, V kv.1 kv.2) → Q vs { s with toks := tk }) → wpAny (model P₁ w) A (evalPairs ps) Q E s
  | [], [], s, Q, _, _, h => evalPairs_nil (h [] [] s.toks trivial rfl (fun _ x => nomatch x))
  | p :: ps, k :: ks, s, Q, ⟨a, b, c⟩, hi, h => by
    refine evalPairs_cons (a _ _ _ fun kv tk hk => b _ _ _ hi fun vv tk₂ hvv => evalPairs_gives ps ks _ _ c hi fun vs kvs tk₃ e1 e2 e3 => ?_)
    exact h ((kv, vv) :: vs) ((k, vv) :: kvs) tk₃ ⟨hk, rfl, e1⟩ (by simp [e2]) (fun x hx => by
      rcases List.mem_cons.mp hx with rfl | q
      · exact hvv
      · exact e3 _ q)
  | [], _ :: _, _, _, h, _, _ => h.elim
  | _ :: _, [], _, _, h, _, _ => h.elim

theorem subDict_gives {I : Heap → Prop} {V : K → Value → Prop} {ps : List (Sem Value × Sem Value)} {ks : List K} {s : Shared} {Q : Addr → Shared → Prop} (G : GivesAll knd A I V ps ks) (hn : ks.Nodup) (hz : ks.length ≤ 17)
    (hI : ∀ h h', I h → Heap.SameBut s.heap.objs.size h h' → I h') (hi : I (s.heap.push { cls := .type "dict", data := .dict #[] }))
    (h : ∀ h' tk kvs, h'.DictOf knd s.heap.objs.size kvs → kvs.map (·.1) = ks → (∀ kv ∈ kvs, V kv.1 kv.2) → Heap.SameBut s.heap.objs.size (s.heap.push { cls := .type "dict", data := .dict #[] }) h' → Q s.heap.objs.size { s with heap := h', toks := tk }) :
    wpAny (model P₁ w) A (subDict ps) Q E s := by
  unfold subDict
  refine wpAny_bind (wpAny_alloc ?_)
  refine wpAny_bind (wpAny_holding ?_)
  have hd0 : (s.heap.push { cls := .type "dict", data := .dict #[] }).DictOf knd s.heap.objs.size [] :=
    Heap.DictOf.new s.heap
  have hl := G.length
  by_cases h15 : ps.length ≤ 15
  · rw [if_pos h15]
    refine wpAny_bind (evalPairs_gives ps ks _ _ G hi fun vs kvs tk hc hm hv => ?_)
    have e := hc.length
    have e2 : kvs.length = ks.length := by rw [← hm, List.length_map]
    refine wpAny_holding (wpAny_bind (wpAny_storeAll (knd := knd) vs kvs [] _ _ hc hd0 (by rw [sizeLine_eq, List.length_nil]; omega) fun h' hm' hs' => wpAny_pure (wpAny_pure ?_)))
    rw [merged_nil_of_nodup _ (by rw [hm]; exact hn)] at hm'
    exact h _ _ kvs hm' hm hv hs'
  · rw [if_neg h15]
    refine wpAny_bind (wpAny_rule ?_)
    refine wpAny_bind (fill_long (d := s.heap.objs.size) hI (fun p u => ?_) ps ks [] _ _ G hd0 (by simpa using hn) (fun _ x => nomatch x) (by rw [sizeLine_eq, List.length_nil]; omega) hi fun h' tk kvs' e1 e2 e3 e4 => ?_)
    · rfl
    · exact wpAny_pure (wpAny_pure (h _ _ kvs' e1 (by simpa using e2) e3 e4))

/-- the old objects stand -/
def Kd (h₀ h : Heap) : Prop := h₀.objs.size ≤ h.objs.size ∧ ∀ b o, h₀.get? b = some o → h.get? b = some o
theorem Kd.refl (h : Heap) : Kd h h := ⟨Nat.le_refl _, fun _ _ e => e⟩
theorem Kd.trans {a b c : Heap} (x : Kd a b) (y : Kd b c) : Kd a c := ⟨Nat.le_trans x.1 y.1, fun d o e => y.2 d o (x.2 d o e)⟩
theorem Kd.push {a h : Heap} (x : Kd a h) (o : Obj) : Kd a (h.push o) := ⟨by rw [Heap.size_push]; exact Nat.le_succ_of_le x.1, fun d o' e => Heap.get?_push_of_some _ (x.2 d o' e)⟩
theorem Kd.same {a h h' : Heap} {d : Addr} (x : Kd a h) (hd : a.objs.size ≤ d) (hs : Heap.SameBut d h h') : Kd a h' :=
  ⟨by rw [hs.1]; exact x.1, fun b o e => (hs.2 b (Nat.ne_of_lt (Nat.lt_of_lt_of_le (Heap.lt_size e) hd))).trans (x.2 b o e)⟩

def St (knd : KeyKind P₁ w K) (V : K → Value → Prop) (h₀ : Heap) (main : Option Addr) (done : List K) (h : Heap) : Prop :=
  Kd h₀ h ∧ match main with
    | none => done = []
    | some d => done ≠ [] ∧ h₀.objs.size ≤ d ∧ ∃ kvs, h.DictOf knd d kvs ∧ kvs.map (·.1) = done ∧ ∀ kv ∈ kvs, V kv.1 kv.2

def flushD (run : List (Sem Value × Sem Value)) (main : Option Addr) : Sem (Option Addr) :=
  if run.isEmpty = true then pure main
  else match main with
    | none => do
      let d ← subDict run
      pure (some d)
    | some d => do
      let sub ← holding [Value.ref d] (subDict run)
      (holding [Value.ref d, Value.ref sub] (mergeMapping d (Value.ref sub) false)).onRaise fun x => do
          let _ ← holding [Value.ref d, x] (runValue (Code.builtin "proto.let_go" { }))
          pure ()
      pure (some d)

theorem flush_gives {V : K → Value → Prop} {h₀ : Heap} {run : List (Sem Value × Sem Value)} {rk done : List K} {main : Option Addr} {s : Shared} {Q : Option Addr → Shared → Prop} (hsm : sysModules < h₀.objs.size)
    (G : GivesAll knd A (Kd h₀) V run rk) (hr : run.length ≤ 17) (hn : (done ++ rk).Nodup) (hz : (done ++ rk).length ≤ sizeLine) (S : St knd V h₀ main done s.heap)
    (h : ∀ h' tk main', St knd V h₀ main' (done ++ rk) h' → Q main' { s with heap := h', toks := tk }) : wpAny (model P₁ w) A (flushD run main) Q E s := by
  have hl := G.length
  unfold flushD
  split
  · rename_i he
    have : run = [] := List.isEmpty_iff.mp he
    subst this
    have : rk = [] := List.length_eq_zero_iff.mp hl.symm
    subst this
    exact wpAny_pure (h s.heap s.toks main (by simpa using S))
  · rename_i he
    have hrk : rk ≠ [] := by rintro rfl; exact he (List.isEmpty_iff.mpr (List.length_eq_zero_iff.mp hl))
    obtain ⟨S1, S2⟩ := S
    have hnr : rk.Nodup := (List.nodup_append.mp hn).2.1
    cases main with
    | none =>
      obtain rfl : done = [] := S2
      refine wpAny_bind (subDict_gives G hnr (by omega) (fun _ _ x y => x.same S1.1 y) (S1.push _) fun h' tk kvs e1 e2 e3 e4 => wpAny_pure ?_)
      exact h h' tk _ ⟨(S1.push _).same S1.1 e4, by simpa using hrk, S1.1, kvs, e1, by simpa using e2, e3⟩
    | some d =>
      obtain ⟨hne, hd, kvs₀, f1, f2, f3⟩ := S2
      have hdlt : d < s.heap.objs.size := by obtain ⟨o, es, ep, ho, _⟩ := f1; exact Heap.lt_size ho
      refine wpAny_bind (wpAny_holding (subDict_gives G hnr (by omega) (fun _ _ x y => x.same S1.1 y) (S1.push _) fun h' tk kvs e1 e2 e3 e4 => ?_))
      have f1' : h'.DictOf knd d kvs₀ := (f1.push _).sameBut e4 (Nat.ne_of_lt hdlt)
      have hkv : kvs₀ ≠ [] := by rintro rfl; exact hne (by simpa using f2.symm)
      have hz' : kvs₀.length + kvs.length ≤ sizeLine := by
        have a : kvs₀.length = done.length := by rw [← f2, List.length_map]
        have b : kvs.length = rk.length := by rw [← e2, List.length_map]
        rw [List.length_append] at hz
        omega
      refine wpAny_bind (wpAny_onRaise (wpAny_holding (mergeMapping_dict (hsz := hz') hkv (Nat.ne_of_lt hdlt) (beq_eq_false_iff_ne.mpr (Nat.ne_of_gt (Nat.lt_of_lt_of_le hsm S1.1))) f1' e1 fun h'' g1 g2 => wpAny_pure ?_)))
      rw [merged_append_of_fresh _ _ (by rw [List.map_append, f2, e2]; exact hn)] at g1
      refine h h'' tk _ ⟨((S1.push _).same S1.1 e4).same hd g2, by simp [hne], hd, _, g1, by rw [List.map_append, f2, e2], fun kv hk => ?_⟩
      rcases List.mem_append.mp hk with q | q
      · exact f3 _ q
      · exact e3 _ q
end
end Mine

-- H4
namespace Mine
open PySem PySem.W PySem.Calls PyProof.Rows

section
variable {P₁ : Program} {w : World} {K : Type} [DecidableEq K] {knd : KeyKind P₁ w K} {A : Around} {E : Value → Shared → Prop}

theorem St.ofKeep {V : K → Value → Prop} {h₀ h : Heap} {main : Option Addr} {done : List K} (x : St knd V h₀ main done h) : Kd h₀ h := x.1

theorem disp_loop {V : K → Value → Prop} {h₀ : Heap} (hsm : sysModules < h₀.objs.size) {f : (Option (Sem Value) × Sem Value) → (Option Addr × List (Sem Value × Sem Value)) → Sem (ForInStep (Option Addr × List (Sem Value × Sem Value)))}
    (hf : ∀ (p : Sem Value × Sem Value) (main : Option Addr) (run : List (Sem Value × Sem Value)), f (some p.1, p.2) (main, run) =
      if ((run ++ [p]).length == 17) = true then (do let main ← flushD (run ++ [p]) main; pure (.yield (main, []))) else pure (.yield (main, run ++ [p]))) :
    ∀ (rest : List (Sem Value × Sem Value)) (lk : List K) (run : List (Sem Value × Sem Value)) (rk done : List K) (main : Option Addr) (s : Shared) (Q : (Option Addr × List (Sem Value × Sem Value)) → Shared → Prop),
      GivesAll knd A (Kd h₀) V rest lk → GivesAll knd A (Kd h₀) V run rk → run.length < 17 → St knd V h₀ main done s.heap → (done ++ rk ++ lk).Nodup → (done ++ rk ++ lk).length ≤ sizeLine →
      (∀ h' tk main' run' rk' done', GivesAll knd A (Kd h₀) V run' rk' → run'.length < 17 → St knd V h₀ main' done' h' → done' ++ rk' = done ++ rk ++ lk → Q (main', run') { s with heap := h', toks := tk }) →
      wpAny (model P₁ w) A (forIn (rest.map fun p => (some p.1, p.2)) (main, run) f) Q E s
  | [], [], run, rk, done, main, s, Q, _, g2, hr, S, hn, hz, h => by
    rw [List.map_nil, List.forIn_nil]
    exact wpAny_pure (h s.heap s.toks main run rk done g2 hr S (by simp))
  | p :: rest, k :: lk, run, rk, done, main, s, Q, ⟨a, b, c⟩, g2, hr, S, hn, hz, h => by
    rw [List.map_cons, List.forIn_cons, hf]
    have g3 : GivesAll knd A (Kd h₀) V (run ++ [p]) (rk ++ [k]) := g2.append ⟨a, b, trivial⟩
    have e0 : done ++ (rk ++ [k]) ++ lk = done ++ rk ++ k :: lk := by simp
    split
    · rename_i h17
      have h17 : (run ++ [p]).length = 17 := by simpa using h17
      rw [← e0] at hn hz
      refine wpAny_bind (wpAny_bind (flush_gives hsm g3 (by omega) (List.nodup_append.mp hn).1 (by rw [List.length_append] at hz; omega) S fun h' tk main' S' => wpAny_pure ?_))
      refine disp_loop hsm hf rest lk [] [] (done ++ (rk ++ [k])) main' _ Q c trivial (by decide) S' (by simpa using hn) (by simpa using hz) fun h'' tk' m r rk' d' z1 z2 z3 z4 => h h'' tk' m r rk' d' z1 z2 z3 (by rw [z4]; simp)
    · rename_i h17
      have h17 : (run ++ [p]).length ≠ 17 := by simpa using h17
      refine wpAny_bind (wpAny_pure ?_)
      refine disp_loop hsm hf rest lk _ _ done main _ Q c g3 (by simp at h17 ⊢; omega) S (by rw [e0]; exact hn) (by rw [e0]; exact hz) fun h'' tk' m r rk' d' z1 z2 z3 z4 => h h'' tk' m r rk' d' z1 z2 z3 (by rw [z4, e0])
  | [], _ :: _, _, _, _, _, _, _, h, _, _, _, _, _, _ => h.elim
  | _ :: _, [], _, _, _, _, _, _, h, _, _, _, _, _, _ => h.elim

theorem disp_gives {V : K → Value → Prop} {ps : List (Sem Value × Sem Value)} {ks : List K} {s : Shared} {Q : Value → Shared → Prop} (hsm : sysModules < s.heap.objs.size)
    (G : GivesAll knd A (Kd s.heap) V ps ks) (hn : ks.Nodup) (hz : ks.length ≤ sizeLine) (h0 : ks ≠ [])
    (h : ∀ h' tk a kvs, s.heap.objs.size ≤ a → h'.DictOf knd a kvs → kvs.map (·.1) = ks → (∀ kv ∈ kvs, V kv.1 kv.2) → Kd s.heap h' → Q (.ref a) { s with heap := h', toks := tk }) :
    wpAny (model P₁ w) A (dictDisplay (ps.map fun p => (some p.1, p.2))) Q E s := by
  unfold dictDisplay
  dsimp only
  refine wpAny_bind (disp_loop (knd := knd) (V := V) (h₀ := s.heap) hsm (fun p main run => rfl) ps ks [] [] [] none s _ G trivial (by decide) ⟨Kd.refl _, rfl⟩ (by simpa using hn) (by simpa using hz) fun h' tk main' run' rk' done' z1 z2 z3 z4 => ?_)
  have z4 : done' ++ rk' = ks := by simpa using z4
  refine wpAny_bind (flush_gives (Q := _) hsm z1 (Nat.le_of_lt z2) (by rw [z4]; exact hn) (by rw [z4]; exact hz) z3 fun h'' tk' m S => ?_)
  rw [z4] at S
  cases m with
  | none => exact absurd S.2 h0
  | some d =>
    obtain ⟨S1, _, hd, kvs, e1, e2, e3⟩ := S
    exact wpAny_pure (h h'' tk' d kvs hd e1 e2 e3 S1)

theorem Dict_gives {V : K → Value → Prop} {keys : List (Option Expr)} {values : List Expr} {pos : Pos} {env : Env} {ks : List K} {s : Shared} {Q : Value → Shared → Prop} (hsm : sysModules < s.heap.objs.size)
    (hall : keys.all (·.isSome) = true) (hl : keys.length = values.length) (G : GivesAll knd A (Kd s.heap) V (pairTrees keys values env pos) ks) (hn : ks.Nodup) (hz : ks.length ≤ sizeLine) (h0 : ks ≠ [])
    (h : ∀ h' tk a kvs, s.heap.objs.size ≤ a → h'.DictOf knd a kvs → kvs.map (·.1) = ks → (∀ kv ∈ kvs, V kv.1 kv.2) → Kd s.heap h' → Q (.ref a) { s with heap := h', toks := tk }) :
    wpAny (model P₁ w) A (eval (.Dict keys values pos) env) Q E s := by
  rw [arm_eval_Dict, zip_pairTrees keys values env pos hall hl]
  exact wpAny_bind (wpAny_standAt (disp_gives hsm G hn hz h0 h))
end
end Mine

-- H5
namespace Mine
open PySem PySem.W PySem.Calls PyProof.Rows

/-- how a name of the top is bound -/
inductive K where
  | any
  | int (k : Int)
  | fn (i : Nat)
  | set
  | d3
  | dt

def K.sem (w : World) (N : Nat) (h : Heap) : K → Value → Prop
  | .any, _ => True
  | .int k, v => ∃ t, v = .int k t
  | .fn i, v => ∀ n ar b sc, fnAt i = some (n, ar, b, sc) → ∃ f o pm c' doc, v = .ref f ∧ N ≤ f ∧ N ≤ c' ∧ h.get? f = some o ∧ o.data = .func (docDef n ar b sc pm (.ref c') doc) ∧ h.CodeRec (.ref c') n
  | .set, v => ∃ a n, v = .ref a ∧ N ≤ a ∧ h.SetOf (intKind P w) a (fun k => b1s.contains k) n
  | .d3, v => ∃ a f, v = .ref a ∧ N ≤ a ∧ h.MapOf (intKind P w) a f ∧ (∀ p ∈ b3t, ∃ t, f p.1 = some (.str p.2 t)) ∧ ∀ k : Int, k < 181 → f k = none
  | .dt, v => ∃ a f, v = .ref a ∧ N ≤ a ∧ h.MapOf (strKind P w) a f ∧ (∀ p ∈ ett, ∃ t, f p.1 = some (.int p.2 t)) ∧ ∀ x ∈ etn, f x = none

theorem K.sem.mono {w : World} {N : Nat} {h h' : Heap} (hk : ∀ b o, N ≤ b → h.get? b = some o → h'.get? b = some o) : ∀ {k : K} {v : Value}, k.sem w N h v → k.sem w N h' v
  | .any, _, _ => trivial
  | .int _, _, x => x
  | .fn i, v, x => fun n ar b sc e => by
    obtain ⟨f, o, pm, c', doc, h1, h2, h3, h4, h5, c₂, o₂, vs₂, t₂, e₂, g₂, r₂⟩ := x n ar b sc e
    exact ⟨f, o, pm, c', doc, h1, h2, h3, hk _ _ h2 h4, h5, c₂, o₂, vs₂, t₂, e₂, hk _ _ (by cases e₂; exact h3) g₂, r₂⟩
  | .set, v, x => by
    obtain ⟨a, n, h1, h2, o, es, ep, t, ho, r⟩ := x
    exact ⟨a, n, h1, h2, o, es, ep, t, hk _ _ h2 ho, r⟩
  | .d3, v, x => by
    obtain ⟨a, f, h1, h2, ⟨o, es, ep, ho, r⟩, q⟩ := x
    exact ⟨a, f, h1, h2, ⟨o, es, ep, hk _ _ h2 ho, r⟩, q⟩
  | .dt, v, x => by
    obtain ⟨a, f, h1, h2, ⟨o, es, ep, ho, r⟩, q⟩ := x
    exact ⟨a, f, h1, h2, ⟨o, es, ep, hk _ _ h2 ho, r⟩, q⟩

/-- the top under way -/
structure TM (w : World) (h₀ : Heap) (mg₀ : Str → Option Value) (c Pl : Addr) (h : Heap) (mg : Str → Option Value) (ps : Array Value) (G : List (Str × K)) : Prop where
  main : h.Main mg c Pl ps
  keep : ∀ b o, b ≠ Pl → b ≠ mainGlobals → h₀.get? b = some o → h.get? b = some o
  grows : h₀.objs.size ≤ h.objs.size
  lowP : Pl < h₀.objs.size
  lowG : mainGlobals < h₀.objs.size
  bound : ∀ x k, G.lookup x = some k → ∃ v, mg x = some v ∧ k.sem w h₀.objs.size h v
  others : ∀ x, G.lookup x = none → mg x = mg₀ x

section
variable {M : Model} {A : Around} {E : Value → Shared → Prop} {s : Shared} {w : World} {c Pl F : Addr} {h₀ : Heap} {mg₀ mg : Str → Option Value} {ps : Array Value} {G : List (Str × K)} {Q : Flow → Shared → Prop}

theorem TM.bind {h : Heap} {h' : Heap} {ps' : Array Value} {x : Str} {v : Value} {k : K} (X : TM w h₀ mg₀ c Pl h mg ps G) (hm : h'.Main (fun y => if y = x then some v else mg y) c Pl ps')
    (keep : ∀ b o, b ≠ Pl → b ≠ mainGlobals → h.get? b = some o → h'.get? b = some o) (hsz : h₀.objs.size ≤ h'.objs.size) (hk : k.sem w h₀.objs.size h' v) :
    TM w h₀ mg₀ c Pl h' (fun y => if y = x then some v else mg y) ps' ((x, k) :: G) := by
  refine ⟨hm, fun b o hP hG e => keep b o hP hG (X.keep b o hP hG e), hsz, X.lowP, X.lowG, fun y k' e => ?_, fun y e => ?_⟩
  · rw [List.lookup_cons] at e
    by_cases hy : y = x
    · subst hy
      simp only [beq_self_eq_true] at e
      cases e
      exact ⟨v, if_pos rfl, hk⟩
    · rw [show (y == x) = false from by simpa using hy] at e
      obtain ⟨v', a, b⟩ := X.bound y k' e
      refine ⟨v', ?_, b.mono fun b o hb e => keep b o (Nat.ne_of_gt (Nat.lt_of_lt_of_le X.lowP hb)) (Nat.ne_of_gt (Nat.lt_of_lt_of_le X.lowG hb)) e⟩
      show (if y = x then _ else mg y) = _
      rw [if_neg hy]; exact a
  · rw [List.lookup_cons] at e
    by_cases hy : y = x
    · subst hy
      simp only [beq_self_eq_true] at e
      cases e
    · rw [show (y == x) = false from by simpa using hy] at e
      show (if y = x then _ else mg y) = _
      rw [if_neg hy]; exact X.others y e

theorem TM.grown {h h₁ : Heap} (X : TM w h₀ mg₀ c Pl h mg ps G) (hk : ∀ b o, h.get? b = some o → h₁.get? b = some o) (hsz : h.objs.size ≤ h₁.objs.size) : TM w h₀ mg₀ c Pl h₁ mg ps G :=
  ⟨X.main.keeps hk, fun b o hP hG e => hk b o (X.keep b o hP hG e), Nat.le_trans X.grows hsz, X.lowP, X.lowG, fun x k e => let ⟨v, a, b⟩ := X.bound x k e; ⟨v, a, b.mono fun b o _ => hk b o⟩, X.others⟩

theorem TM.assign {x : Str} {pos' pos : Pos} {value : Expr} {k : K} (X : TM w h₀ mg₀ c Pl s.heap mg ps G) (hloc : P.main.scope.names.lookup x = some .local)
    (hval : ∀ Q' : Value → Shared → Prop, (∀ v h₁ tk, (∀ b o, s.heap.get? b = some o → h₁.get? b = some o) → s.heap.objs.size ≤ h₁.objs.size → k.sem w h₀.objs.size h₁ v → Q' v { s with heap := h₁, toks := tk }) →
      wpAny M A (eval value (mainEnv P c F)) Q' E s)
    (q : ∀ h' mg' tk, TM w h₀ mg₀ c Pl h' mg' ps ((x, k) :: G) → Q .next { s with heap := h', toks := tk })
    (hnb : x ≠ "__builtins__") (hs : swapsWith value (some (.Name x pos')) pos.line (mainEnv P c F) = pure false) :
    wpAny M A (exec (.Assign [.Name x pos'] value pos) (mainEnv P c F)) Q E s := by
  refine wpAny_Assign_Name (hval _ fun v h₁ tk hk hsz hv => ?_) hs
  have X₁ : TM w h₀ mg₀ c Pl ({ s with heap := h₁, toks := tk } : Shared).heap mg ps G := X.grown hk hsz
  refine wpAny_storeName_local (env := mainEnv P c F) hloc X₁.main.g (fun h' hg' hs' => ?_)
    (by show (P.main.scope.kind == .class || (P.main.scope.kind == .module && mainGlobals != mainGlobals)) = false; rfl)
  obtain ⟨bm, o, hbm, hne0, hneG, hneP, hbo, hrest⟩ := X₁.main.bmod
  have hm : h'.Main (fun y => if y = x then some v else mg y) c Pl ps :=
    ⟨hg', X₁.main.code.sameBut hs' (Nat.ne_of_gt X₁.main.low.1) (Nat.ne_of_gt X₁.main.low.2), X₁.main.low,
      ⟨bm, o, by simp only [Ne.symm hnb, if_false]; exact hbm, hne0, hneG, hneP, (hs'.2 _ hneG).trans hbo, hrest⟩⟩
  exact q h' _ _ (X₁.bind hm (fun b o _ hG e => (hs'.2 _ hG).trans e) (Nat.le_trans X₁.grows (Nat.le_of_eq hs'.1.symm)) (hv.mono fun b o hb e => (hs'.2 _ (Nat.ne_of_gt (Nat.lt_of_lt_of_le X.lowG hb))).trans e))

theorem noAnn {env : Env} (l : List Arg) (h : ∀ a ∈ l, a.annotation = none) : annotationsOf l env = [] := by
  induction l with
  | nil => rfl
  | cons a l ih =>
    obtain ⟨n, an, t⟩ := a
    obtain rfl : an = none := h _ List.mem_cons_self
    exact ih fun a ha => h a (List.mem_cons_of_mem _ ha)

theorem TM.def {i : Nat} {name : Str} {params : Arguments} {body : List Stmt} {scope : Scope} {pos : Pos} (X : TM w h₀ mg₀ c Pl s.heap mg ps G) (hst : P.main.body[i]? = some (.FunctionDef name params body [] none [] scope none name pos))
    (hkw : params.kwonlyargs = []) (hkd : params.kw_defaults = []) (hnd : params.defaults = []) (hann : annTrees params none (mainEnv P c F) = [])
    (hfree : ∀ x ∈ scope.names, x.2 ≠ .free) (hloc : P.main.scope.names.lookup name = some .local)
    (hq : qualnameIn { scope := P.main.scope, locals := mainGlobals, globals := mainGlobals, cells := [] } name name = name)
    (q : ∀ h' mg' c' tk, TM w h₀ mg₀ c Pl h' mg' (ps ++ #[rawInt pos.line, rawInt pos.col, .ref c']) ((name, .fn i) :: G) → Q .next { s with heap := h', toks := tk })
    (hnb : name ≠ "__builtins__") (hnf : codeAmong pos ps.toList = none) :
    wpAny M A (exec (.FunctionDef name params body [] none [] scope none name pos) (mainEnv P c F)) Q E s := by
  refine wpAny_defStmt1 hkw hkd (by rw [hnd]; exact fun _ x => nomatch x) hann hfree hloc hq X.main (fun a c' doc dV vs h' tk hdo ha hm hf hcv hdv hcd keep => ?_) hnb rfl hnf
  have hsz : h₀.objs.size ≤ h'.objs.size := Nat.le_trans (Nat.le_trans X.grows ha) (Nat.le_of_lt (Heap.lt_size hf))
  refine q h' _ c' tk (X.bind hm keep hsz fun n ar b sc e => ?_)
  rw [fnAt, hst] at e
  cases e
  rw [hnd] at hcv
  obtain rfl : vs = [] := by cases vs with
    | nil => rfl
    | cons _ _ => exact hcv.elim
  obtain ⟨_, rfl⟩ | ⟨hne, _⟩ := hdv
  · exact ⟨a, _, _, c', doc, rfl, Nat.le_trans X.grows ha, Nat.le_trans X.grows hcd.1, hf, rfl, hcd.2⟩
  · exact absurd rfl hne
end
end Mine

-- H6
namespace Mine
open PySem PySem.W PySem.Calls PyProof.Rows

def intE : Expr → Option Int
  | .Constant (.int k) _ _ => some k
  | _ => none
def intsE : List Expr → Option (List Int)
  | [] => some []
  | e :: es => match intE e, intsE es with
    | some k, some ks => some (k :: ks)
    | _, _ => none
theorem intE_of {e : Expr} {k : Int} (h : intE e = some k) : ∃ kk p, e = .Constant (.int k) kk p := by
  cases e with
  | Constant c kk p =>
    cases c with
    | int i => cases h; exact ⟨kk, p, rfl⟩
    | _ => cases h
  | _ => cases h
theorem intsE_cons {e : Expr} {es : List Expr} {ns : List Int} (h : intsE (e :: es) = some ns) : ∃ k ks, ns = k :: ks ∧ intE e = some k ∧ intsE es = some ks := by
  unfold intsE at h
  cases h1 : intE e with
  | none => rw [h1] at h; cases h
  | some k =>
    cases h2 : intsE es with
    | none => rw [h1, h2] at h; cases h
    | some ks => rw [h1, h2] at h; cases h; exact ⟨k, ks, rfl, rfl, rfl⟩

section
variable {w : World} {A : Around} {E : Value → Shared → Prop} {s : Shared} {c Pl F : Addr} {mg mb : Str → Option Value}

theorem spliced_ints {env : Env} {pos : Pos} : ∀ (es : List Expr) (ns : List Int) (s : Shared) (Q : List Value → Shared → Prop), intsE es = some ns → (∀ vs tk, IntsAre vs ns → Q vs { s with toks := tk }) →
    wpAny (model P w) A (spliced (backTo pos (starEach es env))) Q E s
  | [], ns, s, Q, h, q => by cases h; exact wpAny_items_nil (q [] s.toks .nil)
  | e :: es, ns, s, Q, h, q => by
    obtain ⟨k, ks, rfl, h1, h2⟩ := intsE_cons h
    obtain ⟨kk, p, rfl⟩ := intE_of h1
    refine wpAny_items_cons (wpAny_Constant_int (spliced_ints es ks _ _ h2 fun vs tk a => q _ tk (.cons k _ a))) (by rfl)

theorem Name_main {x : Str} {p : Pos} {v : Value} {Q : Value → Shared → Prop} (hg : s.heap.Ns mainGlobals mg) (hm : mg x = none) (hb : s.heap.Ns builtinsNs mb) (hv : mb x = some v) (h : Q v s) (hd : (x == ("__debug__" : Str)) = false) :
    wpAny (model P w) A (eval (.Name x p) (mainEnv P c F)) Q E s := by
  refine wpAny_Name ?_ hd
  have e : loadName (mainEnv P c F) x = loadGlobal (mainEnv P c F) x := by
    unfold loadName
    simp only [Env.blockKind, show (mainEnv P c F).scope.kind = ScopeKind.module from rfl, ScopeKind.isAnnotationScope, Bool.false_and, Bool.false_eq_true, if_false, show ((mainEnv P c F).locals != (mainEnv P c F).globals) = false from rfl]
  rw [e]
  exact Calls.loadGlobal_builtin (env := mainEnv P c F) hg hm hb hv h

theorem add_main {l b : Addr} {vs ws : List Value} {Q : Value → Shared → Prop} (hl : s.heap.IsList l vs.toArray) (hb : s.heap.IsList b ws.toArray) (hsz : vs.length + ws.length ≤ sizeLine)
    (h : Q (.ref s.heap.objs.size) { s with heap := s.heap.push { cls := .type "list", data := .seq (vs ++ ws).toArray } }) :
    wpAny (model P w) A (binaryOp .Add (.ref l) (.ref b)) Q E s := by
  obtain ⟨⟨k1, d1, t1, sl1⟩, ho, hc, n1, hd⟩ := id hl
  obtain ⟨⟨k2, d2, t2, sl2⟩, ho2, hc2, n2, hd2⟩ := id hb
  simp only at hc hd hc2 hd2
  subst hc hd hc2 hd2
  refine concat_meets ⟨_, ho, rfl⟩ ⟨_, ho2, rfl⟩ noFill_list_add seq_list_add PySem.F.slot_list_add PySem.F.entry_list_add (PySem.F.args_list_add_2 _ _) (list_addW l b vs.toArray ws.toArray n1 n2 d1 d2 sl1 sl2 (by simpa using hsz)) ⟨ho, ho2, ?_⟩
  rw [show vs.toArray ++ ws.toArray = (vs ++ ws).toArray by simp]
  exact h

theorem IntsAre.of_items {acc : Array Value} {a : Int} : ∀ {n : Nat}, ItemsOf (fun i v => ∃ t, v = .int (a + (i : Int) * 1) t) acc n → IntsAre acc.toList ((List.range n).map fun k : Nat => (a + (k : Int) : Int)) := by
  intro n h
  have key : ∀ (l : List Value) (m : Nat), (∀ j v, l[j]? = some v → ∃ t, v = Value.int (a + ((m + j : Nat) : Int) * 1) t) → IntsAre l ((List.range' m l.length).map fun k : Nat => (a + (k : Int) : Int)) := by
    intro l
    induction l with
    | nil => intro m _; exact .nil
    | cons v l ih =>
      intro m hm
      obtain ⟨t, rfl⟩ := hm 0 v rfl
      rw [List.length_cons, List.range'_succ, List.map_cons]
      have := ih (m + 1) fun j v hj => by
        obtain ⟨t, e⟩ := hm (j + 1) v hj
        exact ⟨t, by rw [e]; congr 3; omega⟩
      simpa using IntsAre.cons (a + ((m : Nat) : Int)) t this
  have e : acc.toList.length = n := by rw [Array.length_toList]; exact h.1
  have := key acc.toList 0 fun j v hj => by
    obtain ⟨t, e⟩ := h.2 j v (by simpa using hj)
    exact ⟨t, by rw [e]; simp⟩
  rw [e] at this
  rw [List.range_eq_range']
  exact this

theorem b1_val {elts : List Expr} {ns : List Int} {k1 k2 : Nat} {p1 p2 p3 p4 p5 p6 p7 p8 p9 p10 : Pos} {Q : Value → Shared → Prop} (hns : intsE elts = some ns) (hall : ns ++ ((List.range 16).map fun k : Nat => (65024 + (k : Int) : Int)) = b1s)
    (hh : A.handled = none) (hg : s.heap.Ns mainGlobals mg) (hb : s.heap.Ns builtinsNs mb) (hbi : ∀ x : Str, x ≠ "__name__" → mb x = bootBuiltins x) (hm1 : mg "set" = none) (hm2 : mg "list" = none) (hm3 : mg "range" = none)
    (q : ∀ a h' tk n, s.heap.objs.size ≤ a → a < h'.objs.size → (∀ b o, s.heap.get? b = some o → h'.get? b = some o) → h'.SetOf (intKind P w) a (fun k => b1s.contains k) n → Q (.ref a) { s with heap := h', toks := tk }) :
    wpAny (model P w) A (eval (.Call (.Name "set" p1) [.BinOp (.List elts p2) .Add (.Call (.Name "list" p3) [.Call (.Name "range" p4) [.Constant (.int 65024) k1 p5, .Constant (.int 65040) k2 p6] [] p7] [] p8) p9] [] p10) (mainEnv P c F)) Q E s := by
  refine Call_ (Name_main hg hm1 hb ((hbi _ (by decide)).trans (show bootBuiltins "set" = some (.type "set") by rfl)) (callWith_type1 ?_ rfl rfl) (by decide)) rfl
  refine wpAny_items_cons ?_ rfl
  refine wpAny_BinOp (wpAny_List (spliced_ints elts ns _ _ hns fun vs tk hvs => ⟨?_, ?_⟩))
  · have : ns.length ≤ b1s.length := by rw [← hall, List.length_append]; omega
    rw [hvs.length]; exact Nat.le_trans this (by decide +kernel)
  let h₁ : Heap := s.heap.push { cls := .type "list", data := .seq vs.toArray }
  have hl1 : h₁.IsList s.heap.objs.size vs.toArray := ⟨_, Heap.get?_push_size _ rfl, rfl, 0, rfl⟩
  have kp1 : ∀ b o, s.heap.get? b = some o → h₁.get? b = some o := fun _ _ e => Heap.get?_push_of_some _ e
  refine Call_ (Name_main (s := { s with heap := h₁, toks := tk }) (hg.keeps kp1) hm2 (hb.keeps kp1) ((hbi _ (by decide)).trans (show bootBuiltins "list" = some (.type "list") by rfl)) (callWith_type1 ?_ rfl rfl) (by decide)) rfl
  refine wpAny_items_cons ?_ rfl
  refine Call_ (Name_main (s := { s with heap := h₁, toks := tk }) (hg.keeps kp1) hm3 (hb.keeps kp1) ((hbi _ (by decide)).trans (show bootBuiltins "range" = some (.type "range") by rfl)) (callWith_type1 ?_ rfl rfl) (by decide)) rfl
  refine wpAny_items_cons (wpAny_Constant_int (wpAny_items_cons (wpAny_Constant_int (wpAny_items_nil (call_range_2 ?_))) rfl)) rfl
  refine wpAny_items_nil (call_list_range (n := 16) hh (IsRange.new ..) (by decide +kernel) (by decide +kernel) (by decide) fun h₂ tk₂ acc c' kp2 hl2 hit => ?_)
  have kq : ∀ b o, h₁.get? b = some o → h₂.get? b = some o := fun b o e => kp2 b o (Heap.get?_push_of_some _ e)
  have hl1' : h₂.IsList s.heap.objs.size vs.toArray := by
    obtain ⟨o, e, r⟩ := hl1
    exact ⟨o, kq _ _ e, r⟩
  have hi2 : IntsAre acc.toList ((List.range 16).map fun k : Nat => (65024 + (k : Int) : Int)) := IntsAre.of_items hit
  have hia : IntsAre (vs ++ acc.toList) b1s := hall ▸ hvs.append hi2
  have hlen : (vs ++ acc.toList).length = 27 := by rw [hia.length]; decide +kernel
  refine add_main hl1' (ws := acc.toList) ⟨_, hl2, rfl, c', rfl⟩ (by rw [← List.length_append, hlen]; decide) (wpAny_items_nil ?_)
  refine call_set_list (ns := b1s) hh (items := (vs ++ acc.toList).toArray) ⟨_, Heap.get?_push_size _ rfl, rfl, 0, rfl⟩ (by simpa using hia) (by rw [List.size_toArray, hlen]; decide) fun h₃ tk₃ hS kp3 => ?_
  have e27 : (vs ++ acc.toList).toArray.size = 27 := by rw [List.size_toArray, hlen]
  rw [e27] at hS
  have hsz2 : s.heap.objs.size < h₂.objs.size := by obtain ⟨o, e, _⟩ := hl1'; exact Heap.lt_size e
  have hS' := SetOf_congr hS (S' := fun k => b1s.contains k) (fun k => ?_) rfl
  refine q _ _ _ _ ?_ ?_ (fun b o e => ?_) hS'
  · show s.heap.objs.size ≤ (h₂.push _).objs.size
    rw [Heap.size_push]; exact Nat.le_succ_of_le (Nat.le_of_lt hsz2)
  · obtain ⟨o, es, ep, t, e, _⟩ := hS'
    exact Heap.lt_size e
  · refine kp3 b o ?_ (Heap.get?_push_of_some _ (kq _ _ (kp1 _ _ e)))
    have := Heap.lt_size e
    show b < (h₂.push _).objs.size
    rw [Heap.size_push]; exact Nat.lt_succ_of_lt (Nat.lt_trans this hsz2)
  · rw [firstMet_any, show ((List.range 27).map fun i => b1s.getD i 0) = b1s from by decide +kernel, List.contains_eq_any_beq]
    exact congrArg (List.any b1s) (funext fun x => by rw [Bool.beq_comm])
end
end Mine

-- H7
namespace Mine
open PySem PySem.W PySem.Calls PyProof.Rows

theorem valueAt_in {T : Type} [DecidableEq T] {V : T → Value → Prop} {k : T} : ∀ {kvs : List (T × Value)}, (∀ kv ∈ kvs, V kv.1 kv.2) → k ∈ kvs.map (·.1) → ∃ v, valueAt kvs k = some v ∧ V k v
  | [], _, h => nomatch h
  | (a, v) :: kvs, hv, h => by
    unfold valueAt
    rw [List.find?_cons]
    by_cases e : a = k
    · subst e
      simp only [decide_true]
      exact ⟨v, rfl, hv _ List.mem_cons_self⟩
    · simp only [e, decide_false]
      refine valueAt_in (kvs := kvs) (fun kv h' => hv kv (List.mem_cons_of_mem _ h')) ?_
      rw [List.map_cons] at h
      exact (List.mem_cons.mp h).resolve_left fun q => e q.symm
theorem valueAt_out {T : Type} [DecidableEq T] {k : T} : ∀ {kvs : List (T × Value)}, k ∉ kvs.map (·.1) → valueAt kvs k = none
  | [], _ => rfl
  | (a, v) :: kvs, h => by
    rw [List.map_cons, List.mem_cons, not_or] at h
    unfold valueAt
    rw [List.find?_cons]
    simp only [show a ≠ k from fun q => h.1 q.symm, decide_false]
    exact valueAt_out h.2

def keyI : Option Expr → Option Int
  | some e => intE e
  | none => none
def strE : Expr → Option Str
  | .Constant (.str x) _ _ => some x
  | _ => none
def keyS : Option Expr → Option Str
  | some e => strE e
  | none => none
def nameE : Expr → Option Str
  | .Name x _ => some x
  | _ => none
def readP {α β : Type} (f : Option Expr → Option α) (g : Expr → Option β) : List (Option Expr) → List Expr → Option (List (α × β))
  | [], vs => if vs.isEmpty then some [] else none
  | k :: ks, vs => match vs with
    | [] => none
    | v :: vs => match f k, g v, readP f g ks vs with
      | some a, some b, some l => some ((a, b) :: l)
      | _, _, _ => none
theorem readP_cons {α β : Type} {f : Option Expr → Option α} {g : Expr → Option β} {k : Option Expr} {ks : List (Option Expr)} {vs : List Expr} {l : List (α × β)} (h : readP f g (k :: ks) vs = some l) :
    ∃ v vs' a b l', vs = v :: vs' ∧ f k = some a ∧ g v = some b ∧ readP f g ks vs' = some l' ∧ l = (a, b) :: l' := by
  cases vs with
  | nil => cases h
  | cons v vs =>
    unfold readP at h
    dsimp only at h
    cases h1 : f k with
    | none => rw [h1] at h; cases h
    | some a =>
      cases h2 : g v with
      | none => rw [h1, h2] at h; cases h
      | some b =>
        cases h3 : readP f g ks vs with
        | none => rw [h1, h2, h3] at h; cases h
        | some l' => rw [h1, h2, h3] at h; cases h; exact ⟨v, vs, a, b, l', rfl, rfl, h2, h3, rfl⟩
theorem strE_of {e : Expr} {k : Str} (h : strE e = some k) : ∃ kk p, e = .Constant (.str k) kk p := by
  cases e with
  | Constant c kk p =>
    cases c with
    | str i => cases h; exact ⟨kk, p, rfl⟩
    | _ => cases h
  | _ => cases h
theorem nameE_of {e : Expr} {k : Str} (h : nameE e = some k) : ∃ p, e = .Name k p := by
  cases e with
  | Name x p => cases h; exact ⟨p, rfl⟩
  | _ => cases h
theorem readP_shape {α β : Type} {f : Option Expr → Option α} {g : Expr → Option β} (hf : f none = none) : ∀ {ks : List (Option Expr)} {vs : List Expr} {l : List (α × β)}, readP f g ks vs = some l → ks.all (·.isSome) = true ∧ ks.length = vs.length ∧ l.length = ks.length
  | [], vs, l, h => by
    unfold readP at h
    split at h
    · cases h; rename_i e; exact ⟨rfl, by rw [List.isEmpty_iff.mp e]; rfl, rfl⟩
    · cases h
  | k :: ks, vs, l, h => by
    obtain ⟨v, vs', a, b, l', rfl, h1, h2, h3, rfl⟩ := readP_cons h
    obtain ⟨a1, a2, a3⟩ := readP_shape hf h3
    cases k with
    | none => rw [hf] at h1; cases h1
    | some e => exact ⟨by simpa using a1, by simp [a2], by simp [a3]⟩

section
variable {w : World} {A : Around} {E : Value → Shared → Prop} {s : Shared} {c Pl F : Addr} {mg mb : Str → Option Value} {env : Env}

theorem KeyT.int {k : Int} {kk : Nat} {p : Pos} : KeyT (intKind P w) A (eval (.Constant (.int k) kk p) env) k := fun E s Q q => wpAny_Constant_int (q _ _ (by simp [intKind, Value.isInt]))
theorem KeyT.str {k : Str} {kk : Nat} {p : Pos} : KeyT (strKind P w) A (eval (.Constant (.str k) kk p) env) k := fun E s Q q => wpAny_eval_const rfl fun v tk ⟨t, e⟩ => by
  subst e
  exact q _ _ (by simp [PySem.strKind, Value.isStrOf])

/-- a table of written ints and texts -/
theorem gives_IS {I : Heap → Prop} {V : Int → Value → Prop} {pos : Pos} : ∀ {ks : List (Option Expr)} {vs : List Expr} {l : List (Int × Str)}, readP keyI strE ks vs = some l → (∀ p ∈ l, ∀ t, V p.1 (.str p.2 t)) → GivesAll (intKind P w) A I V (pairTrees ks vs env pos) (l.map (·.1))
  | [], vs, l, h, hV => by
    unfold readP at h
    split at h
    · cases h; exact trivial
    · cases h
  | k :: ks, vs, l, h, hV => by
    obtain ⟨v, vs', a, b, l', rfl, h1, h2, h3, rfl⟩ := readP_cons h
    cases k with
    | none => cases h1
    | some e =>
      obtain ⟨kk, p, rfl⟩ := intE_of h1
      obtain ⟨kk', p', rfl⟩ := strE_of h2
      refine ⟨KeyT.int (env := env) (kk := kk) (p := p), fun E s Q hI q => ?_, gives_IS h3 fun p hp => hV p (List.mem_cons_of_mem _ hp)⟩
      refine wpAny_bind (wpAny_eval_const rfl fun v tk ⟨t, e⟩ => wpAny_bind (wpAny_standAt (wpAny_pure ?_)))
      subst e
      exact q _ _ (hV _ List.mem_cons_self t)

theorem Name_top {x : Str} {p : Pos} {v : Value} {Q : Value → Shared → Prop} (hg : s.heap.Ns mainGlobals mg) (hm : mg x = some v) (h : Q v s) (hd : (x == ("__debug__" : Str)) = false) :
    wpAny (model P w) A (eval (.Name x p) (mainEnv P c F)) Q E s := by
  refine wpAny_Name ?_ hd
  have e : loadName (mainEnv P c F) x = loadGlobal (mainEnv P c F) x := by
    unfold loadName
    simp only [Env.blockKind, show (mainEnv P c F).scope.kind = ScopeKind.module from rfl, ScopeKind.isAnnotationScope, Bool.false_and, Bool.false_eq_true, if_false, show ((mainEnv P c F).locals != (mainEnv P c F).globals) = false from rfl]
  rw [e]
  exact Calls.loadGlobal_global (env := mainEnv P c F) hg hm h

/-- a table of written texts and names of the top that stand for ints -/
theorem gives_SN {h₀ : Heap} {V : Str → Value → Prop} {pos : Pos} {iv : Str → Option Int} (hg : h₀.Ns mainGlobals mg) (hiv : ∀ n i, iv n = some i → ∃ t, mg n = some (.int i t)) : ∀ {ks : List (Option Expr)} {vs : List Expr} {l : List (Str × Str)}, readP keyS nameE ks vs = some l →
    (∀ p ∈ l, (p.2 == ("__debug__" : Str)) = false ∧ ∃ i, iv p.2 = some i ∧ ∀ t, V p.1 (.int i t)) → GivesAll (strKind P w) A (Kd h₀) V (pairTrees ks vs (mainEnv P c F) pos) (l.map (·.1))
  | [], vs, l, h, hV => by
    unfold readP at h
    split at h
    · cases h; exact trivial
    · cases h
  | k :: ks, vs, l, h, hV => by
    obtain ⟨v, vs', a, b, l', rfl, h1, h2, h3, rfl⟩ := readP_cons h
    cases k with
    | none => cases h1
    | some e =>
      obtain ⟨kk, p, rfl⟩ := strE_of h1
      obtain ⟨p', rfl⟩ := nameE_of h2
      refine ⟨KeyT.str (env := mainEnv P c F) (kk := kk) (p := p), fun E s Q hI q => ?_, gives_SN hg hiv h3 fun p hp => hV p (List.mem_cons_of_mem _ hp)⟩
      obtain ⟨hd, i, hi, hv⟩ := hV _ List.mem_cons_self
      obtain ⟨t, ht⟩ := hiv _ _ hi
      exact wpAny_bind (Name_top (hg.keeps hI.2) ht (wpAny_bind (wpAny_standAt (wpAny_pure (q _ _ (hv t))))) hd)
end

def asc : List Int → Bool
  | [] => true
  | a :: l => (match l with | [] => true | b :: _ => decide (a < b)) && asc l
theorem asc_lt : ∀ {l : List Int} {a : Int}, asc (a :: l) = true → ∀ b ∈ l, a < b
  | [], _, _, _, h => nomatch h
  | b :: l, a, h, x, hx => by
    unfold asc at h
    obtain ⟨h1, h2⟩ := Bool.and_eq_true_iff.mp h
    have h1 : a < b := of_decide_eq_true h1
    rcases List.mem_cons.mp hx with rfl | hx
    · exact h1
    · exact Int.lt_trans h1 (asc_lt h2 x hx)
theorem asc_nodup : ∀ {l : List Int}, asc l = true → l.Nodup
  | [], _ => List.nodup_nil
  | a :: l, h => by
    refine List.nodup_cons.mpr ⟨fun hm => Int.lt_irrefl a (asc_lt h a hm), asc_nodup ?_⟩
    unfold asc at h
    exact (Bool.and_eq_true_iff.mp h).2

def chk3 (ks : List (Option Expr)) (vs : List Expr) : Bool := match readP keyI strE ks vs with
  | some l => asc (l.map (·.1)) && decide (l.length ≤ 1000) && !l.isEmpty && (l.all fun p => decide (181 ≤ p.1)) && b3t.all fun p => (l.map (·.1)).contains p.1 && l.all fun q => q.1 != p.1 || q.2 == p.2
  | none => false
/-- what stands in a statement that binds a name to a table -/
def stV : Option Stmt → Expr
  | some (.Assign _ v _) => v
  | _ => .Constant .none 0 ⟨0, 0, 0, 0⟩
def stN : Option Stmt → Pos
  | some (.Assign ts _ _) => (match ts with
    | t :: _ => t.pos
    | [] => ⟨0, 0, 0, 0⟩)
  | _ => ⟨0, 0, 0, 0⟩
def stP : Option Stmt → Pos
  | some (.Assign _ _ p) => p
  | _ => ⟨0, 0, 0, 0⟩
def exKs : Expr → List (Option Expr)
  | .Dict ks _ _ => ks
  | _ => []
def exVs : Expr → List Expr
  | .Dict _ vs _ => vs
  | _ => []
theorem st9 : ∃ np keys values dp pos, P.main.body[9]? = some (.Assign [.Name "b3_exceptions" np] (.Dict keys values dp) pos) ∧ chk3 keys values = true :=
  ⟨stN (P.main.body[9]?), exKs (stV (P.main.body[9]?)), exVs (stV (P.main.body[9]?)), (stV (P.main.body[9]?)).pos, stP (P.main.body[9]?), by kernel_rfl, by decide +kernel⟩
end Mine

-- H8
namespace Mine
open PySem PySem.W PySem.Calls PyProof.Rows

def nmOf : Stmt → Str
  | .Assign ts _ _ => (match ts with
    | t :: _ => (nameE t).getD ""
    | [] => "")
  | .FunctionDef n _ _ _ _ _ _ _ _ _ => n
  | _ => ""
def kdOf (i : Nat) : Stmt → K
  | .Assign _ v _ => (match intE v with
    | some k => .int k
    | none => .any)
  | .FunctionDef _ _ _ _ _ _ _ _ _ _ => .fn i
  | _ => .any
def plOf : Stmt → List (Nat × Nat)
  | .FunctionDef _ _ _ _ _ _ _ _ _ pos => [(pos.line, pos.col)]
  | _ => []
def okN (x : Str) : Bool := decide (P.main.scope.names.lookup x = some .local) && decide (x ≠ "__builtins__") && decide (qualnameIn { scope := P.main.scope, locals := mainGlobals, globals := mainGlobals, cells := [] } x x = x)
def plainArgs (a : Arguments) : Bool := a.kwonlyargs.isEmpty && a.kw_defaults.isEmpty && a.defaults.isEmpty && (a.args ++ a.posonlyargs ++ a.vararg.toList ++ a.kwonlyargs ++ a.kwarg.toList).all fun x => x.annotation.isNone
def okS (pl : List (Nat × Nat)) : Stmt → Bool
  | .Assign ts v _ => (match ts with
    | [t] => (nameE t).isSome && okN ((nameE t).getD "") && ((intE v).isSome || (strE v).isSome)
    | _ => false)
  | .FunctionDef n a _ d r tp sc ts bind pos => okN n && d.isEmpty && r.isNone && tp.isEmpty && ts.isNone && decide (bind = n) && plainArgs a && (sc.names.all fun x => decide (x.2 ≠ .free)) && !pl.contains (pos.line, pos.col)
  | _ => false
def PsOk : List (Nat × Nat) → List Value → Prop
  | [], l => l = []
  | (a, b) :: r, l => ∃ c l', l = rawInt a :: rawInt b :: c :: l' ∧ PsOk r l'
theorem PsOk.none_of {pos : Pos} : ∀ {pl : List (Nat × Nat)} {l : List Value}, PsOk pl l → pl.contains (pos.line, pos.col) = false → codeAmong pos l = none
  | [], l, h, _ => by
    obtain rfl : l = [] := h
    rfl
  | (a, b) :: r, l, h, hc => by
    obtain ⟨c, l', rfl, h'⟩ := h
    rw [List.contains_cons, Bool.or_eq_false_iff] at hc
    have ih := PsOk.none_of h' hc.2
    show (if _ then _ else _) = _
    rw [if_neg, ih]
    intro e
    obtain ⟨e1, e2⟩ := Bool.and_eq_true_iff.mp e
    have e1 : (a : Int) = (pos.line : Int) := by simpa using e1
    have e2 : (b : Int) = (pos.col : Int) := by simpa using e2
    have hx := hc.1
    rw [show a = pos.line by omega, show b = pos.col by omega] at hx
    simp at hx
theorem PsOk.push {a b : Nat} {c : Value} : ∀ {pl : List (Nat × Nat)} {l : List Value}, PsOk pl l → PsOk (pl ++ [(a, b)]) (l ++ [rawInt a, rawInt b, c])
  | [], l, h => by
    obtain rfl : l = [] := h
    exact ⟨c, [], rfl, rfl⟩
  | (x, y) :: r, l, h => by
    obtain ⟨d, l', rfl, h'⟩ := h
    exact ⟨d, l' ++ [rawInt a, rawInt b, c], rfl, h'.push⟩

section
variable {A : Around} {E : Value → Shared → Prop} {s : Shared} {w : World} {c Pl F : Addr} {h₀ : Heap} {mg₀ mg mb : Str → Option Value} {ps : Array Value} {G : List (Str × K)} {Q : Flow → Shared → Prop}

theorem annTrees_plain {a : Arguments} {env : Env} (h : plainArgs a = true) : annTrees a none env = [] := by
  obtain ⟨po, ar, va, ko, kd, kw, df⟩ := a
  unfold plainArgs at h
  have h := (Bool.and_eq_true_iff.mp h).2
  show annotationsOf (ar ++ po ++ va.toList ++ ko ++ kw.toList) env ++ _ = []
  rw [noAnn]
  · rfl
  · intro x hx
    exact Option.isNone_iff_eq_none.mp (List.all_eq_true.mp h x hx)

theorem step_ok {i : Nat} {st : Stmt} {pl : List (Nat × Nat)} (hst : P.main.body[i]? = some st) (ok : okS pl st = true) (X : TM w h₀ mg₀ c Pl s.heap mg ps G) (hps : PsOk pl ps.toList)
    (q : ∀ h' mg' ps' tk, TM w h₀ mg₀ c Pl h' mg' ps' ((nmOf st, kdOf i st) :: G) → PsOk (pl ++ plOf st) ps'.toList → Q .next { s with heap := h', toks := tk }) :
    wpAny (model P w) A (exec st (mainEnv P c F)) Q E s := by
  cases st with
  | Assign ts v pos =>
    cases ts with
    | nil => cases ok
    | cons t ts =>
      cases ts with
      | cons _ _ => cases ok
      | nil =>
        unfold okS at ok
        dsimp only at ok
        obtain ⟨ok, okv⟩ := Bool.and_eq_true_iff.mp ok
        obtain ⟨okt, okn⟩ := Bool.and_eq_true_iff.mp ok
        obtain ⟨x, hx⟩ := Option.isSome_iff_exists.mp okt
        obtain ⟨p, rfl⟩ := nameE_of hx
        unfold okN at okn
        simp only [hx, Option.getD_some, Bool.and_eq_true, decide_eq_true_eq] at okn
        have hq : ∀ h' mg' tk, TM w h₀ mg₀ c Pl h' mg' ps ((x, kdOf i (.Assign [.Name x p] v pos)) :: G) → Q .next { s with heap := h', toks := tk } := fun h' mg' tk Y => q h' mg' ps tk Y (by rw [show plOf (.Assign [.Name x p] v pos) = [] from rfl, List.append_nil]; exact hps)
        cases hi : intE v with
        | some k =>
          obtain ⟨kk, p', rfl⟩ := intE_of hi
          refine X.assign (k := .int k) okn.1.1 (fun Q' q' => ?_) hq okn.1.2 rfl
          exact wpAny_Constant_int (q' _ s.heap _ (fun _ _ e => e) (Nat.le_refl _) ⟨_, rfl⟩)
        | none =>
          rw [hi] at okv
          obtain ⟨k, hk⟩ := Option.isSome_iff_exists.mp (show (strE v).isSome = true from okv)
          obtain ⟨kk, p', rfl⟩ := strE_of hk
          refine X.assign (k := .any) okn.1.1 (fun Q' q' => ?_) hq okn.1.2 rfl
          exact wpAny_eval_const rfl fun v tk _ => q' _ s.heap _ (fun _ _ e => e) (Nat.le_refl _) trivial
  | FunctionDef n a b d r tp sc ts bind pos =>
    unfold okS at ok
    dsimp only at ok
    simp only [Bool.and_eq_true, List.isEmpty_iff, Option.isNone_iff_eq_none, decide_eq_true_eq, List.all_eq_true, Bool.not_eq_true'] at ok
    obtain ⟨⟨⟨⟨⟨⟨⟨⟨okn, rfl⟩, rfl⟩, rfl⟩, rfl⟩, rfl⟩, oka⟩, okf⟩, okp⟩ := ok
    unfold okN at okn
    simp only [Bool.and_eq_true, decide_eq_true_eq] at okn
    have oka' := oka
    unfold plainArgs at oka'
    simp only [Bool.and_eq_true, List.isEmpty_iff] at oka'
    refine X.def hst oka'.1.1.1 oka'.1.1.2 oka'.1.2 (annTrees_plain oka) okf okn.1.1 okn.2 (fun h' mg' c' tk Y => q h' mg' _ tk Y ?_) okn.1.2 (hps.none_of okp)
    rw [Array.toList_append]
    exact hps.push
  | _ => cases ok

def goG : Nat → List Stmt → List (Str × K) → List (Str × K)
  | _, [], G => G
  | i, st :: r, G => goG (i + 1) r ((nmOf st, kdOf i st) :: G)
def goP : List Stmt → List (Nat × Nat) → List (Nat × Nat)
  | [], pl => pl
  | st :: r, pl => goP r (pl ++ plOf st)
def okL : List Stmt → List (Nat × Nat) → Bool
  | [], _ => true
  | st :: r, pl => okS pl st && okL r (pl ++ plOf st)

theorem body_cons {i : Nat} {st : Stmt} {r : List Stmt} (h : P.main.body.drop i = st :: r) : P.main.body[i]? = some st ∧ P.main.body.drop (i + 1) = r := by
  constructor
  · have := congrArg (fun l => l[0]?) h
    simpa [List.getElem?_drop] using this
  · rw [← List.drop_drop, h]; rfl

theorem walk_ok : ∀ (sts rest : List Stmt) (i : Nat) (G : List (Str × K)) (pl : List (Nat × Nat)) (mg : Str → Option Value) (ps : Array Value) (s : Shared), P.main.body.drop i = sts ++ rest → okL sts pl = true → TM w h₀ mg₀ c Pl s.heap mg ps G → PsOk pl ps.toList →
    (∀ h' mg' ps' tk, TM w h₀ mg₀ c Pl h' mg' ps' (goG i sts G) → PsOk (goP sts pl) ps'.toList → wpAny (model P w) A (execs rest (mainEnv P c F)) Q E { s with heap := h', toks := tk }) →
    wpAny (model P w) A (execs (P.main.body.drop i) (mainEnv P c F)) Q E s
  | [], rest, i, G, pl, mg, ps, s, hd, _, X, hps, q => by
    rw [hd]
    exact q s.heap mg ps s.toks X hps
  | st :: r, rest, i, G, pl, mg, ps, s, hd, ok, X, hps, q => by
    obtain ⟨h1, h2⟩ := body_cons (r := r ++ rest) hd
    obtain ⟨o1, o2⟩ := Bool.and_eq_true_iff.mp ok
    rw [hd, List.cons_append, ← h2]
    exact wpAny_execs_cons (step_ok h1 o1 X hps fun h' mg' ps' tk Y hp => walk_ok r rest (i + 1) _ _ mg' ps' _ h2 o2 Y hp fun h'' mg'' ps'' tk' Z hz => q h'' mg'' ps'' tk' Z hz)
end
end Mine

-- H9
namespace Mine
open PySem PySem.W PySem.Calls PyProof.Rows

theorem st7 : ∃ np elts p1 p2 p3 p4 p5 p6 p7 p8 p9 p10 k1 k2 pos ns, P.main.body[7]? = some (.Assign [.Name "b1_set" np] (.Call (.Name "set" p1) [.BinOp (.List elts p2) .Add (.Call (.Name "list" p3) [.Call (.Name "range" p4) [.Constant (.int 65024) k1 p5, .Constant (.int 65040) k2 p6] [] p7] [] p8) p9] [] p10) pos) ∧
    intsE elts = some ns ∧ ns ++ ((List.range 16).map fun k : Nat => (65024 + (k : Int) : Int)) = b1s :=
  ⟨_, _, _, _, _, _, _, _, _, _, _, _, _, _, _, [173, 847, 6150, 6155, 6156, 6157, 8203, 8204, 8205, 8288, 65279], rfl, rfl, rfl⟩

def ivG (G : List (Str × K)) (n : Str) : Option Int := match G.lookup n with
  | some (.int i) => some i
  | _ => none
def chkT (G : List (Str × K)) (ks : List (Option Expr)) (vs : List Expr) : Bool := match readP keyS nameE ks vs with
  | some l => decide (l.map (·.1)).Nodup && decide (l.length ≤ 1000) && !l.isEmpty && (l.all fun p => !(p.2 == ("__debug__" : Str)) && (ivG G p.2).isSome) && (ett.all fun p => (l.map (·.1)).contains p.1 && l.all fun q => q.1 != p.1 || ivG G q.2 == some p.2) && etn.all fun x => !(l.map (·.1)).contains x
  | none => false

abbrev G7 : List (Str × K) := goG 0 (P.main.body.take 7) []
abbrev G8 : List (Str × K) := ("b1_set", .set) :: G7
abbrev G9 : List (Str × K) := goG 8 ((P.main.body.drop 8).take 1) G8
abbrev G10 : List (Str × K) := ("b3_exceptions", .d3) :: G9
abbrev G62 : List (Str × K) := goG 10 ((P.main.body.drop 10).take 52) G10
abbrev G63 : List (Str × K) := ("EXACT_TOKEN_TYPES", .dt) :: G62
abbrev G76 : List (Str × K) := goG 63 (P.main.body.drop 63) G63
abbrev L7 : List (Nat × Nat) := goP (P.main.body.take 7) []
abbrev L9 : List (Nat × Nat) := goP ((P.main.body.drop 8).take 1) L7
abbrev L62 : List (Nat × Nat) := goP ((P.main.body.drop 10).take 52) L9

theorem st62 : ∃ np keys values dp pos, P.main.body[62]? = some (.Assign [.Name "EXACT_TOKEN_TYPES" np] (.Dict keys values dp) pos) ∧ chkT G62 keys values = true :=
  ⟨stN (P.main.body[62]?), exKs (stV (P.main.body[62]?)), exVs (stV (P.main.body[62]?)), (stV (P.main.body[62]?)).pos, stP (P.main.body[62]?), by kernel_rfl, by decide +kernel⟩

theorem ok0 : okL (P.main.body.take 7) [] = true := by decide +kernel
theorem ok8 : okL ((P.main.body.drop 8).take 1) L7 = true := by decide +kernel
theorem ok10 : okL ((P.main.body.drop 10).take 52) L9 = true := by decide +kernel
theorem ok63 : okL (P.main.body.drop 63) L62 = true := by decide +kernel
theorem body_at {i : Nat} {st : Stmt} (h : P.main.body[i]? = some st) : P.main.body.drop i = st :: P.main.body.drop (i + 1) := by
  obtain ⟨hlt, rfl⟩ := List.getElem?_eq_some_iff.mp h
  exact List.drop_eq_getElem_cons hlt
theorem free7 : G7.lookup ("set" : Str) = none ∧ G7.lookup ("list" : Str) = none ∧ G7.lookup ("range" : Str) = none := ⟨by rfl, by rfl, by rfl⟩
theorem okSp : P.main.scope.names.lookup ("b1_set" : Str) = some .local ∧ P.main.scope.names.lookup ("b3_exceptions" : Str) = some .local ∧ P.main.scope.names.lookup ("EXACT_TOKEN_TYPES" : Str) = some .local := by decide +kernel

section
variable {A : Around} {E : Value → Shared → Prop} {s : Shared} {w : World} {c Pl F : Addr} {h₀ : Heap} {mg₀ mg mb : Str → Option Value} {ps : Array Value} {G : List (Str × K)} {Q : Flow → Shared → Prop}

theorem d3_of {np dp pos : Pos} {keys : List (Option Expr)} {values : List Expr} (hc : chk3 keys values = true) (X : TM w h₀ mg₀ c Pl s.heap mg ps G)
    (q : ∀ h' mg' tk, TM w h₀ mg₀ c Pl h' mg' ps (("b3_exceptions", .d3) :: G) → Q .next { s with heap := h', toks := tk }) :
    wpAny (model P w) A (exec (.Assign [.Name "b3_exceptions" np] (.Dict keys values dp) pos) (mainEnv P c F)) Q E s := by
  unfold chk3 at hc
  cases hr : readP keyI strE keys values with
  | none => rw [hr] at hc; cases hc
  | some l =>
    rw [hr] at hc
    dsimp only at hc
    simp only [Bool.and_eq_true, decide_eq_true_eq, Bool.not_eq_true', List.all_eq_true] at hc
    obtain ⟨⟨⟨⟨h1, h2⟩, h3⟩, h4⟩, h5⟩ := hc
    obtain ⟨z1, z2, z3⟩ := readP_shape rfl hr
    refine X.assign (k := .d3) okSp.2.1 (fun Q' q' => ?_) q (by decide) rfl
    refine Dict_gives (knd := intKind P w) (V := fun k v => ∃ x t, v = .str x t ∧ (k, x) ∈ l) (Nat.lt_of_lt_of_le (Nat.lt_trans (by decide) X.lowG) X.grows) z1 z2 (gives_IS hr fun p hp t => ⟨p.2, t, rfl, hp⟩) (asc_nodup h1)
      (by rw [List.length_map]; exact Nat.le_trans h2 (by decide)) (by intro e; rw [List.map_eq_nil_iff] at e; subst e; simp at h3) fun h' tk a kvs g1 g2 g3 g4 g5 => ?_
    refine q' (.ref a) h' tk g5.2 g5.1 ⟨a, _, rfl, Nat.le_trans X.grows g1, g2.mapOf, fun p hp => ?_, fun k hk => valueAt_out ?_⟩
    · obtain ⟨m1, m2⟩ := h5 p hp
      obtain ⟨v, e1, x, t, rfl, hx⟩ := valueAt_in (V := fun k v => ∃ x t, v = Value.str x t ∧ (k, x) ∈ l) (k := p.1) g4 (by rw [g3]; exact List.contains_iff_mem.mp m1)
      refine ⟨t, ?_⟩
      have hm := m2 _ hx
      have hm : x = p.2 := by simpa using hm
      rw [e1, hm]
    · rw [g3]
      intro hm
      obtain ⟨p, hp, rfl⟩ := List.mem_map.mp hm
      exact absurd (h4 p hp) (Int.not_le.mpr hk)

theorem dt_of {np dp pos : Pos} {keys : List (Option Expr)} {values : List Expr} (hc : chkT G keys values = true) (X : TM w h₀ mg₀ c Pl s.heap mg ps G)
    (q : ∀ h' mg' tk, TM w h₀ mg₀ c Pl h' mg' ps (("EXACT_TOKEN_TYPES", .dt) :: G) → Q .next { s with heap := h', toks := tk }) :
    wpAny (model P w) A (exec (.Assign [.Name "EXACT_TOKEN_TYPES" np] (.Dict keys values dp) pos) (mainEnv P c F)) Q E s := by
  unfold chkT at hc
  cases hr : readP keyS nameE keys values with
  | none => rw [hr] at hc; cases hc
  | some l =>
    rw [hr] at hc
    dsimp only at hc
    simp only [Bool.and_eq_true, decide_eq_true_eq, Bool.not_eq_true', List.all_eq_true] at hc
    obtain ⟨⟨⟨⟨⟨h1, h2⟩, h3⟩, h4⟩, h5⟩, h6⟩ := hc
    obtain ⟨z1, z2, z3⟩ := readP_shape rfl hr
    have hiv : ∀ n i, ivG G n = some i → ∃ t, mg n = some (.int i t) := fun n i e => by
      unfold ivG at e
      split at e
      · rename_i j hl
        cases e
        obtain ⟨v, a, t, rfl⟩ := X.bound _ _ hl
        exact ⟨t, a⟩
      · cases e
    refine X.assign (k := .dt) okSp.2.2 (fun Q' q' => ?_) q (by decide) rfl
    refine Dict_gives (knd := PySem.strKind P w) (V := fun k v => ∃ n i t, v = .int i t ∧ ivG G n = some i ∧ (k, n) ∈ l) (Nat.lt_of_lt_of_le (Nat.lt_trans (by decide) X.lowG) X.grows) z1 z2
      (gives_SN X.main.g hiv hr fun p hp => ⟨(h4 p hp).1, by
        obtain ⟨i, hi⟩ := Option.isSome_iff_exists.mp (h4 p hp).2
        exact ⟨i, hi, fun t => ⟨p.2, i, t, rfl, hi, hp⟩⟩⟩) h1
      (by rw [List.length_map]; exact Nat.le_trans h2 (by decide)) (by intro e; rw [List.map_eq_nil_iff] at e; subst e; simp at h3) fun h' tk a kvs g1 g2 g3 g4 g5 => ?_
    refine q' (.ref a) h' tk g5.2 g5.1 ⟨a, _, rfl, Nat.le_trans X.grows g1, g2.mapOf, fun p hp => ?_, fun x hx => valueAt_out ?_⟩
    · obtain ⟨m1, m2⟩ := h5 p hp
      obtain ⟨v, e1, n, i, t, rfl, hi, hx⟩ := valueAt_in (V := fun k v => ∃ n i t, v = Value.int i t ∧ ivG G n = some i ∧ (k, n) ∈ l) (k := p.1) g4 (by rw [g3]; exact List.contains_iff_mem.mp m1)
      refine ⟨t, ?_⟩
      have hm := m2 _ hx
      have hm : ivG G n = some p.2 := by simpa using hm
      rw [hi] at hm
      cases hm
      exact e1
    · rw [g3]
      intro hm
      have := h6 x hx
      rw [List.contains_iff_mem.mpr hm] at this
      cases this

theorem top_walk (hh : A.handled = none) (hb : h₀.Ns builtinsNs mb) (hbi : ∀ x : Str, x ≠ "__name__" → mb x = bootBuiltins x) (hm1 : mg₀ "set" = none) (hm2 : mg₀ "list" = none) (hm3 : mg₀ "range" = none)
    (X : TM w h₀ mg₀ c Pl s.heap mg ps []) (hps : ps.toList = [])
    (q : ∀ h' mg' ps' tk, TM w h₀ mg₀ c Pl h' mg' ps' G76 → Q .next { s with heap := h', toks := tk }) :
    wpAny (model P w) A (execs P.main.body (mainEnv P c F)) Q E s := by
  have nPl : builtinsNs ≠ Pl := Nat.ne_of_lt (Nat.lt_trans (by decide) X.main.low.2)
  refine walk_ok (P.main.body.take 7) (P.main.body.drop 7) 0 [] [] mg ps s (by rw [List.take_append_drop]; rfl) ok0 X hps fun h₁ mg₁ ps₁ tk₁ X₁ hp₁ => ?_
  obtain ⟨np, elts, p1, p2, p3, p4, p5, p6, p7, p8, p9, p10, k1, k2, pos, ns, e7, hns, hall⟩ := st7
  rw [body_at e7]
  refine wpAny_execs_cons (X₁.assign (k := .set) okSp.1 (fun Q' q' => ?_) (fun h₂ mg₂ tk₂ X₂ => ?_) (by decide) rfl)
  · refine b1_val hns hall hh X₁.main.g (hb.at fun o => X₁.keep _ o nPl (by decide)) hbi ((X₁.others _ free7.1).trans hm1) ((X₁.others _ free7.2.1).trans hm2) ((X₁.others _ free7.2.2).trans hm3) fun a h' tk n g1 g2 g3 g4 => ?_
    exact q' _ h' tk g3 (Nat.le_of_lt (Nat.lt_of_le_of_lt g1 g2)) ⟨a, n, rfl, Nat.le_trans X₁.grows g1, g4⟩
  refine walk_ok ((P.main.body.drop 8).take 1) (P.main.body.drop 9) 8 _ _ _ _ _ (by rw [show P.main.body.drop 9 = (P.main.body.drop 8).drop 1 from by rw [List.drop_drop], List.take_append_drop]) ok8 X₂ hp₁ fun h₃ mg₃ ps₃ tk₃ X₃ hp₃ => ?_
  obtain ⟨np, keys, values, dp, pos, e9, hc⟩ := st9
  rw [body_at e9]
  refine wpAny_execs_cons (d3_of hc X₃ fun h₄ mg₄ tk₄ X₄ => ?_)
  refine walk_ok ((P.main.body.drop 10).take 52) (P.main.body.drop 62) 10 _ _ _ _ _ (by rw [show P.main.body.drop 62 = (P.main.body.drop 10).drop 52 from by rw [List.drop_drop], List.take_append_drop]) ok10 X₄ hp₃ fun h₅ mg₅ ps₅ tk₅ X₅ hp₅ => ?_
  obtain ⟨np, keys, values, dp, pos, e62, hc⟩ := st62
  rw [body_at e62]
  refine wpAny_execs_cons (dt_of hc X₅ fun h₆ mg₆ tk₆ X₆ => ?_)
  refine walk_ok (P.main.body.drop 63) [] 63 _ _ _ _ _ (by rw [List.append_nil]) ok63 X₆ hp₅ fun h₇ mg₇ ps₇ tk₇ X₇ hp₇ => ?_
  exact wpAny_execs_nil (q h₇ mg₇ ps₇ tk₇ X₇)
end
end Mine

-- H10
namespace Mine
open PySem PySem.W PySem.Calls PyProof.Rows

-- what the boot leaves
theorem boot_isG (p : Params) : (boot_heap p).isNs mainGlobals = true := by kernel_rfl
theorem boot_isB (p : Params) : (boot_heap p).isNs builtinsNs = true := by kernel_rfl
theorem boot_isC (p : Params) : (boot_heap p).isNs cStatics = true := by kernel_rfl
theorem boot_view (p : Params) : (boot_heap p).bltView = bltViewBooted := by kernel_rfl
theorem boot_acc (p : Params) : (boot_heap p).accountedOkI [] = true := by kernel_rfl
theorem boot_limit (p : Params) : (boot_heap p).nsMap cStatics "sys.recursionlimit" = none := by kernel_rfl
theorem boot_mod (p : Params) : (boot_heap p).nsMap mainGlobals "__builtins__" = some (.ref 4) := by kernel_rfl
theorem boot_four (p : Params) : (boot_heap p).get? 4 = some { cls := .type "module", dict := some 0 } := by kernel_rfl
theorem boot_start (p : Params) : ((boot_heap p).nsKeys mainGlobals).all (fun x => startupNames.contains x) = true := by kernel_rfl
theorem boot_gMiss (p : Params) {x : Str} (h : startupNames.contains x = false) : (boot_heap p).nsMap mainGlobals x = none := by
  refine Heap.nsMap_none fun hm => ?_
  have := List.all_eq_true.mp (boot_start p) x hm
  rw [h] at this; cases this

-- what the walk over the top leaves
theorem top_miss : (blts.all fun x => (G76.lookup x).isNone && !startupNames.contains x) = true := by decide +kernel
def isFn (i : Nat) : Option K → Bool
  | some (.fn j) => j == i
  | _ => false
theorem isFn_of {i : Nat} {k : Option K} (h : isFn i k = true) : k = some (.fn i) := by
  unfold isFn at h
  split at h
  · rw [eq_of_beq h]
  · cases h
theorem top_fns : ((List.range 76).all fun i => match fnAt i with
  | some (n, _, _, _) => isFn i (G76.lookup n)
  | none => true) = true := by decide +kernel
theorem top_len : P.main.body.length = 76 := by decide +kernel
theorem top_nt : G76.lookup ("NT_OFFSET" : Str) = some (.int 256) := rfl
theorem top_em : G76.lookup ("ENDMARKER" : Str) = some (.int 0) := rfl
theorem top_b1 : G76.lookup ("b1_set" : Str) = some .set := rfl
theorem top_b3 : G76.lookup ("b3_exceptions" : Str) = some .d3 := rfl
theorem top_et : G76.lookup ("EXACT_TOKEN_TYPES" : Str) = some .dt := rfl
theorem top_bound : (G76.all fun p => P.boundNames.contains p.1) = true := by decide +kernel
theorem top_laid : (laidNames.all fun x => (G76.lookup x).isNone) = true := by decide +kernel
theorem top_imps : importedModules P.main.body = [] := by decide +kernel
theorem top_law : fnAt 75 = some (("law" : Str), lAr, lB, lSc) := rfl
theorem top_def : P.theDef "law" = some (lAr, lB, lSc) := by kernel_rfl
theorem top_all : behindTheImports P = P.main.body := by rfl
theorem top_ann : hasAnns P.main.body = false := by decide +kernel
theorem top_doc : docOf P.main.body = none := by rfl

/-- what stands behind the top -/
structure After (w : World) (mg : Str → Option Value) (h : Heap) : Prop where
  g : GOk w mg ((boot_heap w.params).nsMap builtinsNs) h
  keep : ∀ b o, b ≠ mainGlobals → (boot_heap w.params).get? b = some o → h.get? b = some o
  names : ∀ x v, mg x = some v → x ∈ startupNames ∨ x ∈ P.boundNames
  laid : ∀ x ∈ laidNames, mg x = (boot_heap w.params).nsMap mainGlobals x
  law : ∃ f o pm c' doc, mg "law" = some (.ref f) ∧ h.get? f = some o ∧ o.data = .func (docDef "law" lAr lB lSc pm (.ref c') doc) ∧ h.CodeRec (.ref c') "law"
  blt : mg "__builtins__" = some (.ref 4)

theorem lookup_mem {x : Str} {k : K} : ∀ {G : List (Str × K)}, G.lookup x = some k → ∃ p ∈ G, p.1 = x
  | [], h => by cases h
  | (a, b) :: G, h => by
    rw [List.lookup_cons] at h
    by_cases e : x = a
    · exact ⟨_, List.mem_cons_self, e.symm⟩
    · rw [show (x == a) = false from by simpa using e] at h
      obtain ⟨p, hp, e⟩ := lookup_mem h
      exact ⟨p, List.mem_cons_of_mem _ hp, e⟩

theorem TM.after {w : World} {h₀ h : Heap} {c Pl : Addr} {mg : Str → Option Value} {ps : Array Value} (X : TM w h₀ ((boot_heap w.params).nsMap mainGlobals) c Pl h mg ps G76) (hk : ∀ b o, (boot_heap w.params).get? b = some o → h₀.get? b = some o)
    (hPl : (boot_heap w.params).objs.size ≤ Pl) : After w mg h := by
  have keep : ∀ b o, b ≠ mainGlobals → (boot_heap w.params).get? b = some o → h.get? b = some o := fun b o hb e => X.keep b o (Nat.ne_of_lt (Nat.lt_of_lt_of_le (Heap.lt_size e) hPl)) hb (hk b o e)
  have nsK : ∀ {a : Addr} {m : Str → Option Value}, a ≠ mainGlobals → (boot_heap w.params).Ns a m → h.Ns a m := fun ha x => x.at fun o => keep _ o ha
  have off : ∀ x : Str, G76.lookup x = none → mg x = (boot_heap w.params).nsMap mainGlobals x := X.others
  have sysN : ∀ a : Addr, h₀.objs.size ≤ a → (a == sysModules) = false := fun a ha => beq_eq_false_iff_ne.mpr (Nat.ne_of_gt (Nat.lt_of_lt_of_le (Nat.lt_trans (by decide) X.lowG) ha))
  have fns : ∀ i n ar b sc, fnAt i = some (n, ar, b, sc) → ∃ f o pm c' doc, mg n = some (.ref f) ∧ h.get? f = some o ∧ o.data = .func (docDef n ar b sc pm (.ref c') doc) ∧ h.CodeRec (.ref c') n := fun i n ar b sc e => by
    have hi : i < 76 := by
      rw [← top_len]
      rcases Nat.lt_or_ge i P.main.body.length with q | q
      · exact q
      · unfold fnAt at e
        rw [List.getElem?_eq_none q] at e
        cases e
    have := List.all_eq_true.mp top_fns i (List.mem_range.mpr hi)
    rw [e] at this
    obtain ⟨v, hv, sem⟩ := X.bound n _ (isFn_of this)
    obtain ⟨f, o, pm, c', doc, rfl, _, _, h1, h2, h3⟩ := sem n ar b sc e
    exact ⟨f, o, pm, c', doc, hv, h1, h2, h3⟩
  refine ⟨⟨X.main.g, nsK (by decide) (.of_isNs (boot_isB _)), ⟨_, nsK (by decide) (.of_isNs (boot_isC _)), boot_limit _⟩, fun x hx => Heap.of_bltView (boot_isB _) (boot_view _) x hx, fun x hx => ?_, fun i n ar b sc e => ?_, ?_, ?_, ?_, ?_, ?_⟩, keep, fun x v hv => ?_, fun x hx => ?_, ?_, ?_⟩
  · obtain ⟨a, b⟩ := Bool.and_eq_true_iff.mp (List.all_eq_true.mp top_miss x hx)
    rw [off x (Option.isNone_iff_eq_none.mp a)]
    exact boot_gMiss _ (by simpa using b)
  · obtain ⟨f, o, pm, c', doc, h1, h2, h3, h4⟩ := fns i n ar b sc e
    exact ⟨f, h1, o, pm, .ref c', doc, h2, h3, h4⟩
  · obtain ⟨v, hv, t, rfl⟩ := X.bound _ _ top_nt
    exact ⟨t, hv⟩
  · obtain ⟨v, hv, t, rfl⟩ := X.bound _ _ top_em
    exact ⟨t, hv⟩
  · obtain ⟨v, hv, a, n, rfl, _, hs⟩ := X.bound _ _ top_b1
    exact ⟨a, n, hv, hs⟩
  · obtain ⟨v, hv, a, f, rfl, ha, hs⟩ := X.bound _ _ top_b3
    exact ⟨a, f, hv, sysN a ha, hs⟩
  · obtain ⟨v, hv, a, f, rfl, ha, hs⟩ := X.bound _ _ top_et
    exact ⟨a, f, hv, sysN a ha, hs⟩
  · cases hl : G76.lookup x with
    | some k =>
      obtain ⟨p, hp, rfl⟩ := lookup_mem hl
      exact .inr (List.contains_iff_mem.mp (List.all_eq_true.mp top_bound p hp))
    | none =>
      rw [off x hl] at hv
      by_cases hs : startupNames.contains x = true
      · exact .inl (List.contains_iff_mem.mp hs)
      · rw [boot_gMiss _ (by simpa using hs)] at hv; cases hv
  · exact off x (Option.isNone_iff_eq_none.mp (List.all_eq_true.mp top_laid x hx))
  · obtain ⟨f, o, pm, c', doc, h1, h2, h3, h4⟩ := fns 75 _ _ _ _ top_law
    exact ⟨f, o, pm, c', doc, h1, h2, h3, h4⟩
  · rw [off _ (by rfl)]; exact boot_mod _

theorem top_wp {w : World} {s₀ : Shared} (hh : s₀.heap = boot_heap w.params) (hg : s₀.gens = #[]) :
    wpAny (model P w) callerA (topStub P).cur (fun fin s' => ∃ f, fin = .done f ∧ ((s'.os = s₀.os ∧ ∃ mg, After w mg s'.heap) ∧ s'.gens = #[])) (fun _ _ => False) s₀ := by
  show wpAny (model P w) callerA (do
      let code ← moduleCode P.main
      let frame ← newBodyFrame code mainNs mainNs
      let _ ← run (.body (behindTheImports P) { scope := P.main.scope, locals := mainNs, globals := mainNs, cells := [], code, frame := some frame })
      ret .none) _ _ s₀
  have hG : s₀.heap.Ns mainGlobals ((boot_heap w.params).nsMap mainGlobals) := by rw [hh]; exact .of_isNs (boot_isG _)
  refine wpAny_bind (wpAny_moduleCode fun c Pl h₁ tk₁ hk₁ hc hPl hcode => ?_)
  unfold newBodyFrame
  refine wpAny_bind (wpAny_bind (wpAny_nsGet (hG.keeps hk₁) (wpAny_alloc ?_)))
  have hk₂ : ∀ (fo : Obj) b o, (boot_heap w.params).get? b = some o → (h₁.push fo).get? b = some o := fun fo b o e => Heap.get?_push_of_some _ (hk₁ b o (by rw [hh]; exact e))
  have glt : mainGlobals < s₀.heap.objs.size := hG.lt
  have f4 := boot_four w.params
  have X0 : ∀ fo : Obj, TM w (h₁.push fo) ((boot_heap w.params).nsMap mainGlobals) c Pl (h₁.push fo) ((boot_heap w.params).nsMap mainGlobals) #[] [] := fun fo =>
    ⟨⟨(hG.keeps hk₁).push _, hcode.push _, ⟨Nat.lt_of_lt_of_le glt hc, Nat.lt_of_lt_of_le glt hPl⟩, ⟨4, _, boot_mod _, by decide, by decide, Nat.ne_of_lt (Nat.lt_of_lt_of_le (by rw [hh]; exact Heap.lt_size f4) hPl), hk₂ _ _ _ f4, rfl, rfl, rfl⟩⟩,
      fun _ _ _ _ e => e, Nat.le_refl _, (hcode.push _).lt.2, ((hG.keeps hk₁).push _).lt, fun x k e => (nomatch e), fun _ _ => rfl⟩
  refine wpAny_bind (wpAny_run ?_)
  rw [top_all]
  refine codeAny_body top_ann top_doc (wpAny_mono (E := fun _ _ => False) (top_walk (F := h₁.objs.size) rfl (Heap.Ns.keeps (.of_isNs (boot_isB w.params)) (hk₂ _)) (fun x hx => Heap.of_bltView (boot_isB _) (boot_view _) x hx)
    (boot_gMiss _ (by decide +kernel)) (boot_gMiss _ (by decide +kernel)) (boot_gMiss _ (by decide +kernel)) (X0 _) rfl fun h' mg' ps' tk X => ?_) (fun _ _ x => x) fun _ _ x => x.elim)
  exact wpAny_pure ⟨_, rfl, ⟨rfl, mg', X.after (hk₂ _) (by rw [hh] at hPl; exact hPl)⟩, hg⟩
end Mine

-- H11
namespace Mine
open PySem PySem.W PySem.Calls PyProof.Rows

theorem staticOf_same {h h' : Heap} (e : h'.get? cStatics = h.get? cStatics) : staticOf h' = staticOf h := by funext k; unfold staticOf; rw [e]
theorem builtinOf_same {h h' : Heap} (e : h'.get? builtinsNs = h.get? builtinsNs) : builtinOf h' = builtinOf h := by funext k; unfold builtinOf; rw [e]
theorem get_isNs {h : Heap} {a : Addr} (x : h.isNs a = true) : ∃ o, h.get? a = some o := let ⟨o, _, _, e, _⟩ := Heap.Ns.of_isNs x; ⟨o, e⟩

theorem plain_open : opening P = plainProg P.main.scope.names := by rfl

theorem behind (w : World) : (∃ s, AfterRun (opening P) w s) ∧ ∀ s, AfterRun (opening P) w s → ∃ s₀, fenceModules? P s = some s₀ ∧ s₀.gens = #[] ∧ ∃ s₁, TopRan P w s₀ s₁ ∧ s₁.asleep ∧ s₁.gens = #[] ∧ ∃ mg, After w mg s₁.heap := by
  have h := boot_open (p := P) (N := 600) plain_open (by decide) (fun s => rfl) w
  rw [← table_eq_tree] at h
  obtain ⟨s₀, h2, e⟩ := Option.map_eq_some_iff.mp h
  obtain ⟨s, h4, h5⟩ := Option.bind_eq_some_iff.mp h2
  have A := AfterImport.of_importEnds h4
  refine ⟨⟨s, A⟩, fun s' hs' => ?_⟩
  obtain rfl : s' = s := AfterImport.unique hs' A
  have z : s₀.asleep := Shared.asleep_of_life (fence_lifeW h5) A.life
  have e1 : s₀.heap = boot_heap w.params := congrArg Prod.fst e
  have e2 : s₀.gens = #[] := congrArg (fun x => x.2.1) e
  obtain ⟨s₁, hrun, hlife, ⟨hos, mg, AF⟩, hgens⟩ := ran_of z (top_wp e1 e2)
  have same : ∀ a o, a ≠ mainGlobals → s₀.heap.get? a = some o → s₁.heap.get? a = some o := fun a o ha ho => AF.keep a o ha (e1 ▸ ho)
  have eC : s₁.heap.get? cStatics = (boot_heap w.params).get? cStatics := by
    obtain ⟨o, ho⟩ := get_isNs (boot_isC w.params)
    rw [ho, AF.keep _ o (by decide) ho]
  have eB : s₁.heap.get? builtinsNs = (boot_heap w.params).get? builtinsNs := by
    obtain ⟨o, ho⟩ := get_isNs (boot_isB w.params)
    rw [ho, AF.keep _ o (by decide) ho]
  have gl : ∀ x, globalOf s₁.heap x = mg x := fun x => Claim2Try.globalOf_of_ns AF.g.g x
  have gl0 : ∀ x, globalOf s₀.heap x = (boot_heap w.params).nsMap mainGlobals x := fun x => by rw [e1]; exact Pin.globalOf_eq (boot_isG _) x
  refine ⟨s₀, h5, e2, s₁, ⟨hrun, hlife, Shared.rest_eq hos, fun b o hb hn => same b o (fun q => hn (.inl q)) hb, ?_, fun key => .inl ?_, ?_, fun x hx => ?_, ⟨4, _, (gl _).trans AF.blt, AF.keep _ _ (by decide) (boot_four _), rfl, rfl⟩, ?_, fun x v hx => AF.names x v ((gl x).symm.trans hx), fun x hx => ?_⟩, Shared.asleep_of_life hlife z, hgens, mg, AF⟩
  · rw [top_imps]
    unfold staticsAccountedI
    rw [staticOf_same eC]
    exact Heap.accountedI_of_ok (boot_acc _)
  · rw [staticOf_same eC, e1]
  · obtain ⟨o, es, ep, ho, hd, hk, _⟩ := AF.g.g
    exact ⟨o, es, ep, ho, hd, hk⟩
  · rw [builtinOf_same eB]
    exact (Pin.builtinOf_eq (boot_isB _) x).trans (Heap.of_bltView (boot_isB _) (boot_view _) x hx)
  · rw [hgens]; exact fun g hg => by simp at hg
  · rw [gl, gl0]; exact AF.laid x hx

theorem pinned {w : World} {mg : Str → Option Value} {s : Shared} (AF : After w mg s.heap) : isTheDefsW P s.heap "law" := by
  obtain ⟨f, o, pm, c', doc, h1, h2, h3, h4⟩ := AF.law
  exact ⟨f, o, _, lAr, lB, lSc, (Claim2Try.globalOf_of_ns AF.g.g _).trans h1, h2, h3, top_def, rfl, rfl, rfl, rfl, rfl, rfl, rfl, rfl, .inl ⟨rfl, rfl⟩, [], rfl, .inl ⟨rfl, rfl⟩⟩
end Mine

-- H12
namespace Mine
open PySem PySem.W PySem.Calls PyProof.Rows

abbrev row : OpenRow := PySem.Challenge.rw_wf0092_01.row
abbrev C : ClaimW := row.toRowW.claim

theorem script_of {R : WRecords} {args : List WData} (h : WShape.hasAll R args [.list .int] = true) : ∃ ns : List Int, args = [.list (ns.map .int)] := by
  obtain ⟨d, r, rfl, h1, h2⟩ := hasAllW_cons h
  obtain rfl := hasAllW_nil h2
  obtain ⟨xs, rfl, h3⟩ := hasW_list h1
  obtain ⟨ns, rfl⟩ := items_int h3
  exact ⟨ns, rfl⟩

theorem are_ints {p : Params} {h : Heap} : ∀ {ns : List Int} {vs : List Value}, WellAll p h vs (ns.map .int) → Are h [] vs (ns.map .int)
  | [], vs, x => by
    cases x; exact .nil
  | n :: ns, vs, x => by
    rw [List.map_cons] at x
    cases x with
    | cons a b =>
      cases a
      exact .cons .int (are_ints b)
theorem script_is {p : Params} {h : Heap} {ns : List Int} {vs : List Value} (x : WellAll p h vs [.list (ns.map .int)]) : ∃ v, vs = [v] ∧ Is h [] v (nums ns) := by
  cases x with
  | cons a b =>
    cases b
    cases a with
    | list e k => exact ⟨_, rfl, .lst ⟨_, e⟩ (fun q => nomatch q) (are_ints k)⟩

theorem short_of {ns : List Int} (h : C.pre [.list (ns.map .int)] = true) : ns.length ≤ 1000 := by
  have hcond := (pre_splitW (r := row.toRowW) h).2
  have h1 := (holds_andW hcond).1
  have := condW_of h1 (by wtm_val)
  simp at this
  omega

theorem post_true {args : List WData} : C.post args (.bool true) args = true := by wrow_post

theorem good {w : World} {s₁ s' : Shared} {args : List WData} {cl : Str → Option Addr} {mean : ExcName → Option Value} (hg : s₁.gens = #[]) (x : Ext [] s₁ s') : GoodWG C cl mean args s₁ (.ok (.ret (.bool true))) s' := by
  refine ⟨.inl ⟨.bool true, .bool true, [], rfl, fun cls => rfl, .bool true, post_true, fun _ => ⟨List.nodup_nil, fun _ q => nomatch q⟩⟩, .of_keep fun b o e => x.keep b o (fun q => nomatch q) e, x.os, fun y hy => ?_⟩
  obtain ⟨i, hi, rfl⟩ := Array.mem_iff_getElem.mp hy
  exact x.fin i _ (.inr (by rw [hg]; exact Nat.zero_le _)) (Array.getElem?_eq_getElem hi)

def tree (vs : List Value) : Sem Fin := do
  match ← nsGet mainNs "law" with
  | some f => do ret (← PySem.call f vs)
  | none => unsupported "claim.caller:no-such-global"

theorem holdsBy (hw : row.toRowW.promised) (kps : List Str) : C.HoldsOpenBy (fun vs => ⟨tree vs, .builtin "claim.caller" {}, default, []⟩) ["law"] kps false := by
  refine ⟨⟨⟨rfl, rfl, rfl, rfl, rfl, by decide +kernel⟩, by decide +kernel, rfl⟩, hw.witness, fun w => ⟨(behind w).1, fun s' hs' => ?_⟩⟩
  obtain ⟨s₀, hf, hg0, s, hT, hz, hgens, mg, AF⟩ := (behind w).2 s' hs'
  refine ⟨s₀, hf, hg0, s, hT, fun n hn => ?_, fun x hx => (nomatch hx), fun x hx => (nomatch hx), ?_⟩
  · rw [List.mem_singleton.mp hn]; exact pinned AF
  refine ClaimW.callFrom_of_specG (c := C) hz hgens fun args hpre hlay ord hord => ?_
  obtain ⟨ns, rfl⟩ := script_of (pre_splitW (r := row.toRowW) hpre).1
  obtain ⟨⟨vs, s₁⟩, hlaid⟩ := Option.isSome_iff_exists.mp (layAllW_isSome (R := row.toRowW.records) (cl := classAt s.heap) (P := w.params) (ord := ord) (fun c hc => by cases hc) _ row.toRowW.args s (pre_splitW (r := row.toRowW) hpre).1)
  have keeps := layAllW_keeps _ _ _ hlaid
  have hal := layAllW_rest _ _ _ hlaid
  obtain ⟨as, hrd, hin, hold⟩ := reads_layAllW hord _ _ _ hlaid hlay s₁.heap (fun _ _ e => e)
  have L : Laid row.toRowW.records w s s₁ [.list (ns.map .int)] vs as := ⟨⟨ord, hord, hlaid⟩, hrd, hin, hold, keeps, hal.1.trans hgens, hal.2.2.1⟩
  obtain ⟨v, rfl, hv⟩ := script_is (well_layAllW hord _ s _ hlaid _ fun _ _ e => e)
  obtain ⟨f, o, pm, c', doc, h1, h2, h3, h4⟩ := AF.law
  have G₁ := AF.g.keeps keeps
  have hfa : FnAt s₁.heap f lN lAr lB lSc := ⟨o, pm, .ref c', doc, keeps _ _ h2, h3, h4.keeps keeps⟩
  refine ⟨[v], s₁, hlaid, ?_⟩
  show wpAny (model P w) callerA (tree [v]) _ _ s₁
  unfold tree
  refine wpAny_bind (wpAny_nsGet G₁.g ?_)
  rw [h1]
  refine wpAny_bind (wpAny_mono (lawCall (X₀ := []) (short_of hpre) G₁ hfa rfl (by decide) (by decide) rfl (fun _ q => nomatch q) hv) (fun r s' q => wpAny_pure ?_) fun _ _ x => x.elim)
  obtain ⟨rfl, x⟩ := q
  have z := (good (w := w) (cl := classAt s.heap) (mean := ExcName.means s.heap) (args := [.list (ns.map .int)]) L.gens x).laid (c := C) rfl rfl (ident_freeW rfl rfl rfl) L
  exact ⟨_, rfl, z.1, z.2.1, z.2.2, fun q => nomatch q⟩

theorem rowSaid : PySem.Challenge.rw_wf0092_01.row.wellSaid = true := by
  unfold OpenRow.wellSaid OpenRow.partSaid looksOpen
  repeat' with_reducible apply look_both
  all_goals decide +kernel
theorem wellSaid : PySem.Challenge.rw_wf0092_01.wellSaid = true := by
  unfold OpenLaw.wellSaid
  repeat' with_reducible apply look_both
  · exact rowSaid
  all_goals decide +kernel
end Mine
open PySem PySem.W PyProof.Rows
theorem PySem.Challenge.cw_wf0092_01_holds : PySem.Challenge.rw_wf0092_01.Holds := by
  refine holds_law Mine.wellSaid fun said => ?_
  have hw : Mine.row.toRowW.promised := by w_witness2
  exact ⟨said, hw, Mine.holdsBy hw _⟩
