import PyProof.Rows.All
import Wide.All
import OpenK.AllK
import Wide.FinOn
import KE.KCallOwn
import Flt.RightMore
import Flt.Calls
import PyProof.StationsW
import PyProof.ExcBaseAll.ValueError
import PyProof.ExcStr
import PyProof.ExcStrCall
import PyProof.ExcStrAll.ValueError
import KE.IntBitsLaws
import PySem.Challenge.RW_rs0053_01
set_option Elab.async false
set_option linter.unusedVariables false
-- part F1
section
namespace Mine
open PySem PySem.W PyProof.Rows

/-- abstract data -/
inductive D where
  | none
  | bool (b : Bool)
  | int (i : Int)
  | flt (x : UInt64)
  | str (x : Str)
  | tup (ds : List D)
  | list (ds : List D)
  | ob (i : Nat)

/-- mutable objects -/
inductive MO where
  | list (ds : List D)
  | acc (k : Int) (ds : List D)
  | raw

mutual
def D.closed : D → Bool
  | .none => true
  | .bool _ => true
  | .int _ => true
  | .flt _ => true
  | .str _ => true
  | .tup ds => closedAll ds
  | .list ds => closedAll ds
  | .ob _ => false
def closedAll : List D → Bool
  | [] => true
  | d :: r => d.closed && closedAll r
end

/-- the ground: the program, the world, the heap at the law's call, the code tables, the class's address -/
structure G where
  prog : Program
  w : World
  hB : Heap
  os : OsState
  tabs : List Addr
  cls : Addr
  mg : Str → Option Value
  mb : Str → Option Value
  K : Frag

abbrev G.M (g : G) : Model := model g.prog g.w
abbrev Th := List (Addr × Addr)
def adrs (θ : Th) : List Addr := θ.map (·.1) ++ θ.map (·.2)
def bad (g : G) (θ : Th) : List Addr := g.tabs ++ adrs θ
abbrev tupO (vs : List Value) (n : Nat) : Obj := { cls := .type "tuple", data := .seq vs.toArray n }
abbrev lstO (vs : List Value) (n : Nat) : Obj := { cls := .type "list", data := .seq vs.toArray n }
abbrev accO (c : Addr) (dx : Addr) (vs : List Value) (n : Nat) : Obj := { cls := .ref c, dict := some dx, data := .seq vs.toArray n }

mutual
inductive Val (g : G) (θ : Th) (h : Heap) : Value → D → Prop
  | none : Val g θ h .none .none
  | bool (b : Bool) : Val g θ h (.bool b) (.bool b)
  | int (i : Int) (t : Tok) : Val g θ h (.int i t) (.int i)
  | flt (x : UInt64) (t : Tok) : Val g θ h (.float x t) (.flt x)
  | str (x : Str) (t : Tok) : Val g θ h (.str x t) (.str x)
  | tup {a : Addr} {vs : List Value} {n : Nat} {ds : List D} : h.get? a = some (tupO vs n) → a ∉ bad g θ → Vals g θ h vs ds → Val g θ h (.ref a) (.tup ds)
  | list {a : Addr} {vs : List Value} {n : Nat} {ds : List D} : h.get? a = some (lstO vs n) → a ∉ bad g θ → Vals g θ h vs ds → Val g θ h (.ref a) (.list ds)
  | ob {i : Nat} {p : Addr × Addr} : θ[i]? = some p → Val g θ h (.ref p.1) (.ob i)
inductive Vals (g : G) (θ : Th) (h : Heap) : List Value → List D → Prop
  | nil : Vals g θ h [] []
  | cons {v : Value} {vs : List Value} {d : D} {ds : List D} : Val g θ h v d → Vals g θ h vs ds → Vals g θ h (v :: vs) (d :: ds)
end

/-- what is true of a later state -/
structure Lat (g : G) (θ : Th) (s : Shared) (θ' : Th) (s' : Shared) : Prop where
  pre : ∃ t, θ' = θ ++ t ∧ ∀ p ∈ t, s.heap.get? p.1 = none ∧ s.heap.get? p.2 = none
  keep : ∀ b o, b ∉ bad g θ → s.heap.get? b = some o → s'.heap.get? b = some o
  alive : ∀ b o, s.heap.get? b = some o → ∃ o', s'.heap.get? b = some o'

theorem mem_adrs {θ : Th} {a : Addr} : a ∈ adrs θ ↔ ∃ p ∈ θ, a = p.1 ∨ a = p.2 := by
  unfold adrs
  simp only [List.mem_append, List.mem_map]
  constructor
  · rintro (⟨p, hp, rfl⟩ | ⟨p, hp, rfl⟩)
    · exact ⟨p, hp, .inl rfl⟩
    · exact ⟨p, hp, .inr rfl⟩
  · rintro ⟨p, hp, rfl | rfl⟩
    · exact .inl ⟨p, hp, rfl⟩
    · exact .inr ⟨p, hp, rfl⟩

theorem adrs_more {θ t : Th} {h : Heap} {a : Addr} {o : Obj} (e : h.get? a = some o) (n : a ∉ adrs θ) (ht : ∀ p ∈ t, h.get? p.1 = none ∧ h.get? p.2 = none) : a ∉ adrs (θ ++ t) := by
  intro q
  obtain ⟨p, hp, z⟩ := mem_adrs.mp q
  rcases List.mem_append.mp hp with hp | hp
  · exact n (mem_adrs.mpr ⟨p, hp, z⟩)
  · have := ht p hp
    rcases z with rfl | rfl
    · cases (e).symm.trans this.1
    · cases (e).symm.trans this.2
theorem bad_more {g : G} {θ t : Th} {h : Heap} {a : Addr} {o : Obj} (e : h.get? a = some o) (n : a ∉ bad g θ) (ht : ∀ p ∈ t, h.get? p.1 = none ∧ h.get? p.2 = none) : a ∉ bad g (θ ++ t) := by
  intro hm
  rcases List.mem_append.mp hm with q | q
  · exact n (List.mem_append.mpr (.inl q))
  · exact adrs_more e (fun z => n (List.mem_append.mpr (.inr z))) ht q
theorem bad_less {g : G} {θ t : Th} {a : Addr} (h : a ∉ bad g (θ ++ t)) : a ∉ bad g θ := by
  intro hm
  rcases List.mem_append.mp hm with q | q
  · exact h (List.mem_append.mpr (.inl q))
  · obtain ⟨p, hp, e⟩ := mem_adrs.mp q
    exact h (List.mem_append.mpr (.inr (mem_adrs.mpr ⟨p, List.mem_append.mpr (.inl hp), e⟩)))

theorem Lat.refl (g : G) (θ : Th) (s : Shared) : Lat g θ s θ s := ⟨⟨[], by simp, fun _ h => nomatch h⟩, fun _ _ _ e => e, fun _ o e => ⟨o, e⟩⟩
theorem Lat.ofKeeps {g : G} {θ : Th} {s s' : Shared} (k : ∀ b o, s.heap.get? b = some o → s'.heap.get? b = some o) : Lat g θ s θ s' :=
  ⟨⟨[], by simp, fun _ h => nomatch h⟩, fun b o _ e => k b o e, fun b o e => ⟨o, k b o e⟩⟩
theorem Lat.toks {g : G} {θ θ' : Th} {s s' : Shared} {n : Nat} (l : Lat g θ s θ' s') : Lat g θ s θ' { s' with toks := n } := ⟨l.pre, l.keep, l.alive⟩
theorem Lat.trans {g : G} {θ θ' θ'' : Th} {s s' s'' : Shared} (l : Lat g θ s θ' s') (k : Lat g θ' s' θ'' s'') : Lat g θ s θ'' s'' := by
  obtain ⟨t, rfl, ht⟩ := l.pre
  obtain ⟨u, rfl, hu⟩ := k.pre
  have none_of : ∀ a, s'.heap.get? a = none → s.heap.get? a = none := fun a e => by
    cases q : s.heap.get? a with
    | none => rfl
    | some o => obtain ⟨o', e'⟩ := l.alive a o q; rw [e] at e'; cases e'
  refine ⟨⟨t ++ u, by rw [List.append_assoc], fun p hp => ?_⟩, fun b o nb e => ?_, fun b o e => ?_⟩
  · rcases List.mem_append.mp hp with hp | hp
    · exact ht p hp
    · exact ⟨none_of _ (hu p hp).1, none_of _ (hu p hp).2⟩
  · exact k.keep b o (bad_more e nb ht) (l.keep b o nb e)
  · obtain ⟨o', e'⟩ := l.alive b o e
    exact k.alive b o' e'

/-- what data need of a later state -/
structure LatV (g : G) (θ : Th) (h : Heap) (θ' : Th) (h' : Heap) : Prop where
  pre : ∃ t, θ' = θ ++ t ∧ ∀ p ∈ t, h.get? p.1 = none ∧ h.get? p.2 = none
  keep : ∀ b o, b ∉ bad g θ → h.get? b = some o → (∃ vs n, o.data = .seq vs n) → h'.get? b = some o
theorem Lat.v {g : G} {θ θ' : Th} {s s' : Shared} (l : Lat g θ s θ' s') : LatV g θ s.heap θ' s'.heap := ⟨l.pre, fun b o n e _ => l.keep b o n e⟩

/-- one rule for all that follows a value's shape -/
theorem Val.both {g : G} {θ : Th} {h : Heap} {p : Value → D → Prop} {q : List Value → List D → Prop} (c0 : p .none .none) (c1 : ∀ b, p (.bool b) (.bool b)) (c2 : ∀ i t, p (.int i t) (.int i)) (c3 : ∀ x t, p (.float x t) (.flt x)) (c4 : ∀ x t, p (.str x t) (.str x))
    (c5 : ∀ (a : Addr) (vs : List Value) (n : Nat) (ds : List D), h.get? a = some (tupO vs n) → a ∉ bad g θ → Vals g θ h vs ds → q vs ds → p (.ref a) (.tup ds))
    (c6 : ∀ (a : Addr) (vs : List Value) (n : Nat) (ds : List D), h.get? a = some (lstO vs n) → a ∉ bad g θ → Vals g θ h vs ds → q vs ds → p (.ref a) (.list ds))
    (c7 : ∀ (i : Nat) (r : Addr × Addr), θ[i]? = some r → p (.ref r.1) (.ob i))
    (d0 : q [] []) (d1 : ∀ (v : Value) (vs : List Value) (d : D) (ds : List D), Val g θ h v d → Vals g θ h vs ds → p v d → q vs ds → q (v :: vs) (d :: ds)) :
    (∀ v d, Val g θ h v d → p v d) ∧ ∀ vs ds, Vals g θ h vs ds → q vs ds :=
  ⟨fun _ _ x => Val.rec (motive_1 := fun v d _ => p v d) (motive_2 := fun vs ds _ => q vs ds) c0 c1 c2 c3 c4 (fun e n r k => c5 _ _ _ _ e n r k) (fun e n r k => c6 _ _ _ _ e n r k) (fun e => c7 _ _ e) d0 (fun a r k l => d1 _ _ _ _ a r k l) x,
   fun _ _ x => Vals.rec (motive_1 := fun v d _ => p v d) (motive_2 := fun vs ds _ => q vs ds) c0 c1 c2 c3 c4 (fun e n r k => c5 _ _ _ _ e n r k) (fun e n r k => c6 _ _ _ _ e n r k) (fun e => c7 _ _ e) d0 (fun a r k l => d1 _ _ _ _ a r k l) x⟩
theorem Vals.ind {g : G} {θ : Th} {h : Heap} {q : List Value → List D → Prop} (d0 : q [] []) (d1 : ∀ (v : Value) (vs : List Value) (d : D) (ds : List D), Val g θ h v d → Vals g θ h vs ds → q vs ds → q (v :: vs) (d :: ds)) {vs : List Value} {ds : List D} (x : Vals g θ h vs ds) : q vs ds :=
  (Val.both (p := fun _ _ => True) trivial (fun _ => trivial) (fun _ _ => trivial) (fun _ _ => trivial) (fun _ _ => trivial) (fun _ _ _ _ _ _ _ _ => trivial) (fun _ _ _ _ _ _ _ _ => trivial) (fun _ _ _ => trivial) d0 (fun v vs d ds a r _ l => d1 v vs d ds a r l)).2 _ _ x
theorem latV_both {g : G} {θ θ' : Th} {h h' : Heap} (l : LatV g θ h θ' h') : (∀ v d, Val g θ h v d → Val g θ' h' v d) ∧ ∀ vs ds, Vals g θ h vs ds → Vals g θ' h' vs ds := by
  have nb : ∀ a o, h.get? a = some o → a ∉ bad g θ → a ∉ bad g θ' := fun a o e n => by
    obtain ⟨t, rfl, ht⟩ := l.pre
    exact bad_more e n ht
  refine Val.both .none .bool .int .flt .str (fun a vs n ds e n _ r => .tup (l.keep _ _ n e ⟨_, _, rfl⟩) (nb _ _ e n) r) (fun a vs n ds e n _ r => .list (l.keep _ _ n e ⟨_, _, rfl⟩) (nb _ _ e n) r) (fun i r e => .ob ?_) .nil (fun _ _ _ _ _ _ a r => .cons a r)
  obtain ⟨t, rfl, ht⟩ := l.pre
  rw [List.getElem?_append_left (List.getElem?_eq_some_iff.mp e).1]; exact e
theorem Val.latV {g : G} {θ θ' : Th} {h h' : Heap} (l : LatV g θ h θ' h') {v : Value} {d : D} (x : Val g θ h v d) : Val g θ' h' v d := (latV_both l).1 _ _ x
theorem Vals.latV {g : G} {θ θ' : Th} {h h' : Heap} (l : LatV g θ h θ' h') {vs : List Value} {ds : List D} (x : Vals g θ h vs ds) : Vals g θ' h' vs ds := (latV_both l).2 _ _ x
theorem Val.lat {g : G} {θ θ' : Th} {s s' : Shared} (l : Lat g θ s θ' s') {v : Value} {d : D} (x : Val g θ s.heap v d) : Val g θ' s'.heap v d := x.latV l.v
theorem Vals.lat {g : G} {θ θ' : Th} {s s' : Shared} (l : Lat g θ s θ' s') {vs : List Value} {ds : List D} (x : Vals g θ s.heap vs ds) : Vals g θ' s'.heap vs ds := x.latV l.v

theorem Vals.length {g : G} {θ : Th} {h : Heap} {vs : List Value} {ds : List D} (x : Vals g θ h vs ds) : vs.length = ds.length :=
  Vals.ind (q := fun vs ds => vs.length = ds.length) rfl (fun _ _ _ _ _ _ l => congrArg (· + 1) l) x
theorem Vals.append {g : G} {θ : Th} {h : Heap} {vs ws : List Value} {ds es : List D} (x : Vals g θ h vs ds) (k : Vals g θ h ws es) : Vals g θ h (vs ++ ws) (ds ++ es) :=
  Vals.ind (q := fun vs ds => Vals g θ h (vs ++ ws) (ds ++ es)) k (fun _ _ _ _ a _ l => .cons a l) x
theorem Vals.get {g : G} {θ : Th} {h : Heap} {vs : List Value} {ds : List D} (x : Vals g θ h vs ds) {i : Nat} {d : D} (e : ds[i]? = some d) : ∃ v, vs[i]? = some v ∧ Val g θ h v d :=
  Vals.ind (q := fun vs ds => ∀ i d, ds[i]? = some d → ∃ v, vs[i]? = some v ∧ Val g θ h v d) (fun i _ e => nomatch (List.getElem?_nil (i := i)).symm.trans e) (fun v _ _ _ a _ l i => Nat.rec (fun d e => ⟨v, rfl, Option.some.inj e ▸ a⟩) (fun i _ d e => l i d e) i) x i d e
theorem Vals.get' {g : G} {θ : Th} {h : Heap} {vs : List Value} {ds : List D} (r : Vals g θ h vs ds) {i : Nat} {v : Value} (e : vs[i]? = some v) : ∃ d, ds[i]? = some d ∧ Val g θ h v d := by
  have hi : i < ds.length := by rw [← r.length]; exact (List.getElem?_eq_some_iff.mp e).1
  obtain ⟨v', hv', x⟩ := r.get (List.getElem?_eq_getElem hi)
  rw [e] at hv'; cases hv'
  exact ⟨_, List.getElem?_eq_getElem hi, x⟩
theorem Vals.take {g : G} {θ : Th} {h : Heap} {vs : List Value} {ds : List D} (x : Vals g θ h vs ds) (n : Nat) : Vals g θ h (vs.take n) (ds.take n) :=
  Vals.ind (q := fun vs ds => ∀ n : Nat, Vals g θ h (vs.take n) (ds.take n)) (fun n => Nat.rec .nil (fun _ _ => .nil) n) (fun _ _ _ _ a _ l n => Nat.rec .nil (fun n _ => .cons a (l n)) n) x n
theorem Vals.drop {g : G} {θ : Th} {h : Heap} {vs : List Value} {ds : List D} (x : Vals g θ h vs ds) (n : Nat) : Vals g θ h (vs.drop n) (ds.drop n) :=
  Vals.ind (q := fun vs ds => ∀ n : Nat, Vals g θ h (vs.drop n) (ds.drop n)) (fun n => Nat.rec .nil (fun _ _ => .nil) n) (fun _ _ _ _ a r l n => Nat.rec (.cons a r) (fun n _ => l n) n) x n

/-- a mutable object of the store -/
inductive Has (g : G) (θ : Th) (h : Heap) : Addr × Addr → MO → Prop
  | list {a : Addr} {vs : List Value} {n : Nat} {ds : List D} : h.get? a = some (lstO vs n) → Vals g θ h vs ds → closedAll ds = true → Has g θ h (a, a) (.list ds)
  | acc {a dx : Addr} {vs : List Value} {n : Nat} {ds : List D} {k : Int} {t : Tok} {m : Str → Option Value} : h.get? a = some (accO g.cls dx vs n) → h.Ns1 dx m → m "_initial_size" = some (.int k t) → (∀ y : Str, y ≠ "_initial_size" → m y = none) →
      Vals g θ h vs ds → closedAll ds = true → Has g θ h (a, dx) (.acc k ds)
  | raw {a dx : Addr} {n : Nat} {m : Str → Option Value} : h.get? a = some (accO g.cls dx [] n) → h.Ns1 dx m → (∀ y, m y = none) → Has g θ h (a, dx) .raw

theorem Has.list_inv {g : G} {θ : Th} {h : Heap} {p : Addr × Addr} {ds : List D} (x : Has g θ h p (.list ds)) : ∃ vs n, p.2 = p.1 ∧ h.get? p.1 = some (lstO vs n) ∧ Vals g θ h vs ds ∧ closedAll ds = true := by
  cases x with
  | list e r c => exact ⟨_, _, rfl, e, r, c⟩
theorem Has.acc_inv {g : G} {θ : Th} {h : Heap} {p : Addr × Addr} {k : Int} {ds : List D} (x : Has g θ h p (.acc k ds)) :
    ∃ vs n t m, h.get? p.1 = some (accO g.cls p.2 vs n) ∧ h.Ns1 p.2 m ∧ m "_initial_size" = some (.int k t) ∧ (∀ y : Str, y ≠ "_initial_size" → m y = none) ∧ Vals g θ h vs ds ∧ closedAll ds = true := by
  cases x with
  | acc e n hm ho r c => exact ⟨_, _, _, _, e, n, hm, ho, r, c⟩
theorem Val.ob_inv {g : G} {θ : Th} {h : Heap} {v : Value} {i : Nat} (V : Val g θ h v (.ob i)) : ∃ p, θ[i]? = some p ∧ v = .ref p.1 := by
  cases V with
  | ob e => exact ⟨_, e, rfl⟩
theorem Val.list_inv {g : G} {θ : Th} {h : Heap} {v : Value} {ds : List D} (V : Val g θ h v (.list ds)) : ∃ a vs n, v = .ref a ∧ h.get? a = some (lstO vs n) ∧ a ∉ bad g θ ∧ Vals g θ h vs ds := by
  cases V with
  | list e n r => exact ⟨_, _, _, rfl, e, n, r⟩
theorem Val.tup_inv {g : G} {θ : Th} {h : Heap} {v : Value} {ds : List D} (V : Val g θ h v (.tup ds)) : ∃ a vs n, v = .ref a ∧ h.get? a = some (tupO vs n) ∧ a ∉ bad g θ ∧ Vals g θ h vs ds := by
  cases V with
  | tup e n r => exact ⟨_, _, _, rfl, e, n, r⟩

def Apart (θ : Th) : Prop := θ.Pairwise fun p q => p.1 ≠ q.1 ∧ p.1 ≠ q.2 ∧ p.2 ≠ q.1 ∧ p.2 ≠ q.2

/-- what is known of the ground -/
structure Gd (g : G) : Prop where
  gl : g.hB.Ns mainGlobals g.mg
  bi : g.hB.Ns builtinsNs g.mb
  lim : g.hB.NoLimit
  out : mainGlobals ∉ g.tabs ∧ builtinsNs ∉ g.tabs ∧ cStatics ∉ g.tabs
  low : ∀ b ∈ g.tabs, ∃ o, g.hB.get? b = some o
  kin : g.K.In g.hB
  kout : ∀ a o, g.K.lookup a = some o → a ∉ g.tabs
  tabc : ∀ P ∈ g.tabs, isCodeTable g.hB P
  bmain : ∃ bm ob, g.mg "__builtins__" = some (.ref bm) ∧ bm ≠ builtinsNs ∧ g.hB.get? bm = some ob ∧ ob.cls = .type "module" ∧ ob.dict = some builtinsNs ∧ ob.data = .plain ∧ bm ∉ g.tabs

/-- a code table -/
def TabW (h : Heap) (P : Addr) : Prop := ∃ ps, h.get? P = some { cls := .none, data := .fields ps } ∧ TriplesOk ps.toList
theorem TabW.at {h h' : Heap} {P : Addr} (x : TabW h P) (k : ∀ o, h.get? P = some o → h'.get? P = some o) : TabW h' P := let ⟨ps, e, t⟩ := x; ⟨ps, k _ e, t⟩

/-- the state but for the frame -/
structure Wld (g : G) (θ : Th) (μ : List MO) (s : Shared) : Prop where
  old : OldK g.hB s.heap
  base : ∀ b o, b ∉ g.tabs → g.hB.get? b = some o → s.heap.get? b = some o
  gd : Gd g
  os : s.os = g.os
  gens : AllBare s.gens
  newer : ∀ p ∈ θ, g.hB.get? p.1 = none ∧ g.hB.get? p.2 = none
  apart : Apart θ
  len : θ.length = μ.length
  tab : ∀ P ∈ g.tabs, TabW s.heap P
  has : ∀ (i : Nat) (p : Addr × Addr) (mo : MO), θ[i]? = some p → μ[i]? = some mo → Has g θ s.heap p mo

abbrev En := List (Str × D)

/-- a cell of the frame -/
def Cl (env : Env) (c : Addr) : Prop := ∃ n, env.cells.lookup n = some c
/-- a cell that the frame may turn: a comprehension turns none -/
def Ow (env : Env) (c : Addr) : Prop := env.func.isSome = true ∧ ∃ n, env.cells.lookup n = some c ∧ env.kindOf n = some .cell
theorem Ow.cl {env : Env} {c : Addr} (h : Ow env c) : Cl env c := let ⟨_, n, e, _⟩ := h; ⟨n, e⟩

/-- the frame: what its names hold -/
structure Fra (g : G) (env : Env) (θ : Th) (ρ : En) (h : Heap) : Prop where
  kind : env.scope.kind = .function
  glob : env.globals = mainGlobals ∧ env.builtins = builtinsNs
  locals : ∃ m, h.Ns env.locals m ∧ ∀ x d, ρ.lookup x = some d → env.kindOf x = some .local → ∃ v, m x = some v ∧ Val g θ h v d
  cell : ∀ c, Cl env c → ∃ v, h.IsCell c v
  cval : ∀ x c d, env.cells.lookup x = some c → ρ.lookup x = some d → ∃ u, h.IsCell c (some u) ∧ Val g θ h u d
  apart : ∀ x y c, env.cells.lookup x = some c → env.cells.lookup y = some c → x = y
  newer : g.hB.get? env.locals = none ∧ ∀ c, Cl env c → c ∉ g.tabs
  out : env.locals ∉ adrs θ ∧ ∀ c, Cl env c → c ∉ adrs θ

structure Sta (g : G) (env : Env) (θ : Th) (ρ : En) (μ : List MO) (s : Shared) : Prop where
  W : Wld g θ μ s
  F : Fra g env θ ρ s.heap

/-- room for k calls, one in another -/
structure Fit (k : Nat) (A : Around) : Prop where
  handled : A.handled = none
  depth : A.depth + k < recursionLimit
  units : A.units + 8 * k + 80 < cLine

theorem Fit.in1 {k : Nat} {A : Around} (f : Fit (k + 1) A) : Fit k A.in1 := ⟨f.handled, by have := f.depth; show A.depth + k < _; lia, by have := f.units; show A.units + 1 + 8 * k + 80 < _; lia⟩
theorem Fit.deeper {k : Nat} {A : Around} {env : Env} (f : Fit (k + 1) A) : Fit k (A.deeper env) := ⟨f.handled, by have := f.depth; show A.depth + 1 + k < _; lia, by have := f.units; show A.units + 3 + 8 * k + 80 < _; lia⟩

theorem notTab {g : G} {θ : Th} (gd : Gd g) {a : Addr} (h : g.hB.get? a = none) (k : a ∉ adrs θ) : a ∉ bad g θ := fun m => by
  rcases List.mem_append.mp m with q | q
  · obtain ⟨o, e⟩ := gd.low a q
    rw [h] at e; cases e
  · exact k q

theorem Fra.lat {g : G} {env : Env} {θ θ' : Th} {ρ : En} {μ : List MO} {s s' : Shared} (W : Wld g θ μ s) (F : Fra g env θ ρ s.heap) (l : Lat g θ s θ' s') : Fra g env θ' ρ s'.heap := by
  obtain ⟨m, hn, hm⟩ := F.locals
  obtain ⟨t, ht, hn'⟩ := l.pre
  have hL : env.locals ∉ bad g θ := notTab W.gd F.newer.1 F.out.1
  have hC : ∀ c, Cl env c → c ∉ bad g θ := fun c hc m => (List.mem_append.mp m).elim (F.newer.2 c hc) (F.out.2 c hc)
  refine ⟨F.kind, F.glob, ⟨m, hn.at' fun o e => l.keep _ o hL e, fun x d e k => ?_⟩, fun c hc => ?_, fun x c d hc e => ?_, F.apart, F.newer, ?_⟩
  · obtain ⟨v, hv, r⟩ := hm x d e k
    exact ⟨v, hv, r.lat l⟩
  · obtain ⟨v, o, ho, hd⟩ := F.cell c hc
    exact ⟨v, o, l.keep _ o (hC c hc) ho, hd⟩
  · obtain ⟨u, ⟨o, ho, hd⟩, r⟩ := F.cval x c d hc e
    exact ⟨u, ⟨o, l.keep _ o (hC _ ⟨x, hc⟩) ho, hd⟩, r.lat l⟩
  · subst ht
    obtain ⟨oL, _, _, zq⟩ := id hn
    have hoL := zq.1
    replace zq := zq.2
    clear zq
    refine ⟨adrs_more hoL F.out.1 hn', fun c hc => ?_⟩
    obtain ⟨v, o, ho, hd⟩ := F.cell c hc
    exact adrs_more ho (F.out.2 c hc) hn'

/-- a step that keeps every object and the rest of the world -/
theorem Wld.keeps {g : G} {θ : Th} {μ : List MO} {s s' : Shared} (W : Wld g θ μ s) (k : ∀ b o, s.heap.get? b = some o → s'.heap.get? b = some o) (hg : AllBare s'.gens) (ho : s'.os = s.os) : Wld g θ μ s' := by
  have l : Lat g θ s θ s' := .ofKeeps k
  refine ⟨W.old.step_keeps k, fun b o nb e => k _ _ (W.base b o nb e), W.gd, ho.trans W.os, hg, W.newer, W.apart, W.len, fun P hP => (W.tab P hP).at fun o e => k _ o e, fun i p mo e e' => ?_⟩
  cases W.has i p mo e e' with
  | list h r c => exact .list (k _ _ h) (r.lat l) c
  | acc h n hm ho r c => exact .acc (k _ _ h) (n.keeps k) hm ho (r.lat l) c
  | raw h n hm => exact .raw (k _ _ h) (n.keeps k) hm
theorem Wld.tok {g : G} {θ : Th} {μ : List MO} {s : Shared} (W : Wld g θ μ s) (n : Nat) : Wld g θ μ { s with toks := n } := W.keeps (fun _ _ e => e) W.gens rfl
theorem Wld.push {g : G} {θ : Th} {μ : List MO} {s : Shared} (W : Wld g θ μ s) (o : Obj) : Wld g θ μ { s with heap := s.heap.push o } :=
  W.keeps (fun _ _ e => Heap.get?_push_of_some _ e) W.gens rfl
theorem Lat.push {g : G} {θ : Th} {s : Shared} (o : Obj) : Lat g θ s θ { s with heap := s.heap.push o } :=
  .ofKeeps (fun _ _ e => Heap.get?_push_of_some _ e)
theorem Wld.gl {g : G} {θ : Th} {μ : List MO} {s : Shared} (W : Wld g θ μ s) : s.heap.Ns mainGlobals g.mg := W.gd.gl.at' fun o e => W.base _ o W.gd.out.1 e
theorem Wld.bi {g : G} {θ : Th} {μ : List MO} {s : Shared} (W : Wld g θ μ s) : s.heap.Ns builtinsNs g.mb := W.gd.bi.at' fun o e => W.base _ o W.gd.out.2.1 e
theorem Wld.lim {g : G} {θ : Th} {μ : List MO} {s : Shared} (W : Wld g θ μ s) : s.heap.NoLimit :=
  let ⟨mc, h1, h2⟩ := W.gd.lim; ⟨mc, h1.at' fun o e => W.base _ o W.gd.out.2.2 e, h2⟩
theorem Wld.kin {g : G} {θ : Th} {μ : List MO} {s : Shared} (W : Wld g θ μ s) : g.K.In s.heap := fun a o e => W.base a o (W.gd.kout a o e) (W.gd.kin a o e)
theorem Has.lt {g : G} {θ : Th} {h : Heap} {p : Addr × Addr} {mo : MO} (x : Has g θ h p mo) : (∃ o, h.get? p.1 = some o) ∧ ∃ o, h.get? p.2 = some o := by
  cases x with
  | list e _ _ => exact ⟨⟨_, e⟩, ⟨_, e⟩⟩
  | acc e n _ _ _ _ => obtain ⟨o, _, _, zq⟩ := n; have h := zq.1; replace zq := zq.2; clear zq; exact ⟨⟨_, e⟩, ⟨_, h⟩⟩
  | raw e n _ => obtain ⟨o, _, _, h, _⟩ := n; exact ⟨⟨_, e⟩, ⟨_, h⟩⟩
theorem Wld.lt {g : G} {θ : Th} {μ : List MO} {s : Shared} (W : Wld g θ μ s) : ∀ p ∈ θ, (∃ o, s.heap.get? p.1 = some o) ∧ ∃ o, s.heap.get? p.2 = some o := by
  intro p hp
  obtain ⟨i, hi, e⟩ := List.getElem_of_mem hp
  have hi' : i < μ.length := W.len ▸ hi
  exact (W.has i p _ (by rw [List.getElem?_eq_getElem hi, e]) (List.getElem?_eq_getElem hi')).lt
theorem fresh_adrs {g : G} {θ : Th} {μ : List MO} {s : Shared} (W : Wld g θ μ s) {a : Addr} (h : s.heap.get? a = none) : a ∉ adrs θ := by
  intro q
  obtain ⟨p, hp, e⟩ := mem_adrs.mp q
  obtain ⟨⟨o1, h1⟩, ⟨o2, h2⟩⟩ := W.lt p hp
  rcases e with rfl | rfl
  · cases (h).symm.trans h1
  · rw [h] at h2; cases h2
theorem fresh_base {g : G} {θ : Th} {μ : List MO} {s : Shared} (W : Wld g θ μ s) {a : Addr} (h : s.heap.get? a = none) : g.hB.get? a = none := by
  cases q : g.hB.get? a with
  | none => rfl
  | some o => obtain ⟨o', e⟩ := W.old.there a o q; rw [h] at e; cases e
theorem fresh_bad {g : G} {θ : Th} {μ : List MO} {s : Shared} (W : Wld g θ μ s) {a : Addr} (h : s.heap.get? a = none) : a ∉ bad g θ :=
  notTab W.gd (fresh_base W h) (fresh_adrs W h)
theorem get_size (h : Heap) : h.get? h.objs.size = none := by
  cases q : h.get? h.objs.size with
  | none => rfl
  | some o => exact absurd (Heap.lt_size q) (Nat.lt_irrefl _)

/-- an expression's value, by what its evaluation does to the store -/
def Ev (g : G) (k : Nat) (env : Env) (ρ : En) (μ : List MO) (e : Expr) (d : D) (μ' : List MO) : Prop :=
  ∀ (A : Around) (θ : Th) (s : Shared) (Q : Value → Shared → Prop) (E : Value → Shared → Prop), Fit k A → Sta g env θ ρ μ s →
    (∀ v θ' s', Lat g θ s θ' s' → Wld g θ' μ' s' → Val g θ' s'.heap v d → Q v s') → wpAny g.M A (eval e env) Q E s

/-- a tree that yields a value of known data, the store unchanged -/
def Op (g : G) (k : Nat) (c : D) (t : Value → Value → Sem Value) (a b : D) : Prop :=
  ∀ (A : Around) (θ : Th) (μ : List MO) (s : Shared) (va vb : Value) (Q : Value → Shared → Prop) (E : Value → Shared → Prop), Fit k A → Wld g θ μ s → Val g θ s.heap va a → Val g θ s.heap vb b →
    (∀ v s', Lat g θ s θ s' → Wld g θ μ s' → Val g θ s'.heap v c → Q v s') → wpAny g.M A (t va vb) Q E s

section
variable {g : G} {k : Nat} {env : Env} {ρ : En} {μ μ₁ μ₂ : List MO}

theorem Sta.lat {θ θ' : Th} {s s' : Shared} (S : Sta g env θ ρ μ s) (l : Lat g θ s θ' s') (W : Wld g θ' μ₁ s') : Sta g env θ' ρ μ₁ s' := ⟨W, S.F.lat S.W l⟩

theorem Ev.bin {l r : Expr} {op : Operator} {p : Pos} {a b c : D} (h1 : Ev g k env ρ μ l a μ₁) (h2 : Ev g k env ρ μ₁ r b μ₂) (h3 : Op g k c (binaryOp op) a b) : Ev g k env ρ μ (.BinOp l op r p) c μ₂ := by
  intro A θ s Q E f S q
  refine wpAny_BinOp (h1 A θ s _ E f S fun va θ₁ s₁ l₁ W₁ V₁ => h2 A θ₁ s₁ _ E f (S.lat l₁ W₁) fun vb θ₂ s₂ l₂ W₂ V₂ => ?_)
  exact h3 A θ₂ μ₂ s₂ va vb Q E f W₂ (V₁.lat l₂) V₂ fun v s' l' W' V' => q v θ₂ s' ((l₁.trans l₂).trans l') W' V'

theorem Ev.cmp {l r : Expr} {op : CmpOp} {p : Pos} {a b c : D} (h1 : Ev g k env ρ μ l a μ₁) (h2 : Ev g k env ρ μ₁ r b μ₂) (h3 : Op g k c (compareOp op) a b) (hm : behindInMarks op r = false := by with_unfolding_all rfl) : Ev g k env ρ μ (.Compare l [op] [r] p) c μ₂ := by
  intro A θ s Q E f S q
  refine wpAny_Compare1 (h1 A θ s _ E f S fun va θ₁ s₁ l₁ W₁ V₁ => h2 A θ₁ s₁ _ E f (S.lat l₁ W₁) fun vb θ₂ s₂ l₂ W₂ V₂ => ?_) hm
  exact h3 A θ₂ μ₂ s₂ va vb Q E f W₂ (V₁.lat l₂) V₂ fun v s' l' W' V' => q v θ₂ s' ((l₁.trans l₂).trans l') W' V'

theorem Ev.int {i : Int} {n : Nat} {p : Pos} : Ev g k env ρ μ (.Constant (.int i) n p) (.int i) μ := fun _ θ s _ _ _ S q =>
  wpAny_Constant_int (q _ θ _ (Lat.refl g θ s).toks (S.W.tok _) (.int _ _))
theorem Ev.str {x : Str} {n : Nat} {p : Pos} : Ev g k env ρ μ (.Constant (.str x) n p) (.str x) μ := fun _ θ s _ _ _ S q =>
  wpAny_Constant_str (q _ θ _ (Lat.refl g θ s).toks (S.W.tok _) (.str _ _))
theorem Ev.bool {b : Bool} {n : Nat} {p : Pos} : Ev g k env ρ μ (.Constant (.bool b) n p) (.bool b) μ := fun _ θ s _ _ _ S q =>
  wpAny_Constant_bool (q _ θ _ (Lat.refl g θ s) S.W (.bool _))
theorem Ev.nul {n : Nat} {p : Pos} : Ev g k env ρ μ (.Constant .none n p) .none μ := fun _ θ s _ _ _ S q =>
  wpAny_Constant_none (q _ θ _ (Lat.refl g θ s) S.W .none)

theorem Ev.local {x : Str} {p : Pos} {d : D} (h : ρ.lookup x = some d) (hk : env.kindOf x = some .local) (hd : (x == ("__debug__" : Str)) = false) : Ev g k env ρ μ (.Name x p) d μ := fun A θ s Q E _ S q => by
  obtain ⟨m, hn, hm⟩ := S.F.locals
  obtain ⟨v, hv, V⟩ := hm x d h hk
  exact wpAny_Name (wpAny_loadName_local S.F.kind hk hn hv (q v θ s (.refl ..) S.W V)) hd
theorem Ev.cell {x : Str} {p : Pos} {d : D} {c : Addr} (h : ρ.lookup x = some d) (hk : env.kindOf x = some .cell) (hc : env.cells.lookup x = some c) (hd : (x == ("__debug__" : Str)) = false) : Ev g k env ρ μ (.Name x p) d μ := fun A θ s Q E _ S q => by
  obtain ⟨u, hu, V⟩ := S.F.cval x c d hc h
  exact wpAny_Name (wpAny_loadName_cell S.F.kind hk hc hu (q u θ s (.refl ..) S.W V)) hd

theorem Op.add {a b : Int} : Op g k (.int (a + b)) (binaryOp .Add) (.int a) (.int b) := by
  intro A θ μ s va vb Q E _ W V1 V2 q
  cases V1; cases V2
  exact add_int (q _ _ (Lat.refl g θ s).toks (W.tok _) (.int _ _))
theorem Op.sub {a b : Int} : Op g k (.int (a - b)) (binaryOp .Sub) (.int a) (.int b) := by
  intro A θ μ s va vb Q E _ W V1 V2 q
  cases V1; cases V2
  exact sub_int (q _ _ (Lat.refl g θ s).toks (W.tok _) (.int _ _))
theorem Op.mod {a b : Int} (hb : b ≠ 0) : Op g k (.int (Int.fmod a b)) (binaryOp .Mod) (.int a) (.int b) := by
  intro A θ μ s va vb Q E _ W V1 V2 q
  cases V1; cases V2
  exact mod_int' hb (q _ _ (Lat.refl g θ s).toks (W.tok _) (.int _ _))
theorem Op.div {a b : Int} (hb : b ≠ 0) (hp : Builtin.divisionGoesByPylong a b = false) : Op g k (.int (Int.fdiv a b)) (binaryOp .FloorDiv) (.int a) (.int b) := by
  intro A θ μ s va vb Q E _ W V1 V2 q
  cases V1; cases V2
  exact floordiv_int hb (q _ _ (Lat.refl g θ s).toks (W.tok _) (.int _ _)) (.inl hp)
theorem Op.mul {a b : Int} (hb : IntMulOk a b) : Op g k (.int (a * b)) (binaryOp .Mult) (.int a) (.int b) := by
  intro A θ μ s va vb Q E _ W V1 V2 q
  cases V1; cases V2
  exact mul_int (q _ _ (Lat.refl g θ s).toks (W.tok _) (.int _ _)) hb
end
end Mine
end

-- part F2
section
namespace Mine
open PySem PySem.W PyProof.Rows

/-- a test -/
def Te (g : G) (k : Nat) (env : Env) (ρ : En) (μ : List MO) (e : Expr) (b : Bool) (μ' : List MO) : Prop :=
  ∀ (A : Around) (θ : Th) (s : Shared) (Q : Bool → Shared → Prop) (E : Value → Shared → Prop), Fit k A → Sta g env θ ρ μ s →
    (∀ θ' s', Lat g θ s θ' s' → Wld g θ' μ' s' → Q b s') → wpAny g.M A (isTrue e env (eval e env)) Q E s
def Al (g : G) (k : Nat) (env : Env) (ρ : En) (μ : List MO) (op : BoolOp) (es : List Expr) (b : Bool) (μ' : List MO) : Prop :=
  ∀ (A : Around) (θ : Th) (s : Shared) (Q : Bool → Shared → Prop) (E : Value → Shared → Prop), Fit k A → Sta g env θ ρ μ s →
    (∀ θ' s', Lat g θ s θ' s' → Wld g θ' μ' s' → Q b s') → wpAny g.M A (allTrue op es env) Q E s
/-- expressions one behind the other -/
def Evs (g : G) (k : Nat) (env : Env) (ρ : En) (μ : List MO) (es : List Expr) (ds : List D) (μ' : List MO) : Prop :=
  ∀ (A : Around) (θ : Th) (s : Shared) (p : Pos) (Q : List Value → Shared → Prop) (E : Value → Shared → Prop), Fit k A → Sta g env θ ρ μ s →
    (∀ vs θ' s', Lat g θ s θ' s' → Wld g θ' μ' s' → Vals g θ' s'.heap vs ds → Q vs s') → wpAny g.M A (spliced (backTo p (starEach es env))) Q E s

section
variable {g : G} {k : Nat} {env : Env} {ρ : En} {μ μ₁ μ₂ μ₃ : List MO}

theorem Te.cmp {l r : Expr} {op : CmpOp} {p : Pos} {a b : D} {c : Bool} (h1 : Ev g k env ρ μ l a μ₁) (h2 : Ev g k env ρ μ₁ r b μ₂) (h3 : Op g k (.bool c) (compareOp op) a b) (hm : behindInMarks op r = false := by with_unfolding_all rfl) : Te g k env ρ μ (.Compare l [op] [r] p) c μ₂ := by
  intro A θ s Q E f S q
  refine wpAny_isTrue_Compare1 (h1 A θ s _ E f S fun va θ₁ s₁ l₁ W₁ V₁ => h2 A θ₁ s₁ _ E f (S.lat l₁ W₁) fun vb θ₂ s₂ l₂ W₂ V₂ => ?_) hm
  refine h3 A θ₂ μ₂ s₂ va vb _ E f W₂ (V₁.lat l₂) V₂ fun v s' l' W' V' => ?_
  cases V'
  exact wpAny_truthy_bool (q θ₂ s' ((l₁.trans l₂).trans l') W')
theorem Te.val {e : Expr} {b : Bool} (h : Ev g k env ρ μ e (.bool b) μ₁) (he : ∀ whole : Sem Value, isTrue e env whole = (do let v ← whole; standAt e.pos; holding [v] (truthy v)) := by intro _; rfl) : Te g k env ρ μ e b μ₁ := by
  intro A θ s Q E f S q
  refine wpAny_isTrue_value (h A θ s _ E f S fun v θ₁ s₁ l₁ W₁ V₁ => ?_) (he _)
  cases V₁
  exact wpAny_truthy_bool (q θ₁ s₁ l₁ W₁)
theorem Te.not {e : Expr} {b : Bool} {p : Pos} (h : Te g k env ρ μ e b μ₁) : Te g k env ρ μ (.UnaryOp .Not e p) (!b) μ₁ := fun A θ s Q E f S q =>
  wpAny_isTrue_Not (h A θ s _ E f S q)
theorem Te.bop {op : BoolOp} {es : List Expr} {p : Pos} {b : Bool} (h : Al g k env ρ μ op es b μ₁) : Te g k env ρ μ (.BoolOp op es p) b μ₁ := fun A θ s Q E f S q =>
  wpAny_isTrue_BoolOp (h A θ s Q E f S q)
theorem Al.or_nil : Al g k env ρ μ .Or [] false μ := fun A θ s Q E _ S q => wpAny_allTrue_Or_nil (q θ s (.refl ..) S.W)
theorem Al.and_nil : Al g k env ρ μ .And [] true μ := fun A θ s Q E _ S q => wpAny_allTrue_And_nil (q θ s (.refl ..) S.W)
theorem Al.or_f {e : Expr} {es : List Expr} {b : Bool} (h1 : Te g k env ρ μ e false μ₁) (h2 : Al g k env ρ μ₁ .Or es b μ₂) : Al g k env ρ μ .Or (e :: es) b μ₂ := fun A θ s Q E f S q =>
  wpAny_allTrue_Or_cons (h1 A θ s _ E f S fun θ₁ s₁ l₁ W₁ => by
    skip
    exact h2 A θ₁ s₁ Q E f (S.lat l₁ W₁) fun θ₂ s₂ l₂ W₂ => q θ₂ s₂ (l₁.trans l₂) W₂)
theorem Al.and_t {e : Expr} {es : List Expr} {b : Bool} (h1 : Te g k env ρ μ e true μ₁) (h2 : Al g k env ρ μ₁ .And es b μ₂) : Al g k env ρ μ .And (e :: es) b μ₂ := fun A θ s Q E f S q =>
  wpAny_allTrue_And_cons (h1 A θ s _ E f S fun θ₁ s₁ l₁ W₁ => by
    skip
    exact h2 A θ₁ s₁ Q E f (S.lat l₁ W₁) fun θ₂ s₂ l₂ W₂ => q θ₂ s₂ (l₁.trans l₂) W₂)
theorem Al.and_f {e : Expr} {es : List Expr} (h1 : Te g k env ρ μ e false μ₁) : Al g k env ρ μ .And (e :: es) false μ₁ := fun A θ s Q E f S q =>
  wpAny_allTrue_And_cons (h1 A θ s _ E f S fun θ₁ s₁ l₁ W₁ => by
    skip
    exact q θ₁ s₁ l₁ W₁)

theorem Ev.and2 {e₁ e₂ : Expr} {p : Pos} {a b : Bool} (h1 : Ev g k env ρ μ e₁ (.bool a) μ) (h2 : a = true → Ev g k env ρ μ e₂ (.bool b) μ) : Ev g k env ρ μ (.BoolOp .And [e₁, e₂] p) (.bool (a && b)) μ := by
  intro A θ s Q E f S q
  refine wpAny_And2 (h1 A θ s _ E f S fun v θ₁ s₁ l₁ W₁ V₁ => ?_)
  cases V₁
  refine wpAny_truthy_bool ?_
  cases a with
  | true =>
    skip
    exact h2 rfl A θ₁ s₁ Q E f (S.lat l₁ W₁) fun v θ₂ s₂ l₂ W₂ V₂ => q v θ₂ s₂ (l₁.trans l₂) W₂ V₂
  | false =>
    skip
    exact q _ θ₁ s₁ l₁ W₁ (.bool _)
theorem Ev.or2 {e₁ e₂ : Expr} {p : Pos} {a b : Bool} (h1 : Ev g k env ρ μ e₁ (.bool a) μ) (h2 : a = false → Ev g k env ρ μ e₂ (.bool b) μ) : Ev g k env ρ μ (.BoolOp .Or [e₁, e₂] p) (.bool (a || b)) μ := by
  intro A θ s Q E f S q
  refine wpAny_Or2 (h1 A θ s _ E f S fun v θ₁ s₁ l₁ W₁ V₁ => ?_)
  cases V₁
  refine wpAny_truthy_bool ?_
  cases a with
  | false =>
    skip
    exact h2 rfl A θ₁ s₁ Q E f (S.lat l₁ W₁) fun v θ₂ s₂ l₂ W₂ V₂ => q v θ₂ s₂ (l₁.trans l₂) W₂ V₂
  | true =>
    skip
    exact q _ θ₁ s₁ l₁ W₁ (.bool _)
theorem Ev.ite {t e₁ e₂ : Expr} {p : Pos} {b : Bool} {d : D} (h1 : Te g k env ρ μ t b μ₁) (h2 : if b = true then Ev g k env ρ μ₁ e₁ d μ₂ else Ev g k env ρ μ₁ e₂ d μ₂) : Ev g k env ρ μ (.IfExp t e₁ e₂ p) d μ₂ := by
  intro A θ s Q E f S q
  refine wpAny_IfExp (h1 A θ s _ E f S fun θ₁ s₁ l₁ W₁ => ?_)
  cases b with
  | true =>
    simp only [if_true] at h2 ⊢
    exact h2 A θ₁ s₁ Q E f (S.lat l₁ W₁) fun v θ₂ s₂ l₂ W₂ V₂ => q v θ₂ s₂ (l₁.trans l₂) W₂ V₂
  | false =>
    simp only [Bool.false_eq_true, if_false] at h2 ⊢
    exact h2 A θ₁ s₁ Q E f (S.lat l₁ W₁) fun v θ₂ s₂ l₂ W₂ V₂ => q v θ₂ s₂ (l₁.trans l₂) W₂ V₂

theorem Evs.nil : Evs g k env ρ μ [] [] μ := fun A θ s p Q E _ S q => spliced_none (q [] θ s (.refl ..) S.W .nil)
theorem Evs.cons {e : Expr} {es : List Expr} {d : D} {ds : List D} (h1 : Ev g k env ρ μ e d μ₁) (h2 : Evs g k env ρ μ₁ es ds μ₂) (hs : starEach (e :: es) env = (false, eval e env) :: starEach es env := by rfl) : Evs g k env ρ μ (e :: es) (d :: ds) μ₂ := fun A θ s p Q E f S q =>
  spliced_more (h1 A θ s _ E f S fun v θ₁ s₁ l₁ W₁ V₁ => h2 A θ₁ s₁ p _ E f (S.lat l₁ W₁) fun vs θ₂ s₂ l₂ W₂ V₂ => q (v :: vs) θ₂ s₂ (l₁.trans l₂) W₂ (.cons (V₁.lat l₂) V₂)) hs

theorem new_list {θ : Th} {s : Shared} {vs : List Value} {ds : List D} (W : Wld g θ μ s) (V : Vals g θ s.heap vs ds) : Val g θ (s.heap.push (lstO vs 0)) (.ref s.heap.objs.size) (.list ds) :=
  .list (n := 0) (Heap.get?_push_size _ rfl) (fresh_bad W (get_size _)) (V.lat (s' := { s with heap := s.heap.push (lstO vs 0) }) (Lat.push _))
theorem new_tup {θ : Th} {s : Shared} {vs : List Value} {ds : List D} (W : Wld g θ μ s) (V : Vals g θ s.heap vs ds) : Val g θ (s.heap.push (tupO vs 0)) (.ref s.heap.objs.size) (.tup ds) :=
  .tup (n := 0) (Heap.get?_push_size _ rfl) (fresh_bad W (get_size _)) (V.lat (s' := { s with heap := s.heap.push (tupO vs 0) }) (Lat.push _))

theorem Ev.list {es : List Expr} {ds : List D} {p : Pos} (h : Evs g k env ρ μ es ds μ₁) (hz : ds.length ≤ sizeLine) : Ev g k env ρ μ (.List es p) (.list ds) μ₁ := fun A θ s Q E f S q =>
  wpAny_List (h A θ s p _ E f S fun vs θ₁ s₁ l₁ W₁ V₁ => ⟨V₁.length ▸ hz, q _ θ₁ _ (l₁.trans (Lat.push _)) (W₁.push _) (new_list W₁ V₁)⟩)
theorem Ev.tup {es : List Expr} {ds : List D} {n : Nat} {p : Pos} (h : Evs g k env ρ μ es ds μ₁) (hz : ds.length ≤ sizeLine) : Ev g k env ρ μ (.Tuple es n p) (.tup ds) μ₁ := fun A θ s Q E f S q =>
  wpAny_Tuple (h A θ s p _ E f S fun vs θ₁ s₁ l₁ W₁ V₁ => ⟨V₁.length ▸ hz, q _ θ₁ _ (l₁.trans (Lat.push _)) (W₁.push _) (new_tup W₁ V₁)⟩)

/-- subscript by an int -/
theorem Ev.item_list {value slice : Expr} {p : Pos} {ds : List D} {i : Int} {d : D} (h1 : Ev g k env ρ μ value (.list ds) μ₁) (h2 : Ev g k env ρ μ₁ slice (.int i) μ₂) (h0 : 0 ≤ i) (hi : i < 2 ^ 63) (hd : ds[i.toNat]? = some d)
    (hs : ∀ o j : Value, subscripted slice false o j = operate [o, j] (getItem o j) := by intro _ _; rfl) : Ev g k env ρ μ (.Subscript value slice p) d μ₂ := by
  intro A θ s Q E f S q
  refine Subscript_ (h1 A θ s _ E f S fun va θ₁ s₁ l₁ W₁ V₁ => h2 A θ₁ s₁ _ E f (S.lat l₁ W₁) fun vb θ₂ s₂ l₂ W₂ V₂ => ?_)
  have V₁' := V₁.lat l₂
  cases V₂ with
  | int _ t =>
  cases V₁' with
  | list e nb r =>
    rename_i a vs n
    obtain ⟨v, hv, V⟩ := r.get hd
    have hl : s₂.heap.IsList a vs.toArray := ⟨_, e, rfl, _, rfl⟩
    exact tail_any hl.typeIs slot_list_getitem.lookup (wpAny_getItem_list hl h0 hi (by simpa using hv) (q v θ₂ s₂ (l₁.trans l₂) W₂ V)) (hs _ _)
theorem Ev.item_tup {value slice : Expr} {p : Pos} {ds : List D} {i : Int} {d : D} (h1 : Ev g k env ρ μ value (.tup ds) μ₁) (h2 : Ev g k env ρ μ₁ slice (.int i) μ₂) (h0 : 0 ≤ i) (hi : i < 2 ^ 63) (hd : ds[i.toNat]? = some d)
    (hs : ∀ o j : Value, subscripted slice false o j = operate [o, j] (getItem o j) := by intro _ _; rfl) : Ev g k env ρ μ (.Subscript value slice p) d μ₂ := by
  intro A θ s Q E f S q
  refine Subscript_ (h1 A θ s _ E f S fun va θ₁ s₁ l₁ W₁ V₁ => h2 A θ₁ s₁ _ E f (S.lat l₁ W₁) fun vb θ₂ s₂ l₂ W₂ V₂ => ?_)
  have V₁' := V₁.lat l₂
  cases V₂ with
  | int _ t =>
  cases V₁' with
  | tup e nb r =>
    rename_i a vs n
    obtain ⟨v, hv, V⟩ := r.get hd
    have hl : IsTup s₂.heap a vs.toArray := ⟨_, e, rfl, _, rfl⟩
    have hlt : i.toNat < vs.length := (List.getElem?_eq_some_iff.mp hv).1
    refine item_tupleT (l := vs) (j := i.toNat) hl (by lia) hi ?_ hv (q v θ₂ s₂ (l₁.trans l₂) W₂ V) (hs _ _)
    unfold seqIndex?
    simp only
    first
      | (rw [if_neg (by lia)]; simp; lia)
      | (split <;> simp_all <;> lia)
end
end Mine
end

-- part F3
section
namespace Mine
open PySem PySem.W PyProof.Rows

abbrev iL (ns : List Int) : List D := ns.map D.int

/-- a call of a built-in upon values, the store unchanged -/
def Bi (g : G) (k : Nat) (μ : List MO) (f : Value) (ds : List D) (d : D) : Prop :=
  ∀ (A : Around) (θ : Th) (s : Shared) (vs : List Value) (Q : Value → Shared → Prop) (E : Value → Shared → Prop), Fit k A → Wld g θ μ s → Vals g θ s.heap vs ds →
    (∀ v s', Lat g θ s θ s' → Wld g θ μ s' → Val g θ s'.heap v d → Q v s') → wpAny g.M A (call f vs) Q E s

section
variable {g : G} {k : Nat} {env : Env} {ρ : En} {μ μ₁ μ₂ μ₃ : List MO}

theorem Vals.ints {θ : Th} {h : Heap} : ∀ {vs : List Value} {ns : List Int}, Vals g θ h vs (iL ns) → IntsAre vs ns
  | _, [], .nil => .nil
  | _, _ :: _, .cons a r => by cases a; exact .cons _ _ (Vals.ints r)

theorem global_builtin {A : Around} {θ : Th} {s : Shared} {x : Str} {p : Pos} {v : Value} {Q : Value → Shared → Prop} {E : Value → Shared → Prop} (S : Sta g env θ ρ μ s) (hk : env.kindOf x = some .globalImplicit) (hm : g.mg x = none) (hb : g.mb x = some v) (hd : (x == ("__debug__" : Str)) = false) (h : Q v s) :
    wpAny g.M A (eval (.Name x p) env) Q E s :=
  Calls.Name_function_global S.F.kind hk (Calls.loadGlobal_builtin (by rw [S.F.glob.1]; exact S.W.gl) hm (by rw [S.F.glob.2]; exact S.W.bi) hb h) hd
theorem global_own {A : Around} {θ : Th} {s : Shared} {x : Str} {p : Pos} {v : Value} {Q : Value → Shared → Prop} {E : Value → Shared → Prop} (S : Sta g env θ ρ μ s) (hk : env.kindOf x = some .globalImplicit) (hm : g.mg x = some v) (hd : (x == ("__debug__" : Str)) = false) (h : Q v s) :
    wpAny g.M A (eval (.Name x p) env) Q E s :=
  Calls.Name_function_global S.F.kind hk (Calls.loadGlobal_global (by rw [S.F.glob.1]; exact S.W.gl) hm h) hd

theorem plain_backTo {pos : Pos} : ∀ {l : List (Bool × Sem Value)}, (l.any (·.1)) = false → (backTo pos l).any (·.1) = false
  | [], _ => rfl
  | (b, t) :: r, h => by
    simp only [List.any_cons, Bool.or_eq_false_iff] at h
    show (b || (backTo pos r).any (·.1)) = false
    rw [h.1, plain_backTo h.2]; rfl

/-- a built-in called by its name, with arguments -/
theorem Ev.callB {x : Str} {np pos : Pos} {e : Expr} {es : List Expr} {ds : List D} {d : D} {id : String} (hk : env.kindOf x = some .globalImplicit) (hm : g.mg x = none) (hb : g.mb x = some (.builtin id)) (h1 : Evs g k env ρ μ (e :: es) ds μ₁) (h2 : Bi g k μ₁ (.builtin id) ds d)
    (hd : (x == ("__debug__" : Str)) = false := by decide) (hs : starEach (e :: es) env = (false, eval e env) :: starEach es env := by rfl) (hp : ((starEach es env).any (·.1)) = false := by rfl) :
    Ev g k env ρ μ (.Call (.Name x np) (e :: es) [] pos) d μ₁ := by
  intro A θ s Q E f S q
  refine wpAny_Call_NameR (global_builtin S hk hm hb hd ?_)
  refine Calls.callWith_builtin (by rw [hs]; exact plain_backTo (l := (false, eval e env) :: starEach es env) hp) ?_
  have hb' : backTo pos (starEach (e :: es) env) = (false, eval e env) :: backTo pos (starEach es env) := by rw [hs]; rfl
  rw [hb']
  refine Calls.evalArgs_plain ?_
  rw [← hb']
  exact h1 A θ s pos _ E f S fun vs θ₁ s₁ l₁ W₁ V₁ => h2 A θ₁ s₁ vs Q E f W₁ V₁ fun v s' l' W' V' => q v θ₁ s' (l₁.trans l') W' V'
theorem Ev.callT {x : Str} {np pos : Pos} {e : Expr} {es : List Expr} {ds : List D} {d : D} {T : String} (hk : env.kindOf x = some .globalImplicit) (hm : g.mg x = none) (hb : g.mb x = some (.type T)) (h1 : Evs g k env ρ μ (e :: es) ds μ₁) (h2 : Bi g k μ₁ (.type T) ds d)
    (hd : (x == ("__debug__" : Str)) = false := by decide) (hs : starEach (e :: es) env = (false, eval e env) :: starEach es env := by rfl) (hp : ((starEach es env).any (·.1)) = false := by rfl) :
    Ev g k env ρ μ (.Call (.Name x np) (e :: es) [] pos) d μ₁ := by
  intro A θ s Q E f S q
  refine wpAny_Call_NameR (global_builtin S hk hm hb hd ?_)
  refine Pv.callWith_type1 (h1 A θ s pos _ E f S fun vs θ₁ s₁ l₁ W₁ V₁ => h2 A θ₁ s₁ vs Q E f W₁ V₁ fun v s' l' W' V' => q v θ₁ s' (l₁.trans l') W' V') hs (plain_backTo hp)

theorem Bi.len_list {ds : List D} (hz : ds.length ≤ sizeLine) : Bi g k μ (.builtin "len") [.list ds] (.int ds.length) := by
  intro A θ s vs Q E f W V q
  cases V with
  | cons V r =>
    cases r
    cases V with
    | list e nb r =>
      rename_i a us n
      have hl : s.heap.IsList a us.toArray := ⟨_, e, rfl, _, rfl⟩
      rw [sizeLine_eq] at hz
      have hlen := r.length
      refine Calls.call_len_list hl (by simp; lia) ?_
      have e2 : ((us.toArray.size : Nat) : Int) = (ds.length : Int) := by simp [hlen]
      rw [e2]
      exact q _ _ ((Lat.refl g θ s).toks) (W.tok _) (.int _ _)
theorem Bi.len_str {x : Str} (hz : x.length ≤ sizeLine) : Bi g k μ (.builtin "len") [.str x] (.int x.length) := by
  intro A θ s vs Q E f W V q
  cases V with
  | cons V r =>
    cases r
    cases V
    rw [sizeLine_eq] at hz
    exact P.len_str (by lia) (q _ _ ((Lat.refl g θ s).toks) (W.tok _) (.int _ _))
/-- a list of the store -/
theorem Bi.len_mut {i : Nat} {ds : List D} (hi : μ[i]? = some (.list ds)) (hz : ds.length ≤ sizeLine) : Bi g k μ (.builtin "len") [.ob i] (.int ds.length) := by
  intro A θ s vs Q E f W V q
  cases V with
  | cons V r =>
    cases r
    obtain ⟨p, e, rfl⟩ := V.ob_inv
    obtain ⟨us, n, zq⟩ := (W.has i _ _ e hi).list_inv
    have hp := zq.1
    replace zq := zq.2
    have eo := zq.1
    replace zq := zq.2
    have nb := zq.1
    replace zq := zq.2
    clear zq
    have hl : s.heap.IsList p.1 us.toArray := ⟨_, eo, rfl, _, rfl⟩
    rw [sizeLine_eq] at hz
    have hlen := nb.length
    refine Calls.call_len_list hl (by simp; lia) ?_
    have e2 : ((us.toArray.size : Nat) : Int) = (ds.length : Int) := by simp [hlen]
    rw [e2]
    exact q _ _ ((Lat.refl g θ s).toks) (W.tok _) (.int _ _)

theorem intsOf {vs : List Value} {ns : List Int} (h : IntsAre vs ns) : ∃ xs : Array (Int × Tok), vs.toArray = intItems xs ∧ xs.toList.map (·.1) = ns := by
  obtain ⟨xs, e⟩ := h.allInts.items
  refine ⟨xs, e, ?_⟩
  rw [← nums_intItems, ← e]
  exact h.numsOf
theorem Bi.sum {ns : List Int} : Bi g k μ (.builtin "sum") [.list (iL ns)] (.int ns.sum) := by
  intro A θ s vs Q E f W V q
  cases V with
  | cons V r =>
    cases r
    cases V with
    | list e nb r =>
      rename_i a us n
      obtain ⟨xs, ex, en⟩ := intsOf r.ints
      have hl : s.heap.IsList a (intItems xs) := ⟨_, e, rfl, _, by rw [← ex]⟩
      refine sum_intListG f.handled hl fun h' tk t' hk => ?_
      rw [preSum_eq, List.take_of_length_le (by simp), en]
      exact q _ _ (.ofKeeps hk) (W.keeps hk W.gens rfl) (.int _ _)
theorem Bi.max {ns : List Int} {m : Int} (hm : m ∈ ns) (hmx : ∀ a ∈ ns, a ≤ m) : Bi g k μ (.builtin "max") [.list (iL ns)] (.int m) := by
  intro A θ s vs Q E f W V q
  cases V with
  | cons V r =>
    cases r
    cases V with
    | list e nb r =>
      rename_i a us n
      obtain ⟨xs, ex, en⟩ := intsOf r.ints
      have hl : s.heap.IsList a (intItems xs) := ⟨_, e, rfl, _, by rw [← ex]⟩
      have hne : 0 < xs.size := by
        have : 0 < ns.length := List.length_pos_of_mem hm
        rw [← en] at this; simpa using this
      refine max_intList f.handled hl hne fun v h' tk hv hk => ?_
      obtain ⟨t, rfl⟩ := intItems_at hv
      obtain ⟨h1, h2⟩ := argBest_gt (numAt xs) (xs.size - 1)
      have e1 : numAt xs (argBest (fun i j => decide (numAt xs i > numAt xs j)) (xs.size - 1)) = m := by
        have key : ∀ j, j < xs.size → numAt xs j ∈ ns := fun j hj => by
          rw [numAt_eq, en]
          have : j < ns.length := by rw [← en]; simpa using hj
          simp [List.getD, List.getElem?_eq_getElem this]
        have hb := hmx _ (key _ (Nat.lt_of_le_of_lt h1 (by lia)))
        obtain ⟨j, hj, ej⟩ := List.getElem_of_mem hm
        have hj' : j < xs.size := by rw [← en] at hj; simpa using hj
        have h3 := h2 j (by lia)
        have e3 : numAt xs j = m := by rw [numAt_eq, en]; simp [List.getD, List.getElem?_eq_getElem hj, ej]
        lia
      rw [e1]
      exact q _ _ (.ofKeeps hk) (W.keeps hk W.gens rfl) (.int _ _)
theorem Bi.min {ns : List Int} {m : Int} (hm : m ∈ ns) (hmx : ∀ a ∈ ns, m ≤ a) : Bi g k μ (.builtin "min") [.list (iL ns)] (.int m) := by
  intro A θ s vs Q E f W V q
  cases V with
  | cons V r =>
    cases r
    cases V with
    | list e nb r =>
      rename_i a us n
      obtain ⟨xs, ex, en⟩ := intsOf r.ints
      have hl : s.heap.IsList a (intItems xs) := ⟨_, e, rfl, _, by rw [← ex]⟩
      have hne : 0 < xs.size := by
        have : 0 < ns.length := List.length_pos_of_mem hm
        rw [← en] at this; simpa using this
      refine min_intList f.handled hl hne fun v h' tk hv hk => ?_
      obtain ⟨t, rfl⟩ := intItems_at hv
      obtain ⟨h1, h2⟩ := argBest_lt (numAt xs) (xs.size - 1)
      have e1 : numAt xs (argBest (fun i j => decide (numAt xs i < numAt xs j)) (xs.size - 1)) = m := by
        have key : ∀ j, j < xs.size → numAt xs j ∈ ns := fun j hj => by
          rw [numAt_eq, en]
          have : j < ns.length := by rw [← en]; simpa using hj
          simp [List.getD, List.getElem?_eq_getElem this]
        have hb := hmx _ (key _ (Nat.lt_of_le_of_lt h1 (by lia)))
        obtain ⟨j, hj, ej⟩ := List.getElem_of_mem hm
        have hj' : j < xs.size := by rw [← en] at hj; simpa using hj
        have h3 := h2 j (by lia)
        have e3 : numAt xs j = m := by rw [numAt_eq, en]; simp [List.getD, List.getElem?_eq_getElem hj, ej]
        lia
      rw [e1]
      exact q _ _ (.ofKeeps hk) (W.keeps hk W.gens rfl) (.int _ _)

/-- comparisons of iL -/
theorem Op.lt {a b : Int} : Op g k (.bool (decide (a < b))) (compareOp .Lt) (.int a) (.int b) := by
  intro A θ μ s va vb Q E _ W V1 V2 q
  cases V1; cases V2
  exact lt_int (q _ _ (.refl g θ s) W (.bool _))
theorem Op.gt {a b : Int} : Op g k (.bool (decide (b < a))) (compareOp .Gt) (.int a) (.int b) := by
  intro A θ μ s va vb Q E _ W V1 V2 q
  cases V1; cases V2
  exact gt_int (q _ _ (.refl g θ s) W (.bool _))
theorem Op.eq {a b : Int} : Op g k (.bool (a == b)) (compareOp .Eq) (.int a) (.int b) := by
  intro A θ μ s va vb Q E _ W V1 V2 q
  cases V1; cases V2
  exact eq_int (q _ _ (.refl g θ s) W (.bool _))
theorem Op.ne {a b : Int} : Op g k (.bool (a != b)) (compareOp .NotEq) (.int a) (.int b) := by
  intro A θ μ s va vb Q E _ W V1 V2 q
  cases V1; cases V2
  exact ne_int (q _ _ (.refl g θ s) W (.bool _))
theorem Op.neb {a b : Bool} : Op g k (.bool (a != b)) (compareOp .NotEq) (.bool a) (.bool b) := by
  intro A θ μ s va vb Q E _ W V1 V2 q
  cases V1; cases V2
  exact ne_bool (q _ _ (.refl g θ s) W (.bool _))
/-- two lists, one behind the other -/
theorem Op.cat {as bs : List D} (hz : as.length + bs.length ≤ sizeLine) : Op g k (.list (as ++ bs)) (binaryOp .Add) (.list as) (.list bs) := by
  intro A θ μ s va vb Q E _ W V1 V2 q
  cases V1 with
  | list e1 n1 r1 =>
  cases V2 with
  | list e2 n2 r2 =>
    rename_i a vs n b ws m
    refine P.add_list e1 e2 ?_ (by have h1 := r1.length; have h2 := r2.length; simp; lia)
    have e3 : vs.toArray ++ ws.toArray = (vs ++ ws).toArray := by simp
    rw [e3]
    exact q _ _ (Lat.push _) (W.push _) (new_list W (r1.append r2))
theorem Op.rep {x : Str} {n : Int} (hz : MulOk x n) : Op g k (.str (Txt.mul x n)) (binaryOp .Mult) (.str x) (.int n) := by
  intro A θ μ s va vb Q E _ W V1 V2 q
  cases V1; cases V2
  exact SB.mul hz fun t' j => q _ _ (Lat.refl g θ s).toks (W.tok _) (.str _ _)
end
end Mine
end

-- part F4
section
namespace Mine
open PySem PySem.W PyProof.Rows

/-- a later state of the same frame: its own names may have turned -/
structure LatS (g : G) (env : Env) (θ : Th) (s : Shared) (θ' : Th) (s' : Shared) : Prop where
  pre : ∃ t, θ' = θ ++ t ∧ ∀ p ∈ t, s.heap.get? p.1 = none ∧ s.heap.get? p.2 = none
  keep : ∀ b o, b ∉ bad g θ → b ≠ env.locals → ¬ Ow env b → s.heap.get? b = some o → s'.heap.get? b = some o
  alive : ∀ b o, s.heap.get? b = some o → ∃ o', s'.heap.get? b = some o'

def upd : En → Str → D → En
  | [], x, d => [(x, d)]
  | (y, e) :: r, x, d => if x == y then (y, d) :: r else (y, e) :: upd r x d
theorem upd_lookup : ∀ (ρ : En) (x y : Str) (d : D), (upd ρ x d).lookup y = if y = x then some d else ρ.lookup y
  | [], x, y, d => by
    unfold upd
    rw [List.lookup_cons]
    by_cases h : y = x
    · subst h; simp
    · rw [if_neg h]
      have : (y == x) = false := by simpa using h
      simp [this]
  | (z, e) :: r, x, y, d => by
    unfold upd
    by_cases hz : x = z
    · subst hz
      simp only [beq_self_eq_true, if_true, List.lookup_cons]
      by_cases h : y = x
      · subst h; simp
      · rw [if_neg h]
        have : (y == x) = false := by simpa using h
        rw [this]
    · have : (x == z) = false := by simpa using hz
      rw [this]
      simp only [Bool.false_eq_true, if_false, List.lookup_cons]
      by_cases hy : y = z
      · subst hy
        have hyx : ¬ y = x := fun e => hz e.symm
        simp [hyx]
      · have hyz : (y == z) = false := by simpa using hy
        rw [hyz]
        exact upd_lookup r x y d

/-- how a run of statements ends -/
inductive Flo (g : G) (θ : Th) (h : Heap) : Flow → Option D → Prop
  | next : Flo g θ h .next none
  | ret {v : Value} {d : D} : Val g θ h v d → Flo g θ h (.ret v) (some d)

def Ex (g : G) (k : Nat) (env : Env) (ρ : En) (μ : List MO) (st : List Stmt) (r : Option D) (ρ' : En) (μ' : List MO) : Prop :=
  ∀ (A : Around) (θ : Th) (s : Shared) (Q : Flow → Shared → Prop) (E : Value → Shared → Prop), Fit k A → Sta g env θ ρ μ s →
    (∀ fl θ' s', LatS g env θ s θ' s' → Sta g env θ' ρ' μ' s' → Flo g θ' s'.heap fl r → Q fl s') → wpAny g.M A (execs st env) Q E s
def Ex1 (g : G) (k : Nat) (env : Env) (ρ : En) (μ : List MO) (st : Stmt) (r : Option D) (ρ' : En) (μ' : List MO) : Prop :=
  ∀ (A : Around) (θ : Th) (s : Shared) (Q : Flow → Shared → Prop) (E : Value → Shared → Prop), Fit k A → Sta g env θ ρ μ s →
    (∀ fl θ' s', LatS g env θ s θ' s' → Sta g env θ' ρ' μ' s' → Flo g θ' s'.heap fl r → Q fl s') → wpAny g.M A (exec st env) Q E s
/-- a target takes a datum -/
def Tg (g : G) (k : Nat) (env : Env) (t : Expr) (d : D) (ρ ρ' : En) : Prop :=
  ∀ (A : Around) (θ : Th) (μ : List MO) (s : Shared) (v : Value) (Q : Unit → Shared → Prop) (E : Value → Shared → Prop), Fit k A → Sta g env θ ρ μ s → Val g θ s.heap v d →
    (∀ s', LatS g env θ s θ s' → Sta g env θ ρ' μ s' → Q () s') → wpAny g.M A (assign t env v) Q E s

section
variable {g : G} {k : Nat} {env : Env} {ρ ρ₁ ρ₂ : En} {μ μ₁ μ₂ μ₃ : List MO}

theorem LatS.refl (g : G) (env : Env) (θ : Th) (s : Shared) : LatS g env θ s θ s := ⟨⟨[], by simp, fun _ h => nomatch h⟩, fun _ _ _ _ _ e => e, fun _ o e => ⟨o, e⟩⟩
theorem Lat.s {θ θ' : Th} {s s' : Shared} (l : Lat g θ s θ' s') : LatS g env θ s θ' s' := ⟨l.pre, fun b o n _ _ e => l.keep b o n e, l.alive⟩
theorem LatS.trans {θ θ' θ'' : Th} {s s' s'' : Shared} (l : LatS g env θ s θ' s') (k : LatS g env θ' s' θ'' s'') : LatS g env θ s θ'' s'' := by
  obtain ⟨t, rfl, ht⟩ := l.pre
  obtain ⟨u, rfl, hu⟩ := k.pre
  have none_of : ∀ a, s'.heap.get? a = none → s.heap.get? a = none := fun a e => by
    cases q : s.heap.get? a with
    | none => rfl
    | some o => obtain ⟨o', e'⟩ := l.alive a o q; rw [e] at e'; cases e'
  refine ⟨⟨t ++ u, by rw [List.append_assoc], fun p hp => ?_⟩, fun b o nb nl nc e => ?_, fun b o e => ?_⟩
  · rcases List.mem_append.mp hp with hp | hp
    · exact ht p hp
    · exact ⟨none_of _ (hu p hp).1, none_of _ (hu p hp).2⟩
  · exact k.keep b o (bad_more e nb ht) nl nc (l.keep b o nb nl nc e)
  · obtain ⟨o', e'⟩ := l.alive b o e
    exact k.alive b o' e'
/-- the frame's own objects are no data -/
theorem Fra.noSeq {θ : Th} {h : Heap} (F : Fra g env θ ρ h) {b : Addr} {o : Obj} (e : h.get? b = some o) (q : ∃ vs n, o.data = .seq vs n) : b ≠ env.locals ∧ ¬ Cl env b := by
  obtain ⟨vs, n, hq⟩ := q
  refine ⟨fun z => ?_, fun hc => ?_⟩
  · obtain ⟨m, ⟨o', es, ep, ho, hd, _⟩, _⟩ := F.locals
    rw [z, ho] at e; cases e
    cases (hd).symm.trans hq
  · obtain ⟨v, o', ho, hd⟩ := F.cell b hc
    rw [ho] at e; cases e
    rw [hd] at hq; cases hq
theorem LatS.v {θ θ' : Th} {s s' : Shared} (F : Fra g env θ ρ s.heap) (l : LatS g env θ s θ' s') : LatV g θ s.heap θ' s'.heap :=
  ⟨l.pre, fun b o n e q => l.keep b o n (F.noSeq e q).1 (fun w => (F.noSeq e q).2 w.cl) e⟩

/-- the world behind a store into an object that is neither data nor of the store -/
theorem Wld.same {θ : Th} {s : Shared} {a : Addr} {h' : Heap} {n : Nat} (W : Wld g θ μ s) (hb : g.hB.get? a = none) (ha : a ∉ adrs θ) (hq : ∀ o, s.heap.get? a = some o → ¬ ∃ vs n, o.data = .seq vs n) (hs : Heap.ExtBut a s.heap h') :
    Wld g θ μ { s with heap := h', toks := n } := by
  have hl : LatV g θ s.heap θ h' := ⟨⟨[], by simp, fun _ h => nomatch h⟩, fun b o _ e q => hs b o (fun z => hq o (z ▸ e) q) e⟩
  have ne : ∀ b o, g.hB.get? b = some o → b ≠ a := fun b o e z => by rw [z, hb] at e; cases e
  refine ⟨?_, fun b o nb e => hs b o (ne b o e) (W.base b o nb e), W.gd, W.os, W.gens, W.newer, W.apart, W.len, fun P hP => (W.tab P hP).at fun o e => hs P o (fun z => by obtain ⟨o', e'⟩ := W.gd.low P hP; exact ne P o' e' z) e, fun i p mo e e' => ?_⟩
  · refine ⟨fun b o e => ?_, fun b o e => ?_⟩
    · rcases W.old.old b o e with x | ⟨t, hc, vs, more, hv, x⟩ | ⟨rfl, hc, ⟨o', es, n, ho', r⟩, z⟩
      · exact .inl (hs b _ (ne b o e) x)
      · exact .inr (.inl ⟨t, hc, vs, more, hv, hs b _ (ne b o e) x⟩)
      · exact .inr (.inr ⟨rfl, hc, ⟨o', es, n, hs _ _ (ne _ o e) ho', r⟩, fun key => by rw [OldK.staticOf_congr ((hs _ _ (ne _ o e) ho').trans ho'.symm) key]; exact z key⟩)
    · obtain ⟨o', e'⟩ := W.old.there b o e
      exact ⟨o', hs b _ (ne b o e) e'⟩
  · have hp := List.mem_of_getElem? e
    have n1 : p.1 ≠ a := fun z => ha (mem_adrs.mpr ⟨p, hp, .inl z.symm⟩)
    have n2 : p.2 ≠ a := fun z => ha (mem_adrs.mpr ⟨p, hp, .inr z.symm⟩)
    cases W.has i p mo e e' with
    | list h r c => exact .list (hs _ _ n1 h) (r.latV hl) c
    | acc h nn hm ho r c => exact .acc (hs _ _ n1 h) (nn.at fun o e => hs _ o n2 e) hm ho (r.latV hl) c
    | raw h nn hm => exact .raw (hs _ _ n1 h) (nn.at fun o e => hs _ o n2 e) hm

/-- a name is stored -/
theorem store_local {A : Around} {θ : Th} {s : Shared} {x : Str} {v : Value} {d : D} {Q : Unit → Shared → Prop} {E : Value → Shared → Prop} (S : Sta g env θ ρ μ s) (hk : env.kindOf x = some .local) (hc : env.cells.lookup x = none) (V : Val g θ s.heap v d)
    (h : ∀ s', LatS g env θ s θ s' → Sta g env θ (upd ρ x d) μ s' → Q () s') : wpAny g.M A (storeName env x v) Q E s := by
  obtain ⟨m, hn, hm⟩ := S.F.locals
  refine wpAny_storeName_local hk hn (fun h' hn' hs => ?_) (by rw [S.F.kind]; rfl)
  have hq : ∀ o, s.heap.get? env.locals = some o → ¬ ∃ vs n, o.data = .seq vs n := fun o e q => (S.F.noSeq e q).1 rfl
  have hl : LatV g θ s.heap θ h' := ⟨⟨[], by simp, fun _ h => nomatch h⟩, fun b o _ e q => (hs.2 b (S.F.noSeq e q).1).trans e⟩
  have hcn : ∀ c, Cl env c → c ≠ env.locals := fun c hy z => by
    obtain ⟨u, o, ho, hd⟩ := S.F.cell c hy
    obtain ⟨o', es, ep, ho', hd', _⟩ := hn
    rw [z, ho'] at ho; cases ho
    rw [hd'] at hd; cases hd
  refine h _ ⟨⟨[], by simp, fun _ h => nomatch h⟩, fun b o _ nl _ e => (hs.2 b nl).trans e, fun b o e => ?_⟩ ⟨S.W.same S.F.newer.1 S.F.out.1 hq hs.extBut, ⟨S.F.kind, S.F.glob, ⟨_, hn', fun y e he hy => ?_⟩, fun c hy => ?_, fun y c e hyc he => ?_, S.F.apart, S.F.newer, S.F.out⟩⟩
  · by_cases z : b = env.locals
    · subst z; obtain ⟨o', _, _, zq⟩ := hn'; have ho' := zq.1; replace zq := zq.2; clear zq; exact ⟨o', ho'⟩
    · exact ⟨o, (hs.2 b z).trans e⟩
  · rw [upd_lookup] at he
    by_cases z : y = x
    · rw [if_pos z] at he; cases he
      exact ⟨v, if_pos z, V.latV hl⟩
    · rw [if_neg z] at he
      obtain ⟨u, hu, U⟩ := hm y e he hy
      exact ⟨u, by rw [if_neg z]; exact hu, U.latV hl⟩
  · obtain ⟨u, o, ho, hd⟩ := S.F.cell c hy
    exact ⟨u, o, (hs.2 _ (hcn c hy)).trans ho, hd⟩
  · rw [upd_lookup] at he
    by_cases z : y = x
    · rw [z, hc] at hyc; cases hyc
    · rw [if_neg z] at he
      obtain ⟨u, ⟨o, ho, hd⟩, U⟩ := S.F.cval y c e hyc he
      exact ⟨u, ⟨o, (hs.2 _ (hcn _ ⟨y, hyc⟩)).trans ho, hd⟩, U.latV hl⟩
theorem store_cell {A : Around} {θ : Th} {s : Shared} {x : Str} {v : Value} {d : D} {c : Addr} {Q : Unit → Shared → Prop} {E : Value → Shared → Prop} (S : Sta g env θ ρ μ s) (hk : env.kindOf x = some .cell) (hc : env.cells.lookup x = some c) (hB : g.hB.get? c = none) (hO : env.func.isSome = true) (V : Val g θ s.heap v d)
    (h : ∀ s', LatS g env θ s θ s' → Sta g env θ (upd ρ x d) μ s' → Q () s') : wpAny g.M A (storeName env x v) Q E s := by
  have hmem : Cl env c := ⟨x, hc⟩
  obtain ⟨v₀, hv₀⟩ := S.F.cell _ hmem
  obtain ⟨m, hn, hm⟩ := S.F.locals
  refine wpAny_storeName_cell S.F.kind hk hc hv₀ fun h' hc' hs => ?_
  have hq : ∀ o, s.heap.get? c = some o → ¬ ∃ vs n, o.data = .seq vs n := fun o e q => (S.F.noSeq e q).2 hmem
  have hl : LatV g θ s.heap θ h' := ⟨⟨[], by simp, fun _ h => nomatch h⟩, fun b o _ e q => (hs.2 b (fun z => (S.F.noSeq e q).2 (z ▸ hmem))).trans e⟩
  have hLc : env.locals ≠ c := fun z => by
    obtain ⟨o', es, ep, ho', hd', _⟩ := hn
    obtain ⟨o, ho, hd⟩ := hv₀
    rw [z] at ho'
    rw [ho'] at ho; cases ho
    rw [hd'] at hd; cases hd
  refine h _ ⟨⟨[], by simp, fun _ h => nomatch h⟩, fun b o _ _ nc e => (hs.2 b (fun z => nc (z ▸ ⟨hO, x, hc, hk⟩))).trans e, fun b o e => ?_⟩ ⟨S.W.same (n := s.toks) hB (S.F.out.2 _ hmem) hq hs.extBut, ⟨S.F.kind, S.F.glob, ⟨m, hn.sameBut hs hLc, fun y e he hy => ?_⟩, fun b hy => ?_, fun y c' e hyc he => ?_, S.F.apart, S.F.newer, S.F.out⟩⟩
  · by_cases z : b = c
    · obtain rfl := z.symm; obtain ⟨o', ho', _⟩ := hc'; exact ⟨o', ho'⟩
    · exact ⟨o, (hs.2 b z).trans e⟩
  · rw [upd_lookup] at he
    by_cases z : y = x
    · rw [z, hk] at hy; cases hy
    · rw [if_neg z] at he
      obtain ⟨u, hu, U⟩ := hm y e he hy
      exact ⟨u, hu, U.latV hl⟩
  · by_cases z : b = c
    · exact ⟨_, z ▸ hc'⟩
    · obtain ⟨u, o, ho, hd⟩ := S.F.cell b hy
      exact ⟨u, o, (hs.2 _ z).trans ho, hd⟩
  · rw [upd_lookup] at he
    by_cases z : y = x
    · rw [if_pos z] at he; cases he
      rw [z, hc] at hyc; cases hyc
      exact ⟨v, hc', V.latV hl⟩
    · rw [if_neg z] at he
      obtain ⟨u, ⟨o, ho, hd⟩, U⟩ := S.F.cval y c' e hyc he
      have hne : c' ≠ c := fun w => z (S.F.apart y x c (w ▸ hyc) hc)
      exact ⟨u, ⟨o, (hs.2 _ hne).trans ho, hd⟩, U.latV hl⟩

/-- a name that may be stored -/
def Sto (g : G) (env : Env) (x : Str) : Prop := (env.kindOf x = some .local ∧ env.cells.lookup x = none) ∨ (env.kindOf x = some .cell ∧ env.func.isSome = true ∧ ∃ c, env.cells.lookup x = some c ∧ g.hB.get? c = none)
theorem store {A : Around} {θ : Th} {s : Shared} {x : Str} {v : Value} {d : D} {Q : Unit → Shared → Prop} {E : Value → Shared → Prop} (hx : Sto g env x) (S : Sta g env θ ρ μ s) (V : Val g θ s.heap v d)
    (h : ∀ s', LatS g env θ s θ s' → Sta g env θ (upd ρ x d) μ s' → Q () s') : wpAny g.M A (storeName env x v) Q E s := by
  rcases hx with ⟨a, b⟩ | ⟨a, o, c, b, e⟩
  · exact store_local S a b V h
  · exact store_cell S a b e o V h

theorem Tg.name {x : Str} {p : Pos} {d : D} (hx : Sto g env x) : Tg g k env (.Name x p) d ρ (upd ρ x d) := fun A θ μ s v Q E f S V q =>
  wpAny_assign_Name (store hx S V q)

theorem Sta.keeps {θ : Th} {s s' : Shared} (S : Sta g env θ ρ μ s) (k : ∀ b o, s.heap.get? b = some o → s'.heap.get? b = some o) (hg : AllBare s'.gens) (ho : s'.os = s.os) : Sta g env θ ρ μ s' :=
  S.lat (.ofKeeps k) (S.W.keeps k hg ho)

/-- names in a row take the items of a tuple -/
inductive TgL (g : G) (env : Env) : List Expr → List D → En → En → Prop
  | nil {ρ : En} : TgL g env [] [] ρ ρ
  | cons {x : Str} {p : Pos} {ts : List Expr} {d : D} {ds : List D} {ρ ρ' : En} : Sto g env x → TgL g env ts ds (upd ρ x d) ρ' → TgL g env (.Name x p :: ts) (d :: ds) ρ ρ'

theorem assignEach_names : ∀ {ts : List Expr} {ds : List D} {ρ ρ' : En}, TgL g env ts ds ρ ρ' → (assignEach ts env).length = ds.length ∧ (assignEach ts env).findIdx? (·.1) = none
  | _, _, _, _, .nil => ⟨rfl, rfl⟩
  | _, _, _, _, .cons (x := x) (p := p) (ts := ts) _ r => by
    obtain ⟨h1, h2⟩ := assignEach_names r
    have e : assignEach (.Name x p :: ts) env = (false, assign (.Name x p) env) :: assignEach ts env := rfl
    rw [e]
    refine ⟨by simp [h1], ?_⟩
    rw [List.findIdx?_cons]
    simp [h2]
theorem inOrder {A : Around} {θ : Th} {μ : List MO} (f : Fit k A) : ∀ {ts : List Expr} {ds : List D} {ρ ρ' : En} {vs : List Value} {s : Shared} {Q : Unit → Shared → Prop} {E : Value → Shared → Prop}, TgL g env ts ds ρ ρ' → Sta g env θ ρ μ s → Vals g θ s.heap vs ds →
    (∀ s', LatS g env θ s θ s' → Sta g env θ ρ' μ s' → Q () s') → wpAny g.M A (assignInOrder ((assignEach ts env).map (·.2)) vs) Q E s
  | _, _, _, _, _, s, Q, E, .nil, S, .nil, q => by
    show wpAny g.M A (pure ()) Q E s
    exact wpAny_pure (q s (.refl ..) S)
  | _, _, _, _, _, s, Q, E, .cons (x := x) (p := p) (ts := ts) hx r, S, .cons V Vr, q => by
    show wpAny g.M A (do holding _ (assign (.Name x p) env _); assignInOrder ((assignEach ts env).map (·.2)) _) Q E s
    refine wpAny_bind (wpAny_holding (Tg.name (k := k) hx A θ μ s _ _ E f S V fun s₁ l₁ S₁ => ?_))
    exact inOrder f r S₁ (Vr.latV (l₁.v S.F)) fun s' l' S' => q s' (l₁.trans l') S'
theorem Tg.tup {ts : List Expr} {n : Nat} {p : Pos} {ds : List D} (h : TgL g env ts ds ρ ρ₁) : Tg g k env (.Tuple ts n p) (.tup ds) ρ ρ₁ := by
  intro A θ μ s v Q E f S V q
  obtain ⟨a, vs, m, rfl, e, nb, r⟩ := V.tup_inv
  obtain ⟨h1, h2⟩ := assignEach_names h
  refine wpAny_assign_Tuple f.handled ⟨_, e, rfl, _, rfl⟩ (by rw [h1, ← r.length]; simp) h2 fun h' he => ?_
  have hk : ∀ b o, s.heap.get? b = some o → h'.get? b = some o := fun b o eb => he b o (Nat.ne_of_lt (Heap.lt_size eb)) eb
  have l : Lat g θ s θ { s with heap := h' } := .ofKeeps hk
  exact inOrder f h (S.keeps hk S.W.gens rfl) (r.lat l) fun s' l' S' => q s' (l.s.trans l') S'

theorem Ex.nil : Ex g k env ρ μ [] none ρ μ := fun A θ s Q E f S q => wpAny_execs_nil (q _ θ s (.refl ..) S .next)
theorem Ex.cons {st : Stmt} {rest : List Stmt} {r : Option D} (h1 : Ex1 g k env ρ μ st none ρ₁ μ₁) (h2 : Ex g k env ρ₁ μ₁ rest r ρ₂ μ₂) : Ex g k env ρ μ (st :: rest) r ρ₂ μ₂ := fun A θ s Q E f S q =>
  wpAny_execs_cons (h1 A θ s _ E f S fun fl θ₁ s₁ l₁ S₁ F₁ => by
    cases F₁
    exact h2 A θ₁ s₁ Q E f S₁ fun fl θ₂ s₂ l₂ S₂ F₂ => q fl θ₂ s₂ (l₁.trans l₂) S₂ F₂)
theorem Ex.ret {st : Stmt} {rest : List Stmt} {d : D} (h1 : Ex1 g k env ρ μ st (some d) ρ₁ μ₁) : Ex g k env ρ μ (st :: rest) (some d) ρ₁ μ₁ := fun A θ s Q E f S q =>
  wpAny_execs_cons (h1 A θ s _ E f S fun fl θ₁ s₁ l₁ S₁ F₁ => by
    cases F₁ with
    | ret V => exact q _ θ₁ s₁ l₁ S₁ (.ret V))

theorem Ex1.assign {x : Str} {p pos : Pos} {value : Expr} {d : D} (h : Ev g k env ρ μ value d μ₁) (hx : Sto g env x) (hs : swapsWith value (some (.Name x p)) pos.line env = pure false := by rfl) : Ex1 g k env ρ μ (.Assign [.Name x p] value pos) none (upd ρ x d) μ₁ := fun A θ s Q E f S q =>
  wpAny_Assign_Name (h A θ s _ E f S fun v θ₁ s₁ l₁ W₁ V₁ => store hx (S.lat l₁ W₁) V₁ fun s₂ l₂ S₂ => q _ θ₁ s₂ (l₁.s.trans l₂) S₂ .next) hs
theorem Ex1.unpack {ts : List Expr} {n : Nat} {p pos : Pos} {value : Expr} {ds : List D} (h : Ev g k env ρ μ value (.tup ds) μ₁) (ht : TgL g env ts ds ρ ρ₁) (hs : swapsWithSole [.Tuple ts n p] value pos.line env = pure false) (hw : swappedStores [.Tuple ts n p] value env = pure none) : Ex1 g k env ρ μ (.Assign [.Tuple ts n p] value pos) none ρ₁ μ₁ := fun A θ s Q E f S q =>
  wpAny_Assign_stores (h A θ s _ E f S fun v θ₁ s₁ l₁ W₁ V₁ => by
    show wpAny g.M A (PySem.assign (.Tuple ts n p) env v) _ E s₁
    exact Tg.tup (k := k) ht A θ₁ μ₁ s₁ v _ E f (S.lat l₁ W₁) V₁ fun s₂ l₂ S₂ => q _ θ₁ s₂ (l₁.s.trans l₂) S₂ .next) hs hw
theorem Ex1.ite {t : Expr} {b1 b2 : List Stmt} {pos : Pos} {b : Bool} {r : Option D} (h1 : Te g k env ρ μ t b μ₁) (h2 : if b = true then Ex g k env ρ μ₁ b1 r ρ₂ μ₂ else Ex g k env ρ μ₁ b2 r ρ₂ μ₂) : Ex1 g k env ρ μ (.If t b1 b2 pos) r ρ₂ μ₂ := fun A θ s Q E f S q =>
  wpAny_If (h1 A θ s _ E f S fun θ₁ s₁ l₁ W₁ => by
    cases b with
    | true =>
      simp only [if_true] at h2 ⊢
      exact h2 A θ₁ s₁ Q E f (S.lat l₁ W₁) fun fl θ₂ s₂ l₂ S₂ F₂ => q fl θ₂ s₂ (l₁.s.trans l₂) S₂ F₂
    | false =>
      simp only [Bool.false_eq_true, if_false] at h2 ⊢
      exact h2 A θ₁ s₁ Q E f (S.lat l₁ W₁) fun fl θ₂ s₂ l₂ S₂ F₂ => q fl θ₂ s₂ (l₁.s.trans l₂) S₂ F₂)
theorem Ex1.ret {e : Expr} {pos : Pos} {d : D} (h : Ev g k env ρ μ e d μ₁) : Ex1 g k env ρ μ (.Return (some e) pos) (some d) ρ μ₁ := fun A θ s Q E f S q =>
  wpAny_Return_some (h A θ s _ E f S fun v θ₁ s₁ l₁ W₁ V₁ => q _ θ₁ s₁ l₁.s (S.lat l₁ W₁) (.ret V₁))
theorem Ex1.expr {e : Expr} {pos : Pos} {d : D} (h : Ev g k env ρ μ e d μ₁) (hi : interactive env = false) (hs : swapsWith e none pos.line env = pure false := by rfl) : Ex1 g k env ρ μ (.Expr e pos) none ρ μ₁ := fun A θ s Q E f S q =>
  wpAny_Expr_any (h A θ s _ E f S fun v θ₁ s₁ l₁ W₁ V₁ => q _ θ₁ s₁ l₁.s (S.lat l₁ W₁) .next) hi hs
theorem Fra.sub {θ : Th} {h : Heap} (F : Fra g env θ ρ h) (hρ : ∀ x d, ρ₁.lookup x = some d → ρ.lookup x = some d) : Fra g env θ ρ₁ h :=
  ⟨F.kind, F.glob, let ⟨m, hn, hm⟩ := F.locals; ⟨m, hn, fun x d e k => hm x d (hρ x d e) k⟩, F.cell, fun x c d hc e => F.cval x c d hc (hρ x d e), F.apart, F.newer, F.out⟩
theorem Sta.sub {θ : Th} {s : Shared} (S : Sta g env θ ρ μ s) (hρ : ∀ x d, ρ₁.lookup x = some d → ρ.lookup x = some d) : Sta g env θ ρ₁ μ s := ⟨S.W, S.F.sub hρ⟩
theorem Ex.sub {st : List Stmt} {r : Option D} (h : Ex g k env ρ μ st r ρ₁ μ₁) (hρ : ∀ x d, ρ₂.lookup x = some d → ρ₁.lookup x = some d) : Ex g k env ρ μ st r ρ₂ μ₁ := fun A θ s Q E f S q =>
  h A θ s Q E f S fun fl θ' s' l' S' F' => q fl θ' s' l' (S'.sub hρ) F'
end
end Mine
end

-- part F5
section
namespace Mine
open PySem PySem.W PyProof.Rows

def GoOk (g : G) (t : Expr) (d : D) : Prop :=
  ∀ (A : Around) (θ : Th) (s : Shared) (I l : Addr) (i : Nat) (v : Value) (Q : Unit → Shared → Prop) (E : Value → Shared → Prop), s.heap.IsListIter I l i → Val g θ s.heap v d → Q () s → wpAny g.M A (letOwnedTupleGo t (.ref I) v) Q E s
theorem GoOk.name {g : G} {x : Str} {p : Pos} {d : D} : GoOk g (.Name x p) d := fun A θ s I l i v Q E _ _ q => wpAny_pure q

theorem forLoopT {prog : Program} {w : World} {A : Around} {s : Shared} {R : Result → Shared → Prop} {target : Expr} {it : Value} {body : List Stmt} {env : Env} (I : Nat → Shared → Prop)
    (turn : ∀ n s, I n s → wpAny (model prog w) A (pyNext it) (fun r s₁ => match r with
      | none => R (.ok .next) s₁
      | some v => wpAny (model prog w) A (letOwnedTupleGo target it v) (fun _ s₂ => wpAny (model prog w) A (assign target env v) (fun _ s₃ => wpAny (model prog w) A (execs body env) (fun f s₄ => match f with
          | .next | .cont => ∃ m, m < n ∧ I m s₄
          | .brk => R (.ok .next) s₄
          | .ret v => R (.ok (.ret v)) s₄) (notedBy (model prog w) A env fun e s' => R (.error e) s') s₃) (notedBy (model prog w) A env fun e s' => R (.error e) s') s₂) (notedBy (model prog w) A env fun e s' => R (.error e) s') s₁) (notedBy (model prog w) A env fun e s' => R (.error e) s') s)
    (n : Nat) (h : I n s) : codeAny (model prog w) A (.forLoop target it body [] env) R s := by
  refine codeAny_loop' rfl I (fun n s hI => ?_) n h
  show wpAny _ _ ((forTurn target it body [] env).onRaise (fun x => do noteFrame x env; theTreesLotGoes x)) _ _ s
  refine wpAny_noted ?_
  skip
  refine wpAny_bind (wpAny_standAt (wpAny_bind (wpAny_onRaise (wpAny_mono (turn n s hI) (fun r s₁ h₁ => ?_) fun _ _ h' => wpAny_standAt h'))))
  cases r with
  | none => exact wpAny_pure (.inr ⟨rfl, codeAny_block (wpAny_execs_nil h₁)⟩)
  | some v =>
    refine wpAny_bind (wpAny_mono h₁ (fun _ s₂ h₂ => ?_) fun _ _ h' => h')
    refine wpAny_bind (wpAny_mono h₂ (fun _ s₃ h₃ => wpAny_bind (wpAny_mono h₃ (fun f s₄ h₄ => ?_) fun _ _ h' => h')) fun _ _ h' => h')
    cases f with
    | next => exact wpAny_pure (.inl ⟨rfl, h₄⟩)
    | cont => exact wpAny_pure (.inl ⟨rfl, h₄⟩)
    | brk => exact wpAny_pure h₄
    | ret v => exact wpAny_pure h₄

section
variable {g : G} {k : Nat} {env : Env} {ρ ρ₁ ρ₂ : En} {μ μ₁ μ₂ μ₃ : List MO}

def Safe (g : G) (env : Env) (θ : Th) (b : Addr) : Prop := b ∉ bad g θ ∧ b ≠ env.locals ∧ ¬ Cl env b
theorem Safe.keep {θ θ' : Th} {s s' : Shared} {b : Addr} {o : Obj} (x : Safe g env θ b) (l : LatS g env θ s θ' s') (e : s.heap.get? b = some o) : s'.heap.get? b = some o := l.keep b o x.1 x.2.1 (fun w => x.2.2 w.cl) e
theorem Safe.more {θ θ' : Th} {s s' : Shared} {b : Addr} {o : Obj} (x : Safe g env θ b) (l : LatS g env θ s θ' s') (e : s.heap.get? b = some o) : Safe g env θ' b := by
  obtain ⟨t, rfl, ht⟩ := l.pre
  exact ⟨bad_more e x.1 ht, x.2⟩
theorem Fra.fresh {θ : Th} {h : Heap} (F : Fra g env θ ρ h) {a : Addr} (e : h.get? a = none) : a ≠ env.locals ∧ ¬ Cl env a := by
  refine ⟨fun z => ?_, fun hc => ?_⟩
  · obtain ⟨m, zq⟩ := F.locals
    obtain ⟨o, _, _, ho, _⟩ := zq.1
    replace zq := zq.2
    clear zq
    rw [z, ho] at e; cases e
  · obtain ⟨v, o, ho, _⟩ := F.cell a hc
    rw [ho] at e; cases e
theorem Sta.safe {θ : Th} {s : Shared} (S : Sta g env θ ρ μ s) {a : Addr} (e : s.heap.get? a = none) : Safe g env θ a := ⟨fresh_bad S.W e, (S.F.fresh e).1, (S.F.fresh e).2⟩

/-- a later state whose own iterator has gone on -/
theorem Sta.iter {θ : Th} {s : Shared} (S : Sta g env θ ρ μ s) {I : Addr} {h' : Heap} {n : Nat} (x : Safe g env θ I) (hb : g.hB.get? I = none) (hq : ∀ o, s.heap.get? I = some o → ¬ ∃ vs n, o.data = .seq vs n) (hs : Heap.ExtBut I s.heap h') : Sta g env θ ρ μ { s with heap := h', toks := n } := by
  have ha : I ∉ adrs θ := fun z => x.1 (List.mem_append.mpr (.inr z))
  have hl : LatV g θ s.heap θ h' := ⟨⟨[], by simp, fun _ h => nomatch h⟩, fun b o _ e q => hs b o (fun z => hq o (z ▸ e) q) e⟩
  refine ⟨S.W.same hb ha hq hs, ⟨S.F.kind, S.F.glob, ?_, fun c hy => ?_, fun y c d hc e => ?_, S.F.apart, S.F.newer, S.F.out⟩⟩
  · obtain ⟨m, hn, hm⟩ := S.F.locals
    exact ⟨m, hn.extBut hs (Ne.symm x.2.1), fun y d e kd => let ⟨v, hv, V⟩ := hm y d e kd; ⟨v, hv, V.latV hl⟩⟩
  · obtain ⟨v, o, ho, hd⟩ := S.F.cell c hy
    exact ⟨v, o, hs _ _ (fun z => x.2.2 (z ▸ hy)) ho, hd⟩
  · obtain ⟨u, ⟨o, ho, hd⟩, U⟩ := S.F.cval y c d hc e
    exact ⟨u, ⟨o, hs _ _ (fun z => x.2.2 (z ▸ ⟨y, hc⟩)) ho, hd⟩, U.latV hl⟩

theorem LatS.iter {θ θ' : Th} {s s' : Shared} {I : Addr} {h' : Heap} {n : Nat} (l : LatS g env θ s θ' s') (e : s.heap.get? I = none) (hs : Heap.ExtBut I s'.heap h') : LatS g env θ s θ' { s' with heap := h', toks := n } := by
  have ne : ∀ b o, s.heap.get? b = some o → b ≠ I := fun b o q z => by rw [z, e] at q; cases q
  refine ⟨l.pre, fun b o n1 n2 n3 q => hs b o (ne b o q) (l.keep b o n1 n2 n3 q), fun b o q => ?_⟩
  obtain ⟨o', e'⟩ := l.alive b o q
  exact ⟨o', hs b o' (ne b o q) e'⟩

/-- a for over a list of data -/
theorem Ex1.forL {target iter : Expr} {body : List Stmt} {pos : Pos} {ds : List D} (h1 : Ev g k env ρ μ iter (.list ds) μ₁) (ρs : Nat → En) (μs : Nat → List MO) (h0 : ρs 0 = ρ) (m0 : μs 0 = μ₁)
    (step : ∀ i d, ds[i]? = some d → GoOk g target d ∧ ∃ ρ', Tg g k env target d (ρs i) ρ' ∧ Ex g k env ρ' (μs i) body none (ρs (i + 1)) (μs (i + 1)))
    (hs : ∀ x, foldedSetIterable iter env x = pure x := by intro _; rfl) : Ex1 g k env ρ μ (.For target iter body [] pos) none (ρs ds.length) (μs ds.length) := by
  intro A θ s Q E f S q
  refine wpAny_For (h1 A θ s _ E f S fun v θ₁ s₁ l₁ W₁ V₁ => ?_) hs
  obtain ⟨a, vs, n, rfl, zq⟩ := V₁.list_inv
  have ea := zq.1
  replace zq := zq.2
  have na := zq.1
  replace zq := zq.2
  have r := zq
  clear zq
  have hl : s₁.heap.IsList a vs.toArray := ⟨_, ea, rfl, _, rfl⟩
  have S₁ := S.lat l₁ W₁
  refine wpAny_pyIter_list hl ?_
  generalize hI : s₁.heap.objs.size = I
  have eI : s₁.heap.get? I = none := hI ▸ get_size _
  generalize hs₂ : ({ s₁ with heap := s₁.heap.push { cls := .type "list_iterator", data := .fields #[.ref a, .int 0 0] } } : Shared) = s₂
  have k₂ : ∀ b o, s₁.heap.get? b = some o → s₂.heap.get? b = some o := fun b o e => by rw [← hs₂]; exact Heap.get?_push_of_some _ e
  have S₂ : Sta g env θ₁ ρ μ₁ s₂ := S₁.keeps k₂ (by rw [← hs₂]; exact W₁.gens) (by rw [← hs₂])
  have l₂ : Lat g θ₁ s₁ θ₁ s₂ := .ofKeeps k₂
  have it₂ : s₂.heap.IsListIter I a 0 := by rw [← hs₂, ← hI]; exact ⟨_, Heap.get?_push_size _ rfl, rfl, rfl⟩
  have hl₂ : s₂.heap.IsList a vs.toArray := ⟨_, k₂ _ _ ea, rfl, _, rfl⟩
  have sI : Safe g env θ₁ I := S₁.safe eI
  have sa : Safe g env θ₁ a := ⟨na, (S₁.F.noSeq ea ⟨_, _, rfl⟩).1, (S₁.F.noSeq ea ⟨_, _, rfl⟩).2⟩
  have bI : g.hB.get? I = none := fresh_base W₁ eI
  have hne : a ≠ I := fun z => by rw [z, eI] at ea; cases ea
  refine forLoopT (I := fun j s' => ∃ i θ', LatS g env θ₁ s₁ θ' s' ∧ Sta g env θ' (ρs i) (μs i) s' ∧ s'.heap.IsListIter I a i ∧ Safe g env θ' I ∧ i ≤ vs.length ∧ j = vs.length + 1 - i) ?_ (vs.length + 1)
    ⟨0, θ₁, l₂.s, by rw [h0, m0]; exact S₂, it₂, sI, Nat.zero_le _, rfl⟩
  rintro j s' ⟨i, θ', l', S', it', sI', hi, rfl⟩
  have hl' : s'.heap.IsList a vs.toArray := ⟨_, sa.keep l' ea, rfl, _, rfl⟩
  obtain ⟨oi, zq⟩ := id it'
  have hoi := zq.1
  replace zq := zq.2
  have hci := zq.1
  replace zq := zq.2
  have hdi := zq
  clear zq
  have hq : ∀ o, s'.heap.get? I = some o → ¬ ∃ us m, o.data = .seq us m := fun o e ⟨us, m, z⟩ => by
    rw [hoi] at e; cases e; cases (hdi).symm.trans z
  by_cases hlt : i < vs.length
  · have hv : vs.toArray[i]? = some vs[i] := by simp [hlt]
    refine wpAny_pyNext_list_item it' hl' hv fun h₁ it₁ hs₁ => ?_
    have S₃ : Sta g env θ' (ρs i) (μs i) { s' with heap := h₁ } := S'.iter (n := s'.toks) sI' bI hq hs₁.extBut
    have l₃ : LatS g env θ₁ s₁ θ' { s' with heap := h₁ } := l'.iter (n := s'.toks) eI hs₁.extBut
    obtain ⟨d, zq⟩ := r.get' (List.getElem?_eq_getElem hlt)
    have hd := zq.1
    replace zq := zq.2
    have V := zq
    clear zq
    have V₃ : Val g θ' h₁ vs[i] d := V.latV (l₃.v S₁.F)
    obtain ⟨hgo, ρ', ht, hx⟩ := step i d hd
    refine hgo A θ' _ I a (i + 1) _ _ _ it₁ V₃ ?_
    refine ht A θ' (μs i) _ _ _ _ f S₃ V₃ fun s₄ l₄ S₄ => ?_
    refine hx A θ' s₄ _ _ f S₄ fun fl θ₅ s₅ l₅ S₅ F₅ => ?_
    cases F₅
    have l35 := l₄.trans l₅
    obtain ⟨o₁, ho₁, hc₁, hd₁⟩ := id it₁
    refine ⟨vs.length + 1 - (i + 1), by lia, i + 1, θ₅, l₃.trans l35, S₅, ⟨o₁, sI'.keep l35 ho₁, hc₁, hd₁⟩, sI'.more l35 ho₁, hlt, rfl⟩
  · have hin : i = vs.length := by lia
    refine wpAny_pyNext_list_end f.handled it' hl' (by simp; lia) fun h₁ he => ?_
    have hlen := r.length
    rw [hin, hlen] at S'
    exact q .next θ' _ (l₁.s.trans (l'.iter (n := s'.toks) eI he)) (S'.iter (n := s'.toks) sI' bI hq he) .next
end
end Mine
end

-- part F6
section
namespace Mine
open PySem PySem.W PyProof.Rows

section
variable {g : G} {k : Nat} {env : Env} {ρ ρ₁ ρ₂ : En} {μ μ₁ μ₂ μ₃ : List MO}

theorem less_both {θ t : Th} {h : Heap} : (∀ v d, Val g (θ ++ t) h v d → d.closed = true → Val g θ h v d) ∧ ∀ vs ds, Vals g (θ ++ t) h vs ds → closedAll ds = true → Vals g θ h vs ds :=
  Val.both (fun _ => .none) (fun b _ => .bool b) (fun i n _ => .int i n) (fun x n _ => .flt x n) (fun x n _ => .str x n) (fun _ _ _ _ e nb _ r c => .tup e (bad_less nb) (r c)) (fun _ _ _ _ e nb _ r c => .list e (bad_less nb) (r c)) (fun _ _ _ c => nomatch (show false = true from c))
    (fun _ => .nil) (fun _ _ _ _ _ _ k l c => .cons (k (Bool.and_eq_true_iff.mp c).1) (l (Bool.and_eq_true_iff.mp c).2))
theorem Val.less {θ t : Th} {h : Heap} {v : Value} {d : D} (x : Val g (θ ++ t) h v d) (c : d.closed = true) : Val g θ h v d := less_both.1 _ _ x c
theorem Vals.less {θ t : Th} {h : Heap} {vs : List Value} {ds : List D} (x : Vals g (θ ++ t) h vs ds) (c : closedAll ds = true) : Vals g θ h vs ds := less_both.2 _ _ x c
theorem Wld.less {θ t : Th} {ext : List MO} {s : Shared} (W : Wld g (θ ++ t) (μ ++ ext) s) (hl : θ.length = μ.length) : Wld g θ μ s := by
  refine ⟨W.old, W.base, W.gd, W.os, W.gens, fun p hp => W.newer p (List.mem_append.mpr (.inl hp)), (List.pairwise_append.mp W.apart).1, hl, W.tab, fun i p mo e e' => ?_⟩
  have hi : i < θ.length := (List.getElem?_eq_some_iff.mp e).1
  have hi' : i < μ.length := hl ▸ hi
  have := W.has i p mo (by rw [List.getElem?_append_left hi]; exact e) (by rw [List.getElem?_append_left hi']; exact e')
  cases this with
  | list h r c => exact .list h (r.less c) c
  | acc h n hm ho r c => exact .acc h n hm ho (r.less c) c
  | raw h n hm => exact .raw h n hm

mutual
/-- a result whose own lists have come to rest -/
inductive Thw (n : Nat) (μ : List MO) : D → D → Prop
  | closed {d : D} : d.closed = true → Thw n μ d d
  | ob {i : Nat} {ds : List D} : n ≤ i → μ[i]? = some (.list ds) → Thw n μ (.ob i) (.list ds)
  | tup {ds es : List D} : ThwL n μ ds es → Thw n μ (.tup ds) (.tup es)
inductive ThwL (n : Nat) (μ : List MO) : List D → List D → Prop
  | nil : ThwL n μ [] []
  | cons {d e : D} {ds es : List D} : Thw n μ d e → ThwL n μ ds es → ThwL n μ (d :: ds) (e :: es)
end
theorem Vals.cons_inv {θ : Th} {h : Heap} {vs : List Value} {d : D} {ds : List D} (x : Vals g θ h vs (d :: ds)) : ∃ v ws, vs = v :: ws ∧ Val g θ h v d ∧ Vals g θ h ws ds := by
  cases x with
  | cons a r => exact ⟨_, _, rfl, a, r⟩
theorem thaw_ob {θ t : Th} {s : Shared} {v : Value} {i : Nat} {ds : List D} (W : Wld g (θ ++ t) μ s) (hi : θ.length ≤ i) (hm : μ[i]? = some (.list ds)) (V : Val g (θ ++ t) s.heap v (.ob i)) : Val g θ s.heap v (.list ds) := by
  obtain ⟨p, e, rfl⟩ := V.ob_inv
  obtain ⟨vs, n, zq⟩ := (W.has i p _ e hm).list_inv
  replace zq := zq.2
  have eo := zq.1
  replace zq := zq.2
  have r := zq.1
  replace zq := zq.2
  have c := zq
  clear zq
  refine .list eo (fun hb => ?_) (r.less c)
  have hp : p ∈ t := by
    rw [List.getElem?_append_right hi] at e
    exact List.mem_of_getElem? e
  rcases List.mem_append.mp hb with q | q
  · obtain ⟨o, ho⟩ := W.gd.low _ q
    exact nomatch ((W.newer p (List.mem_append.mpr (.inr hp))).1).symm.trans ho
  · obtain ⟨q', hq', z⟩ := mem_adrs.mp q
    have := (List.pairwise_append.mp W.apart).2.2 q' hq' p hp
    rcases z with z | z
    · exact this.1 z.symm
    · exact this.2.2.1 z.symm
theorem Val.thaw {θ t : Th} {s : Shared} (W : Wld g (θ ++ t) μ s) {v : Value} {d e : D} (x : Thw θ.length μ d e) (V : Val g (θ ++ t) s.heap v d) : Val g θ s.heap v e := by
  refine Thw.rec (motive_1 := fun d e _ => ∀ v, Val g (θ ++ t) s.heap v d → Val g θ s.heap v e) (motive_2 := fun ds es _ => ∀ vs, Vals g (θ ++ t) s.heap vs ds → Vals g θ s.heap vs es) (fun c v V => V.less c) (fun hi hm v V => thaw_ob W hi hm V) (fun _ k v V => ?_) (fun vs V => ?_) (fun _ _ k l vs V => ?_) x v V
  · obtain ⟨a, vs, n, rfl, e, nb, r⟩ := V.tup_inv
    exact .tup e (bad_less nb) (k _ r)
  · cases V; exact .nil
  · obtain ⟨v, ws, rfl, a, r⟩ := V.cons_inv
    exact .cons (k _ a) (l _ r)

/-- a call of a def -/
def Fn (g : G) (k : Nat) (f : Value) (ds : List D) (μ : List MO) (d : D) (μ' : List MO) : Prop :=
  ∀ (A : Around) (θ : Th) (s : Shared) (vs : List Value) (Q : Value → Shared → Prop) (E : Value → Shared → Prop), Fit k A → Wld g θ μ s → Vals g θ s.heap vs ds →
    (∀ v θ' s', Lat g θ s θ' s' → Wld g θ' μ' s' → Val g θ' s'.heap v d → Q v s') → wpAny g.M A (call f vs) Q E s

/-- a def of the text -/
structure FD (g : G) (f : Addr) (fd : FuncData) : Prop where
  at_ : ∃ o, g.hB.get? f = some o ∧ o.data = .func fd
  out : f ∉ g.tabs
  code : ∃ c o vs t, fd.code = .ref c ∧ g.hB.get? c = some o ∧ o.data = .fields vs ∧ vs[1]? = some (.str fd.qualname t) ∧ c ∉ g.tabs
  glob : fd.globals = mainGlobals ∧ fd.builtins = builtinsNs
  plain : fd.scope.isCoroutine = false ∧ fd.scope.isGenerator = false ∧ fd.scope.kind = .function

theorem FD.codeRec {f : Addr} {fd : FuncData} {θ : Th} {s : Shared} (x : FD g f fd) (W : Wld g θ μ s) : s.heap.CodeRec fd.code fd.qualname := by
  obtain ⟨c, o, vs, t, h1, h2, h3, h4, h5⟩ := x.code
  exact ⟨c, o, vs, t, h1, W.base c o h5 h2, h3, h4⟩

/-- the frame of a call -/
structure EnvOf (g : G) (f : Addr) (fd : FuncData) (env : Env) : Prop where
  scope : env.scope = fd.scope
  func : env.func = some f
  code : env.code = fd.code
  qual : env.qual = fd.qualname ++ ".<locals>."
  frame : env.frame = some env.locals
  cell : ∀ x, fd.scope.names.lookup x = some .cell → ∃ c, env.cells.lookup x = some c ∧ g.hB.get? c = none
  noCell : ∀ x, fd.scope.names.lookup x ≠ some .cell → env.cells.lookup x = fd.closure.lookup x

def updAll : En → List (Str × D) → En
  | ρ, [] => ρ
  | ρ, (x, d) :: r => updAll (upd ρ x d) r

theorem cells_lookup : ∀ (names : List (Str × NameKind)) (n : Nat) (acc : List (Str × Addr)) (x : Str), (∀ c, acc.lookup x ≠ some c) → (∀ y ∈ names, y.1 = x → y.2 ≠ .cell) → (cellsFrom n names acc).lookup x = none
  | [], n, acc, x, h, _ => by
    unfold cellsFrom
    cases q : acc.lookup x with
    | none => rfl
    | some c => exact absurd q (h c)
  | (y, kd) :: r, n, acc, x, h, hk => by
    unfold cellsFrom
    have hr : ∀ z ∈ r, z.1 = x → z.2 ≠ .cell := fun z hz => hk z (.tail _ hz)
    split
    · rename_i hc
      have hne : y ≠ x := fun e => hk (y, kd) (.head _) e (beq_iff_eq.mp hc)
      refine cells_lookup r (n + 1) _ x (fun c q => ?_) hr
      rw [List.lookup_cons] at q
      have : (x == y) = false := by simpa using fun e : x = y => hne e.symm
      rw [this] at q
      exact h c q
    · exact cells_lookup r n acc x h hr
theorem cells_some : ∀ (names : List (Str × NameKind)) (n : Nat) (acc : List (Str × Addr)) (x : Str), names.lookup x = some .cell → ∃ c, (cellsFrom n names acc).lookup x = some c := fun names n acc x h => by
  have := cellsFrom_some (x := x) names n acc (.inl h)
  exact Option.isSome_iff_exists.mp this

theorem bindAll {A : Around} {θ : Th} (fn : Str × Value → PUnit → Sem (ForInStep PUnit)) (hf : ∀ n v u, fn (n, v) u = (do storeName env n v; pure (.yield ⟨⟩))) :
    ∀ {names : List Str} {vs : List Value} {ds : List D} {ρ : En} {s : Shared} {Q : PUnit → Shared → Prop} {E : Value → Shared → Prop}, (∀ x ∈ names, Sto g env x) → Sta g env θ ρ μ s → Vals g θ s.heap vs ds →
      (∀ s', LatS g env θ s θ s' → Sta g env θ (updAll ρ (names.zip ds)) μ s' → Q ⟨⟩ s') → wpAny g.M A (forIn (names.zip vs) PUnit.unit fn) Q E s
  | [], vs, ds, ρ, s, Q, E, _, S, V, q => by
    skip
    exact wpAny_pure (q s (.refl ..) (by exact S))
  | x :: names, [], ds, ρ, s, Q, E, _, S, V, q => by
    cases V
    skip
    exact wpAny_pure (q s (.refl ..) (by exact S))
  | x :: names, v :: vs, _, ρ, s, Q, E, hx, S, .cons (d := d) (ds := ds) V Vr, q => by
    rw [List.zip_cons_cons, List.forIn_cons, hf]
    refine wpAny_bind (wpAny_bind (store (hx x (.head _)) S V fun s₁ l₁ S₁ => wpAny_pure ?_))
    exact bindAll fn hf (fun y hy => hx y (.tail _ hy)) S₁ (Vr.latV (l₁.v S.F)) fun s' l' S' => q s' (l₁.trans l') (by exact S')

theorem noCell_of {names : List (Str × NameKind)} (hu : (names.map (·.1)).Nodup) {x : Str} (h : names.lookup x ≠ some .cell) : ∀ y ∈ names, y.1 = x → y.2 ≠ .cell := by
  intro y hy e hc
  apply h
  clear h
  induction names with
  | nil => cases hy
  | cons z r ih =>
    rw [List.lookup_cons]
    rw [List.map_cons, List.nodup_cons] at hu
    cases hy with
    | head => rw [← e]; simp [hc]
    | tail _ hy =>
      have hne : (x == z.1) = false := by
        have : x ≠ z.1 := fun q => hu.1 (by rw [← q, ← e]; exact List.mem_map_of_mem hy)
        simpa using this
      rw [hne]
      exact ih hu.2 hy

/-- the free names of a def: none, or cells of the base (and no cell of its own) -/
inductive Clo (g : G) (fd : FuncData) : Prop
  | nil : fd.closure = [] → Clo g fd
  | base : (∀ y ∈ fd.scope.names, y.2 ≠ .cell) → (∀ x c, fd.closure.lookup x = some c → (∃ v, g.hB.IsCell c v) ∧ c ∉ g.tabs) → (∀ x y c, fd.closure.lookup x = some c → fd.closure.lookup y = some c → x = y) → Clo g fd

theorem cells_none : ∀ (names : List (Str × NameKind)) (n : Nat) (acc : List (Str × Addr)), (∀ y ∈ names, y.2 ≠ .cell) → cellsFrom n names acc = acc
  | [], n, acc, _ => rfl
  | (y, kd) :: r, n, acc, h => by
    unfold cellsFrom
    have hk := h (y, kd) (.head _)
    have hk' : (kd == NameKind.cell) = false := by cases kd <;> first | rfl | exact absurd rfl hk
    rw [hk']
    exact cells_none r n acc fun z hz => h z (.tail _ hz)

/-- a frame is made for a def, its parameters are bound -/
theorem enter {A : Around} {θ : Th} {s : Shared} {f : Addr} {fd : FuncData} {names : List Str} {vs : List Value} {ds : List D} {Q : Env → Shared → Prop} {E : Value → Shared → Prop}
    (hf : FD g f fd) (hclo : Clo g fd) (hu : (fd.scope.names.map (·.1)).Nodup) (hn : ∀ x ∈ names, (fd.scope.names.lookup x = some .local ∧ fd.closure.lookup x = none) ∨ fd.scope.names.lookup x = some .cell) (W : Wld g θ μ s) (V : Vals g θ s.heap vs ds)
    (q : ∀ env s', EnvOf g f fd env → s.heap.get? env.locals = none → (∀ c, Ow env c → s.heap.get? c = none) → Lat g θ s θ s' → Sta g env θ (updAll [] (names.zip ds)) μ s' → Q env s') :
    wpAny g.M A (newFunctionEnv fd.scope fd.globals fd.closure (names.zip vs) (fd.qualname ++ ".<locals>.") (some f) fd.code none fd.builtins) Q E s := by
  simp only [newFunctionEnv, Option.isSome_none, Bool.false_eq_true, if_false]
  refine wpAny_bind (wpAny_alloc ?_)
  refine wpAny_bind (wpAny_layCells _ (fun name kind cells => by cases hkc : kind == NameKind.cell <;> simp) _ _ _ _ ?_)
  rw [show ({ s with heap := s.heap.push { cls := .type "frame", data := .dict #[] } } : Shared).heap.objs.size = s.heap.objs.size + 1 from Heap.size_push ..]
  generalize hs₁ : ({ s with heap := pushCells (s.heap.push { cls := .type "frame", data := .dict #[] }) fd.scope.names } : Shared) = s₁
  have k₁ : ∀ b o, s.heap.get? b = some o → s₁.heap.get? b = some o := fun b o e => by rw [← hs₁]; exact pushCells_keeps _ _ b o (Heap.get?_push_of_some _ e)
  have W₁ : Wld g θ μ s₁ := W.keeps k₁ (by rw [← hs₁]; exact W.gens) (by rw [← hs₁])
  have noneAt : ∀ a, s.heap.objs.size ≤ a → s.heap.get? a = none := fun a ha => by
    cases e : s.heap.get? a with
    | none => rfl
    | some o => exact absurd (Heap.lt_size e) (Nat.not_lt.mpr ha)
  generalize henv : newEnv fd.scope s.heap.objs.size fd.globals (cellsFrom (s.heap.objs.size + 1) fd.scope.names fd.closure) (fd.qualname ++ ".<locals>.") (some f) fd.code none fd.builtins = env'
  have hloc : env'.locals = s.heap.objs.size := by rw [← henv]; rfl
  have hcells : env'.cells = cellsFrom (s.heap.objs.size + 1) fd.scope.names fd.closure := by rw [← henv]; rfl
  have hkind : ∀ x, env'.kindOf x = fd.scope.names.lookup x := fun x => by rw [← henv]; rfl
  have facts : (∀ c, Cl env' c → (s.heap.objs.size + 1 ≤ c ∧ s₁.heap.IsCell c none) ∨ ((∃ v, g.hB.IsCell c v) ∧ c ∉ g.tabs)) ∧ (∀ c, Ow env' c → s.heap.objs.size + 1 ≤ c) ∧ (∀ x y c, env'.cells.lookup x = some c → env'.cells.lookup y = some c → x = y) ∧
      (∀ x, fd.scope.names.lookup x = some .cell → ∃ c, env'.cells.lookup x = some c ∧ g.hB.get? c = none) ∧ (∀ x, fd.scope.names.lookup x ≠ some .cell → env'.cells.lookup x = fd.closure.lookup x) := by
    rcases hclo with hclo | ⟨hno, hb, hap⟩
    · have ok := cellsFrom_ok fd.scope.names (s.heap.push { cls := .type "frame", data := .dict #[] }) (s.heap.objs.size + 1) [] ⟨fun _ _ hm => (nomatch hm), List.Pairwise.nil⟩ (by rw [Heap.size_push]; exact Nat.le_refl _)
      rw [Heap.size_push] at ok
      rw [hclo] at hcells
      have hcl : ∀ c, Cl env' c → s.heap.objs.size + 1 ≤ c := fun c ⟨n, e⟩ => (ok.empty n c (mem_of_lookup (hcells ▸ e))).2
      refine ⟨fun c hc => .inl ⟨hcl c hc, ?_⟩, fun c hc => hcl c hc.cl, fun x y c hx hy => ?_, fun x hx => ?_, fun x hx => ?_⟩
      · obtain ⟨n, e⟩ := hc
        rw [hcells] at e
        rw [← hs₁]; exact (ok.empty n c (mem_of_lookup e)).1
      · rw [hcells] at hx hy
        exact name_of_addr ok.apart (mem_of_lookup hx) (mem_of_lookup hy)
      · obtain ⟨c, hc⟩ := cells_some fd.scope.names (s.heap.objs.size + 1) [] x hx
        have hc' : env'.cells.lookup x = some c := by rw [hcells]; exact hc
        exact ⟨c, hc', fresh_base W (noneAt c (Nat.le_of_succ_le (hcl c ⟨x, hc'⟩)))⟩
      · rw [hcells, hclo]
        exact cells_lookup _ _ _ _ (fun c q => by cases q) (noCell_of hu hx)
    · rw [cells_none _ _ _ hno] at hcells
      refine ⟨fun c ⟨n, e⟩ => .inr (hb n c (hcells ▸ e)), fun c ⟨_, n, _, e⟩ => ?_, fun x y c hx hy => hap x y c (hcells ▸ hx) (hcells ▸ hy), fun x hx => ?_, fun x _ => by rw [hcells]⟩
      · rw [hkind] at e
        exact absurd rfl (hno _ (mem_of_lookup e))
      · exact absurd rfl (hno _ (mem_of_lookup hx))
  have zq := facts
  have f1 := zq.1
  replace zq := zq.2
  have f2 := zq.1
  replace zq := zq.2
  have f3 := zq.1
  replace zq := zq.2
  have f4 := zq.1
  replace zq := zq.2
  have f5 := zq
  clear zq
  have EO : EnvOf g f fd env' := ⟨by rw [← henv]; rfl, by rw [← henv]; rfl, by rw [← henv]; rfl, by rw [← henv]; rfl, by rw [← henv]; rfl, f4, f5⟩
  have S₁ : Sta g env' θ [] μ s₁ := by
    refine ⟨W₁, ⟨by rw [EO.scope]; exact hf.plain.2.2, ?_, ⟨fun _ => none, ?_, fun x d e => (nomatch e)⟩, fun c hc => ?_, fun x c d hc e => (nomatch e), f3, ⟨?_, fun c hc => ?_⟩, ⟨?_, fun c hc => ?_⟩⟩⟩
    · rw [← henv]; exact hf.glob
    · rw [hloc, ← hs₁]
      exact (Heap.Ns.new s.heap (.type "frame")).keeps (pushCells_keeps _ _)
    · rcases f1 c hc with ⟨_, h⟩ | ⟨⟨v, o, ho, hd⟩, h⟩
      · exact ⟨none, h⟩
      · exact ⟨v, o, W₁.base c o h ho, hd⟩
    · rw [hloc]; exact fresh_base W (noneAt _ (Nat.le_refl _))
    · rcases f1 c hc with ⟨h, _⟩ | ⟨_, h⟩
      · exact fun m => fresh_bad W (noneAt c (Nat.le_of_succ_le h)) (List.mem_append.mpr (.inl m))
      · exact h
    · rw [hloc]; exact fresh_adrs W (noneAt _ (Nat.le_refl _))
    · rcases f1 c hc with ⟨h, _⟩ | ⟨⟨v, o, ho, hd⟩, h⟩
      · exact fresh_adrs W (noneAt c (Nat.le_of_succ_le h))
      · intro m
        obtain ⟨p, hp, z⟩ := mem_adrs.mp m
        rcases z with rfl | rfl
        · rw [(W.newer p hp).1] at ho; cases ho
        · rw [(W.newer p hp).2] at ho; cases ho
  refine wpAny_bind (bindAll (env := env') _ (fun n v u => by rw [← henv]; rfl) (fun x hx => ?_) S₁ (V.lat (s' := s₁) (.ofKeeps k₁)) fun s' l' S' => wpAny_pure ?_)
  · rcases hn x hx with ⟨h, h2⟩ | h
    · exact .inl ⟨(hkind x).trans h, (EO.noCell x (by rw [h]; decide)).trans h2⟩
    · exact .inr ⟨(hkind x).trans h, by rw [EO.func]; rfl, EO.cell x h⟩
  · have fin : Q env' s' := by
      refine q env' s' EO (by rw [hloc]; exact get_size _) (fun c hc => noneAt c (Nat.le_of_succ_le (f2 c hc))) ⟨⟨[], by simp, fun _ h => nomatch h⟩, fun b o nb e => ?_, fun b o e => l'.alive b o (k₁ b o e)⟩ S'
      have hb : b < s.heap.objs.size := Heap.lt_size e
      exact l'.keep b o nb (by rw [hloc]; exact Nat.ne_of_lt hb) (fun hc => Nat.lt_irrefl _ (Nat.lt_of_lt_of_le hb (Nat.le_of_succ_le (f2 b hc)))) (k₁ b o e)
    rw [← henv] at fin
    exact fin

theorem LatS.call {θ θ' : Th} {s s₁ s' : Shared} (l₀ : Lat g θ s θ s₁) (l : LatS g env θ s₁ θ' s') (hL : s.heap.get? env.locals = none) (hC : ∀ c, Ow env c → s.heap.get? c = none) : Lat g θ s θ' s' := by
  obtain ⟨t, rfl, ht⟩ := l.pre
  refine ⟨⟨t, rfl, fun p hp => ?_⟩, fun b o nb e => ?_, fun b o e => ?_⟩
  · have none_of : ∀ a, s₁.heap.get? a = none → s.heap.get? a = none := fun a e => by
      cases q : s.heap.get? a with
      | none => rfl
      | some o => obtain ⟨o', e'⟩ := l₀.alive a o q; rw [e] at e'; cases e'
    exact ⟨none_of _ (ht p hp).1, none_of _ (ht p hp).2⟩
  · exact l.keep b o nb (fun z => by rw [z, hL] at e; cases e) (fun hc => by rw [hC b hc] at e; cases e) (l₀.keep b o nb e)
  · obtain ⟨o', e'⟩ := l₀.alive b o e
    exact l.alive b o' e'

/-- statements run at the head of their own def's code: what super() asks -/
def ExA (g : G) (k : Nat) (env : Env) (whole : List Stmt) (ρ : En) (μ : List MO) (st : List Stmt) (r : Option D) (ρ' : En) (μ' : List MO) : Prop :=
  ∀ (A : Around) (θ : Th) (s : Shared) (Q : Flow → Shared → Prop) (E : Value → Shared → Prop), Fit k A → Sta g env θ ρ μ s →
    (∀ fl θ' s', LatS g env θ s θ' s' → Sta g env θ' ρ' μ' s' → Flo g θ' s'.heap fl r → Q fl s') → PySem.wpAt g.M A (.func whole env) (execs st env) Q E s
theorem Ex.at {whole st : List Stmt} {r : Option D} (h : Ex g k env ρ μ st r ρ₁ μ₁) : ExA g k env whole ρ μ st r ρ₁ μ₁ := fun A θ s Q E f S q => wpAt_of_wpAny (h A θ s Q E f S q)

/-- a call of a def, as code -/
def FnC (g : G) (k : Nat) (f : Value) (ds : List D) (μ : List MO) (d : D) (μ' : List MO) : Prop :=
  ∀ (A : Around) (θ : Th) (s : Shared) (vs : List Value) (R : Result → Shared → Prop), Fit k A → Wld g θ μ s → Vals g θ s.heap vs ds →
    (∀ v θ' s', Lat g θ s θ' s' → Wld g θ' μ' s' → Val g θ' s'.heap v d → R (.ok (.ret v)) s') → codeAny g.M A (.call f ⟨vs, []⟩) R s
theorem FnC.fn {f : Value} {ds : List D} {d : D} (h : FnC g k f ds μ d μ₁) : Fn g k f ds μ d μ₁ := fun A θ s vs Q E ft W V q => wpAny_call (h A θ s vs _ ft W V q)

/-- a def's call, by its body: lists that it has made come to rest -/
theorem FnC.bodyA {f : Addr} {fd : FuncData} {body : List Stmt} {names : List Str} {ds ds' : List D} {ext : List MO} {r : Option D} {d : D} {ρ' : En}
    (hf : FD g f fd) (hbody : fd.body = .stmts body) (hclo : Clo g fd) (hu : (fd.scope.names.map (·.1)).Nodup) (hn : ∀ x ∈ names, (fd.scope.names.lookup x = some .local ∧ fd.closure.lookup x = none) ∨ fd.scope.names.lookup x = some .cell)
    (hbind : ∀ (s : Shared) (θ : Th) (vs : List Value), Wld g θ μ s → Vals g θ s.heap vs ds → ∃ ws, Vals g θ s.heap ws ds' ∧ BindsTo s fd ⟨vs, []⟩ (names.zip ws)) (hlen : μ₁.length = μ.length) (ht : Thw μ.length (μ₁ ++ ext) (r.getD .none) d)
    (h : ∀ env, EnvOf g f fd env → ExA g k env body (updAll [] (names.zip ds')) μ body r ρ' (μ₁ ++ ext)) : FnC g (k + 1) (.ref f) ds μ d μ₁ := by
  intro A θ s vs R ft W V q
  obtain ⟨o, ho, hd⟩ := hf.at_
  refine codeAny_call_function (by have := ft.depth; lia) (W.base f o hf.out ho) hd hf.plain.1 hf.plain.2.1 hbody (hf.codeRec W) ?_
  obtain ⟨ws, zq⟩ := hbind s θ vs W V
  have V' := zq.1
  replace zq := zq.2
  have hb := zq
  clear zq
  refine hb _ _ _ _ ?_
  refine enter hf hclo hu hn W V' fun env s₁ EO hL hC l₁ S₁ => ⟨S₁.W.lim, ks_codeAny_funcAt ?_⟩
  refine h env EO _ θ s₁ _ _ ft.deeper S₁ fun fl θ' s' l' S' F' => ?_
  have L' := LatS.call l₁ l' hL hC
  obtain ⟨t, rfl, htt⟩ := L'.pre
  have hθ : θ.length = μ.length := W.len
  cases F' with
  | ret V' =>
    exact q _ θ s' ⟨⟨[], by simp, fun _ h => nomatch h⟩, L'.keep, L'.alive⟩ (S'.W.less (hθ.trans hlen.symm)) (Val.thaw S'.W (hθ ▸ ht) V')
  | next =>
    exact q _ θ s' ⟨⟨[], by simp, fun _ h => nomatch h⟩, L'.keep, L'.alive⟩ (S'.W.less (hθ.trans hlen.symm)) (Val.thaw S'.W (hθ ▸ ht) .none)
theorem Fn.bodyA {f : Addr} {fd : FuncData} {body : List Stmt} {names : List Str} {ds ds' : List D} {ext : List MO} {r : Option D} {d : D} {ρ' : En}
    (hf : FD g f fd) (hbody : fd.body = .stmts body) (hclo : Clo g fd) (hu : (fd.scope.names.map (·.1)).Nodup) (hn : ∀ x ∈ names, (fd.scope.names.lookup x = some .local ∧ fd.closure.lookup x = none) ∨ fd.scope.names.lookup x = some .cell)
    (hbind : ∀ (s : Shared) (θ : Th) (vs : List Value), Wld g θ μ s → Vals g θ s.heap vs ds → ∃ ws, Vals g θ s.heap ws ds' ∧ BindsTo s fd ⟨vs, []⟩ (names.zip ws)) (hlen : μ₁.length = μ.length) (ht : Thw μ.length (μ₁ ++ ext) (r.getD .none) d)
    (h : ∀ env, EnvOf g f fd env → ExA g k env body (updAll [] (names.zip ds')) μ body r ρ' (μ₁ ++ ext)) : Fn g (k + 1) (.ref f) ds μ d μ₁ :=
  (FnC.bodyA hf hbody hclo hu hn hbind hlen ht h).fn
theorem Fn.body {f : Addr} {fd : FuncData} {body : List Stmt} {names : List Str} {ds : List D} {ext : List MO} {d₁ d : D} {ρ' : En}
    (hf : FD g f fd) (hbody : fd.body = .stmts body) (hclo : fd.closure = []) (hu : (fd.scope.names.map (·.1)).Nodup) (hn : ∀ x ∈ names, fd.scope.names.lookup x = some .local ∨ fd.scope.names.lookup x = some .cell)
    (hbind : ∀ (s : Shared) (θ : Th) (vs : List Value), Wld g θ μ s → Vals g θ s.heap vs ds → BindsTo s fd ⟨vs, []⟩ (names.zip vs)) (hlen : μ₁.length = μ.length) (ht : Thw μ.length (μ₁ ++ ext) d₁ d)
    (h : ∀ env, EnvOf g f fd env → Ex g k env (updAll [] (names.zip ds)) μ body (some d₁) ρ' (μ₁ ++ ext)) : Fn g (k + 1) (.ref f) ds μ d μ₁ :=
  Fn.bodyA hf hbody (.nil hclo) hu (fun x hx => (hn x hx).imp (fun h => ⟨h, by rw [hclo]; rfl⟩) id) (fun s θ vs W V => ⟨vs, V, hbind s θ vs W V⟩) hlen ht fun env e => (h env e).at
end
end Mine
end

-- part F7
section
namespace Mine
open PySem PySem.W PyProof.Rows

section
variable {g : G} {k : Nat} {env : Env} {ρ ρ₁ ρ₂ : En} {μ μ₁ μ₂ μ₃ : List MO}

theorem Ev.callF {x : Str} {np pos : Pos} {e : Expr} {es : List Expr} {ds : List D} {d : D} {f : Addr} {fd : FuncData} (hk : env.kindOf x = some .globalImplicit) (hm : g.mg x = some (.ref f)) (hf : FD g f fd) (h1 : Evs g k env ρ μ (e :: es) ds μ₁) (h2 : Fn g k (.ref f) ds μ₁ d μ₂)
    (hd : (x == ("__debug__" : Str)) = false := by decide) (hs : starEach (e :: es) env = (false, eval e env) :: starEach es env := by rfl) :
    Ev g k env ρ μ (.Call (.Name x np) (e :: es) [] pos) d μ₂ := by
  intro A θ s Q E ft S q
  refine wpAny_Call_NameR (global_own S hk hm hd ?_)
  obtain ⟨o, zq⟩ := hf.at_
  have ho := zq.1
  replace zq := zq.2
  have hdat := zq
  clear zq
  refine Calls.callWith_function (o := o) (fd := fd) ?_
  have hb' : backTo pos (starEach (e :: es) env) = (false, eval e env) :: backTo pos (starEach es env) := by rw [hs]; rfl
  rw [hb']
  refine Calls.evalArgs_plain ?_
  rw [← hb']
  exact h1 A θ s pos _ E ft S fun vs θ₁ s₁ l₁ W₁ V₁ => ⟨⟨W₁.base f o hf.out ho, hdat⟩, h2 A θ₁ s₁ vs Q E ft W₁ V₁ fun v θ₂ s' l' W' V' => q v θ₂ s' (l₁.trans l') W' V'⟩

/-- the frame of a comprehension within env -/
theorem comp_env {A : Around} {θ : Th} {s : Shared} {scope : Scope} {cl : List (Str × Addr)} {Q : Env → Shared → Prop} {E : Value → Shared → Prop} (S : Sta g env θ ρ μ s) (hkind : scope.kind = .function) (hcell : ∀ y ∈ scope.names, y.2 ≠ .cell)
    (hcl : ∀ x c, cl.lookup x = some c → env.cells.lookup x = some c) (ρc : En) (hρ : ∀ x d, ρc.lookup x = some d → ρ.lookup x = some d ∧ (cl.lookup x).isSome = true ∧ (relabel scope env).names.lookup x ≠ some .local)
    (q : ∀ C s', s.heap.get? C = none → (∀ b o, s.heap.get? b = some o → s'.heap.get? b = some o) → Sta g (compEnvC scope cl C env) θ ρc μ s' → Q (compEnvC scope cl C env) s') :
    wpAny g.M A (newFunctionEnv scope env.globals cl [] env.qual none .none (some env)) (fun cenv s' => Q { cenv with scope := relabel scope env } s') E s := by
  refine wpAny_newFunctionEnv hcell (by intro y hy; simp at hy) (fun h₁ hns hsb => ?_) hkind
  generalize hC : s.heap.objs.size = C
  have eC : s.heap.get? C = none := hC ▸ get_size _
  rw [hC] at hns hsb
  have k₁ : ∀ b o, s.heap.get? b = some o → h₁.get? b = some o := fun b o e => hsb.extBut b o (fun z => by rw [z, eC] at e; cases e) (Heap.get?_push_of_some _ e)
  generalize hs₁ : ({ s with heap := h₁, toks := s.toks + ([] : List (Str × Value)).length } : Shared) = s₁
  have k₂ : ∀ b o, s.heap.get? b = some o → s₁.heap.get? b = some o := fun b o e => by rw [← hs₁]; exact k₁ b o e
  have W₁ : Wld g θ μ s₁ := S.W.keeps k₂ (by rw [← hs₁]; exact S.W.gens) (by rw [← hs₁])
  refine q C s₁ eC k₂ ⟨W₁, ⟨hkind, S.F.glob, ⟨_, by rw [← hs₁]; exact hns, fun x d e hk => ?_⟩, fun c ⟨n, e⟩ => ?_, fun x c d hc e => ?_, fun x y c hx hy => ?_, ⟨fresh_base S.W eC, fun c ⟨n, e⟩ => ?_⟩, ⟨fresh_adrs S.W eC, fun c ⟨n, e⟩ => ?_⟩⟩⟩
  · exact absurd hk (hρ x d e).2.2
  · obtain ⟨v, o, ho, hd⟩ := S.F.cell c ⟨n, hcl n c e⟩
    exact ⟨v, o, k₂ _ _ ho, hd⟩
  · obtain ⟨u, ⟨o, ho, hd⟩, U⟩ := S.F.cval x c d (hcl x c hc) (hρ x d e).1
    exact ⟨u, ⟨o, k₂ _ _ ho, hd⟩, U.lat (.ofKeeps k₂)⟩
  · exact S.F.apart x y c (hcl x c hx) (hcl y c hy)
  · exact S.F.newer.2 c ⟨n, hcl n c e⟩
  · exact S.F.out.2 c ⟨n, hcl n c e⟩

/-- an object of the store turns -/
theorem Wld.put {θ : Th} {s : Shared} {i : Nat} {p : Addr × Addr} {mo : MO} {h' : Heap} {n : Nat} (W : Wld g θ μ s) (e : θ[i]? = some p) (hs : ∀ b o, b ≠ p.1 → b ≠ p.2 → s.heap.get? b = some o → h'.get? b = some o)
    (hm : LatV g θ s.heap θ h' → Has g θ h' p mo) : Wld g θ (μ.set i mo) { s with heap := h', toks := n } ∧ Lat g θ s θ { s with heap := h', toks := n } := by
  have hp := List.mem_of_getElem? e
  have nb : ∀ b, b ∉ bad g θ → b ≠ p.1 ∧ b ≠ p.2 := fun b q => ⟨fun z => q (List.mem_append.mpr (.inr (mem_adrs.mpr ⟨p, hp, .inl z⟩))), fun z => q (List.mem_append.mpr (.inr (mem_adrs.mpr ⟨p, hp, .inr z⟩)))⟩
  have hl : LatV g θ s.heap θ h' := ⟨⟨[], by simp, fun _ h => nomatch h⟩, fun b o q eb _ => hs b o (nb b q).1 (nb b q).2 eb⟩
  have H := hm hl
  have ne : ∀ b o, g.hB.get? b = some o → b ≠ p.1 ∧ b ≠ p.2 := fun b o eb => ⟨(ne_of_none_some (W.newer p hp).1 eb).symm, (ne_of_none_some (W.newer p hp).2 eb).symm⟩
  have al : ∀ b o, s.heap.get? b = some o → ∃ o', h'.get? b = some o' := fun b o eb => by
    by_cases z1 : b = p.1
    · rw [z1]; exact H.lt.1
    · by_cases z2 : b = p.2
      · rw [z2]; exact H.lt.2
      · exact ⟨o, hs b o z1 z2 eb⟩
  refine ⟨⟨⟨fun b o eb => ?_, fun b o eb => let ⟨o', e'⟩ := W.old.there b o eb; al b o' e'⟩, fun b o q eb => hs b o (ne b o eb).1 (ne b o eb).2 (W.base b o q eb), W.gd, W.os, W.gens, W.newer, W.apart, by rw [List.length_set]; exact W.len, fun P hP => (W.tab P hP).at fun o e => (by obtain ⟨o', e'⟩ := W.gd.low P hP; exact hs P o (ne P o' e').1 (ne P o' e').2 e), fun j r mr ej em => ?_⟩, ⟨⟨[], by simp, fun _ h => nomatch h⟩, fun b o q eb => hs b o (nb b q).1 (nb b q).2 eb, al⟩⟩
  · have n12 := ne b o eb
    rcases W.old.old b o eb with x | ⟨t, hc, vs, more, hv, x⟩ | ⟨rfl, hc, ⟨o', es, n, ho', r⟩, z⟩
    · exact .inl (hs b _ n12.1 n12.2 x)
    · exact .inr (.inl ⟨t, hc, vs, more, hv, hs b _ n12.1 n12.2 x⟩)
    · exact .inr (.inr ⟨rfl, hc, ⟨o', es, n, hs _ _ n12.1 n12.2 ho', r⟩, fun key => by rw [OldK.staticOf_congr ((hs _ _ n12.1 n12.2 ho').trans ho'.symm) key]; exact z key⟩)
  · by_cases hij : i = j
    · subst hij
      rw [e] at ej; cases ej
      have hi : i < μ.length := W.len ▸ (List.getElem?_eq_some_iff.mp e).1
      rw [List.getElem?_set_self hi] at em; cases em
      exact H
    · rw [List.getElem?_set_ne hij] at em
      have ap : r.1 ≠ p.1 ∧ r.1 ≠ p.2 ∧ r.2 ≠ p.1 ∧ r.2 ≠ p.2 := by
        obtain ⟨hi, ei⟩ := List.getElem?_eq_some_iff.mp e
        obtain ⟨hj, ej'⟩ := List.getElem?_eq_some_iff.mp ej
        rcases Nat.lt_or_gt_of_ne hij with q | q
        · have := List.pairwise_iff_getElem.mp W.apart i j hi hj q
          rw [ei, ej'] at this
          exact ⟨this.1.symm, this.2.2.1.symm, this.2.1.symm, this.2.2.2.symm⟩
        · have := List.pairwise_iff_getElem.mp W.apart j i hj hi q
          rw [ei, ej'] at this
          exact this
      cases W.has j r mr ej em with
      | list h rr c => exact .list (hs _ _ ap.1 ap.2.1 h) (rr.latV hl) c
      | acc h nn hm' ho rr c =>
        obtain ⟨o', es, ep, hno, hnr⟩ := nn
        exact .acc (hs _ _ ap.1 ap.2.1 h) ⟨o', es, ep, hs _ _ ap.2.2.1 ap.2.2.2 hno, hnr⟩ hm' ho (rr.latV hl) c
      | raw h nn hm' =>
        obtain ⟨o', es, ep, hno, hnr⟩ := nn
        exact .raw (hs _ _ ap.1 ap.2.1 h) ⟨o', es, ep, hs _ _ ap.2.2.1 ap.2.2.2 hno, hnr⟩ hm'

/-- a new object of the store -/
theorem Wld.grow {θ : Th} {s s' : Shared} {p : Addr × Addr} {mo : MO} (W : Wld g θ μ s) (k : ∀ b o, s.heap.get? b = some o → s'.heap.get? b = some o) (h1 : s.heap.get? p.1 = none) (h2 : s.heap.get? p.2 = none) (hg : AllBare s'.gens) (ho : s'.os = s.os)
    (hm : LatV g θ s.heap (θ ++ [p]) s'.heap → Has g (θ ++ [p]) s'.heap p mo) : Wld g (θ ++ [p]) (μ ++ [mo]) s' ∧ Lat g θ s (θ ++ [p]) s' := by
  have L : Lat g θ s (θ ++ [p]) s' := ⟨⟨[p], rfl, fun q hq => by rw [List.mem_singleton.mp hq]; exact ⟨h1, h2⟩⟩, fun b o _ e => k b o e, fun b o e => ⟨o, k b o e⟩⟩
  have W' := W.keeps k hg ho
  refine ⟨⟨W'.old, W'.base, W'.gd, W'.os, W'.gens, fun q hq => ?_, ?_, by simp [W.len], W'.tab, fun i q mq e em => ?_⟩, L⟩
  · rcases List.mem_append.mp hq with hq | hq
    · exact W.newer q hq
    · rw [List.mem_singleton.mp hq]; exact ⟨fresh_base W h1, fresh_base W h2⟩
  · refine List.pairwise_append.mpr ⟨W.apart, List.pairwise_singleton _ _, fun q hq r hr => ?_⟩
    rw [List.mem_singleton.mp hr]
    obtain ⟨⟨o1, e1⟩, ⟨o2, e2⟩⟩ := W.lt q hq
    exact ⟨(ne_of_none_some h1 e1).symm, (ne_of_none_some h2 e1).symm, (ne_of_none_some h1 e2).symm, (ne_of_none_some h2 e2).symm⟩
  · by_cases hi : i < θ.length
    · rw [List.getElem?_append_left hi] at e
      rw [List.getElem?_append_left (W.len ▸ hi)] at em
      cases W.has i q mq e em with
      | list h r c => exact .list (k _ _ h) (r.latV L.v) c
      | acc h nn hm' ho' r c => exact .acc (k _ _ h) (nn.keeps k) hm' ho' (r.latV L.v) c
      | raw h nn hm' => exact .raw (k _ _ h) (nn.keeps k) hm'
    · have hi' : i = θ.length := by
        have := (List.getElem?_eq_some_iff.mp e).1
        simp at this; lia
      subst hi'
      rw [List.getElem?_append_right (Nat.le_refl _), Nat.sub_self] at e
      rw [List.getElem?_append_right (W.len ▸ Nat.le_refl _), W.len, Nat.sub_self] at em
      cases e; cases em
      exact hm L.v

theorem closed_append : ∀ {ds es : List D}, closedAll ds = true → closedAll es = true → closedAll (ds ++ es) = true
  | [], _, _, h => h
  | d :: ds, es, h1, h2 => by
    have := Bool.and_eq_true_iff.mp h1
    show (d.closed && closedAll (ds ++ es)) = true
    rw [this.1, closed_append this.2 h2]; rfl

/-- append to a list of the store -/
theorem append_ob {A : Around} {θ : Th} {s : Shared} {i : Nat} {p : Addr × Addr} {v : Value} {d : D} {ds : List D} {Q : Value → Shared → Prop} {E : Value → Shared → Prop} (W : Wld g θ μ s) (e : θ[i]? = some p) (hm : μ[i]? = some (.list ds)) (V : Val g θ s.heap v d) (hc : d.closed = true) (hz : ds.length ≤ sizeLine)
    (q : ∀ s', Lat g θ s θ s' → Wld g θ (μ.set i (.list (ds ++ [d]))) s' → Q .none s') : wpAny g.M A (call (.builtin "list.append") [.ref p.1, v]) Q E s := by
  obtain ⟨vs, n, zq⟩ := (W.has i p _ e hm).list_inv
  have hp := zq.1
  replace zq := zq.2
  have eo := zq.1
  replace zq := zq.2
  have r := zq.1
  replace zq := zq.2
  have c := zq
  clear zq
  refine wpAny_list_append_plain (hsz := by have := r.length; simp; lia) ⟨n, eo⟩ fun h' ⟨n', hl⟩ hs => ?_
  obtain ⟨W', L'⟩ := W.put (mo := .list (ds ++ [d])) (h' := h') (n := s.toks) e (fun b o n1 _ eb => (hs.2 b n1).trans eb) (fun hv => by
    have e2 : p = (p.1, p.1) := Prod.ext rfl hp
    rw [e2]
    refine .list (vs := vs ++ [v]) (n := n') ?_ ((r.latV hv).append (.cons (V.latV hv) .nil)) (closed_append c (by simp [closedAll, hc]))
    rw [hl]; simp)
  exact q _ L' W'
end
end Mine
end

-- part F8
section
namespace Mine
open PySem PySem.W PyProof.Rows

theorem compLoopT {prog : Program} {w : World} {A : Around} {s : Shared} {R : Result → Shared → Prop} {elt target iter : Expr} {scope : Scope} {pos : Pos} {it acc : Value} {env : Env} (I : Nat → Shared → Prop)
    (turn : ∀ n s, I n s → wpAny (model prog w) A (pyNext it) (fun r s₁ => match r with
      | none => R (.ok .next) s₁
      | some v => wpAny (model prog w) A (letOwnedTupleGo target it v) (fun _ s₂ => wpAny (model prog w) A (assign target env v) (fun _ s₃ => wpAny (model prog w) A (eval elt env) (fun x s₄ =>
          wpAny (model prog w) A (call (.builtin "list.append") [acc, x]) (fun _ s₅ => ∃ m, m < n ∧ I m s₅) (notedBy (model prog w) A env fun e s' => R (.error e) s') s₄)
          (notedBy (model prog w) A env fun e s' => R (.error e) s') s₃) (notedBy (model prog w) A env fun e s' => R (.error e) s') s₂) (notedBy (model prog w) A env fun e s' => R (.error e) s') s₁) (notedBy (model prog w) A env fun e s' => R (.error e) s') s)
    (n : Nat) (h : I n s) : codeAny (model prog w) A (.compLoop (.ListComp elt [⟨target, iter, [], 0⟩] scope pos) 0 it acc env) R s := by
  refine codeAny_loop rfl I (fun n s hI => ?_) n h
  show wpAny _ _ ((compTurn (.ListComp elt [⟨target, iter, [], 0⟩] scope pos) 0 it acc env).onRaise (fun x => do noteFrame x env; theTreesLotGoes x)) _ _ s
  refine wpAny_noted ?_
  rw [compTurn_list1]
  refine wpAny_bind (wpAny_standAt (wpAny_bind (wpAny_mono (turn n s hI) (fun r s₁ h₁ => ?_) fun _ _ h' => h')))
  cases r with
  | none => exact wpAny_pure h₁
  | some v =>
    refine wpAny_bind (wpAny_mono h₁ (fun _ s₂ h₂ => ?_) fun _ _ h' => h')
    exact wpAny_bind (wpAny_mono h₂ (fun _ s₃ h₃ => wpAny_bind (wpAny_bind (wpAny_mono h₃ (fun x s₄ h₄ => wpAny_bind (wpAny_mono h₄
      (fun _ s₅ h₅ => wpAny_pure (wpAny_pure ⟨rfl, h₅⟩)) fun _ _ h' => h')) fun _ _ h' => h'))) fun _ _ h' => h')

theorem ext_nil {θ t : Th} {μ : List MO} (h1 : (θ ++ t).length = μ.length) (h2 : θ.length = μ.length) : t = [] := by
  rw [List.length_append, h2] at h1
  exact List.eq_nil_of_length_eq_zero (by lia)
theorem th_same {g : G} {μ : List MO} {θ θ' : Th} {s s' : Shared} (W : Wld g θ μ s) (l : Lat g θ s θ' s') (W' : Wld g θ' μ s') : θ' = θ := by
  obtain ⟨t, rfl, _⟩ := l.pre
  have h1 := W.len
  have h2 := W'.len
  rw [List.length_append, ← h1] at h2
  have : t = [] := List.length_eq_zero_iff.mp (by lia)
  rw [this, List.append_nil]

section
variable {g : G} {k : Nat} {env : Env} {ρ ρ₁ ρ₂ ρc : En} {μ μ₁ μ₂ μ₃ : List MO}

theorem Lat.iter {θ θ' : Th} {s s' : Shared} {I : Addr} {h' : Heap} {n : Nat} (l : Lat g θ s θ' s') (e : s.heap.get? I = none) (hs : Heap.ExtBut I s'.heap h') : Lat g θ s θ' { s' with heap := h', toks := n } := by
  have ne : ∀ b o, s.heap.get? b = some o → b ≠ I := fun b o q z => by rw [z, e] at q; cases q
  refine ⟨l.pre, fun b o n1 q => hs b o (ne b o q) (l.keep b o n1 q), fun b o q => ?_⟩
  obtain ⟨o', e'⟩ := l.alive b o q
  exact ⟨o', hs b o' (ne b o q) e'⟩
/-- a later state: a frame made since then has turned its own names -/
theorem Lat.frame {θ θ' θ'' : Th} {s s' s'' : Shared} (l : Lat g θ s θ' s') (hL : s.heap.get? env.locals = none) (hO : ∀ c, Ow env c → s.heap.get? c = none) (k : LatS g env θ' s' θ'' s'') : Lat g θ s θ'' s'' := by
  obtain ⟨t, rfl, ht⟩ := l.pre
  obtain ⟨u, rfl, hu⟩ := k.pre
  have none_of : ∀ a, s'.heap.get? a = none → s.heap.get? a = none := fun a e => by
    cases q : s.heap.get? a with
    | none => rfl
    | some o => obtain ⟨o', e'⟩ := l.alive a o q; rw [e] at e'; cases e'
  refine ⟨⟨t ++ u, by rw [List.append_assoc], fun p hp => ?_⟩, fun b o nb e => ?_, fun b o e => ?_⟩
  · rcases List.mem_append.mp hp with hp | hp
    · exact ht p hp
    · exact ⟨none_of _ (hu p hp).1, none_of _ (hu p hp).2⟩
  · exact k.keep b o (bad_more e nb ht) (ne_of_none_some hL e).symm (fun w => by rw [hO b w] at e; cases e) (l.keep b o nb e)
  · obtain ⟨o', e'⟩ := l.alive b o e
    exact k.alive b o' e'

/-- what a comprehension asks of its element -/
def El (g : G) (k : Nat) (env : Env) (scope : Scope) (cl : List (Str × Addr)) (ρc : En) (μ : List MO) (target elt : Expr) (d e : D) : Prop :=
  GoOk g target d ∧ e.closed = true ∧ ∀ (C : Addr) (μ' : List MO), μ.length ≤ μ'.length → (∀ (i : Nat) (mo : MO), μ[i]? = some mo → μ'[i]? = some mo) → ∃ ρ' : En, (∀ x y, ρc.lookup x = some y → ρ'.lookup x = some y) ∧ Tg g k (compEnvC scope cl C env) target d ρc ρ' ∧ Ev g k (compEnvC scope cl C env) ρ' μ' elt e μ'

theorem comp_core {A : Around} {θ : Th} {s₁ : Shared} {E : Value → Shared → Prop} {elt target iter : Expr} {scope : Scope} {cl : List (Str × Addr)} {pos : Pos} {a : Addr} {vs : List Value} {n : Nat} {ds es : List D} {RR : Value → Addr → Result → Shared → Prop}
    (f : Fit k A) (S₁ : Sta g env θ ρ μ s₁) (ea : s₁.heap.get? a = some (lstO vs n)) (na : a ∉ bad g θ) (r : Vals g θ s₁.heap vs ds) (hz : ds.length ≤ sizeLine)
    (hkind : scope.kind = .function) (hcell : ∀ y ∈ scope.names, y.2 ≠ .cell) (hcl : ∀ x c, cl.lookup x = some c → env.cells.lookup x = some c)
    (hρ : ∀ x d, ρc.lookup x = some d → ρ.lookup x = some d ∧ (cl.lookup x).isSome = true ∧ (relabel scope env).names.lookup x ≠ some .local)
    (hlen : ds.length = es.length) (hel : ∀ (i : Nat) (d e : D), ds[i]? = some d → es[i]? = some e → El g k env scope cl ρc μ target elt d e)
    (fin : ∀ (Dd C : Addr) (m : Str → Option Value) (s' : Shared), s₁.heap.get? C = none → s'.heap.Ns C m → Lat g θ s₁ θ s' → Wld g θ μ s' → Val g θ s'.heap (.ref Dd) (.list es) → RR (.ref Dd) C (.ok .next) s') :
    wpAny g.M A (pyIter (.ref a)) (fun it s₂ => wpAny g.M A (newList []) (fun acc s₃ => wpAny g.M A (newFunctionEnv scope env.globals cl [] env.qual none .none (some env)) (fun cenv s₄ =>
      codeAny g.M A (.compStart (.ListComp elt [⟨target, iter, [], 0⟩] scope pos) 0 it acc { cenv with scope := relabel scope env }) (RR acc cenv.locals) s₄) E s₃) E s₂) E s₁ := by
  have hl : s₁.heap.IsList a vs.toArray := ⟨_, ea, rfl, _, rfl⟩
  refine wpAny_pyIter_list hl ?_
  generalize hI : s₁.heap.objs.size = I
  have eI : s₁.heap.get? I = none := hI ▸ get_size _
  generalize hs₂ : ({ s₁ with heap := s₁.heap.push { cls := .type "list_iterator", data := .fields #[.ref a, .int 0 0] } } : Shared) = s₂
  have k₂ : ∀ b o, s₁.heap.get? b = some o → s₂.heap.get? b = some o := fun b o e => by rw [← hs₂]; exact Heap.get?_push_of_some _ e
  have S₂ : Sta g env θ ρ μ s₂ := S₁.keeps k₂ (by rw [← hs₂]; exact S₁.W.gens) (by rw [← hs₂])
  have it₂ : s₂.heap.IsListIter I a 0 := by rw [← hs₂, ← hI]; exact ⟨_, Heap.get?_push_size _ rfl, rfl, rfl⟩
  refine wpAny_newList ?_ (by show 0 ≤ sizeLine; exact Nat.zero_le _)
  generalize hD : s₂.heap.objs.size = Dd
  have eD : s₂.heap.get? Dd = none := hD ▸ get_size _
  generalize hs₃ : ({ s₂ with heap := s₂.heap.push { cls := .type "list", data := .seq ([] : List Value).toArray } } : Shared) = s₃
  have k₃ : ∀ b o, s₂.heap.get? b = some o → s₃.heap.get? b = some o := fun b o e => by rw [← hs₃]; exact Heap.get?_push_of_some _ e
  have oD : s₃.heap.get? Dd = some (lstO [] 0) := by rw [← hs₃, ← hD]; exact Heap.get?_push_size _ rfl
  obtain ⟨W₃, L₃⟩ := S₂.W.grow (p := (Dd, Dd)) (mo := .list []) k₃ eD eD (by rw [← hs₃]; exact S₂.W.gens) (by rw [← hs₃]) (fun _ => .list oD .nil rfl)
  have S₃ : Sta g env (θ ++ [(Dd, Dd)]) ρ (μ ++ [.list []]) s₃ := S₂.lat L₃ W₃
  have L₁₃ : Lat g θ s₁ (θ ++ [(Dd, Dd)]) s₃ := (Lat.ofKeeps k₂).trans L₃
  refine comp_env (Q := fun cenv s₄ => codeAny g.M A (.compStart (.ListComp elt [⟨target, iter, [], 0⟩] scope pos) 0 (.ref I) (.ref Dd) cenv) (RR (.ref Dd) cenv.locals) s₄) S₃ hkind hcell hcl ρc hρ fun C s₄ eC k₄ S₄ => ?_
  have eC₁ : s₁.heap.get? C = none := by
    cases q : s₁.heap.get? C with
    | none => rfl
    | some o => exact nomatch (k₃ _ _ (k₂ _ _ q)).symm.trans eC
  have L₄ : Lat g θ s₁ (θ ++ [(Dd, Dd)]) s₄ := L₁₃.trans (.ofKeeps k₄)
  obtain ⟨oi, zq⟩ := id it₂
  have hoi := zq.1
  replace zq := zq.2
  have hci := zq.1
  replace zq := zq.2
  have hdi := zq
  clear zq
  have it₄ : s₄.heap.IsListIter I a 0 := ⟨oi, k₄ _ _ (k₃ _ _ hoi), hci, hdi⟩
  have bI : g.hB.get? I = none := fresh_base S₁.W eI
  have hID : I ≠ Dd := fun z => by rw [z, eD] at hoi; cases hoi
  have sI : Safe g (compEnvC scope cl C env) (θ ++ [(Dd, Dd)]) I := by
    refine ⟨fun m => ?_, fun z => ?_, fun hc => ?_⟩
    · rcases List.mem_append.mp m with q | q
      · exact fresh_bad S₁.W eI (List.mem_append.mpr (.inl q))
      · obtain ⟨p, hp, z⟩ := mem_adrs.mp q
        rcases List.mem_append.mp hp with hp | hp
        · exact fresh_adrs S₁.W eI (mem_adrs.mpr ⟨p, hp, z⟩)
        · rw [List.mem_singleton.mp hp] at z
          rcases z with z | z <;> exact hID z
    · have z' : I = C := z
      rw [z'] at hoi; exact nomatch (k₃ _ _ hoi).symm.trans eC
    · obtain ⟨n, e⟩ := hc
      obtain ⟨v, o, ho, _⟩ := S₁.F.cell I ⟨n, hcl n I e⟩
      rw [eI] at ho; cases ho
  have hCL : s₁.heap.get? (compEnvC scope cl C env).locals = none := eC₁
  have hCO : ∀ c, Ow (compEnvC scope cl C env) c → s₁.heap.get? c = none := fun c hc => by
    have := hc.1
    cases this
  have hvl := r.length
  have loop : codeAny g.M A (.compLoop (.ListComp elt [⟨target, iter, [], 0⟩] scope pos) 0 (.ref I) (.ref Dd) (compEnvC scope cl C env)) (RR (.ref Dd) C) s₄ := by
    refine compLoopT (I := fun j s' => ∃ i, Lat g θ s₁ (θ ++ [(Dd, Dd)]) s' ∧ Sta g (compEnvC scope cl C env) (θ ++ [(Dd, Dd)]) ρc (μ ++ [.list (es.take i)]) s' ∧ s'.heap.IsListIter I a i ∧ i ≤ vs.length ∧ j = vs.length + 1 - i) ?_ (vs.length + 1)
      ⟨0, L₄, by simpa using S₄, it₄, Nat.zero_le _, rfl⟩
    rintro j s' ⟨i, l', S', it', hi, rfl⟩
    have hl' : s'.heap.IsList a vs.toArray := ⟨_, l'.keep a _ na ea, rfl, _, rfl⟩
    obtain ⟨oj, zq⟩ := id it'
    have hoj := zq.1
    replace zq := zq.2
    have hcj := zq.1
    replace zq := zq.2
    have hdj := zq
    clear zq
    have hq : ∀ o, s'.heap.get? I = some o → ¬ ∃ us m, o.data = .seq us m := fun o e ⟨us, m, z⟩ => by
      rw [hoj] at e; cases e; cases (hdj).symm.trans z
    by_cases hlt : i < vs.length
    · have hv : vs.toArray[i]? = some vs[i] := by simp [hlt]
      refine wpAny_pyNext_list_item it' hl' hv fun h₁ it₁ hs₁ => ?_
      have S₅ := S'.iter (n := s'.toks) sI bI hq hs₁.extBut
      have l₅ : Lat g θ s₁ (θ ++ [(Dd, Dd)]) { s' with heap := h₁ } := l'.iter (n := s'.toks) eI hs₁.extBut
      obtain ⟨d, zq⟩ := r.get' (List.getElem?_eq_getElem hlt)
      have hd := zq.1
      replace zq := zq.2
      have V := zq
      clear zq
      have V₅ : Val g (θ ++ [(Dd, Dd)]) h₁ vs[i] d := V.latV l₅.v
      have hie : i < es.length := by lia
      have zq := hel i d es[i] hd (List.getElem?_eq_getElem hie)
      have hgo := zq.1
      replace zq := zq.2
      have hcd := zq.1
      replace zq := zq.2
      have hE := zq
      clear zq
      obtain ⟨ρ', hsub, ht, hx⟩ := hE C (μ ++ [.list (es.take i)]) (by simp) (fun i mo e => by rw [List.getElem?_append_left (List.getElem?_eq_some_iff.mp e).1]; exact e)
      refine hgo A _ _ I a (i + 1) _ _ _ it₁ V₅ ?_
      refine ht A _ _ _ _ _ _ f S₅ V₅ fun s₆ l₆ S₆ => ?_
      have l₆' := l₅.frame hCL hCO l₆
      refine hx A _ s₆ _ _ f S₆ fun v θ₇ s₇ l₇ W₇ V₇ => ?_
      have l₇' := l₆'.trans l₇
      obtain ⟨t, rfl, ht7⟩ := l₇.pre
      have ht0 := ext_nil W₇.len S₆.W.len
      subst ht0
      rw [List.append_nil] at W₇ V₇ l₇ l₇'
      have S₇ := S₆.lat l₇ W₇
      have hθ : (θ ++ [(Dd, Dd)])[θ.length]? = some (Dd, Dd) := by simp
      have hμ : (μ ++ [MO.list (es.take i)])[θ.length]? = some (.list (es.take i)) := by rw [S₁.W.len]; simp
      refine append_ob W₇ hθ hμ V₇ hcd (by rw [List.length_take]; lia) fun s₈ l₈ W₈ => ?_
      have e8 : (μ ++ [MO.list (es.take i)]).set θ.length (.list (es.take i ++ [es[i]])) = μ ++ [.list (es.take (i + 1))] := by
        rw [S₁.W.len, List.set_append_right _ _ (Nat.le_refl _), Nat.sub_self]
        have : es.take (i + 1) = es.take i ++ [es[i]] := by rw [List.take_add_one, List.getElem?_eq_getElem hie]; rfl
        rw [this]; rfl
      rw [e8] at W₈
      have S₈ := (S₇.lat l₈ W₈).sub hsub
      obtain ⟨o₁, zq⟩ := id it₁
      have ho₁ := zq.1
      replace zq := zq.2
      have hc₁ := zq.1
      replace zq := zq.2
      have hd₁ := zq
      clear zq
      have hI₈ : s₈.heap.get? I = some o₁ := l₈.keep _ _ sI.1 (l₇.keep _ _ sI.1 (sI.keep l₆ ho₁))
      exact ⟨vs.length + 1 - (i + 1), by lia, i + 1, l₇'.trans l₈, S₈, ⟨o₁, hI₈, hc₁, hd₁⟩, hlt, rfl⟩
    · have hin : i = vs.length := by lia
      refine wpAny_pyNext_list_end f.handled it' hl' (by simp; lia) fun h₁ he => ?_
      have S₅ := S'.iter (n := s'.toks) sI bI hq he
      have l₅ := l'.iter (n := s'.toks) eI he
      obtain ⟨m, zq⟩ := S₅.F.locals
      have hm := zq.1
      replace zq := zq.2
      clear zq
      have hes : es.take i = es := List.take_of_length_le (by lia)
      rw [hes] at S₅
      have hcl : closedAll es = true := by
        have hθ : (θ ++ [(Dd, Dd)])[θ.length]? = some (Dd, Dd) := by simp
        have hμ : (μ ++ [MO.list es])[θ.length]? = some (.list es) := by rw [S₁.W.len]; simp
        obtain ⟨_, _, zq⟩ := (S₅.W.has _ _ _ hθ hμ).list_inv
        replace zq := zq.2
        replace zq := zq.2
        replace zq := zq.2
        have c := zq
        clear zq
        exact c
      have V : Val g (θ ++ [(Dd, Dd)]) h₁ (.ref Dd) (.ob θ.length) := Val.ob (p := (Dd, Dd)) (by simp)
      refine fin Dd C m _ eC₁ hm ⟨⟨[], by simp, fun _ h => nomatch h⟩, l₅.keep, l₅.alive⟩ (S₅.W.less S₁.W.len) (Val.thaw S₅.W (.ob (Nat.le_refl _) (by rw [S₁.W.len]; simp)) V)
  exact codeAny_compStart_list loop (wpAny_pyIter_listiter it₄ loop)

theorem ns_noSeq {h : Heap} {C : Addr} {m : Str → Option Value} (hn : h.Ns C m) : ∀ o, h.get? C = some o → ¬ ∃ vs n, o.data = .seq vs n := fun o e ⟨vs, n, z⟩ => by
  obtain ⟨o', es, ep, ho, hd, _⟩ := hn
  cases (ho).symm.trans e
  cases (hd).symm.trans z

/-- a list comprehension -/
theorem Ev.comp {elt target iter : Expr} {scope : Scope} {cl : List (Str × Addr)} {pos : Pos} {ds es : List D} (h1 : Ev g k env ρ μ iter (.list ds) μ₁) (hz : ds.length ≤ sizeLine) (hclos : closureFor scope env = pure cl)
    (hkind : scope.kind = .function) (hcell : ∀ y ∈ scope.names, y.2 ≠ .cell) (hnames : ∀ y ∈ scope.names, y.2 = .local → scope.names.lookup y.1 = some .local) (hcl : ∀ x c, cl.lookup x = some c → env.cells.lookup x = some c)
    (hρ : ∀ x d, ρc.lookup x = some d → ρ.lookup x = some d ∧ (cl.lookup x).isSome = true ∧ (relabel scope env).names.lookup x ≠ some .local)
    (hlen : ds.length = es.length) (hel : ∀ (i : Nat) (d e : D), ds[i]? = some d → es[i]? = some e → El g k env scope cl ρc μ₁ target elt d e)
    (hs : ∀ x, foldedSetIterable iter env x = pure x := by intro _; rfl) : Ev g k env ρ μ (.ListComp elt [⟨target, iter, [], 0⟩] scope pos) (.list es) μ₁ := by
  intro A θ s Q E f S q
  rw [eval_ListComp]
  refine wpAny_comprehension_free (use := none) rfl hs hclos hkind hnames (h1 A θ s _ E f S fun v θ₁ s₁ l₁ W₁ V₁ => ?_)
  obtain ⟨a, vs, n, rfl, zq⟩ := V₁.list_inv
  have ea := zq.1
  replace zq := zq.2
  have na := zq.1
  replace zq := zq.2
  have r := zq
  clear zq
  have S₁ := S.lat l₁ W₁
  refine comp_core (RR := fun acc C => compPost g.M A E none Q acc C) f S₁ ea na r hz hkind hcell hcl hρ hlen hel ?_
  intro Dd C m s' eC hn L' W' V'
  refine ⟨m, hn, fun h' hs' => ?_⟩
  have bC := fresh_base W₁ eC
  have hq := ns_noSeq hn
  have l9 : Lat g θ₁ s₁ θ₁ { s' with heap := h' } := L'.iter (n := s'.toks) eC hs'.extBut
  exact q _ θ₁ _ (l₁.trans l9) (W'.same (n := s'.toks) bC (fresh_adrs W₁ eC) hq hs'.extBut)
    (V'.latV ⟨⟨[], by simp, fun _ h => nomatch h⟩, fun b o _ e z => hs'.extBut b o (fun w => hq o (w ▸ e) z) e⟩)

end
end Mine
end

-- part F9
section
namespace Mine
open PySem PySem.W PyProof.Rows

mutual
def toPy : D → Option PyData
  | .none => some .none
  | .bool b => some (.bool b)
  | .int i => some (.int i)
  | .flt _ => none
  | .str x => some (.str x)
  | .tup ds => (toPys ds).map .tuple
  | .list ds => (toPys ds).map .list
  | .ob _ => none
def toPys : List D → Option (List PyData)
  | [] => some []
  | d :: r => (toPy d).bind fun x => (toPys r).map (x :: ·)
end

section
variable {g : G} {k : Nat} {env : Env} {ρ ρ₁ ρ₂ : En} {μ μ₁ μ₂ μ₃ : List MO}
theorem reads_both {θ : Th} {h : Heap} : (∀ v d, Val g θ h v d → ∀ p, toPy d = some p → ∃ as, Reads h v p as) ∧ ∀ vs ds, Vals g θ h vs ds → ∀ ps, toPys ds = some ps → ∃ as, ReadsAll h vs ps as := by
  refine Val.both (fun p e => ?_) (fun b p e => ?_) (fun i t p e => ?_) (fun x t p e => ?_) (fun x t p e => ?_) (fun a vs n ds h _ _ k p e => ?_) (fun a vs n ds h _ _ k p e => ?_) (fun i r _ p e => ?_) (fun p e => ?_) (fun v vs d ds _ _ k l p e => ?_)
  · cases e; exact ⟨[], .none⟩
  · cases e; exact ⟨[], .bool b⟩
  · cases e; exact ⟨[], .int i t⟩
  · cases e
  · cases e; exact ⟨[], .str x t⟩
  · obtain ⟨ps, hp, rfl⟩ := Option.map_eq_some_iff.mp e
    obtain ⟨as, R⟩ := k _ hp
    exact ⟨_, .tuple h rfl rfl R⟩
  · obtain ⟨ps, hp, rfl⟩ := Option.map_eq_some_iff.mp e
    obtain ⟨as, R⟩ := k _ hp
    exact ⟨_, .list h rfl rfl R⟩
  · cases e
  · cases e; exact ⟨[], .nil⟩
  · obtain ⟨x, hx, e'⟩ := Option.bind_eq_some_iff.mp e
    obtain ⟨xs, hxs, rfl⟩ := Option.map_eq_some_iff.mp e'
    obtain ⟨as, R⟩ := k _ hx
    obtain ⟨bs, Rs⟩ := l _ hxs
    exact ⟨_, .cons R Rs⟩
theorem Val.reads {θ : Th} {h : Heap} {v : Value} {d : D} {p : PyData} (x : Val g θ h v d) (e : toPy d = some p) : ∃ as, Reads h v p as := reads_both.1 _ _ x _ e
theorem Vals.reads {θ : Th} {h : Heap} {vs : List Value} {ds : List D} {ps : List PyData} (x : Vals g θ h vs ds) (e : toPys ds = some ps) : ∃ as, ReadsAll h vs ps as := reads_both.2 _ _ x _ e
theorem subOf {ρ ρ' : En} (h : ∀ p ∈ ρ', ρ.lookup p.1 = some p.2) : ∀ x d, ρ'.lookup x = some d → ρ.lookup x = some d := fun x d e => h (x, d) (mem_of_lookup e)
theorem Ev.cast {e : Expr} {d d' : D} (h : Ev g k env ρ μ e d μ₁) (hd : d = d') : Ev g k env ρ μ e d' μ₁ := hd ▸ h
/-- two data that are the same are not unequal -/
theorem Op.ne_same {d : D} {p : PyData} (hp : toPy d = some p) (hs : SeqAt.shaped p = true) : Op g k (.bool false) (compareOp .NotEq) d d := by
  intro A θ μ s va vb Q E f W V1 V2 q
  obtain ⟨as, R1⟩ := V1.reads hp
  obtain ⟨bs, R2⟩ := V2.reads hp
  refine ne_dataH R1 R2 hs hs (by have := f.units; lia) ?_
  rw [SeqAt.eqv_refl p (SeqAt.canLay_of_shaped hs)]
  exact q _ _ (.refl ..) W (.bool _)
/-- None is in no list of tuples -/
theorem Op.none_in {ds : List D} (h : ∀ d ∈ ds, ∃ es, d = .tup es) : Op g (k + 1) (.bool false) (compareOp .In) .none (.list ds) := by
  intro A θ μ s va vb Q E f W V1 V2 q
  cases V1
  obtain ⟨a, vs, n, rfl, e, nb, r⟩ := V2.list_inv
  have hl : s.heap.IsList a vs.toArray := ⟨_, e, rfl, _, rfl⟩
  refine SeqAt.in_listAt (fun _ => false) hl (fun y hy => ?_) ?_
  · obtain ⟨i, hi, ei⟩ := List.getElem_of_mem (by simpa using hy : y ∈ vs)
    obtain ⟨d, hd, V⟩ := r.get' (List.getElem?_eq_getElem hi)
    obtain ⟨es, rfl⟩ := h d (List.mem_of_getElem? hd)
    rw [ei] at V
    obtain ⟨b, us, m, rfl, zq⟩ := V.tup_inv
    have e' := zq.1
    replace zq := zq.2
    replace zq := zq.2
    clear zq
    exact SeqAt.EqAt.tuple_none ⟨_, e', rfl, _, rfl⟩ (by have := f.in1.units; lia)
  · have : vs.toArray.any (fun _ => false) = false := by simp
    rw [this]
    exact q _ _ (.refl ..) W (.bool _)

/-- a slice of a list of data: its two ends as given -/
inductive Part (g : G) (k : Nat) (env : Env) (ρ : En) (μ : List MO) : Option Expr → Option Nat → List MO → Prop
  | none : Part g k env ρ μ .none .none μ
  | some {e : Expr} {n : Nat} {μ' : List MO} : Ev g k env ρ μ e (.int n) μ' → Part g k env ρ μ (.some e) (.some n) μ'
theorem Part.ev {e : Option Expr} {n : Option Nat} (h : Part g k env ρ μ e n μ₁) {A : Around} {θ : Th} {s : Shared} {Q : Value → Shared → Prop} {E : Value → Shared → Prop} (f : Fit k A) (S : Sta g env θ ρ μ s)
    (q : ∀ v θ' s', Lat g θ s θ' s' → Wld g θ' μ₁ s' → IsPart v (n.map fun x => (x : Int)) → Q v s') : wpAny g.M A (evalPart e env) Q E s := by
  cases h with
  | none => exact wpAny_evalPart_none (q _ θ s (.refl ..) S.W .none)
  | some h => exact wpAny_evalPart_some (h A θ s Q E f S fun v θ' s' l' W' V' => by cases V'; exact q _ θ' s' l' W' (.int _ _))
def cut (ds : List D) : Option Nat → Option Nat → List D
  | .none, .none => ds
  | .some a, .none => ds.drop a
  | .none, .some b => ds.take b
  | .some a, .some b => (ds.take b).drop a
theorem Ev.slice {value : Expr} {lo hi : Option Expr} {p pos : Pos} {ds : List D} {a b : Option Nat} (h1 : Ev g k env ρ μ value (.list ds) μ₁) (h2 : Part g k env ρ μ₁ lo a μ₂) (h3 : Part g k env ρ μ₂ hi b μ₃) (hab : a = .none ∨ b = .none) (hz : ds.length ≤ sizeLine) :
    Ev g k env ρ μ (.Subscript value (.Slice lo hi .none p) pos) (.list (cut ds a b)) μ₃ := by
  intro A θ s Q E f S q
  refine Subscript_ (h1 A θ s _ E f S fun v θ₁ s₁ l₁ W₁ V₁ => ?_)
  have S₁ := S.lat l₁ W₁
  refine wpAny_Slice (h2.ev f S₁ fun vl θ₂ s₂ l₂ W₂ P₂ => ?_)
  have S₂ := S₁.lat l₂ W₂
  refine h3.ev f S₂ fun vu θ₃ s₃ l₃ W₃ P₃ => wpAny_evalPart_none ?_
  have V₃ := (V₁.lat l₂).lat l₃
  obtain ⟨l, vs, n, rfl, zq⟩ := V₃.list_inv
  have e := zq.1
  replace zq := zq.2
  have nb := zq.1
  replace zq := zq.2
  have r := zq
  clear zq
  generalize hs₄ : ({ s₃ with heap := s₃.heap.push { cls := .type "slice", data := .fields #[vl, vu, .none] } } : Shared) = s₄
  have k₄ : ∀ b o, s₃.heap.get? b = some o → s₄.heap.get? b = some o := fun b o eb => by rw [← hs₄]; exact Heap.get?_push_of_some _ eb
  have W₄ : Wld g θ₃ μ₃ s₄ := W₃.keeps k₄ (by rw [← hs₄]; exact W₃.gens) (by rw [← hs₄])
  have hl : s₄.heap.IsList l vs.toArray := ⟨_, k₄ _ _ e, rfl, _, rfl⟩
  have hsl : s₄.heap.IsSliceOf s₃.heap.objs.size vl vu .none := by rw [← hs₄]; exact ⟨_, Heap.get?_push_size _ rfl, rfl, rfl⟩
  have hlen := r.length
  refine tail_any hl.typeIs slot_list_getitem.lookup (wpAny_getItem_list_slice hl hsl P₂ P₃ .none (by simp) ?_ (by simp; lia)) (by rfl) (ops := _)
  have l4 : Lat g θ s θ₃ s₄ := ((l₁.trans l₂).trans l₃).trans (.ofKeeps k₄)
  have fin : ∀ us : List Value, slicePick vs.toArray (a.map fun x => (x : Int)) (b.map fun x => (x : Int)) .none = us.toArray → Vals g θ₃ s₄.heap us (cut ds a b) →
      Q (.ref s₄.heap.objs.size) { s₄ with heap := s₄.heap.push { cls := .type "list", data := .seq (slicePick vs.toArray (a.map fun x => (x : Int)) (b.map fun x => (x : Int)) .none) } } := fun us hu V => by
    rw [hu]
    exact q _ θ₃ _ (l4.trans (Lat.push _)) (W₄.push _) (new_list W₄ V)
  have r4 : Vals g θ₃ s₄.heap vs ds := r.lat (.ofKeeps k₄)
  cases a with
  | none =>
    cases b with
    | none => exact fin vs (slicePick_all _) r4
    | some b => exact fin (vs.take b) (slicePick_upto' _ _) (r4.take b)
  | some a =>
    cases b with
    | none => exact fin (vs.drop a) (slicePick_from' _ _) (r4.drop a)
    | some b => rcases hab with h | h <;> cases h

/-- a sign of a text -/
theorem Ev.item_str {value slice : Expr} {p : Pos} {x : Str} {i : Int} {c : Nat} (h1 : Ev g k env ρ μ value (.str x) μ₁) (h2 : Ev g k env ρ μ₁ slice (.int i) μ₂) (hi : (decide (i < -(2 ^ 63 : Int)) || decide (i ≥ 2 ^ 63)) = false) (hc : (seqIndex? i x.length).bind (x.cps[·]?) = some c)
    (hs : ∀ o j : Value, subscripted slice false o j = operate [o, j] (getItem o j) := by intro _ _; rfl) : Ev g k env ρ μ (.Subscript value slice p) (.str ⟨#[c]⟩) μ₂ := by
  intro A θ s Q E f S q
  refine Subscript_ (h1 A θ s _ E f S fun va θ₁ s₁ l₁ W₁ V₁ => h2 A θ₁ s₁ _ E f (S.lat l₁ W₁) fun vb θ₂ s₂ l₂ W₂ V₂ => ?_)
  cases V₂; cases V₁
  exact tail_any (typeIs_str _ _ _) F.slot_str_getitem.lookup (P.getItem_str hi hc (q _ θ₂ _ (l₁.trans l₂).toks (W₂.tok _) (.str _ _))) (hs _ _)

/-- a new list of the store -/
theorem Ev.newOb {es : List Expr} {ds : List D} {p : Pos} (h : Evs g k env ρ μ es ds μ₁) (hz : ds.length ≤ sizeLine) (hc : closedAll ds = true) : Ev g k env ρ μ (.List es p) (.ob μ₁.length) (μ₁ ++ [.list ds]) := fun A θ s Q E f S q =>
  wpAny_List (h A θ s p _ E f S fun vs θ₁ s₁ l₁ W₁ V₁ => ⟨V₁.length ▸ hz, by
    obtain ⟨W', L'⟩ := W₁.grow (s' := { s₁ with heap := s₁.heap.push (lstO vs 0) }) (p := (s₁.heap.objs.size, s₁.heap.objs.size)) (mo := .list ds) (fun _ _ e => Heap.get?_push_of_some _ e) (get_size _) (get_size _) W₁.gens rfl
      (fun hv => .list (Heap.get?_push_size _ rfl) (V₁.latV hv) hc)
    exact q _ _ _ (l₁.trans L') W' (.ob (p := (s₁.heap.objs.size, s₁.heap.objs.size)) (by rw [← W₁.len]; simp))⟩)

/-- x.append(e) upon a list of the store -/
theorem Ev.append {o e : Expr} {apos pos : Pos} {i : Nat} {ds : List D} {d : D} (h1 : Ev g k env ρ μ o (.ob i) μ₁) (h2 : Ev g k env ρ μ₁ e d μ₂) (hi : μ₁[i]? = some (.list ds)) (hi₂ : μ₂[i]? = some (.list ds)) (hc : d.closed = true) (hz : ds.length ≤ sizeLine) {pl : Sem Bool}
    (hm : eval (.Call (.Attribute o "append" apos) [e] [] pos) env = (do
      let ov ← eval o env
      standAt apos.atName
      let (f, first) ← holding [ov] (getMethod ov "append" pl)
      callWith pos f first (backTo pos (starEach [e] env)) []) := by rfl)
    (hs : starEach [e] env = [(false, eval e env)] := by rfl) : Ev g k env ρ μ (.Call (.Attribute o "append" apos) [e] [] pos) .none (μ₂.set i (.list (ds ++ [d]))) := by
  intro A θ s Q E f S q
  refine MethodCall_ (pl := pl) (h1 A θ s _ E f S fun v θ₁ s₁ l₁ W₁ V₁ => ?_) hm
  obtain ⟨p, ep, rfl⟩ := V₁.ob_inv
  obtain ⟨vs, n, zq⟩ := (W₁.has i p _ ep hi).list_inv
  have hp := zq.1
  replace zq := zq.2
  have eo := zq.1
  replace zq := zq.2
  have r := zq.1
  replace zq := zq.2
  have c := zq
  clear zq
  refine getMethod_list_of F.slot_list_append F.type_list_append ⟨_, eo, rfl, _, rfl⟩ ?_ ?_
  · exact ⟨_, eo, rfl⟩
  refine callWith_method1 ((Evs.cons h2 Evs.nil hs) A θ₁ s₁ pos _ E f (S.lat l₁ W₁) fun us θ₂ s₂ l₂ W₂ V₂ => ?_) hs rfl
  cases V₂ with
  | cons V r2 =>
    cases r2
    have ep₂ : θ₂[i]? = some p := by
      obtain ⟨t, rfl, _⟩ := l₂.pre
      rw [List.getElem?_append_left (List.getElem?_eq_some_iff.mp ep).1]; exact ep
    exact append_ob W₂ ep₂ hi₂ V hc hz fun s' l' W' => q _ θ₂ s' ((l₁.trans l₂).trans l') W' .none
end
end Mine
end

-- part F10
section
namespace Mine
open PySem PySem.W PyProof.Rows

def GoK (t : Expr) (d : D) : Prop := (∃ x p, t = .Name x p) ∨ ∃ ts n p ds, t = .Tuple ts n p ∧ d = .tup ds
theorem GoK.name {x : Str} {p : Pos} {d : D} : GoK (.Name x p) d := .inl ⟨x, p, rfl⟩
theorem GoK.tup {ts : List Expr} {n : Nat} {p : Pos} {ds : List D} : GoK (.Tuple ts n p) (.tup ds) := .inr ⟨ts, n, p, ds, rfl, rfl⟩

/-- an iterator at I over ds: P i o says that o is its object behind i items -/
structure Itr (g : G) (θ : Th) (h : Heap) (I : Addr) (ds : List D) (P : Nat → Obj → Prop) : Prop where
  noSeq : ∀ {i : Nat} {o : Obj}, P i o → ¬ ∃ us m, o.data = .seq us m
  self : ∀ {A : Around} {s' : Shared} {i : Nat} {o : Obj} {Q : Value → Shared → Prop} {E : Value → Shared → Prop}, s'.heap.get? I = some o → P i o → Q (.ref I) s' → wpAny g.M A (pyIter (.ref I)) Q E s'
  go : ∀ {A : Around} {θ' : Th} {s' : Shared} {i : Nat} {o : Obj} {t : Expr} {d : D} {v : Value} {Q : Unit → Shared → Prop} {E : Value → Shared → Prop}, s'.heap.get? I = some o → P i o → d ∈ ds → GoK t d → Val g θ' s'.heap v d → Q () s' → wpAny g.M A (letOwnedTupleGo t (.ref I) v) Q E s'
  item : ∀ {A : Around} {θ' : Th} {s' : Shared} {i : Nat} {o : Obj} {d : D} {Q : Option Value → Shared → Prop} {E : Value → Shared → Prop}, A.handled = none → LatV g θ h θ' s'.heap → s'.heap.get? I = some o → P i o → ds[i]? = some d →
    (∀ v h' o' n, h'.get? I = some o' → P (i + 1) o' → Heap.ExtBut I s'.heap h' → Val g θ' h' v d → Q (some v) { s' with heap := h', toks := n }) → wpAny g.M A (pyNext (.ref I)) Q E s'
  done : ∀ {A : Around} {θ' : Th} {s' : Shared} {o : Obj} {Q : Option Value → Shared → Prop} {E : Value → Shared → Prop}, A.handled = none → LatV g θ h θ' s'.heap → s'.heap.get? I = some o → P ds.length o →
    (∀ h', Heap.ExtBut I s'.heap h' → Q none { s' with heap := h' }) → wpAny g.M A (pyNext (.ref I)) Q E s'

/-- a value that an iterator can be had of -/
def Can (g : G) (θ : Th) (s : Shared) (v : Value) (ds : List D) : Prop :=
  ∀ (A : Around) (Q : Value → Shared → Prop) (E : Value → Shared → Prop), (∀ (I : Addr) (s₂ : Shared) (P : Nat → Obj → Prop) (o : Obj), s.heap.get? I = none → (∀ b o, s.heap.get? b = some o → s₂.heap.get? b = some o) → s₂.gens = s.gens → s₂.os = s.os → s₂.heap.get? I = some o → P 0 o → Itr g θ s.heap I ds P → Q (.ref I) s₂) →
    wpAny g.M A (pyIter v) Q E s
def Itb (g : G) (k : Nat) (env : Env) (ρ : En) (μ : List MO) (e : Expr) (ds : List D) (μ' : List MO) : Prop :=
  ∀ (A : Around) (θ : Th) (s : Shared) (Q : Value → Shared → Prop) (E : Value → Shared → Prop), Fit k A → Sta g env θ ρ μ s →
    (∀ v θ' s', Lat g θ s θ' s' → Wld g θ' μ' s' → Can g θ' s' v ds → Q v s') → wpAny g.M A (eval e env) Q E s

section
variable {g : G} {k : Nat} {env : Env} {ρ ρ₁ ρ₂ ρc : En} {μ μ₁ μ₂ μ₃ : List MO}

theorem LatV.ext {θ : Th} {h h' : Heap} {I : Addr} (hq : ∀ o, h.get? I = some o → ¬ ∃ vs n, o.data = .seq vs n) (hs : Heap.ExtBut I h h') : LatV g θ h θ h' :=
  ⟨⟨[], by simp, fun _ h => nomatch h⟩, fun b o _ e z => hs b o (fun w => hq o (w ▸ e) z) e⟩

theorem Can.list {θ : Th} {s : Shared} {v : Value} {ds : List D} (V : Val g θ s.heap v (.list ds)) : Can g θ s v ds := by
  intro A Q E q
  obtain ⟨a, vs, n, rfl, ea, na, r⟩ := V.list_inv
  have hl : s.heap.IsList a vs.toArray := ⟨_, ea, rfl, _, rfl⟩
  refine wpAny_pyIter_list hl ?_
  have hlen := r.length
  have hai : a ≠ s.heap.objs.size := fun z => by rw [z, get_size] at ea; cases ea
  refine q s.heap.objs.size _ (fun i o => o.cls = .type "list_iterator" ∧ o.data = .fields #[.ref a, .int i 0]) _ (get_size _) (fun b o e => Heap.get?_push_of_some _ e) rfl rfl (Heap.get?_push_size _ rfl) ⟨rfl, rfl⟩ ⟨?_, ?_, ?_, ?_, ?_⟩
  · rintro i o ⟨_, hd⟩ ⟨us, m, z⟩
    cases (hd).symm.trans z
  · rintro A s' i o Q E ho ⟨hc, hd⟩ h
    exact wpAny_pyIter_listiter ⟨o, ho, hc, hd⟩ h
  · rintro A θ' s' i o t d v Q E ho ⟨hc, hd⟩ _ hg V h
    rcases hg with ⟨x, p, rfl⟩ | ⟨ts, n, p, ds, rfl, rfl⟩
    · exact wpAny_pure h
    · obtain ⟨b, ws, m, rfl, _⟩ := V.tup_inv
      exact wpAny_letOwnedTupleGo_listiter ⟨o, ho, hc, hd⟩ h
  · rintro A θ' s' i o d Q E hh l ho ⟨hc, hd⟩ hi h
    obtain ⟨v, hv, V⟩ := r.get hi
    have hl' : s'.heap.IsList a vs.toArray := ⟨_, l.keep _ _ na ea ⟨_, _, rfl⟩, rfl, _, rfl⟩
    refine wpAny_pyNext_list_item (i := i) ⟨o, ho, hc, hd⟩ hl' (by simpa using hv) fun h₁ it₁ hs₁ => ?_
    obtain ⟨o₁, ho₁, hc₁, hd₁⟩ := it₁
    have hq : ∀ o', s'.heap.get? s.heap.objs.size = some o' → ¬ ∃ vs n, o'.data = .seq vs n := fun o' e ⟨us, m, z⟩ => by
      rw [ho] at e; cases e; cases (hd).symm.trans z
    exact h v h₁ o₁ s'.toks ho₁ ⟨hc₁, hd₁⟩ hs₁.extBut ((V.latV l).latV (LatV.ext hq hs₁.extBut))
  · rintro A θ' s' o Q E hh l ho ⟨hc, hd⟩ h
    have hl' : s'.heap.IsList a vs.toArray := ⟨_, l.keep _ _ na ea ⟨_, _, rfl⟩, rfl, _, rfl⟩
    exact wpAny_pyNext_list_end (i := ds.length) hh ⟨o, ho, hc, hd⟩ hl' (by simp; lia) h
theorem Itb.list {e : Expr} {ds : List D} (h : Ev g k env ρ μ e (.list ds) μ₁) : Itb g k env ρ μ e ds μ₁ := fun A θ s Q E f S q =>
  h A θ s Q E f S fun v θ' s' l W V => q v θ' s' l W (.list V)

def rng (n : Nat) : List D := (List.range n).map fun (i : Nat) => D.int i
theorem Can.range {θ : Th} {s : Shared} {r : Addr} {n : Nat} {t u v : Tok} (hr : IsRange s.heap r 0 n 1 t u v) (hn : n < 1000) : Can g θ s (.ref r) (rng n) := by
  intro A Q E q
  have hsz : Builtin.Range.rangeSize 0 n 1 = n := by rw [rangeSize_one]; split <;> lia
  have hfit : ∀ x : Int, 0 ≤ x → x ≤ 1000 → Builtin.Range.rangeFitsLong x = true := fun x h0 h1 => by
    unfold Builtin.Range.rangeFitsLong
    simp; lia
  refine wpAny_pyIter_range hr ?_ ?_
  · unfold Builtin.Range.small
    rw [hsz]
    simp [hfit 0 (by lia) (by lia), hfit n (by lia) (by lia), hfit 1 (by lia) (by lia)]
    try lia
  rw [hsz]
  refine q s.heap.objs.size _ (fun i o => o = { cls := .type "range_iterator", dict := none, data := .fields #[rawInt i, rawInt ((n : Int) - i), rawInt 1], slots := #[] }) _ (get_size _) (fun b o e => Heap.get?_push_of_some _ e) rfl rfl (Heap.get?_push_size _ rfl) (by rfl) ⟨?_, ?_, ?_, ?_, ?_⟩
  · rintro i o rfl ⟨us, m, z⟩
    cases z
  · rintro A s' i o Q E ho rfl h
    exact wpAny_pyIter_rangeiter ho h
  · rintro A θ' s' i o t d v Q E ho rfl hm hg V h
    rcases hg with ⟨x, p, rfl⟩ | ⟨ts, n, p, ds, rfl, rfl⟩
    · exact wpAny_pure h
    · simp [rng] at hm
  · rintro A θ' s' i o d Q E hh l ho rfl hi h
    rw [rng, List.getElem?_map, Option.map_eq_some_iff] at hi
    obtain ⟨j, hj, rfl⟩ := hi
    have hjn : i < n ∧ i = j := by
      have := List.getElem?_eq_some_iff.mp hj
      obtain ⟨h1, h2⟩ := this
      simp at h1 h2
      exact ⟨h1, h2⟩
    obtain ⟨hin, rfl⟩ := hjn
    refine wpAny_pyNext_range_item ho (by lia) fun h₁ it₁ hs₁ => ?_
    exact h _ h₁ _ _ it₁ (by
      have e1 : (n : Int) - i - 1 = n - ((i + 1 : Nat) : Int) := by lia
      have e2 : (i : Int) + 1 = ((i + 1 : Nat) : Int) := by lia
      rw [e1, e2]) hs₁.extBut (.int _ _)
  · rintro A θ' s' o Q E hh l ho rfl h
    have e : ((rng n).length : Int) = n := by simp [rng]
    exact wpAny_pyNext_range_end hh ho (by rw [e]; lia) h
theorem Itb.range {np pos : Pos} {e : Expr} {n : Nat} (hk : env.kindOf "range" = some .globalImplicit) (hm : g.mg "range" = none) (hb : g.mb "range" = some (.type "range")) (h1 : Ev g k env ρ μ e (.int n) μ₁) (hn : n < 1000)
    (hs : starEach [e] env = [(false, eval e env)] := by rfl) : Itb g k env ρ μ (.Call (.Name "range" np) [e] [] pos) (rng n) μ₁ := by
  intro A θ s Q E f S q
  refine wpAny_Call_NameR (global_builtin S hk hm hb (by decide) ?_)
  refine Pv.callWith_type1 (Evs.cons h1 Evs.nil hs A θ s pos _ E f S fun vs θ₁ s₁ l₁ W₁ V₁ => ?_) hs rfl
  cases V₁ with
  | cons V r =>
    cases r
    cases V
    rename_i tk
    refine call_range_1 ?_
    have hk : ∀ b o, s₁.heap.get? b = some o → ({ s₁ with heap := s₁.heap.push { cls := .type "range", data := .fields #[.int 0 s₁.toks, .int n tk, .int 1 (s₁.toks + 1)] }, toks := s₁.toks + 1 + 1 } : Shared).heap.get? b = some o := fun b o e => Heap.get?_push_of_some _ e
    exact q _ θ₁ _ (l₁.trans (.ofKeeps hk)) (W₁.keeps hk W₁.gens rfl) (Can.range (Heap.get?_push_size _ rfl) hn)
end
end Mine
end

-- part F11
section
namespace Mine
open PySem PySem.W PyProof.Rows
theorem turn2 (elt t0 i0 t1 i1 : Expr) (scope : Scope) (pos : Pos) (it acc : Value) (env : Env) :
    compTurn (.ListComp elt [⟨t0, i0, [], 0⟩, ⟨t1, i1, [], 0⟩] scope pos) 0 it acc env = (standAt i0.pos >>= fun _ => pyNext it >>= fun r => match r with
      | none => pure (.done .next)
      | some v => letOwnedTupleGo t0 it v >>= fun _ => assign t0 env v >>= fun _ =>
        (eval i1 env >>= fun x => standAt i1.pos >>= fun _ => foldedSetIterable i1 env x >>= fun x => holding [x] (pyIter x) >>= fun it1 => runOwn (.compStart (.ListComp elt [⟨t0, i0, [], 0⟩, ⟨t1, i1, [], 0⟩] scope pos) 1 it1 acc env) env >>= fun _ => pure ()) >>= fun _ =>
          again (.compLoop (.ListComp elt [⟨t0, i0, [], 0⟩, ⟨t1, i1, [], 0⟩] scope pos) 0 it acc env)) := by
  simp only [bind_assoc, pure_bind]
  rfl
theorem turn21 (elt t0 i0 t1 i1 : Expr) (scope : Scope) (pos : Pos) (it acc : Value) (env : Env) :
    compTurn (.ListComp elt [⟨t0, i0, [], 0⟩, ⟨t1, i1, [], 0⟩] scope pos) 1 it acc env = (standAt i1.pos >>= fun _ => pyNext it >>= fun r => match r with
      | none => pure (.done .next)
      | some v => letOwnedTupleGo t1 it v >>= fun _ => assign t1 env v >>= fun _ =>
        (eval elt env >>= fun x => call (.builtin "list.append") [acc, x] >>= fun _ => pure ()) >>= fun _ =>
          again (.compLoop (.ListComp elt [⟨t0, i0, [], 0⟩, ⟨t1, i1, [], 0⟩] scope pos) 1 it acc env)) := by rfl
theorem compStart_21 {prog : Program} {w : World} {A : Around} {s : Shared} {R : Result → Shared → Prop} {elt t0 i0 t1 i1 scope pos it acc env}
    (h0 : codeAny (model prog w) A (.compLoop (.ListComp elt [⟨t0, i0, [], 0⟩, ⟨t1, i1, [], 0⟩] scope pos) 1 it acc env) R s)
    (h : wpAny (model prog w) A (pyIter it) (fun it' s' => codeAny (model prog w) A (.compLoop (.ListComp elt [⟨t0, i0, [], 0⟩, ⟨t1, i1, [], 0⟩] scope pos) 1 it' acc env) R s')
      (notedBy (model prog w) A env fun x s' => R (.error x) s') s) :
    codeAny (model prog w) A (.compStart (.ListComp elt [⟨t0, i0, [], 0⟩, ⟨t1, i1, [], 0⟩] scope pos) 1 it acc env) R s := by
  refine codeAny_of_tree ?_
  show wpAny _ _ ((compStart (.ListComp elt [⟨t0, i0, [], 0⟩, ⟨t1, i1, [], 0⟩] scope pos) 1 it acc env).onRaise (fun x => do noteFrame x env; standAt theWindowsPlace)) _ _ s
  refine wpAny_notedAt ?_
  unfold compStart
  show wpAny _ _ (ask >>= _) _ _ s
  refine wpAny_bind (wpAny_askSetting (wpAny_ite ?_))
  split
  · first
      | exact wpAny_bind (wpAny_pure (wpAny_pure (And.intro rfl h0)))
      | exact wpAny_pure (And.intro rfl h0)
  · first
      | exact wpAny_bind (wpAny_rule (wpAny_bind (wpAny_standAt (wpAny_bind (wpAny_mono h (fun it' s' h' => wpAny_pure (And.intro rfl h')) fun _ _ x => x)))))
      | (refine wpAny_bind (wpAny_rule ?_); show wpAny _ _ (standAt i1.pos >>= _) _ _ s; exact wpAny_bind (wpAny_standAt (wpAny_bind (wpAny_mono h (fun it' s' h' => wpAny_pure (And.intro rfl h')) fun _ _ x => x))))

/-- a turn of a comprehension: its target, then what it does -/
def turnOf (p : Pos) (it : Value) (target : Expr) (env : Env) (t : Sem Unit) (c : Code) : Sem Fin :=
  standAt p >>= fun _ => pyNext it >>= fun r => match r with
      | none => pure (.done .next)
      | some v => letOwnedTupleGo target it v >>= fun _ => assign target env v >>= fun _ => t >>= fun _ => again c

theorem compLoopG {prog : Program} {w : World} {A : Around} {s : Shared} {R : Result → Shared → Prop} {elt target : Expr} {gens : List Comprehension} {scope : Scope} {pos : Pos} {dep : Nat} {it acc : Value} {env : Env} {t : Sem Unit} {p : Pos} (I : Nat → Shared → Prop)
    (ht : compTurn (.ListComp elt gens scope pos) dep it acc env = turnOf p it target env t (.compLoop (.ListComp elt gens scope pos) dep it acc env))
    (turn : ∀ n s, I n s → wpAny (model prog w) A (pyNext it) (fun r s₁ => match r with
      | none => R (.ok .next) s₁
      | some v => wpAny (model prog w) A (letOwnedTupleGo target it v) (fun _ s₂ => wpAny (model prog w) A (assign target env v) (fun _ s₃ => wpAny (model prog w) A t (fun _ s₄ => ∃ m, m < n ∧ I m s₄)
          (notedBy (model prog w) A env fun e s' => R (.error e) s') s₃) (notedBy (model prog w) A env fun e s' => R (.error e) s') s₂) (notedBy (model prog w) A env fun e s' => R (.error e) s') s₁) (notedBy (model prog w) A env fun e s' => R (.error e) s') s)
    (n : Nat) (h : I n s) : codeAny (model prog w) A (.compLoop (.ListComp elt gens scope pos) dep it acc env) R s := by
  refine codeAny_loop rfl I (fun n s hI => ?_) n h
  show wpAny _ _ ((compTurn (.ListComp elt gens scope pos) dep it acc env).onRaise (fun x => do noteFrame x env; theTreesLotGoes x)) _ _ s
  refine wpAny_noted ?_
  rw [ht]
  refine wpAny_bind (wpAny_standAt (wpAny_bind (wpAny_mono (turn n s hI) (fun r s₁ h₁ => ?_) fun _ _ h' => h')))
  cases r with
  | none => exact wpAny_pure h₁
  | some v =>
    refine wpAny_bind (wpAny_mono h₁ (fun _ s₂ h₂ => ?_) fun _ _ h' => h')
    exact wpAny_bind (wpAny_mono h₂ (fun _ s₃ h₃ => wpAny_bind (wpAny_mono h₃ (fun x s₄ h₄ => wpAny_pure ⟨rfl, h₄⟩) fun _ _ h' => h')) fun _ _ h' => h')

section
variable {g : G} {k : Nat} {env cenv : Env} {ρ ρ₁ ρ₂ ρc : En} {μ μ' μ₁ μ₂ μ₃ : List MO}

/-- a for over what can be gone through -/
theorem Ex1.forI {target iter : Expr} {body : List Stmt} {pos : Pos} {ds : List D} (h1 : Itb g k env ρ μ iter ds μ₁) (ρs : Nat → En) (μs : Nat → List MO) (h0 : ρs 0 = ρ) (m0 : μs 0 = μ₁)
    (step : ∀ i d, ds[i]? = some d → GoK target d ∧ ∃ ρ', Tg g k env target d (ρs i) ρ' ∧ Ex g k env ρ' (μs i) body none (ρs (i + 1)) (μs (i + 1)))
    (hs : ∀ x, foldedSetIterable iter env x = pure x := by intro _; rfl) : Ex1 g k env ρ μ (.For target iter body [] pos) none (ρs ds.length) (μs ds.length) := by
  intro A θ s Q E f S q
  refine wpAny_For (h1 A θ s _ E f S fun v θ₁ s₁ l₁ W₁ C₁ => ?_) hs
  have S₁ := S.lat l₁ W₁
  refine C₁ A _ E fun I s₂ P o eI k₂ hg₂ ho₂ oI pI it => ?_
  have S₂ : Sta g env θ₁ ρ μ₁ s₂ := S₁.keeps k₂ (by rw [hg₂]; exact W₁.gens) ho₂
  have l₂ : Lat g θ₁ s₁ θ₁ s₂ := .ofKeeps k₂
  have sI : Safe g env θ₁ I := S₁.safe eI
  have bI : g.hB.get? I = none := fresh_base W₁ eI
  refine forLoopT (I := fun j s' => ∃ i θ' o', LatS g env θ₁ s₁ θ' s' ∧ Sta g env θ' (ρs i) (μs i) s' ∧ s'.heap.get? I = some o' ∧ P i o' ∧ Safe g env θ' I ∧ i ≤ ds.length ∧ j = ds.length + 1 - i) ?_ (ds.length + 1)
    ⟨0, θ₁, o, l₂.s, by rw [h0, m0]; exact S₂, oI, pI, sI, Nat.zero_le _, rfl⟩
  rintro j s' ⟨i, θ', o', l', S', oI', pI', sI', hi, rfl⟩
  have hq : ∀ o, s'.heap.get? I = some o → ¬ ∃ us m, o.data = .seq us m := fun o e => by
    rw [oI'] at e; cases e; exact it.noSeq pI'
  by_cases hlt : i < ds.length
  · have hd := List.getElem?_eq_getElem hlt
    obtain ⟨hgo, ρ', ht, hx⟩ := step i _ hd
    refine it.item f.handled (l'.v S₁.F) oI' pI' hd fun v h₁ o₁ n oI₁ pI₁ hs₁ V₁ => ?_
    have S₃ := S'.iter (n := n) sI' bI hq hs₁
    have l₃ := l'.iter (n := n) eI hs₁
    refine it.go oI₁ pI₁ (List.getElem_mem hlt) hgo V₁ ?_
    refine ht A θ' (μs i) _ _ _ _ f S₃ V₁ fun s₄ l₄ S₄ => ?_
    refine hx A θ' s₄ _ _ f S₄ fun fl θ₅ s₅ l₅ S₅ F₅ => ?_
    cases F₅
    have l35 := l₄.trans l₅
    exact ⟨ds.length + 1 - (i + 1), by lia, i + 1, θ₅, o₁, l₃.trans l35, S₅, sI'.keep l35 oI₁, pI₁, sI'.more l35 oI₁, hlt, rfl⟩
  · have hin : i = ds.length := by lia
    obtain rfl := hin.symm
    refine it.done f.handled (l'.v S₁.F) oI' pI' fun h₁ he => ?_
    exact q .next θ' _ (l₁.s.trans (l'.iter (n := s'.toks) eI he)) (S'.iter (n := s'.toks) sI' bI hq he) .next

/-- what a turn does to the list that is made -/
def Bd (g : G) (k : Nat) (cenv : Env) (t : Value → Sem Unit) (ρ : En) (μ : List MO) (es : List D) (ρ' : En) : Prop :=
  ∀ (A : Around) (θ : Th) (s : Shared) (i : Nat) (Dd : Addr) (xs : List D) (μ' : List MO) (Q : Unit → Shared → Prop) (E : Value → Shared → Prop), Fit k A → (∀ (j : Nat) (mo : MO), μ[j]? = some mo → μ'[j]? = some mo) → Sta g cenv θ ρ μ' s → θ[i]? = some (Dd, Dd) → μ'[i]? = some (.list xs) → μ.length ≤ i → xs.length + es.length ≤ sizeLine →
    (∀ s', LatS g cenv θ s θ s' → Sta g cenv θ ρ' (μ'.set i (.list (xs ++ es))) s' → Q () s') → wpAny g.M A (t (.ref Dd)) Q E s

theorem acc_loop {A : Around} {θ₀ θ : Th} {s₀ s : Shared} {i : Nat} {Dd I : Addr} {xs ds : List D} {ess : List (List D)} {P : Nat → Obj → Prop} {o : Obj} {R : Result → Shared → Prop} {elt target : Expr} {gens : List Comprehension} {scope : Scope} {pos : Pos} {dep : Nat} {bd : Value → Sem Unit} {p : Pos}
    (f : Fit k A) (hfun : cenv.func = none) (hN : ∀ b o, s₀.heap.get? b = some o → (∃ vs n, o.data = .seq vs n) → b ≠ cenv.locals) (it : Itr g θ₀ s₀.heap I ds P) (eI : s₀.heap.get? I = none) (bI : g.hB.get? I = none)
    (l : LatS g cenv θ₀ s₀ θ s) (S : Sta g cenv θ ρ μ' s) (sI : Safe g cenv θ I) (eo : s.heap.get? I = some o) (hP : P 0 o) (hθ : θ[i]? = some (Dd, Dd)) (hμ : μ'[i]? = some (.list xs)) (hmm : ∀ (j : Nat) (mo : MO), μ[j]? = some mo → μ'[j]? = some mo) (hi : μ.length ≤ i)
    (hz : xs.length + ess.flatten.length ≤ sizeLine) (hlen : ds.length = ess.length)
    (hel : ∀ (j : Nat) (d : D) (es : List D), ds[j]? = some d → ess[j]? = some es → GoK target d ∧ ∃ ρ' ρ'' : En, Tg g k cenv target d ρ ρ' ∧ Bd g k cenv bd ρ' μ es ρ'' ∧ ∀ x y, ρ.lookup x = some y → ρ''.lookup x = some y)
    (ht : compTurn (.ListComp elt gens scope pos) dep (.ref I) (.ref Dd) cenv = turnOf p (.ref I) target cenv (bd (.ref Dd)) (.compLoop (.ListComp elt gens scope pos) dep (.ref I) (.ref Dd) cenv))
    (fin : ∀ s', LatS g cenv θ₀ s₀ θ s' → Sta g cenv θ ρ (μ'.set i (.list (xs ++ ess.flatten))) s' → R (.ok .next) s') : codeAny g.M A (.compLoop (.ListComp elt gens scope pos) dep (.ref I) (.ref Dd) cenv) R s := by
  have hV : ∀ {s' : Shared}, LatS g cenv θ₀ s₀ θ s' → LatV g θ₀ s₀.heap θ s'.heap := fun l => ⟨l.pre, fun b o n e q => l.keep b o n (hN b o e q) (fun w => by have := w.1; rw [hfun] at this; cases this) e⟩
  have hil : i < μ'.length := (List.getElem?_eq_some_iff.mp hμ).1
  refine compLoopG (I := fun n s' => ∃ j o', LatS g cenv θ₀ s₀ θ s' ∧ Sta g cenv θ ρ (μ'.set i (.list (xs ++ (ess.take j).flatten))) s' ∧ s'.heap.get? I = some o' ∧ P j o' ∧ j ≤ ds.length ∧ n = ds.length + 1 - j) ht ?_ (ds.length + 1)
    ⟨0, o, l, ?_, eo, hP, Nat.zero_le _, rfl⟩
  · rintro n s' ⟨j, o', l', S', oI', pI', hj, rfl⟩
    have hq : ∀ o, s'.heap.get? I = some o → ¬ ∃ us m, o.data = .seq us m := fun o e => by
      rw [oI'] at e; cases e; exact it.noSeq pI'
    by_cases hlt : j < ds.length
    · have hd := List.getElem?_eq_getElem hlt
      have hje : j < ess.length := hlen ▸ hlt
      have he := List.getElem?_eq_getElem hje
      obtain ⟨hgo, ρ', ρ'', zq⟩ := hel j _ _ hd he
      have hT := zq.1
      replace zq := zq.2
      have hB := zq.1
      replace zq := zq.2
      have hsub := zq
      clear zq
      refine it.item f.handled (hV l') oI' pI' hd fun v h₁ o₁ n oI₁ pI₁ hs₁ V₁ => ?_
      have S₃ := S'.iter (n := n) sI bI hq hs₁
      have l₃ := l'.iter (n := n) eI hs₁
      refine it.go oI₁ pI₁ (List.getElem_mem hlt) hgo V₁ ?_
      refine hT A θ _ _ _ _ _ f S₃ V₁ fun s₄ l₄ S₄ => ?_
      have etk : (ess.take (j + 1)).flatten = (ess.take j).flatten ++ ess[j] := by
        rw [List.take_add_one, he, List.flatten_append]; simp
      have hzz : (ess.take (j + 1)).flatten.length ≤ ess.flatten.length := by
        have : ess.flatten = (ess.take (j + 1)).flatten ++ (ess.drop (j + 1)).flatten := by rw [← List.flatten_append, List.take_append_drop]
        rw [this, List.length_append]; lia
      refine hB A θ s₄ i Dd (xs ++ (ess.take j).flatten) _ _ _ f (fun m mo e => ?_) S₄ hθ ?_ hi ?_ fun s₅ l₅ S₅ => ?_
      · have hm : m < μ.length := (List.getElem?_eq_some_iff.mp e).1
        rw [List.getElem?_set_ne (by lia)]; exact hmm m mo e
      · rw [List.getElem?_set_self hil]
      · rw [etk, List.length_append] at hzz; rw [List.length_append]; lia
      · have l35 := l₄.trans l₅
        rw [List.set_set, List.append_assoc, ← etk] at S₅
        exact ⟨ds.length + 1 - (j + 1), by lia, j + 1, o₁, l₃.trans l35, S₅.sub hsub, sI.keep l35 oI₁, pI₁, hlt, rfl⟩
    · have hin : j = ds.length := by lia
      subst hin
      refine it.done f.handled (hV l') oI' pI' fun h₁ he => ?_
      rw [hlen, List.take_length] at S'
      exact fin _ (l'.iter (n := s'.toks) eI he) (S'.iter (n := s'.toks) sI bI hq he)
  · have : μ'.set i (.list (xs ++ (ess.take 0).flatten)) = μ' := by
      have e0 : xs ++ (ess.take 0).flatten = xs := by simp
      rw [e0]
      apply List.ext_getElem?
      intro n
      by_cases hn : i = n
      · subst hn; rw [List.getElem?_set_self hil, hμ]
      · rw [List.getElem?_set_ne hn]
    rw [this]; exact S

theorem Bd.emit {elt : Expr} {e : D} (hc : e.closed = true) (h : ∀ μ', (∀ (j : Nat) (mo : MO), μ[j]? = some mo → μ'[j]? = some mo) → Ev g k cenv ρ μ' elt e μ') : Bd g k cenv (fun acc => eval elt cenv >>= fun x => call (.builtin "list.append") [acc, x] >>= fun _ => pure ()) ρ μ [e] ρ := by
  intro A θ s i Dd xs μ' Q E f hmm S hθ hμ hi hz q
  refine wpAny_bind (h μ' hmm A θ s _ E f S fun v θ₁ s₁ l₁ W₁ V₁ => ?_)
  obtain rfl := (th_same S.W l₁ W₁).symm
  refine wpAny_bind (append_ob W₁ hθ hμ V₁ hc (by simp at hz; lia) fun s₂ l₂ W₂ => wpAny_pure ?_)
  exact q s₂ (l₁.trans l₂).s ((S.lat l₁ W₁).lat l₂ W₂)
end
end Mine
end

-- part F12
section
namespace Mine
open PySem PySem.W PyProof.Rows

def emitOf (elt : Expr) (cenv : Env) (acc : Value) : Sem Unit := eval elt cenv >>= fun x => call (.builtin "list.append") [acc, x] >>= fun _ => pure ()
def innerOf (e i1 : Expr) (cenv : Env) (acc : Value) : Sem Unit :=
  eval i1 cenv >>= fun x => standAt i1.pos >>= fun _ => foldedSetIterable i1 cenv x >>= fun x => holding [x] (pyIter x) >>= fun it1 => runOwn (.compStart e 1 it1 acc cenv) cenv >>= fun _ => pure ()

section
variable {g : G} {k : Nat} {env cenv : Env} {ρ ρ₁ ρ₂ ρc : En} {μ μ' μ₁ μ₂ μ₃ : List MO}

theorem Bd.inner {elt t0 i0 t1 i1 : Expr} {scope : Scope} {pos : Pos} {ds : List D} {ess : List (List D)} (hfun : cenv.func = none) (hit : ∀ μ', (∀ (j : Nat) (mo : MO), μ[j]? = some mo → μ'[j]? = some mo) → Itb g k cenv ρ μ' i1 ds μ') (hlen : ds.length = ess.length)
    (hel : ∀ (j : Nat) (d : D) (es : List D), ds[j]? = some d → ess[j]? = some es → GoK t1 d ∧ ∃ ρ' ρ'' : En, Tg g k cenv t1 d ρ ρ' ∧ Bd g k cenv (emitOf elt cenv) ρ' μ es ρ'' ∧ ∀ x y, ρ.lookup x = some y → ρ''.lookup x = some y)
    (hs : ∀ x, foldedSetIterable i1 cenv x = pure x := by intro _; rfl) :
    Bd g k cenv (innerOf (.ListComp elt [⟨t0, i0, [], 0⟩, ⟨t1, i1, [], 0⟩] scope pos) i1 cenv) ρ μ ess.flatten ρ := by
  intro A θ s i Dd xs μ' Q E f hmm S hθ hμ hi hz q
  refine wpAny_bind (hit μ' hmm A θ s _ E f S fun v θ₁ s₁ l₁ W₁ C₁ => ?_)
  obtain rfl := (th_same S.W l₁ W₁).symm
  have S₁ := S.lat l₁ W₁
  refine wpAny_bind (wpAny_standAt (wpAny_bind (wpAny_of_eq (hs v) (wpAny_bind (wpAny_holding (C₁ A _ E fun I s₂ P o eI k₂ hg₂ ho₂ oI pI it => ?_))))))
  have S₂ : Sta g cenv θ ρ μ' s₂ := S₁.keeps k₂ (by rw [hg₂]; exact W₁.gens) ho₂
  have l₂ : Lat g θ s₁ θ s₂ := .ofKeeps k₂
  refine wpAny_bind (wpAny_runOwn ?_)
  have loop : codeAny g.M A (.compLoop (.ListComp elt [⟨t0, i0, [], 0⟩, ⟨t1, i1, [], 0⟩] scope pos) 1 (.ref I) (.ref Dd) cenv) (fun r s' => match r with
      | .ok f => wpAny g.M A (pure ()) Q E s'
      | .error e => cameBackBy g.M A cenv E e s') s₂ := by
    refine acc_loop (ρ := ρ) (bd := emitOf elt cenv) (p := i1.pos) (target := t1) f hfun (fun b o e z => (S₁.F.noSeq e z).1) it eI (fresh_base W₁ eI) l₂.s S₂ (S₁.safe eI) oI pI hθ hμ hmm hi hz hlen hel (turn21 ..) fun s' l' S' => ?_
    exact wpAny_pure (q s' (l₁.s.trans l') S')
  exact compStart_21 loop (it.self oI pI loop)

/-- a comprehension at its first generator -/
theorem comp_coreG {A : Around} {θ : Th} {s₁ : Shared} {E : Value → Shared → Prop} {elt target : Expr} {gens : List Comprehension} {scope : Scope} {cl : List (Str × Addr)} {pos p : Pos} {v : Value} {ds : List D} {ess : List (List D)} {RR : Value → Addr → Result → Shared → Prop} {bd : Env → Value → Sem Unit}
    (f : Fit k A) (S₁ : Sta g env θ ρ μ s₁) (C₁ : Can g θ s₁ v ds) (hz : ess.flatten.length ≤ sizeLine)
    (hkind : scope.kind = .function) (hcell : ∀ y ∈ scope.names, y.2 ≠ .cell) (hcl : ∀ x c, cl.lookup x = some c → env.cells.lookup x = some c)
    (hρ : ∀ x d, ρc.lookup x = some d → ρ.lookup x = some d ∧ (cl.lookup x).isSome = true ∧ (relabel scope env).names.lookup x ≠ some .local)
    (hlen : ds.length = ess.length) (hel : ∀ (C : Addr) (j : Nat) (d : D) (es : List D), ds[j]? = some d → ess[j]? = some es → GoK target d ∧ ∃ ρ' ρ'' : En, Tg g k (compEnvC scope cl C env) target d ρc ρ' ∧ Bd g k (compEnvC scope cl C env) (bd (compEnvC scope cl C env)) ρ' μ es ρ'' ∧ ∀ x y, ρc.lookup x = some y → ρ''.lookup x = some y)
    (hst : ∀ {R : Result → Shared → Prop} {s : Shared} {it acc : Value} {cenv : Env}, codeAny g.M A (.compLoop (.ListComp elt gens scope pos) 0 it acc cenv) R s → wpAny g.M A (pyIter it) (fun it' s' => codeAny g.M A (.compLoop (.ListComp elt gens scope pos) 0 it' acc cenv) R s') (notedBy g.M A cenv fun x s' => R (.error x) s') s →
      codeAny g.M A (.compStart (.ListComp elt gens scope pos) 0 it acc cenv) R s)
    (ht : ∀ (I Dd : Addr) (cenv : Env), compTurn (.ListComp elt gens scope pos) 0 (.ref I) (.ref Dd) cenv = turnOf p (.ref I) target cenv (bd cenv (.ref Dd)) (.compLoop (.ListComp elt gens scope pos) 0 (.ref I) (.ref Dd) cenv))
    (fin : ∀ (Dd C : Addr) (m : Str → Option Value) (s' : Shared), s₁.heap.get? C = none → s'.heap.Ns C m → Lat g θ s₁ θ s' → Wld g θ μ s' → Val g θ s'.heap (.ref Dd) (.list ess.flatten) → RR (.ref Dd) C (.ok .next) s') :
    wpAny g.M A (pyIter v) (fun it s₂ => wpAny g.M A (newList []) (fun acc s₃ => wpAny g.M A (newFunctionEnv scope env.globals cl [] env.qual none .none (some env)) (fun cenv s₄ =>
      codeAny g.M A (.compStart (.ListComp elt gens scope pos) 0 it acc { cenv with scope := relabel scope env }) (RR acc cenv.locals) s₄) E s₃) E s₂) E s₁ := by
  refine C₁ A _ E fun I s₂ P oi eI k₂ hg₂ ho₂ oI pI it => ?_
  have S₂ : Sta g env θ ρ μ s₂ := S₁.keeps k₂ (by rw [hg₂]; exact S₁.W.gens) ho₂
  refine wpAny_newList ?_ (by show 0 ≤ sizeLine; exact Nat.zero_le _)
  generalize hD : s₂.heap.objs.size = Dd
  have eD : s₂.heap.get? Dd = none := hD ▸ get_size _
  generalize hs₃ : ({ s₂ with heap := s₂.heap.push { cls := .type "list", data := .seq ([] : List Value).toArray } } : Shared) = s₃
  have k₃ : ∀ b o, s₂.heap.get? b = some o → s₃.heap.get? b = some o := fun b o e => by rw [← hs₃]; exact Heap.get?_push_of_some _ e
  have oD : s₃.heap.get? Dd = some (lstO [] 0) := by rw [← hs₃, ← hD]; exact Heap.get?_push_size _ rfl
  obtain ⟨W₃, L₃⟩ := S₂.W.grow (p := (Dd, Dd)) (mo := .list []) k₃ eD eD (by rw [← hs₃]; exact S₂.W.gens) (by rw [← hs₃]) (fun _ => .list oD .nil rfl)
  have S₃ : Sta g env (θ ++ [(Dd, Dd)]) ρ (μ ++ [.list []]) s₃ := S₂.lat L₃ W₃
  have L₁₃ : Lat g θ s₁ (θ ++ [(Dd, Dd)]) s₃ := (Lat.ofKeeps k₂).trans L₃
  refine comp_env (Q := fun cenv s₄ => codeAny g.M A (.compStart (.ListComp elt gens scope pos) 0 (.ref I) (.ref Dd) cenv) (RR (.ref Dd) cenv.locals) s₄) S₃ hkind hcell hcl ρc hρ fun C s₄ eC k₄ S₄ => ?_
  have eC₁ : s₁.heap.get? C = none := by
    cases q : s₁.heap.get? C with
    | none => rfl
    | some o => exact nomatch (k₃ _ _ (k₂ _ _ q)).symm.trans eC
  have L₄ : Lat g θ s₁ (θ ++ [(Dd, Dd)]) s₄ := L₁₃.trans (.ofKeeps k₄)
  have bI : g.hB.get? I = none := fresh_base S₁.W eI
  have hID : I ≠ Dd := fun z => by rw [z, eD] at oI; cases oI
  have sI : Safe g (compEnvC scope cl C env) (θ ++ [(Dd, Dd)]) I := by
    refine ⟨fun m => ?_, fun z => ?_, fun hc => ?_⟩
    · rcases List.mem_append.mp m with q | q
      · exact fresh_bad S₁.W eI (List.mem_append.mpr (.inl q))
      · obtain ⟨p, hp, z⟩ := mem_adrs.mp q
        rcases List.mem_append.mp hp with hp | hp
        · exact fresh_adrs S₁.W eI (mem_adrs.mpr ⟨p, hp, z⟩)
        · rw [List.mem_singleton.mp hp] at z
          rcases z with z | z <;> exact hID z
    · have z' : I = C := z
      rw [z'] at oI; exact nomatch (k₃ _ _ oI).symm.trans eC
    · obtain ⟨n, e⟩ := hc
      obtain ⟨v, o, ho, _⟩ := S₁.F.cell I ⟨n, hcl n I e⟩
      cases (eI).symm.trans ho
  have hθ : (θ ++ [(Dd, Dd)])[θ.length]? = some (Dd, Dd) := by simp
  have hμ : ∀ ds, (μ ++ [MO.list ds])[θ.length]? = some (.list ds) := fun ds => by rw [S₁.W.len]; simp
  have loop : codeAny g.M A (.compLoop (.ListComp elt gens scope pos) 0 (.ref I) (.ref Dd) (compEnvC scope cl C env)) (RR (.ref Dd) C) s₄ := by
    refine acc_loop (ρ := ρc) (μ := μ) (μ' := μ ++ [.list []]) (s₀ := s₁) (θ₀ := θ) (i := θ.length) (xs := []) (bd := bd (compEnvC scope cl C env)) (p := p) (target := target) f rfl (fun b o e _ z => ?_) it eI bI L₄.s S₄ sI (k₄ _ _ (k₃ _ _ oI)) pI hθ (hμ _) (fun j mo e => ?_) (by rw [S₁.W.len]; exact Nat.le_refl _) (by simpa using hz) hlen (hel C) (ht _ _ _) fun s' l' S' => ?_
    · have z' : b = C := z
      rw [z', eC₁] at e; cases e
    · rw [List.getElem?_append_left (List.getElem?_eq_some_iff.mp e).1]; exact e
    · have e8 : (μ ++ [MO.list []]).set θ.length (.list ([] ++ ess.flatten)) = μ ++ [.list ess.flatten] := by
        rw [S₁.W.len, List.set_append_right _ _ (Nat.le_refl _), Nat.sub_self]; rfl
      rw [e8] at S'
      obtain ⟨m, hm, _⟩ := S'.F.locals
      have hcl' : closedAll ess.flatten = true := by
        obtain ⟨_, _, zq⟩ := (S'.W.has _ _ _ hθ (hμ _)).list_inv
        replace zq := zq.2
        replace zq := zq.2
        replace zq := zq.2
        have c := zq
        clear zq
        exact c
      have V : Val g (θ ++ [(Dd, Dd)]) s'.heap (.ref Dd) (.ob θ.length) := Val.ob (p := (Dd, Dd)) (by lia)
      have LL : Lat g θ s₁ (θ ++ [(Dd, Dd)]) s' := Lat.frame (env := compEnvC scope cl C env) (Lat.refl g θ s₁) eC₁ (fun c hc => by have := hc.1; cases this) l'
      exact fin Dd C m s' eC₁ hm ⟨⟨[], by simp, fun _ h => nomatch h⟩, LL.keep, LL.alive⟩ (S'.W.less S₁.W.len) (Val.thaw S'.W (.ob (Nat.le_refl _) (by rw [S₁.W.len]; simp)) V)
  exact hst loop (it.self (k₄ _ _ (k₃ _ _ oI)) pI loop)

/-- a comprehension's shape: what goes over its first generator and what a turn does -/
inductive Shp : Expr → List Comprehension → Expr → Expr → (Env → Value → Sem Unit) → Scope → Pos → Prop
  | one {elt target iter : Expr} {scope : Scope} {pos : Pos} : Shp elt [⟨target, iter, [], 0⟩] target iter (emitOf elt) scope pos
  | two {elt t0 i0 t1 i1 : Expr} {scope : Scope} {pos : Pos} : Shp elt [⟨t0, i0, [], 0⟩, ⟨t1, i1, [], 0⟩] t0 i0 (innerOf (.ListComp elt [⟨t0, i0, [], 0⟩, ⟨t1, i1, [], 0⟩] scope pos) i1) scope pos
theorem Shp.st {elt : Expr} {gens : List Comprehension} {target iter : Expr} {bd : Env → Value → Sem Unit} {scope : Scope} {pos : Pos} (h : Shp elt gens target iter bd scope pos) {A : Around} {R : Result → Shared → Prop} {s : Shared} {it acc : Value} {cenv : Env} (h1 : codeAny g.M A (.compLoop (.ListComp elt gens scope pos) 0 it acc cenv) R s)
    (h2 : wpAny g.M A (pyIter it) (fun it' s' => codeAny g.M A (.compLoop (.ListComp elt gens scope pos) 0 it' acc cenv) R s') (notedBy g.M A cenv fun x s' => R (.error x) s') s) : codeAny g.M A (.compStart (.ListComp elt gens scope pos) 0 it acc cenv) R s := by
  cases h with
  | one => exact codeAny_compStart_list h1 h2
  | two => exact codeAny_compStart_list h1 h2
theorem Shp.turn {elt : Expr} {gens : List Comprehension} {target iter : Expr} {bd : Env → Value → Sem Unit} {scope : Scope} {pos : Pos} (h : Shp elt gens target iter bd scope pos) (I Dd : Addr) (cenv : Env) : compTurn (.ListComp elt gens scope pos) 0 (.ref I) (.ref Dd) cenv = turnOf iter.pos (.ref I) target cenv (bd cenv (.ref Dd)) (.compLoop (.ListComp elt gens scope pos) 0 (.ref I) (.ref Dd) cenv) := by
  cases h with
  | one => exact compTurn_list1 ..
  | two => exact turn2 ..
theorem Shp.gens {elt : Expr} {gens : List Comprehension} {target iter : Expr} {bd : Env → Value → Sem Unit} {scope : Scope} {pos : Pos} (h : Shp elt gens target iter bd scope pos) : ∃ gs, gens = ⟨target, iter, [], 0⟩ :: gs := by
  cases h with
  | one => exact ⟨_, rfl⟩
  | two => exact ⟨_, rfl⟩

/-- what a comprehension needs -/
structure Cmp (g : G) (k : Nat) (env : Env) (ρ : En) (μ : List MO) (elt : Expr) (gens : List Comprehension) (scope : Scope) (pos : Pos) (es : List D) (μ₁ : List MO) : Prop where
  mk ::
  all : ∃ (target iter : Expr) (bd : Env → Value → Sem Unit) (cl : List (Str × Addr)) (ρc : En) (ds : List D) (ess : List (List D)), Shp elt gens target iter bd scope pos ∧ Itb g k env ρ μ iter ds μ₁ ∧ es = ess.flatten ∧ ess.flatten.length ≤ sizeLine ∧ closureFor scope env = pure cl ∧
    scope.kind = .function ∧ (∀ y ∈ scope.names, y.2 ≠ .cell) ∧ (∀ y ∈ scope.names, y.2 = .local → scope.names.lookup y.1 = some .local) ∧ (∀ x c, cl.lookup x = some c → env.cells.lookup x = some c) ∧
    (∀ x d, ρc.lookup x = some d → ρ.lookup x = some d ∧ (cl.lookup x).isSome = true ∧ (relabel scope env).names.lookup x ≠ some .local) ∧ ds.length = ess.length ∧
    (∀ (C : Addr) (j : Nat) (d : D) (es : List D), ds[j]? = some d → ess[j]? = some es → GoK target d ∧ ∃ ρ' ρ'' : En, Tg g k (compEnvC scope cl C env) target d ρc ρ' ∧ Bd g k (compEnvC scope cl C env) (bd (compEnvC scope cl C env)) ρ' μ₁ es ρ'' ∧ ∀ x y, ρc.lookup x = some y → ρ''.lookup x = some y) ∧
    (∀ x, foldedSetIterable iter env x = pure x)

theorem Cmp.of {elt target iter : Expr} {gens : List Comprehension} {scope : Scope} {pos : Pos} {es : List D} {bd : Env → Value → Sem Unit} (cl : List (Str × Addr)) (ρc : En) (ds : List D) (ess : List (List D)) (c1 : Shp elt gens target iter bd scope pos) (c2 : Itb g k env ρ μ iter ds μ₁)
    (c3 : es = ess.flatten) (c4 : ess.flatten.length ≤ sizeLine) (c5 : closureFor scope env = pure cl) (c6 : scope.kind = .function) (c7 : ∀ y ∈ scope.names, y.2 ≠ .cell) (c8 : ∀ y ∈ scope.names, y.2 = .local → scope.names.lookup y.1 = some .local) (c9 : ∀ x c, cl.lookup x = some c → env.cells.lookup x = some c)
    (c10 : ∀ x d, ρc.lookup x = some d → ρ.lookup x = some d ∧ (cl.lookup x).isSome = true ∧ (relabel scope env).names.lookup x ≠ some .local) (c11 : ds.length = ess.length)
    (c12 : ∀ (C : Addr) (j : Nat) (d : D) (es : List D), ds[j]? = some d → ess[j]? = some es → GoK target d ∧ ∃ ρ' ρ'' : En, Tg g k (compEnvC scope cl C env) target d ρc ρ' ∧ Bd g k (compEnvC scope cl C env) (bd (compEnvC scope cl C env)) ρ' μ₁ es ρ'' ∧ ∀ x y, ρc.lookup x = some y → ρ''.lookup x = some y)
    (c13 : ∀ x, foldedSetIterable iter env x = pure x) : Cmp g k env ρ μ elt gens scope pos es μ₁ :=
  ⟨⟨target, iter, bd, cl, ρc, ds, ess, c1, c2, c3, c4, c5, c6, c7, c8, c9, c10, c11, c12, c13⟩⟩
theorem Cmp.ev {elt : Expr} {gens : List Comprehension} {scope : Scope} {pos : Pos} {es : List D} (h : Cmp g k env ρ μ elt gens scope pos es μ₁) : Ev g k env ρ μ (.ListComp elt gens scope pos) (.list es) μ₁ := by
  obtain ⟨target, iter, bd, cl, ρc, ds, ess, hsh, h1, rfl, hz, hclos, hkind, hcell, hnames, hcl, hρ, hlen, hel, hs⟩ := h.all
  intro A θ s Q E f S q
  obtain ⟨gs, hgs⟩ := hsh.gens
  subst hgs
  rw [eval_ListComp]
  refine wpAny_comprehension_free (use := none) rfl hs hclos hkind hnames (h1 A θ s _ E f S fun v θ₁ s₁ l₁ W₁ C₁ => ?_)
  have S₁ := S.lat l₁ W₁
  refine comp_coreG (RR := fun acc C => compPost g.M A E none Q acc C) f S₁ C₁ hz hkind hcell hcl hρ hlen hel (fun h1 h2 => hsh.st h1 h2) hsh.turn ?_
  intro Dd C m s' eC hn L' W' V'
  refine ⟨m, hn, fun h' hs' => ?_⟩
  have bC := fresh_base W₁ eC
  have hq := ns_noSeq hn
  have l9 : Lat g θ₁ s₁ θ₁ { s' with heap := h' } := L'.iter (n := s'.toks) eC hs'.extBut
  exact q _ θ₁ _ (l₁.trans l9) (W'.same (n := s'.toks) bC (fresh_adrs W₁ eC) hq hs'.extBut)
    (V'.latV ⟨⟨[], by simp, fun _ h => nomatch h⟩, fun b o _ e z => hs'.extBut b o (fun w => hq o (w ▸ e) z) e⟩)

theorem Cmp.assign {y : Str} {py spos : Pos} {elt : Expr} {gens : List Comprehension} {scope : Scope} {pos : Pos} {es : List D} (h : Cmp g k env ρ μ elt gens scope pos es μ₁) (hy : Sto g env y)
    (hsw : swapsWith (.ListComp elt gens scope pos) (some (.Name y py)) spos.line env = pure true) : Ex1 g k env ρ μ (.Assign [.Name y py] (.ListComp elt gens scope pos) spos) none (upd ρ y (.list es)) μ₁ := by
  obtain ⟨target, iter, bd, cl, ρc, ds, ess, hsh, h1, rfl, zq⟩ := h.all
  have hz := zq.1
  replace zq := zq.2
  have hclos := zq.1
  replace zq := zq.2
  have hkind := zq.1
  replace zq := zq.2
  have hcell := zq.1
  replace zq := zq.2
  have hnames := zq.1
  replace zq := zq.2
  have hcl := zq.1
  replace zq := zq.2
  have hρ := zq.1
  replace zq := zq.2
  have hlen := zq.1
  replace zq := zq.2
  have hel := zq.1
  replace zq := zq.2
  have hs := zq
  clear zq
  intro A θ s Q E f S q
  obtain ⟨gs, hgs⟩ := hsh.gens
  subst hgs
  rw [exec_Assign_Name_used _ _ _ _ hsw]
  refine wpAny_bind (wpAny_standAt (wpAny_bind ?_))
  show wpAny g.M A (do let _ ← comprehension (.ListComp elt (⟨target, iter, [], 0⟩ :: gs) scope pos) scope env _ (newList []) false (eval iter env) (some (PySem.assign (.Name y py) env))) _ _ s
  refine wpAny_bind (wpAny_mono (wpAny_comprehension_free (use := some (PySem.assign (.Name y py) env)) (Q := fun _ s' => Q .next s') rfl hs hclos hkind hnames (h1 A θ s _ E f S fun v θ₁ s₁ l₁ W₁ C₁ => ?_)) (fun _ s' hq => wpAny_pure (wpAny_pure hq)) fun _ _ e => e)
  have S₁ := S.lat l₁ W₁
  refine comp_coreG (RR := fun acc C => compPost g.M A E (some (PySem.assign (.Name y py) env)) (fun _ s' => Q .next s') acc C) f S₁ C₁ hz hkind hcell hcl hρ hlen hel (fun h1 h2 => hsh.st h1 h2) hsh.turn ?_
  intro Dd C m s' eC hn L' W' V'
  have S' : Sta g env θ₁ ρ μ₁ s' := S₁.lat L' W'
  show wpAny g.M A (PySem.assign (.Name y py) env (.ref Dd)) _ E s'
  refine wpAny_assign_Name (store hy S' V' fun s₂ l₂ S₂ => ?_)
  have hCL : C ≠ env.locals := (S₁.F.fresh eC).1
  have hCc : ¬ Cl env C := (S₁.F.fresh eC).2
  have bC := fresh_base W₁ eC
  have aC := fresh_adrs W₁ eC
  have hCb : C ∉ bad g θ₁ := fresh_bad W₁ eC
  obtain ⟨oC, es', ep, zq⟩ := id hn
  have hoC := zq.1
  replace zq := zq.2
  have hdC := zq.1
  replace zq := zq.2
  have hrC := zq
  clear zq
  have hn₂ : s₂.heap.Ns C m := ⟨oC, es', ep, l₂.keep C oC hCb hCL (fun w => hCc w.cl) hoC, hdC, hrC⟩
  refine ⟨m, hn₂, fun h' hs' => ?_⟩
  have hq := ns_noSeq hn₂
  have l9 : LatS g env θ₁ s₁ θ₁ { s₂ with heap := h' } := (L'.s.trans l₂).iter (n := s₂.toks) eC hs'.extBut
  exact q .next θ₁ _ (l₁.s.trans l9) (S₂.iter (n := s₂.toks) ⟨hCb, hCL, hCc⟩ bC hq hs'.extBut) .next
end
end Mine
end

-- part F13
section
namespace Mine
open PySem PySem.W PyProof.Rows

theorem relabel_lookup {scope : Scope} {env : Env} (x : Str) : (relabel scope env).names.lookup x = (scope.names.lookup x).map fun k => if (k == .free && env.scope.kind == .function && env.kindOf x == some .cell) = true then .cell else k := by
  unfold relabel
  dsimp only
  generalize scope.names = names
  induction names with
  | nil => rfl
  | cons p r ih =>
    obtain ⟨n, kd⟩ := p
    rw [List.map_cons]
    by_cases hx : x = n
    · subst hx
      skip
      cases hb : (kd == NameKind.free && env.scope.kind == ScopeKind.function && env.kindOf x == some NameKind.cell) with
      | true => simp only [if_true, List.lookup_cons, beq_self_eq_true, Option.map_some, hb]
      | false => simp only [Bool.false_eq_true, if_false, List.lookup_cons, beq_self_eq_true, Option.map_some, hb]
    · have hne : (x == n) = false := by simpa using hx
      skip
      cases hb : (kd == NameKind.free && env.scope.kind == ScopeKind.function && env.kindOf n == some NameKind.cell) with
      | true => simp only [if_true, List.lookup_cons, hne]; exact ih
      | false => simp only [Bool.false_eq_true, if_false, List.lookup_cons, hne]; exact ih
theorem comp_cell {scope : Scope} {cl : List (Str × Addr)} {C : Addr} {env : Env} {x : Str} (h : scope.names.lookup x = some .free) (hk : env.scope.kind = .function) (hc : env.kindOf x = some .cell) : (compEnvC scope cl C env).kindOf x = some .cell := by
  show (relabel scope env).names.lookup x = _
  rw [relabel_lookup, h, hk, hc]; rfl
theorem comp_kind {scope : Scope} {cl : List (Str × Addr)} {C : Addr} {env : Env} {x : Str} {kd : NameKind} (h : scope.names.lookup x = some kd) (hk : kd ≠ .free) : (compEnvC scope cl C env).kindOf x = some kd := by
  show (relabel scope env).names.lookup x = _
  rw [relabel_lookup, h]
  have : (kd == NameKind.free) = false := by cases kd <;> first | rfl | exact absurd rfl hk
  simp only [this, Bool.false_and, Bool.false_eq_true, if_false, Option.map_some]
theorem comp_noLocal {scope : Scope} {env : Env} {x : Str} (h : scope.names.lookup x = some .free) : (relabel scope env).names.lookup x ≠ some .local := by
  rw [relabel_lookup, h]
  dsimp only [Option.map_some]
  split <;> decide

theorem closureFor_one {scope : Scope} {env : Env} {x : Str} {c : Addr} (pre post : List (Str × NameKind)) (h : scope.names = pre ++ (x, .free) :: post) (h1 : ∀ y ∈ pre, y.2 ≠ .free) (h2 : ∀ y ∈ post, y.2 ≠ .free) (hc : env.cells.lookup x = some c) : closureFor scope env = pure [(x, c)] := by
  have key : ∀ (names : List (Str × NameKind)), (∀ y ∈ names, y.2 ≠ .free) → ∀ cs : List (Str × Addr), (forIn names cs (fun (p : Str × NameKind) (r : List (Str × Addr)) => match p with
      | (name, kind) => do
        if kind == NameKind.free then do
          let a ← cellOf env name
          pure (ForInStep.yield ((name, a) :: r))
        else pure (ForInStep.yield r)) : Sem (List (Str × Addr))) = pure cs := by
    intro names
    induction names with
    | nil => intro _ cs; rfl
    | cons p r ih =>
      intro hp cs
      obtain ⟨n, kd⟩ := p
      have : (kd == NameKind.free) = false := by
        have := hp _ (.head _)
        cases kd <;> first | rfl | exact absurd rfl this
      rw [List.forIn_cons]
      simp only [this, Bool.false_eq_true, if_false, pure_bind]
      exact ih (fun y hy => hp y (.tail _ hy)) cs
  unfold closureFor
  rw [h]
  have hcell : cellOf env x = pure c := by unfold cellOf; rw [hc]
  have hap : ∀ (names : List (Str × NameKind)), (∀ y ∈ names, y.2 ≠ .free) → ∀ (cs : List (Str × Addr)) (rest : List (Str × NameKind)), (forIn (names ++ rest) cs (fun (p : Str × NameKind) (r : List (Str × Addr)) => match p with
      | (name, kind) => do
        if kind == NameKind.free then do
          let a ← cellOf env name
          pure (ForInStep.yield ((name, a) :: r))
        else pure (ForInStep.yield r)) : Sem (List (Str × Addr))) = forIn rest cs (fun (p : Str × NameKind) (r : List (Str × Addr)) => match p with
      | (name, kind) => do
        if kind == NameKind.free then do
          let a ← cellOf env name
          pure (ForInStep.yield ((name, a) :: r))
        else pure (ForInStep.yield r)) := by
    intro names
    induction names with
    | nil => intro _ cs rest; rfl
    | cons p r ih =>
      intro hp cs rest
      obtain ⟨n, kd⟩ := p
      have : (kd == NameKind.free) = false := by
        have := hp _ (.head _)
        cases kd <;> first | rfl | exact absurd rfl this
      rw [List.cons_append, List.forIn_cons]
      simp only [this, Bool.false_eq_true, if_false, pure_bind]
      exact ih (fun y hy => hp y (.tail _ hy)) cs rest
  have e1 := hap pre h1 [] ((x, .free) :: post)
  have e2 := key post h2 [(x, c)]
  have e3 : (forIn (pre ++ (x, NameKind.free) :: post) ([] : List (Str × Addr)) (fun (p : Str × NameKind) (r : List (Str × Addr)) => match p with
      | (name, kind) => do
        if kind == NameKind.free then do
          let a ← cellOf env name
          pure (ForInStep.yield ((name, a) :: r))
        else pure (ForInStep.yield r)) : Sem (List (Str × Addr))) = pure [(x, c)] := by
    rw [e1, List.forIn_cons]
    have ht : (NameKind.free == NameKind.free) = true := rfl
    simp only [ht, if_true, hcell, pure_bind]
    exact e2
  exact (congrArg (fun m => m >>= fun cs => pure cs) e3).trans rfl

section
variable {g : G} {k : Nat} {env cenv : Env} {ρ ρ₁ ρ₂ ρc : En} {μ μ' μ₁ μ₂ μ₃ : List MO}

theorem Vals.erase {θ : Th} {h : Heap} {vs : List Value} {ds : List D} (x : Vals g θ h vs ds) (n : Nat) : Vals g θ h (vs.eraseIdx n) (ds.eraseIdx n) :=
  Vals.ind (q := fun vs ds => ∀ n : Nat, Vals g θ h (vs.eraseIdx n) (ds.eraseIdx n)) (fun n => .nil) (fun _ _ _ _ a r l n => Nat.rec r (fun n _ => .cons a (l n)) n) x n
theorem closed_erase : ∀ {ds : List D} (n : Nat), closedAll ds = true → closedAll (ds.eraseIdx n) = true
  | [], n, h => by simp [closedAll]
  | d :: r, 0, h => (Bool.and_eq_true_iff.mp h).2
  | d :: r, n + 1, h => by
    have := Bool.and_eq_true_iff.mp h
    show (d.closed && closedAll (r.eraseIdx n)) = true
    rw [this.1, closed_erase n this.2]; rfl

theorem mapSeq_lst (f : Array Value → Array Value) (vs ws : List Value) (n : Nat) (h : f vs.toArray = ws.toArray) : ∃ n', Obj.mapSeq f (lstO vs n) = lstO ws n' := by
  unfold lstO; rw [← h]; exact ⟨_, rfl⟩
theorem mapSeq_acc (f : Array Value → Array Value) (c dx : Addr) (vs ws : List Value) (n : Nat) (h : f vs.toArray = ws.toArray) : ∃ n', Obj.mapSeq f (accO c dx vs n) = accO c dx ws n' := by
  unfold accO; rw [← h]; exact ⟨_, rfl⟩

/-- x.pop(e) upon a list of the store -/
theorem Ev.pop {o e : Expr} {apos pos : Pos} {i : Nat} {ds : List D} {d : D} {j : Nat} (h1 : Ev g k env ρ μ o (.ob i) μ₁) (h2 : Ev g k env ρ μ₁ e (.int j) μ₂) (hi : μ₁[i]? = some (.list ds)) (hi₂ : μ₂[i]? = some (.list ds)) (hd : ds[j]? = some d) (hj : j < 1000) (hz : ds.length ≤ sizeLine) {pl : Sem Bool}
    (hm : eval (.Call (.Attribute o "pop" apos) [e] [] pos) env = (do
      let ov ← eval o env
      standAt apos.atName
      let (f, first) ← holding [ov] (getMethod ov "pop" pl)
      callWith pos f first (backTo pos (starEach [e] env)) []) := by rfl)
    (hs : starEach [e] env = [(false, eval e env)] := by rfl) : Ev g k env ρ μ (.Call (.Attribute o "pop" apos) [e] [] pos) d (μ₂.set i (.list (ds.eraseIdx j))) := by
  intro A θ s Q E f S q
  refine MethodCall_ (pl := pl) (h1 A θ s _ E f S fun v θ₁ s₁ l₁ W₁ V₁ => ?_) hm
  obtain ⟨p, ep, rfl⟩ := V₁.ob_inv
  obtain ⟨vs, n, zq⟩ := (W₁.has i p _ ep hi).list_inv
  have hp := zq.1
  replace zq := zq.2
  have eo := zq.1
  replace zq := zq.2
  have r := zq.1
  replace zq := zq.2
  have c := zq
  clear zq
  refine getMethod_list_of F.slot_list_pop F.type_list_pop ⟨_, eo, rfl, _, rfl⟩ ?_ ?_
  · exact ⟨_, eo, rfl⟩
  rw [hs]
  refine P.pop_at_list (h2 A θ₁ s₁ _ E f (S.lat l₁ W₁) fun v θ₂ s₂ l₂ W₂ V₂ => ?_)
  cases V₂
  have ep₂ : θ₂[i]? = some p := by
    obtain ⟨t, rfl, _⟩ := l₂.pre
    rw [List.getElem?_append_left (List.getElem?_eq_some_iff.mp ep).1]; exact ep
  obtain ⟨vs₂, n₂, zq⟩ := (W₂.has i p _ ep₂ hi₂).list_inv
  have hp₂ := zq.1
  replace zq := zq.2
  have eo₂ := zq.1
  replace zq := zq.2
  have r₂ := zq.1
  replace zq := zq.2
  have c₂ := zq
  clear zq
  obtain ⟨y, zq⟩ := r₂.get hd
  have hy := zq.1
  replace zq := zq.2
  have Y := zq
  clear zq
  have hjl : j < vs₂.length := (List.getElem?_eq_some_iff.mp hy).1
  have hlen := r₂.length
  refine ⟨vs₂.toArray, n₂, j, _, j, y, by simp; lia, rfl, eo₂, ?_, ?_, by simpa using hy, ?_⟩
  · unfold Builtin.List.listFitsIndex; simp; lia
  · unfold seqIndex?
    simp only
    first
      | (rw [if_neg (by lia)]; simp; lia)
      | (split <;> simp_all <;> lia)
  · obtain ⟨W', L'⟩ := W₂.put (mo := .list (ds.eraseIdx j)) (h' := s₂.heap.update p.1 (Obj.mapSeq fun xs => xs.eraseIdxIfInBounds j)) (n := s₂.toks) ep₂ (fun b o n1 _ eb => ((Heap.SameBut.update ..).2 b n1).trans eb) (fun hv => by
      have e2 : p = (p.1, p.1) := Prod.ext rfl hp₂
      rw [e2]
      obtain ⟨n', hd'⟩ := mapSeq_lst (fun xs => xs.eraseIdxIfInBounds j) vs₂ (vs₂.eraseIdx j) n₂ (by simp)
      have hg := Heap.get?_update_self (Obj.mapSeq fun xs => xs.eraseIdxIfInBounds j) eo₂ (by rw [hd']; rfl)
      exact .list (vs := vs₂.eraseIdx j) (n := n') (hg.trans (congrArg some hd')) ((r₂.latV hv).erase j) (closed_erase j c₂))
    have L'' := (l₁.trans l₂).trans L'
    have e0 : ({ s₂ with heap := s₂.heap.update p.1 (Obj.mapSeq fun xs => xs.eraseIdxIfInBounds j), toks := s₂.toks } : Shared) = { s₂ with heap := s₂.heap.update p.1 (Obj.mapSeq fun xs => xs.eraseIdxIfInBounds j) } := rfl
    have Y' := Y.latV L'.v
    have hcd : d.closed = true := by
      have hall : ∀ {l : List D} {m : Nat} {x : D}, closedAll l = true → l[m]? = some x → x.closed = true := by
        intro l
        induction l with
        | nil => intro m x _ h; simp at h
        | cons z r ih =>
          intro m x h hx
          have hh := Bool.and_eq_true_iff.mp h
          cases m with
          | zero => simp at hx; subst hx; exact hh.1
          | succ m => exact ih hh.2 (by simpa using hx)
      exact hall c₂ hd
    exact q y θ₂ _ L'' W' Y'

/-- x.index(e) upon a list of ints -/
theorem Ev.index {o e : Expr} {apos pos : Pos} {ns : List Int} {a : Int} {j : Nat} (h1 : Ev g k env ρ μ o (.list (iL ns)) μ₁) (h2 : Ev g k env ρ μ₁ e (.int a) μ₂) (hd : ns[j]? = some a) (hno : ∀ m, m < j → ns[m]? ≠ some a) (hz : ns.length < 2 ^ 62) {pl : Sem Bool}
    (hm : eval (.Call (.Attribute o "index" apos) [e] [] pos) env = (do
      let ov ← eval o env
      standAt apos.atName
      let (f, first) ← holding [ov] (getMethod ov "index" pl)
      callWith pos f first (backTo pos (starEach [e] env)) []) := by rfl)
    (hs : starEach [e] env = [(false, eval e env)] := by rfl) : Ev g k env ρ μ (.Call (.Attribute o "index" apos) [e] [] pos) (.int j) μ₂ := by
  intro A θ s Q E f S q
  refine MethodCall_ (pl := pl) (h1 A θ s _ E f S fun v θ₁ s₁ l₁ W₁ V₁ => ?_) hm
  obtain ⟨l, vs, n, rfl, eo, nb, r⟩ := V₁.list_inv
  refine getMethod_list_of F.slot_list_index F.type_list_index ⟨_, eo, rfl, _, rfl⟩ ?_ ?_
  · exact ⟨_, eo, rfl⟩
  rw [hs]
  refine P.index_list (h2 A θ₁ s₁ _ E f (S.lat l₁ W₁) fun v θ₂ s₂ l₂ W₂ V₂ => ?_)
  cases V₂
  have r₂ := r.lat l₂
  have I := r₂.ints
  have hlen := r₂.length
  have hjl : j < vs.length := by
    have := (List.getElem?_eq_some_iff.mp hd).1
    simp at hlen; lia
  have key : ∀ (m : Nat) (hm : m < vs.length), ∃ b t, vs[m] = .int b t ∧ ns[m]? = some b := fun m hm => by
    obtain ⟨d, hd', V⟩ := r₂.get' (List.getElem?_eq_getElem hm)
    rw [List.getElem?_map, Option.map_eq_some_iff] at hd'
    obtain ⟨b, hb, rfl⟩ := hd'
    generalize vs[m] = u at V
    cases V
    exact ⟨b, _, rfl, hb⟩
  refine ⟨vs.toArray, n, fun y => match y with | .int b _ => b == a | _ => false, j, by exact hjl, l₂.keep _ _ nb eo, fun y hy => ?_, ?_, ?_, fun m hm hmj => ?_, ?_⟩
  · obtain ⟨m, hm, rfl⟩ := List.getElem_of_mem (by simpa using hy : y ∈ vs)
    obtain ⟨b, t, e, _⟩ := key m hm
    rw [e]
    exact MeetsSeq.EqGives.int b a t _
  · simp at hlen; lia
  · obtain ⟨b, t, e, eb⟩ := key j hjl
    simp only [List.getElem_toArray, e]
    rw [hd] at eb; cases eb; simp
  · obtain ⟨b, t, e, eb⟩ := key m (by exact hm)
    simp only [List.getElem_toArray, e]
    have := hno m hmj
    rw [eb] at this
    simpa using this
  · exact q _ θ₂ _ ((l₁.trans l₂).toks) (W₂.tok _) (.int _ _)
end
end Mine
end

-- part F14
section
namespace Mine
open PySem PySem.W PyProof.Rows Builtin Builtin.ObjectAttr

theorem ns_look {h : Heap} {a : Addr} {m : Str → Option Value} (n : h.Ns a m) : ∃ o, h.get? a = some o ∧ ∀ y, lookIn y o = some (m y) := by
  obtain ⟨o, es, ep, zq⟩ := n
  have e := zq.1
  replace zq := zq.2
  have d := zq.1
  replace zq := zq.2
  have k := zq.1
  replace zq := zq.2
  have f := zq
  clear zq
  refine ⟨o, e, fun y => ?_⟩
  have f1 := f y
  unfold nsFind findBy at f1
  rw [← Array.find?_toList] at f1
  unfold lookIn
  rw [d]
  dsimp only
  cases q : es.toList.find? (fun e => e.key.isStr y) with
  | some en => rw [q] at f1; rw [← f1]; rfl
  | none =>
    rw [q] at f1
    have : es.toList.any (·.refKey) = false := by
      rw [List.any_eq_false]
      intro en hen
      obtain ⟨n, t, hk⟩ := k en (Array.mem_toList_iff.mp hen)
      simp [DictEntry.refKey, hk]
    rw [this, ← f1]; rfl

theorem lkAt {α : Type} {M : Model} {h : Heap} {t : Sem α} {r : α} {A : Around} {Q : α → Shared → Prop} {E : Value → Shared → Prop} {s : Shared} (x : Looks M h t r) (hs : s.heap = h) (q : Q r s) : wpAny M A t Q E s := x A Q E s (fun b o e => by rw [hs]; exact e) q

/-- the class _Accumulator, as the fragment has it -/
structure AccC (g : G) : Prop where
  cd : ∃ cd, clsIn g.K g.cls = some cd ∧ cd.mro = [.ref g.cls, .type "list", .type "object"] ∧ cd.hasDict = true
  ga : findIn g.K (.ref g.cls) "__getattribute__" = some (some (.builtin "list.__getattribute__"))
  gat : findIn g.K (.ref g.cls) "__getattr__" = some none
  sa : findIn g.K (.ref g.cls) "__setattr__" = some (some (.builtin "object.__setattr__"))
  sz : findIn g.K (.ref g.cls) "_initial_size" = some none

/-- a def of the class -/
structure Meth (g : G) (name : Str) (f : Addr) : Prop where
  is : findIn g.K (.ref g.cls) name = some (some (.ref f))
  fn : typeIn g.K (.ref f) = some (.type "function")
  ne : name ≠ "_initial_size"

section
variable {g : G} {k : Nat} {env : Env} {ρ ρ₁ ρ₂ : En} {μ μ₁ μ₂ μ₃ : List MO}

theorem acc_inst {θ : Th} {s : Shared} {i : Nat} {p : Addr × Addr} {kk : Int} {ds : List D} (W : Wld g θ μ s) (e : θ[i]? = some p) (hm : μ[i]? = some (.acc kk ds)) :
    ∃ vs n od t m, s.heap.get? p.1 = some (accO g.cls p.2 vs n) ∧ InstAt s.heap p.1 (accO g.cls p.2 vs n) g.cls (some od) ∧ s.heap.Ns1 p.2 m ∧ (∀ y, lookIn y od = some (m y)) ∧ m "_initial_size" = some (.int kk t) ∧ (∀ y : Str, y ≠ "_initial_size" → m y = none) ∧ Vals g θ s.heap vs ds ∧ closedAll ds = true := by
  obtain ⟨vs, n, t, m, zq⟩ := (W.has i p _ e hm).acc_inv
  have h1 := zq.1
  replace zq := zq.2
  have h2 := zq.1
  replace zq := zq.2
  have h3 := zq.1
  replace zq := zq.2
  have h4 := zq.1
  replace zq := zq.2
  have h5 := zq.1
  replace zq := zq.2
  have h6 := zq
  clear zq
  obtain ⟨od, ho, hl⟩ := ns_look h2.ns
  exact ⟨vs, n, od, t, m, h1, ⟨h1, rfl, rfl, ho⟩, h2, hl, h3, h4, h5, h6⟩

theorem canon_lga : (Manifest.canonical "list.__getattribute__" != "object.__getattribute__") = false := by decide +kernel

theorem acc_method {A : Around} {θ : Th} {s : Shared} {i : Nat} {p : Addr × Addr} {kk : Int} {ds : List D} {name : Str} {v tv : Value} {pl : Sem Bool} {Q : Value × List Value → Shared → Prop} {E : Value → Shared → Prop} (C : AccC g) (W : Wld g θ μ s) (e : θ[i]? = some p) (hm : μ[i]? = some (.acc kk ds))
    (hf : findIn g.K (.ref g.cls) name = some (some v)) (ht : typeIn g.K v = some tv) (htv : (tv != .type "function" && tv != .type "method_descriptor" && tv != .type "wrapper_descriptor") = false) (hn : name ≠ "_initial_size") (h : Q (v, [.ref p.1]) s) :
    wpAny g.M A (getMethod (.ref p.1) name pl) Q E s := by
  obtain ⟨vs, n, od, t, m, zq⟩ := acc_inst W e hm
  have ho := zq.1
  replace zq := zq.2
  have I := zq.1
  replace zq := zq.2
  replace zq := zq.2
  have hl := zq.1
  replace zq := zq.2
  replace zq := zq.2
  have hno := zq.1
  replace zq := zq.2
  replace zq := zq.2
  clear zq
  have X := W.kin
  unfold getMethod specialOf
  refine wpAny_bind (wpAny_bind (I.type.here ((looks_findIn X C.ga).here ?_)))
  dsimp only
  rw [canon_lga, if_neg (by decide)]
  refine wpAny_bind (wpAny_bind (I.type.here ((looks_findIn X C.gat).here ?_)))
  refine wpAny_bind (wpAny_bind (I.type.here ((looks_findIn X hf).here (wpAny_bind ((looks_typeIn X ht).here ?_)))))
  rw [htv, if_neg (by decide)]
  refine wpAny_bind (wpAny_loadPart I.at_ ?_)
  refine wpAny_bind (wpAny_bind (wpAny_loadPart I.dict ?_))
  rw [nsLook_of (hl name), hno name hn]
  refine wpAny_pure ?_
  exact wpAny_bind (wpAny_rule (wpAny_pure h))

theorem slot_lga : Slot "list" "__getattribute__" "list.__getattribute__" :=
  .of (owner := "list") (n := "__getattribute__") (by rw [typeLookup_type, builtinLookup_eq_fast]; kernel_rfl) (by decide +kernel) (by decide +kernel) (by decide +kernel)
    (by first | exact .inl (by decide +kernel) | exact .inr (by decide +kernel)) (by rw [isSubtype_type]; kernel_rfl)
theorem entry_lga : entryFor table "list.__getattribute__" = some Builtin.«object.__getattribute__» := entryFor_alias (id' := "object.__getattribute__") (by kernel_rfl) rfl (by decide +kernel) (by kernel_rfl)
theorem args_lga (a b : Value) : argsOk "list.__getattribute__" ⟨[a, b], []⟩ := by unfold argsOk; kernel_rfl

theorem acc_isList {M : Model} {h : Heap} {x : Addr} {ox : Obj} {od : Option Obj} (X : g.K.In h) (C : AccC g) (I : InstAt h x ox g.cls od) : Looks M h (isInstance (.ref x) (.type "list")) true := by
  obtain ⟨cd, zq⟩ := C.cd
  have hc := zq.1
  replace zq := zq.2
  have hm := zq.1
  replace zq := zq.2
  have hd := zq
  clear zq
  exact I.type.andThen (looks_mroIn X (by unfold mroIn; rw [hc, Option.bind_some, hm]; rfl))

/-- x._initial_size -/
theorem acc_size {A : Around} {θ : Th} {s : Shared} {i : Nat} {p : Addr × Addr} {kk : Int} {ds : List D} {b : Bool} {Q : Value → Shared → Prop} {E : Value → Shared → Prop} (C : AccC g) (W : Wld g θ μ s) (e : θ[i]? = some p) (hm : μ[i]? = some (.acc kk ds))
    (h : ∀ t, Q (.int kk t) { s with toks := s.toks + 1 }) : wpAny g.M A (getAttr (.ref p.1) "_initial_size" b) Q E s := by
  obtain ⟨vs, n, od, t, m, zq⟩ := acc_inst W e hm
  have ho := zq.1
  replace zq := zq.2
  have I := zq.1
  replace zq := zq.2
  replace zq := zq.2
  have hl := zq.1
  replace zq := zq.2
  have hsz := zq.1
  replace zq := zq.2
  have hno := zq.1
  replace zq := zq.2
  replace zq := zq.2
  clear zq
  have X := W.kin
  obtain ⟨hh, gg, d, tk, os⟩ := s
  have L0 := I.type (M := g.M)
  have L1 := looks_findIn (M := g.M) X C.ga
  have L2 := looks_findIn (M := g.M) X C.gat
  unfold getAttr getAttrBy
  refine wpAny_bind (wpAny_mkText (wpAny_holding (wpAny_bind (L0.at (wpAny_bind (L1.at ?_))))))
  dsimp only
  rw [show (Value.builtin "list.__getattribute__" == Value.builtin "object.__getattribute__") = false from by decide +kernel, Bool.and_false, if_neg (by decide)]
  unfold getAttrByItsOwn hookBefore
  refine wpAny_bind (m := if onTheHeap (.ref g.cls) = true then typeLookup (.ref g.cls) "__getattr__" else pure none) ?_
  rw [if_pos (show onTheHeap (.ref g.cls) = true from rfl)]
  refine L2.at ?_
  refine wpAny_bind (wpAny_attempt (wpAny_holding ?_))
  unfold callGetattribute
  rw [if_neg (by simp [onTheHeap])]
  unfold boundAndCalled
  rw [slot_lga.bind]
  refine wpAny_bind (wpAny_pure ?_)
  show wpAny _ _ (call (.builtin "list.__getattribute__") [.ref p.1, .str "_initial_size" tk]) _ _ _
  refine wpAny_call ?_
  refine codeAny_call_builtin slot_lga.plain entry_lga ?_
  refine @check_slot g.M _ _ _ "list.__getattribute__" "list" "__getattribute__" (.ref p.1) [.str "_initial_size" tk] [] _ (by decide +kernel) (by decide +kernel) (acc_isList X C I) (args_lga _ _) ?_
  obtain ⟨cd, zq⟩ := C.cd
  have hc := zq.1
  replace zq := zq.2
  have hmr := zq.1
  replace zq := zq.2
  have hd := zq
  clear zq
  have hfind : findObj g.K g.cls (some od) "_initial_size" = some (.value (.int kk t)) := by
    unfold findObj
    rw [hc, Option.bind_some, C.sz, Option.bind_some]
    show (ownOf cd (some od) "_initial_size").bind _ = _
    unfold PySem.W.ownOf
    rw [hd, if_pos rfl]
    dsimp only
    rw [hl, hsz]; rfl
  have L3 := looks_find (M := g.M) X I hfind
  unfold Builtin.«object.__getattribute__»
  refine wpAny_bind (wpAny_pure (wpAny_bind (wpAny_pure (wpAny_bind (L0.at (wpAny_bind (L3.at ?_)))))))
  refine wpAny_pure ?_
  exact wpAny_pure (h t)
theorem refuse_list (self : Value) (C : Addr) : refuseLoop self "__setattr__" [.ref C, .type "list", .type "object"] = pure () := by
  rw [refuseLoop_ref]; kernel_rfl

theorem set_core {A : Around} {θ : Th} {s : Shared} {p : Addr × Addr} {vs : List Value} {n : Nat} {od : Obj} {m : Str → Option Value} {v : Value} {Q : Unit → Shared → Prop} {E : Value → Shared → Prop} (C : AccC g) (W : Wld g θ μ s) (ho : s.heap.get? p.1 = some (accO g.cls p.2 vs n)) (I : InstAt s.heap p.1 (accO g.cls p.2 vs n) g.cls (some od)) (hns : s.heap.Ns1 p.2 m)
    (hno : ∀ y : Str, y ≠ "_initial_size" → m y = none)
    (h : ∀ h' tk, h'.Ns1 p.2 (fun x => if x = "_initial_size" then some v else m x) → Heap.SameBut p.2 s.heap h' → Q () { s with heap := h', toks := tk }) : wpAny g.M A (setAttr (.ref p.1) "_initial_size" v) Q E s := by
  have X := W.kin
  obtain ⟨cd, zq⟩ := C.cd
  have hc := zq.1
  replace zq := zq.2
  have hmr := zq.1
  replace zq := zq.2
  have hd := zq
  clear zq
  have SF := PySem.F.store_object
  unfold setAttr
  refine wpAny_bind (wpAny_mkText (wpAny_bind (wpAny_bind (wpAny_bind (I.type _ _ _ _ (fun _ _ e => e) (looks_findIn X C.sa _ _ _ _ (fun _ _ e => e) (wpAny_holding ?_)))))))
  rw [SF.slot.bind]
  refine wpAny_bind (wpAny_pure (wpAny_bind (wpAny_call ?_)))
  have sub : Looks g.M s.heap (isInstance (.ref p.1) (.type "object")) true := I.type.andThen (looks_mroIn X (by unfold mroIn; rw [hc, Option.bind_some, hmr]; rfl))
  refine codeAny_call_builtin SF.slot.plain SF.entry (@check_slot g.M _ _ { s with toks := s.toks + 1 } "object.__setattr__" "object" "__setattr__" (.ref p.1) [.str "_initial_size" s.toks, v] [] _ SF.kind SF.split sub (SF.args (.ref p.1) (.str "_initial_size" s.toks) v) ?_)
  have hm' : Looks g.M s.heap (mroOf (.ref g.cls)) cd.mro := (looks_clsIn X hc).andThen .now
  show wpAny _ _ (Builtin.«object.__setattr__» ⟨[.ref p.1, .str "_initial_size" s.toks, v], []⟩) _ _ _
  rw [osa_eq, refuse_eq]
  refine wpAny_bind (wpAny_bind (lkAt I.type rfl (wpAny_bind (lkAt hm' rfl ?_))))
  rw [hmr, refuse_list]
  refine wpAny_pure (wpAny_bind (lkAt I.type rfl (wpAny_bind (lkAt (looks_findIn X C.sz) rfl (wpAny_bind ?_)))))
  refine lkAt (show Looks g.M s.heap (storeTaker? none) none from .now) rfl ?_
  show wpAny _ _ (storeInOwnDict (.ref p.1) (.ref g.cls) (.str "_initial_size" s.toks) "_initial_size" v false) _ _ _
  refine wpAny_bind (wpAny_pure (wpAny_bind (wpAny_bind (wpAny_loadPart I.at_ (wpAny_bind (lkAt (looks_clsIn X hc) rfl ?_))))))
  rw [hd]
  refine wpAny_pure (a := some p.2) ?_
  show wpAny _ _ (storeInDict p.2 (.str "_initial_size" s.toks) "_initial_size" v) _ _ _
  unfold storeInDict newKeyGuard
  refine wpAny_bind (wpAny_pure (wpAny_bind (wpAny_nsSet1 hns fun h' hn' hs => ?_)))
  have wi : Within m ["_initial_size"] := fun y hy => by
    by_cases z : y = "_initial_size"
    · rw [z]; exact .head _
    · exact absurd (hno y z) hy
  obtain ⟨oD, esD, epD, zq⟩ := hn'.count (Within.cons "_initial_size" v wi)
  have hoD := zq.1
  replace zq := zq.2
  have hdD := zq.1
  replace zq := zq.2
  have hcD := zq
  clear zq
  refine wpAny_bind (wpAny_lookBehind hoD (by rw [hdD]; exact pastItsLine_dict (Nat.le_trans hcD (by rw [List.length_cons, List.length_cons, List.length_nil, sizeLine_eq]; lia))) ?_)
  refine wpAny_pure ?_
  exact wpAny_pure (wpAny_pure (h h' _ hn' hs))

/-- x._initial_size = k, upon the world -/
theorem acc_set {A : Around} {θ : Th} {s : Shared} {i : Nat} {p : Addr × Addr} {kk k2 : Int} {t2 : Tok} {ds : List D} {Q : Unit → Shared → Prop} {E : Value → Shared → Prop} (C : AccC g) (W : Wld g θ μ s) (e : θ[i]? = some p) (hm : μ[i]? = some (.acc kk ds))
    (h : ∀ s', Lat g θ s θ s' → Wld g θ (μ.set i (.acc k2 ds)) s' → Q () s') : wpAny g.M A (setAttr (.ref p.1) "_initial_size" (.int k2 t2)) Q E s := by
  obtain ⟨vs, n, od, t, m, zq⟩ := acc_inst W e hm
  have ho := zq.1
  replace zq := zq.2
  have I := zq.1
  replace zq := zq.2
  have hns := zq.1
  replace zq := zq.2
  have hl := zq.1
  replace zq := zq.2
  have hsz := zq.1
  replace zq := zq.2
  have hno := zq.1
  replace zq := zq.2
  have hV := zq.1
  replace zq := zq.2
  have hC := zq
  clear zq
  have hne : p.1 ≠ p.2 := fun z => by
    obtain ⟨o, es, ep, ho', hd', _⟩ := id hns
    rw [← z, ho] at ho'; cases ho'; cases hd'
  refine set_core C W ho I hns hno fun h' tk hn' hs => ?_
  obtain ⟨W', L'⟩ := W.put (mo := .acc k2 ds) (h' := h') (n := tk) e (fun b o n1 n2 eb => (hs.2 b n2).trans eb) (fun hv => by
    exact .acc (n := n) ((hs.2 _ hne).trans ho) hn' (if_pos rfl) (fun y hy => by rw [if_neg hy]; exact hno y hy) (hV.latV hv) hC)
  exact h _ L' W'
theorem raw_set {A : Around} {θ : Th} {s : Shared} {i : Nat} {p : Addr × Addr} {k2 : Int} {t2 : Tok} {Q : Unit → Shared → Prop} {E : Value → Shared → Prop} (C : AccC g) (W : Wld g θ μ s) (e : θ[i]? = some p) (hm : μ[i]? = some .raw)
    (h : ∀ s', Lat g θ s θ s' → Wld g θ (μ.set i (.acc k2 [])) s' → Q () s') : wpAny g.M A (setAttr (.ref p.1) "_initial_size" (.int k2 t2)) Q E s := by
  have H := W.has i p _ e hm
  obtain ⟨pa, pd⟩ := p
  cases H with
  | raw ho hns hmn =>
    rename_i n m
    have hne : pa ≠ pd := fun z => by
      obtain ⟨o, es, ep, ho', hd', _⟩ := id hns
      rw [← z, ho] at ho'; cases ho'; cases hd'
    obtain ⟨od, zq⟩ := ns_look hns.ns
    have hod := zq.1
    replace zq := zq.2
    have hl := zq
    clear zq
    refine set_core (vs := []) (n := n) (od := od) C W ho ⟨ho, rfl, rfl, hod⟩ hns (fun y _ => hmn y) fun h' tk hn' hs => ?_
    obtain ⟨W', L'⟩ := W.put (mo := .acc k2 []) (h' := h') (n := tk) e (fun b o n1 n2 eb => (hs.2 b n2).trans eb) (fun hv => by
      exact .acc (vs := []) (n := n) ((hs.2 _ hne).trans ho) hn' (if_pos rfl) (fun y hy => by rw [if_neg hy]; exact hmn y) .nil rfl)
    exact h _ L' W'
end
end Mine
end

-- part F15
section
set_option maxRecDepth 100000
namespace Mine
open PySem PySem.W PyProof.Rows Builtin Builtin.ObjectAttr

theorem check_meth {M : Model} {A : Around} {E : Value → Shared → Prop} {s : Shared} {i owner n : String} {self : Value} {rest : List Value} {kw : List (Str × Value)} {Q : Unit → Shared → Prop}
    (hk : builtinKind i = some .slot ∨ builtinKind i = some .method) (hs : splitId i = some (owner, n)) (hi : Looks M s.heap (isInstance self (.type owner)) true) (ha : argsOk i ⟨self :: rest, kw⟩) (q : Q () s) :
    wpAny M A (checkBuiltinCall i ⟨self :: rest, kw⟩) Q E s := by
  rcases hk with hk | hk
  · exact check_slot hk hs hi ha q
  · simp only [checkBuiltinCall, hk, hs]
    refine wpAny_bind (hi.here ?_)
    skip
    cases hsig : Manifest.signature? i with
    | none => exact wpAny_pure q
    | some sig =>
      simp only [argsOk, hsig] at ha
      have h2 : Bind.checkArgs i sig ⟨self :: rest, kw⟩ = pure () := ha
      show wpAny M A (Bind.checkArgs i sig ⟨self :: rest, kw⟩) Q E s
      rw [h2]; exact wpAny_pure q

section
variable {g : G} {k : Nat} {env : Env} {ρ ρ₁ ρ₂ : En} {μ μ₁ μ₂ μ₃ : List MO}

/-- a built-in of list called upon an accumulator -/
theorem acc_call {A : Around} {θ : Th} {s : Shared} {i : Nat} {p : Addr × Addr} {kk : Int} {ds : List D} {id n : String} {b : Builtin} {rest : List Value} {Q : Value → Shared → Prop} {E : Value → Shared → Prop} (C : AccC g) (W : Wld g θ μ s) (e : θ[i]? = some p) (hm : μ[i]? = some (.acc kk ds))
    (hk : builtinKind id = some .slot ∨ builtinKind id = some .method) (hs : splitId id = some ("list", n)) (hp : plainId id = true) (hb : entryFor table id = some b) (ha : argsOk id ⟨.ref p.1 :: rest, []⟩)
    (h : wpAny g.M A.in1 (b ⟨.ref p.1 :: rest, []⟩) (fun fin s' => ∃ v, fin = .done (.ret v) ∧ Q v s') E s) : wpAny g.M A (call (.builtin id) (.ref p.1 :: rest)) Q E s := by
  obtain ⟨vs, n, od, t, m, zq⟩ := acc_inst W e hm
  have ho := zq.1
  replace zq := zq.2
  have I := zq.1
  replace zq := zq.2
  have hns := zq.1
  replace zq := zq.2
  have hl := zq.1
  replace zq := zq.2
  have hsz := zq.1
  replace zq := zq.2
  have hno := zq.1
  replace zq := zq.2
  have hV := zq.1
  replace zq := zq.2
  have hC := zq
  clear zq
  refine wpAny_call (codeAny_call_builtin hp hb (check_meth hk hs (acc_isList W.kin C I) ha ?_))
  refine wpAny_mono h (fun fin s' z => ?_) fun _ _ z => z
  obtain ⟨v, rfl, q⟩ := z
  exact q

/-- the items of an accumulator turn -/
theorem acc_put {θ : Th} {s : Shared} {i : Nat} {p : Addr × Addr} {kk : Int} {ds es : List D} {vs ws : List Value} {n : Nat} (f : Array Value → Array Value) (W : Wld g θ μ s) (e : θ[i]? = some p) (hm : μ[i]? = some (.acc kk ds)) (ho : s.heap.get? p.1 = some (accO g.cls p.2 vs n)) (hf : f vs.toArray = ws.toArray)
    (hV : Vals g θ s.heap ws es) (hc : closedAll es = true) : Wld g θ (μ.set i (.acc kk es)) { s with heap := s.heap.update p.1 (Obj.mapSeq f) } ∧ Lat g θ s θ { s with heap := s.heap.update p.1 (Obj.mapSeq f) } := by
  obtain ⟨_, _, od, t, m, zq⟩ := acc_inst W e hm
  have ho' := zq.1
  replace zq := zq.2
  have I := zq.1
  replace zq := zq.2
  have hns := zq.1
  replace zq := zq.2
  have hl := zq.1
  replace zq := zq.2
  have hsz := zq.1
  replace zq := zq.2
  have hno := zq.1
  replace zq := zq.2
  replace zq := zq.2
  clear zq
  have hne : p.1 ≠ p.2 := fun z => by
    obtain ⟨o, es, ep, ho2, hd', _⟩ := id hns
    rw [← z, ho] at ho2; cases ho2; cases hd'
  obtain ⟨W', L'⟩ := W.put (mo := .acc kk es) (h' := s.heap.update p.1 (Obj.mapSeq f)) (n := s.toks) e (fun b o n1 _ eb => ((Heap.SameBut.update ..).2 b n1).trans eb) (fun hv => by
    obtain ⟨n', hd'⟩ := mapSeq_acc f g.cls p.2 vs ws n hf
    have hg := Heap.get?_update_self (Obj.mapSeq f) ho (by rw [hd']; rfl)
    exact .acc (vs := ws) (n := n') (hg.trans (congrArg some hd')) (hns.at fun o eo => ((Heap.SameBut.update ..).2 _ hne.symm).trans eo) hsz hno (hV.latV hv) hc)
  exact ⟨W', L'⟩

theorem closed_last {es : List D} {d : D} (h : closedAll (es ++ [d]) = true) : closedAll es = true ∧ d.closed = true := by
  induction es with
  | nil => exact ⟨rfl, (Bool.and_eq_true_iff.mp h).1⟩
  | cons x r ih =>
    have := Bool.and_eq_true_iff.mp h
    obtain ⟨h1, h2⟩ := ih this.2
    exact ⟨by show (x.closed && closedAll r) = true; rw [this.1, h1]; rfl, h2⟩
theorem closed_drop : ∀ {ds : List D} (n : Nat), closedAll ds = true → closedAll (ds.drop n) = true
  | [], n, h => by simp [closedAll]
  | d :: r, 0, h => h
  | d :: r, n + 1, h => closed_drop n (Bool.and_eq_true_iff.mp h).2
theorem closed_take : ∀ {ds : List D} (n : Nat), closedAll ds = true → closedAll (ds.take n) = true
  | [], n, h => by simp [closedAll]
  | d :: r, 0, h => rfl
  | d :: r, n + 1, h => by
    have := Bool.and_eq_true_iff.mp h
    show (d.closed && closedAll (r.take n)) = true
    rw [this.1, closed_take n this.2]; rfl

theorem acc_append {A : Around} {θ : Th} {s : Shared} {i : Nat} {p : Addr × Addr} {kk : Int} {ds : List D} {v : Value} {d : D} {Q : Value → Shared → Prop} {E : Value → Shared → Prop} (C : AccC g) (W : Wld g θ μ s) (e : θ[i]? = some p) (hm : μ[i]? = some (.acc kk ds)) (V : Val g θ s.heap v d) (hc : d.closed = true) (hz : ds.length ≤ 1000)
    (q : ∀ s', Lat g θ s θ s' → Wld g θ (μ.set i (.acc kk (ds ++ [d]))) s' → Q .none s') : wpAny g.M A (call (.builtin "list.append") [.ref p.1, v]) Q E s := by
  obtain ⟨vs, n, od, t, m, ho, I, hns, hl, hsz, hno, hV, hC⟩ := acc_inst W e hm
  have hlen := hV.length
  refine acc_call C W e hm (.inr (by decide +kernel)) (n := "append") (by decide +kernel) F.slot_list_append.plain entry_list_append (args_list_append _ _) ?_
  show wpAny _ _ (updateSeq p.1 (·.push v) >>= fun _ => ret .none) _ _ s
  refine wpAny_bind (wpAny_updateSeq ho rfl (wpAny_pure ⟨.none, rfl, ?_⟩) (by rw [sizeLine_eq]; simp; lia) (by rw [sizeLine_eq]; simp; lia))
  obtain ⟨W', L'⟩ := acc_put (ws := vs ++ [v]) (es := ds ++ [d]) (·.push v) W e hm ho (by simp) (hV.append (.cons V .nil)) (closed_append hC (by simp [closedAll, hc]))
  exact q _ L' W'

theorem acc_pop_body {A : Around} {θ : Th} {s : Shared} {i : Nat} {p : Addr × Addr} {kk : Int} {ds : List D} {d : D} {Q : Value → Shared → Prop} {E : Value → Shared → Prop} (C : AccC g) (W : Wld g θ μ s) (e : θ[i]? = some p) (hm : μ[i]? = some (.acc kk (ds ++ [d]))) (hz : ds.length ≤ 1000)
    (q : ∀ v s', Lat g θ s θ s' → Wld g θ (μ.set i (.acc kk ds)) s' → Val g θ s'.heap v d → Q v s') : wpAny g.M A (Builtin.«list.pop» ⟨[.ref p.1], []⟩) (fun fin s' => ∃ v, fin = .done (.ret v) ∧ Q v s') E s := by
  obtain ⟨vs, n, od, t, m, ho, I, hns, hl, hsz, hno, hV, hC⟩ := acc_inst W e hm
  have hlen := hV.length
  simp only [List.length_append, List.length_cons, List.length_nil] at hlen
  obtain ⟨y, hy, Y⟩ := hV.get (i := ds.length) (d := d) (by simp)
  show wpAny _ _ (Builtin.List.listItems (.ref p.1) >>= _) _ _ s
  unfold Builtin.List.listItems
  refine wpAny_bind (wpAny_bind (wpAny_seqItems ho rfl (wpAny_pure ?_)))
  have hne : vs.toArray.isEmpty = false := by
    cases vs with
    | nil => simp at hlen
    | cons _ _ => simp
  rw [hne, if_neg (by decide)]
  have hk : seqIndex? (-1) vs.toArray.size = some ds.length := by
    unfold seqIndex?
    simp [hlen]
    lia
  have hk2 : ((seqIndex? (-1) vs.toArray.size).bind fun k => vs.toArray[k]?.map (k, ·)) = some (ds.length, y) := by
    rw [hk]; simp [hy]
  show wpAny _ _ (match (seqIndex? (-1) vs.toArray.size).bind fun k => vs.toArray[k]?.map (k, ·) with
    | some (k, x) => (do Builtin.List.listUpdate (.ref p.1) fun x => x.eraseIdxIfInBounds k; ret x : Sem Fin)
    | none => _) _ _ s
  rw [hk2]
  skip
  show wpAny _ _ (updateSeq p.1 (fun x => x.eraseIdxIfInBounds ds.length) >>= fun _ => ret y) _ _ s
  have hcl := closed_last hC
  have hv2 : vs.eraseIdx ds.length = vs.take ds.length := by
    rw [List.eraseIdx_eq_take_drop_succ, List.drop_of_length_le (by lia)]; simp
  refine wpAny_bind (wpAny_updateSeq ho rfl (wpAny_pure ⟨y, rfl, ?_⟩) (by rw [sizeLine_eq]; simp; lia) (by rw [sizeLine_eq]; simp [hv2]; lia))
  obtain ⟨W', L'⟩ := acc_put (ws := vs.take ds.length) (es := ds) (fun x => x.eraseIdxIfInBounds ds.length) W e hm ho (by simp [hv2]) (by have := hV.take ds.length; simpa using this) hcl.1
  exact q y _ L' W' (Y.lat L')

theorem seqSize_any {A : Around} {s : Shared} {a : Addr} {o : Obj} {items : Array Value} {n : Nat} {M : Model} {Q : Nat → Shared → Prop} {E : Value → Shared → Prop} (ho : s.heap.get? a = some o) (hd : o.data = .seq items n) (h : Q items.size s) : wpAny M A (seqSize a) Q E s := by
  unfold seqSize
  refine wpAny_bind (wpAny_loadPart ho ?_)
  rw [hd]; exact wpAny_pure h

theorem acc_len0_body {A : Around} {θ : Th} {s : Shared} {i : Nat} {p : Addr × Addr} {kk : Int} {ds : List D} {Q : Value → Shared → Prop} {E : Value → Shared → Prop} (C : AccC g) (W : Wld g θ μ s) (e : θ[i]? = some p) (hm : μ[i]? = some (.acc kk ds))
    (q : ∀ v s', Lat g θ s θ s' → Wld g θ μ s' → Val g θ s'.heap v (.int ds.length) → Q v s') : wpAny g.M A (Builtin.«list.__len__» ⟨[.ref p.1], []⟩) (fun fin s' => ∃ v, fin = .done (.ret v) ∧ Q v s') E s := by
  obtain ⟨vs, n, od, t, m, zq⟩ := acc_inst W e hm
  have ho := zq.1
  replace zq := zq.2
  have I := zq.1
  replace zq := zq.2
  have hns := zq.1
  replace zq := zq.2
  have hl := zq.1
  replace zq := zq.2
  have hsz := zq.1
  replace zq := zq.2
  have hno := zq.1
  replace zq := zq.2
  have hV := zq.1
  replace zq := zq.2
  have hC := zq
  clear zq
  have hlen := hV.length
  show wpAny _ _ (seqSize p.1 >>= fun n => retInt n) _ _ s
  refine wpAny_bind (seqSize_any ho rfl ?_)
  refine wpAny_bind (wpAny_mkInt (wpAny_pure ⟨_, rfl, ?_⟩))
  refine q _ _ (Lat.refl g θ s).toks (W.tok _) ?_
  have : ((vs.toArray.size : Nat) : Int) = ds.length := by simp [hlen]
  rw [this]; exact .int _ _

theorem acc_init_body {A : Around} {θ : Th} {s : Shared} {i : Nat} {p : Addr × Addr} {kk : Int} {ds : List D} {Q : Value → Shared → Prop} {E : Value → Shared → Prop} (C : AccC g) (W : Wld g θ μ s) (e : θ[i]? = some p) (hm : μ[i]? = some (.acc kk ds)) (hz : ds.length ≤ 1000)
    (q : ∀ s', Lat g θ s θ s' → Wld g θ (μ.set i (.acc kk [])) s' → Q .none s') : wpAny g.M A (Builtin.«list.__init__» ⟨[.ref p.1], []⟩) (fun fin s' => ∃ v, fin = .done (.ret v) ∧ Q v s') E s := by
  obtain ⟨vs, n, od, t, m, zq⟩ := acc_inst W e hm
  have ho := zq.1
  replace zq := zq.2
  have I := zq.1
  replace zq := zq.2
  have hns := zq.1
  replace zq := zq.2
  have hl := zq.1
  replace zq := zq.2
  have hsz := zq.1
  replace zq := zq.2
  have hno := zq.1
  replace zq := zq.2
  have hV := zq.1
  replace zq := zq.2
  have hC := zq
  clear zq
  have hlen := hV.length
  show wpAny _ _ (Builtin.List.listItems (.ref p.1) >>= fun old => updateSeq p.1 (fun _ => #[]) >>= fun _ => letGo old.toList.reverse >>= fun _ => ret .none) _ _ s
  unfold Builtin.List.listItems
  refine wpAny_bind (wpAny_bind (wpAny_seqItems ho rfl (wpAny_pure ?_)))
  refine wpAny_bind (wpAny_updateSeq ho rfl (wpAny_bind (wpAny_letGo (wpAny_pure ⟨.none, rfl, ?_⟩))) (by rw [sizeLine_eq]; simp; lia) (by rw [sizeLine_eq]; simp))
  obtain ⟨W', L'⟩ := acc_put (ws := []) (es := []) (fun _ => #[]) W e hm ho (by simp) .nil rfl
  exact q _ L' W'

/-- the class is no sequence of the model's own kind -/
structure AccS (g : G) : Prop extends AccC g where
  noSeq : noSeq g.K g.cls = true
  gi : findIn g.K (.ref g.cls) "__getitem__" = some (some (.builtin "list.__getitem__"))
  si : findIn g.K (.ref g.cls) "__setitem__" = some (some (.builtin "list.__setitem__"))
  it : findIn g.K (.ref g.cls) "__iter__" = some (some (.builtin "list.__iter__"))

theorem acc_special {A : Around} {θ : Th} {s : Shared} {i : Nat} {p : Addr × Addr} {kk : Int} {ds : List D} {name : Str} {id : String} {args : List Value} {Q : Option Value → Shared → Prop} {E : Value → Shared → Prop} (C : AccC g) (W : Wld g θ μ s) (e : θ[i]? = some p) (hm : μ[i]? = some (.acc kk ds))
    (hf : findIn g.K (.ref g.cls) name = some (some (.builtin id))) (hb : bindSpecial (.builtin id) (.ref p.1) = pure (.builtin id, [.ref p.1])) (h : wpAny g.M A (call (.builtin id) (.ref p.1 :: args)) (fun v => Q (some v)) E s) :
    wpAny g.M A (callSpecial? (.ref p.1) name args) Q E s := by
  obtain ⟨vs, n, od, t, m, zq⟩ := acc_inst W e hm
  have ho := zq.1
  replace zq := zq.2
  have I := zq.1
  replace zq := zq.2
  have hns := zq.1
  replace zq := zq.2
  have hl := zq.1
  replace zq := zq.2
  have hsz := zq.1
  replace zq := zq.2
  have hno := zq.1
  replace zq := zq.2
  have hV := zq.1
  replace zq := zq.2
  have hC := zq
  clear zq
  unfold callSpecial? specialOf
  refine wpAny_bind (wpAny_bind (lkAt I.type rfl (lkAt (looks_findIn W.kin hf) rfl (wpAny_holding ?_))))
  rw [hb]
  exact wpAny_bind (wpAny_pure (wpAny_bind (wpAny_mono h (fun v s' z => wpAny_pure z) fun _ _ z => z)))
theorem acc_seqKey {A : Around} {θ : Th} {s : Shared} {i : Nat} {p : Addr × Addr} {kk : Int} {ds : List D} {name : Str} {key : Value} {Q : Value → Shared → Prop} {E : Value → Shared → Prop} (C : AccS g) (W : Wld g θ μ s) (e : θ[i]? = some p) (hm : μ[i]? = some (.acc kk ds)) (h : Q key s) :
    wpAny g.M A (sequenceKey (.ref p.1) key name) Q E s := by
  obtain ⟨vs, n, od, t, m, zq⟩ := acc_inst W e hm
  have ho := zq.1
  replace zq := zq.2
  have I := zq.1
  replace zq := zq.2
  have hns := zq.1
  replace zq := zq.2
  have hl := zq.1
  replace zq := zq.2
  have hsz := zq.1
  replace zq := zq.2
  have hno := zq.1
  replace zq := zq.2
  have hV := zq.1
  replace zq := zq.2
  have hC := zq
  clear zq
  unfold sequenceKey
  refine wpAny_bind (lkAt I.type rfl ?_)
  refine wpAny_bind (lkAt (anyM_none W.kin C.noSeq) rfl ?_)
  rw [if_pos (show (!false) = true from rfl)]
  exact wpAny_pure h

theorem acc_item {A : Around} {θ : Th} {s : Shared} {i j : Nat} {p : Addr × Addr} {kk : Int} {ds : List D} {d : D} {t : Tok} {Q : Value → Shared → Prop} {E : Value → Shared → Prop} (C : AccS g) (W : Wld g θ μ s) (e : θ[i]? = some p) (hm : μ[i]? = some (.acc kk ds)) (hd : ds[j]? = some d) (hj : j < 1000)
    (q : ∀ v, Val g θ s.heap v d → Q v s) : wpAny g.M A (getItem (.ref p.1) (.int j t)) Q E s := by
  obtain ⟨vs, n, od, tk, m, zq⟩ := acc_inst W e hm
  have ho := zq.1
  replace zq := zq.2
  have I := zq.1
  replace zq := zq.2
  have hns := zq.1
  replace zq := zq.2
  have hl := zq.1
  replace zq := zq.2
  have hsz := zq.1
  replace zq := zq.2
  have hno := zq.1
  replace zq := zq.2
  have hV := zq.1
  replace zq := zq.2
  have hC := zq
  clear zq
  obtain ⟨y, hy, Y⟩ := hV.get hd
  unfold getItem
  refine wpAny_holding (wpAny_bind (acc_seqKey C W e hm (wpAny_bind (acc_special C.toAccC W e hm C.gi (slot_list_getitem.bind _) ?_))))
  have hx' : vs.toArray[j]? = some y := by simpa using hy
  generalize hkj : (j : Int) = kj
  refine acc_call C.toAccC W e hm (.inr (by decide +kernel)) (n := "__getitem__") (by decide +kernel) slot_list_getitem.plain entry_list_getitem (args_list_getitem _ _) ?_
  unfold Builtin.«list.__getitem__»
  refine wpAny_bind (wpAny_of_eq (a := (.ref p.1, .int kj t)) rfl ?_)
  dsimp only
  refine wpAny_bind (wpAny_listSubscript_int (fitsIndex_of (by lia) (by lia)) ?_)
  subst hkj
  show wpAny _ _ ((seqItemAt p.1 j >>= fun r => pure (r.map (j, ·))) >>= _) _ _ s
  refine wpAny_bind (wpAny_bind (wpAny_seqItemAt ho rfl (wpAny_pure ?_)))
  rw [hx']
  first
    | exact wpAny_bind (wpAny_pure (wpAny_pure ⟨y, rfl, wpAny_pure (q y Y)⟩))
    | exact wpAny_pure ⟨y, rfl, wpAny_pure (q y Y)⟩

theorem acc_slice {A : Around} {θ : Th} {s : Shared} {i : Nat} {p : Addr × Addr} {kk : Int} {ds : List D} {sl : Addr} {vl vu : Value} {lo hi : Option Int} {Q : Value → Shared → Prop} {E : Value → Shared → Prop} (C : AccS g) (W : Wld g θ μ s) (e : θ[i]? = some p) (hm : μ[i]? = some (.acc kk ds)) (hs : s.heap.IsSliceOf sl vl vu .none) (pl : IsPart vl lo) (pu : IsPart vu hi) (hz : ds.length ≤ 1000)
    (q : ∀ vs n, s.heap.get? p.1 = some (accO g.cls p.2 vs n) → Vals g θ s.heap vs ds → Q (.ref s.heap.objs.size) { s with heap := s.heap.push { cls := .type "list", data := .seq (slicePick vs.toArray lo hi none) } }) : wpAny g.M A (getItem (.ref p.1) (.ref sl)) Q E s := by
  obtain ⟨vs, n, od, tk, m, ho, I, hns, hl, hsz, hno, hV, hC⟩ := acc_inst W e hm
  have hlen := hV.length
  obtain ⟨os, hos, hcs, hds⟩ := id hs
  have hTs : s.TypeIs (.ref sl) "slice" := ⟨os, hos, hcs⟩
  unfold getItem
  refine wpAny_holding (wpAny_bind (acc_seqKey C W e hm (wpAny_bind (acc_special C.toAccC W e hm C.gi (slot_list_getitem.bind _) ?_))))
  refine acc_call C.toAccC W e hm (.inr (by decide +kernel)) (n := "__getitem__") (by decide +kernel) slot_list_getitem.plain entry_list_getitem (args_list_getitem _ _) ?_
  unfold Builtin.«list.__getitem__»
  refine wpAny_bind (wpAny_of_eq (a := (.ref p.1, .ref sl)) rfl ?_)
  dsimp only
  refine wpAny_bind ?_
  unfold Builtin.List.listSubscript?
  refine wpAny_bind (wpAny_specialOf hTs slice_no_index ?_)
  skip
  refine wpAny_pure ?_
  show wpAny _ _ (typeOf (.ref sl) >>= _) _ _ s
  refine wpAny_bind (wpAny_typeOf hTs ?_)
  rw [if_neg (by decide)]
  rw [listSliceParts_eq]
  refine wpAny_bind (wpAny_bind (wpAny_field hos hds (x := .none) rfl (wpAny_bind (wpAny_listPart .none ?_))))
  rw [if_neg (show ¬ ((rawPart none == rawInt 0) = true) from Bool.false_ne_true)]
  refine wpAny_bind (wpAny_field hos hds (x := vl) rfl (wpAny_bind (wpAny_listPart pl ?_)))
  refine wpAny_bind (wpAny_field hos hds (x := vu) rfl (wpAny_bind (wpAny_listPart pu (wpAny_pure ?_))))
  refine wpAny_bind (m := Builtin.List.listItems (.ref p.1)) ?_
  unfold Builtin.List.listItems
  refine wpAny_bind (wpAny_seqItems ho rfl (wpAny_pure ?_))
  refine wpAny_bind (wpAny_of_eq (sliceIndices_raw lo hi none vs.toArray.size (by simp)) ?_)
  refine wpAny_bind (wpAny_newObj_type (wpAny_pure ⟨_, rfl, wpAny_pure (q vs n ho hV)⟩) (Nat.le_trans (slicePick_size_le vs.toArray lo hi none) (by rw [sizeLine_eq]; simp; lia)))

/-- x[a:] = a list of data -/
theorem acc_setSlice {A : Around} {θ : Th} {s : Shared} {i : Nat} {p : Addr × Addr} {kk : Int} {ds es : List D} {sl : Addr} {vl w : Value} {a : Option Nat} {Q : Unit → Shared → Prop} {E : Value → Shared → Prop} (C : AccS g) (W : Wld g θ μ s) (e : θ[i]? = some p) (hm : μ[i]? = some (.acc kk ds)) (hs : s.heap.IsSliceOf sl vl .none .none) (pl : IsPart vl (a.map fun (x : Nat) => (x : Int))) (hz : ds.length ≤ 1000) (V : Val g θ s.heap w (.list es)) (hze : es.length ≤ 1000) (hce : closedAll es = true)
    (q : ∀ s', Lat g θ s θ s' → Wld g θ (μ.set i (.acc kk (ds.take (a.getD 0) ++ es))) s' → Q () s') : wpAny g.M A (setItem (.ref p.1) (.ref sl) w) Q E s := by
  obtain ⟨vs, n, od, tk, m, zq⟩ := acc_inst W e hm
  have ho := zq.1
  replace zq := zq.2
  have I := zq.1
  replace zq := zq.2
  have hns := zq.1
  replace zq := zq.2
  have hl := zq.1
  replace zq := zq.2
  have hsz := zq.1
  replace zq := zq.2
  have hno := zq.1
  replace zq := zq.2
  have hV := zq.1
  replace zq := zq.2
  have hC := zq
  clear zq
  have hlen := hV.length
  obtain ⟨wa, ws, wn, rfl, hwo, hwb, hW⟩ := V.list_inv
  have hwl := hW.length
  obtain ⟨os, hos, hcs, hds⟩ := id hs
  have hTs : s.TypeIs (.ref sl) "slice" := ⟨os, hos, hcs⟩
  have hTw : s.TypeIs (.ref wa) "list" := ⟨_, hwo, rfl⟩
  have hwp : wa ≠ p.1 := fun z => by rw [z, ho] at hwo; cases hwo
  unfold setItem
  refine wpAny_holding (wpAny_bind (acc_seqKey C W e hm (wpAny_bind (acc_special C.toAccC W e hm C.si (slot_list_setitem.bind _) ?_))))
  refine acc_call C.toAccC W e hm (.inl (by decide +kernel)) (n := "__setitem__") (by decide +kernel) slot_list_setitem.plain entry_list_setitem (args_list_setitem _ _ _) ?_
  unfold Builtin.«list.__setitem__»
  refine wpAny_bind (wpAny_of_eq (a := (.ref p.1, [.ref sl, .ref wa])) rfl ?_)
  dsimp only
  refine wpAny_bind ?_
  unfold Builtin.List.listSubscript?
  refine wpAny_bind (wpAny_specialOf hTs slice_no_index ?_)
  skip
  refine wpAny_pure ?_
  show wpAny _ _ (typeOf (.ref sl) >>= _) _ _ s
  refine wpAny_bind (wpAny_typeOf hTs ?_)
  rw [if_neg (by decide)]
  rw [listSliceParts_eq]
  refine wpAny_bind (wpAny_bind (wpAny_field hos hds (x := .none) rfl (wpAny_bind (wpAny_listPart .none ?_))))
  rw [if_neg (show ¬ ((rawPart none == rawInt 0) = true) from Bool.false_ne_true)]
  refine wpAny_bind (wpAny_field hos hds (x := vl) rfl (wpAny_bind (wpAny_listPart pl ?_)))
  refine wpAny_bind (wpAny_field hos hds (x := .none) rfl (wpAny_bind (wpAny_listPart .none (wpAny_pure ?_))))
  skip
  have hsame : Builtin.List.listSameRef (.ref p.1) (.ref wa) = false := by
    unfold Builtin.List.listSameRef
    simpa using hwp.symm
  rw [hsame, if_neg (by decide)]
  refine wpAny_bind ?_
  unfold Builtin.List.listAllItems
  refine wpAny_bind (wpAny_typeOf hTw ?_)
  rw [if_pos (by decide)]
  unfold Builtin.List.listItems
  refine wpAny_bind (wpAny_seqItems hwo rfl (wpAny_pure ?_))
  refine wpAny_bind (wpAny_bind (wpAny_seqItems ho rfl (wpAny_pure ?_)))
  refine wpAny_bind (wpAny_of_eq (sliceIndices_raw (a.map fun (x : Nat) => (x : Int)) none none vs.toArray.size (by simp)) ?_)
  obtain ⟨A0, hA0⟩ : ∃ A0 : Nat, (a.getD 0 ≤ ds.length → A0 = a.getD 0) ∧ (ds.length ≤ a.getD 0 → A0 = ds.length) := by
    by_cases h : a.getD 0 ≤ ds.length
    · exact ⟨a.getD 0, fun _ => rfl, fun h2 => by lia⟩
    · exact ⟨ds.length, fun h2 => absurd h2 h, fun _ => rfl⟩
  have hb : sliceBounds (a.map fun (x : Nat) => (x : Int)) none none vs.toArray.size = ((A0 : Int), (vs.length : Int), 1) := by
    unfold sliceBounds
    cases a with
    | none =>
      have : A0 = 0 := hA0.1 (Nat.zero_le _)
      subst this
      simp
    | some a =>
      simp only [Option.getD_some] at hA0
      simp
      lia
  rw [hb]
  dsimp only
  rw [if_pos (by decide)]
  have htl : Builtin.List.listTooLong (vs.toArray.size + ws.toArray.size) = false := by
    unfold Builtin.List.listTooLong
    rw [sizeLine_eq]; simp; lia
  refine wpAny_bind (wpAny_rule ?_)
  rw [htl, if_neg (by decide)]
  have hmx : (Max.max (A0 : Int) (vs.length : Int)).toNat = vs.length := by lia
  generalize hff : (fun xs : Array Value => xs.extract 0 (A0 : Int).toNat ++ ws.toArray ++ xs.extract (Max.max (A0 : Int) (vs.length : Int)).toNat) = ff
  have hf : ff vs.toArray = (vs.take A0 ++ ws).toArray := by
    rw [← hff]
    dsimp only
    rw [hmx]
    simp
  show wpAny _ _ (updateSeq p.1 ff >>= _) _ _ s
  refine wpAny_bind (wpAny_updateSeq ho rfl (wpAny_bind (wpAny_letGo (wpAny_pure ⟨.none, rfl, wpAny_pure ?_⟩))) (by rw [sizeLine_eq]; simp; lia) (by rw [hf, sizeLine_eq]; simp; lia))
  have ht : vs.take A0 = vs.take (a.getD 0) := by
    rcases Nat.le_total (a.getD 0) ds.length with h | h
    · rw [hA0.1 h]
    · rw [hA0.2 h, List.take_of_length_le (by lia), List.take_of_length_le (by lia)]
  obtain ⟨W', L'⟩ := acc_put (ws := vs.take (a.getD 0) ++ ws) (es := ds.take (a.getD 0) ++ es) ff W e hm ho (hf.trans (by rw [ht])) ((hV.take _).append hW) (closed_append (closed_take _ hC) hce)
  exact q _ L' W'
end
end Mine
end

-- part F16
section
set_option maxRecDepth 100000
namespace Mine
open PySem PySem.W PyProof.Rows Builtin Builtin.ObjectAttr

section
variable {g : G} {k : Nat} {env : Env} {ρ ρ₁ ρ₂ : En} {μ μ₁ μ₂ μ₃ μ₄ : List MO}

theorem th_more {θ θ' : Th} {s s' : Shared} {i : Nat} {p : Addr × Addr} (l : Lat g θ s θ' s') (e : θ[i]? = some p) : θ'[i]? = some p := by
  obtain ⟨t, rfl, _⟩ := l.pre
  rw [List.getElem?_append_left (List.getElem?_eq_some_iff.mp e).1]; exact e
theorem Meth.isFn {name : Str} {f : Addr} (h : Meth g name f) : PySem.W.isFn g.K (.ref f) = true := by
  unfold PySem.W.isFn; rw [h.fn]; rfl
theorem ft_false : (Value.type "function" != Value.type "function" && Value.type "function" != Value.type "method_descriptor" && Value.type "function" != Value.type "wrapper_descriptor") = false := by decide +kernel
theorem md_false : (Value.type "method_descriptor" != Value.type "function" && Value.type "method_descriptor" != Value.type "method_descriptor" && Value.type "method_descriptor" != Value.type "wrapper_descriptor") = false := by decide +kernel

/-- x._initial_size -/
theorem Ev.size {x : Str} {xp pos : Pos} {i : Nat} {kk : Int} {ds : List D} (C : AccC g) (h1 : Ev g k env ρ μ (.Name x xp) (.ob i) μ₁) (hi : μ₁[i]? = some (.acc kk ds)) : Ev g k env ρ μ (.Attribute (.Name x xp) "_initial_size" pos) (.int kk) μ₁ := by
  intro A θ s Q E f S q
  refine Attribute_name (h1 A θ s _ E f S fun v θ₁ s₁ l₁ W₁ V₁ => ?_)
  obtain ⟨p, ep, rfl⟩ := V₁.ob_inv
  exact acc_size C W₁ ep hi fun t => q _ θ₁ _ l₁.toks (W₁.tok _) (.int _ _)

/-- a method of the class called -/
theorem Ev.callM {o e : Expr} {es : List Expr} {apos pos : Pos} {name : Str} {i : Nat} {kk : Int} {is ds : List D} {d : D} {f : Addr} {fd : FuncData} (C : AccC g) (h1 : Ev g k env ρ μ o (.ob i) μ₁) (hi : μ₁[i]? = some (.acc kk is)) (hm : Meth g name f) (hf : FD g f fd) (h2 : Evs g k env ρ μ₁ (e :: es) ds μ₂) (h3 : Fn g k (.ref f) (.ob i :: ds) μ₂ d μ₃) {pl : Sem Bool}
    (he : eval (.Call (.Attribute o name apos) (e :: es) [] pos) env = (do
      let ov ← eval o env
      standAt apos.atName
      let (f, first) ← holding [ov] (getMethod ov name pl)
      callWith pos f first (backTo pos (starEach (e :: es) env)) []) := by rfl)
    (hs : starEach (e :: es) env = (false, eval e env) :: starEach es env := by rfl) : Ev g k env ρ μ (.Call (.Attribute o name apos) (e :: es) [] pos) d μ₃ := by
  intro A θ s Q E ft S q
  refine MethodCall_ (pl := pl) (h1 A θ s _ E ft S fun v θ₁ s₁ l₁ W₁ V₁ => ?_) he
  obtain ⟨p, ep, rfl⟩ := V₁.ob_inv
  refine acc_method C W₁ ep hi hm.is hm.fn ft_false hm.ne ?_
  obtain ⟨ob, ho, hdat⟩ := hf.at_
  refine Calls.callWith_function (o := ob) (fd := fd) ?_
  have hb' : backTo pos (starEach (e :: es) env) = (false, eval e env) :: backTo pos (starEach es env) := by rw [hs]; rfl
  rw [hb']
  refine Calls.evalArgs_plain ?_
  rw [← hb']
  refine h2 A θ₁ s₁ pos _ E ft (S.lat l₁ W₁) fun vs θ₂ s₂ l₂ W₂ V₂ => ⟨⟨W₂.base f ob hf.out ho, hdat⟩, ?_⟩
  exact h3 A θ₂ s₂ (.ref p.1 :: vs) Q E ft W₂ (.cons (.ob (th_more l₂ ep)) V₂) fun v θ₃ s' l' W' V' => q v θ₃ s' ((l₁.trans l₂).trans l') W' V'
theorem Ev.callM0 {o : Expr} {apos pos : Pos} {name : Str} {i : Nat} {kk : Int} {is : List D} {d : D} {f : Addr} {fd : FuncData} (C : AccC g) (h1 : Ev g k env ρ μ o (.ob i) μ₁) (hi : μ₁[i]? = some (.acc kk is)) (hm : Meth g name f) (hf : FD g f fd) (h3 : Fn g k (.ref f) [.ob i] μ₁ d μ₃) {pl : Sem Bool}
    (he : eval (.Call (.Attribute o name apos) [] [] pos) env = (do
      let ov ← eval o env
      standAt apos.atName
      let (f, first) ← holding [ov] (getMethod ov name pl)
      callWith pos f first (backTo pos (starEach [] env)) []) := by rfl) : Ev g k env ρ μ (.Call (.Attribute o name apos) [] [] pos) d μ₃ := by
  intro A θ s Q E ft S q
  refine MethodCall_ (pl := pl) (h1 A θ s _ E ft S fun v θ₁ s₁ l₁ W₁ V₁ => ?_) he
  obtain ⟨p, ep, rfl⟩ := V₁.ob_inv
  refine acc_method C W₁ ep hi hm.is hm.fn ft_false hm.ne ?_
  obtain ⟨ob, ho, hdat⟩ := hf.at_
  refine Calls.callWith_function (o := ob) (fd := fd) (evalArgs_nil3 ⟨⟨W₁.base f ob hf.out ho, hdat⟩, ?_⟩)
  exact h3 A θ₁ s₁ [.ref p.1] Q E ft W₁ (.cons (.ob ep) .nil) fun v θ₃ s' l' W' V' => q v θ₃ s' (l₁.trans l') W' V'

/-- self.append(e) -/
theorem Ev.appendAcc {o e : Expr} {apos pos : Pos} {i : Nat} {kk : Int} {ds : List D} {d : D} (C : AccC g) (happ : findIn g.K (.ref g.cls) "append" = some (some (.builtin "list.append"))) (h1 : Ev g k env ρ μ o (.ob i) μ₁) (h2 : Ev g k env ρ μ₁ e d μ₂) (hi : μ₁[i]? = some (.acc kk ds)) (hi₂ : μ₂[i]? = some (.acc kk ds)) (hc : d.closed = true) (hz : ds.length ≤ 1000) {pl : Sem Bool}
    (hm : eval (.Call (.Attribute o "append" apos) [e] [] pos) env = (do
      let ov ← eval o env
      standAt apos.atName
      let (f, first) ← holding [ov] (getMethod ov "append" pl)
      callWith pos f first (backTo pos (starEach [e] env)) []) := by rfl)
    (hs : starEach [e] env = [(false, eval e env)] := by rfl) : Ev g k env ρ μ (.Call (.Attribute o "append" apos) [e] [] pos) .none (μ₂.set i (.acc kk (ds ++ [d]))) := by
  intro A θ s Q E f S q
  refine MethodCall_ (pl := pl) (h1 A θ s _ E f S fun v θ₁ s₁ l₁ W₁ V₁ => ?_) hm
  obtain ⟨p, ep, rfl⟩ := V₁.ob_inv
  refine acc_method C W₁ ep hi happ (tv := .type "method_descriptor") (by show pureOf (fastBuiltinType "list.append") = _; kernel_rfl) md_false (by decide) ?_
  refine callWith_method1 ((Evs.cons h2 Evs.nil hs) A θ₁ s₁ pos _ E f (S.lat l₁ W₁) fun us θ₂ s₂ l₂ W₂ V₂ => ?_) hs rfl
  cases V₂ with
  | cons V r2 =>
    cases r2
    exact acc_append C W₂ (th_more l₂ ep) hi₂ V hc hz fun s' l' W' => q _ θ₂ s' ((l₁.trans l₂).trans l') W' .none

theorem tail_acc {A : Around} {θ : Th} {s : Shared} {value slice : Expr} {v : Value} {ops : List Value} {i : Nat} {p : Addr × Addr} {kk : Int} {ds : List D} {Q : Value → Shared → Prop} {E : Value → Shared → Prop} (C : AccS g) (W : Wld g θ μ s) (e : θ[i]? = some p) (hm : μ[i]? = some (.acc kk ds))
    (hg : wpAny g.M A (getItem (.ref p.1) v) Q E s) (hs : subscripted slice false (.ref p.1) v = operate ops (getItem (.ref p.1) v)) : wpAny g.M A (subscriptTail value slice (.ref p.1) v) Q E s := by
  obtain ⟨vs, n, od, tk, m, zq⟩ := acc_inst W e hm
  have ho := zq.1
  replace zq := zq.2
  have I := zq.1
  replace zq := zq.2
  have hns := zq.1
  replace zq := zq.2
  have hl := zq.1
  replace zq := zq.2
  have hsz := zq.1
  replace zq := zq.2
  have hno := zq.1
  replace zq := zq.2
  have hV := zq.1
  replace zq := zq.2
  have hC := zq
  clear zq
  unfold subscriptTail
  refine wpAny_bind ?_
  rw [getitemInPython_of_ne (by intro h; cases h)]
  unfold specialOf
  refine wpAny_bind (wpAny_bind (lkAt I.type rfl (lkAt (looks_findIn W.kin C.gi) rfl ?_)))
  dsimp only
  have fin : wpAny g.M A (subscripted slice false (.ref p.1) v) (fun r s₃ => wpAny g.M A (letTemporaryGo value (.ref p.1) r >>= fun _ => pure r) Q E s₃) E s := by
    rw [hs]
    exact wpAny_operating (wpAny_mono hg (fun r s₃ h₃ => wpAny_bind (wpAny_letTemporaryGo (wpAny_pure h₃))) fun _ _ x => x)
  first
    | exact wpAny_pure (wpAny_bind fin)
    | exact wpAny_bind (wpAny_pure (wpAny_bind fin))
    | exact wpAny_bind fin

/-- line[j] -/
theorem Ev.itemAcc {value slice : Expr} {p : Pos} {i j : Nat} {kk : Int} {ds : List D} {d : D} (C : AccS g) (h1 : Ev g k env ρ μ value (.ob i) μ₁) (h2 : Ev g k env ρ μ₁ slice (.int j) μ₂) (hi : μ₂[i]? = some (.acc kk ds)) (hd : ds[j]? = some d) (hj : j < 1000)
    (hs : ∀ o j : Value, subscripted slice false o j = operate [o, j] (getItem o j) := by intro _ _; rfl) : Ev g k env ρ μ (.Subscript value slice p) d μ₂ := by
  intro A θ s Q E f S q
  refine Subscript_ (h1 A θ s _ E f S fun va θ₁ s₁ l₁ W₁ V₁ => h2 A θ₁ s₁ _ E f (S.lat l₁ W₁) fun vb θ₂ s₂ l₂ W₂ V₂ => ?_)
  obtain ⟨p, ep, rfl⟩ := V₁.ob_inv
  cases V₂
  exact tail_acc C W₂ (th_more l₂ ep) hi (acc_item C W₂ (th_more l₂ ep) hi hd hj fun v V => q v θ₂ s₂ (l₁.trans l₂) W₂ V) (hs _ _)

/-- self[a:] -/
theorem Ev.sliceAcc {value : Expr} {lo : Option Expr} {p pos : Pos} {i : Nat} {kk : Int} {ds : List D} {a : Option Nat} (C : AccS g) (h1 : Ev g k env ρ μ value (.ob i) μ₁) (h2 : Part g k env ρ μ₁ lo a μ₂) (hi : μ₂[i]? = some (.acc kk ds)) (hz : ds.length ≤ 1000) :
    Ev g k env ρ μ (.Subscript value (.Slice lo none .none p) pos) (.list (ds.drop (a.getD 0))) μ₂ := by
  intro A θ s Q E f S q
  refine Subscript_ (h1 A θ s _ E f S fun v θ₁ s₁ l₁ W₁ V₁ => ?_)
  obtain ⟨pp, ep, rfl⟩ := V₁.ob_inv
  have S₁ := S.lat l₁ W₁
  refine wpAny_Slice (h2.ev f S₁ fun vl θ₂ s₂ l₂ W₂ P₂ => ?_)
  have S₂ := S₁.lat l₂ W₂
  refine wpAny_evalPart_none (wpAny_evalPart_none ?_)
  generalize hs₄ : ({ s₂ with heap := s₂.heap.push { cls := .type "slice", data := .fields #[vl, .none, .none] } } : Shared) = s₄
  have k₄ : ∀ b o, s₂.heap.get? b = some o → s₄.heap.get? b = some o := fun b o eb => by rw [← hs₄]; exact Heap.get?_push_of_some _ eb
  have W₄ : Wld g θ₂ μ₂ s₄ := W₂.keeps k₄ (by rw [← hs₄]; exact W₂.gens) (by rw [← hs₄])
  have hsl : s₄.heap.IsSliceOf s₂.heap.objs.size vl .none .none := by rw [← hs₄]; exact ⟨_, Heap.get?_push_size _ rfl, rfl, rfl⟩
  have ep₂ := th_more l₂ ep
  have P₂' : IsPart vl (a.map fun (x : Nat) => (x : Int)) := by cases a <;> exact P₂
  refine tail_acc C W₄ ep₂ hi (acc_slice C W₄ ep₂ hi hsl P₂' .none hz fun vs n ho hV => ?_) (by rfl) (ops := _)
  have l4 : Lat g θ s θ₂ s₄ := (l₁.trans l₂).trans (.ofKeeps k₄)
  have hp : slicePick vs.toArray (a.map fun (x : Nat) => (x : Int)) none none = (vs.drop (a.getD 0)).toArray := by
    cases a with
    | none => exact slicePick_all vs.toArray
    | some a => exact slicePick_from' vs.toArray a
  rw [hp]
  have fin := q (.ref s₄.heap.objs.size) θ₂ { s₄ with heap := s₄.heap.push (lstO (vs.drop (a.getD 0)) 0) } (l4.trans (Lat.push _)) (W₄.push _) (new_list W₄ (hV.drop _))
  exact fin

/-- self[a:] = e -/
theorem Ex1.setSlice {o value : Expr} {lo : Option Expr} {p pos' pos : Pos} {i : Nat} {kk : Int} {ds es : List D} {a : Option Nat} (C : AccS g) (h0 : Ev g k env ρ μ value (.list es) μ₁) (h1 : Ev g k env ρ μ₁ o (.ob i) μ₂) (h2 : Part g k env ρ μ₂ lo a μ₃) (hi : μ₃[i]? = some (.acc kk ds)) (hz : ds.length ≤ 1000) (hze : es.length ≤ 1000) (hce : closedAll es = true)
    (hs : swapsWith value (some (.Subscript o (.Slice lo none .none p) pos')) pos.line env = pure false := by rfl) : Ex1 g k env ρ μ (.Assign [.Subscript o (.Slice lo none .none p) pos'] value pos) none ρ (μ₃.set i (.acc kk (ds.take (a.getD 0) ++ es))) := by
  intro A θ s Q E f S q
  refine wpAny_Assign_Subscript (h0 A θ s _ E f S fun v θ₁ s₁ l₁ W₁ V₁ => h1 A θ₁ s₁ _ E f (S.lat l₁ W₁) fun ov θ₂ s₂ l₂ W₂ V₂ => ?_) hs
  obtain ⟨pp, ep, rfl⟩ := V₂.ob_inv
  have S₂ := (S.lat l₁ W₁).lat l₂ W₂
  refine wpAny_Slice (h2.ev f S₂ fun vl θ₃ s₃ l₃ W₃ P₃ => wpAny_evalPart_none (wpAny_evalPart_none ?_))
  have S₃ := S₂.lat l₃ W₃
  generalize hs₄ : ({ s₃ with heap := s₃.heap.push { cls := .type "slice", data := .fields #[vl, .none, .none] } } : Shared) = s₄
  have k₄ : ∀ b o, s₃.heap.get? b = some o → s₄.heap.get? b = some o := fun b o eb => by rw [← hs₄]; exact Heap.get?_push_of_some _ eb
  have W₄ : Wld g θ₃ μ₃ s₄ := W₃.keeps k₄ (by rw [← hs₄]; exact W₃.gens) (by rw [← hs₄])
  have l₄ : Lat g θ₃ s₃ θ₃ s₄ := .ofKeeps k₄
  have hsl : s₄.heap.IsSliceOf s₃.heap.objs.size vl .none .none := by rw [← hs₄]; exact ⟨_, Heap.get?_push_size _ rfl, rfl, rfl⟩
  have ep₂ := th_more l₃ ep
  have P₃' : IsPart vl (a.map fun (x : Nat) => (x : Int)) := by cases a <;> exact P₃
  refine acc_setSlice C W₄ ep₂ hi hsl P₃' hz (((V₁.lat l₂).lat l₃).lat l₄) hze hce fun s₅ l₅ W₅ => ?_
  have L := (((l₁.trans l₂).trans l₃).trans l₄).trans l₅
  exact q .next θ₃ s₅ L.s (S.lat L W₅) .next

/-- self._initial_size = e -/
theorem Ex1.setSize {o value : Expr} {pos' pos : Pos} {i : Nat} {kk k2 : Int} {ds : List D} (C : AccC g) (h0 : Ev g k env ρ μ value (.int k2) μ₁) (h1 : Ev g k env ρ μ₁ o (.ob i) μ₂) (hi : μ₂[i]? = some (.acc kk ds))
    (hs : swapsWith value (some (.Attribute o "_initial_size" pos')) pos.line env = pure false := by rfl) : Ex1 g k env ρ μ (.Assign [.Attribute o "_initial_size" pos'] value pos) none ρ (μ₂.set i (.acc k2 ds)) := by
  intro A θ s Q E f S q
  refine plainObj_wpAny_Assign_Attribute (h0 A θ s _ E f S fun v θ₁ s₁ l₁ W₁ V₁ => h1 A θ₁ s₁ _ E f (S.lat l₁ W₁) fun ov θ₂ s₂ l₂ W₂ V₂ => ?_) hs
  obtain ⟨p, ep, rfl⟩ := V₂.ob_inv
  cases V₁
  refine acc_set C W₂ ep hi fun s' l' W' => ?_
  have L := (l₁.trans l₂).trans l'
  exact q .next θ₂ s' L.s (S.lat L W') .next
/-- self._initial_size = e upon a new object -/
theorem Ex1.setRaw {o value : Expr} {pos' pos : Pos} {i : Nat} {k2 : Int} (C : AccC g) (h0 : Ev g k env ρ μ value (.int k2) μ₁) (h1 : Ev g k env ρ μ₁ o (.ob i) μ₂) (hi : μ₂[i]? = some .raw)
    (hs : swapsWith value (some (.Attribute o "_initial_size" pos')) pos.line env = pure false := by rfl) : Ex1 g k env ρ μ (.Assign [.Attribute o "_initial_size" pos'] value pos) none ρ (μ₂.set i (.acc k2 [])) := by
  intro A θ s Q E f S q
  refine plainObj_wpAny_Assign_Attribute (h0 A θ s _ E f S fun v θ₁ s₁ l₁ W₁ V₁ => h1 A θ₁ s₁ _ E f (S.lat l₁ W₁) fun ov θ₂ s₂ l₂ W₂ V₂ => ?_) hs
  obtain ⟨p, ep, rfl⟩ := V₂.ob_inv
  cases V₁
  refine raw_set C W₂ ep hi fun s' l' W' => ?_
  have L := (l₁.trans l₂).trans l'
  exact q .next θ₂ s' L.s (S.lat L W') .next
end
end Mine
end

-- part F17
section
set_option maxRecDepth 100000
namespace Mine
open PySem PySem.W PyProof.Rows Builtin Builtin.ObjectAttr

section
variable {g : G} {k : Nat} {env : Env} {ρ ρ₁ ρ₂ : En} {μ μ₁ μ₂ μ₃ μ₄ : List MO}

/-- a code table grows, all else is kept -/
def Grows (s s' : Heap) (P : Addr) : Prop := ∃ ps more, s.get? P = some { cls := .none, data := .fields ps } ∧ s'.get? P = some { cls := .none, data := .fields (ps ++ more) } ∧ TriplesOk (ps ++ more).toList

theorem Wld.gen {θ : Th} {s s' : Shared} (W : Wld g θ μ s) (hk : ∀ b o, b ∉ g.tabs → s.heap.get? b = some o → s'.heap.get? b = some o) (ht : ∀ P ∈ g.tabs, Grows s.heap s'.heap P) (hg : AllBare s'.gens) (ho : s'.os = s.os) :
    Wld g θ μ s' ∧ Lat g θ s θ s' := by
  have al : ∀ b o, s.heap.get? b = some o → ∃ o', s'.heap.get? b = some o' := fun b o e => by
    by_cases hb : b ∈ g.tabs
    · obtain ⟨_, _, zq⟩ := ht b hb; replace zq := zq.2; have h := zq.1; replace zq := zq.2; clear zq; exact ⟨_, h⟩
    · exact ⟨o, hk b o hb e⟩
  have L : Lat g θ s θ s' := ⟨⟨[], by simp, fun _ h => nomatch h⟩, fun b o nb e => hk b o (fun h => nb (List.mem_append.mpr (.inl h))) e, al⟩
  have nn : ∀ a, g.hB.get? a = none → a ∉ g.tabs := fun a h0 h => by
    obtain ⟨o, e⟩ := W.gd.low _ h
    cases (h0).symm.trans e
  have nt : ∀ p ∈ θ, p.1 ∉ g.tabs ∧ p.2 ∉ g.tabs := fun p hp => ⟨nn _ (W.newer p hp).1, nn _ (W.newer p hp).2⟩
  refine ⟨⟨⟨fun b o e => ?_, fun b o e => let ⟨o', e'⟩ := W.old.there b o e; al b o' e'⟩, fun b o nb e => hk b o nb (W.base b o nb e), W.gd, ho.trans W.os, hg, W.newer, W.apart, W.len, fun P hP => ?_, fun i p mo e e' => ?_⟩, L⟩
  · by_cases hb : b ∈ g.tabs
    · obtain ⟨ps, more, h1, h2, _⟩ := ht b hb
      have hct := W.gd.tabc b hb
      rcases W.old.old b o e with x | ⟨t, hc, vs, m1, hv, x⟩ | ⟨rfl, _⟩
      · cases (x).symm.trans h1
        exact .inr (.inl ⟨hct, rfl, ps, more, rfl, h2⟩)
      · refine .inr (.inl ⟨hct, hc, vs, m1 ++ more, hv, ?_⟩)
        rw [x] at h1
        obtain ⟨oc, od, odt, osl⟩ := o
        dsimp only at hc hv
        subst hc hv
        injection h1 with h1
        injection h1 with a1 a2 a3 a4
        injection a3 with a3
        rw [h2, ← a3, Array.append_assoc, ← a2, ← a4]
      · exact absurd hb W.gd.out.2.2
    · rcases W.old.old b o e with x | ⟨t, hc, vs, more, hv, x⟩ | ⟨rfl, hc, ⟨o', es, n, ho', r⟩, z⟩
      · exact .inl (hk b _ hb x)
      · exact .inr (.inl ⟨t, hc, vs, more, hv, hk b _ hb x⟩)
      · exact .inr (.inr ⟨rfl, hc, ⟨o', es, n, hk _ _ hb ho', r⟩, fun key => by rw [OldK.staticOf_congr ((hk _ _ hb ho').trans ho'.symm) key]; exact z key⟩)
  · obtain ⟨ps, more, h1, h2, h3⟩ := ht P hP
    exact ⟨_, h2, h3⟩
  · have hp := nt p (List.mem_of_getElem? e)
    cases W.has i p mo e e' with
    | list h r c => exact .list (hk _ _ hp.1 h) (r.lat L) c
    | acc h nn hm ho r c => exact .acc (hk _ _ hp.1 h) (nn.at fun o e => hk _ o hp.2 e) hm ho (r.lat L) c
    | raw h nn hm => exact .raw (hk _ _ hp.1 h) (nn.at fun o e => hk _ o hp.2 e) hm

theorem TabW.grows {h : Heap} {P : Addr} (x : TabW h P) : Grows h h P := let ⟨ps, e, t⟩ := x; ⟨ps, #[], e, by exact e, by exact t⟩
theorem Grows.keep {h h' h'' : Heap} {P : Addr} (x : Grows h h' P) (k : ∀ o, h'.get? P = some o → h''.get? P = some o) : Grows h h'' P :=
  let ⟨ps, m, a1, a2, a3⟩ := x; ⟨ps, m, a1, k _ a2, a3⟩

/-- a def whose code has a table -/
structure GenDef (g : G) (code : Value) : Prop where
  is : ∃ c P ps, code = .ref c ∧ P ∈ g.tabs ∧ c ∉ g.tabs ∧ g.hB.IsCode c P ps

/-- the code of a generator expression -/
theorem gen_code {A : Around} {θ : Th} {s : Shared} {pos : Pos} {qn : Str} {scope : Scope} {Q : Value → Shared → Prop} {E : Value → Shared → Prop} (hG : GenDef g env.code) (W : Wld g θ μ s)
    (q : ∀ v s', (∀ b o, b ∉ g.tabs → s.heap.get? b = some o → s'.heap.get? b = some o) → (∀ P ∈ g.tabs, Grows s.heap s'.heap P) → s'.gens = s.gens → s'.os = s.os → Q v s') : wpAny g.M A (genexprCode env pos qn scope) Q E s := by
  obtain ⟨c, P, ps₀, hc, hP, hcn, o, vs, file, tf, flags, tg, inF, text, tt, op, zq⟩ := hG.is
  have ho := zq.1
  replace zq := zq.2
  have hd := zq.1
  replace zq := zq.2
  have h11 := zq.1
  replace zq := zq.2
  have h2 := zq.1
  replace zq := zq.2
  have h7 := zq.1
  replace zq := zq.2
  have h9 := zq.1
  replace zq := zq.2
  have h10 := zq.1
  replace zq := zq.2
  have hop := zq.1
  replace zq := zq.2
  have hpd := zq.1
  replace zq := zq.2
  have htr := zq.1
  replace zq := zq.2
  have hne := zq
  clear zq
  obtain ⟨ps, hPs, hT⟩ := W.tab P hP
  have hok : s.heap.IsCode c P ps := ⟨o, vs, file, tf, flags, tg, inF, text, tt, _, W.base c o hcn ho, hd, h11, h2, h7, h9, h10, hPs, rfl, hT, hne⟩
  obtain ⟨o', vs', file', tf', flags', tg', inF', text', tt', op', zq⟩ := id hok
  have ho' := zq.1
  replace zq := zq.2
  have hd' := zq.1
  replace zq := zq.2
  have h11' := zq.1
  replace zq := zq.2
  have h2' := zq.1
  replace zq := zq.2
  have h7' := zq.1
  replace zq := zq.2
  have h9' := zq.1
  replace zq := zq.2
  have h10' := zq.1
  replace zq := zq.2
  have hop' := zq.1
  replace zq := zq.2
  have hpd' := zq.1
  replace zq := zq.2
  have htr' := zq.1
  replace zq := zq.2
  have hne' := zq
  clear zq
  unfold genexprCode codeAt
  rw [hc, if_neg (show ¬ ((Value.ref c == Value.none) = true) from Bool.false_ne_true)]
  refine wpAny_bind (wpAny_fieldsOf ho' hd' ?_)
  rw [h11']
  refine wpAny_bind (wpAny_fieldsOf hop' hpd' ?_)
  cases hnf : codeAmong pos ps.toList with
  | some cv => exact wpAny_pure (q cv s (fun _ _ _ e => e) (fun P hP => (W.tab P hP).grows) rfl rfl)
  | none =>
    rw [h2', h7', h9', h10']
    refine wpAny_bind (wpAny_newCode fun c' P' h' tk hk hc' hP' hcode' hrec' => ?_)
    have hop2 := hk _ _ hPs
    refine wpAny_bind (wpAny_updateFieldsOfTheText hop2 rfl ?_)
    have hnew : (Obj.mapFields (fun vs => if (codeAmong pos vs.toList).isSome = true then vs else vs ++ #[rawInt pos.line, rawInt pos.col, .ref c']) ({ cls := .none, data := .fields ps } : Obj)) =
        { cls := .none, data := .fields (ps ++ #[rawInt pos.line, rawInt pos.col, .ref c']) } := by
      show (Obj.mk _ _ _ _) = _
      simp [hnf]
    have hget := Heap.get?_update_self (h := h') (fun o => Obj.mapFields (fun vs => if (codeAmong pos vs.toList).isSome = true then vs else
      vs ++ #[rawInt pos.line, rawInt pos.col, .ref c']) o) hop2 (by rw [hnew]; rfl)
    rw [hnew] at hget
    refine wpAny_bind (wpAny_fieldsOf hget rfl ?_)
    have hl : (ps ++ #[rawInt pos.line, rawInt pos.col, Value.ref c']).toList = ps.toList ++ [rawInt pos.line, rawInt pos.col, .ref c'] := by simp
    rw [hl, codeAmong_snoc _ hT hnf]
    have sb : ∀ b o', b ≠ P → s.heap.get? b = some o' → (h'.update P fun o => Obj.mapFields (fun vs => if (codeAmong pos vs.toList).isSome = true then vs else vs ++ #[rawInt pos.line, rawInt pos.col, .ref c']) o).get? b = some o' :=
      fun b o' hb e => (Heap.SameBut.update ..).extBut b o' hb (hk b o' e)
    refine wpAny_pure (q _ _ (fun b o' hb e => sb b o' (fun z => hb (z ▸ hP)) e) (fun P₂ hP₂ => ?_) rfl rfl)
    by_cases hz : P₂ = P
    · obtain rfl := hz.symm
      exact ⟨ps, #[rawInt pos.line, rawInt pos.col, .ref c'], hPs, hget, by rw [hl]; exact TriplesOk_snoc _ _ _ _ hT⟩
    · exact (W.tab P₂ hP₂).grows.keep fun o e => sb P₂ o hz e
end
end Mine
end

-- part F18
section
set_option maxRecDepth 100000
namespace Mine
open PySem PySem.W PyProof.Rows Builtin Builtin.ObjectAttr

section
variable {prog : Program} {w : World} {A : Around} {E : Value → Shared → Prop} {s : Shared}
/-- any object that holds items in a row -/
def SeqObj (h : Heap) (l : Addr) (vs : List Value) : Prop := ∃ o n, h.get? l = some o ∧ o.data = .seq vs.toArray n

theorem seq_next {it l : Addr} {i : Nat} {vs : List Value} {x : Value} {Q : Option Value → Shared → Prop} (hit : s.heap.IsListIter it l i) (hl : SeqObj s.heap l vs) (hx : vs[i]? = some x)
    (hQ : ∀ h', h'.IsListIter it l (i + 1) → Heap.SameBut it s.heap h' → Q (some x) { s with heap := h' }) : wpAny (model prog w) A (pyNext (.ref it)) Q E s := by
  obtain ⟨o, ho, hc, hd⟩ := id hit
  obtain ⟨ol, nl, hol, hdl⟩ := hl
  unfold pyNext
  refine wpAny_bind (wpAny_attempt (wpAny_callSpecial?_slot (name := Str.ofString "__next__") hit.typeIs slot_listiter_next
    (wpAny_call_entry slot_listiter_next hit.typeIs entry_listiter_next ?_ (args_listiter_next _))))
  show wpAny _ _ (field (.ref it) 0 >>= _) _ _ s
  refine wpAny_bind (wpAny_field ho hd (x := .ref l) rfl ?_)
  show wpAny _ _ (if (Value.ref l == Value.none) = true then _ else _) _ _ s
  rw [if_neg (show ¬ ((Value.ref l == Value.none) = true) from Bool.false_ne_true)]
  show wpAny _ _ (field (.ref it) 1 >>= _) _ _ s
  refine wpAny_bind (wpAny_field ho hd (x := .int i 0) rfl ?_)
  show wpAny _ _ (seqItems? (.ref l) >>= _) _ _ s
  refine wpAny_bind (wpAny_seqItems hol hdl ?_)
  have hx' : vs.toArray[i]? = some x := by simpa using hx
  simp only [Int.toNat_natCast, hx']
  refine wpAny_bind (wpAny_setField ho hd (by simp) (wpAny_pure ⟨x, rfl, wpAny_pure (hQ _ ?_ (Heap.SameBut.update ..))⟩))
  exact ⟨_, Heap.get?_update_self _ ho (Obj.isFreed_of_fields (Obj.data_mapFields hd _)), (Obj.cls_mapFields ..).trans hc, by
    rw [Obj.data_mapFields hd]; simp [rawInt]⟩

theorem seq_end {it l : Addr} {i : Nat} {vs : List Value} {Q : Option Value → Shared → Prop} (hh : A.handled = none) (hit : s.heap.IsListIter it l i) (hl : SeqObj s.heap l vs) (hx : vs[i]? = none)
    (hQ : ∀ h', Heap.ExtBut it s.heap h' → Q none { s with heap := h' }) : wpAny (model prog w) A (pyNext (.ref it)) Q E s := by
  obtain ⟨o, ho, hc, hd⟩ := id hit
  obtain ⟨ol, nl, hol, hdl⟩ := hl
  unfold pyNext
  refine wpAny_bind (wpAny_attempt (wpAny_callSpecial?_slot (name := Str.ofString "__next__") hit.typeIs slot_listiter_next
    (wpAny_call_entry slot_listiter_next hit.typeIs entry_listiter_next ?_ (args_listiter_next _))))
  show wpAny _ _ (field (.ref it) 0 >>= _) _ _ s
  refine wpAny_bind (wpAny_field ho hd (x := .ref l) rfl ?_)
  show wpAny _ _ (if (Value.ref l == Value.none) = true then _ else _) _ _ s
  rw [if_neg (show ¬ ((Value.ref l == Value.none) = true) from Bool.false_ne_true)]
  show wpAny _ _ (field (.ref it) 1 >>= _) _ _ s
  refine wpAny_bind (wpAny_field ho hd (x := .int i 0) rfl ?_)
  show wpAny _ _ (seqItems? (.ref l) >>= _) _ _ s
  refine wpAny_bind (wpAny_seqItems hol hdl ?_)
  have hx' : vs.toArray[i]? = none := by simpa using hx
  simp only [Int.toNat_natCast, hx']
  refine wpAny_bind (wpAny_rule (wpAny_bind (wpAny_setField ho hd (by simp) ?_)))
  show wpAny _ _ (newExc (.type "StopIteration") [] >>= _) _ _ _
  refine wpAny_bind ?_
  simp only [newExc, newTuple]
  refine wpAny_bind (wpAny_newObj_type ?_ (by size_fits))
  refine wpAny_bind (m := firstArgMember _ _) (wpAny_of_eq (a := Value.none) (by first | rfl | (simp only [firstArgMember]; rfl)) ?_)
  refine wpAny_newObj_type ?_ (by size_fits)
  dsimp only [raiseNew]
  refine wpAny_bind (wpAny_handled ?_)
  rw [show A.in1.handled = none from hh]
  refine wpAny_bind (wpAny_pure (wpAny_throw ?_))
  refine wpAny_bind (wpAny_isInstance (T := "StopIteration") (b := true) ⟨_, Heap.get?_push_size _ rfl, rfl⟩ isSubtype_stop ?_)
  exact wpAny_pure (hQ _ (((Heap.SameBut.update ..).extBut.push _).push _))

/-- an iterator at I over the items vs of l stands at i; all else in fp is as in h₄ -/
def ItSt (h₄ : Heap) (fp : List Addr) (I l : Addr) (i : Nat) (h : Heap) : Prop := h.IsListIter I l i ∧ ∀ b ∈ fp, b ≠ I → ∀ o, h₄.get? b = some o → h.get? b = some o

theorem ItSt.seq {h₄ h : Heap} {fp : List Addr} {I l : Addr} {i : Nat} {vs : List Value} (x : ItSt h₄ fp I l i h) (hl : SeqObj h₄ l vs) (hlf : l ∈ fp) (hlI : l ≠ I) : SeqObj h l vs := by
  obtain ⟨o, n, ho, hd⟩ := hl
  exact ⟨o, n, x.2 l hlf hlI o ho, hd⟩

theorem walks1 {h₄ : Heap} {fp : List Addr} {I l : Addr} {vs : List Value} (hh : A.handled = none) (hI : I ∈ fp) (hl : SeqObj h₄ l vs) (hlf : l ∈ fp) (hlI : l ≠ I) :
    Walks prog w A I fp [I] vs.length (fun i v => vs[i]? = some v) (ItSt h₄ fp I l) where
  sub := fun b hb => by rw [List.mem_singleton.mp hb]; exact hI
  frame := fun i h h' st k => ⟨let ⟨o, ho, r⟩ := st.1; ⟨o, k I hI o ho, r⟩, fun b hb hbI o e => k b hb o (st.2 b hb hbI o e)⟩
  item := fun i s Q E hi st q => seq_next st.1 (st.seq hl hlf hlI) (List.getElem?_eq_getElem hi) fun h' it' hs => by
    exact q _ h' s.toks (List.getElem?_eq_getElem hi) ⟨it', fun b hb hbI o e => (hs.2 b hbI).trans (st.2 b hb hbI o e)⟩ fun b o hb e => (hs.2 b (fun z => hb (by rw [z]; exact List.mem_singleton.mpr rfl))).trans e
  done := fun s Q E st q => seq_end hh st.1 (st.seq hl hlf hlI) (by simp) fun h' hs => q h' s.toks fun b o hb e => hs b o (fun z => hb (by rw [z]; exact List.mem_singleton.mpr rfl)) e
  self := fun i s Q E st q => wpAny_pyIter_listiter st.1 q

theorem walks2 {h₄ : Heap} {fp : List Addr} {I l : Addr} {vs : List Value} (hh : A.handled = none) (hI : I ∈ fp) (hl : SeqObj h₄ l vs) (hlf : l ∈ fp) (hlI : l ≠ I)
    (htup : ∀ v ∈ vs, ∃ T a b n, v = .ref T ∧ h₄.get? T = some (tupO [a, b] n) ∧ T ∈ fp ∧ T ≠ I) :
    WalksU prog w A I fp [I] vs.length (fun i vals => ∃ T a b n, vs[i]? = some (.ref T) ∧ h₄.get? T = some (tupO [a, b] n) ∧ vals = #[a, b]) (ItSt h₄ fp I l) (fun i T h => ItSt h₄ fp I l (i + 1) h ∧ T ≠ I) where
  sub := fun b hb => by rw [List.mem_singleton.mp hb]; exact hI
  frame := fun i h h' st k => ⟨let ⟨o, ho, r⟩ := st.1; ⟨o, k I hI o ho, r⟩, fun b hb hbI o e => k b hb o (st.2 b hb hbI o e)⟩
  item := fun i s Q E hi st q => seq_next st.1 (st.seq hl hlf hlI) (List.getElem?_eq_getElem hi) fun h' it' hs => by
    obtain ⟨T, a, b, n, zq⟩ := htup vs[i] (List.getElem_mem hi)
    have e1 := zq.1
    replace zq := zq.2
    have e2 := zq.1
    replace zq := zq.2
    have e3 := zq.1
    replace zq := zq.2
    have e4 := zq
    clear zq
    rw [e1]
    have st' : ItSt h₄ fp I l (i + 1) h' := ⟨it', fun b hb hbI o e => (hs.2 b hbI).trans (st.2 b hb hbI o e)⟩
    exact q T #[a, b] h' s.toks ⟨T, a, b, n, by rw [List.getElem?_eq_getElem hi, e1], e2, rfl⟩ ⟨_, st'.2 T e3 e4 _ e2, rfl, n, rfl⟩ ⟨st', e4⟩ fun b o hb e => (hs.2 b (fun z => hb (by rw [z]; exact List.mem_singleton.mpr rfl))).trans e
  go := fun elts k pos i T s Q E mid q => wpAny_letOwnedTupleGo_listiter mid.1.1 (q s.heap mid.1 fun _ _ _ e => e)
  apart := fun i T h mid hT => mid.2 (List.mem_singleton.mp hT)
  done := fun s Q E st q => seq_end hh st.1 (st.seq hl hlf hlI) (by simp) fun h' hs => q h' s.toks fun b o hb e => hs b o (fun z => hb (by rw [z]; exact List.mem_singleton.mpr rfl)) e
  self := fun i s Q E st q => wpAny_pyIter_listiter st.1 q
end

section
variable {g : G} {k : Nat} {env : Env} {ρ ρ₁ ρ₂ : En} {μ μ₁ μ₂ μ₃ μ₄ : List MO}

theorem acc_ifBound {A : Around} {θ : Th} {s : Shared} {i : Nat} {p : Addr × Addr} {kk : Int} {ds : List D} {name : Str} {id : String} {refuse : Sem Value} {Q : Option Value → Shared → Prop} {E : Value → Shared → Prop} (C : AccC g) (W : Wld g θ μ s) (e : θ[i]? = some p) (hm : μ[i]? = some (.acc kk ds))
    (hf : findIn g.K (.ref g.cls) name = some (some (.builtin id))) (hb : bindSpecial (.builtin id) (.ref p.1) = pure (.builtin id, [.ref p.1])) (hc : wpAny g.M A (call (.builtin id) [.ref p.1]) (fun v => Q (some v)) E s) :
    wpAny g.M A (callSpecialIfBoundUnlessNone? (.ref p.1) name refuse) Q E s := by
  obtain ⟨vs, n, od, t, m, zq⟩ := acc_inst W e hm
  have ho := zq.1
  replace zq := zq.2
  have I := zq.1
  replace zq := zq.2
  have hns := zq.1
  replace zq := zq.2
  have hl := zq.1
  replace zq := zq.2
  have hsz := zq.1
  replace zq := zq.2
  have hno := zq.1
  replace zq := zq.2
  have hV := zq.1
  replace zq := zq.2
  have hC := zq
  clear zq
  dsimp only [callSpecialIfBoundUnlessNone?, bindSpecialIfBound?]
  unfold specialOf
  refine wpAny_holding (wpAny_bind (wpAny_bind (wpAny_bind (lkAt I.type rfl (lkAt (looks_findIn W.kin hf) rfl ?_)))))
  simp only [hb]
  refine wpAny_bind (wpAny_askSetting (wpAny_ite ?_))
  have fin : wpAny g.M A (if (Value.builtin id == Value.none) = true then (refuse >>= fun v => pure (some v)) else (call (.builtin id) [.ref p.1] >>= fun v => pure (some v))) Q E s := by
    rw [show (Value.builtin id == Value.none) = false from rfl, if_neg (by decide)]
    exact wpAny_bind (wpAny_mono hc (fun v s' h' => wpAny_pure h') fun _ _ h' => h')
  split
  · exact wpAny_bind (wpAny_pure (wpAny_pure fin))
  · exact wpAny_tryCatch (wpAny_bind (wpAny_pure (wpAny_pure fin)))

/-- an iterator over an accumulator -/
theorem acc_iter {A : Around} {θ : Th} {s : Shared} {i : Nat} {p : Addr × Addr} {kk : Int} {ds : List D} {Q : Value → Shared → Prop} {E : Value → Shared → Prop} (C : AccS g) (W : Wld g θ μ s) (e : θ[i]? = some p) (hm : μ[i]? = some (.acc kk ds))
    (q : Q (.ref s.heap.objs.size) { s with heap := s.heap.push { cls := .type "list_iterator", data := .fields #[.ref p.1, .int 0 0] } }) : wpAny g.M A (pyIter (.ref p.1)) Q E s := by
  obtain ⟨vs, n, od, t, m, zq⟩ := acc_inst W e hm
  have ho := zq.1
  replace zq := zq.2
  have I := zq.1
  replace zq := zq.2
  have hns := zq.1
  replace zq := zq.2
  have hl := zq.1
  replace zq := zq.2
  have hsz := zq.1
  replace zq := zq.2
  have hno := zq.1
  replace zq := zq.2
  have hV := zq.1
  replace zq := zq.2
  have hC := zq
  clear zq
  unfold pyIter
  refine wpAny_bind ?_
  unfold specialOf
  refine wpAny_bind (lkAt I.type rfl (lkAt (looks_findIn W.kin C.it) rfl ?_))
  show wpAny _ _ (callSpecialIfBoundUnlessNone? (.ref p.1) "__iter__" _ >>= _) _ _ s
  refine wpAny_bind (acc_ifBound C.toAccC W e hm C.it (slot_list_iter.bind _) ?_)
  refine acc_call C.toAccC W e hm (.inl (by decide +kernel)) (n := "__iter__") (by decide +kernel) slot_list_iter.plain entry_list_iter (args_list_iter _) ?_
  show wpAny _ _ (do ret (← newFields "list_iterator" [.ref p.1, rawInt 0])) _ _ s
  refine wpAny_bind (wpAny_newObj_type (wpAny_pure ⟨_, rfl, ?_⟩))
  exact wpAny_bind (wpAny_specialOf (T := "list_iterator") ⟨_, Heap.get?_push_size _ rfl, rfl⟩ slot_listiter_next.lookup (wpAny_pure q))
end
end Mine
end

-- part F19
section
set_option maxRecDepth 100000
namespace Mine
open PySem PySem.W PyProof.Rows Builtin Builtin.ObjectAttr

section
variable {g : G} {k : Nat} {env : Env} {ρ ρ₁ ρ₂ : En} {μ μ₁ μ₂ μ₃ μ₄ : List MO}

theorem Wld.moved {θ : Th} {s s' : Shared} (wr : List Addr) (W : Wld g θ μ s) (hw : ∀ b ∈ wr, g.hB.get? b = none ∧ b ∉ adrs θ ∧ ∀ o, s.heap.get? b = some o → ¬ ∃ vs n, o.data = .seq vs n)
    (hk : ∀ b o, b ∉ wr → s.heap.get? b = some o → s'.heap.get? b = some o) (hg : AllBare s'.gens) (ho : s'.os = s.os) : Wld g θ μ s' := by
  have hl : LatV g θ s.heap θ s'.heap := ⟨⟨[], by simp, fun _ h => nomatch h⟩, fun b o _ e q => hk b o (fun z => (hw b z).2.2 o e q) e⟩
  have ne : ∀ b o, g.hB.get? b = some o → b ∉ wr := fun b o e z => by exact nomatch ((hw b z).1).symm.trans e
  refine ⟨?_, fun b o nb e => hk b o (ne b o e) (W.base b o nb e), W.gd, ho.trans W.os, hg, W.newer, W.apart, W.len, fun P hP => (W.tab P hP).at fun o e => hk P o (by obtain ⟨o', e'⟩ := W.gd.low P hP; exact ne P o' e') e, fun i p mo e e' => ?_⟩
  · refine ⟨fun b o e => ?_, fun b o e => ?_⟩
    · rcases W.old.old b o e with x | ⟨t, hc, vs, more, hv, x⟩ | ⟨rfl, hc, ⟨o', es, n, ho', r⟩, z⟩
      · exact .inl (hk b _ (ne b o e) x)
      · exact .inr (.inl ⟨t, hc, vs, more, hv, hk b _ (ne b o e) x⟩)
      · exact .inr (.inr ⟨rfl, hc, ⟨o', es, n, hk _ _ (ne _ o e) ho', r⟩, fun key => by rw [OldK.staticOf_congr ((hk _ _ (ne _ o e) ho').trans ho'.symm) key]; exact z key⟩)
    · obtain ⟨o', e'⟩ := W.old.there b o e
      exact ⟨o', hk b _ (ne b o e) e'⟩
  · have hp := List.mem_of_getElem? e
    have n1 : p.1 ∉ wr := fun z => (hw _ z).2.1 (mem_adrs.mpr ⟨p, hp, .inl rfl⟩)
    have n2 : p.2 ∉ wr := fun z => (hw _ z).2.1 (mem_adrs.mpr ⟨p, hp, .inr rfl⟩)
    cases W.has i p mo e e' with
    | list h r c => exact .list (hk _ _ n1 h) (r.latV hl) c
    | acc h nn hm ho r c => exact .acc (hk _ _ n1 h) (nn.at fun o e => hk _ o n2 e) hm ho (r.latV hl) c
    | raw h nn hm => exact .raw (hk _ _ n1 h) (nn.at fun o e => hk _ o n2 e) hm

/-- a datum that is no object -/
def Atom (v : Value) (d : D) : Prop := (∃ i t, v = .int i t ∧ d = .int i) ∨ (∃ x t, v = .str x t ∧ d = .str x) ∨ ∃ x t, v = .float x t ∧ d = .flt x
theorem Val.atomS {θ : Th} {h : Heap} {v : Value} {x : Str} (V : Val g θ h v (.str x)) : Atom v (.str x) := by
  cases V; exact .inr (.inl ⟨_, _, rfl, rfl⟩)
theorem Val.atomI {θ : Th} {h : Heap} {v : Value} {x : Int} (V : Val g θ h v (.int x)) : Atom v (.int x) := by
  cases V; exact .inl ⟨_, _, rfl, rfl⟩

/-- a generator that has not begun -/
structure GenR (g : G) (A : Around) (θ : Th) (μ : List MO) (s₀ : Shared) (a C I : Addr) (gi : Nat) (fp : List Addr) (n : Nat) (F : Nat → Value → Prop) (s : Shared) : Prop where
  W : Wld g θ μ s
  L : Lat g θ s₀ θ s
  fresh : s₀.heap.get? a = none ∧ s₀.heap.get? C = none ∧ s₀.heap.get? I = none
  nseq : ∀ b ∈ [C, I], ∀ o, s.heap.get? b = some o → ¬ ∃ vs n, o.data = .seq vs n
  walks : WalksS g.prog g.w A.in4 a (a :: C :: fp) [C, I] (GenOnlyQ gi) (passing (fun _ => true) n 0).length (fun j y => ∃ i, (passing (fun _ => true) n 0)[j]? = some i ∧ F i y) (GenAt g.prog g.w A.in4 a gi C fp [I] (fun _ => true) n F)
  st : GenAt g.prog g.w A.in4 a gi C fp [I] (fun _ => true) n F 0 s
  lt : ∀ b ∈ a :: C :: fp, b < s.heap.objs.size
  gi_lt : gi < s.gens.size
  ltC : ∀ b ∈ fp, b < C
  Clt : C < a

theorem passing_all (n : Nat) : passing (fun _ => true) n 0 = List.range n := by simp [passing]

theorem GenR.after {A : Around} {θ : Th} {s₀ s s' : Shared} {a C I : Addr} {gi : Nat} {fp : List Addr} {n : Nat} {F : Nat → Value → Prop} (W₀ : Wld g θ μ s₀) (R : GenR g A θ μ s₀ a C I gi fp n F s) (m : Moved [C, I] (GenOnlyQ gi) s s') : Wld g θ μ s' ∧ Lat g θ s₀ θ s' := by
  have hw : ∀ b ∈ [C, I], s₀.heap.get? b = none := fun b hb => by
    rcases List.mem_cons.mp hb with zr | hb
    · obtain rfl := zr.symm
      exact R.fresh.2.1
    · rw [List.mem_singleton.mp hb]; exact R.fresh.2.2
  refine ⟨R.W.moved [C, I] (fun b hb => ⟨fresh_base W₀ (hw b hb), fresh_adrs W₀ (hw b hb), R.nseq b hb⟩) m.heap (AllBare.moved R.W.gens m.gens) m.os, ⟨R.L.pre, fun b o nb e => ?_, fun b o e => ?_⟩⟩
  · exact m.heap b o (fun hb => by rw [hw b hb] at e; cases e) (R.L.keep b o nb e)
  · obtain ⟨o', e'⟩ := R.L.alive b o e
    exact ⟨o', m.heap b o' (fun hb => by rw [hw b hb] at e; cases e) e'⟩

theorem Wld.room {θ : Th} {s : Shared} (W : Wld g θ μ s) : cStatics < s.heap.objs.size := let ⟨_, hn, _⟩ := W.lim; hn.lt

/-- what an element's evaluation may lean on -/
structure ElEnv (g : G) (cenv : Env) (cl : List (Str × Addr)) (scope : Scope) (s : Shared) (ρc : En) : Prop where
  kind : cenv.scope.kind = .function
  scope : cenv.scope = scope
  cells : cenv.cells = cl
  glob : cenv.globals = mainGlobals ∧ cenv.builtins = builtinsNs
  gl : s.heap.Ns mainGlobals g.mg
  bi : s.heap.Ns builtinsNs g.mb
  lim : s.heap.NoLimit
  locals : ∃ m, s.heap.Ns cenv.locals m ∧ ∀ x d, ρc.lookup x = some d → cenv.kindOf x = some .local → ∃ v, m x = some v ∧ Atom v d
  free : ∀ x c d, cl.lookup x = some c → ρc.lookup x = some d → ∃ u, s.heap.IsCell c (some u) ∧ Atom u d

/-- an element's value -/
def ElV (g : G) (cl : List (Str × Addr)) (scope : Scope) (ρc : En) (elt : Expr) (e : D) : Prop :=
  ∀ (cenv : Env) (A : Around) (E : Value → Shared → Prop) (s : Shared), A.handled = none → A.units + 20 < cLine → ElEnv g cenv cl scope s ρc → wpAny g.M A (eval elt cenv) (fun y s' => Atom y e ∧ Keeps s s') E s

def pairD (q : Str × Str) : D := .tup [.str q.1, .str q.2]

theorem range_in {n : Nat} {h : Heap} {b : Addr} {o : Obj} (e : h.get? b = some o) (hn : h.objs.size ≤ n) : b ∈ List.range n := List.mem_range.mpr (Nat.lt_of_lt_of_le (Heap.lt_size e) hn)

/-- a generator expression over an accumulator of pairs of texts -/
theorem gen_pair {A : Around} {θ : Th} {s : Shared} {i : Nat} {kk : Int} {its : List (Str × Str)} {f : Str × Str → D} {elt : Expr} {xa xb x : Str} {pa pb pt xp pos : Pos} {kt : Nat} {scope : Scope} {Q : Value → Shared → Prop} {E : Value → Shared → Prop}
    (Cc : AccS g) (hG : GenDef g env.code) (ft : Fit (k + 1) A) (S : Sta g env θ ρ μ s) (h1 : Ev g (k + 1) env ρ μ (.Name x xp) (.ob i) μ) (hi : μ[i]? = some (.acc kk (its.map pairD)))
    (hco : scope.isCoroutine = false) (hclos : closureFor scope env = pure []) (hcell : ∀ y ∈ scope.names, y.2 ≠ .cell) (h0 : scope.names.lookup (".0" : Str) = some NameKind.local) (hkind : scope.kind = .function)
    (hxa : scope.names.lookup xa = some .local) (hxb : scope.names.lookup xb = some .local) (hab : xa ≠ xb)
    (helt : ∀ q ∈ its, ElV g [] scope [(xa, .str q.1), (xb, .str q.2)] elt (f q))
    (q : ∀ a C I gi fp s₀ s', Wld g θ μ s₀ → Lat g θ s θ s₀ → GenR g A θ μ s₀ a C I gi fp its.length (fun j y => ∃ q, its[j]? = some q ∧ Atom y (f q)) s' → Q (.ref a) s')
    (hs : ∀ y, genFold (.Name x xp) env y = pure y := by intro _; rfl) :
    wpAny g.M A (eval (.GeneratorExp elt [⟨.Tuple [.Name xa pa, .Name xb pb] kt pt, .Name x xp, [], 0⟩] scope pos) env) Q E s := by
  refine wpAny_GeneratorExp_make hco hclos hcell h0 hkind (by have := ft.depth; lia) (h1 A θ s _ E ft S fun v θ₁ s₁ l₁ W₁ V₁ => ?_) hs
  obtain rfl := (th_same S.W l₁ W₁).symm
  obtain ⟨p, ep, rfl⟩ := V₁.ob_inv
  refine acc_iter Cc W₁ ep hi ?_
  obtain ⟨vs, n, od, tk, m, zq⟩ := acc_inst W₁ ep hi
  have ho := zq.1
  replace zq := zq.2
  have Ii := zq.1
  replace zq := zq.2
  have hns := zq.1
  replace zq := zq.2
  have hlk := zq.1
  replace zq := zq.2
  have hsz := zq.1
  replace zq := zq.2
  have hno := zq.1
  replace zq := zq.2
  have hV := zq.1
  replace zq := zq.2
  have hC := zq
  clear zq
  have hvl : vs.length = its.length := by have := hV.length; simpa using this
  generalize hI : s₁.heap.objs.size = I
  have eI : s₁.heap.get? I = none := hI ▸ get_size _
  generalize hs₂ : ({ s₁ with heap := s₁.heap.push { cls := .type "list_iterator", data := .fields #[.ref p.1, .int 0 0] } } : Shared) = s₂
  have k₂ : ∀ b o, s₁.heap.get? b = some o → s₂.heap.get? b = some o := fun b o e => by rw [← hs₂]; exact Heap.get?_push_of_some _ e
  have W₂ : Wld g θ μ s₂ := W₁.keeps k₂ (by rw [← hs₂]; exact W₁.gens) (by rw [← hs₂])
  have it₂ : s₂.heap.get? I = some { cls := .type "list_iterator", data := .fields #[.ref p.1, .int 0 0] } := by rw [← hs₂, ← hI]; exact Heap.get?_push_size _ rfl
  refine ⟨W₂.lim, gen_code hG W₂ fun code s₃ k₃ t₃ g₃ o₃ => ?_⟩
  have zq := W₂.gen k₃ t₃ (by rw [g₃]; exact W₂.gens) o₃
  have W₃ := zq.1
  replace zq := zq.2
  have L₃ := zq
  clear zq
  have L₁₃ : Lat g θ s₁ θ s₃ := (Lat.ofKeeps k₂).trans L₃
  obtain ⟨bm, ob, zq⟩ := W₃.gd.bmain
  have b1 := zq.1
  replace zq := zq.2
  have b2 := zq.1
  replace zq := zq.2
  have b3 := zq.1
  replace zq := zq.2
  have b4 := zq.1
  replace zq := zq.2
  have b5 := zq.1
  replace zq := zq.2
  have b6 := zq.1
  replace zq := zq.2
  have b7 := zq
  clear zq
  refine wpAny_builtinsFor (by rw [S.F.glob.1]; exact W₃.gl) b1 b2 (W₃.base bm ob b7 b3) b4 b5 b6 ?_
  generalize hC' : s₃.heap.objs.size = C
  intro h' hn' hs'
  have hIt : I ∉ g.tabs := fun h => by
    obtain ⟨o, e⟩ := W₁.gd.low I h
    exact nomatch (fresh_base W₁ eI).symm.trans e
  have hpt : p.1 ∉ g.tabs := fun h => by
    obtain ⟨o, e⟩ := W₁.gd.low _ h
    exact nomatch ((W₁.newer p (List.mem_of_getElem? ep)).1).symm.trans e
  have it₃ := k₃ I _ hIt it₂
  have ho₃ := k₃ p.1 _ hpt (k₂ _ _ ho)
  have eC : s₃.heap.get? C = none := hC' ▸ get_size _
  have kC : ∀ b o, s₃.heap.get? b = some o → h'.get? b = some o := fun b o e => hs'.extBut b o (fun z => by rw [z, eC] at e; cases e) (Heap.get?_push_of_some _ e)
  have szh : h'.objs.size = C + 1 := by rw [hs'.1, Heap.size_push, hC']
  generalize hgn : ({ cls := .type "generator", data := .fields #[.int s₃.gens.size 0, .str "<genexpr>" (s₃.toks + 1), .str (env.qual ++ "<genexpr>") (s₃.toks + 1 + 1)] } : Obj) = og
  have k₅ : ∀ b o, s₃.heap.get? b = some o → (h'.push og).get? b = some o := fun b o e => Heap.get?_push_of_some _ (kC b o e)
  have hhA : A.in4.handled = none := ft.handled
  have memC : ∀ {b : Addr} {o : Obj}, s₃.heap.get? b = some o → b ∈ List.range C := fun e => range_in e (Nat.le_of_eq hC')
  have hpI : p.1 ≠ I := fun z => by rw [z, eI] at ho; cases ho
  have hcs : cStatics < C := by rw [← hC']; exact W₃.room
  have hcsI : cStatics ≠ I := fun z => by
    obtain ⟨_, ⟨o, _, _, e, _⟩, _⟩ := W₁.lim
    rw [z, eI] at e; cases e
  have htup : ∀ v ∈ vs, ∃ T a b n, v = .ref T ∧ s₃.heap.get? T = some (tupO [a, b] n) ∧ T ∈ List.range C ∧ T ≠ I := fun v hv => by
    obtain ⟨j, hj, rfl⟩ := List.getElem_of_mem hv
    obtain ⟨d, hd, V⟩ := hV.get' (List.getElem?_eq_getElem hj)
    simp only [List.getElem?_map, Option.map_eq_some_iff] at hd
    obtain ⟨q, hq, rfl⟩ := hd
    obtain ⟨T, us, m, zq⟩ := V.tup_inv
    have e1 := zq.1
    replace zq := zq.2
    have e2 := zq.1
    replace zq := zq.2
    have e3 := zq.1
    replace zq := zq.2
    have r := zq
    clear zq
    cases r with
    | cons Va r => cases r with
      | cons Vb r => cases r; exact ⟨T, _, _, m, e1, k₃ T _ (fun h => e3 (List.mem_append.mpr (.inl h))) (k₂ _ _ e2), memC (k₃ T _ (fun h => e3 (List.mem_append.mpr (.inl h))) (k₂ _ _ e2)), fun z => by rw [z, eI] at e2; cases e2⟩
  have W₀ : ∀ A' : Around, A'.handled = none → WalksU g.prog g.w A' I (List.range C) [I] vs.length (fun i vals => ∃ T a b n, vs[i]? = some (.ref T) ∧ s₃.heap.get? T = some (tupO [a, b] n) ∧ vals = #[a, b]) (ItSt s₃.heap (List.range C) I p.1) (fun i T h => ItSt s₃.heap (List.range C) I p.1 (i + 1) h ∧ T ≠ I) :=
    fun A' hA => walks2 hA (memC it₃) ⟨_, _, ho₃, rfl⟩ (memC ho₃) hpI htup
  have hCf : C ∉ List.range C := fun hm => Nat.lt_irrefl _ (List.mem_range.mp hm)
  have hq : QuietGenTD g.prog g.w (genEnv scope [] C code builtinsNs env) xa xb [] elt (List.range C) [I] (fun i vals => ∃ T a b n, vs[i]? = some (.ref T) ∧ s₃.heap.get? T = some (tupO [a, b] n) ∧ vals = #[a, b]) (fun _ => true) (fun j y => ∃ q, its[j]? = some q ∧ Atom y (f q)) (h'.push og) (A.in4.depth + 1) (A.in4.units + 4) := by
    refine ⟨fun A' E' i va vb s₂ m₂ _ _ _ _ _ _ _ _ => wpAny_pure ⟨rfl, s₂.heap, s₂.toks, rfl, fun _ _ e => e⟩, fun A' E' j va vb sx m₂ hA _ hu hP _ hn₂ hma hmb hkx => ?_⟩
    obtain ⟨T, a', b', n', zq⟩ := hP
    have e1 := zq.1
    replace zq := zq.2
    have e2 := zq.1
    replace zq := zq.2
    have e3 := zq
    clear zq
    have kx : ∀ b o, b ≠ I → s₃.heap.get? b = some o → sx.heap.get? b = some o := fun b o hb e => hkx b (memC e) (fun h => hb (List.mem_singleton.mp h)) o (k₅ b o e)
    obtain ⟨d, hd, V⟩ := hV.get' e1
    simp only [List.getElem?_map, Option.map_eq_some_iff] at hd
    obtain ⟨qq, hqq, rfl⟩ := hd
    have hm3 := List.mem_of_getElem? hqq
    obtain ⟨T', us, m', zq⟩ := V.tup_inv
    have e1' := zq.1
    replace zq := zq.2
    have e2' := zq.1
    replace zq := zq.2
    have e3' := zq.1
    replace zq := zq.2
    have r := zq
    clear zq
    cases e1'
    have e2'' := k₃ T _ (fun h => e3' (List.mem_append.mpr (.inl h))) (k₂ _ _ e2')
    rw [e2] at e2''
    have hus : us = [a', b'] := by
      injection e2'' with z
      injection z with _ _ z
      injection z with z
      have := congrArg Array.toList z
      simpa using this.symm
    subst hus
    have hvals : #[va, vb] = #[a', b'] := e3
    have hva : va = a' ∧ vb = b' := by simpa using hvals
    obtain ⟨rfl, rfl⟩ := hva
    cases r with
    | cons Va r => cases r with
      | cons Vb r =>
        cases r
        have hmI : mainGlobals ≠ I := fun z => by
          obtain ⟨o, _, _, e, _⟩ := W₁.gl
          rw [z, eI] at e; cases e
        have hbI : builtinsNs ≠ I := fun z => by
          obtain ⟨o, _, _, e, _⟩ := W₁.bi
          rw [z, eI] at e; cases e
        refine wpAny_mono (helt qq hm3 (genEnv scope [] C code builtinsNs env) A' E' sx hA ?_ ⟨hkind, rfl, rfl, ⟨S.F.glob.1, rfl⟩, W₃.gl.at' fun o e => kx _ o hmI e, W₃.bi.at' fun o e => kx _ o hbI e, ?_, ⟨m₂, hn₂, fun y d hy hky => ?_⟩, fun y c d hc => (nomatch hc)⟩) (fun y s' hy => ⟨⟨qq, hqq, hy.1⟩, hy.2⟩) fun _ _ z => z
        · have := ft.units
          have : A.in4.units = A.units + 4 := rfl
          lia
        · obtain ⟨mc, hc1, hc2⟩ := W₃.lim
          exact ⟨mc, hc1.at' fun o e => kx _ o hcsI e, hc2⟩
        · rw [List.lookup_cons] at hy
          by_cases hz : y = xa
          · subst hz
            simp only [beq_self_eq_true] at hy
            cases hy
            exact ⟨va, hma, Va.atomS⟩
          · have hz' : (y == xa) = false := by simpa using hz
            rw [hz', List.lookup_cons] at hy
            by_cases hz2 : y = xb
            · subst hz2
              simp only [beq_self_eq_true] at hy
              cases hy
              exact ⟨vb, hmb, Vb.atomS⟩
            · have hz2' : (y == xb) = false := by simpa using hz2
              rw [hz2'] at hy; cases hy
  have haC : h'.objs.size ≠ C := by rw [szh]; exact Nat.succ_ne_self _
  have haf : h'.objs.size ∉ List.range C := fun hm => by have := List.mem_range.mp hm; lia
  have k5 : ∀ b o, s₃.heap.get? b = some o → (h'.push og).get? b = some o := k₅
  generalize hcd : Code.compStart (.GeneratorExp elt [⟨.Tuple [.Name xa pa, .Name xb pb] kt pt, .Name x xp, [], 0⟩] scope pos) 0 (.ref I) .none (genEnv scope [] C code builtinsNs env) = cd0
  generalize hs5 : ({ s₃ with gens := s₃.gens.push (.fresh cd0), toks := s₃.toks + 1 + 1 + 1, heap := h'.push og } : Shared) = s₅
  have hp5 : s₅.heap = h'.push og := by rw [← hs5]
  have kk5 : ∀ b o, s₃.heap.get? b = some o → s₅.heap.get? b = some o := fun b o e => by rw [hp5]; exact k₅ b o e
  have W₅ : Wld g θ μ s₅ := W₃.keeps kk5 (by rw [← hs5]; exact W₃.gens.push rfl) (by rw [← hs5])
  have eA : s₁.heap.get? h'.objs.size = none := by
    cases q : s₁.heap.get? h'.objs.size with
    | none => rfl
    | some o =>
      obtain ⟨o', e'⟩ := L₁₃.alive _ o q
      have hlt : (h'.objs.size : Nat) < C := hC' ▸ Heap.lt_size e'
      lia
  have eC1 : s₁.heap.get? C = none := by
    cases q : s₁.heap.get? C with
    | none => rfl
    | some o => obtain ⟨o', e'⟩ := L₁₃.alive _ o q; rw [eC] at e'; cases e'
  have G0 : GenAt g.prog g.w A.in4 h'.objs.size s₃.gens.size C (List.range C) [I] (fun _ => true) its.length (fun j y => ∃ q, its[j]? = some q ∧ Atom y (f q)) 0 s₅ := by
    rw [← hvl]
    refine GenAt.freshTD (A := A.in4) (cenv := genEnv scope [] C code builtinsNs env) (m := fun y => if y = ".0" then some (.ref I) else none) (Pt := fun i vals => ∃ T a b n, vs[i]? = some (.ref T) ∧ s₃.heap.get? T = some (tupO [a, b] n) ∧ vals = #[a, b])
      (elt := elt) (iter := .Name x xp) (pa := pa) (pb := pb) (pt := pt) (kt := kt) (scope := scope) (pos := pos) (ifs := []) hhA W₀ (fun i vals ⟨T, a, b, n, _, _, e⟩ => ⟨a, b, e⟩) hab (fun _ => true) _ hxa hxb (by simp [genEnv, hkind]) hco hCf (by rw [hp5]; exact hq) ?_ ?_ ?_ ?_ W₅.lim
    · rw [hp5, ← hgn]; exact ⟨_, _, _, Heap.get?_push_size _ rfl, rfl, rfl, rfl⟩
    · rw [← hs5, ← hcd]; exact Array.getElem?_push_size ..
    · exact ⟨⟨_, kk5 _ _ it₃, rfl, rfl⟩, fun b hb hbI o e => kk5 b o e⟩
    · rw [hp5]; exact hn'.push _
  have fin := q h'.objs.size C I s₃.gens.size (List.range C) s₁ s₅ W₁ l₁ ⟨W₅, L₁₃.trans (.ofKeeps kk5), ⟨eA, eC1, eI⟩, fun b hb o e => ?_, ?_, G0, ?_, by rw [← hs5]; simp, fun b hb => List.mem_range.mp hb, (by lia : (C : Nat) < h'.objs.size)⟩
  · exact fin
  · rintro ⟨us, mm, z⟩
    rcases List.mem_cons.mp hb with zr | hb
    · obtain rfl := zr.symm
      obtain ⟨o', es, epp, e', e2, _⟩ := hn'.push og
      rw [hp5, e'] at e; cases e; cases (e2).symm.trans z
    · rw [List.mem_singleton.mp hb, kk5 _ _ it₃] at e
      cases e; cases z
  · exact WalksS.genexpQ (A := A.in4) hhA _ _ _ _ [I] (fun _ => true) its.length _ haC haf (fun b hb => by rw [List.mem_singleton.mp hb]; exact memC it₃) (by have := ft.depth; show A.depth < _; lia) (List.mem_range.mpr hcs) (Nat.ne_of_lt hcs) (fun hm => hcsI (List.mem_singleton.mp hm))
  · intro b hb
    rw [hp5, Heap.size_push]
    rcases List.mem_cons.mp hb with rfl | hb
    · exact Nat.lt_succ_self _
    · rcases List.mem_cons.mp hb with zr | hb
      · obtain rfl := zr.symm
        rw [szh]; exact Nat.lt_succ_of_lt (Nat.lt_succ_self _)
      · have := List.mem_range.mp hb
        rw [szh]; exact Nat.lt_succ_of_lt (Nat.lt_succ_of_lt this)
end
end Mine
end

-- part F20
section
set_option maxRecDepth 100000
namespace Mine
open PySem PySem.W PyProof.Rows Builtin Builtin.ObjectAttr

section
variable {g : G} {k : Nat} {env cenv : Env} {ρ ρ₁ ρ₂ ρc : En} {μ μ₁ μ₂ μ₃ μ₄ : List MO} {cl : List (Str × Addr)} {scope : Scope}

theorem keepsRefl (s : Shared) : Keeps s s := ⟨s.heap, s.toks, rfl, fun _ _ e => e⟩
theorem keepsTr {s s' s'' : Shared} (a : Keeps s s') (b : Keeps s' s'') : Keeps s s'' := by
  obtain ⟨h, t, rfl, k⟩ := a
  obtain ⟨h', t', rfl, k'⟩ := b
  exact ⟨h', t', rfl, fun b o e => k' b o (k b o e)⟩
theorem keepsHeap {s s' : Shared} (a : Keeps s s') : ∀ b o, s.heap.get? b = some o → s'.heap.get? b = some o := by
  obtain ⟨h, t, rfl, k⟩ := a; exact k

theorem ElEnv.keeps {s s' : Shared} (x : ElEnv g cenv cl scope s ρc) (k : Keeps s s') : ElEnv g cenv cl scope s' ρc := by
  have kh := keepsHeap k
  obtain ⟨m, hn, hm⟩ := x.locals
  exact ⟨x.kind, x.scope, x.cells, x.glob, x.gl.keeps kh, x.bi.keeps kh, (let ⟨mc, h1, h2⟩ := x.lim; ⟨mc, h1.keeps kh, h2⟩), ⟨m, hn.keeps kh, hm⟩, fun y c d h1 h2 => let ⟨u, ⟨o, ho, hd⟩, a⟩ := x.free y c d h1 h2; ⟨u, ⟨o, kh _ _ ho, hd⟩, a⟩⟩

theorem El.local {A : Around} {E : Value → Shared → Prop} {s : Shared} {x : Str} {p : Pos} {d : D} {Q : Value → Shared → Prop} (X : ElEnv g cenv cl scope s ρc) (h : ρc.lookup x = some d) (hk : scope.names.lookup x = some .local) (hd : (x == ("__debug__" : Str)) = false) (q : ∀ v, Atom v d → Q v s) : wpAny g.M A (eval (.Name x p) cenv) Q E s := by
  obtain ⟨m, hn, hm⟩ := X.locals
  have hk' : cenv.kindOf x = some .local := by unfold Env.kindOf; rw [X.scope]; exact hk
  obtain ⟨v, hv, V⟩ := hm x d h hk'
  exact wpAny_Name (wpAny_loadName_local X.kind hk' hn hv (q v V)) hd
theorem El.free {A : Around} {E : Value → Shared → Prop} {s : Shared} {x : Str} {p : Pos} {d : D} {c : Addr} {Q : Value → Shared → Prop} (X : ElEnv g cenv cl scope s ρc) (h : ρc.lookup x = some d) (hk : scope.names.lookup x = some .free) (hc : cl.lookup x = some c) (hd : (x == ("__debug__" : Str)) = false) (hnc : (x == ("__classdict__" : Str)) = false) (q : ∀ v, Atom v d → Q v s) : wpAny g.M A (eval (.Name x p) cenv) Q E s := by
  obtain ⟨u, zq⟩ := X.free x c d hc h
  have hu := zq.1
  replace zq := zq.2
  have U := zq
  clear zq
  have hk' : cenv.kindOf x = some .free := by unfold Env.kindOf; rw [X.scope]; exact hk
  exact wpAny_Name (wpAny_loadName_free X.kind hk' (by rw [X.cells]; exact hc) hu (q u U) hnc) hd
theorem El.builtin {A : Around} {E : Value → Shared → Prop} {s : Shared} {x : Str} {p : Pos} {v : Value} {Q : Value → Shared → Prop} (X : ElEnv g cenv cl scope s ρc) (hk : scope.names.lookup x = some .globalImplicit) (hm : g.mg x = none) (hb : g.mb x = some v) (hd : (x == ("__debug__" : Str)) = false) (q : Q v s) : wpAny g.M A (eval (.Name x p) cenv) Q E s := by
  have hk' : cenv.kindOf x = some .globalImplicit := by unfold Env.kindOf; rw [X.scope]; exact hk
  exact Calls.Name_function_global X.kind hk' (Calls.loadGlobal_builtin (by rw [X.glob.1]; exact X.gl) hm (by rw [X.glob.2]; exact X.bi) hb q) hd
theorem El.global {A : Around} {E : Value → Shared → Prop} {s : Shared} {x : Str} {p : Pos} {v : Value} {Q : Value → Shared → Prop} (X : ElEnv g cenv cl scope s ρc) (hk : scope.names.lookup x = some .globalImplicit) (hm : g.mg x = some v) (hd : (x == ("__debug__" : Str)) = false) (q : Q v s) : wpAny g.M A (eval (.Name x p) cenv) Q E s := by
  have hk' : cenv.kindOf x = some .globalImplicit := by unfold Env.kindOf; rw [X.scope]; exact hk
  exact Calls.Name_function_global X.kind hk' (Calls.loadGlobal_global (by rw [X.glob.1]; exact X.gl) hm q) hd

/-- len(x) of a text -/
theorem El.len {A : Around} {E : Value → Shared → Prop} {s : Shared} {x : Str} {np xp pos : Pos} {y : Str} {Q : Value → Shared → Prop} (X : ElEnv g cenv cl scope s ρc) (hl : scope.names.lookup ("len" : Str) = some .globalImplicit) (hm : g.mg "len" = none) (hb : g.mb "len" = some (.builtin "len")) (h : ρc.lookup x = some (.str y)) (hk : scope.names.lookup x = some .local) (hd : (x == ("__debug__" : Str)) = false) (hz : y.length ≤ sizeLine)
    (q : ∀ t s', Keeps s s' → Q (.int y.length t) s') : wpAny g.M A (eval (.Call (.Name "len" np) [.Name x xp] [] pos) cenv) Q E s := by
  refine wpAny_Call_NameR (El.builtin X hl hm hb (by decide) ?_)
  refine Calls.callWith_builtin (args := [(false, eval (.Name x xp) cenv)]) rfl (Calls.evalArgs_plain (Calls.spliced_cons (El.local X h hk hd fun v a => Calls.spliced_nil ?_)))
  rcases a with ⟨_, _, _, e⟩ | ⟨z, t, rfl, e⟩ | ⟨_, _, _, e⟩
  · cases e
  · cases e
    rw [sizeLine_eq] at hz
    exact P.len_str (by omega) (q _ _ ⟨s.heap, s.toks + 1 + 1, rfl, fun _ _ e => e⟩)
  · cases e

theorem el_lens {xa xb : Str} {a b : Str} {n1 n2 p1 p2 q1 q2 pos : Pos} (hl : scope.names.lookup ("len" : Str) = some .globalImplicit) (hm : g.mg "len" = none) (hb : g.mb "len" = some (.builtin "len")) (ha1 : scope.names.lookup xa = some .local) (hb1 : scope.names.lookup xb = some .local)
    (hda : (xa == ("__debug__" : Str)) = false) (hdb : (xb == ("__debug__" : Str)) = false) (hab : xa ≠ xb) (hza : a.length ≤ sizeLine) (hzb : b.length ≤ sizeLine) :
    ElV g cl scope [(xa, .str a), (xb, .str b)] (.BinOp (.Call (.Name "len" n1) [.Name xa p1] [] q1) .Add (.Call (.Name "len" n2) [.Name xb p2] [] q2) pos) (.int (a.length + b.length)) := by
  intro cenv A E s hA hu X
  refine wpAny_BinOp (El.len X hl hm hb (by simp) ha1 hda hza fun t s₁ k₁ => El.len (X.keeps k₁) hl hm hb ?_ hb1 hdb hzb fun t₂ s₂ k₂ => ?_)
  · rw [List.lookup_cons]
    have : (xb == xa) = false := by simpa using fun e : xb = xa => hab e.symm
    rw [this]; simp
  · exact add_int ⟨.inl ⟨_, _, rfl, rfl⟩, keepsTr (keepsTr k₁ k₂) ⟨s₂.heap, s₂.toks + 1, rfl, fun _ _ e => e⟩⟩

/-- S.join((xa, xb)), S a text of the top -/
theorem el_join {S xa xb : Str} {a b sep : Str} {n1 p1 p2 tp ap pos : Pos} {tn : Nat} {ts : Tok} (hS : scope.names.lookup S = some .globalImplicit) (hm : g.mg S = some (.str sep ts)) (ha1 : scope.names.lookup xa = some .local) (hb1 : scope.names.lookup xb = some .local)
    (hdS : (S == ("__debug__" : Str)) = false) (hda : (xa == ("__debug__" : Str)) = false) (hdb : (xb == ("__debug__" : Str)) = false) (hab : xa ≠ xb) (hz : a.length + b.length + 2 * sep.length ≤ 16777216) {pl : Env → Sem Bool}
    (hev : ∀ cenv, eval (.Call (.Attribute (.Name S n1) "join" ap) [.Tuple [.Name xa p1, .Name xb p2] tn tp] [] pos) cenv = (do
      let ov ← eval (.Name S n1) cenv
      standAt ap.atName
      let (f, first) ← holding [ov] (getMethod ov "join" (pl cenv))
      callWith pos f first (backTo pos (starEach [.Tuple [.Name xa p1, .Name xb p2] tn tp] cenv)) []) := by intro _; rfl) :
    ElV g cl scope [(xa, .str a), (xb, .str b)] (.Call (.Attribute (.Name S n1) "join" ap) [.Tuple [.Name xa p1, .Name xb p2] tn tp] [] pos) (.str (Txt.join sep [a, b])) := by
  intro cenv A E s hA hu X
  refine MethodCall_ (pl := pl cenv) (El.global X hS hm hdS ?_) (hev cenv)
  refine GM.join ?_
  refine callWith_method1 (e := .Tuple [.Name xa p1, .Name xb p2] tn tp) (rest := []) (Calls.spliced_cons ?_)
  refine wpAny_Tuple (k := tn) ?_
  refine spliced_more (El.local (d := .str a) X (by simp) ha1 hda fun va Va => spliced_more (El.local (d := .str b) X ?_ hb1 hdb fun vb Vb => spliced_none ⟨by rw [sizeLine_eq]; simp, ?_⟩) (by rfl)) (by rfl)
  · rw [List.lookup_cons]
    have : (xb == xa) = false := by simpa using fun e : xb = xa => hab e.symm
    rw [this]; simp
  · refine Calls.spliced_nil ?_
    rcases Va with ⟨_, _, _, e⟩ | ⟨z, t, rfl, e⟩ | ⟨_, _, _, e⟩
    · cases e
    · cases e
      rcases Vb with ⟨_, _, _, e⟩ | ⟨z, t2, rfl, e⟩ | ⟨_, _, _, e⟩
      · cases e
      · cases e
        refine join_tuple (items := #[.str a t, .str b t2]) (ys := [a, b]) ⟨_, Heap.get?_push_size _ rfl, rfl, 0, rfl⟩ (.cons _ _ (.cons _ _ .nil)) (by simp; omega) fun t' k => ?_
        exact ⟨.inr (.inl ⟨_, _, rfl, rfl⟩), _, _, rfl, fun b o e => Heap.get?_push_of_some _ e⟩
      · cases e
    · cases e
end
section
variable {prog : Program} {w : World} {A : Around} {E : Value → Shared → Prop} {s : Shared}
variable {I : Addr} {fp wr : List Addr} {G : Array GenState → Array GenState → Prop} {n : Nat} {P : Nat → Value → Prop} {St : Nat → Shared → Prop}

def shSt (St : Nat → Shared → Prop) : Nat → Shared → Prop
  | 0, _ => False
  | i + 1, s => St i s
def shP (P : Nat → Value → Prop) : Nat → Value → Prop
  | 0, _ => False
  | i + 1, v => P i v
def shV (k0 : Int) (val : Nat → Int) : Nat → Int
  | 0 => k0
  | i + 1 => val i
theorem preSum_sh (k0 : Int) (val : Nat → Int) : ∀ n, preSum (shV k0 val) (n + 1) = k0 + preSum val n
  | 0 => by simp [preSum, shV]
  | n + 1 => by
    have : preSum (shV k0 val) (n + 1 + 1) = preSum (shV k0 val) (n + 1) + shV k0 val (n + 1) := rfl
    rw [this, preSum_sh k0 val n]
    show k0 + preSum val n + val n = k0 + (preSum val n + val n)
    lia
theorem WalksS.shift (W : WalksS prog w A I fp wr G n P St) : WalksS prog w A I fp wr G (n + 1) (shP P) (shSt St) where
  sub := W.sub
  grefl := W.grefl
  gtrans := W.gtrans
  frame := fun i s h' tk st ht hk => by
    cases i with
    | zero => exact st.elim
    | succ i => exact W.frame i s h' tk st ht hk
  item := fun i s Q E hi st q => by
    cases i with
    | zero => exact st.elim
    | succ i => exact W.item i s Q E (by omega) st fun v s' hp hs hm => q v s' hp hs hm
  done := fun s Q E st q => W.done s Q E st q
  self := fun i s Q E st q => by
    cases i with
    | zero => exact st.elim
    | succ i => exact W.self i s Q E st q

theorem args_sum2 (a b : Value) : argsOk "sum" ⟨[a, b], []⟩ := by unfold argsOk; kernel_rfl
/-- sum(x, start) -/
theorem call_sum2 {x : Value} {k0 : Int} {t0 : Tok} {Q : Value → Shared → Prop}
    (h : wpAny (model prog w) A.in1 (pyIter x) (fun it s₂ => ∃ I fp wr G n P St val, it = .ref I ∧ WalksS prog w A.in1 I fp wr G n P St ∧ St 0 s₂ ∧ (∀ b ∈ fp, b < s₂.heap.objs.size) ∧
      (∀ i v, P i v → ∃ t, v = .int (val i) t) ∧ ∀ s' t', Moved wr G s₂ s' → Q (.int (k0 + preSum val n) t') s') E s) :
    wpAny (model prog w) A (call (.builtin "sum") [x, .int k0 t0]) Q E s := by
  refine call_function_tree F.kind_sum F.plain_sum F.entry_sum (args_sum2 _ _) ?_
  unfold Builtin.«sum»
  dsimp only [List.length_cons, List.length_nil]
  rw [if_neg (by decide)]
  refine wpAny_bind (wpAny_of_eq (show Builtin.Builtins.bindParams "sum" ["start"] 0 ⟨[.int k0 t0], []⟩ = pure [some (.int k0 t0)] from rfl) ?_)
  refine wpAny_bind (wpAny_mono h (fun it s₂ h₂ => ?_) fun _ _ e => e)
  obtain ⟨I, fp, wr, G, n, P, St, val, rfl, zq⟩ := h₂
  have W := zq.1
  replace zq := zq.2
  have hst := zq.1
  replace zq := zq.2
  have hfp := zq.1
  replace zq := zq.2
  have hval := zq.1
  replace zq := zq.2
  have hQ := zq
  clear zq
  have hv1 : k0 = preSum (shV k0 val) 1 := by simp [preSum, shV]
  have go : ∀ (tk : Nat) (tt : Tok) (stg : Int), (stg = 0 ∨ stg = 2) → s₂.toks ≤ tk → ∀ A', (A' = A) → codeAny (model prog w) A' (.builtin "sum.loop" ⟨[.ref I, .ref s₂.heap.objs.size, rawInt stg, rawInt 0], []⟩) (fun r s' => match r with | .ok (.ret v) => Q v s' | .ok _ => False | .error e => E e s')
      { s₂ with heap := s₂.heap.push { cls := .type "list", data := .seq ([.int k0 tt] : List Value).toArray }, toks := tk } := by
    intro tk tt stg hstg htk A' hA
    obtain rfl := hA.symm
    have hSf : s₂.heap.objs.size ∉ fp := fun hm => Nat.lt_irrefl _ (hfp _ hm)
    refine codeAny_sum_loopAnyS (WalksS.shift W) (shV k0 val) (fun i v hp => ?_) s₂.heap.objs.size hSf n 1 _ tt 0 stg hstg (by lia) (by lia)
      (W.frame 0 s₂ _ _ hst htk fun b _ o e => Heap.get?_push_of_some _ e) ?_ fun s' t' hm => ?_
    · cases i with
      | zero => exact hp.elim
      | succ i => exact hval i v hp
    · rw [← hv1]; exact Heap.get?_push_size _ rfl
    · rw [preSum_sh]; exact hQ s' t' (hm.drop_new htk)
  dsimp only
  split
  · refine wpAny_bind (wpAny_rule (wpAny_bind (wpAny_mkInt (wpAny_bind (wpAny_pure ?_)))))
    simp only [List.forIn_cons, List.forIn_nil]
    refine wpAny_bind (wpAny_bind (wpAny_bind (wpAny_isInstance (T := "int") (b := false) (typeIs_int _ _ _) PySem.sub_int_str ?_)))
    skip
    refine wpAny_pure (wpAny_bind (wpAny_bind (wpAny_isInstance (T := "int") (b := false) (typeIs_int _ _ _) sub_int_bytes ?_)))
    skip
    refine wpAny_pure (wpAny_bind (wpAny_bind (wpAny_isInstance (T := "int") (b := false) (typeIs_int _ _ _) sub_int_bytearray ?_)))
    skip
    refine wpAny_pure (wpAny_pure ?_)
    refine wpAny_bind (wpAny_newObj_type ?_)
    exact wpAny_pure ⟨plainId_quiet F.plain_sum_loop _, codeAny_mono (go (s₂.toks + 1) s₂.toks 0 (.inl rfl) (Nat.le_succ _) A rfl) fun r s' z => by
      rcases r with e | (v | _ | _ | _) <;> first | exact z | exact z.elim⟩
  · refine wpAny_bind (wpAny_pure ?_)
    simp only [List.forIn_cons, List.forIn_nil]
    refine wpAny_bind (wpAny_bind (wpAny_bind (wpAny_isInstance (T := "int") (b := false) (typeIs_int _ _ _) PySem.sub_int_str ?_)))
    skip
    refine wpAny_pure (wpAny_bind (wpAny_bind (wpAny_isInstance (T := "int") (b := false) (typeIs_int _ _ _) sub_int_bytes ?_)))
    skip
    refine wpAny_pure (wpAny_bind (wpAny_bind (wpAny_isInstance (T := "int") (b := false) (typeIs_int _ _ _) sub_int_bytearray ?_)))
    skip
    refine wpAny_pure (wpAny_pure ?_)
    refine wpAny_bind (wpAny_newObj_type ?_)
    exact wpAny_pure ⟨plainId_quiet F.plain_sum_loop _, codeAny_mono (go s₂.toks t0 2 (.inr rfl) (Nat.le_refl _) A rfl) fun r s' z => by
      rcases r with e | (v | _ | _ | _) <;> first | exact z | exact z.elim⟩
end
end Mine
end

-- part F21
section
set_option maxRecDepth 100000
namespace Mine
open PySem PySem.W PyProof.Rows Builtin Builtin.ObjectAttr

section
variable {g : G} {k : Nat} {env cenv : Env} {ρ ρ₁ ρ₂ ρc : En} {μ μ₁ μ₂ μ₃ μ₄ : List MO}

theorem preSum_get {α : Type} (val : α → Int) (its : List α) : ∀ n, n ≤ its.length → preSum (fun j => ((its[j]?).map val).getD 0) n = ((its.take n).map val).sum
  | 0, _ => by simp [preSum]
  | n + 1, h => by
    have : preSum (fun j => ((its[j]?).map val).getD 0) (n + 1) = preSum (fun j => ((its[j]?).map val).getD 0) n + ((its[n]?).map val).getD 0 := rfl
    rw [this, preSum_get val its n (by lia), List.take_add_one, List.getElem?_eq_getElem (show n < its.length from h), List.map_append, List.sum_append]
    simp only [Option.map_some, Option.getD_some, Option.toList_some, List.map_cons, List.map_nil, List.sum_cons, List.sum_nil, Int.add_zero]

/-- sum(<a generator over the accumulator>, x._initial_size) -/
theorem Ev.sumGen {i : Nat} {kk : Int} {its : List (Str × Str)} {val : Str × Str → Int} {elt : Expr} {xa xb x : Str} {pa pb pt xp pos np cp ap xp2 : Pos} {kt : Nat} {scope : Scope}
    (Cc : AccS g) (hG : GenDef g env.code) (hks : env.kindOf "sum" = some .globalImplicit) (hms : g.mg "sum" = none) (hbs : g.mb "sum" = some (.builtin "sum")) (h1 : Ev g (k + 1) env ρ μ (.Name x xp) (.ob i) μ) (hi : μ[i]? = some (.acc kk (its.map pairD)))
    (hx2 : env.kindOf x = some .local) (hx3 : ρ.lookup x = some (.ob i)) (hxd : (x == ("__debug__" : Str)) = false)
    (hco : scope.isCoroutine = false) (hclos : closureFor scope env = pure []) (hcell : ∀ y ∈ scope.names, y.2 ≠ .cell) (h0 : scope.names.lookup (".0" : Str) = some NameKind.local) (hkind : scope.kind = .function)
    (hxa : scope.names.lookup xa = some .local) (hxb : scope.names.lookup xb = some .local) (hab : xa ≠ xb)
    (helt : ∀ q ∈ its, ElV g [] scope [(xa, .str q.1), (xb, .str q.2)] elt (.int (val q)))
    (hs : ∀ y, genFold (.Name x xp) env y = pure y := by intro _; rfl)
    (hst : starEach [.GeneratorExp elt [⟨.Tuple [.Name xa pa, .Name xb pb] kt pt, .Name x xp, [], 0⟩] scope pos, .Attribute (.Name x xp2) "_initial_size" ap] env = [(false, eval (.GeneratorExp elt [⟨.Tuple [.Name xa pa, .Name xb pb] kt pt, .Name x xp, [], 0⟩] scope pos) env), (false, eval (.Attribute (.Name x xp2) "_initial_size" ap) env)] := by rfl) :
    Ev g (k + 1) env ρ μ (.Call (.Name "sum" np) [.GeneratorExp elt [⟨.Tuple [.Name xa pa, .Name xb pb] kt pt, .Name x xp, [], 0⟩] scope pos, .Attribute (.Name x xp2) "_initial_size" ap] [] cp) (.int (kk + (its.map val).sum)) μ := by
  intro A θ s Q E ft S q
  refine wpAny_Call_NameR (global_builtin S hks hms hbs (by decide) ?_)
  rw [hst]
  refine Calls.callWith_builtin rfl (Calls.evalArgs_plain (Calls.spliced_cons ?_))
  refine gen_pair Cc hG ft S h1 hi hco hclos hcell h0 hkind hxa hxb hab helt (fun a C I gi fp s₀ s' W₀ L₀ R => ?_) hs
  have S' : Sta g env θ ρ μ s' := S.lat (L₀.trans R.L) R.W
  refine Calls.spliced_cons (Attribute_name ?_)
  obtain ⟨m, zq⟩ := S'.F.locals
  have hn := zq.1
  replace zq := zq.2
  have hm := zq
  clear zq
  obtain ⟨v, hv, V⟩ := hm x _ hx3 hx2
  refine wpAny_Name (wpAny_loadName_local S'.F.kind hx2 hn hv ?_) hxd
  obtain ⟨p, ep, rfl⟩ := V.ob_inv
  refine acc_size Cc.toAccC S'.W ep hi fun t => Calls.spliced_nil ?_
  refine call_sum2 ?_
  have WS := WalksS.in4_1 R.walks
  have st1 := R.walks.frame 0 s' s'.heap (s'.toks + 1) R.st (Nat.le_succ _) fun _ _ _ e => e
  refine WS.self 0 _ _ _ st1 ⟨a, _, _, _, _, _, _, fun j => ((its[j]?).map val).getD 0, rfl, WS, st1, R.lt, fun j v hj => ?_, fun s'' t' mv => ?_⟩
  · obtain ⟨i', hi', qq, hq, hA⟩ := hj
    rw [passing_all] at hi'
    obtain ⟨h1', h2'⟩ := List.getElem?_eq_some_iff.mp hi'
    simp only [List.getElem_range] at h2'
    subst h2'
    rcases hA with ⟨z, tt, rfl, e⟩ | ⟨_, _, _, e⟩ | ⟨_, _, _, e⟩
    · cases e
      exact ⟨tt, by simp [hq]⟩
    · cases e
    · cases e
  · have mv' : Moved [C, I] (GenOnlyQ gi) s' s'' := ⟨mv.heap, mv.gens, mv.drawn, mv.os, Nat.le_trans (Nat.le_succ _) mv.toks⟩
    obtain ⟨W'', L''⟩ := R.after W₀ mv'
    refine q _ θ s'' (L₀.trans L'') W'' ?_
    have : preSum (fun j => ((its[j]?).map val).getD 0) (passing (fun _ => true) its.length 0).length = (its.map val).sum := by
      rw [passing_all, List.length_range, preSum_get val its _ (Nat.le_refl _), List.take_length]
    rw [this]
    exact .int _ _

/-- S.join(<a generator over the accumulator>) -/
theorem Ev.joinGen {i : Nat} {kk : Int} {its : List (Str × Str)} {fs : Str × Str → Str} {elt : Expr} {S₀ xa xb x : Str} {sep : Str} {ts : Tok} {pa pb pt xp pos np cp ap : Pos} {kt : Nat} {scope : Scope}
    (Cc : AccS g) (hG : GenDef g env.code) (hks : env.kindOf S₀ = some .globalImplicit) (hms : g.mg S₀ = some (.str sep ts)) (hSd : (S₀ == ("__debug__" : Str)) = false) (h1 : Ev g (k + 1) env ρ μ (.Name x xp) (.ob i) μ) (hi : μ[i]? = some (.acc kk (its.map pairD)))
    (hco : scope.isCoroutine = false) (hclos : closureFor scope env = pure []) (hcell : ∀ y ∈ scope.names, y.2 ≠ .cell) (h0 : scope.names.lookup (".0" : Str) = some NameKind.local) (hkind : scope.kind = .function)
    (hxa : scope.names.lookup xa = some .local) (hxb : scope.names.lookup xb = some .local) (hab : xa ≠ xb)
    (helt : ∀ q ∈ its, ElV g [] scope [(xa, .str q.1), (xb, .str q.2)] elt (.str (fs q))) (hz : ((its.map fs).map (·.length)).sum + its.length * sep.length ≤ 16777216) (hzl : its.length ≤ 1000) {pl : Sem Bool}
    (hev : eval (.Call (.Attribute (.Name S₀ np) "join" ap) [.GeneratorExp elt [⟨.Tuple [.Name xa pa, .Name xb pb] kt pt, .Name x xp, [], 0⟩] scope pos] [] cp) env = (do
      let ov ← eval (.Name S₀ np) env
      standAt ap.atName
      let (f, first) ← holding [ov] (getMethod ov "join" pl)
      callWith cp f first (backTo cp (starEach [.GeneratorExp elt [⟨.Tuple [.Name xa pa, .Name xb pb] kt pt, .Name x xp, [], 0⟩] scope pos] env)) []) := by rfl)
    (hs : ∀ y, genFold (.Name x xp) env y = pure y := by intro _; rfl)
    (hst : starEach [.GeneratorExp elt [⟨.Tuple [.Name xa pa, .Name xb pb] kt pt, .Name x xp, [], 0⟩] scope pos] env = [(false, eval (.GeneratorExp elt [⟨.Tuple [.Name xa pa, .Name xb pb] kt pt, .Name x xp, [], 0⟩] scope pos) env)] := by rfl) :
    Ev g (k + 1) env ρ μ (.Call (.Attribute (.Name S₀ np) "join" ap) [.GeneratorExp elt [⟨.Tuple [.Name xa pa, .Name xb pb] kt pt, .Name x xp, [], 0⟩] scope pos] [] cp) (.str (Txt.join sep (its.map fs))) μ := by
  intro A θ s Q E ft S q
  refine MethodCall_ (pl := pl) (global_own S hks hms hSd ?_) hev
  refine GM.join ?_
  rw [hst]
  refine Calls.callWith_builtin rfl (Calls.evalArgs_plain (Calls.spliced_cons ?_))
  refine gen_pair Cc hG ft S h1 hi hco hclos hcell h0 hkind hxa hxb hab helt (fun a C I gi fp s₀ s' W₀ L₀ R => Calls.spliced_nil ?_) hs
  have WS := WalksS.in4_2 R.walks
  have hlen : (passing (fun _ => true) its.length 0).length = its.length := by rw [passing_all, List.length_range]
  refine SC.joinGen WS (fun i s st => let ⟨o, nm, qn, ho, hc, _⟩ := st.1; ⟨o, ho, hc⟩) R.st R.lt (List.mem_cons_self ..) (fun j v hj => ?_) (fun s'' l mv hl => ?_) (by rw [hlen, sizeLine_eq]; lia)
  · obtain ⟨i', hi', qq, hq, hA⟩ := hj
    rcases hA with ⟨_, _, _, e⟩ | ⟨z, tt, rfl, e⟩ | ⟨_, _, _, e⟩
    · cases e
    · exact ⟨z, tt, rfl⟩
    · cases e
  · have el : l.map (·.1) = its.map fs := by
      obtain ⟨h1', h2'⟩ := hl
      rw [hlen] at h1'
      apply List.ext_getElem?
      intro j
      by_cases hj : j < its.length
      · have hjl : j < l.length := by simpa [strValues] using (by rw [h1']; exact hj : j < (strValues l).toArray.size)
        obtain ⟨i', hi', qq, hq, hA⟩ := h2' j (.str l[j].1 l[j].2) (by simp [strValues, hjl])
        rw [passing_all] at hi'
        obtain ⟨h3, h4⟩ := List.getElem?_eq_some_iff.mp hi'
        simp only [List.getElem_range] at h4
        subst h4
        rcases hA with ⟨_, _, _, e⟩ | ⟨z, tt, e', e⟩ | ⟨_, _, _, e⟩
        · cases e
        · cases e
          injection e' with e1 _
          rw [List.getElem?_map, List.getElem?_map, List.getElem?_eq_getElem hjl, hq]
          simp [e1]
        · cases e
      · have hjl : ¬ j < l.length := by
          have : l.length = its.length := by simpa [strValues] using h1'
          lia
        rw [List.getElem?_map, List.getElem?_map, List.getElem?_eq_none (by lia), List.getElem?_eq_none (by lia)]; rfl
    rw [el]
    refine ⟨joinOk_of (by simpa using hz), fun t' k' => ?_⟩
    obtain ⟨W'', L''⟩ := R.after W₀ mv
    exact q _ θ _ (L₀.trans L'').toks (W''.tok _) (.str _ _)
end
end Mine
end

-- part F22
section
set_option maxRecDepth 100000
namespace Mine
open PySem PySem.W PyProof.Rows Builtin Builtin.ObjectAttr

/-- a built-in of list that super() hands out bound -/
structure SupB (id n T gid bt : String) (b : Builtin) : Prop where
  typ : typeOf (.builtin id) = pure (.type T)
  lookup : typeLookup (.type T) "__get__" = pure (some (.builtin gid))
  get : ∀ {prog : Program} {w : World} {A : Around} {E : Value → Shared → Prop} {s : Shared} {x C : Addr} {Q : Value → Shared → Prop}, Looks (model prog w) s.heap (isInstance (.ref x) (.type "list")) true →
    Q (.ref s.heap.objs.size) { s with heap := s.heap.push { cls := .type bt, data := .fields #[.builtin id, .ref x] } } → wpAny (model prog w) A (call (.builtin gid) [.builtin id, .ref x, .ref C]) Q E s
  bound : (Value.type bt == Value.type "method") = false ∧ ((Value.type bt == .type "method" || Value.type bt == .type "builtin_function_or_method" || Value.type bt == .type "method-wrapper") = true) ∧ ((Value.type bt == .type "builtin_function_or_method" || Value.type bt == .type "method-wrapper") = true)
  check : ∀ {prog : Program} {w : World} {A : Around} {E : Value → Shared → Prop} {s : Shared} {K : Frag} {x C : Addr} {ox : Obj} {od : Option Obj} {cd : ClassData} {Q : Unit → Shared → Prop}, K.In s.heap → InstAt s.heap x ox C od → clsIn K C = some cd → cd.qualname.toString = "_Accumulator" → typeIn K (.ref C) = some (.type "type") → mroIn K C (.type "module") = some false → Q () s → wpAny (model prog w) A (checkBoundCall id ⟨[.ref x], []⟩) Q E s
  entry : entryFor table id = some b
  plain : plainId id = true

theorem slot_wd : Slot "wrapper_descriptor" "__get__" "wrapper_descriptor.__get__" := .of (owner := "wrapper_descriptor") (n := "__get__") (by rw [typeLookup_type, builtinLookup_eq_fast]; kernel_rfl) (by decide +kernel) (by decide +kernel) (by decide +kernel)
    (by first | exact .inl (by decide +kernel) | exact .inr (by decide +kernel)) (by rw [isSubtype_type]; kernel_rfl)
theorem slot_md : Slot "method_descriptor" "__get__" "method_descriptor.__get__" := .of (owner := "method_descriptor") (n := "__get__") (by rw [typeLookup_type, builtinLookup_eq_fast]; kernel_rfl) (by decide +kernel) (by decide +kernel) (by decide +kernel)
    (by first | exact .inl (by decide +kernel) | exact .inr (by decide +kernel)) (by rw [isSubtype_type]; kernel_rfl)
theorem entry_wd : entryFor table "wrapper_descriptor.__get__" = some Builtin.«wrapper_descriptor.__get__» := entryFor_of_tree (by kernel_rfl)
theorem entry_md : entryFor table "method_descriptor.__get__" = some Builtin.«method_descriptor.__get__» := entryFor_of_tree (by kernel_rfl)
theorem wd_len (x C : Addr) : ∃ rf : Sem Unit, Builtin.«wrapper_descriptor.__get__» ⟨[.builtin "list.__len__", .ref x, .ref C], []⟩ = ((isInstance (.ref x) (.type "list") >>= fun b => if (!b) = true then rf else pure ()) >>= fun _ => newFields "method-wrapper" [.builtin "list.__len__", .ref x] >>= fun r => ret r) := ⟨_, by with_unfolding_all rfl⟩
theorem wd_init (x C : Addr) : ∃ rf : Sem Unit, Builtin.«wrapper_descriptor.__get__» ⟨[.builtin "list.__init__", .ref x, .ref C], []⟩ = ((isInstance (.ref x) (.type "list") >>= fun b => if (!b) = true then rf else pure ()) >>= fun _ => newFields "method-wrapper" [.builtin "list.__init__", .ref x] >>= fun r => ret r) := ⟨_, by with_unfolding_all rfl⟩
theorem md_pop (x C : Addr) : ∃ rf : Sem Unit, Builtin.«method_descriptor.__get__» ⟨[.builtin "list.pop", .ref x, .ref C], []⟩ = ((isInstance (.ref x) (.type "list") >>= fun b => if (!b) = true then rf else pure ()) >>= fun _ => newFields "builtin_function_or_method" [.builtin "list.pop", .ref x] >>= fun r => ret r) := ⟨_, by with_unfolding_all rfl⟩

section
variable {prog : Program} {w : World} {A : Around} {E : Value → Shared → Prop} {s : Shared}
theorem get_run {x : Addr} {id bt : String} {t rf : Sem Unit} {b : Args → Sem PySem.Fin} {a : Args} {Q : Value → Shared → Prop} (e : b a = ((isInstance (.ref x) (.type "list") >>= fun b => if (!b) = true then rf else pure ()) >>= fun _ => newFields bt [.builtin id, .ref x] >>= fun r => ret r)) (hi : Looks (model prog w) s.heap (isInstance (.ref x) (.type "list")) true)
    (q : Q (.ref s.heap.objs.size) { s with heap := s.heap.push { cls := .type bt, data := .fields #[.builtin id, .ref x] } }) : wpAny (model prog w) A (b a) (fun fin s' => ∃ v, fin = .done (.ret v) ∧ Q v s') E s := by
  rw [e]
  refine wpAny_bind (wpAny_bind (lkAt hi rfl ?_))
  rw [if_neg (by decide)]
  exact wpAny_pure (wpAny_bind (wpAny_newObj_type (wpAny_pure ⟨_, rfl, q⟩)))
theorem bound_slot {id : String} {args : Args} {Q : Unit → Shared → Prop} (hk : builtinKind id = some .slot) (ha : argsOk id args) (q : Q () s) : wpAny (model prog w) A (checkBoundCall id args) Q E s := by
  unfold checkBoundCall
  cases hsig : Manifest.signature? id with
  | none => exact wpAny_pure q
  | some sig =>
    skip
    simp only [argsOk, hsig] at ha
    have h2 : Bind.checkArgs id sig args = pure () := ha
    rw [hk]
    obtain ⟨pos, kw⟩ := args
    cases pos with
    | nil => dsimp only; rw [h2]; exact wpAny_pure q
    | cons x r =>
      dsimp only
      rw [if_pos (by decide), h2]; exact wpAny_pure q
end

theorem k_len : builtinKind "list.__len__" = some .slot := by decide +kernel
theorem a_len (a : Value) : argsOk "list.__len__" ⟨[a], []⟩ := by unfold argsOk; kernel_rfl
theorem k_init : builtinKind "list.__init__" = some .slot := by decide +kernel
theorem a_init (a : Value) : argsOk "list.__init__" ⟨[a], []⟩ := by unfold argsOk; kernel_rfl
theorem t_len : typeOf (.builtin "list.__len__") = pure (.type "wrapper_descriptor") := by show builtinType _ = _; rw [builtinType_eq_fast]; kernel_rfl
theorem t_init : typeOf (.builtin "list.__init__") = pure (.type "wrapper_descriptor") := by show builtinType _ = _; rw [builtinType_eq_fast]; kernel_rfl
theorem a_wd (a b c : Value) : argsOk "wrapper_descriptor.__get__" ⟨[a, b, c], []⟩ := by unfold argsOk; kernel_rfl
theorem a_md (a b c : Value) : argsOk "method_descriptor.__get__" ⟨[a, b, c], []⟩ := by unfold argsOk; kernel_rfl
theorem sup_len : SupB "list.__len__" "__len__" "wrapper_descriptor" "wrapper_descriptor.__get__" "method-wrapper" Builtin.«list.__len__» where
  typ := t_len
  lookup := slot_wd.lookup
  get := fun {prog w A E s x C Q} hi q => by
    obtain ⟨rf, e⟩ := wd_len x C
    exact wpAny_call_entry slot_wd (show s.TypeIs (.builtin "list.__len__") "wrapper_descriptor" from t_len) entry_wd (get_run (t := rf) e hi q) (a_wd _ _ _)
  bound := by decide +kernel
  check := fun {prog w A E s K x C ox od cd Q} _ _ _ _ _ _ q => @bound_slot prog w A E s "list.__len__" ⟨[.ref x], []⟩ Q k_len (a_len (.ref x)) q
  entry := entryFor_of_tree (by kernel_rfl)
  plain := by decide +kernel
theorem sup_init : SupB "list.__init__" "__init__" "wrapper_descriptor" "wrapper_descriptor.__get__" "method-wrapper" Builtin.«list.__init__» where
  typ := t_init
  lookup := slot_wd.lookup
  get := fun {prog w A E s x C Q} hi q => by
    obtain ⟨rf, e⟩ := wd_init x C
    exact wpAny_call_entry slot_wd (show s.TypeIs (.builtin "list.__init__") "wrapper_descriptor" from t_init) entry_wd (get_run (t := rf) e hi q) (a_wd _ _ _)
  bound := by decide +kernel
  check := fun {prog w A E s K x C ox od cd Q} _ _ _ _ _ _ q => @bound_slot prog w A E s "list.__init__" ⟨[.ref x], []⟩ Q k_init (a_init (.ref x)) q
  entry := entryFor_of_tree (by kernel_rfl)
  plain := by decide +kernel
theorem pop_sig : Manifest.signature? "list.pop" = some ⟨.positional, "list.pop", "pop", .self, [⟨"index", .posOnly, false⟩]⟩ := by
  rw [signature?_of (id := "list.pop") (n := ['p', 'o', 'p']) (o := ['t', 's', 'i', 'l']) (by kernel_rfl) F.owner_list]; kernel_rfl
theorem pop_args (a : Value) : Bind.checkArgs "list.pop" ⟨.positional, "_Accumulator.pop", "pop", .self, [⟨"index", .posOnly, false⟩]⟩ ⟨[a], []⟩ = pure () := by kernel_rfl
theorem sup_pop : SupB "list.pop" "pop" "method_descriptor" "method_descriptor.__get__" "builtin_function_or_method" Builtin.«list.pop» where
  typ := F.type_list_pop
  lookup := slot_md.lookup
  get := fun {prog w A E s x C Q} hi q => by
    obtain ⟨rf, e⟩ := md_pop x C
    exact wpAny_call_entry slot_md (show s.TypeIs (.builtin "list.pop") "method_descriptor" from F.type_list_pop) entry_md (get_run (t := rf) e hi q) (a_md _ _ _)
  bound := by decide +kernel
  check := fun {prog w A E s K x C ox od cd Q} X I hc hqn ht hm q => by
    unfold checkBoundCall
    rw [pop_sig]
    skip
    rw [show builtinKind "list.pop" = some .method from by decide +kernel]
    dsimp only
    rw [if_neg (by decide)]
    refine wpAny_bind (lkAt (I.type.andThen (looks_mroIn X hm)) rfl ?_)
    rw [if_neg (by decide +kernel)]
    have hT : Looks (model prog w) s.heap (isType (.ref x)) false := by
      unfold isType loadHead
      refine (Looks.ld I.at_).andThen ?_
      have hno := I.no
      obtain ⟨o1, o2, o3, o4⟩ := ox
      cases o3 <;> first | exact .now | cases hno
    refine wpAny_bind (m := isType (.ref x)) (lkAt hT rfl ?_)
    rw [if_neg (by decide)]
    refine wpAny_bind (lkAt I.type rfl ?_)
    skip
    refine wpAny_bind (lkAt (looks_clsIn X hc) rfl ?_)
    refine wpAny_bind (lkAt (looks_typeIn X ht) rfl ?_)
    rw [if_pos (by decide)]
    rw [hqn]
    have e : (toString "_Accumulator" ++ toString "." ++ toString (Bind.lastOf "list.pop") : String) = "_Accumulator.pop" := by decide +kernel
    first
      | rw [e]
      | skip
    rw [pop_args]
    exact wpAny_pure q
  entry := F.entry_list_pop
  plain := F.slot_list_pop.plain
end Mine
end

-- part F23
section
set_option maxRecDepth 100000
namespace Mine
open PySem PySem.W PyProof.Rows Builtin Builtin.ObjectAttr

section
variable {prog : Program} {w : World} {M : Model} {A : Around} {E : Value → Shared → Prop} {h : Heap} {g : Array GenState} {d : Drawn} {t : Nat} {os : OsState}

theorem super_ga {so D x C : Addr} {l₀ l : List Value} {K : Frag} {name : Str} {tk : Tok} {id n T gid bt : String} {b : Builtin} {Q : PySem.Fin → Shared → Prop} (SB : SupB id n T gid bt b)
    (hso : h.get? so = some { cls := .type "super", dict := none, data := .fields #[.ref D, .ref x, .ref C], slots := #[] }) (hno : Looks (model prog w) h (opaqueClassAbove (.ref C)) none)
    (hC : Looks (model prog w) h (mroOf (.ref C)) l₀) (hl : (l₀.dropWhile (· != .ref D)).drop 1 = l) (X : K.In h)
    (hf : alongIn K name l = some (some (.builtin id))) (hi : Looks (model prog w) h (isInstance (.ref x) (.type "list")) true) (hxC : x ≠ C) (hn : (name == ("__class__" : Str)) = false)
    (hq : Q (.done (.ret (.ref h.objs.size))) ⟨h.push { cls := .type bt, data := .fields #[.builtin id, .ref x] }, g, d, t, os⟩) :
    wpAny (model prog w) A (Builtin.«super.__getattribute__» ⟨[.ref so, .str name tk], []⟩) Q E ⟨h, g, d, t, os⟩ := by
  have hne : (Value.ref x == Value.ref C) = false := by simp [hxC]
  have hT := SB.typ
  have hlk := SB.lookup
  have hdt : ({ cls := .type "super", dict := none, data := .fields #[.ref D, .ref x, .ref C], slots := #[] } : Obj).data = .fields #[.ref D, .ref x, .ref C] := rfl
  have f0 : (#[.ref D, .ref x, .ref C] : Array Value)[0]? = some (.ref D) := rfl
  have f1 : (#[.ref D, .ref x, .ref C] : Array Value)[1]? = some (.ref x) := rfl
  have f2 : (#[.ref D, .ref x, .ref C] : Array Value)[2]? = some (.ref C) := rfl
  unfold Builtin.«super.__getattribute__»
  repeat (first
    | (with_reducible refine wpAny_field hso hdt f0 ?_) | (with_reducible refine wpAny_field hso hdt f1 ?_) | (with_reducible refine wpAny_field hso hdt f2 ?_)
    | (with_reducible refine ks_wpAny_notOpaque hno ?_)
    | (with_reducible refine Looks.at hC ?_; rw [hl])
    | (refine ks_forIn_along X (fun _ _ => rfl) rfl ?_ hf)
    | (with_reducible refine wpAny_of_eq hT ?_)
    | (with_reducible refine wpAny_of_eq hlk ?_)
    | (refine SB.get (s := ⟨h, g, d, t, os⟩) hi ?_)
    | (simp only [hn, hne, Bool.or_false, Bool.false_eq_true, if_false])
    | wp_step
    | dsimp only)
  all_goals exact hq

theorem super_method {so D x C : Addr} {l₀ l : List Value} {K : Frag} {name : Str} {id n T gid bt : String} {b : Builtin} {pl : Sem Bool} {Q : Value × List Value → Shared → Prop} (SB : SupB id n T gid bt b)
    (hso : h.get? so = some { cls := .type "super", dict := none, data := .fields #[.ref D, .ref x, .ref C], slots := #[] }) (hno : Looks (model prog w) h (opaqueClassAbove (.ref C)) none)
    (hC : Looks (model prog w) h (mroOf (.ref C)) l₀) (hl : (l₀.dropWhile (· != .ref D)).drop 1 = l) (X : K.In h)
    (hf : alongIn K name l = some (some (.builtin id))) (hi : Looks (model prog w) h (isInstance (.ref x) (.type "list")) true) (hxC : x ≠ C) (hn : (name == ("__class__" : Str)) = false)
    (hq : Q (.ref h.objs.size, []) ⟨h.push { cls := .type bt, data := .fields #[.builtin id, .ref x] }, g, d, t + 1, os⟩) :
    wpAny (model prog w) A (getMethod (.ref so) name pl) Q E ⟨h, g, d, t, os⟩ := by
  have hlk := PySem.F.ks_slot_super_ga.lookup
  have hcan := PySem.F.ks_canon_super_ga
  have hT : ∀ t', (⟨h, g, d, t', os⟩ : Shared).TypeIs (.ref so) "super" := fun _ => ⟨_, hso, rfl⟩
  unfold getMethod
  refine wpAny_bind (wpAny_specialOf (hT _) hlk ?_)
  show wpAny _ _ (if (Manifest.canonical "super.__getattribute__" != "object.__getattribute__") = true then _ else _) _ _ _
  rw [if_pos hcan]
  unfold getAttr getAttrBy
  refine wpAny_bind (wpAny_bind (wpAny_mkText (wpAny_holding (wpAny_bind (wpAny_typeOf (hT _) (wpAny_bind (wpAny_of_eq hlk ?_)))))))
  show wpAny _ _ (getAttrByItsOwn (.ref so) (.str name t) (.type "super") (.builtin "super.__getattribute__") true false) _ _ _
  unfold getAttrByItsOwn hookBefore callGetattribute boundAndCalled
  refine wpAny_bind (wpAny_of_eq (show (if onTheHeap (.type "super") then typeLookup (.type "super") "__getattr__" else pure none) = pure none from rfl) ?_)
  refine wpAny_bind (wpAny_attempt (wpAny_holding ?_))
  show wpAny _ _ (bindSpecial (.builtin "super.__getattribute__") (.ref so) >>= _) _ _ _
  refine wpAny_bind (wpAny_of_eq (PySem.F.ks_slot_super_ga.bind _) ?_)
  refine wpAny_mono (Q := fun v s' => v = .ref h.objs.size ∧ s' = ⟨h.push { cls := .type bt, data := .fields #[.builtin id, .ref x] }, g, d, t + 1, os⟩) (E := fun _ _ => False)
    (wpAny_call_entry PySem.F.ks_slot_super_ga (hT _) PySem.F.ks_entry_super_ga (super_ga SB hso hno hC hl X hf hi hxC hn ⟨_, rfl, rfl, rfl⟩) (PySem.F.ks_gaArgs_super _ _)) (fun v s' hv => ?_) fun _ _ z => z.elim
  obtain ⟨rfl, rfl⟩ := hv
  exact wpAny_pure (wpAny_pure hq)
end

section
variable {prog : Program} {w : World} {A : Around} {E : Value → Shared → Prop} {s : Shared}
/-- a bound built-in called with nothing -/
theorem call_bound {x C bo : Addr} {K : Frag} {ox : Obj} {od : Option Obj} {cd : ClassData} {id n T gid bt : String} {b : Builtin} {env : Env} {pos : Pos} {Q : Value → Shared → Prop} (SB : SupB id n T gid bt b) (hbo : s.heap.get? bo = some { cls := .type bt, data := .fields #[.builtin id, .ref x] })
    (X : K.In s.heap) (I : InstAt s.heap x ox C od) (hc : clsIn K C = some cd) (hqn : cd.qualname.toString = "_Accumulator") (ht : typeIn K (.ref C) = some (.type "type")) (hm : mroIn K C (.type "module") = some false)
    (h : wpAny (model prog w) A.in1 (b ⟨[.ref x], []⟩) (fun fin s' => ∃ v, fin = .done (.ret v) ∧ Q v s') E s) : wpAny (model prog w) A (callWith pos (.ref bo) [] (backTo pos (starEach [] env)) []) Q E s := by
  obtain ⟨b1, b2, b3⟩ := SB.bound
  refine callWith_of (P := fun h => h.get? bo = some { cls := .type bt, data := .fields #[.builtin id, .ref x] }) (args := []) rfl (fun h hb => ⟨.machine, .inr (.inl rfl), ?_⟩) (evalArgs_nil3 ⟨hbo, ?_⟩)
  · unfold keeperOf
    refine (Looks.ld (part := none) hb).andThen ?_
    dsimp only
    rw [show (Value.type bt != Value.type "method") = true from by unfold bne; rw [b1]; rfl, if_pos rfl, b3, if_pos rfl]
    exact .now
  · refine wpAny_call (codeAny_of_tree ?_)
    show wpAny _ A.in1 (callAny (.ref bo) _) _ _ _
    unfold callAny
    refine wpAny_bind (wpAny_load hbo ?_)
    dsimp only
    rw [if_pos b2]
    show wpAny _ _ (if (Value.type bt != Value.type "method") = true then (do checkBoundCall id ⟨[.ref x], []⟩; again (.builtin id ⟨[.ref x], []⟩)) else again (.call (.builtin id) ⟨[.ref x], []⟩)) _ _ _
    rw [show (Value.type bt != Value.type "method") = true from by unfold bne; rw [b1]; rfl, if_pos rfl]
    refine wpAny_bind (SB.check X I hc hqn ht hm ?_)
    refine wpAny_pure ⟨plainId_quiet SB.plain _, codeAny_builtin SB.entry ?_⟩
    rw [Around.under_plainId SB.plain _]
    refine wpAny_mono h (fun fin s' z => ?_) fun _ _ z => z
    obtain ⟨v, rfl, q⟩ := z
    exact q
end
end Mine
end

-- part F24
section
set_option maxRecDepth 100000
namespace Mine
open PySem PySem.W PyProof.Rows Builtin Builtin.ObjectAttr

/-- more of the class -/
structure AccT (g : G) : Prop extends AccS g where
  qual : ∀ cd, clsIn g.K g.cls = some cd → cd.qualname.toString = "_Accumulator"
  mtyp : typeIn g.K (.ref g.cls) = some (.type "type")
  opq : nsIn g.K cStatics "thirdparty.any" = some none

/-- a def of the class that asks super() -/
structure SupD (g : G) (env : Env) (f : Addr) (fd : FuncData) : Prop where
  ks : env.kindOf "super" = some .globalImplicit
  kc : env.kindOf "__class__" = some .free
  par : ∃ ar, (fd.params.posonlyargs ++ fd.params.args).head? = some ar ∧ ar.arg = "self"
  self : env.kindOf "self" = some .local
  cell : ∃ c, env.cells.lookup ("__class__" : Str) = some c ∧ g.hB.IsCell c (some (.ref g.cls)) ∧ c ∉ g.tabs
  code : ∃ cc oc vs tf, fd.code = .ref cc ∧ g.hB.get? cc = some oc ∧ cc ∉ g.tabs ∧ oc.data = .fields vs ∧ vs[2]? = some (.str g.prog.main.file tf)
  top : (g.prog.main.scope.names.lookup ("super" : Str)).isSome = false
  mg : g.mg "super" = none
  mb : g.mb "super" = some (.type "super")

section
variable {g : G} {k : Nat} {env cenv : Env} {ρ ρ₁ ρ₂ ρc : En} {μ μ₁ μ₂ μ₃ μ₄ : List MO}

theorem clsIn_lookup {K : Frag} {C : Addr} {cd : ClassData} (h : clsIn K C = some cd) : ∃ o, K.lookup C = some o ∧ o.data = .cls cd := by
  unfold clsIn at h
  split at h
  · rename_i hl; cases h; exact ⟨_, hl, rfl⟩
  · cases h

theorem super_eval {A : Around} {θ : Th} {s : Shared} {whole : List Stmt} {i : Nat} {kk : Int} {ds : List D} {f : Addr} {fd : FuncData} {id n T gid bt : String} {b : Builtin} {name : Str} {p0 p1 apos pos : Pos} {Q : Value → Shared → Prop} {E : Value → Shared → Prop}
    (SB : SupB id n T gid bt b) (C : AccT g) (hf : FD g f fd) (e : EnvOf g f fd env) (D : SupD g env f fd) (ft : Fit k A) (S : Sta g env θ ρ μ s) (hself : ρ.lookup ("self" : Str) = some (.ob i)) (hi : μ[i]? = some (.acc kk ds))
    (hal : alongIn g.K name [.type "list", .type "object"] = some (some (.builtin id))) (hat : (name == ("__class__" : Str)) = false)
    (h : ∀ s' p, Lat g θ s θ s' → Wld g θ μ s' → θ[i]? = some p → wpAny g.M A.in1 (b ⟨[.ref p.1], []⟩) (fun fin s'' => ∃ v, fin = .done (.ret v) ∧ Q v s'') E s') {pl : Sem Bool}
    (hev : eval (.Call (.Attribute (.Call (.Name "super" p0) [] [] p1) name apos) [] [] pos) env = (do
      let ov ← attributeBase (.Call (.Name "super" p0) [] [] p1) name env (eval (.Call (.Name "super" p0) [] [] p1) env)
      standAt apos.atName
      let (f, first) ← holding [ov] (getMethod ov name pl)
      callWith pos f first (backTo pos (starEach [] env)) []) := by rfl) :
    PySem.wpAt g.M A (.func whole env) (eval (.Call (.Attribute (.Call (.Name "super" p0) [] [] p1) name apos) [] [] pos) env) Q E s := by
  obtain ⟨ar, zq⟩ := D.par
  have hpar := zq.1
  replace zq := zq.2
  have hara := zq
  clear zq
  obtain ⟨cc, oc, vs, tf, zq⟩ := D.code
  have hco := zq.1
  replace zq := zq.2
  have hcc := zq.1
  replace zq := zq.2
  have hcct := zq.1
  replace zq := zq.2
  have hod := zq.1
  replace zq := zq.2
  have hv2 := zq
  clear zq
  obtain ⟨cl, zq⟩ := D.cell
  have hcl := zq.1
  replace zq := zq.2
  obtain ⟨oC, hoC, hoCd⟩ := zq.1
  replace zq := zq.2
  have hclt := zq
  clear zq
  obtain ⟨of, zq⟩ := hf.at_
  have hof := zq.1
  replace zq := zq.2
  have hofd := zq
  clear zq
  obtain ⟨cd, zq⟩ := C.cd
  have hcd := zq.1
  replace zq := zq.2
  have hmro := zq.1
  replace zq := zq.2
  have hdict := zq
  clear zq
  obtain ⟨oD, zq⟩ := clsIn_lookup hcd
  have hoD := zq.1
  replace zq := zq.2
  have hoDd := zq
  clear zq
  have hoD' : s.heap.get? g.cls = some oD := S.W.kin _ _ hoD
  obtain ⟨m, hn, hm⟩ := S.F.locals
  obtain ⟨v, zq⟩ := hm "self" _ hself D.self
  have hv := zq.1
  replace zq := zq.2
  have V := zq
  clear zq
  obtain ⟨p, ep, rfl⟩ := V.ob_inv
  obtain ⟨us, nn, od, tk, mm, zq⟩ := acc_inst S.W ep hi
  have ho := zq.1
  replace zq := zq.2
  have I := zq.1
  replace zq := zq.2
  have hns := zq.1
  replace zq := zq.2
  have hlk := zq.1
  replace zq := zq.2
  have hsz := zq.1
  replace zq := zq.2
  have hno := zq.1
  replace zq := zq.2
  have hV := zq.1
  replace zq := zq.2
  have hC := zq
  clear zq
  have X := S.W.kin
  refine ks_wpAt_MethodCall (pl := pl) (ks_wpAt_super_base (f := f) (cc := cc) (fd := fd) (ar := ar) D.ks D.kc hat e.func (S.W.base f of hf.out hof) hofd hpar (e.code.trans hco) (S.W.base cc oc hcct hcc) hod hv2 (by simp) D.top ?_) hev
  have hk := S.F.kind
  have l1 : ∀ {Q' : Value → Shared → Prop}, Q' (.type "super") s → wpAny g.M A (loadName env "super") Q' E s := by
    intro Q' q
    unfold loadName
    simp only [Env.blockKind, hk, D.ks, ScopeKind.isAnnotationScope, Bool.false_and, Bool.false_eq_true, if_false]
    exact Calls.loadGlobal_builtin (by rw [S.F.glob.1]; exact S.W.gl) D.mg (by rw [S.F.glob.2]; exact S.W.bi) D.mb q
  refine l1 ⟨rfl, wpAny_loadName_free hk D.kc hcl ⟨oC, S.W.base cl oC hclt hoC, hoCd⟩ ?_⟩
  rw [hara]
  refine wpAny_loadName_local hk D.self hn hv ?_
  obtain ⟨hh, gg, dd, tt, os⟩ := s
  refine ks_wpAny_isType_cls hoD' hoDd ⟨rfl, ?_⟩
  have hpc : p.1 ≠ g.cls := fun z => by
    have := S.W.newer p (List.mem_of_getElem? ep)
    rw [z] at this
    exact nomatch (S.W.gd.kin _ _ hoD).symm.trans this.1
  refine ks_wpAny_call_super (C := g.cls) hoD' hoDd ho rfl (fun c z => by cases z) (looks_mroIn X (by unfold mroIn; rw [hcd, Option.bind_some, hmro]; simp)) fun h₁ hso k₁ => ?_
  generalize hs₁ : (⟨h₁, gg, dd, tt, os⟩ : Shared) = s₁
  have e1 : s₁.heap = h₁ := by rw [← hs₁]
  have W₁ : Wld g θ μ s₁ := S.W.keeps (by rw [e1]; exact k₁) (by rw [← hs₁]; exact S.W.gens) (by rw [← hs₁])
  have hsub : Looks g.M h₁ (isInstance (.ref p.1) (.type "list")) true := (acc_isList X C.toAccC I).keeps k₁
  rw [← hs₁]
  refine super_method SB hso ((looks_opaque X C.opq).keeps k₁) (l₀ := cd.mro) (((looks_clsIn X hcd).andThen .now : Looks g.M _ (mroOf (.ref g.cls)) cd.mro).keeps k₁) (l := [.type "list", .type "object"]) (by rw [hmro]; simp) (X.keeps k₁) hal hsub hpc hat ?_
  generalize hs₂ : (⟨h₁.push { cls := .type bt, data := .fields #[.builtin id, .ref p.1] }, gg, dd, tt + 1, os⟩ : Shared) = s₂
  have k₂ : ∀ b o, h₁.get? b = some o → s₂.heap.get? b = some o := fun b o e => by rw [← hs₂]; exact Heap.get?_push_of_some _ e
  have k₀₂ : ∀ b o, hh.get? b = some o → s₂.heap.get? b = some o := fun b o e => k₂ b o (k₁ b o e)
  have W₂ : Wld g θ μ s₂ := S.W.keeps k₀₂ (by rw [← hs₂]; exact S.W.gens) (by rw [← hs₂])
  obtain ⟨us2, nn2, od2, tk2, mm2, zq⟩ := acc_inst W₂ ep hi
  have ho2 := zq.1
  replace zq := zq.2
  have I2 := zq.1
  replace zq := zq.2
  clear zq
  refine call_bound SB (by rw [← hs₂]; exact Heap.get?_push_size _ rfl) W₂.kin I2 hcd (C.qual cd hcd) C.mtyp (by unfold mroIn; rw [hcd, Option.bind_some, hmro]; simp) ?_
  exact h s₂ p (.ofKeeps k₀₂) W₂ ep

/-- return super().name() -/
theorem ExA.retSuper {whole : List Stmt} {i : Nat} {kk : Int} {ds : List D} {f : Addr} {fd : FuncData} {id n T gid bt : String} {b : Builtin} {name : Str} {p0 p1 apos pos rpos : Pos} {d : D}
    (SB : SupB id n T gid bt b) (C : AccT g) (hf : FD g f fd) (e : EnvOf g f fd env) (D : SupD g env f fd) (hself : ρ.lookup ("self" : Str) = some (.ob i)) (hi : μ[i]? = some (.acc kk ds))
    (hal : alongIn g.K name [.type "list", .type "object"] = some (some (.builtin id))) (hat : (name == ("__class__" : Str)) = false)
    (h : ∀ (A : Around) (θ : Th) (s : Shared) (p : Addr × Addr) (Q : Value → Shared → Prop) (E : Value → Shared → Prop), Wld g θ μ s → θ[i]? = some p → (∀ v s', Lat g θ s θ s' → Wld g θ μ₁ s' → Val g θ s'.heap v d → Q v s') → wpAny g.M A (b ⟨[.ref p.1], []⟩) (fun fin s'' => ∃ v, fin = .done (.ret v) ∧ Q v s'') E s) {pl : Sem Bool}
    (hev : eval (.Call (.Attribute (.Call (.Name "super" p0) [] [] p1) name apos) [] [] pos) env = (do
      let ov ← attributeBase (.Call (.Name "super" p0) [] [] p1) name env (eval (.Call (.Name "super" p0) [] [] p1) env)
      standAt apos.atName
      let (f, first) ← holding [ov] (getMethod ov name pl)
      callWith pos f first (backTo pos (starEach [] env)) []) := by rfl) :
    ExA g k env whole ρ μ [.Return (some (.Call (.Attribute (.Call (.Name "super" p0) [] [] p1) name apos) [] [] pos)) rpos] (some d) ρ μ₁ := by
  intro A θ s Q E ft S q
  refine ks_wpAt_execs_cons (ks_wpAt_Return_some (super_eval SB C hf e D ft S hself hi hal hat (fun s' p l' W' ep => ?_) hev))
  exact h A.in1 θ s' p _ E W' ep fun v s'' l'' W'' V => q _ θ s'' (l'.trans l'').s (S.lat (l'.trans l'') W'') (.ret V)
/-- super().name() as a statement -/
theorem ExA.exprSuper {whole : List Stmt} {i : Nat} {kk : Int} {ds : List D} {f : Addr} {fd : FuncData} {id n T gid bt : String} {b : Builtin} {name : Str} {p0 p1 apos pos rpos : Pos} {d : D}
    (SB : SupB id n T gid bt b) (C : AccT g) (hf : FD g f fd) (e : EnvOf g f fd env) (D : SupD g env f fd) (hself : ρ.lookup ("self" : Str) = some (.ob i)) (hi : μ[i]? = some (.acc kk ds))
    (hal : alongIn g.K name [.type "list", .type "object"] = some (some (.builtin id))) (hat : (name == ("__class__" : Str)) = false) (hint : interactive env = false)
    (h : ∀ (A : Around) (θ : Th) (s : Shared) (p : Addr × Addr) (Q : Value → Shared → Prop) (E : Value → Shared → Prop), Wld g θ μ s → θ[i]? = some p → (∀ v s', Lat g θ s θ s' → Wld g θ μ₁ s' → Val g θ s'.heap v d → Q v s') → wpAny g.M A (b ⟨[.ref p.1], []⟩) (fun fin s'' => ∃ v, fin = .done (.ret v) ∧ Q v s'') E s) {pl : Sem Bool}
    (hev : eval (.Call (.Attribute (.Call (.Name "super" p0) [] [] p1) name apos) [] [] pos) env = (do
      let ov ← attributeBase (.Call (.Name "super" p0) [] [] p1) name env (eval (.Call (.Name "super" p0) [] [] p1) env)
      standAt apos.atName
      let (f, first) ← holding [ov] (getMethod ov name pl)
      callWith pos f first (backTo pos (starEach [] env)) []) := by rfl)
    (hsw : swapsWith (.Call (.Attribute (.Call (.Name "super" p0) [] [] p1) name apos) [] [] pos) none rpos.line env = pure false := by rfl) :
    ExA g k env whole ρ μ [.Expr (.Call (.Attribute (.Call (.Name "super" p0) [] [] p1) name apos) [] [] pos) rpos] none ρ μ₁ := by
  intro A θ s Q E ft S q
  refine ks_wpAt_execs_cons (ks_wpAt_Expr_any (super_eval SB C hf e D ft S hself hi hal hat (fun s' p l' W' ep => ?_) hev) hint hsw)
  exact h A.in1 θ s' p _ E W' ep fun v s'' l'' W'' V => wpAt_of_wpAny (wpAny_execs_nil (q _ θ s'' (l'.trans l'').s (S.lat (l'.trans l'') W'') .next))
theorem ExA.cons {whole : List Stmt} {st : Stmt} {rest : List Stmt} {r : Option Mine.D} (h1 : Ex1 g k env ρ μ st none ρ₁ μ₁) (h2 : ExA g k env whole ρ₁ μ₁ rest r ρ₂ μ₂) : ExA g k env whole ρ μ (st :: rest) r ρ₂ μ₂ := fun A θ s Q E f S q =>
  ks_wpAt_execs_cons (wpAt_of_wpAny (h1 A θ s _ E f S fun fl θ₁ s₁ l₁ S₁ F₁ => by
    cases F₁
    exact h2 A θ₁ s₁ Q E f S₁ fun fl θ₂ s₂ l₂ S₂ F₂ => q fl θ₂ s₂ (l₁.trans l₂) S₂ F₂))
end
end Mine
end

-- part F25
section
set_option maxRecDepth 100000
namespace Mine
open PySem PySem.W PyProof.Rows Builtin Builtin.ObjectAttr

theorem ln_kind : builtinKind "list.__new__" = some .builtinFn := by decide +kernel
theorem ln_split : splitId "list.__new__" = some ("list", "__new__") := by decide +kernel
theorem ln_sig : Manifest.signature? "list.__new__" = some ⟨.any, "list", "list", .cls, [⟨"args", .varPos, false⟩, ⟨"kwargs", .varKw, false⟩]⟩ := by
  rw [signature?_of (id := "list.__new__") (n := ['_', '_', 'w', 'e', 'n', '_', '_']) (o := ['t', 's', 'i', 'l']) (by kernel_rfl) F.owner_list]; kernel_rfl
theorem ln_args (a b : Value) : Bind.checkArgs "list.__new__" ⟨.any, "list", "list", .cls, [⟨"args", .varPos, false⟩, ⟨"kwargs", .varKw, false⟩]⟩ ⟨[a, b], []⟩ = pure () := by kernel_rfl

/-- the class makes its objects by list.__new__ -/
structure AccN (g : G) : Prop extends AccT g where
  obj : ∃ oc od cd sl, g.K.lookup g.cls = some ⟨oc, od, .cls cd, sl⟩ ∧ cd.abstract = false ∧ cd.hasDel = false ∧ (sl.toList[4]?).join = some (.builtin "list.__new__")
  call : specialIn g.K (.ref g.cls) "__call__" = some (some (.builtin "type.__call__"))
  typ : instIn g.K (.ref g.cls) (.type "type") = some true

section
variable {prog : Program} {w : World} {A : Around} {K : Frag} {C : Addr} {R : Result → Shared → Prop} {h : Heap} {g : Array GenState} {d : Drawn} {t : Nat} {os : OsState}

theorem new_list_acc {a : Value} {oc : Value} {od : Option Addr} {cd : ClassData} {sl : Array (Option Value)} (hC : h.get? C = some ⟨oc, od, .cls cd, sl⟩) (e2 : cd.hasDel = false)
    (made : Looks (model prog w) h (Bind.madeBy (.ref C)) (some "list.__new__")) (base : Looks (model prog w) h (Bind.staticBase (.ref C)) (.ref C)) (sub : Looks (model prog w) h (isSubtype (.ref C) (.type "list")) true)
    (hq : R (.ok (.ret (.ref (h.objs.size + 1)))) ⟨(h.push emptyDict).push (accO C h.objs.size [] 0), g, d, t, os⟩) :
    codeAny (model prog w) A (.call (.builtin "list.__new__") ⟨[.ref C, a], []⟩) R ⟨h, g, d, t, os⟩ := by
  refine codeAny_of_tree ?_
  show wpAny _ A.in1 (do checkBuiltinCall "list.__new__" ⟨[.ref C, a], []⟩; again (.builtin "list.__new__" ⟨[.ref C, a], []⟩)) _ _ _
  refine wpAny_bind ?_
  have hT : Looks (model prog w) h (isType (.ref C)) true := by
    unfold isType loadHead
    exact (Looks.ld hC).andThen .now
  rw [checkBuiltinCall, ln_kind, ln_split, ln_sig]
  refine wpAny_bind (lkAt hT rfl ?_)
  skip
  refine wpAny_bind (lkAt sub rfl ?_)
  skip
  refine wpAny_bind (lkAt base rfl ?_)
  refine wpAny_bind (lkAt made rfl ?_)
  simp only [bne_self_eq_false, Bool.false_eq_true, if_false]
  rw [ln_args]
  refine wpAny_pure (wpAny_pure ⟨plainId_quiet F.plain_list_new _, codeAny_builtin_stack F.entry_list_new rfl fun p st => ?_⟩)
  rw [Around.under_plainId F.plain_list_new _]
  have hown := owner_list_new
  simp only [hown]
  refine wpAny_bind (lkAt hT rfl ?_)
  skip
  refine wpAny_bind (lkAt sub rfl ?_)
  skip
  refine wpAny_bind (wpAny_pure ?_)
  rw [if_neg (show ¬ ((!typeHasDict (.ref C)) = true) from by simp [typeHasDict])]
  have hC' := Heap.get?_push_of_some (accO C h.objs.size [] 0) (Heap.get?_push_of_some emptyDict hC)
  refine wpAny_bind ?_
  show wpAny _ _ (newObj (.type "dict") (.dict #[])) _ _ _
  refine wpAny_newObj_type ?_ (by size_fits)
  show wpAny _ _ (newObjAsIs (.ref C) (.seq #[]) (some h.objs.size) >>= fun r => ret r) _ _ _
  refine wpAny_bind ?_
  unfold newObjAsIs classHasDel
  refine wpAny_bind (wpAny_alloc (wpAny_bind (wpAny_bind (wpAny_load hC' (wpAny_pure ?_)))))
  rw [e2]
  refine wpAny_pure (wpAny_pure ?_)
  show R _ _
  rw [show ({ heap := h.push emptyDict, gens := g, drawn := d, toks := t, os := os } : Shared).heap.objs.size = h.objs.size + 1 from Heap.size_push ..]
  exact hq

theorem make_acc {a : Value} {oc : Value} {od : Option Addr} {cd : ClassData} {sl : Array (Option Value)} {fI : Addr} (hC : h.get? C = some ⟨oc, od, .cls cd, sl⟩) (e2 : cd.hasDel = false) (e4 : cd.mro.isEmpty = false)
    (made : Looks (model prog w) h (Bind.madeBy (.ref C)) (some "list.__new__")) (base : Looks (model prog w) h (Bind.staticBase (.ref C)) (.ref C)) (sub : Looks (model prog w) h (isSubtype (.ref C) (.type "list")) true)
    (self : Looks (model prog w) h (isSubtype (.ref C) (.ref C)) true) (call : Looks (model prog w) h (specialOf (.ref C) "__call__") (some (.builtin "type.__call__"))) (typ : Looks (model prog w) h (isInstance (.ref C) (.type "type")) true)
    (hi : Looks (model prog w) h (typeLookup (.ref C) "__init__") (some (.ref fI))) (hb : ∀ self, Looks (model prog w) h (bindSpecial (.ref fI) self) (.ref fI, [self]))
    (hq : codeAny (model prog w) (A.under (.builtin "type.__call__" ⟨[.ref C, a], []⟩)) (.call (.ref fI) ⟨[.ref (h.objs.size + 1), a], []⟩) (InitBack (h.objs.size + 1) R) ⟨(h.push emptyDict).push (accO C h.objs.size [] 0), g, d, t, os⟩) :
    codeAny (model prog w) A (.call (.ref C) ⟨[a], []⟩) R ⟨h, g, d, t, os⟩ := by
  refine codeAny_of_tree ?_
  show wpAny _ _ (callAny (.ref C) _) _ _ _
  refine nd_load hC ?_
  show wpAny _ _ (callAny.viaDunder (.ref C) _) _ _ _
  unfold callAny.viaDunder
  refine wpAny_bind (call.at ?_)
  dsimp only
  rw [tc_bind]
  refine wpAny_bind (wpAny_pure (wpAny_bind (wpAny_pure ?_)))
  refine wpAny_pure (a := Fin.again (.call (.builtin "type.__call__") ⟨[.ref C, a], []⟩)) (And.intro rfl ?_)
  refine codeAny_call_builtin_at (Code.quiet_builtin _ (by decide +kernel)) entry_typeCall (check_slot tc_kind tc_split typ (tc_args _ _ _) ?_)
  unfold Builtin.«type.__call__»
  have hm : Looks (model prog w) h (mroOf (.ref C)) cd.mro := ((Looks.ld (part := none) hC).andThen .now).andThen .now
  repeat (first | simp only [e4, Bool.false_eq_true, if_false] | with_reducible refine wpAny_call ?_ | lk)
  refine new_list_acc hC e2 made base sub ?_
  have k : ∀ b o, h.get? b = some o → ((h.push emptyDict).push (accO C h.objs.size [] 0)).get? b = some o := fun b o e => Heap.get?_push_of_some _ (Heap.get?_push_of_some _ e)
  have hx : ((h.push emptyDict).push (accO C h.objs.size [] 0)).get? (h.objs.size + 1) = some (accO C h.objs.size [] 0) := by heap_get
  have t1 : Looks (model prog w) ((h.push emptyDict).push (accO C h.objs.size [] 0)) (typeOf (.ref (h.objs.size + 1))) (.ref C) := (Looks.ld hx).andThen .now
  have s1 := self.keeps k
  have i1 := hi.keeps k
  have b1 := (hb (.ref (h.objs.size + 1))).keeps k
  unfold isInstance callSpecial? specialOf
  repeat (first | with_reducible refine wpAny_call ?_ | lk)
  refine codeAny_mono hq fun r s' z => ?_
  rcases r with e | (v | _ | _ | _) <;> first | exact z | exact z.elim | skip
  obtain ⟨rfl, z⟩ := z
  exact wpAny_pure (wpAny_pure z)
end

section
variable {g : G} {k : Nat} {env cenv : Env} {ρ ρ₁ ρ₂ ρc : En} {μ μ₁ μ₂ μ₃ μ₄ : List MO}

theorem fit_under {A : Around} {C : Addr} {vals : List Value} (f : Fit (k + 1) A) : Fit k (A.under (.builtin "type.__call__" ⟨.ref C :: vals, []⟩)) := by
  refine ⟨f.handled, by have := f.depth; show A.depth + 1 + k < _; lia, ?_⟩
  have h1 := f.units
  have h2 : (A.under (.builtin "type.__call__" ⟨.ref C :: vals, []⟩)).units = A.units + 1 := by
    first | rfl | simp [Around.under, Code.cUnits, Code.frames, Code.isFrame]
  lia

/-- the class called: a new accumulator -/
theorem Ev.newAcc {x : Str} {np pos : Pos} {e : Expr} {kk : Int} {fI : Addr} (CN : AccN g) (hk : env.kindOf x = some .globalImplicit) (hm : g.mg x = some (.ref g.cls)) (hd : (x == ("__debug__" : Str)) = false) (h1 : Ev g (k + 1) env ρ μ e (.int kk) μ₁) (hI : Meth g "__init__" fI)
    (h2 : FnC g k (.ref fI) [.ob μ₁.length, .int kk] (μ₁ ++ [.raw]) .none (μ₁ ++ [.acc kk []])) (hs : starEach [e] env = [(false, eval e env)] := by rfl) : Ev g (k + 1) env ρ μ (.Call (.Name x np) [e] [] pos) (.ob μ₁.length) (μ₁ ++ [.acc kk []]) := by
  intro A θ s Q E ft S q
  refine wpAny_Call_NameR (global_own S hk hm hd ?_)
  obtain ⟨oc, od, cd, sl, zq⟩ := CN.obj
  have hKl := zq.1
  replace zq := zq.2
  have hab := zq.1
  replace zq := zq.2
  have hdel := zq.1
  replace zq := zq.2
  have hslot := zq
  clear zq
  have hcd : clsIn g.K g.cls = some cd := by unfold clsIn; rw [hKl]
  obtain ⟨cd', zq⟩ := CN.cd
  have hcd' := zq.1
  replace zq := zq.2
  have hmro := zq.1
  replace zq := zq.2
  have hdict := zq
  clear zq
  rw [hcd] at hcd'
  cases hcd'
  have kp : ∀ h, g.K.In h → ∃ kp, (kp = Keeper.frame ∨ kp = Keeper.machine ∨ kp = Keeper.boundFrame) ∧ Looks g.M h (keeperOf (.ref g.cls)) kp := fun h X => ⟨.machine, .inr (.inl rfl), by
    unfold keeperOf
    refine (Looks.ld (part := none) (X _ _ hKl)).andThen ?_
    skip
    refine (looks_specialIn X CN.call).andThen ?_
    rw [if_pos (by decide)]
    exact .now⟩
  refine callWith_of (P := fun h => g.K.In h) ?_ kp ?_
  · rw [hs]; rfl
  have hb' : backTo pos (starEach [e] env) = [(false, eval e env)] := by rw [hs]; rfl
  rw [hb']
  refine Calls.evalArgs_plain (Calls.spliced_cons (h1 A θ s _ E ft S fun v θ₁ s₁ l₁ W₁ V₁ => Calls.spliced_nil ⟨W₁.kin, ?_⟩))
  have X := W₁.kin
  refine wpAny_call ?_
  obtain ⟨h, gg, d, t, os⟩ := s₁
  have hC := X _ _ hKl
  have ne : cd.mro.isEmpty = false := by rw [hmro]; rfl
  have hmr : Looks g.M h (mroOf (.ref g.cls)) cd.mro := (looks_clsIn X hcd).andThen .now
  have made : Looks g.M h (Bind.madeBy (.ref g.cls)) (some "list.__new__") := by
    intro A Q E s kk q
    unfold Bind.madeBy
    refine wpAny_bind (hmr A _ E s kk ?_)
    rw [hmro, List.forIn_cons]
    refine wpAny_bind (wpAny_bind (wpAny_bind (wpAny_bind (wpAny_loadPart (kk _ _ hC) (wpAny_pure ?_)))))
    skip
    rw [← Array.getElem?_toList, hslot]
    exact wpAny_pure (wpAny_pure (wpAny_pure q))
  have base : Looks g.M h (Bind.staticBase (.ref g.cls)) (.ref g.cls) := by
    intro A Q E s kk q
    unfold Bind.staticBase
    refine wpAny_bind (hmr A _ E s kk ?_)
    rw [hmro, List.forIn_cons]
    exact wpAny_bind (wpAny_bind (wpAny_bind (made A _ E s kk (wpAny_pure (wpAny_pure (wpAny_pure q))))))
  have mi : ∀ b, mroIn g.K g.cls b = some (cd.mro.contains b) := fun b => by unfold mroIn; rw [hcd, Option.bind_some, if_neg (by rw [ne]; decide)]
  cases V₁
  rename_i tk
  refine make_acc (fI := fI) hC hdel ne made base (looks_mroIn X (by rw [mi, hmro]; simp)) (looks_mroIn X (by rw [mi, hmro]; simp)) (looks_specialIn X CN.call) (looks_instIn X CN.typ) (looks_findIn X hI.is) (fun self => bind_fn X self hI.fn) ?_
  generalize hs₂ : (⟨(h.push emptyDict).push (accO g.cls h.objs.size [] 0), gg, d, t, os⟩ : Shared) = s₂
  have e2 : s₂.heap = (h.push emptyDict).push (accO g.cls h.objs.size [] 0) := by rw [← hs₂]
  have eD : h.get? h.objs.size = none := get_size h
  have eX : h.get? (h.objs.size + 1) = none := by
    cases q : h.get? (h.objs.size + 1) with
    | none => rfl
    | some o => exact absurd (Nat.lt_of_succ_lt (Heap.lt_size q)) (Nat.lt_irrefl _)
  obtain ⟨W₂, L₂⟩ := W₁.grow (s' := s₂) (p := (h.objs.size + 1, h.objs.size)) (mo := .raw) (fun b o eb => by rw [e2]; exact Heap.get?_push_of_some _ (Heap.get?_push_of_some _ eb)) eX eD (by rw [← hs₂]; exact W₁.gens) (by rw [← hs₂])
    (fun hv => by
      refine .raw (n := 0) (m := fun _ => none) ?_ ?_ fun _ => rfl
      · rw [e2]; heap_get
      · rw [e2]
        exact Heap.Ns1.of_empty ((Heap.Ns.new h (.type "dict")).push _))
  have call2 := h2 (A.under (.builtin "type.__call__" ⟨[.ref g.cls, .int kk tk], []⟩)) (θ₁ ++ [(h.objs.size + 1, h.objs.size)]) s₂ [.ref (h.objs.size + 1), .int kk tk]
  have Vx : Val g (θ₁ ++ [(h.objs.size + 1, h.objs.size)]) s₂.heap (.ref (h.objs.size + 1)) (.ob μ₁.length) := .ob (p := (h.objs.size + 1, h.objs.size)) (by rw [← W₁.len]; simp)
  exact call2 _ (fit_under ft) W₂ (.cons Vx (.cons (.int _ _) .nil)) fun v θ₃ s₃ l₃ W₃ V₃ => by
    cases V₃
    exact ⟨rfl, q _ θ₃ s₃ ((l₁.trans L₂).trans l₃) W₃ (Val.ob (p := (h.objs.size + 1, h.objs.size)) (th_more l₃ (by rw [← W₁.len]; simp)))⟩
end
end Mine
end

-- part F26
section
set_option maxRecDepth 100000
namespace Mine
open PySem PySem.W PyProof.Rows Builtin Builtin.ObjectAttr

section
variable {g : G} {k : Nat} {env : Env} {ρ ρ₁ ρ₂ : En} {μ μ₁ μ₂ μ₃ μ₄ : List MO}


/-- len(x), its body -/
theorem acc_len_body {A : Around} {θ : Th} {s : Shared} {i : Nat} {p : Addr × Addr} {kk n : Int} {ds : List D} {fL : Addr} {Q : Value → Shared → Prop} {E : Value → Shared → Prop} (ft : Fit k A) (W : Wld g θ μ s) (e : θ[i]? = some p) (hm : μ[i]? = some (.acc kk ds))
    (hL : Meth g "__len__" fL) (hF : Fn g k (.ref fL) [.ob i] μ (.int n) μ) (h0 : 0 ≤ n) (h1 : n < 2 ^ 63)
    (q : ∀ t s', Lat g θ s θ s' → Wld g θ μ s' → Q (.int n t) s') : wpAny g.M A (Builtin.«len» ⟨[.ref p.1], []⟩) (fun fin s' => ∃ v, fin = .done (.ret v) ∧ Q v s') E s := by
  obtain ⟨vs, m, od, t, mm, zq⟩ := acc_inst W e hm
  have ho := zq.1
  replace zq := zq.2
  have I := zq.1
  replace zq := zq.2
  have hns := zq.1
  replace zq := zq.2
  have hl := zq.1
  replace zq := zq.2
  have hsz := zq.1
  replace zq := zq.2
  have hno := zq.1
  replace zq := zq.2
  have hV := zq.1
  replace zq := zq.2
  have hC := zq
  clear zq
  unfold Builtin.«len»
  refine wpAny_bind (m := oneArg "len" _) (wpAny_pure ?_)
  refine wpAny_bind (m := callSpecial? (.ref p.1) (Str.ofString "__len__")) (special_fn W.kin I hL.is hL.fn (hF A θ s [.ref p.1] _ E ft W (.cons (.ob e) .nil) fun v θ' s' l' W' V' => ?_))
  have hθ := th_same W l' W'
  obtain rfl := hθ.symm
  cases V'
  refine wpAny_bind (wpAny_holding (wpAny_pure ?_))
  refine wpAny_bind (wpAny_letGo ?_)
  show wpAny _ _ (if n < 0 then _ else _) _ _ _
  rw [if_neg (by lia)]
  show wpAny _ _ (if n ≥ 2 ^ 63 then _ else _) _ _ _
  rw [if_neg (by lia)]
  exact wpAny_bind (wpAny_mkInt (wpAny_pure ⟨_, rfl, q _ _ l'.toks (W'.tok _)⟩))
/-- len(x) -/
theorem Bi.len_acc {i : Nat} {kk n : Int} {ds : List D} {fL : Addr} (hm : μ[i]? = some (.acc kk ds)) (hL : Meth g "__len__" fL) (hF : Fn g k (.ref fL) [.ob i] μ (.int n) μ) (h0 : 0 ≤ n) (h1 : n < 2 ^ 63) : Bi g (k + 1) μ (.builtin "len") [.ob i] (.int n) := by
  intro A θ s vs Q E ft W V q
  cases V with
  | cons V r =>
    cases r
    obtain ⟨p, e, rfl⟩ := V.ob_inv
    exact Calls.call_function_entry kind_len plain_len entry_len (args_len1 _) (acc_len_body ft.in1 W e hm hL hF h0 h1 fun t s' l' W' => q _ s' l' W' (.int _ _))
/-- the truth of x -/
theorem acc_truthy {A : Around} {θ : Th} {s : Shared} {i : Nat} {p : Addr × Addr} {kk n : Int} {ds : List D} {fL : Addr} {Q : Bool → Shared → Prop} {E : Value → Shared → Prop} (ft : Fit (k + 1) A) (W : Wld g θ μ s) (e : θ[i]? = some p) (hm : μ[i]? = some (.acc kk ds))
    (hB : findIn g.K (.ref g.cls) "__bool__" = some none) (hL : Meth g "__len__" fL) (hF : Fn g k (.ref fL) [.ob i] μ (.int n) μ) (h0 : 0 ≤ n) (h1 : n < 2 ^ 63)
    (q : ∀ s', Lat g θ s θ s' → Wld g θ μ s' → Q (n != 0) s') : wpAny g.M A (truthy (.ref p.1)) Q E s := by
  obtain ⟨vs, m, od, t, mm, zq⟩ := acc_inst W e hm
  have ho := zq.1
  replace zq := zq.2
  have I := zq.1
  replace zq := zq.2
  have hns := zq.1
  replace zq := zq.2
  have hl := zq.1
  replace zq := zq.2
  have hsz := zq.1
  replace zq := zq.2
  have hno := zq.1
  replace zq := zq.2
  have hV := zq.1
  replace zq := zq.2
  have hC := zq
  clear zq
  have key : wpAny g.M A (runValue (.builtin "len" ⟨[.ref p.1], []⟩)) (fun r s' => ∃ t, r = .int n t ∧ Q (n != 0) s') E s := by
    refine wpAny_runValue (codeAny_builtin entry_len ?_)
    rw [Around.under_plainId plain_len _]
    exact wpAny_mono (acc_len_body (Q := fun r s' => ∃ t, r = .int n t ∧ Q (n != 0) s') ft.in1 W e hm hL hF h0 h1 fun t s' l' W' => ⟨t, rfl, q s' l' W'⟩)
      (fun fin s' h' => by obtain ⟨r, rfl, hq⟩ := h'; exact hq) fun _ _ e => e
  unfold truthy
  refine wpAny_bind (m := callSpecial? (.ref p.1) (Str.ofString "__bool__")) (wpAny_bind (wpAny_bind (I.type.here ((looks_findIn W.kin hB).here (wpAny_pure ?_)))))
  refine wpAny_bind (wpAny_bind (I.type.here ((looks_findIn W.kin hL.is).here ?_)))
  show wpAny _ _ (if (some (Value.ref fL)).isNone = true then _ else _) _ _ _
  rw [if_neg (by simp)]
  exact wpAny_bind (wpAny_mono key (fun r s' h' => by obtain ⟨t, rfl, hq⟩ := h'; exact wpAny_pure hq) fun _ _ e => e)
/-- not x -/
theorem Ev.notAcc {o : Expr} {pos : Pos} {i : Nat} {kk n : Int} {ds : List D} {fL : Addr} (h1 : Ev g (k + 1) env ρ μ o (.ob i) μ₁) (hi : μ₁[i]? = some (.acc kk ds))
    (hB : findIn g.K (.ref g.cls) "__bool__" = some none) (hL : Meth g "__len__" fL) (hF : Fn g k (.ref fL) [.ob i] μ₁ (.int n) μ₁) (h0 : 0 ≤ n) (hn : n < 2 ^ 63) : Ev g (k + 1) env ρ μ (.UnaryOp .Not o pos) (.bool (n == 0)) μ₁ := by
  intro A θ s Q E f S q
  refine wpAny_UnaryOp (h1 A θ s _ E f S fun v θ₁ s₁ l₁ W₁ V₁ => ?_)
  obtain ⟨p, ep, rfl⟩ := V₁.ob_inv
  unfold unaryOp
  refine wpAny_holding (wpAny_bind (acc_truthy f W₁ ep hi hB hL hF h0 hn fun s₂ l₂ W₂ => wpAny_pure ?_))
  have : (!(n != 0)) = (n == 0) := by unfold bne; rw [Bool.not_not]
  rw [this]
  exact q _ θ₁ s₂ (l₁.trans l₂) W₂ (.bool _)
/-- str(x) -/
theorem Bi.str_acc {i : Nat} {kk : Int} {ds : List D} {x : Str} {fS : Addr} (hm : μ[i]? = some (.acc kk ds)) (hS : Meth g "__str__" fS) (hF : Fn g k (.ref fS) [.ob i] μ (.str x) μ) : Bi g (k + 2) μ (.type "str") [.ob i] (.str x) := by
  intro A θ s vs Q E ft W V q
  cases V with
  | cons V r =>
    cases r
    obtain ⟨p, e, rfl⟩ := V.ob_inv
    obtain ⟨vs, m, od, t, mm, zq⟩ := acc_inst W e hm
    have ho := zq.1
    replace zq := zq.2
    have I := zq.1
    replace zq := zq.2
    have hns := zq.1
    replace zq := zq.2
    have hl := zq.1
    replace zq := zq.2
    have hsz := zq.1
    replace zq := zq.2
    have hno := zq.1
    replace zq := zq.2
    have hV := zq.1
    replace zq := zq.2
    have hC := zq
    clear zq
    have f2 : Fit k A.in1.in1 := ft.in1.in1
    refine kso_call (by have := f2.units; lia) W.kin I hS.is hS.isFn (hF _ θ s [.ref p.1] _ E f2 W (.cons (.ob e) .nil) fun v θ' s' l' W' V' => ?_)
    have hθ := th_same W l' W'
    obtain rfl := hθ.symm
    cases V'
    exact q _ s' l' W' (.str _ _)
/-- x.isspace() -/
theorem Ev.isspace {o : Expr} {apos pos : Pos} {x : Str} (h1 : Ev g k env ρ μ o (.str x) μ₁) {pl : Sem Bool}
    (he : eval (.Call (.Attribute o "isspace" apos) [] [] pos) env = (do
      let ov ← eval o env
      standAt apos.atName
      let (f, first) ← holding [ov] (getMethod ov "isspace" pl)
      callWith pos f first (backTo pos (starEach [] env)) []) := by rfl) : Ev g k env ρ μ (.Call (.Attribute o "isspace" apos) [] [] pos) (.bool (Txt.isspace x)) μ₁ := by
  intro A θ s Q E ft S q
  refine MethodCall_ (pl := pl) (h1 A θ s _ E ft S fun v θ₁ s₁ l₁ W₁ V₁ => ?_) he
  cases V₁
  exact GM.isspace (callWith_method0 (SC.isspace (q _ θ₁ s₁ l₁ W₁ (.bool _))))
end
end Mine
end

-- part F27
section
set_option maxRecDepth 100000
set_option exponentiation.threshold 100
namespace Mine
open PySem PySem.Float64

/-- the float n/16 -/
def fl (n : Int) : UInt64 := ofFrac (decide (n < 0)) n.natAbs 16
theorem fl_zero : fl 0 = zero false := by decide +kernel

theorem V_ex {n : Nat} (h : n < 2 ^ 53) : ∃ t, t < infMag ∧ V t = n * 2 ^ 1070 := by
  by_cases h0 : n = 0
  · exact ⟨0, by decide, by rw [V_zero, h0, Nat.zero_mul]⟩
  · have h1 : 2 ^ n.log2 ≤ n := Nat.log2_self_le h0
    have h2 : n < 2 ^ (n.log2 + 1) := Nat.lt_log2_self
    have hl : n.log2 < 53 := (Nat.log2_lt h0).mpr h
    generalize n.log2 = L at h1 h2 hl
    have e52 : (2 : Nat) ^ 52 = 2 ^ L * 2 ^ (52 - L) := by rw [← Nat.pow_add]; congr 1; lia
    have e53 : (2 : Nat) ^ 53 = 2 ^ (L + 1) * 2 ^ (52 - L) := by rw [← Nat.pow_add]; congr 1; lia
    have hp := Nat.two_pow_pos (52 - L)
    have lo : 2 ^ 52 ≤ n * 2 ^ (52 - L) := by rw [e52]; exact Nat.mul_le_mul_right _ h1
    have hi : n * 2 ^ (52 - L) < 2 ^ 53 := by rw [e53]; exact Nat.mul_lt_mul_of_pos_right h2 hp
    refine ⟨(1018 + L) * 2 ^ 52 + n * 2 ^ (52 - L), ?_, ?_⟩
    · unfold infMag; lia
    · rw [V_at (Nat.le_of_lt hi) (.inl lo), Nat.mul_assoc, ← Nat.pow_add]
      have : 52 - L + (1018 + L) = 1070 := by lia
      rw [this]
theorem V_inj {t u : Nat} (h : V t = V u) : t = u := by
  rcases Nat.lt_trichotomy t u with h' | h' | h'
  · have := V_lt h'; lia
  · exact h'
  · have := V_lt h'; lia
theorem dist_self (a : Nat) : dist a a = 0 := by unfold dist; lia
theorem dist_zero {a b : Nat} (h : dist a b ≤ 0) : a = b := by unfold dist at h; lia

theorem right_exact {r : UInt64} {neg : Bool} {W D n : Nat} (h : Right r neg W D) (hD : 0 < D) (hW : W = D * (n * 2 ^ 1070)) (hn : n < 2 ^ 53) : ∃ t, r = pack neg t ∧ t < infMag ∧ V t = n * 2 ^ 1070 := by
  obtain ⟨t, hr, hle, hov, hne⟩ := h
  obtain ⟨u, hu, hv⟩ := V_ex hn
  have hlt : t < infMag := by
    rcases Nat.lt_or_ge t infMag with h' | h'
    · exact h'
    · have ht : t = infMag := Nat.le_antisymm hle h'
      have h1 := hov.mp ht
      exfalso
      have h2 : 2 * W = D * (2 * n * 2 ^ 1070) := by rw [hW]; ac_rfl
      rw [h2] at h1
      have h3 : (2 ^ 54 - 1) * 2 ^ 2045 ≤ 2 * n * 2 ^ 1070 := Nat.le_of_mul_le_mul_left h1 hD
      have h4 : 2 * n * 2 ^ 1070 < 2 ^ 54 * 2 ^ 1070 := Nat.mul_lt_mul_of_pos_right (by lia) (Nat.two_pow_pos _)
      have h5 : 2 ^ 54 * 2 ^ 1070 ≤ (2 ^ 54 - 1) * 2 ^ 2045 := by
        have e : (2 : Nat) ^ 2045 = 2 ^ 975 * 2 ^ 1070 := by rw [← Nat.pow_add]
        rw [e, ← Nat.mul_assoc]
        refine Nat.mul_le_mul_right _ ?_
        have : (2 : Nat) ^ 975 = 2 * 2 ^ 974 := by rw [show 975 = 974 + 1 from rfl, Nat.pow_succ]; lia
        rw [this]
        have hp := Nat.two_pow_pos 974
        generalize (2 : Nat) ^ 974 = y at hp
        have e54 : (2 : Nat) ^ 54 = 18014398509481984 := by decide
        rw [e54]
        lia
      lia
  refine ⟨t, hr, hlt, ?_⟩
  have h1 := (hne hlt u).1
  have hVu : D * V u = W := by rw [hv, hW]
  rw [hVu, dist_self] at h1
  have h2 := dist_zero h1
  rw [hW] at h2
  exact (Nat.eq_of_mul_eq_mul_left hD h2).symm
theorem fl_right (n : Int) : Right (fl n) (decide (n < 0)) (n.natAbs * 2 ^ 1070) 1 := by
  refine ofFrac_right (by decide) ?_ (by decide)
  have : (2 : Nat) ^ 1074 = 2 ^ 1070 * 16 := by rw [show 1074 = 1070 + 4 from rfl, Nat.pow_add]
  rw [this, Nat.mul_one, Nat.mul_assoc]
theorem fl_of_right {r : UInt64} {neg : Bool} {W D : Nat} {n : Int} (h : Right r neg W D) (hneg : neg = decide (n < 0)) (hD : 0 < D) (hW : W = D * (n.natAbs * 2 ^ 1070)) (hn : n.natAbs < 2 ^ 53) : r = fl n := by
  obtain ⟨t, hr, _, hv⟩ := right_exact h hD hW hn
  obtain ⟨u, hu, _, hw⟩ := right_exact (fl_right n) (by decide) (by rw [Nat.one_mul]) hn
  rw [hr, hu, hneg, V_inj (hv.trans hw.symm)]
theorem natAbs_sgn (n : Int) : sgn (decide (n < 0)) n.natAbs = n := by
  unfold sgn
  by_cases h : n < 0
  · rw [decide_eq_true h, if_pos rfl]; lia
  · rw [decide_eq_false h, if_neg (by decide)]; lia
theorem fl_decode {n : Int} (hn : n.natAbs < 2 ^ 53) : ∃ m e, decode (fl n) = .fin (decide (n < 0)) m e ∧ val (fl n) = n * ((2 ^ 1070 : Nat) : Int) := by
  obtain ⟨t, hr, hl, hv⟩ := right_exact (fl_right n) (by decide) (by rw [Nat.one_mul]) hn
  obtain ⟨m, e, hd, _⟩ := decode_pack (decide (n < 0)) hl
  refine ⟨m, e, by rw [hr]; exact hd, ?_⟩
  rw [hr, val_pack _ hl, hv, sgn_mul, natAbs_sgn]
theorem K_pos : (0 : Int) < ((2 ^ 1070 : Nat) : Int) := Int.ofNat_lt.mpr (Nat.two_pow_pos _)
theorem mulK_zero {a : Int} : a * ((2 ^ 1070 : Nat) : Int) = 0 ↔ a = 0 := by
  constructor
  · intro h
    rcases Int.mul_eq_zero.mp h with h | h
    · exact h
    · have := K_pos; lia
  · rintro rfl; exact Int.zero_mul _
theorem mulK_neg {a : Int} : a * ((2 ^ 1070 : Nat) : Int) < 0 ↔ a < 0 := by
  constructor
  · intro h
    by_cases h' : a < 0
    · exact h'
    · have := Int.mul_nonneg (show 0 ≤ a by lia) (Int.le_of_lt K_pos)
      lia
  · intro h; exact Int.mul_neg_of_neg_of_pos h K_pos
theorem mulK_abs {a : Int} : (a * ((2 ^ 1070 : Nat) : Int)).natAbs = a.natAbs * 2 ^ 1070 := by rw [Int.natAbs_mul, Int.natAbs_natCast]

theorem fl_finite {n : Int} (hn : n.natAbs < 2 ^ 53) : isFinite (fl n) = true := by
  obtain ⟨m, e, hd, _⟩ := fl_decode hn
  unfold isFinite; rw [hd]
theorem fl_isZero : isZero (fl 0) = true := by decide +kernel
theorem fl_notZero {n : Int} (h0 : n ≠ 0) (hn : n.natAbs < 2 ^ 53) : isZero (fl n) = false := by
  obtain ⟨m, e, hd, hv⟩ := fl_decode hn
  unfold isZero; rw [hd]
  cases m with
  | zero =>
    exfalso
    rw [val_eq hd] at hv
    have : n * ((2 ^ 1070 : Nat) : Int) = 0 := by rw [← hv, Nat.zero_mul]; unfold sgn; split <;> rfl
    exact h0 (mulK_zero.mp this)
  | succ m => rfl
theorem fl_int {i : Int} (h : (16 * i).natAbs < 2 ^ 53) : ofInt i = fl (16 * i) := by
  refine fl_of_right (ofInt_right i) (decide_eq_decide.mpr (by lia)) (by decide) ?_ h
  have : (2 : Nat) ^ 1074 = 16 * 2 ^ 1070 := by rw [show 1074 = 4 + 1070 from rfl, Nat.pow_add]
  rw [this, Nat.one_mul, Int.natAbs_mul]
  show i.natAbs * (16 * 2 ^ 1070) = 16 * i.natAbs * 2 ^ 1070
  generalize (2 : Nat) ^ 1070 = K
  ac_rfl
theorem fl_add {a b : Int} (ha : a.natAbs < 2 ^ 52) (hb : b.natAbs < 2 ^ 52) : add (fl a) (fl b) = fl (a + b) := by
  obtain ⟨m, e, hx, vx⟩ := fl_decode (n := a) (by lia)
  obtain ⟨k, f, hy, vy⟩ := fl_decode (n := b) (by lia)
  obtain ⟨h1, h2⟩ := add_right hx hy
  rw [vx, vy, ← Int.add_mul] at h1 h2
  by_cases h0 : a + b = 0
  · rw [h1 (mulK_zero.mpr h0), h0, fl_zero]
    congr 1
    by_cases h : a < 0
    · have : ¬ b < 0 := by lia
      rw [decide_eq_false this, Bool.and_false]
    · rw [decide_eq_false h, Bool.false_and]
  · refine fl_of_right (h2 fun z => h0 (mulK_zero.mp z)) (decide_eq_decide.mpr mulK_neg) (by decide) ?_ (by lia)
    rw [mulK_abs, Nat.one_mul]
theorem fl_sub {a b : Int} (ha : a.natAbs < 2 ^ 52) (hb : b.natAbs < 2 ^ 52) : sub (fl a) (fl b) = fl (a - b) := by
  obtain ⟨m, e, hx, vx⟩ := fl_decode (n := a) (by lia)
  obtain ⟨k, f, hy, vy⟩ := fl_decode (n := b) (by lia)
  obtain ⟨h1, h2⟩ := sub_right hx hy
  rw [vx, vy, ← Int.sub_mul] at h1 h2
  by_cases h0 : a - b = 0
  · rw [h1 (mulK_zero.mpr h0), h0, fl_zero]
    congr 1
    have : a = b := by lia
    subst this
    cases decide (a < 0) <;> rfl
  · refine fl_of_right (h2 fun z => h0 (mulK_zero.mp z)) (decide_eq_decide.mpr mulK_neg) (by decide) ?_ (by lia)
    rw [mulK_abs, Nat.one_mul]
/-- a product of two of the same sign -/
theorem fl_mul {a b c : Int} (ha : a.natAbs < 2 ^ 52) (hb : b.natAbs < 2 ^ 52) (hc : c.natAbs < 2 ^ 52) (hs : a < 0 ↔ b < 0) (h : a * b = 16 * c) : mul (fl a) (fl b) = fl c := by
  obtain ⟨m, e, hx, vx⟩ := fl_decode (n := a) (by lia)
  obtain ⟨k, f, hy, vy⟩ := fl_decode (n := b) (by lia)
  have hr := mul_right hx hy
  rw [vx, vy, mulK_abs, mulK_abs] at hr
  have h0 : 0 ≤ a * b := by
    by_cases h1 : a < 0
    · have h2 := hs.mp h1
      exact Int.le_of_lt (Int.mul_pos_of_neg_of_neg h1 h2)
    · exact Int.mul_nonneg (by lia) (by have := mt hs.mpr h1; lia)
  refine fl_of_right hr ?_ (Nat.two_pow_pos _) ?_ (by lia)
  · have : decide (c < 0) = false := decide_eq_false (by lia)
    rw [this, decide_eq_decide.mpr hs]
    cases decide (b < 0) <;> rfl
  · have e1 : a.natAbs * b.natAbs = 16 * c.natAbs := by rw [← Int.natAbs_mul, h, Int.natAbs_mul]; rfl
    have e2 : (2 : Nat) ^ 1074 = 16 * 2 ^ 1070 := by rw [show 1074 = 4 + 1070 from rfl, Nat.pow_add]
    rw [e2]
    generalize (2 : Nat) ^ 1070 = K
    calc a.natAbs * K * (b.natAbs * K) = a.natAbs * b.natAbs * (K * K) := by ac_rfl
      _ = 16 * c.natAbs * (K * K) := by rw [e1]
      _ = 16 * K * (c.natAbs * K) := by ac_rfl
/-- a quotient by a whole number -/
theorem fl_div {a c : Int} {k : Nat} (hk : 0 < k) (hk2 : k < 1000) (ha : a.natAbs < 2 ^ 52) (hc : c.natAbs < 2 ^ 52) (h : a = k * c) : div (fl a) (fl (16 * k)) = fl c := by
  obtain ⟨m, e, hx, vx⟩ := fl_decode (n := a) (by lia)
  obtain ⟨j, f, hy, vy⟩ := fl_decode (n := 16 * (k : Int)) (by lia)
  have hj : j ≠ 0 := by
    intro hj
    have hz := fl_notZero (n := 16 * (k : Int)) (by lia) (by lia)
    unfold isZero at hz
    rw [hy, hj] at hz
    cases hz
  have hr := div_right hx hy hj
  rw [vx, vy, mulK_abs, mulK_abs] at hr
  refine fl_of_right hr ?_ (Nat.mul_pos (by lia) (Nat.two_pow_pos _)) ?_ (by lia)
  · have h1 : decide (16 * (k : Int) < 0) = false := decide_eq_false (by lia)
    have h2 : decide (a < 0) = decide (c < 0) := by
      refine decide_eq_decide.mpr ⟨fun h' => ?_, fun h' => ?_⟩
      · by_cases hc' : c < 0
        · exact hc'
        · have := Int.mul_nonneg (show (0 : Int) ≤ k by lia) (show 0 ≤ c by lia)
          lia
      · rw [h]; exact Int.mul_neg_of_pos_of_neg (by lia) h'
    rw [h1, h2]
    cases decide (c < 0) <;> rfl
  · have e1 : a.natAbs = k * c.natAbs := by rw [h, Int.natAbs_mul]; rfl
    have e3 : (16 * (k : Int)).natAbs = 16 * k := by lia
    have e2 : (2 : Nat) ^ 1074 = 16 * 2 ^ 1070 := by rw [show 1074 = 4 + 1070 from rfl, Nat.pow_add]
    rw [e2, e1, e3]
    generalize (2 : Nat) ^ 1070 = K
    ac_rfl
theorem fl_cmpInt {a i : Int} (ha : a.natAbs < 2 ^ 52) : cmpInt (fl a) i = some (compare a (16 * i)) := by
  obtain ⟨m, e, hx, vx⟩ := fl_decode (n := a) (by lia)
  rw [cmpInt_right hx, vx]
  have e2 : ((2 : Int) ^ 1074) = 16 * ((2 ^ 1070 : Nat) : Int) := by
    have : (2 : Nat) ^ 1074 = 16 * 2 ^ 1070 := by rw [show 1074 = 4 + 1070 from rfl, Nat.pow_add]
    have h2 : ((2 ^ 1074 : Nat) : Int) = (2 : Int) ^ 1074 := by simp
    rw [← h2, this, Int.natCast_mul]; rfl
  rw [e2]
  have hp := K_pos
  generalize ((2 ^ 1070 : Nat) : Int) = K at hp
  have e3 : i * (16 * K) = 16 * i * K := by rw [← Int.mul_assoc, Int.mul_comm i 16]
  rw [e3]
  congr 1
  rcases Int.lt_trichotomy a (16 * i) with h | h | h
  · rw [Int.compare_eq_lt.mpr h, Int.compare_eq_lt.mpr (Int.mul_lt_mul_of_pos_right h hp)]
  · rw [h]; simp
  · rw [Int.compare_eq_gt.mpr h, Int.compare_eq_gt.mpr (Int.mul_lt_mul_of_pos_right h hp)]
end Mine
end

-- part F28
section
set_option maxRecDepth 100000
set_option exponentiation.threshold 100
namespace Mine
open PySem PySem.W PyProof.Rows PySem.Builtin.Math

section
open PySem.Float64
def pls (a : Int) : List UInt64 := if a = 0 then [] else [fl a]
theorem fsum_add {a b : Int} (ha : a.natAbs < 2 ^ 50) (hb : b.natAbs < 2 ^ 50) : fsumAdd (pls a) (fl b) = ([], fl (a + b)) := by
  unfold pls
  by_cases h : a = 0
  · rw [if_pos h, h, Int.zero_add]; rfl
  · rw [if_neg h]
    have key : ∀ x y : Int, x.natAbs < 2 ^ 50 → y.natAbs < 2 ^ 50 → (if isZero (sub (fl y) (sub (add (fl x) (fl y)) (fl x))) = true then ([] : List UInt64) else [sub (fl y) (sub (add (fl x) (fl y)) (fl x))]) = [] ∧ add (fl x) (fl y) = fl (x + y) := by
      intro x y hx hy
      have e1 : add (fl x) (fl y) = fl (x + y) := fl_add (by omega) (by omega)
      have e2 : sub (fl (x + y)) (fl x) = fl y := by
        rw [fl_sub (by omega) (by omega)]; congr 1; lia
      have e3 : sub (fl y) (fl y) = fl 0 := by
        rw [fl_sub (by omega) (by omega)]; congr 1; lia
      rw [e1, e2, e3, fl_isZero]
      exact ⟨rfl, rfl⟩
    unfold fsumAdd
    by_cases hlt : lt (abs (fl b)) (abs (fl a)) = true
    · rw [if_pos hlt]
      have := key a b ha hb
      show (if isZero (sub (fl b) (sub (add (fl a) (fl b)) (fl a))) = true then ([] : List UInt64) else [sub (fl b) (sub (add (fl a) (fl b)) (fl a))], add (fl a) (fl b)) = _
      rw [this.1, this.2]
    · rw [if_neg hlt]
      have := key b a hb ha
      show (if isZero (sub (fl a) (sub (add (fl b) (fl a)) (fl b))) = true then ([] : List UInt64) else [sub (fl a) (sub (add (fl b) (fl a)) (fl b))], add (fl b) (fl a)) = _
      rw [this.1, this.2, Int.add_comm]
theorem fsum_next {a : Int} (ha : a.natAbs < 2 ^ 52) : (if isZero (fl a) = true then ([] : List UInt64) else [] ++ [fl a]) = pls a := by
  unfold pls
  by_cases h : a = 0
  · rw [if_pos h, h, fl_isZero, if_pos rfl]
  · rw [if_neg h, fl_notZero h (by omega)]; rfl
theorem fsum_end (a : Int) : fsumEnd (pls a) = fl a := by
  unfold pls
  by_cases h : a = 0
  · rw [if_pos h, h, fl_zero]; rfl
  · rw [if_neg h]; rfl
end

section
variable {g : G} {k : Nat} {env : Env} {ρ ρ₁ ρ₂ : En} {μ μ₁ μ₂ μ₃ μ₄ : List MO}

abbrev raws (xs : List UInt64) : List Value := xs.map fun x => rawInt x.toNat
theorem un_raw (x : UInt64) : (Int.toNat (x.toNat : Int)).toUInt64 = x := by
  rw [Int.toNat_natCast]; exact UInt64.ofNat_toNat
theorem raws_back (f : Value → UInt64) (pl : List UInt64) (hf : ∀ x : UInt64, f (rawInt x.toNat) = x) : List.map f (raws pl) = pl := by
  show List.map f (List.map _ pl) = pl
  rw [List.map_map]
  calc List.map (f ∘ fun x => rawInt x.toNat) pl = List.map id pl := List.map_congr_left fun x _ => hf x
    _ = pl := List.map_id _
theorem entry_fsum_loop : entryFor table "math.fsum.loop" = some Builtin.«math.fsum.loop» := entryFor_of_fast (by kernel_rfl)
theorem plain_fsum_loop : plainId "math.fsum.loop" = true := by decide +kernel

theorem notSeq {h : Heap} {I a : Addr} {i : Nat} (hI : h.IsListIter I a i) : ∀ o, h.get? I = some o → ¬ ∃ us m, o.data = .seq us m := by
  intro o e ⟨us, m, z⟩
  obtain ⟨o', ho, hc, hd⟩ := hI
  cases (ho).symm.trans e
  cases (hd).symm.trans z
theorem not_over {x : Int} (h : (16 * x).natAbs < 2 ^ 53) : ¬ Flt.Over x := by
  intro ho
  have h1 := Flt.inf_of_over ho
  obtain ⟨m, e, hd, _⟩ := fl_decode h
  rw [fl_int h] at h1
  unfold Float64.isInf at h1
  rw [hd] at h1; cases h1
theorem take_small {ns : List Int} (hsm : ∀ x ∈ ns, x.natAbs < 2 ^ 30) (hln : ns.length ≤ 1000) (i : Nat) : (ns.take i).sum.natAbs ≤ 1000 * 2 ^ 30 := by
  have key : ∀ l : List Int, (∀ x ∈ l, x.natAbs < 2 ^ 30) → l.sum.natAbs ≤ l.length * 2 ^ 30 := by
    intro l
    induction l with
    | nil => intro _; decide
    | cons a r ih =>
      intro h
      have h1 := ih fun x hx => h x (.tail _ hx)
      have h2 := h a (.head _)
      rw [List.sum_cons, List.length_cons, Nat.add_mul]
      omega
  have h1 := key (ns.take i) fun x hx => hsm x (List.mem_of_mem_take hx)
  have h2 : (ns.take i).length ≤ 1000 := by rw [List.length_take]; omega
  exact Nat.le_trans h1 (Nat.mul_le_mul_right _ h2)

theorem fsum_loop {A : Around} {θ : Th} {s₀ : Shared} {a I : Addr} {vs : List Value} {ns : List Int} {n : Nat} {R : Result → Shared → Prop} (ft : Fit k A) (hv : IntsAre vs ns) (eI : s₀.heap.get? I = none) (bI : g.hB.get? I = none) (aI : I ∉ adrs θ)
    (hsm : ∀ x ∈ ns, x.natAbs < 2 ^ 30) (hln : ns.length ≤ 1000)
    (hR : ∀ s' t, Lat g θ s₀ θ s' → Wld g θ μ s' → R (.ok (.ret (.float (fl (16 * ns.sum)) t))) s') :
    ∀ (m i : Nat) (s : Shared) (P Sp : Addr) (c d : Nat), vs.length - i = m → i ≤ vs.length → Lat g θ s₀ θ s → Wld g θ μ s → s.heap.IsListIter I a i → s.heap.get? a = some (lstO vs n) →
      s.heap.get? P = some (tupO (raws (pls (16 * (ns.take i).sum))) c) → s.heap.get? Sp = some (tupO (raws [Float64.zero false, Float64.zero false]) d) → codeAny g.M A (.builtin "math.fsum.loop" ⟨[.ref I, .ref P, .ref Sp], []⟩) R s := by
  intro m
  induction m with
  | zero =>
    intro i s P Sp c d hm hi hL hW hI hl hP hS
    have hin : i = vs.length := by omega
    refine codeAny_builtin entry_fsum_loop ?_
    rw [Around.under_plainId plain_fsum_loop _]
    unfold Builtin.«math.fsum.loop»
    refine wpAny_bind (show wpAny _ _ (seqItems? (.ref P) >>= _) _ _ _ from wpAny_bind (wpAny_seqItems hP rfl (wpAny_pure ?_)))
    refine wpAny_bind (show wpAny _ _ (seqItems? (.ref Sp) >>= _) _ _ _ from wpAny_bind (wpAny_seqItems hS rfl (wpAny_pure ?_)))
    dsimp only [Option.getD_some]
    rw [raws_back, raws_back]
    rotate_left
    · exact fun x => un_raw x
    · exact fun x => un_raw x
    refine wpAny_bind (seq_end ft.handled hI ⟨_, n, hl, rfl⟩ (by rw [hin]; simp) fun h' he => ?_)
    dsimp only
    rw [if_neg (by decide +kernel), fsum_end]
    have hlen : vs.length = ns.length := hv.length
    rw [hin, hlen, List.take_length]
    refine wpAny_bind (wpAny_mkFloat (wpAny_pure ?_))
    have hq : ∀ o, s.heap.get? I = some o → ¬ ∃ us m, o.data = .seq us m := notSeq hI
    exact hR _ _ (hL.iter eI he) (hW.same bI aI hq he)
  | succ m ih =>
    intro i s P Sp c d hm hi hL hW hI hl hP hS
    have hlt : i < vs.length := by omega
    have hlen : vs.length = ns.length := hv.length
    have hq : ∀ o, s.heap.get? I = some o → ¬ ∃ us m, o.data = .seq us m := notSeq hI
    refine codeAny_builtin entry_fsum_loop ?_
    rw [Around.under_plainId plain_fsum_loop _]
    unfold Builtin.«math.fsum.loop»
    refine wpAny_bind (show wpAny _ _ (seqItems? (.ref P) >>= _) _ _ _ from wpAny_bind (wpAny_seqItems hP rfl (wpAny_pure ?_)))
    refine wpAny_bind (show wpAny _ _ (seqItems? (.ref Sp) >>= _) _ _ _ from wpAny_bind (wpAny_seqItems hS rfl (wpAny_pure ?_)))
    dsimp only [Option.getD_some]
    rw [raws_back, raws_back]
    rotate_left
    · exact fun x => un_raw x
    · exact fun x => un_raw x
    obtain ⟨x, t, zq⟩ := hv.at i _ (List.getElem?_eq_getElem hlt)
    have hvx := zq.1
    replace zq := zq.2
    have hx := zq
    clear zq
    have hxm : x ∈ ns := List.mem_of_getElem? hx
    have hxs := hsm x hxm
    refine wpAny_bind (seq_next hI ⟨_, n, hl, rfl⟩ (by rw [List.getElem?_eq_getElem hlt, hvx]) fun h' hI' sb => ?_)
    skip
    refine wpAny_bind (wpAny_holding (Flt.realArg_int ft.handled (fun ho => absurd ho (not_over (by omega))) fun _ => ?_))
    have hps : (16 * (ns.take i).sum).natAbs < 2 ^ 49 := by
      have := take_small hsm hln i
      omega
    rw [fl_int (by omega), fsum_add (by omega) (by omega)]
    dsimp only
    have hsum : 16 * (ns.take i).sum + 16 * x = 16 * (ns.take (i + 1)).sum := by
      rw [List.take_add_one, hx, List.sum_append]
      simp only [Option.toList_some, List.sum_cons, List.sum_nil]; lia
    have hps1 : (16 * (ns.take (i + 1)).sum).natAbs < 2 ^ 49 := by
      have := take_small hsm hln (i + 1)
      omega
    rw [hsum, fl_finite (by omega), if_pos rfl, fsum_next (by omega)]
    refine wpAny_bind (show wpAny _ _ (newTuple (raws (pls (16 * (ns.take (i + 1)).sum)))) _ _ _ from wpAny_newTuple ?_ ?_)
    · have ne : ∀ b o, s.heap.get? b = some o → (∃ us m, o.data = .seq us m) → b ≠ I := fun b o e z w => hq o (w ▸ e) z
      have k1 : ∀ b o, s.heap.get? b = some o → b ≠ I → (h'.push (tupO (raws (pls (16 * (ns.take (i + 1)).sum))) 0)).get? b = some o := fun b o e w => Heap.get?_push_of_some _ (sb.extBut b o w e)
      refine wpAny_pure ⟨plainId_quiet plain_fsum_loop _, ih (i + 1) _ _ _ 0 d (by lia) hlt ?_ ?_ ?_ ?_ ?_ ?_⟩
      · exact (hL.iter (n := s.toks + 1) eI sb.extBut).trans (Lat.push _)
      · exact (hW.same (n := s.toks + 1) bI aI hq sb.extBut).push _
      · obtain ⟨o, zq⟩ := hI'
        have ho := zq.1
        replace zq := zq.2
        have hc := zq.1
        replace zq := zq.2
        have hd := zq
        clear zq
        exact ⟨o, Heap.get?_push_of_some _ ho, hc, hd⟩
      · exact k1 _ _ hl (ne _ _ hl ⟨_, _, rfl⟩)
      · exact Heap.get?_push_size _ rfl
      · exact k1 _ _ hS (ne _ _ hS ⟨_, _, rfl⟩)
    · unfold pls; split <;> simp [sizeLine_eq]
end
end Mine
end

-- part F29
section
set_option maxRecDepth 100000
set_option exponentiation.threshold 100
namespace Mine
open PySem PySem.W PyProof.Rows PySem.Builtin.Math

section
variable {g : G} {k : Nat} {env : Env} {ρ ρ₁ ρ₂ : En} {μ μ₁ μ₂ μ₃ μ₄ : List MO}
theorem kind_fsum : builtinKind "math.fsum" = none := by decide +kernel
theorem plain_fsum : plainId "math.fsum" = true := by decide +kernel
theorem entry_fsum : entryFor table "math.fsum" = some Builtin.«math.fsum» := entryFor_of_fast (by kernel_rfl)
theorem args_fsum (a : Value) : argsOk "math.fsum" ⟨[a], []⟩ := by unfold argsOk; kernel_rfl

theorem Bi.fsum {ns : List Int} (hsm : ∀ x ∈ ns, x.natAbs < 2 ^ 30) (hln : ns.length ≤ 1000) : Bi g k μ (.builtin "math.fsum") [.list (iL ns)] (.flt (fl (16 * ns.sum))) := by
  intro A θ s us Q E ft W V q
  cases V with
  | cons V r =>
    cases r
    obtain ⟨a, vs, n, rfl, e, nb, r⟩ := V.list_inv
    have hv : IntsAre vs ns := r.ints
    refine call_function_tree kind_fsum plain_fsum entry_fsum (args_fsum _) ?_
    unfold Builtin.«math.fsum»
    refine wpAny_bind (m := oneArg "math.fsum" _) (wpAny_pure ?_)
    refine wpAny_bind (wpAny_pyIter_list ⟨_, e, rfl, _, rfl⟩ ?_)
    generalize hI : s.heap.objs.size = I
    have eI : s.heap.get? I = none := hI ▸ get_size _
    generalize hs₁ : ({ s with heap := s.heap.push { cls := .type "list_iterator", data := .fields #[.ref a, .int 0 0] } } : Shared) = s₁
    have k₁ : ∀ b o, s.heap.get? b = some o → s₁.heap.get? b = some o := fun b o e => by rw [← hs₁]; exact Heap.get?_push_of_some _ e
    have it₁ : s₁.heap.IsListIter I a 0 := by rw [← hs₁, ← hI]; exact ⟨_, Heap.get?_push_size _ rfl, rfl, rfl⟩
    have W₁ : Wld g θ μ s₁ := W.keeps k₁ (by rw [← hs₁]; exact W.gens) (by rw [← hs₁])
    refine wpAny_bind (show wpAny _ _ (newTuple (raws [])) _ _ _ from wpAny_newTuple ?_ (Nat.zero_le _))
    refine wpAny_bind (show wpAny _ _ (newTuple (raws [Float64.zero false, Float64.zero false])) _ _ _ from wpAny_newTuple ?_ (by decide))
    refine wpAny_pure ⟨plainId_quiet plain_fsum_loop _, fsum_loop (g := g) (μ := μ) (θ := θ) (s₀ := s) (a := a) (n := n) ft hv eI (fresh_base W eI) (fresh_adrs W eI) hsm hln (fun s' t l' W' => ?_) vs.length 0 _ _ _ 0 0 rfl (Nat.zero_le _) ?_ ?_ ?_ ?_ ?_ ?_⟩
    · exact q _ s' l' W' (.flt _ _)
    · exact ((Lat.ofKeeps k₁).trans (Lat.push _)).trans (Lat.push _)
    · exact (W₁.push _).push _
    · obtain ⟨o, zq⟩ := it₁
      have ho := zq.1
      replace zq := zq.2
      have hc := zq.1
      replace zq := zq.2
      have hd := zq
      clear zq
      exact ⟨o, Heap.get?_push_of_some _ (Heap.get?_push_of_some _ ho), hc, hd⟩
    · exact Heap.get?_push_of_some _ (Heap.get?_push_of_some _ (k₁ _ _ e))
    · exact Heap.get?_push_of_some _ (Heap.get?_push_size _ rfl)
    · exact Heap.get?_push_size _ rfl

/-- a built-in that a module's name holds -/
theorem Ev.callG {x : Str} {np pos : Pos} {e : Expr} {es : List Expr} {ds : List D} {d : D} {id : String} (hk : env.kindOf x = some .globalImplicit) (hm : g.mg x = some (.builtin id)) (h1 : Evs g k env ρ μ (e :: es) ds μ₁) (h2 : Bi g k μ₁ (.builtin id) ds d)
    (hd : (x == ("__debug__" : Str)) = false := by decide) (hs : starEach (e :: es) env = (false, eval e env) :: starEach es env := by rfl) (hp : ((starEach es env).any (·.1)) = false := by rfl) :
    Ev g k env ρ μ (.Call (.Name x np) (e :: es) [] pos) d μ₁ := by
  intro A θ s Q E f S q
  refine wpAny_Call_NameR (global_own S hk hm hd ?_)
  refine Calls.callWith_builtin (by rw [hs]; exact plain_backTo (l := (false, eval e env) :: starEach es env) hp) ?_
  have hb' : backTo pos (starEach (e :: es) env) = (false, eval e env) :: backTo pos (starEach es env) := by rw [hs]; rfl
  rw [hb']
  refine Calls.evalArgs_plain ?_
  rw [← hb']
  exact h1 A θ s pos _ E f S fun vs θ₁ s₁ l₁ W₁ V₁ => h2 A θ₁ s₁ vs Q E f W₁ V₁ fun v s' l' W' V' => q v θ₁ s' (l₁.trans l') W' V'

theorem not_inf {x : Int} (h : (16 * x).natAbs < 2 ^ 53) : ¬ Float64.isInf (Float64.ofInt x) = true := by
  intro h1
  obtain ⟨m, e, hd, _⟩ := fl_decode h
  rw [fl_int h] at h1
  unfold Float64.isInf at h1
  rw [hd] at h1; cases h1
theorem not_zero {x : Int} (h0 : x ≠ 0) (h : (16 * x).natAbs < 2 ^ 53) : ¬ Float64.isZero (Float64.ofInt x) = true := by
  rw [fl_int h, fl_notZero (by lia) h]; decide

theorem Op.fdiv {a c : Int} {n : Nat} (hn : 0 < n) (hn2 : n < 1000) (ha : a.natAbs < 2 ^ 52) (hc : c.natAbs < 2 ^ 52) (h : a = n * c) : Op g k (.flt (fl c)) (binaryOp .Div) (.flt (fl a)) (.int n) := by
  intro A θ μ s va vb Q E ft W V1 V2 q
  cases V1; cases V2
  refine AutoFloatOps.truediv_fi_2 (not_inf (by lia)) (not_zero (by lia) (by lia)) ?_
  rw [fl_int (by lia), fl_div hn hn2 ha hc h]
  exact q _ _ (Lat.refl g θ s).toks (W.tok _) (.flt _ _)
theorem Op.fmul {n a : Int} (hn : n.natAbs < 2 ^ 20) (ha : a.natAbs < 2 ^ 30) (hn0 : 0 ≤ n) (ha0 : 0 ≤ a) : Op g k (.flt (fl (n * a))) (binaryOp .Mult) (.int n) (.flt (fl a)) := by
  intro A θ μ s va vb Q E ft W V1 V2 q
  cases V1; cases V2
  refine AutoFloatOps.mul_if_1 (not_inf (by lia)) ?_
  have hb : (n * a).natAbs < 2 ^ 52 := by
    rw [Int.natAbs_mul]
    have := Nat.mul_lt_mul'' hn ha
    rw [← Nat.pow_add] at this
    exact Nat.lt_of_lt_of_le this (Nat.pow_le_pow_right (by decide) (by decide))
  rw [fl_int (by lia), fl_mul (by lia) (by lia) hb (by lia) (Int.mul_assoc ..)]
  exact q _ _ (Lat.refl g θ s).toks (W.tok _) (.flt _ _)
theorem Op.fne {a n : Int} (ha : a.natAbs < 2 ^ 52) : Op g k (.bool (a != 16 * n)) (compareOp .NotEq) (.flt (fl a)) (.int n) := by
  intro A θ μ s va vb Q E ft W V1 V2 q
  cases V1; cases V2
  refine ne_fi ?_
  rw [fl_cmpInt ha]
  have : (some (compare a (16 * n)) != some Ordering.eq) = (a != 16 * n) := by
    by_cases h : a = 16 * n
    · rw [h]; simp
    · have h1 : (a != 16 * n) = true := by simpa using h
      rw [h1]
      have h2 : compare a (16 * n) ≠ .eq := fun z => h (Int.compare_eq_eq.mp z)
      simpa using h2
  rw [this]
  exact q _ _ (.refl ..) W (.bool _)
end
end Mine
end

-- part F30
section
set_option maxRecDepth 100000
namespace Mine
open PySem PySem.W PyProof.Rows

section
variable {g : G} {k : Nat} {env : Env} {ρ ρ₁ ρ₂ : En} {μ μ₁ μ₂ μ₃ μ₄ : List MO}

/-- a generator over a list that has not begun; it leans on nothing of `ex` -/
structure GenL (g : G) (A : Around) (θ : Th) (μ : List MO) (ex : List Addr) (s₀ : Shared) (a C I : Addr) (gi : Nat) (fp : List Addr) (n : Nat) (F : Nat → Value → Prop) (s : Shared) : Prop where
  W : Wld g θ μ s
  L : Lat g θ s₀ θ s
  fresh : s₀.heap.get? a = none ∧ s₀.heap.get? C = none ∧ s₀.heap.get? I = none
  nseq : ∀ b ∈ [C, I], ∀ o, s.heap.get? b = some o → ¬ ∃ vs n, o.data = .seq vs n
  walks : WalksS g.prog g.w A.in4 a (a :: C :: fp) [C, I] (GenOnlyQ gi) (passing (fun _ => true) n 0).length (fun j y => ∃ i, (passing (fun _ => true) n 0)[j]? = some i ∧ F i y) (GenAt g.prog g.w A.in4 a gi C fp [I] (fun _ => true) n F)
  st : GenAt g.prog g.w A.in4 a gi C fp [I] (fun _ => true) n F 0 s
  lt : ∀ b ∈ a :: C :: fp, b < s.heap.objs.size
  exc : ∀ b ∈ fp, b ∉ ex
  gsz : gi = s₀.gens.size ∧ s.gens.size = gi + 1 ∧ ∀ j, j < gi → s.gens[j]? = s₀.gens[j]?
  keepNT : ∀ b o, b ∉ g.tabs → s₀.heap.get? b = some o → s.heap.get? b = some o
  live : ∀ b ∈ [a, C, I], ∃ o, s.heap.get? b = some o
  ltC : ∀ b ∈ fp, b < C
  Clt : C < a
  Iin : I ∈ fp
  new : (s₀.heap.objs.size : Nat) ≤ I

theorem GenAt.at {prog : Program} {w : World} {A : Around} {a : Addr} {gi : Nat} {C : Addr} {fp wr : List Addr} {pz : Nat → Bool} {n₀ : Nat} {F : Nat → Value → Prop} {j : Nat} {s s' : Shared} (st : GenAt prog w A a gi C fp wr pz n₀ F j s) (hcs : cStatics ∈ fp)
    (hk : ∀ b ∈ a :: C :: fp, ∀ o, s.heap.get? b = some o → s'.heap.get? b = some o) (hg : s'.gens[gi]? = s.gens[gi]?) : GenAt prog w A a gi C fp wr pz n₀ F j s' :=
  ⟨let ⟨o, nm, qn, ho, r⟩ := st.1; ⟨o, nm, qn, hk a (List.mem_cons_self ..) o ho, r⟩,
   (let ⟨mc, hns, hnn⟩ := st.2.1; ⟨mc, hns.at' fun o e => hk cStatics (List.mem_cons_of_mem _ (List.mem_cons_of_mem _ hcs)) o e, hnn⟩),
   let ⟨gs, hgs, hgo⟩ := st.2.2; ⟨gs, hg.trans hgs, fun s'' hal => hgo s'' fun b hb o e => hal b hb o (hk b (List.mem_cons_of_mem _ hb) o e)⟩⟩

/-- a generator expression over a list of ints, one free name -/
theorem gen_list {A : Around} {θ : Th} {s : Shared} {ns : List Int} {f : Int → D} {elt : Expr} {xa xf x : Str} {pa xp pos : Pos} {scope : Scope} {c : Addr} {bf : UInt64} {ex : List Addr} {Q : Value → Shared → Prop} {E : Value → Shared → Prop}
    (hG : GenDef g env.code) (ft : Fit (k + 1) A) (S : Sta g env θ ρ μ s) (hx : ρ.lookup x = some (.list (iL ns))) (hxk : env.kindOf x = some .local) (hxd : (x == ("__debug__" : Str)) = false)
    (hco : scope.isCoroutine = false) (hclos : closureFor scope env = pure [(xf, c)]) (hcell : ∀ y ∈ scope.names, y.2 ≠ .cell) (h0 : scope.names.lookup (".0" : Str) = some NameKind.local) (hkind : scope.kind = .function)
    (hxa : scope.names.lookup xa = some .local) (hxf : scope.names.lookup xf = some .free) (hab : xf ≠ xa) (hcx : env.cells.lookup xf = some c) (hfx : ρ.lookup xf = some (.flt bf))
    (helt : ∀ n ∈ ns, ElV g [(xf, c)] scope [(xa, .int n), (xf, .flt bf)] elt (f n))
    (exG : mainGlobals ∉ ex ∧ builtinsNs ∉ ex ∧ cStatics ∉ ex ∧ c ∉ ex) (exS : ∀ b o, b ∈ ex → s.heap.get? b = some o → ¬ ∃ vs n, o.data = .seq vs n) (exN : ∀ b ∈ ex, s.heap.get? b ≠ none)
    (q : ∀ a C I gi fp s', GenL g A θ μ ex s a C I gi fp ns.length (fun j y => ∃ n, ns[j]? = some n ∧ Atom y (f n)) s' → cStatics ∈ fp → Q (.ref a) s')
    (hs : ∀ y, genFold (.Name x xp) env y = pure y := by intro _; rfl) :
    wpAny g.M A (eval (.GeneratorExp elt [⟨.Name xa pa, .Name x xp, [], 0⟩] scope pos) env) Q E s := by
  have W₁ := S.W
  obtain ⟨m, hn, hm⟩ := S.F.locals
  obtain ⟨v, zq⟩ := hm x _ hx hxk
  have hv := zq.1
  replace zq := zq.2
  have V₁ := zq
  clear zq
  refine wpAny_GeneratorExp_make hco hclos hcell h0 hkind (by have := ft.depth; lia) (wpAny_Name (wpAny_loadName_local S.F.kind hxk hn hv ?_) hxd) hs
  obtain ⟨l, vs, n, rfl, zq⟩ := V₁.list_inv
  have ho := zq.1
  replace zq := zq.2
  have nb := zq.1
  replace zq := zq.2
  have hV := zq
  clear zq
  have hvl : vs.length = ns.length := by have := hV.length; simpa using this
  have hlx : l ∉ ex := fun h => exS l _ h ho ⟨_, _, rfl⟩
  have hlt' : l ∉ g.tabs := fun h => nb (List.mem_append.mpr (.inl h))
  refine wpAny_pyIter_list ⟨_, ho, rfl, _, rfl⟩ ?_
  generalize hI : s.heap.objs.size = I
  have eI : s.heap.get? I = none := hI ▸ get_size _
  generalize hs₂ : ({ s with heap := s.heap.push { cls := .type "list_iterator", data := .fields #[.ref l, .int 0 0] } } : Shared) = s₂
  have k₂ : ∀ b o, s.heap.get? b = some o → s₂.heap.get? b = some o := fun b o e => by rw [← hs₂]; exact Heap.get?_push_of_some _ e
  have W₂ : Wld g θ μ s₂ := W₁.keeps k₂ (by rw [← hs₂]; exact W₁.gens) (by rw [← hs₂])
  have it₂ : s₂.heap.get? I = some { cls := .type "list_iterator", data := .fields #[.ref l, .int 0 0] } := by rw [← hs₂, ← hI]; exact Heap.get?_push_size _ rfl
  have gn2 : s₂.gens = s.gens := by rw [← hs₂]
  refine ⟨W₂.lim, gen_code hG W₂ fun code s₃ k₃ t₃ g₃ o₃ => ?_⟩
  obtain ⟨W₃, L₃⟩ := W₂.gen k₃ t₃ (by rw [g₃]; exact W₂.gens) o₃
  have L₁₃ : Lat g θ s θ s₃ := (Lat.ofKeeps k₂).trans L₃
  obtain ⟨bm, ob, zq⟩ := W₃.gd.bmain
  have b1 := zq.1
  replace zq := zq.2
  have b2 := zq.1
  replace zq := zq.2
  have b3 := zq.1
  replace zq := zq.2
  have b4 := zq.1
  replace zq := zq.2
  have b5 := zq.1
  replace zq := zq.2
  have b6 := zq.1
  replace zq := zq.2
  have b7 := zq
  clear zq
  refine wpAny_builtinsFor (by rw [S.F.glob.1]; exact W₃.gl) b1 b2 (W₃.base bm ob b7 b3) b4 b5 b6 ?_
  generalize hC' : s₃.heap.objs.size = C
  intro h' hn' hs'
  have hIt : I ∉ g.tabs := fun h => by
    obtain ⟨o, e⟩ := W₁.gd.low I h
    exact nomatch (fresh_base W₁ eI).symm.trans e
  have it₃ := k₃ I _ hIt it₂
  have ho₃ := k₃ l _ hlt' (k₂ _ _ ho)
  have eC : s₃.heap.get? C = none := hC' ▸ get_size _
  have kC : ∀ b o, s₃.heap.get? b = some o → h'.get? b = some o := fun b o e => hs'.extBut b o (fun z => by rw [z, eC] at e; cases e) (Heap.get?_push_of_some _ e)
  have szh : h'.objs.size = C + 1 := by rw [hs'.1, Heap.size_push, hC']
  generalize hgn : ({ cls := .type "generator", data := .fields #[.int s₃.gens.size 0, .str "<genexpr>" (s₃.toks + 1), .str (env.qual ++ "<genexpr>") (s₃.toks + 1 + 1)] } : Obj) = og
  have k₅ : ∀ b o, s₃.heap.get? b = some o → (h'.push og).get? b = some o := fun b o e => Heap.get?_push_of_some _ (kC b o e)
  have hhA : A.in4.handled = none := ft.handled
  let fp : List Addr := (List.range C).filter fun b => decide (b ∉ ex)
  have fpm : ∀ {b : Addr}, b ∈ fp ↔ b < C ∧ b ∉ ex := fun {b} => by
    simp only [fp, List.mem_filter, List.mem_range, decide_eq_true_eq]
  have memC : ∀ {b : Addr} {o : Obj}, s₃.heap.get? b = some o → b ∉ ex → b ∈ fp := fun e hx => fpm.mpr ⟨by rw [← hC']; exact Heap.lt_size e, hx⟩
  have hlI : l ≠ I := fun z => by rw [z, eI] at ho; cases ho
  have hIx : I ∉ ex := fun h => exN I h eI
  have hcsC : cStatics < C := by rw [← hC']; exact W₃.room
  have hcs : cStatics ∈ fp := fpm.mpr ⟨hcsC, exG.2.2.1⟩
  have hcsI : cStatics ≠ I := fun z => by
    obtain ⟨_, ⟨o, _, _, e, _⟩, _⟩ := W₁.lim
    rw [z, eI] at e; cases e
  have W₀ : ∀ A' : Around, A'.handled = none → Walks g.prog g.w A' I fp [I] vs.length (fun i v => vs[i]? = some v) (ItSt s₃.heap fp I l) :=
    fun A' hA => walks1 hA (memC it₃ hIx) ⟨_, _, ho₃, rfl⟩ (memC ho₃ hlx) hlI
  have hCf : C ∉ fp := fun hm => Nat.lt_irrefl _ (fpm.mp hm).1
  have hq : QuietGenD g.prog g.w (genEnv scope [(xf, c)] C code builtinsNs env) xa [] elt fp [I] (fun i v => vs[i]? = some v) (fun _ => true) (fun j y => ∃ n, ns[j]? = some n ∧ Atom y (f n)) (h'.push og) (A.in4.depth + 1) (A.in4.units + 4) := by
    refine ⟨fun A' E' i v s₂ m₂ _ _ _ _ _ _ _ => wpAny_pure ⟨rfl, s₂.heap, s₂.toks, rfl, fun _ _ e => e⟩, fun A' E' j v sx m₂ hA _ hu hP _ hn₂ hma hkx => ?_⟩
    have kx : ∀ b o, b ≠ I → b ∉ ex → s₃.heap.get? b = some o → sx.heap.get? b = some o := fun b o hb hx e => hkx b (memC e hx) (fun h => hb (List.mem_singleton.mp h)) o (k₅ b o e)
    obtain ⟨d, zq⟩ := hV.get' hP
    have hd := zq.1
    replace zq := zq.2
    have V := zq
    clear zq
    rw [iL, List.getElem?_map, Option.map_eq_some_iff] at hd
    obtain ⟨qq, hqq, rfl⟩ := hd
    have hm3 := List.mem_of_getElem? hqq
    have hmI : mainGlobals ≠ I := fun z => by
      obtain ⟨o, _, _, e, _⟩ := W₁.gl
      rw [z, eI] at e; cases e
    have hbI : builtinsNs ≠ I := fun z => by
      obtain ⟨o, _, _, e, _⟩ := W₁.bi
      rw [z, eI] at e; cases e
    refine wpAny_mono (helt qq hm3 (genEnv scope [(xf, c)] C code builtinsNs env) A' E' sx hA ?_ ⟨hkind, rfl, rfl, ⟨S.F.glob.1, rfl⟩, W₃.gl.at' fun o e => kx _ o hmI exG.1 e, W₃.bi.at' fun o e => kx _ o hbI exG.2.1 e, ?_, ⟨m₂, hn₂, fun y d hy hky => ?_⟩, fun y c' d hc hy => ?_⟩) (fun y s' hy => ⟨⟨qq, hqq, hy.1⟩, hy.2⟩) fun _ _ z => z
    · have := ft.units
      have : A.in4.units = A.units + 4 := rfl
      lia
    · obtain ⟨mc, hc1, hc2⟩ := W₃.lim
      exact ⟨mc, hc1.at' fun o e => kx _ o hcsI exG.2.2.1 e, hc2⟩
    · rw [List.lookup_cons] at hy
      by_cases hz : y = xa
      · subst hz
        rw [beq_self_eq_true] at hy
        cases hy
        exact ⟨v, hma, V.atomI⟩
      · have hz' : (y == xa) = false := by simpa using hz
        rw [hz', List.lookup_cons] at hy
        by_cases hz2 : y = xf
        · subst hz2
          have : scope.names.lookup y = some .local := hky
          exact nomatch (hxf).symm.trans this
        · have hz2' : (y == xf) = false := by simpa using hz2
          rw [hz2'] at hy; cases hy
    · rw [List.lookup_cons] at hc
      by_cases hz2 : y = xf
      · subst hz2
        rw [beq_self_eq_true] at hc
        cases hc
        have hz' : (y == xa) = false := by simpa using hab
        rw [List.lookup_cons, hz'] at hy
        simp only [List.lookup_cons, beq_self_eq_true] at hy
        cases hy
        obtain ⟨u, ⟨o, hoc, hdc⟩, U⟩ := S.F.cval y c _ hcx hfx
        have hcI : c ≠ I := fun z => by rw [z, eI] at hoc; cases hoc
        refine ⟨u, ⟨o, kx c o hcI exG.2.2.2 (k₃ c o (S.F.newer.2 c ⟨y, hcx⟩) (k₂ c o hoc)), hdc⟩, ?_⟩
        cases U
        exact .inr (.inr ⟨_, _, rfl, rfl⟩)
      · have hz2' : (y == xf) = false := by simpa using hz2
        rw [hz2'] at hc; cases hc
  have haC : h'.objs.size ≠ C := by rw [szh]; exact Nat.succ_ne_self _
  have haf : h'.objs.size ∉ fp := fun hm => by
    have h1 : (h'.objs.size : Nat) < C := (fpm.mp hm).1
    lia
  have k5 : ∀ b o, s₃.heap.get? b = some o → (h'.push og).get? b = some o := k₅
  generalize hcd : Code.compStart (.GeneratorExp elt [⟨.Name xa pa, .Name x xp, [], 0⟩] scope pos) 0 (.ref I) .none (genEnv scope [(xf, c)] C code builtinsNs env) = cd0
  generalize hs5 : ({ s₃ with gens := s₃.gens.push (.fresh cd0), toks := s₃.toks + 1 + 1 + 1, heap := h'.push og } : Shared) = s₅
  have hp5 : s₅.heap = h'.push og := by rw [← hs5]
  have kk5 : ∀ b o, s₃.heap.get? b = some o → s₅.heap.get? b = some o := fun b o e => by rw [hp5]; exact k₅ b o e
  have W₅ : Wld g θ μ s₅ := W₃.keeps kk5 (by rw [← hs5]; exact W₃.gens.push rfl) (by rw [← hs5])
  have eA : s.heap.get? h'.objs.size = none := by
    cases q : s.heap.get? h'.objs.size with
    | none => rfl
    | some o =>
      obtain ⟨o', e'⟩ := L₁₃.alive _ o q
      have hlt : (h'.objs.size : Nat) < C := hC' ▸ Heap.lt_size e'
      lia
  have eC1 : s.heap.get? C = none := by
    cases q : s.heap.get? C with
    | none => rfl
    | some o => obtain ⟨o', e'⟩ := L₁₃.alive _ o q; rw [eC] at e'; cases e'
  have G0 : GenAt g.prog g.w A.in4 h'.objs.size s₃.gens.size C fp [I] (fun _ => true) ns.length (fun j y => ∃ n, ns[j]? = some n ∧ Atom y (f n)) 0 s₅ := by
    rw [← hvl]
    refine GenAt.freshD (A := A.in4) (cenv := genEnv scope [(xf, c)] C code builtinsNs env) (m := fun y => if y = ".0" then some (.ref I) else none) (P := fun i v => vs[i]? = some v)
      (elt := elt) (iter := .Name x xp) (px := pa) (scope := scope) (pos := pos) (ifs := []) hhA W₀ (fun _ => true) _ hxa (by simp [genEnv, hkind]) hco hCf (by rw [hp5]; exact hq) ?_ ?_ ?_ ?_ W₅.lim
    · rw [hp5, ← hgn]; exact ⟨_, _, _, Heap.get?_push_size _ rfl, rfl, rfl, rfl⟩
    · rw [← hs5, ← hcd]; exact Array.getElem?_push_size ..
    · exact ⟨⟨_, kk5 _ _ it₃, rfl, rfl⟩, fun b hb hbI o e => kk5 b o e⟩
    · rw [hp5]; exact hn'.push _
  have gens5 : s₃.gens.size = s.gens.size ∧ s₅.gens.size = s₃.gens.size + 1 ∧ ∀ j, j < s₃.gens.size → s₅.gens[j]? = s.gens[j]? := by
    have e1 : s₃.gens = s.gens := g₃.trans gn2
    refine ⟨by rw [e1], by rw [← hs5]; simp, fun j hj => ?_⟩
    rw [← hs5, ← e1]
    exact Array.getElem?_push_lt hj |>.trans (Array.getElem?_eq_getElem hj).symm
  have fin := q h'.objs.size C I s₃.gens.size fp s₅ ⟨W₅, L₁₃.trans (.ofKeeps kk5), ⟨eA, eC1, eI⟩, fun b hb o e => ?_, ?_, G0, ?_, fun b hb => (fpm.mp hb).2, gens5, fun b o hb e => kk5 b o (k₃ b o hb (k₂ b o e)), ?_, fun b hb => (fpm.mp hb).1, (by lia : (C : Nat) < h'.objs.size), memC it₃ hIx, Nat.le_of_eq hI⟩ hcs
  · exact fin
  · rintro ⟨us, mm, z⟩
    rcases List.mem_cons.mp hb with zr | hb
    · obtain rfl := zr.symm
      obtain ⟨o', es, epp, e', e2, _⟩ := hn'.push og
      rw [hp5, e'] at e; cases e; cases (e2).symm.trans z
    · rw [List.mem_singleton.mp hb, kk5 _ _ it₃] at e
      cases e; cases z
  · exact WalksS.genexpQ (A := A.in4) hhA _ _ _ _ [I] (fun _ => true) ns.length _ haC haf (fun b hb => by rw [List.mem_singleton.mp hb]; exact memC it₃ hIx) (by have := ft.depth; show A.depth < _; lia) hcs (Nat.ne_of_lt hcsC) (fun hm => hcsI (List.mem_singleton.mp hm))
  · intro b hb
    rw [hp5, Heap.size_push]
    rcases List.mem_cons.mp hb with rfl | hb
    · exact Nat.lt_succ_self _
    · rcases List.mem_cons.mp hb with zr | hb
      · obtain rfl := zr.symm
        rw [szh]; exact Nat.lt_succ_of_lt (Nat.lt_succ_self _)
      · have := (fpm.mp hb).1
        rw [szh]; exact Nat.lt_succ_of_lt (Nat.lt_succ_of_lt this)
  · intro b hb
    rw [hp5]
    rcases List.mem_cons.mp hb with rfl | hb
    · exact ⟨og, Heap.get?_push_size _ (by rw [← hgn]; rfl)⟩
    · rcases List.mem_cons.mp hb with zr | hb
      · obtain rfl := zr.symm
        obtain ⟨o', es, epp, e', e2, _⟩ := hn'.push og
        exact ⟨o', e'⟩
      · rw [List.mem_singleton.mp hb]; exact ⟨_, k₅ _ _ it₃⟩
end
end Mine
end

-- part F31
section
set_option maxRecDepth 100000
set_option exponentiation.threshold 100
namespace Mine
open PySem PySem.W PyProof.Rows

section
open PySem.Float64
theorem fl_fma {a b c : Int} (ha : a.natAbs < 2 ^ 52) (hb : b.natAbs < 2 ^ 52) (hc : c.natAbs < 2 ^ 52) (hs : a < 0 ↔ b < 0) (h : a * b = 16 * c) : fma (fl a) (fl b) (neg (fl c)) = fl 0 := by
  obtain ⟨m, e, hx, vx⟩ := fl_decode (n := a) (by omega)
  obtain ⟨k, f, hy, vy⟩ := fl_decode (n := b) (by omega)
  obtain ⟨n, i, hz, vz⟩ := fl_decode (n := c) (by omega)
  have hw := neg_decode hz
  have he := decode_ge hx
  have hf := decode_ge hy
  have hi := decode_ge hz
  have h0 : 0 ≤ a * b := by
    by_cases h1 : a < 0
    · exact Int.le_of_lt (Int.mul_pos_of_neg_of_neg h1 (hs.mp h1))
    · exact Int.mul_nonneg (by omega) (by have := mt hs.mpr h1; omega)
  have hc0 : ¬ c < 0 := by omega
  rw [decide_eq_false hc0] at hw hz
  have hsab : decide (a < 0) = decide (b < 0) := decide_eq_decide.mpr hs
  have nx : m * 2 ^ (e + 1074).toNat = a.natAbs * 2 ^ 1070 := by rw [← val_natAbs hx, vx, mulK_abs]
  have ny : k * 2 ^ (f + 1074).toNat = b.natAbs * 2 ^ 1070 := by rw [← val_natAbs hy, vy, mulK_abs]
  have nz : n * 2 ^ (i + 1074).toNat = c.natAbs * 2 ^ 1070 := by rw [← val_natAbs hz, vz, mulK_abs]
  have hab : a.natAbs * b.natAbs = 16 * c.natAbs := by rw [← Int.natAbs_mul, h, Int.natAbs_mul]; rfl
  have e16 : (2 : Nat) ^ 1074 = 16 * 2 ^ 1070 := by rw [show 1074 = 4 + 1070 from rfl, Nat.pow_add]
  generalize hh : min (e + f) i = g
  have key : m * k * 2 ^ (e + f - g).toNat = n * 2 ^ (i - g).toNat := by
    refine Nat.eq_of_mul_eq_mul_right (Nat.two_pow_pos (g + 2148).toNat) ?_
    have e1 : (e + f - g).toNat + (g + 2148).toNat = (e + 1074).toNat + (f + 1074).toNat := by omega
    have e2 : (i - g).toNat + (g + 2148).toNat = (i + 1074).toNat + 1074 := by omega
    rw [Nat.mul_assoc (m * k), ← Nat.pow_add, e1, Nat.mul_assoc n, ← Nat.pow_add, e2, Nat.pow_add, Nat.pow_add, e16]
    calc m * k * (2 ^ (e + 1074).toNat * 2 ^ (f + 1074).toNat) = (m * 2 ^ (e + 1074).toNat) * (k * 2 ^ (f + 1074).toNat) := by ac_rfl
      _ = a.natAbs * b.natAbs * (2 ^ 1070 * 2 ^ 1070) := by rw [nx, ny]; ac_rfl
      _ = (c.natAbs * 2 ^ 1070) * (16 * 2 ^ 1070) := by rw [hab]; ac_rfl
      _ = n * (2 ^ (i + 1074).toNat * (16 * 2 ^ 1070)) := by rw [← nz]; ac_rfl
  have hfm : fma (fl a) (fl b) (neg (fl c)) = (if sgn (decide (a < 0) != decide (b < 0)) (m * k * 2 ^ (e + f - min (e + f) i).toNat) + sgn (!false) (n * 2 ^ (i - min (e + f) i).toNat) == 0 then zero (if m * k == 0 && n == 0 then (decide (a < 0) != decide (b < 0)) && !false else false)
      else ofBin (sgn (decide (a < 0) != decide (b < 0)) (m * k * 2 ^ (e + f - min (e + f) i).toNat) + sgn (!false) (n * 2 ^ (i - min (e + f) i).toNat) < 0) (sgn (decide (a < 0) != decide (b < 0)) (m * k * 2 ^ (e + f - min (e + f) i).toNat) + sgn (!false) (n * 2 ^ (i - min (e + f) i).toNat)).natAbs (min (e + f) i)) := by
    unfold fma
    rw [hx, hy, hw]; rfl
  rw [hfm, hh, key, hsab]
  have h1 : (decide (b < 0) != decide (b < 0)) = false := by cases decide (b < 0) <;> rfl
  rw [h1]
  have h2 : sgn false (n * 2 ^ (i - g).toNat) + sgn (!false) (n * 2 ^ (i - g).toNat) = 0 := by
    unfold sgn; simp only [Bool.false_eq_true, if_false, Bool.not_false, if_true]; lia
  rw [h2, if_pos (show ((0 : Int) == 0) = true from rfl), fl_zero]
  congr 1
  split <;> rfl
end
section
open PySem.Float64 PySem.Builtin.Math
theorem fl_dlSum {a b : Int} (ha : a.natAbs < 2 ^ 50) (hb : b.natAbs < 2 ^ 50) : dlSum (fl a) (fl b) = (fl (a + b), fl 0) := by
  have e1 : add (fl a) (fl b) = fl (a + b) := fl_add (by omega) (by omega)
  have e2 : sub (fl (a + b)) (fl a) = fl b := by rw [fl_sub (by omega) (by omega)]; congr 1; lia
  have e3 : sub (fl (a + b)) (fl b) = fl a := by rw [fl_sub (by omega) (by omega)]; congr 1; lia
  have e4 : sub (fl a) (fl a) = fl 0 := by rw [fl_sub (by omega) (by omega)]; congr 1; lia
  have e5 : sub (fl b) (fl b) = fl 0 := by rw [fl_sub (by omega) (by omega)]; congr 1; lia
  have e6 : add (fl 0) (fl 0) = fl 0 := fl_add (by decide) (by decide)
  unfold dlSum
  simp only [e1, e2, e3, e4, e5, e6]
theorem fl_tlFma {a b c S : Int} (ha : a.natAbs < 2 ^ 50) (hb : b.natAbs < 2 ^ 50) (hc : c.natAbs < 2 ^ 50) (hS : S.natAbs < 2 ^ 50) (hs : a < 0 ↔ b < 0) (h : a * b = 16 * c) : tlFma (fl a) (fl b) (fl S, fl 0, fl 0) = (fl (S + c), fl 0, fl 0) := by
  have e1 : mul (fl a) (fl b) = fl c := fl_mul (by omega) (by omega) (by omega) hs h
  have e2 : fma (fl a) (fl b) (Float64.neg (fl c)) = fl 0 := fl_fma (by omega) (by omega) (by omega) hs h
  have e3 : dlSum (fl S) (fl c) = (fl (S + c), fl 0) := fl_dlSum hS hc
  have e4 : dlSum (fl 0) (fl 0) = (fl 0, fl 0) := fl_dlSum (by decide) (by decide)
  have e6 : add (fl 0) (fl 0) = fl 0 := fl_add (by decide) (by decide)
  unfold tlFma dlMul
  simp only [e1, e2, e3, e4, e6]
theorem fl_tlTo {S : Int} (hS : S.natAbs < 2 ^ 50) : tlToFloat (fl S, fl 0, fl 0) = fl S := by
  have e3 : dlSum (fl 0) (fl S) = (fl (0 + S), fl 0) := fl_dlSum (by decide) hS
  have e6 : add (fl 0) (fl 0) = fl 0 := fl_add (by decide) (by decide)
  unfold tlToFloat
  simp only [e3, e6]
  rw [fl_add (by decide) (by lia), Int.zero_add, Int.zero_add]
end
end Mine
end

-- part F32
section
set_option maxRecDepth 100000
set_option exponentiation.threshold 100
namespace Mine
open PySem PySem.W PyProof.Rows PySem.Builtin.Math

section
variable {g : G} {k : Nat} {env : Env} {ρ ρ₁ ρ₂ : En} {μ μ₁ μ₂ μ₃ μ₄ : List MO}
theorem entry_sp_loop : entryFor table "math.sumprod.loop" = some Builtin.«math.sumprod.loop» := entryFor_of_fast (by kernel_rfl)
theorem plain_sp_loop : plainId "math.sumprod.loop" = true := by decide +kernel
def GB (a b : Array GenState) : Prop := AllBare a → AllBare b

abbrev spA (a1 a2 : Addr) (t0 : Tok) (io used : Bool) (T : Value) : Args := ⟨[.ref a1, .ref a2, .int 0 t0, .bool io, rawInt 0, .bool false, .bool true, T, .bool used], []⟩
theorem sp_code (a1 a2 T : Addr) (t0 : Tok) (io used : Bool) (x y z : UInt64) : ∃ (K0 : Option (Array Value) → Sem PySem.Fin) (K : Option Value → Option Value → Sem PySem.Fin),
    Builtin.«math.sumprod.loop» (spA a1 a2 t0 io used (.ref T)) = (seqItems? (.ref T) >>= K0) ∧
    K0 (some (raws [x, y, z]).toArray) = (pyNext (.ref a1) >>= fun p => holding p.toList (pyNext (.ref a2)) >>= fun q => K p q) ∧
    (∀ a b t1 t2, Float64.isFinite (tlFma a b (x, y, z)).1 = true → K (some (.float a t1)) (some (.float b t2)) =
      (if io then rule "math.sumprod.leaves-ints" else pure ()) >>= fun _ => newTuple (raws [(tlFma a b (x, y, z)).1, (tlFma a b (x, y, z)).2.1, (tlFma a b (x, y, z)).2.2]) >>= fun t => again (.builtin "math.sumprod.loop" (spA a1 a2 t0 false true t))) ∧
    (io = false → used = true → K none none = rule "math.sumprod.leaves-floats" >>= fun _ => mkFloat (tlToFloat (x, y, z)) >>= fun f => holding [.int 0 t0] (binaryOp .Add (.int 0 t0) f) >>= fun v => ret v) := by
  refine ⟨_, _, rfl, rfl, fun a b t1 t2 h => ?_, fun h1 h2 => ?_⟩
  rotate_left
  · subst h1 h2
    show (rule _ >>= fun _ => mkFloat (tlToFloat (_, _, _)) >>= fun f => holding _ (binaryOp _ _ f) >>= fun v => ret v) = _
    rw [un_raw, un_raw, un_raw]
    rfl
  rw [← un_raw x, ← un_raw y, ← un_raw z] at h
  cases io
  · show (if Float64.isFinite (tlFma a b _).1 = true then _ else _) = _
    rw [if_pos h, un_raw, un_raw, un_raw]
    rfl
  · show (rule _ >>= fun _ => if Float64.isFinite (tlFma a b _).1 = true then _ else _) = _
    rw [if_pos h, un_raw, un_raw, un_raw]
    rfl
theorem sp_loop {A : Around} {a1 C1 I1 a2 C2 I2 : Addr} {gi1 gi2 : Nat} {fp1 fp2 : List Addr} {n : Nat} {P1 P2 : Nat → Value → Prop} {G1 G2 : Nat → Shared → Prop} {as bs cs : Nat → Int} {si : Shared} {R : Result → Shared → Prop} (hh : A.handled = none)
    (W1 : WalksS g.prog g.w A.in1 a1 (a1 :: C1 :: fp1) [C1, I1] (GenOnlyQ gi1) n P1 G1) (W2 : WalksS g.prog g.w A.in1 a2 (a2 :: C2 :: fp2) [C2, I2] (GenOnlyQ gi2) n P2 G2)
    (hG1 : ∀ j (s s' : Shared), G1 j s → (∀ b ∈ a1 :: C1 :: fp1, ∀ o, s.heap.get? b = some o → s'.heap.get? b = some o) → s'.gens[gi1]? = s.gens[gi1]? → G1 j s')
    (hG2 : ∀ j (s s' : Shared), G2 j s → (∀ b ∈ a2 :: C2 :: fp2, ∀ o, s.heap.get? b = some o → s'.heap.get? b = some o) → s'.gens[gi2]? = s.gens[gi2]? → G2 j s')
    (hd1 : ∀ b ∈ a1 :: C1 :: fp1, b ∉ [C2, I2]) (hd2 : ∀ b ∈ a2 :: C2 :: fp2, b ∉ [C1, I1]) (hgi : gi1 ≠ gi2)
    (hP1 : ∀ j v, j < n → P1 j v → ∃ t, v = .float (fl (as j)) t) (hP2 : ∀ j v, j < n → P2 j v → ∃ t, v = .float (fl (bs j)) t)
    (hb : ∀ j, j < n → (as j).natAbs < 2 ^ 50 ∧ (bs j).natAbs < 2 ^ 50 ∧ (cs j).natAbs < 2 ^ 50 ∧ (as j < 0 ↔ bs j < 0) ∧ as j * bs j = 16 * cs j) (hS : ∀ j, j ≤ n → (preSum cs j).natAbs < 2 ^ 50)
    (hR : ∀ s' t, Moved [C1, I1, C2, I2] GB si s' → R (.ok (.ret (.float (fl (preSum cs n)) t))) s') :
    ∀ (m j : Nat) (s : Shared) (T : Addr) (c : Nat) (t0 : Tok) (io used : Bool), n - j = m → j ≤ n → (j < n ∨ (io = false ∧ used = true)) → G1 j s → G2 j s → Moved [C1, I1, C2, I2] GB si s →
      s.heap.get? T = some (tupO (raws [fl (preSum cs j), fl 0, fl 0]) c) →
      codeAny g.M A (.builtin "math.sumprod.loop" ⟨[.ref a1, .ref a2, .int 0 t0, .bool io, rawInt 0, .bool false, .bool true, .ref T, .bool used], []⟩) R s := by
  have gother : ∀ {a b : Array GenState} {i j : Nat}, i ≠ j → GenOnlyQ j a b → b[i]? = a[i]? := fun hij h => by
    rcases h with rfl | h
    · rfl
    · exact h.1.2 _ hij
  intro m
  induction m with
  | zero =>
    intro j s T c t0 io used hm hj hor g1 g2 hM hT
    have hjn : j = n := by lia
    subst hjn
    obtain ⟨rfl, rfl⟩ : io = false ∧ used = true := by
      rcases hor with h | h
      · lia
      · exact h
    obtain ⟨K0, K, e0, e1, -, e3⟩ := sp_code a1 a2 T t0 false true (fl (preSum cs j)) (fl 0) (fl 0)
    refine codeAny_builtin entry_sp_loop ?_
    rw [Around.under_plainId plain_sp_loop _, e0]
    refine wpAny_bind (wpAny_seqItems hT rfl ?_)
    rw [e1]
    refine wpAny_bind (W1.done s _ _ g1 fun s₁ m₁ => ?_)
    have g2' := hG2 _ s s₁ g2 (fun b hb o e => m₁.heap b o (hd2 b hb) e) (gother (Ne.symm hgi) m₁.gens)
    refine wpAny_bind (wpAny_holding (W2.done s₁ _ _ g2' fun s₂ m₂ => ?_))
    have hSj := hS j (Nat.le_refl _)
    rw [e3 rfl rfl, fl_tlTo hSj]
    refine wpAny_bind (wpAny_rule ?_)
    refine wpAny_bind (wpAny_mkFloat ?_)
    refine wpAny_bind (wpAny_holding (AutoFloatOps.add_if_1 (not_inf (by decide)) ?_))
    have e0 : Float64.ofInt 0 = fl 0 := fl_int (by decide)
    rw [e0, fl_add (by decide) (by lia), Int.zero_add]
    refine wpAny_pure ?_
    refine hR _ _ ⟨fun b o hb e => ?_, fun ha => ?_, ?_, ?_, ?_⟩
    · have hb1 : b ∉ [C1, I1] := fun z => hb (by simp only [List.mem_cons, List.not_mem_nil, or_false] at z ⊢; rcases z with z | z <;> simp [z])
      have hb2 : b ∉ [C2, I2] := fun z => hb (by simp only [List.mem_cons, List.not_mem_nil, or_false] at z ⊢; rcases z with z | z <;> simp [z])
      exact m₂.heap b o hb2 (m₁.heap b o hb1 (hM.heap b o hb e))
    · exact AllBare.moved (AllBare.moved (hM.gens ha) m₁.gens) m₂.gens
    · exact m₂.drawn.trans (m₁.drawn.trans hM.drawn)
    · exact m₂.os.trans (m₁.os.trans hM.os)
    · have h1 := hM.toks
      have h2 := m₁.toks
      have h3 := m₂.toks
      show si.toks ≤ s₂.toks + 1 + 1
      lia
  | succ m ih =>
    intro j s T c t0 io used hm hj hor g1 g2 hM hT
    have hlt : j < n := by lia
    obtain ⟨b1, b2, b3, b4, b5⟩ := hb j hlt
    obtain ⟨K0, K, e0, e1, e2, -⟩ := sp_code a1 a2 T t0 io used (fl (preSum cs j)) (fl 0) (fl 0)
    refine codeAny_builtin entry_sp_loop ?_
    rw [Around.under_plainId plain_sp_loop _, e0]
    refine wpAny_bind (wpAny_seqItems hT rfl ?_)
    rw [e1]
    refine wpAny_bind (W1.item j s _ _ hlt g1 fun v s₁ hv g1' m₁ => ?_)
    obtain ⟨t1, rfl⟩ := hP1 j v hlt hv
    have g2' := hG2 _ s s₁ g2 (fun b hb o e => m₁.heap b o (hd2 b hb) e) (gother (Ne.symm hgi) m₁.gens)
    refine wpAny_bind (wpAny_holding (W2.item j s₁ _ _ hlt g2' fun v s₂ hv g2'' m₂ => ?_))
    obtain ⟨t2, rfl⟩ := hP2 j v hlt hv
    have g1'' := hG1 _ s₁ s₂ g1' (fun b hb o e => m₂.heap b o (hd1 b hb) e) (gother hgi m₂.gens)
    have hpre : preSum cs (j + 1) = preSum cs j + cs j := rfl
    have hf := fl_tlFma b1 b2 b3 (hS j hj) b4 b5
    have hSj1 := hS (j + 1) hlt
    rw [← hpre] at hf
    rw [e2 _ _ _ _ (by rw [hf]; exact fl_finite (by lia)), hf]
    have keepM : ∀ (tk : Nat), s₂.toks ≤ tk → Moved [C1, I1, C2, I2] GB si { s₂ with heap := s₂.heap.push (tupO (raws [fl (preSum cs (j + 1)), fl 0, fl 0]) 0), toks := tk } := fun tk htk => by
      refine ⟨fun b o hb e => ?_, fun ha => ?_, ?_, ?_, ?_⟩
      · have hb1 : b ∉ [C1, I1] := fun z => hb (by simp only [List.mem_cons, List.not_mem_nil, or_false] at z ⊢; rcases z with z | z <;> simp [z])
        have hb2 : b ∉ [C2, I2] := fun z => hb (by simp only [List.mem_cons, List.not_mem_nil, or_false] at z ⊢; rcases z with z | z <;> simp [z])
        exact Heap.get?_push_of_some _ (m₂.heap b o hb2 (m₁.heap b o hb1 (hM.heap b o hb e)))
      · exact AllBare.moved (AllBare.moved (hM.gens ha) m₁.gens) m₂.gens
      · exact m₂.drawn.trans (m₁.drawn.trans hM.drawn)
      · exact m₂.os.trans (m₁.os.trans hM.os)
      · have h1 := hM.toks
        have h2 := m₁.toks
        have h3 := m₂.toks
        show si.toks ≤ tk
        lia
    have fin : wpAny (model g.prog g.w) A.in1 (newTuple (raws [fl (preSum cs (j + 1)), fl 0, fl 0]) >>= fun t => again (Code.builtin "math.sumprod.loop" { pos := [Value.ref a1, Value.ref a2, Value.int 0 t0, Value.bool false, rawInt 0, Value.bool false, Value.bool true, t, Value.bool true] }))
        (fun fin s' => match fin with
          | Fin.done f => R (Except.ok f) s'
          | Fin.again c' => c'.quiet = true ∧ codeAny (model g.prog g.w) A c' R s') (fun e s' => R (Except.error e) s') s₂ := by
      refine wpAny_bind (wpAny_newTuple ?_ (by simp [sizeLine_eq]))
      have kp : ∀ b o, s₂.heap.get? b = some o → (s₂.heap.push (tupO (raws [fl (preSum cs (j + 1)), fl 0, fl 0]) 0)).get? b = some o := fun b o e => Heap.get?_push_of_some _ e
      refine wpAny_pure ⟨plainId_quiet plain_sp_loop _, ih (j + 1) _ _ 0 t0 false true (by lia) hlt (.inr ⟨rfl, rfl⟩) (hG1 _ s₂ _ g1'' (fun b _ o e => kp b o e) rfl) (hG2 _ s₂ _ g2'' (fun b _ o e => kp b o e) rfl) (keepM _ (Nat.le_refl _)) (Heap.get?_push_size _ rfl)⟩
    cases io with
    | false => exact wpAny_bind (wpAny_pure fin)
    | true => exact wpAny_bind (wpAny_rule fin)
end
end Mine
end

-- part F33
section
set_option maxRecDepth 100000
set_option exponentiation.threshold 100
namespace Mine
open PySem PySem.W PyProof.Rows PySem.Builtin.Math

section
variable {g : G} {k : Nat} {env : Env} {ρ ρ₁ ρ₂ : En} {μ μ₁ μ₂ μ₃ μ₄ : List MO}
theorem kind_sp : builtinKind "math.sumprod" = none := by decide +kernel
theorem plain_sp : plainId "math.sumprod" = true := by decide +kernel
theorem entry_sp : entryFor table "math.sumprod" = some Builtin.«math.sumprod» := entryFor_of_fast (by kernel_rfl)
theorem args_sp (a b : Value) : argsOk "math.sumprod" ⟨[a, b], []⟩ := by unfold argsOk; kernel_rfl

theorem getD_some' {l : List Int} {j : Nat} (h : j < l.length) : l[j]? = some (l.getD j 0) := by
  rw [List.getD_eq_getElem?_getD, List.getElem?_eq_getElem h]; rfl
/-- the facts that two generators, made one behind the other, run side by side -/
theorem sp_call {A : Around} {θ : Th} {s s₁ s₂ : Shared} {ex1 ex2 : List Addr} {a1 C1 I1 a2 C2 I2 : Addr} {gi1 gi2 : Nat} {fp1 fp2 : List Addr} {xs ys : List Int} {α β : Int → Int} {cs : Nat → Int} {Q : Value → Shared → Prop} {E : Value → Shared → Prop}
    (ft : Fit k A) (W : Wld g θ μ s) (hxy : xs.length = ys.length)
    (R1 : GenL g A θ μ ex1 s a1 C1 I1 gi1 fp1 xs.length (fun j y => ∃ n, xs[j]? = some n ∧ Atom y (.flt (fl (α n)))) s₁) (cs1 : cStatics ∈ fp1)
    (R2 : GenL g A θ μ ex2 s₁ a2 C2 I2 gi2 fp2 ys.length (fun j y => ∃ n, ys[j]? = some n ∧ Atom y (.flt (fl (β n)))) s₂) (cs2 : cStatics ∈ fp2)
    (ht : ∀ b ∈ g.tabs, b ∈ ex1) (hC : C1 ∈ ex2 ∧ I1 ∈ ex2)
    (hb : ∀ j x y, xs[j]? = some x → ys[j]? = some y → (α x).natAbs < 2 ^ 50 ∧ (β y).natAbs < 2 ^ 50 ∧ (cs j).natAbs < 2 ^ 50 ∧ (α x < 0 ↔ β y < 0) ∧ α x * β y = 16 * cs j) (hS : ∀ j, j ≤ xs.length → (preSum cs j).natAbs < 2 ^ 50) (hn0 : 0 < xs.length)
    (q : ∀ t s', Lat g θ s θ s' → Wld g θ μ s' → Q (.float (fl (preSum cs xs.length)) t) s') : wpAny g.M A (call (.builtin "math.sumprod") [.ref a1, .ref a2]) Q E s₂ := by
  have WS1 := WalksS.in4_1 R1.walks
  have WS2 := WalksS.in4_1 R2.walks
  have hlen1 : (passing (fun _ => true) xs.length 0).length = xs.length := by rw [passing_all, List.length_range]
  have hlen2 : (passing (fun _ => true) ys.length 0).length = xs.length := by rw [passing_all, List.length_range, hxy]
  rw [hlen1] at WS1
  rw [hlen2] at WS2
  have noTab : ∀ {b : Addr}, s.heap.get? b = none → b ∉ g.tabs := fun {b} e h => by
    obtain ⟨o, ho⟩ := W.gd.low b h
    rw [fresh_base W e] at ho; cases ho
  have k12 : ∀ b ∈ a1 :: C1 :: fp1, ∀ o, s₁.heap.get? b = some o → s₂.heap.get? b = some o := fun b hb o e => by
    refine R2.keepNT b o ?_ e
    rcases List.mem_cons.mp hb with zr | hb
    · obtain rfl := zr.symm
      exact noTab R1.fresh.1
    · rcases List.mem_cons.mp hb with zr | hb
      · obtain rfl := zr.symm
        exact noTab R1.fresh.2.1
      · exact fun h => R1.exc b hb (ht b h)
  have g12 : s₂.gens[gi1]? = s₁.gens[gi1]? := R2.gsz.2.2 gi1 (by have h1 := R1.gsz.2.1; have h2 := R2.gsz.1; lia)
  have st1 : GenAt g.prog g.w A.in4 a1 gi1 C1 fp1 [I1] (fun _ => true) xs.length _ 0 s₂ := GenAt.at R1.st cs1 k12 g12
  have I2ge : @LE.le Nat _ s₁.heap.objs.size I2 := R2.new
  have I2C2 : @LT.lt Nat _ I2 C2 := R2.ltC I2 R2.Iin
  have C2a2 : @LT.lt Nat _ C2 a2 := R2.Clt
  have hd1 : ∀ b ∈ a1 :: C1 :: fp1, b ∉ [C2, I2] := fun b hb z => by
    have h1 : @LT.lt Nat _ b s₁.heap.objs.size := R1.lt b hb
    simp only [List.mem_cons, List.not_mem_nil, or_false] at z
    (rcases z with zr | zr <;> obtain rfl := zr.symm) <;> lia
  have C1lt : @LT.lt Nat _ C1 s₁.heap.objs.size := R1.lt C1 (by simp)
  have I1lt : @LT.lt Nat _ I1 s₁.heap.objs.size := R1.lt I1 (List.mem_cons_of_mem _ (List.mem_cons_of_mem _ R1.Iin))
  have hd2 : ∀ b ∈ a2 :: C2 :: fp2, b ∉ [C1, I1] := fun b hb z => by
    simp only [List.mem_cons, List.not_mem_nil, or_false] at z
    rcases List.mem_cons.mp hb with zr | hb
    · obtain rfl := zr.symm
      (rcases z with zr | zr <;> obtain rfl := zr.symm) <;> lia
    · rcases List.mem_cons.mp hb with zr | hb
      · obtain rfl := zr.symm
        rcases z with rfl | rfl <;> lia
      · (rcases z with zr | zr <;> obtain rfl := zr.symm)
        · exact R2.exc _ hb hC.1
        · exact R2.exc _ hb hC.2
  have hgi : gi1 ≠ gi2 := by
    have h1 := R1.gsz.2.1
    have h2 := R2.gsz.1
    lia
  refine call_function_tree kind_sp plain_sp entry_sp (args_sp _ _) ?_
  unfold Builtin.«math.sumprod»
  show wpAny _ _ (pyIter (.ref a1) >>= _) _ _ _
  refine wpAny_bind (WS1.self 0 _ _ _ st1 (wpAny_bind (wpAny_holding (WS2.self 0 _ _ _ R2.st ?_))))
  skip
  refine wpAny_bind (wpAny_mkInt ?_)
  have hz : [rawInt (Float64.zero false).toNat, rawInt (Float64.zero false).toNat, rawInt (Float64.zero false).toNat] = raws [fl (preSum cs 0), fl 0, fl 0] := by
    have : preSum cs 0 = 0 := rfl
    rw [this, fl_zero]; rfl
  rw [hz]
  refine wpAny_bind (wpAny_newTuple ?_ (by simp [sizeLine_eq]))
  have kp : ∀ b o, s₂.heap.get? b = some o → (s₂.heap.push (tupO (raws [fl (preSum cs 0), fl 0, fl 0]) 0)).get? b = some o := fun b o e => Heap.get?_push_of_some _ e
  refine wpAny_pure ⟨plainId_quiet plain_sp_loop _, sp_loop (g := g) (n := xs.length) (as := fun j => α (xs.getD j 0)) (bs := fun j => β (ys.getD j 0)) (cs := cs) (si := s₂) ft.handled WS1 WS2 (fun j s s' st hk hg => GenAt.at st cs1 hk hg) (fun j s s' st hk hg => GenAt.at st cs2 hk hg) hd1 hd2 hgi ?_ ?_ ?_ hS ?_ xs.length 0 _ _ 0 _ true false (by lia) (Nat.zero_le _) (.inl hn0) (GenAt.at st1 cs1 (fun b _ o e => kp b o e) rfl) (GenAt.at R2.st cs2 (fun b _ o e => kp b o e) rfl) ?_ (Heap.get?_push_size _ rfl)⟩
  · rintro j v hj ⟨i, hi, n, hn, hA⟩
    rw [passing_all] at hi
    obtain ⟨h1', h2'⟩ := List.getElem?_eq_some_iff.mp hi
    simp only [List.getElem_range] at h2'
    subst h2'
    rcases hA with ⟨_, _, _, e⟩ | ⟨_, _, _, e⟩ | ⟨z, tt, rfl, e⟩
    · cases e
    · cases e
    · cases e
      have : xs.getD j 0 = n := by rw [List.getD_eq_getElem?_getD, hn]; rfl
      exact ⟨tt, by rw [this]⟩
  · rintro j v hj ⟨i, hi, n, hn, hA⟩
    rw [passing_all] at hi
    obtain ⟨h1', h2'⟩ := List.getElem?_eq_some_iff.mp hi
    simp only [List.getElem_range] at h2'
    subst h2'
    rcases hA with ⟨_, _, _, e⟩ | ⟨_, _, _, e⟩ | ⟨z, tt, rfl, e⟩
    · cases e
    · cases e
    · cases e
      have : ys.getD j 0 = n := by rw [List.getD_eq_getElem?_getD, hn]; rfl
      exact ⟨tt, by rw [this]⟩
  · intro j hj
    exact hb j _ _ (getD_some' hj) (getD_some' (hxy ▸ hj))
  · intro s' t mv
    have hfr : ∀ b ∈ [C1, I1, C2, I2], s.heap.get? b = none := fun b hb => by
      have dead : ∀ {b : Addr}, s₁.heap.get? b = none → s.heap.get? b = none := fun {b} e => by
        cases q : s.heap.get? b with
        | none => rfl
        | some o => obtain ⟨o', e'⟩ := R1.L.alive b o q; rw [e] at e'; cases e'
      simp only [List.mem_cons, List.not_mem_nil, or_false] at hb
      (rcases hb with zr | zr | zr | zr <;> obtain rfl := zr.symm)
      · exact R1.fresh.2.1
      · exact R1.fresh.2.2
      · exact dead R2.fresh.2.1
      · exact dead R2.fresh.2.2
    have hns : ∀ b ∈ [C1, I1, C2, I2], ∀ o, s₂.heap.get? b = some o → ¬ ∃ vs n, o.data = .seq vs n := fun b hb o e => by
      have old : ∀ {b : Addr}, b ∈ [C1, I1] → s₂.heap.get? b = some o → ¬ ∃ vs n, o.data = .seq vs n := fun {b} hb e => by
        obtain ⟨o1, e1⟩ := R1.live b (List.mem_cons_of_mem _ hb)
        have hbt : b ∈ a1 :: C1 :: fp1 := by
          rcases List.mem_cons.mp hb with zr | hb
          · obtain rfl := zr.symm
            simp
          · rw [List.mem_singleton.mp hb]; exact List.mem_cons_of_mem _ (List.mem_cons_of_mem _ R1.Iin)
        have := k12 b hbt o1 e1
        rw [e] at this; cases this
        exact R1.nseq b hb o e1
      simp only [List.mem_cons, List.not_mem_nil, or_false] at hb
      (rcases hb with zr | zr | zr | zr <;> obtain rfl := zr.symm)
      · exact old (by simp) e
      · exact old (by simp) e
      · exact R2.nseq _ (by simp) o e
      · exact R2.nseq _ (by simp) o e
    have W' : Wld g θ μ s' := R2.W.moved [C1, I1, C2, I2] (fun b hb => ⟨fresh_base W (hfr b hb), fresh_adrs W (hfr b hb), hns b hb⟩) mv.heap (mv.gens R2.W.gens) mv.os
    have L2 : Lat g θ s θ s₂ := R1.L.trans R2.L
    refine q t s' ⟨L2.pre, fun b o nb e => ?_, fun b o e => ?_⟩ W'
    · exact mv.heap b o (fun hb => by rw [hfr b hb] at e; cases e) (L2.keep b o nb e)
    · obtain ⟨o', e'⟩ := L2.alive b o e
      exact ⟨o', mv.heap b o' (fun hb => by rw [hfr b hb] at e; cases e) e'⟩
  · exact ⟨fun b o _ e => kp b o e, fun h => h, rfl, rfl, Nat.le_succ _⟩
end
end Mine
end

-- part F34
section
set_option maxRecDepth 100000
set_option exponentiation.threshold 100
namespace Mine
open PySem PySem.W PyProof.Rows PySem.Builtin.Math

section
variable {g : G} {k : Nat} {env : Env} {ρ ρ₁ ρ₂ : En} {μ μ₁ μ₂ μ₃ μ₄ : List MO}

theorem el_sub {cl : List (Str × Addr)} {scope : Scope} {xa xf : Str} {a b : Int} {c : Addr} {pa pf pos : Pos} (ha : scope.names.lookup xa = some .local) (hf : scope.names.lookup xf = some .free) (hc : cl.lookup xf = some c) (hab : (xf == xa) = false) (hda : (xa == ("__debug__" : Str)) = false) (hdf : (xf == ("__debug__" : Str)) = false) (hcd : (xf == ("__classdict__" : Str)) = false)
    (h1 : a.natAbs < 2 ^ 40) (h2 : b.natAbs < 2 ^ 40) : ElV g cl scope [(xa, .int a), (xf, .flt (fl b))] (.BinOp (.Name xa pa) .Sub (.Name xf pf) pos) (.flt (fl (16 * a - b))) := by
  intro cenv A E s hA hu X
  refine wpAny_BinOp (El.local X (d := .int a) (by rw [List.lookup_cons, beq_self_eq_true]) ha hda fun v hv => El.free X (d := .flt (fl b)) (by rw [List.lookup_cons, hab]; simp [List.lookup_cons]) hf hc hdf hcd fun v' hv' => ?_)
  rcases hv with ⟨_, t, rfl, e⟩ | ⟨_, _, _, e⟩ | ⟨_, _, _, e⟩
  · cases e
    rcases hv' with ⟨_, _, _, e⟩ | ⟨_, _, _, e⟩ | ⟨_, t', rfl, e⟩
    · cases e
    · cases e
    · cases e
      refine AutoFloatOps.sub_if_1 (not_inf (by omega)) ?_
      rw [fl_int (by omega), fl_sub (by omega) (by omega)]
      exact ⟨.inr (.inr ⟨_, _, rfl, rfl⟩), s.heap, s.toks + 1, rfl, fun _ _ e => e⟩
  · cases e
  · cases e

theorem Ev.sumprod {np cp : Pos} {elt1 elt2 : Expr} {xa1 xf1 x1 xa2 xf2 x2 : Str} {pa1 xp1 pos1 pa2 xp2 pos2 : Pos} {scope1 scope2 : Scope} {c1 c2 : Addr} {b1 b2 : UInt64} {xs ys : List Int} {α β : Int → Int} {cs : Nat → Int}
    (hG : GenDef g env.code) (hks : env.kindOf "sumprod" = some .globalImplicit) (hms : g.mg "sumprod" = some (.builtin "math.sumprod")) (hxy : xs.length = ys.length)
    (hx1 : ρ.lookup x1 = some (.list (iL xs))) (hk1 : env.kindOf x1 = some .local) (hd1 : (x1 == ("__debug__" : Str)) = false) (hx2 : ρ.lookup x2 = some (.list (iL ys))) (hk2 : env.kindOf x2 = some .local) (hd2 : (x2 == ("__debug__" : Str)) = false)
    (hco1 : scope1.isCoroutine = false) (hcl1 : closureFor scope1 env = pure [(xf1, c1)]) (hce1 : ∀ y ∈ scope1.names, y.2 ≠ .cell) (h01 : scope1.names.lookup (".0" : Str) = some NameKind.local) (hki1 : scope1.kind = .function) (ha1 : scope1.names.lookup xa1 = some .local) (hf1 : scope1.names.lookup xf1 = some .free) (hab1 : xf1 ≠ xa1) (hcx1 : env.cells.lookup xf1 = some c1) (hfx1 : ρ.lookup xf1 = some (.flt b1))
    (hco2 : scope2.isCoroutine = false) (hcl2 : closureFor scope2 env = pure [(xf2, c2)]) (hce2 : ∀ y ∈ scope2.names, y.2 ≠ .cell) (h02 : scope2.names.lookup (".0" : Str) = some NameKind.local) (hki2 : scope2.kind = .function) (ha2 : scope2.names.lookup xa2 = some .local) (hf2 : scope2.names.lookup xf2 = some .free) (hab2 : xf2 ≠ xa2) (hcx2 : env.cells.lookup xf2 = some c2) (hfx2 : ρ.lookup xf2 = some (.flt b2))
    (he1 : ∀ n ∈ xs, ElV g [(xf1, c1)] scope1 [(xa1, .int n), (xf1, .flt b1)] elt1 (.flt (fl (α n)))) (he2 : ∀ n ∈ ys, ElV g [(xf2, c2)] scope2 [(xa2, .int n), (xf2, .flt b2)] elt2 (.flt (fl (β n))))
    (hb : ∀ j x y, xs[j]? = some x → ys[j]? = some y → (α x).natAbs < 2 ^ 50 ∧ (β y).natAbs < 2 ^ 50 ∧ (cs j).natAbs < 2 ^ 50 ∧ (α x < 0 ↔ β y < 0) ∧ α x * β y = 16 * cs j) (hS : ∀ j, j ≤ xs.length → (preSum cs j).natAbs < 2 ^ 50) (hn0 : 0 < xs.length)
    (hs1 : ∀ y, genFold (.Name x1 xp1) env y = pure y := by intro _; rfl) (hs2 : ∀ y, genFold (.Name x2 xp2) env y = pure y := by intro _; rfl)
    (hst : starEach [.GeneratorExp elt1 [⟨.Name xa1 pa1, .Name x1 xp1, [], 0⟩] scope1 pos1, .GeneratorExp elt2 [⟨.Name xa2 pa2, .Name x2 xp2, [], 0⟩] scope2 pos2] env = [(false, eval (.GeneratorExp elt1 [⟨.Name xa1 pa1, .Name x1 xp1, [], 0⟩] scope1 pos1) env), (false, eval (.GeneratorExp elt2 [⟨.Name xa2 pa2, .Name x2 xp2, [], 0⟩] scope2 pos2) env)] := by rfl) :
    Ev g (k + 1) env ρ μ (.Call (.Name "sumprod" np) [.GeneratorExp elt1 [⟨.Name xa1 pa1, .Name x1 xp1, [], 0⟩] scope1 pos1, .GeneratorExp elt2 [⟨.Name xa2 pa2, .Name x2 xp2, [], 0⟩] scope2 pos2] [] cp) (.flt (fl (preSum cs xs.length))) μ := by
  intro A θ s Q E ft S q
  have tabGet : ∀ {s : Shared}, Wld g θ μ s → ∀ b ∈ g.tabs, ∃ o, s.heap.get? b = some o ∧ ¬ ∃ vs n, o.data = .seq vs n := fun W b hb => by
    obtain ⟨ps, e, _⟩ := W.tab b hb
    exact ⟨_, e, fun ⟨_, _, z⟩ => nomatch z⟩
  refine wpAny_Call_NameR (global_own S hks hms (by decide) ?_)
  rw [hst]
  refine Calls.callWith_builtin rfl (Calls.evalArgs_plain (Calls.spliced_cons ?_))
  refine gen_list (ex := g.tabs) (f := fun n => .flt (fl (α n))) hG ft S hx1 hk1 hd1 hco1 hcl1 hce1 h01 hki1 ha1 hf1 hab1 hcx1 hfx1 he1 ⟨S.W.gd.out.1, S.W.gd.out.2.1, S.W.gd.out.2.2, S.F.newer.2 c1 ⟨xf1, hcx1⟩⟩ ?_ ?_ (fun a1 C1 I1 gi1 fp1 s₁ R1 cs1 => ?_) hs1
  · intro b o hb e
    obtain ⟨o', zq⟩ := tabGet S.W b hb
    have e' := zq.1
    replace zq := zq.2
    have h' := zq
    clear zq
    rw [e] at e'; cases e'; exact h'
  · intro b hb e
    obtain ⟨o', e', _⟩ := tabGet S.W b hb
    rw [e] at e'; cases e'
  have S₁ : Sta g env θ ρ μ s₁ := S.lat R1.L R1.W
  have alive : ∀ {b : Addr}, (∃ o, s.heap.get? b = some o) → b ∉ [C1, I1] := fun {b} ⟨o, e⟩ hb => by
    rcases List.mem_cons.mp hb with rfl | hb
    · exact nomatch (R1.fresh.2.1).symm.trans e
    · rw [List.mem_singleton.mp hb, R1.fresh.2.2] at e; cases e
  have cellLive : ∃ o, s.heap.get? c2 = some o := by
    obtain ⟨v, o, ho, _⟩ := S.F.cell c2 ⟨xf2, hcx2⟩
    exact ⟨o, ho⟩
  have nsLive : ∀ {b : Addr} {m : Str → Option Value}, s.heap.Ns b m → ∃ o, s.heap.get? b = some o := fun ⟨o, _, _, e, _⟩ => ⟨o, e⟩
  refine Calls.spliced_cons (gen_list (ex := g.tabs ++ [C1, I1]) (f := fun n => .flt (fl (β n))) hG ft S₁ hx2 hk2 hd2 hco2 hcl2 hce2 h02 hki2 ha2 hf2 hab2 hcx2 hfx2 he2 ⟨?_, ?_, ?_, ?_⟩ ?_ ?_ (fun a2 C2 I2 gi2 fp2 s₂ R2 cs2 => Calls.spliced_nil ?_) hs2)
  · exact fun h => (List.mem_append.mp h).elim S.W.gd.out.1 (alive (nsLive S.W.gl))
  · exact fun h => (List.mem_append.mp h).elim S.W.gd.out.2.1 (alive (nsLive S.W.bi))
  · exact fun h => (List.mem_append.mp h).elim S.W.gd.out.2.2 (alive (by obtain ⟨_, hn, _⟩ := S.W.lim; obtain ⟨o, _, _, e, _⟩ := hn; exact ⟨o, e⟩))
  · exact fun h => (List.mem_append.mp h).elim (S.F.newer.2 c2 ⟨xf2, hcx2⟩) (alive cellLive)
  · intro b o hb e
    rcases List.mem_append.mp hb with hb | hb
    · obtain ⟨o', e', h'⟩ := tabGet R1.W b hb
      rw [e] at e'; cases e'; exact h'
    · exact R1.nseq b hb o e
  · intro b hb e
    rcases List.mem_append.mp hb with hb | hb
    · obtain ⟨o', e', _⟩ := tabGet R1.W b hb
      rw [e] at e'; cases e'
    · obtain ⟨o', e'⟩ := R1.live b (List.mem_cons_of_mem _ hb)
      rw [e] at e'; cases e'
  · exact sp_call ft S.W hxy R1 cs1 R2 cs2 (fun b hb => hb) ⟨List.mem_append.mpr (.inr (by simp)), List.mem_append.mpr (.inr (by simp))⟩ hb hS hn0 fun t s' l' W' => q _ θ s' l' W' (.flt _ _)
end
end Mine
end

-- part F35
section
set_option maxRecDepth 100000
namespace Mine
open PySem PySem.W PyProof.Rows

/-- the heap without some of its objects -/
def cut' (h : Heap) : List Addr → Heap
  | [] => h
  | a :: r => (cut' h r).update a fun o => { o with data := .freed }
theorem cut_get (h : Heap) : ∀ (l : List Addr) (b : Addr), (cut' h l).get? b = if b ∈ l then none else h.get? b
  | [], b => by simp [cut']
  | a :: r, b => by
    unfold cut'
    by_cases hb : b = a
    · subst hb
      rw [if_pos (List.mem_cons_self ..)]
      obtain ⟨objs, lf⟩ := cut' h r
      show (match (objs.modify b fun o => { o with data := Data.freed })[b]? with
        | some ⟨_, _, .freed, _⟩ => none
        | o => o) = none
      rw [Array.getElem?_modify]
      simp only [if_true]
      cases objs[b]? <;> rfl
    · rw [Heap.get?_update_other _ _ (fun z => hb z.symm), cut_get h r b]
      simp [hb]

/-- as before, but for the slots of the frames -/
structure Slo (fr : List Addr) (h h' : Heap) : Prop where
  keep : ∀ b o, b ∉ fr → h.get? b = some o → h'.get? b = some o
  slot : ∀ b o, b ∈ fr → h.get? b = some o → (∀ vs, o.data ≠ .fields vs) → ∃ sl, h'.get? b = some { o with slots := sl }
theorem Slo.of {fr : List Addr} {h h' : Heap} (h1 : Heap.StaysIn (cut' h fr) h') (h2 : h.UpToSlots h') : Slo fr h h' :=
  ⟨fun b o nb e => h1 b o (by rw [cut_get, if_neg nb]; exact e), fun b o _ e hn => h2 b o e hn⟩

/-- frames: dicts of this run -/
def FrOk (g : G) (θ : Th) (h : Heap) (fr : List Addr) : Prop := ∀ b ∈ fr, g.hB.get? b = none ∧ b ∉ adrs θ ∧ ∃ o m, h.get? b = some o ∧ h.Ns b m

section
variable {g : G} {k : Nat} {env : Env} {ρ ρ₁ ρ₂ : En} {μ μ₁ μ₂ : List MO}

theorem ns_data {h : Heap} {b : Addr} {m : Str → Option Value} {o : Obj} (n : h.Ns b m) (e : h.get? b = some o) : (¬ ∃ vs n, o.data = .seq vs n) ∧ (∀ vs, o.data ≠ .fields vs) ∧ ∀ v, o.data ≠ .cell v := by
  obtain ⟨o', es, ep, zq⟩ := n
  have e' := zq.1
  replace zq := zq.2
  have hd := zq.1
  replace zq := zq.2
  clear zq
  rw [e] at e'; cases e'
  refine ⟨?_, fun _ z => ?_, fun _ z => ?_⟩
  · rintro ⟨_, _, z⟩
    cases (hd).symm.trans z
  · rw [hd] at z; cases z
  · rw [hd] at z; cases z
theorem Slo.ns {fr : List Addr} {h h' : Heap} (x : Slo fr h h') {a : Addr} {m : Str → Option Value} (n : h.Ns a m) : h'.Ns a m := by
  obtain ⟨o, es, ep, ho, hd, r⟩ := id n
  by_cases ha : a ∈ fr
  · obtain ⟨sl, e⟩ := x.slot a o ha ho (ns_data n ho).2.1
    exact ⟨_, es, ep, e, hd, r⟩
  · exact ⟨o, es, ep, x.keep a o ha ho, hd, r⟩
theorem Wld.slo {θ : Th} {s : Shared} {h' : Heap} {n : Nat} {fr : List Addr} (W : Wld g θ μ s) (F : FrOk g θ s.heap fr) (x : Slo fr s.heap h') : Wld g θ μ { s with heap := h', toks := n } :=
  W.moved fr (fun b hb => by
    obtain ⟨h1, h2, o, m, e, hn⟩ := F b hb
    exact ⟨h1, h2, fun o' e' => (ns_data hn e').1⟩) x.keep W.gens rfl
theorem Sta.slo {θ : Th} {s : Shared} {h' : Heap} {n : Nat} {fr : List Addr} (S : Sta g env θ ρ μ s) (F : FrOk g θ s.heap fr) (x : Slo fr s.heap h') : Sta g env θ ρ μ { s with heap := h', toks := n } := by
  have noSeq : ∀ b o, s.heap.get? b = some o → (∃ vs n, o.data = .seq vs n) → b ∉ fr := fun b o e q hb => by
    obtain ⟨_, _, o', m, e', hn⟩ := F b hb
    exact (ns_data hn e).1 q
  have noCell : ∀ c v, s.heap.IsCell c v → c ∉ fr := fun c v ⟨o, e, hd⟩ hb => by
    obtain ⟨_, _, o', m, e', hn⟩ := F c hb
    exact (ns_data hn e).2.2 _ hd
  have lv : LatV g θ s.heap θ h' := ⟨⟨[], by simp, fun _ h => nomatch h⟩, fun b o _ e q => x.keep b o (noSeq b o e q) e⟩
  refine ⟨S.W.slo F x, ⟨S.F.kind, S.F.glob, ?_, fun c hy => ?_, fun y c d hc e => ?_, S.F.apart, S.F.newer, S.F.out⟩⟩
  · obtain ⟨m, hn, hm⟩ := S.F.locals
    exact ⟨m, x.ns hn, fun y d e kd => let ⟨v, hv, V⟩ := hm y d e kd; ⟨v, hv, V.latV lv⟩⟩
  · obtain ⟨v, hv⟩ := S.F.cell c hy
    obtain ⟨o, ho, hd⟩ := id hv
    exact ⟨v, o, x.keep c o (noCell c v hv) ho, hd⟩
  · obtain ⟨u, hu, U⟩ := S.F.cval y c d hc e
    obtain ⟨o, ho, hd⟩ := id hu
    exact ⟨u, ⟨o, x.keep c o (noCell c _ hu) ho, hd⟩, U.latV lv⟩

/-- the frames of a chain -/
def Chain (g : G) (θ : Th) (h : Heap) (l : List Env) : Prop := FrOk g θ h (l.map (·.locals)) ∧ ∀ e ∈ l, e.scope.kind = .function ∧ e.frame = some e.locals
theorem Chain.fun {θ : Th} {h B : Heap} {l : List Env} (c : Chain g θ h l) (hB : ∀ b ∈ l.map (·.locals), B.get? b = none) : h.FunFrames B l := by
  induction l with
  | nil => trivial
  | cons e r ih =>
    obtain ⟨h1, h2⟩ := c
    obtain ⟨k1, k2⟩ := h2 e (.head _)
    obtain ⟨_, _, o, m, ho, hn⟩ := h1 e.locals (by simp)
    exact ⟨by rw [k1]; decide, ⟨e.locals, o, k2, hB _ (by simp), ho, (ns_data hn ho).2.1⟩, ih ⟨fun b hb => h1 b (List.mem_cons_of_mem _ hb), fun e' he' => h2 e' (.tail _ he')⟩ fun b hb => hB b (List.mem_cons_of_mem _ hb)⟩
end
end Mine
end

-- part F36
section
set_option maxRecDepth 100000
namespace Mine
open PySem PySem.W PyProof.Rows

abbrev vbm : List Value := [.type "ValueError", .type "Exception", .type "BaseException", .type "object"]
/-- the class of the errors -/
structure SErr (g : G) (SE : Addr) : Prop where
  obj : ∃ nm q N bs hdct sn sub ab col dd k0 k1 k2 k3 k5 mN, g.hB.get? SE = some (excClassObj nm q SE N bs vbm hdct sn sub ab col dd k0 k1 k2 k3 k5 "ValueError.__new__") ∧ g.hB.Ns N mN ∧ N ∉ g.tabs ∧ mN "__init__" = none ∧ mN "__str__" = none
  out : SE ∉ g.tabs
  glob : g.mg "StatisticsError" = some (.ref SE)

section
variable {g : G} {k : Nat} {env : Env} {ρ ρ₁ ρ₂ : En} {μ μ₁ μ₂ : List MO} {SE : Addr}

/-- statements that raise -/
def Rai (g : G) (SE : Addr) (k : Nat) (env : Env) (ρ : En) (μ : List MO) (st : List Stmt) (msg : Str) : Prop :=
  ∀ (A : Around) (θ : Th) (s : Shared) (Q : Flow → Shared → Prop) (E : Value → Shared → Prop), Fit k A → Sta g env θ ρ μ s →
    (∀ e sr ρ' tk h', LatS g env θ s θ sr → Sta g env θ ρ' μ sr → Heap.MadeExcOf sr.heap h' e (.ref SE) [.str msg tk] → E (.ref e) { sr with heap := h' }) → wpAny g.M A (execs st env) Q E s

theorem thS_same {θ θ' : Th} {s s' : Shared} (W : Wld g θ μ s) (l : LatS g env θ s θ' s') (W' : Wld g θ' μ s') : θ' = θ := by
  obtain ⟨t, rfl, _⟩ := l.pre
  have h1 := W.len
  have h2 := W'.len
  rw [List.length_append, ← h1] at h2
  have : t = [] := List.length_eq_zero_iff.mp (by lia)
  rw [this, List.append_nil]
theorem Rai.cons {st : Stmt} {rest : List Stmt} {msg : Str} (h1 : Ex1 g k env ρ μ st none ρ₁ μ) (h2 : Rai g SE k env ρ₁ μ rest msg) : Rai g SE k env ρ μ (st :: rest) msg := fun A θ s Q E f S q =>
  wpAny_execs_cons (h1 A θ s _ E f S fun fl θ₁ s₁ l₁ S₁ F₁ => by
    cases F₁
    have hθ := thS_same S.W l₁ S₁.W
    subst hθ
    exact h2 A θ₁ s₁ Q E f S₁ fun e sr ρ' tk h' l S' m => q e sr ρ' tk h' (l₁.trans l) S' m)
theorem Rai.iteT {t : Expr} {b1 b2 rest : List Stmt} {pos : Pos} {msg : Str} (h1 : Te g k env ρ μ t true μ) (h2 : Rai g SE k env ρ μ b1 msg) : Rai g SE k env ρ μ (.If t b1 b2 pos :: rest) msg := fun A θ s Q E f S q =>
  wpAny_execs_cons (wpAny_If (h1 A θ s _ E f S fun θ₁ s₁ l₁ W₁ => by
    have hθ := th_same S.W l₁ W₁
    subst hθ
    skip
    exact h2 A θ₁ s₁ _ E f (S.lat l₁ W₁) fun e sr ρ' tk h' l S' m => q e sr ρ' tk h' (l₁.s.trans l) S' m))
theorem Rai.raise {np cpos pos cp : Pos} {n : Nat} {rest : List Stmt} {msg : Str} (X : SErr g SE) (hk : env.kindOf "StatisticsError" = some .globalImplicit) :
    Rai g SE k env ρ μ (.Raise (some (.Call (.Name "StatisticsError" np) [.Constant (.str msg) n cp] [] cpos)) none pos :: rest) msg := fun A θ s Q E f S q => by
  obtain ⟨nm, qn, N, bs, hdct, sn, sub, ab, col, dd, k0, k1, k2, k3, k5, mN, zq⟩ := X.obj
  have ho := zq.1
  replace zq := zq.2
  have hN := zq.1
  replace zq := zq.2
  have hNt := zq.1
  replace zq := zq.2
  have hi := zq.1
  replace zq := zq.2
  have hst := zq
  clear zq
  refine wpAny_execs_cons (wpAny_Raise_call_sub (C := SE) (N := N) (mN := mN) (nm := nm) (q := qn) (bs := bs) (hdct := hdct) (sn := sn) (sub := sub) (ab := ab) (col := col) (dd := dd) (k0 := k0) (k1 := k1) (k2 := k2) (k3 := k3) (k5 := k5) PySem.F.excBase_ValueError f.handled rfl hi (global_own S hk X.glob (by decide) ⟨rfl, ?_⟩))
  refine Calls.evalArgs_plain (Calls.spliced_cons (wpAny_Constant_str (pos := cp) (k := n) (Calls.spliced_nil ⟨rfl, by simp [sizeLine_eq], ?_, ?_, fun h' e hm => ?_⟩)))
  · exact S.W.base SE _ X.out ho
  · exact hN.at' fun o e => S.W.base N o hNt e
  · exact q e { s with toks := s.toks + 1 } ρ s.toks h' (Lat.refl g θ s).toks.s (S.keeps (fun _ _ e => e) S.W.gens rfl) hm

/-- a call that raises -/
def FnX (g : G) (SE : Addr) (k : Nat) (f : Value) (ds : List D) (μ : List MO) (msg : Str) : Prop :=
  ∀ (A : Around) (θ : Th) (s : Shared) (vs : List Value) (outer : List Env) (Q : Value → Shared → Prop) (E : Value → Shared → Prop), Fit k A → A.frames = some outer → Chain g θ s.heap outer → Wld g θ μ s → Vals g θ s.heap vs ds →
    (∀ e t tk sr s' L, Lat g θ s θ sr → Wld g θ μ sr → s'.gens = sr.gens → s'.os = sr.os → s.heap.get? L = none → FrOk g θ sr.heap (L :: outer.map (·.locals)) →
      Heap.FlyingW (cut' sr.heap (L :: outer.map (·.locals))) outer e (.ref SE) (.ref t) s'.heap → sr.heap.UpToSlots s'.heap → s'.heap.TupAt t [.str msg tk] → E (.ref e) s') → wpAny g.M A (call f vs) Q E s

theorem FnX.body {f : Addr} {fd : FuncData} {body : List Stmt} {names : List Str} {ds ds' : List D} {msg : Str}
    (hf : FD g f fd) (hbody : fd.body = .stmts body) (hclo : Clo g fd) (hu : (fd.scope.names.map (·.1)).Nodup) (hn : ∀ x ∈ names, (fd.scope.names.lookup x = some .local ∧ fd.closure.lookup x = none) ∨ fd.scope.names.lookup x = some .cell)
    (hbind : ∀ (s : Shared) (θ : Th) (vs : List Value), Wld g θ μ s → Vals g θ s.heap vs ds → ∃ ws, Vals g θ s.heap ws ds' ∧ BindsTo s fd ⟨vs, []⟩ (names.zip ws))
    (h : ∀ env, EnvOf g f fd env → Rai g SE k env (updAll [] (names.zip ds')) μ body msg) : FnX g SE (k + 1) (.ref f) ds μ msg := by
  intro A θ s vs outer Q E ft hfr hch W V q
  obtain ⟨o, ho, hd⟩ := hf.at_
  refine wpAny_call (codeAny_call_function (by have := ft.depth; lia) (W.base f o hf.out ho) hd hf.plain.1 hf.plain.2.1 hbody (hf.codeRec W) ?_)
  obtain ⟨ws, zq⟩ := hbind s θ vs W V
  have V' := zq.1
  replace zq := zq.2
  have hb := zq
  clear zq
  refine hb _ _ _ _ ?_
  refine enter hf hclo hu hn W V' fun env s₁ EO hL hC l₁ S₁ => ⟨S₁.W.lim, ks_codeAny_funcAt (wpAt_of_wpAny ?_)⟩
  refine h env EO _ θ s₁ _ _ ft.deeper S₁ fun e sr ρ' tk h' l' S' m => ?_
  have L' := LatS.call l₁ l' hL hC
  obtain ⟨t, zq⟩ := m.there
  have hte := zq.1
  replace zq := zq.2
  have ht0 := zq.1
  replace zq := zq.2
  have htt := zq
  clear zq
  have hin : ∀ b ∈ outer.map (·.locals), sr.heap.get? b = s.heap.get? b ∧ ∃ o, s.heap.get? b = some o := fun b hb => by
    obtain ⟨h1, h2, o, mm, ho', hn'⟩ := hch.1 b hb
    have := L'.keep b o (notTab W.gd h1 h2) ho'
    exact ⟨this.trans ho'.symm, o, ho'⟩
  have hLs : env.locals ∉ outer.map (·.locals) := fun hm => by
    obtain ⟨_, o, ho'⟩ := hin _ hm
    rw [hL] at ho'; cases ho'
  have hnsL : ∃ m, sr.heap.Ns env.locals m := let ⟨m, hn, _⟩ := S'.F.locals; ⟨m, hn⟩
  have fro : FrOk g θ sr.heap (env.locals :: outer.map (·.locals)) := fun b hb => by
    rcases List.mem_cons.mp hb with rfl | hb
    · obtain ⟨mm, hn⟩ := hnsL
      obtain ⟨o, _, _, zq⟩ := id hn
      have ho' := zq.1
      replace zq := zq.2
      clear zq
      exact ⟨S'.F.newer.1, S'.F.out.1, o, mm, ho', hn⟩
    · obtain ⟨h1, h2, o, mm, ho', hn'⟩ := hch.1 b hb
      obtain ⟨e1, _⟩ := hin b hb
      exact ⟨h1, h2, o, mm, e1.trans ho', hn'.at' fun o' e' => e1.trans e'⟩
  have hchain : Chain g θ sr.heap (env :: outer) := ⟨fro, fun e he => by
    rcases List.mem_cons.mp he with zr | he
    · obtain rfl := zr.symm
      exact ⟨S'.F.kind, EO.frame⟩
    · exact hch.2 e he⟩
  generalize hB : cut' sr.heap (env.locals :: outer.map (·.locals)) = B
  have hBn : ∀ b ∈ (env :: outer).map (·.locals), B.get? b = none := fun b hb => by rw [← hB, cut_get]; exact if_pos hb
  have hBs : Heap.StaysIn B h' := fun b o e => by
    rw [← hB, cut_get] at e
    split at e
    · cases e
    · exact m.keeps b o e
  have hBe : B.get? e = none := by
    rw [← hB, cut_get]; split
    · rfl
    · exact m.new
  have hfun : h'.FunFrames B (env :: outer) := (hchain.fun hBn).of_keeps fun b o e _ => ⟨o, m.keeps b o e, rfl⟩
  refine wpAny_leaving_firstW (A := A.deeper env) (base := B) (outer := outer) (L := env.locals) (a0 := .ref t) (by show A.frames.map (env :: ·) = _; rw [hfr]; rfl) hfun EO.frame hte hBs hBe rfl rfl rfl fun h'' hl => ?_
  obtain ⟨k1, k2, k3, k4⟩ := hl
  have up : sr.heap.UpToSlots h'' := (Heap.UpToSlots.of_keeps m.keeps).trans k4
  refine q e t tk sr _ env.locals L' S'.W rfl rfl hL fro (by rw [hB]; exact ⟨k1, hBe, k2.2.2, k3⟩) up ?_
  exact Heap.TupAt.of_slots (h := h') ⟨_, 0, htt, rfl, rfl⟩ k4
end
end Mine
end

-- part F37
section
set_option maxRecDepth 100000
namespace Mine
open PySem PySem.W PyProof.Rows Builtin Builtin.Str Builtin.BaseException Builtin.Exceptions

section
variable {prog : Program} {w : World} {A : Around} {E : Value → Shared → Prop} {h : Heap} {gs : Array GenState} {d : Drawn} {tt : Nat} {os : OsState} {e t SE N : Addr} {mN : Str → Option Value}
variable {nm q : Str} {bs : List Value} {hdct : Bool} {sn : List Str} {sub : List Value} {ab : Bool} {col : Option Bool} {dd : Option Addr} {k0 k1 k2 k3 k5 : Option Value}

theorem str_entry {oe : Obj} {vs : Array Value} {msg : Str} {tk : Tok} {Q : PySem.Fin → Shared → Prop} (he : h.get? e = some oe) (hd : oe.data = .fields vs) (h0 : vs[0]? = some (.ref t)) (ht : h.TupAt t [.str msg tk])
    (hq : Q (.done (.ret (.str msg tk))) ⟨h, gs, d, tt, os⟩) : wpAny (model prog w) A (Builtin.«BaseException.__str__» ⟨[.ref e], []⟩) Q E ⟨h, gs, d, tt, os⟩ := by
  obtain ⟨ot, k, hto, _, htd⟩ := ht
  have args : ∀ {Q : Value × List Value → Shared → Prop}, Q (.ref t, [.str msg tk]) ⟨h, gs, d, tt, os⟩ → wpAny (model prog w) A (bexcArgs (.ref e)) Q E ⟨h, gs, d, tt, os⟩ := fun hq => by
    unfold bexcArgs
    refine wpAny_bind (wpAny_field he hd h0 (wpAny_bind (wpAny_seqItems hto htd ?_)))
    exact wpAny_pure hq
  unfold Builtin.«BaseException.__str__»
  repeat (first | with_reducible refine args ?_ | wp_step)
  exact hq

theorem strOf_own {oe : Obj} {vs : Array Value} {msg : Str} {tk : Tok} {Q : Value → Shared → Prop} (hu : A.units < cLine) (hC : h.get? SE = some (excClassObj nm q SE N bs vbm hdct sn sub ab col dd k0 k1 k2 k3 k5 "ValueError.__new__")) (hN : h.Ns N mN) (hs : mN "__str__" = none)
    (he : h.get? e = some oe) (hcls : oe.cls = .ref SE) (hd : oe.data = .fields vs) (h0 : vs[0]? = some (.ref t)) (ht : h.TupAt t [.str msg tk])
    (hq : Q (.str msg tk) ⟨h, gs, d, tt, os⟩) : wpAny (model prog w) A (Builtin.Str.strOf (.ref e)) Q E ⟨h, gs, d, tt, os⟩ := by
  have SL := PySem.F.excStr_ValueError.str
  have hcont : (Value.ref SE :: vbm).contains (.type "BaseException") = true := by rw [List.contains_cons]; simp [List.contains_cons]
  have check : ∀ {M : Model} {A : Around} {E : Value → Shared → Prop} {Q : Unit → Shared → Prop}, Q () ⟨h, gs, d, tt, os⟩ → wpAny M A (checkBuiltinCall "BaseException.__str__" ⟨[.ref e], []⟩) Q E ⟨h, gs, d, tt, os⟩ := by
    intro M A E Q hq
    have hk : builtinKind "BaseException.__str__" = some .slot := by decide +kernel
    have hsp : splitId "BaseException.__str__" = some ("BaseException", "__str__") := by decide +kernel
    simp only [checkBuiltinCall, hk, hsp]
    have isi : ∀ {Q : Bool → Shared → Prop}, Q true ⟨h, gs, d, tt, os⟩ → wpAny M A (isInstance (.ref e) (.type "BaseException")) Q E ⟨h, gs, d, tt, os⟩ := fun hq => by
      unfold isInstance
      repeat (first | (with_reducible refine wpAny_loadPart_at he ?_; rw [hcls]) | (with_reducible refine wpAny_isSubtype_exc hC ?_; rw [hcont]) | wp_step)
      exact hq
    refine wpAny_bind (isi ?_)
    simp only [Bool.not_true, Bool.false_eq_true, if_false]
    cases hsig : Manifest.signature? "BaseException.__str__" with
    | none => exact wpAny_pure hq
    | some sig =>
      have ha := PySem.F.args_bexc_str (.ref e)
      simp only [argsOk, hsig] at ha
      have h2 : Bind.checkArgs "BaseException.__str__" sig ⟨[.ref e], []⟩ = pure () := ha
      show wpAny M A (Bind.checkArgs "BaseException.__str__" sig ⟨[.ref e], []⟩) Q E _
      rw [h2]; exact wpAny_pure hq
  have special : ∀ {Q : Option Value → Shared → Prop}, Q (some (.str msg tk)) ⟨h, gs, d, tt, os⟩ → wpAny (model prog w) A (callSpecial? (.ref e) (Str.ofString "__str__")) Q E ⟨h, gs, d, tt, os⟩ := fun hq => by
    unfold callSpecial? specialOf
    refine wpAny_bind (wpAny_bind (show wpAny _ _ (typeOf (.ref e)) _ _ _ from ?_))
    refine wpAny_bind (wpAny_loadPart_at he (wpAny_pure ?_))
    rw [hcls]
    refine wpAny_typeLookup_exc hC hN PySem.F.excBase_ValueError.mroIs SL.lookup ?_
    rw [show mN (Str.ofString "__str__") = none from hs]
    refine wpAny_holding (wpAny_bind (wpAny_of_eq (SL.bind _) ?_))
    refine wpAny_bind (wpAny_call (codeAny_call_builtin SL.plain PySem.F.entry_bexc_str (check (str_entry he hd h0 ht ?_))))
    exact wpAny_pure hq
  unfold Builtin.Str.strOf
  repeat (first | with_reducible refine wpAny_cRoomFor hu ?_ | with_reducible refine special ?_ | wp_step)
  exact hq

theorem str_own {oe : Obj} {vs : Array Value} {msg : Str} {tk : Tok} {Q : Value → Shared → Prop} (hu : A.units + 2 < cLine) (hC : h.get? SE = some (excClassObj nm q SE N bs vbm hdct sn sub ab col dd k0 k1 k2 k3 k5 "ValueError.__new__")) (hN : h.Ns N mN) (hs : mN "__str__" = none)
    (he : h.get? e = some oe) (hcls : oe.cls = .ref SE) (hd : oe.data = .fields vs) (h0 : vs[0]? = some (.ref t)) (ht : h.TupAt t [.str msg tk])
    (hq : Q (.str msg tk) ⟨h, gs, d, tt, os⟩) : wpAny (model prog w) A (call (.type "str") [.ref e]) Q E ⟨h, gs, d, tt, os⟩ := by
  refine callType_codes (T := "str") (Bi := Builtin.«object.__init__») (Q₁ := fun r s₁ => ∃ y u, r = .str y u ∧ Q r s₁) PySem.F.called_str (PySem.F.typeCall_str_1 _) PySem.F.entry_object_init ?_ ?_
  · refine codeAny_of_tree ?_
    show wpAny _ A.in1.in1 (do checkBuiltinCall "str.__new__" ⟨[.type "str", .ref e], []⟩; again (.builtin "str.__new__" ⟨[.type "str", .ref e], []⟩)) _ _ _
    refine wpAny_bind (wpAny_of_eq (PySem.F.newCall_str_1 _) (wpAny_pure ⟨plainId_quiet (by decide +kernel) _, codeAny_builtin PySem.F.entry_str_new ?_⟩))
    rw [Around.under_plainId (by decide +kernel) _]
    rw [str_new_tree]
    refine wpAny_bind (wpAny_pure ?_)
    refine wpAny_bind (wpAny_of_eq isSubtype_str_str ?_)
    exact wpAny_bind (strOf_own (A := A.in1.in1) hu hC hN hs he hcls hd h0 ht (wpAny_pure ⟨_, _, rfl, hq⟩))
  · rintro obj s₁ ⟨y, u, rfl, hq⟩
    exact ⟨typeIs_str _ _ _, PySem.F.args_object_init_2 _ _, object_init_meets PySem.F.called_str.init.lookup PySem.F.called_str.made (by decide) prog w A.in1 _ s₁ ⟨typeIs_str _ _ _, rfl, hq⟩⟩
end
end Mine
end

-- part F38
section
set_option maxRecDepth 100000
namespace Mine
open PySem PySem.W PyProof.Rows

section
variable {g : G} {k : Nat} {env : Env} {ρ ρ₁ ρ₂ : En} {μ μ₁ μ₂ : List MO} {SE : Addr}

/-- an expression that raises -/
def EvX (g : G) (SE : Addr) (k : Nat) (env : Env) (ρ : En) (μ : List MO) (x : Expr) (msg : Str) : Prop :=
  ∀ (A : Around) (θ : Th) (s : Shared) (outer : List Env) (Q : Value → Shared → Prop) (E : Value → Shared → Prop), Fit k A → A.frames = some outer → Chain g θ s.heap outer → Sta g env θ ρ μ s →
    (∀ e t tk sr s' L, Lat g θ s θ sr → Wld g θ μ sr → s'.gens = sr.gens → s'.os = sr.os → s.heap.get? L = none → FrOk g θ sr.heap (L :: outer.map (·.locals)) →
      Heap.FlyingW (cut' sr.heap (L :: outer.map (·.locals))) outer e (.ref SE) (.ref t) s'.heap → sr.heap.UpToSlots s'.heap → s'.heap.TupAt t [.str msg tk] → E (.ref e) s') → wpAny g.M A (eval x env) Q E s

theorem FrOk.lat {θ θ' : Th} {s s' : Shared} {fr : List Addr} (W : Wld g θ μ s) (F : FrOk g θ s.heap fr) (l : Lat g θ s θ' s') : FrOk g θ' s'.heap fr := fun b hb => by
  obtain ⟨h1, h2, o, m, zq⟩ := F b hb
  have e := zq.1
  replace zq := zq.2
  have hn := zq
  clear zq
  have nb := notTab W.gd h1 h2
  obtain ⟨t, rfl, ht⟩ := l.pre
  exact ⟨h1, adrs_more e h2 ht, o, m, l.keep b o nb e, hn.at' fun o' e' => l.keep b o' nb e'⟩
theorem Chain.lat {θ θ' : Th} {s s' : Shared} {l : List Env} (W : Wld g θ μ s) (c : Chain g θ s.heap l) (x : Lat g θ s θ' s') : Chain g θ' s'.heap l := ⟨FrOk.lat W c.1 x, c.2⟩

theorem EvX.callF {x : Str} {np pos : Pos} {e : Expr} {es : List Expr} {ds : List D} {msg : Str} {f : Addr} {fd : FuncData} (hk : env.kindOf x = some .globalImplicit) (hm : g.mg x = some (.ref f)) (hf : FD g f fd) (h1 : Evs g k env ρ μ (e :: es) ds μ) (h2 : FnX g SE k (.ref f) ds μ msg)
    (hd : (x == ("__debug__" : Str)) = false := by decide) (hs : starEach (e :: es) env = (false, eval e env) :: starEach es env := by rfl) : EvX g SE k env ρ μ (.Call (.Name x np) (e :: es) [] pos) msg := by
  intro A θ s outer Q E ft hfr hch S q
  refine wpAny_Call_NameR (global_own S hk hm hd ?_)
  obtain ⟨o, zq⟩ := hf.at_
  have ho := zq.1
  replace zq := zq.2
  have hdat := zq
  clear zq
  refine Calls.callWith_function (o := o) (fd := fd) ?_
  have hb' : backTo pos (starEach (e :: es) env) = (false, eval e env) :: backTo pos (starEach es env) := by rw [hs]; rfl
  rw [hb']
  refine Calls.evalArgs_plain ?_
  rw [← hb']
  refine h1 A θ s pos _ E ft S fun vs θ₁ s₁ l₁ W₁ V₁ => ⟨⟨W₁.base f o hf.out ho, hdat⟩, ?_⟩
  have hθ := th_same S.W l₁ W₁
  subst hθ
  refine h2 A θ₁ s₁ vs outer Q E ft hfr (hch.lat S.W l₁) W₁ V₁ fun e' t tk sr s' L lr Wr hg ho' hL hfo hfl hup ht => ?_
  refine q e' t tk sr s' L (l₁.trans lr) Wr hg ho' ?_ hfo hfl hup ht
  cases z : s.heap.get? L with
  | none => rfl
  | some o' => obtain ⟨o2, e2⟩ := l₁.alive L o' z; rw [hL] at e2; cases e2
theorem EvX.ite {t e₁ e₂ : Expr} {p : Pos} {b : Bool} {msg : Str} (h1 : Te g k env ρ μ t b μ) (h2 : if b = true then EvX g SE k env ρ μ e₁ msg else EvX g SE k env ρ μ e₂ msg) : EvX g SE k env ρ μ (.IfExp t e₁ e₂ p) msg := by
  intro A θ s outer Q E f hfr hch S q
  refine wpAny_IfExp (h1 A θ s _ E f S fun θ₁ s₁ l₁ W₁ => ?_)
  have hθ := th_same S.W l₁ W₁
  subst hθ
  have key : ∀ L, s₁.heap.get? L = none → s.heap.get? L = none := fun L hL => by
    cases z : s.heap.get? L with
    | none => rfl
    | some o' => obtain ⟨o2, e2⟩ := l₁.alive L o' z; rw [hL] at e2; cases e2
  cases b with
  | true =>
    simp only [if_true] at h2 ⊢
    exact h2 A θ₁ s₁ outer Q E f hfr (hch.lat S.W l₁) (S.lat l₁ W₁) fun e' t tk sr s' L lr Wr hg ho' hL hfo hfl hup ht => q e' t tk sr s' L (l₁.trans lr) Wr hg ho' (key L hL) hfo hfl hup ht
  | false =>
    simp only [Bool.false_eq_true, if_false] at h2 ⊢
    exact h2 A θ₁ s₁ outer Q E f hfr (hch.lat S.W l₁) (S.lat l₁ W₁) fun e' t tk sr s' L lr Wr hg ho' hL hfo hfl hup ht => q e' t tk sr s' L (l₁.trans lr) Wr hg ho' (key L hL) hfo hfl hup ht

/-- later, but for the frames' slots -/
structure LatO (g : G) (fr : List Addr) (θ : Th) (s s' : Shared) : Prop where
  keep : ∀ b o, b ∉ bad g θ → b ∉ fr → s.heap.get? b = some o → s'.heap.get? b = some o
  slot : ∀ b o, b ∈ fr → s.heap.get? b = some o → ∃ sl, s'.heap.get? b = some { o with slots := sl }
  alive : ∀ b o, s.heap.get? b = some o → ∃ o', s'.heap.get? b = some o'

/-- a call that changes the frames' slots -/
def FnS (g : G) (k : Nat) (f : Value) (ds : List D) (μ : List MO) (d : D) : Prop :=
  ∀ (A : Around) (θ : Th) (s : Shared) (vs : List Value) (outer : List Env) (Q : Value → Shared → Prop) (E : Value → Shared → Prop), Fit k A → A.frames = some outer → Chain g θ s.heap outer → Wld g θ μ s → Vals g θ s.heap vs ds →
    (∀ v s', LatO g (outer.map (·.locals)) θ s s' → Wld g θ μ s' → Val g θ s'.heap v d → Q v s') → wpAny g.M A (call f vs) Q E s
theorem Fn.s {f : Value} {ds : List D} {d : D} (h : Fn g k f ds μ d μ) : FnS g k f ds μ d := fun A θ s vs outer Q E ft hfr hch W V q =>
  h A θ s vs Q E ft W V fun v θ' s' l W' V' => by
    have hθ := th_same W l W'
    obtain rfl := hθ.symm
    refine q v s' ⟨fun b o nb _ e => l.keep b o nb e, fun b o hb e => ?_, l.alive⟩ W' V'
    obtain ⟨h1, h2, _⟩ := hch.1 b hb
    exact ⟨o.slots, l.keep b o (notTab W.gd h1 h2) e⟩
end
end Mine
end

-- part F39
section
set_option maxRecDepth 100000
namespace Mine
open PySem PySem.W PyProof.Rows

section
variable {g : G} {k : Nat} {env : Env} {ρ ρ₁ ρ₂ : En} {μ μ₁ μ₂ : List MO} {SE : Addr}

theorem Sta.eq {θ : Th} {s s' : Shared} (S : Sta g env θ ρ μ s) (h : s'.heap = s.heap) (hg : s'.gens = s.gens) (ho : s'.os = s.os) : Sta g env θ ρ μ s' :=
  S.keeps (fun b o e => by rw [h]; exact e) (by rw [hg]; exact S.W.gens) ho

/-- try: return <what raises>; except StatisticsError as error: return str(error) -/
theorem told_try {x : Expr} {rp rp2 np hp sp ep cp tp : Pos} {msg : Str} {A : Around} {θ : Th} {s : Shared} {outer : List Env} {Q : Flow → Shared → Prop} {E : Value → Shared → Prop}
    (X : SErr g SE) (h : EvX g SE k env ρ μ x msg) (hfe : env.frame = some env.locals) (hkS : env.kindOf "StatisticsError" = some .globalImplicit) (hks : env.kindOf "str" = some .globalImplicit) (hms : g.mg "str" = none) (hbs : g.mb "str" = some (.type "str")) (hke : env.kindOf "error" = some .local) (hρ : ρ.lookup ("error" : Str) = none)
    (ft : Fit k A) (hfr : A.frames = some (env :: outer)) (hch : Chain g θ s.heap (env :: outer)) (S : Sta g env θ ρ μ s)
    (q : ∀ tk s', (∀ b o, b ∉ bad g θ → b ≠ env.locals → b ∉ outer.map (·.locals) → s.heap.get? b = some o → s'.heap.get? b = some o) → (∀ b o, b ≠ env.locals → b ∈ outer.map (·.locals) → s.heap.get? b = some o → ∃ sl, s'.heap.get? b = some { o with slots := sl }) →
      (∀ b o, s.heap.get? b = some o → ∃ o', s'.heap.get? b = some o') → Wld g θ μ s' → Q (.ret (.str msg tk)) s') :
    wpAny g.M A (execs [.Try [.Return (some x) rp] [.ExceptHandler (some (.Name "StatisticsError" np)) (some "error") [.Return (some (.Call (.Name "str" sp) [.Name "error" ep] [] cp)) rp2] hp] [] [] tp] env) Q E s := by
  refine wpAny_execs_cons (wpAny_Try_except (wpAny_execs_cons (wpAny_Return_some (h A θ s (env :: outer) _ _ ft hfr hch S fun e t tk sr s' L lr Wr hg ho hL hfo hfl hup ht => ?_))))
  generalize hB : cut' sr.heap (L :: (env :: outer).map (·.locals)) = B at hfl
  have Sr : Sta g env θ ρ μ sr := S.lat lr Wr
  have slo : ∀ {h' : Heap}, Heap.StaysIn B h' → sr.heap.UpToSlots h' → Slo (L :: (env :: outer).map (·.locals)) sr.heap h' := fun h1 h2 => .of (hB ▸ h1) h2
  refine wpAny_looks_onW hfr hfe hfl fun h2 hh2 up2 => ?_
  refine wpAny_landsW hh2 fun h3 hf3 up3 => ?_
  have u3 := (hup.trans up2).trans up3
  have S3 : Sta g env θ ρ μ { s' with heap := h3 } := (Sr.slo (n := s'.toks) hfo (slo hf3.1 u3)).eq rfl hg ho
  have t3 : h3.TupAt t [.str msg tk] := (ht.of_slots up2).of_slots up3
  obtain ⟨nm, qn, N, bs, hdct, sn, sub, ab, col, dd, k0, k1, k2, k3, k5, mN, zq⟩ := X.obj
  have hob := zq.1
  replace zq := zq.2
  have hN := zq.1
  replace zq := zq.2
  have hNt := zq.1
  replace zq := zq.2
  have hi := zq.1
  replace zq := zq.2
  have hst := zq
  clear zq
  refine wpAny_handleBy_cons (codeAny_handlers_test (global_own S3 hkS X.glob (by decide) ?_)) (by intro z; cases z)
  obtain ⟨oe, vs, T, oT, ts, zq⟩ := hf3.2.2.2
  have he := zq.1
  replace zq := zq.2
  obtain ⟨hcls, h0⟩ := zq.1
  replace zq := zq.2
  have hd := zq.1
  replace zq := zq.2
  have h1 := zq.1
  replace zq := zq.2
  have hnT := zq.1
  replace zq := zq.2
  have hTe := zq.1
  replace zq := zq.2
  have hT := zq.1
  replace zq := zq.2
  have hdT := zq.1
  replace zq := zq.2
  have h3' := zq
  clear zq
  refine wpAny_excMatches_sub_self (S3.W.base SE _ X.out hob) he hcls (by decide) ?_
  dsimp only [if_true]
  refine codeAny_handlers_suite_as ?_
  refine wpAny_setFlight_noneW hf3.1 hf3.2.2.1 hf3.2.2.2.at fun h4 w1 w2 w3 w4 => ?_
  have up4 : h3.UpToSlots h4 := fun b o e hn => ⟨o.slots, w4 b o e hn⟩
  have u4 := u3.trans up4
  have S4 : Sta g env θ ρ μ { s' with heap := h4 } := (Sr.slo (n := s'.toks) hfo (slo w1 u4)).eq rfl hg ho
  have t4 : h4.TupAt t [.str msg tk] := t3.of_slots up4
  obtain ⟨m, hn, hm⟩ := S4.F.locals
  have hpk : (env.scope.kind == .class || (env.scope.kind == .module && env.locals != env.globals)) = false := by rw [S.F.kind]; rfl
  refine wpAny_storeName_local hke hn (fun h5 hn5 hs5 => ?_) hpk
  have x5 : Heap.ExtBut env.locals h4 h5 := hs5.extBut
  obtain ⟨oe4, vs4, T4, oT4, ts4, zq⟩ := w3
  have he4 := zq.1
  replace zq := zq.2
  obtain ⟨hcls4, h04⟩ := zq.1
  replace zq := zq.2
  have hd4 := zq.1
  replace zq := zq.2
  clear zq
  have nodict : ∀ {b : Addr} {o : Obj}, h4.get? b = some o → (∃ vs, o.data = .fields vs) ∨ (∃ vs n, o.data = .seq vs n) → b ≠ env.locals := fun {b o} e z w => by
    have := ns_data hn (w ▸ e)
    rcases z with ⟨vs, z⟩ | z
    · exact this.2.1 vs z
    · exact this.1 z
  have he5 := x5 e oe4 (nodict he4 (.inl ⟨_, hd4⟩)) he4
  have t5 : h5.TupAt t [.str msg tk] := by
    obtain ⟨o, n, e1, e2, e3⟩ := t4
    exact ⟨o, n, x5 t o (nodict e1 (.inr ⟨_, _, e3⟩)) e1, e2, e3⟩
  have hLs : g.hB.get? env.locals = none ∧ env.locals ∉ adrs θ := ⟨S.F.newer.1, S.F.out.1⟩
  have W5 : Wld g θ μ { s' with heap := h5, toks := s'.toks + 1 } := S4.W.same (n := s'.toks + 1) hLs.1 hLs.2 (fun o e => (ns_data hn e).1) x5
  have k45 : ∀ b o, b ≠ env.locals → h4.get? b = some o → h5.get? b = some o := x5
  have lv5 : LatV g θ h4 θ h5 := ⟨⟨[], by simp, fun _ h => nomatch h⟩, fun b o _ e z => x5 b o (nodict e (.inr z)) e⟩
  have S5 : Sta g env θ ρ μ { s' with heap := h5, toks := s'.toks + 1 } := by
    refine ⟨W5, ⟨S4.F.kind, S4.F.glob, ⟨_, hn5, fun y d e kd => ?_⟩, fun c hc => ?_, fun y c d hc e => ?_, S4.F.apart, S4.F.newer, S4.F.out⟩⟩
    · obtain ⟨v, zq⟩ := hm y d e kd
      have hv := zq.1
      replace zq := zq.2
      have V := zq
      clear zq
      have : y ≠ "error" := fun z => by rw [z, hρ] at e; cases e
      exact ⟨v, by rw [if_neg this]; exact hv, V.latV lv5⟩
    · obtain ⟨v, o, ho', hd'⟩ := S4.F.cell c hc
      have : c ≠ env.locals := fun w => (ns_data hn (w ▸ ho')).2.2 _ hd'
      exact ⟨v, o, x5 c o this ho', hd'⟩
    · obtain ⟨u, ⟨o, ho', hd'⟩, U⟩ := S4.F.cval y c d hc e
      have : c ≠ env.locals := fun w => (ns_data hn (w ▸ ho')).2.2 _ hd'
      exact ⟨u, ⟨o, x5 c o this ho', hd'⟩, U.latV lv5⟩
  refine wpAny_execs_cons (wpAny_Return_some (wpAny_Call_NameR (global_builtin S5 hks hms hbs (by decide) ?_)))
  refine Pv.callWith_type1 (Calls.spliced_cons (wpAny_Name (wpAny_loadName_local S5.F.kind hke hn5 (if_pos rfl) (Calls.spliced_nil ?_)) (by decide)))
  refine str_own (by have := ft.units; show A.units + 2 < _; lia) (W5.base SE _ X.out hob) (hN.at' fun o e => W5.base N o hNt e) hst he5 hcls4 hd4 h04 t5 ?_
  refine wpAny_nameGoes hke hn5 hpk fun h7 m7 hn7 hs7 => ?_
  have x7 : Heap.ExtBut env.locals h5 h7 := hs7.extBut
  have s4 := slo w1 u4
  refine q tk _ (fun b o nb n1 n2 e => ?_) (fun b o n1 n2 e => ?_) (fun b o e => ?_) (W5.same (n := s'.toks + 1 + 1) hLs.1 hLs.2 (fun o e => (ns_data hn5 e).1) x7)
  · refine x7 b o n1 (x5 b o n1 (s4.keep b o ?_ (lr.keep b o nb e)))
    intro hm'
    rcases List.mem_cons.mp hm' with rfl | hm'
    · cases (hL).symm.trans e
    · rcases List.mem_cons.mp hm' with rfl | hm'
      · exact n1 rfl
      · exact n2 hm'
  · obtain ⟨z1, z2, o', m', zq⟩ := hch.1 b (List.mem_cons_of_mem _ n2)
    have e' := zq.1
    replace zq := zq.2
    have hn' := zq
    clear zq
    have e1 := lr.keep b o (notTab S.W.gd z1 z2) e
    rw [e] at e'; cases e'
    obtain ⟨sl, e2⟩ := s4.slot b o (List.mem_cons_of_mem _ (List.mem_cons_of_mem _ n2)) e1 (ns_data hn' e).2.1
    exact ⟨sl, x7 b _ n1 (x5 b _ n1 e2)⟩
  · obtain ⟨o1, e1⟩ := lr.alive b o e
    by_cases hbl : b = env.locals
    · obtain rfl := hbl.symm
      obtain ⟨o7, _, _, zq⟩ := hn7
      have e7 := zq.1
      replace zq := zq.2
      clear zq
      exact ⟨o7, e7⟩
    · by_cases hbf : b ∈ (L :: (env :: outer).map (·.locals))
      · obtain ⟨z1, z2, o', m', zq⟩ := hfo b hbf
        have e' := zq.1
        replace zq := zq.2
        have hn' := zq
        clear zq
        rw [e1] at e'; cases e'
        obtain ⟨sl, e2⟩ := s4.slot b o1 hbf e1 (ns_data hn' e1).2.1
        exact ⟨_, x7 b _ hbl (x5 b _ hbl e2)⟩
      · exact ⟨o1, x7 b _ hbl (x5 b _ hbl (s4.keep b o1 hbf e1))⟩
end
end Mine
end

-- part F40
section
set_option maxRecDepth 100000
namespace Mine
open PySem PySem.W PyProof.Rows

section
variable {g : G} {k : Nat} {env : Env} {ρ ρ₁ ρ₂ : En} {μ μ₁ μ₂ : List MO} {SE : Addr}

/-- statements of the outermost def -/
def ExF (g : G) (k : Nat) (env : Env) (ρ : En) (μ : List MO) (st : List Stmt) (r : Option D) (ρ' : En) (μ' : List MO) : Prop :=
  ∀ (A : Around) (θ : Th) (s : Shared) (Q : Flow → Shared → Prop) (E : Value → Shared → Prop), Fit k A → A.frames = some [env] → env.frame = some env.locals → Sta g env θ ρ μ s →
    (∀ fl θ' s', LatS g env θ s θ' s' → Sta g env θ' ρ' μ' s' → Flo g θ' s'.heap fl r → Q fl s') → wpAny g.M A (execs st env) Q E s
def Ex1F (g : G) (k : Nat) (env : Env) (ρ : En) (μ : List MO) (st : Stmt) (r : Option D) (ρ' : En) (μ' : List MO) : Prop :=
  ∀ (A : Around) (θ : Th) (s : Shared) (Q : Flow → Shared → Prop) (E : Value → Shared → Prop), Fit k A → A.frames = some [env] → env.frame = some env.locals → Sta g env θ ρ μ s →
    (∀ fl θ' s', LatS g env θ s θ' s' → Sta g env θ' ρ' μ' s' → Flo g θ' s'.heap fl r → Q fl s') → wpAny g.M A (exec st env) Q E s
theorem Ex.f {st : List Stmt} {r : Option D} (h : Ex g k env ρ μ st r ρ₁ μ₁) : ExF g k env ρ μ st r ρ₁ μ₁ := fun A θ s Q E f _ _ S q => h A θ s Q E f S q
theorem Ex1.f {st : Stmt} {r : Option D} (h : Ex1 g k env ρ μ st r ρ₁ μ₁) : Ex1F g k env ρ μ st r ρ₁ μ₁ := fun A θ s Q E f _ _ S q => h A θ s Q E f S q
theorem ExF.cons {st : Stmt} {rest : List Stmt} {r : Option D} (h1 : Ex1F g k env ρ μ st none ρ₁ μ₁) (h2 : ExF g k env ρ₁ μ₁ rest r ρ₂ μ₂) : ExF g k env ρ μ (st :: rest) r ρ₂ μ₂ := fun A θ s Q E f hf hl S q =>
  wpAny_execs_cons (h1 A θ s _ E f hf hl S fun fl θ₁ s₁ l₁ S₁ F₁ => by
    cases F₁
    exact h2 A θ₁ s₁ Q E f hf hl S₁ fun fl θ₂ s₂ l₂ S₂ F₂ => q fl θ₂ s₂ (l₁.trans l₂) S₂ F₂)
theorem ExF.sub {st : List Stmt} {r : Option D} (h : ExF g k env ρ μ st r ρ₁ μ₁) (hρ : ∀ x d, ρ₂.lookup x = some d → ρ₁.lookup x = some d) : ExF g k env ρ μ st r ρ₂ μ₁ := fun A θ s Q E f hf hl S q =>
  h A θ s Q E f hf hl S fun fl θ' s' l' S' F' => q fl θ' s' l' (S'.sub hρ) F'

/-- a for whose body may change the frame's slots -/
theorem Ex1F.forI {target iter : Expr} {body : List Stmt} {pos : Pos} {ds : List D} (h1 : Itb g k env ρ μ iter ds μ₁) (ρs : Nat → En) (μs : Nat → List MO) (h0 : ρs 0 = ρ) (m0 : μs 0 = μ₁)
    (step : ∀ i d, ds[i]? = some d → GoK target d ∧ ∃ ρ', Tg g k env target d (ρs i) ρ' ∧ ExF g k env ρ' (μs i) body none (ρs (i + 1)) (μs (i + 1)))
    (hs : ∀ x, foldedSetIterable iter env x = pure x := by intro _; rfl) : Ex1F g k env ρ μ (.For target iter body [] pos) none (ρs ds.length) (μs ds.length) := by
  intro A θ s Q E f hfr hfl S q
  refine wpAny_For (h1 A θ s _ E f S fun v θ₁ s₁ l₁ W₁ C₁ => ?_) hs
  have S₁ := S.lat l₁ W₁
  refine C₁ A _ E fun I s₂ P o eI k₂ hg₂ ho₂ oI pI it => ?_
  have S₂ : Sta g env θ₁ ρ μ₁ s₂ := S₁.keeps k₂ (by rw [hg₂]; exact W₁.gens) ho₂
  have l₂ : Lat g θ₁ s₁ θ₁ s₂ := .ofKeeps k₂
  have sI : Safe g env θ₁ I := S₁.safe eI
  have bI : g.hB.get? I = none := fresh_base W₁ eI
  refine forLoopT (I := fun j s' => ∃ i θ' o', LatS g env θ₁ s₁ θ' s' ∧ Sta g env θ' (ρs i) (μs i) s' ∧ s'.heap.get? I = some o' ∧ P i o' ∧ Safe g env θ' I ∧ i ≤ ds.length ∧ j = ds.length + 1 - i) ?_ (ds.length + 1)
    ⟨0, θ₁, o, l₂.s, by rw [h0, m0]; exact S₂, oI, pI, sI, Nat.zero_le _, rfl⟩
  rintro j s' ⟨i, θ', o', l', S', oI', pI', sI', hi, rfl⟩
  have hq : ∀ o, s'.heap.get? I = some o → ¬ ∃ us m, o.data = .seq us m := fun o e => by
    cases (oI').symm.trans e; exact it.noSeq pI'
  by_cases hlt : i < ds.length
  · have hd := List.getElem?_eq_getElem hlt
    obtain ⟨hgo, ρ', ht, hx⟩ := step i _ hd
    refine it.item f.handled (l'.v S₁.F) oI' pI' hd fun v h₁ o₁ n oI₁ pI₁ hs₁ V₁ => ?_
    have S₃ := S'.iter (n := n) sI' bI hq hs₁
    have l₃ := l'.iter (n := n) eI hs₁
    refine it.go oI₁ pI₁ (List.getElem_mem hlt) hgo V₁ ?_
    refine ht A θ' (μs i) _ _ _ _ f S₃ V₁ fun s₄ l₄ S₄ => ?_
    refine hx A θ' s₄ _ _ f hfr hfl S₄ fun fl θ₅ s₅ l₅ S₅ F₅ => ?_
    cases F₅
    have l35 := l₄.trans l₅
    exact ⟨ds.length + 1 - (i + 1), by lia, i + 1, θ₅, o₁, l₃.trans l35, S₅, sI'.keep l35 oI₁, pI₁, sI'.more l35 oI₁, hlt, rfl⟩
  · have hin : i = ds.length := by lia
    obtain rfl := hin.symm
    refine it.done f.handled (l'.v S₁.F) oI' pI' fun h₁ he => ?_
    exact q .next θ' _ (l₁.s.trans (l'.iter (n := s'.toks) eI he)) (S'.iter (n := s'.toks) sI' bI hq he) .next

/-- a name takes what a call gives that may change the frame's slots -/
theorem Ex1F.callS {y x : Str} {py np cp pos : Pos} {e : Expr} {es : List Expr} {ds : List D} {d : D} {f : Addr} {fd : FuncData} (hk : env.kindOf x = some .globalImplicit) (hm : g.mg x = some (.ref f)) (hf : FD g f fd) (h1 : Evs g k env ρ μ (e :: es) ds μ) (h2 : FnS g k (.ref f) ds μ d) (hy : Sto g env y)
    (hd : (x == ("__debug__" : Str)) = false := by decide) (hs : starEach (e :: es) env = (false, eval e env) :: starEach es env := by rfl)
    (hsw : swapsWith (.Call (.Name x np) (e :: es) [] cp) (some (.Name y py)) pos.line env = pure false := by rfl) : Ex1F g k env ρ μ (.Assign [.Name y py] (.Call (.Name x np) (e :: es) [] cp) pos) none (upd ρ y d) μ := by
  intro A θ s Q E ft hfr hfl S q
  refine wpAny_Assign_Name (wpAny_Call_NameR (global_own S hk hm hd ?_)) hsw
  obtain ⟨o, zq⟩ := hf.at_
  have ho := zq.1
  replace zq := zq.2
  have hdat := zq
  clear zq
  refine Calls.callWith_function (o := o) (fd := fd) ?_
  have hb' : backTo cp (starEach (e :: es) env) = (false, eval e env) :: backTo cp (starEach es env) := by rw [hs]; rfl
  rw [hb']
  refine Calls.evalArgs_plain ?_
  rw [← hb']
  refine h1 A θ s cp _ E ft S fun vs θ₁ s₁ l₁ W₁ V₁ => ⟨⟨W₁.base f o hf.out ho, hdat⟩, ?_⟩
  have hθ := th_same S.W l₁ W₁
  subst hθ
  have S₁ : Sta g env θ₁ ρ μ s₁ := S.lat l₁ W₁
  obtain ⟨m, hn, hmm⟩ := S₁.F.locals
  obtain ⟨oL, es', ep, zq⟩ := id hn
  have hoL := zq.1
  replace zq := zq.2
  have hdL := zq.1
  replace zq := zq.2
  have hrL := zq
  clear zq
  have hch : Chain g θ₁ s₁.heap [env] := ⟨fun b hb => by
    rw [List.map_cons, List.map_nil, List.mem_singleton] at hb
    subst hb
    exact ⟨S₁.F.newer.1, S₁.F.out.1, oL, m, hoL, hn⟩, fun e' he' => by rw [List.mem_singleton.mp he']; exact ⟨S.F.kind, hfl⟩⟩
  refine h2 A θ₁ s₁ vs [env] _ E ft hfr hch W₁ V₁ fun v s₂ l₂ W₂ V₂ => ?_
  have keep2 : ∀ b o, b ∉ bad g θ₁ → b ≠ env.locals → s₁.heap.get? b = some o → s₂.heap.get? b = some o := fun b o nb n1 e => l₂.keep b o nb (by simpa using n1) e
  have lv : LatV g θ₁ s₁.heap θ₁ s₂.heap := ⟨⟨[], by simp, fun _ h => nomatch h⟩, fun b o nb e z => keep2 b o nb (fun w => (ns_data hn (w ▸ e)).1 z) e⟩
  have cellOk : ∀ c v, Cl env c → s₁.heap.IsCell c v → s₂.heap.IsCell c v := fun c v hc ⟨o, e, hd⟩ => ⟨o, keep2 c o (fun hb => (List.mem_append.mp hb).elim (S₁.F.newer.2 c hc) (S₁.F.out.2 c hc)) (fun w => (ns_data hn (w ▸ e)).2.2 _ hd) e, hd⟩
  have S₂ : Sta g env θ₁ ρ μ s₂ := by
    obtain ⟨sl, e2⟩ := l₂.slot env.locals oL (by simp) hoL
    refine ⟨W₂, ⟨S₁.F.kind, S₁.F.glob, ⟨m, ⟨_, es', ep, e2, hdL, hrL⟩, fun y d e kd => let ⟨v, hv, V⟩ := hmm y d e kd; ⟨v, hv, V.latV lv⟩⟩, fun c hc => ?_, fun y c d hc e => ?_, S₁.F.apart, S₁.F.newer, S₁.F.out⟩⟩
    · obtain ⟨v, hv⟩ := S₁.F.cell c hc
      exact ⟨v, cellOk c v hc hv⟩
    · obtain ⟨u, hu, U⟩ := S₁.F.cval y c d hc e
      exact ⟨u, cellOk c _ ⟨y, hc⟩ hu, U.latV lv⟩
  have l12 : LatS g env θ₁ s₁ θ₁ s₂ := ⟨⟨[], by simp, fun _ h => nomatch h⟩, fun b o nb n1 _ e => keep2 b o nb n1 e, l₂.alive⟩
  exact store hy S₂ V₂ fun s₃ l₃ S₃ => q _ θ₁ s₃ ((l₁.s.trans l12).trans l₃) S₃ .next
end
end Mine
end

-- part F41
section
set_option maxRecDepth 100000
namespace Mine
open PySem PySem.W PyProof.Rows

section
variable {g : G} {k : Nat} {env : Env} {ρ ρ₁ ρ₂ : En} {μ μ₁ μ₂ : List MO}

def isFl : D → Bool
  | .flt _ => true
  | _ => false
/-- isinstance(x, float) for a float or a text -/
theorem Ev.isFloat {x : Expr} {np fp pos : Pos} {d : D} (hk : env.kindOf "isinstance" = some .globalImplicit) (hm : g.mg "isinstance" = none) (hb : g.mb "isinstance" = some (.builtin "isinstance")) (hkf : env.kindOf "float" = some .globalImplicit) (hmf : g.mg "float" = none) (hbf : g.mb "float" = some (.type "float"))
    (h1 : Ev g k env ρ μ x d μ₁) (hd : (∃ v, d = .flt v) ∨ ∃ v, d = .str v) (hs : starEach [x, .Name "float" fp] env = [(false, eval x env), (false, eval (.Name "float" fp) env)] := by rfl) :
    Ev g k env ρ μ (.Call (.Name "isinstance" np) [x, .Name "float" fp] [] pos) (.bool (isFl d)) μ₁ := by
  intro A θ s Q E f S q
  refine wpAny_Call_NameR (global_builtin S hk hm hb (by decide) ?_)
  rw [hs]
  refine Calls.callWith_builtin rfl (Calls.evalArgs_plain (Calls.spliced_cons (h1 A θ s _ E f S fun v θ₁ s₁ l₁ W₁ V₁ => Calls.spliced_cons (global_builtin (S.lat l₁ W₁) hkf hmf hbf (by decide) (Calls.spliced_nil ?_)))))
  rcases hd with ⟨v', rfl⟩ | ⟨v', rfl⟩
  · cases V₁
    exact PySem.IsiPair.float_float (q _ θ₁ s₁ l₁ W₁ (.bool _))
  · cases V₁
    exact PySem.IsiPair.str_float (q _ θ₁ _ l₁.toks (W₁.tok _) (.bool _))

theorem lay_ints : ∀ ns : List Int, PyData.canLayAll0 (ns.map .int) = true
  | [] => rfl
  | a :: r => by show (true && PyData.canLayAll0 (r.map .int)) = true; rw [lay_ints r]; rfl
theorem depth_ints : ∀ ns : List Int, PyData.depthAll (ns.map .int) = 0
  | [] => rfl
  | a :: r => by show max 0 (PyData.depthAll (r.map .int)) = 0; rw [depth_ints r]; rfl
theorem toPys_ints : ∀ ns : List Int, toPys (iL ns) = some (ns.map .int)
  | [] => rfl
  | a :: r => by
    show ((some (PyData.int a)).bind fun x => (toPys (iL r)).map (x :: ·)) = _
    rw [toPys_ints r]; rfl
theorem toPy_three (a b c : List Int) : toPy (.list [.list (iL a), .list (iL b), .list (iL c)]) = some (.list [.list (a.map .int), .list (b.map .int), .list (c.map .int)]) := by
  have h : ∀ l : List Int, toPy (.list (iL l)) = some (.list (l.map .int)) := fun l => by
    show (toPys (iL l)).map PyData.list = _
    rw [toPys_ints]; rfl
  show (((toPy (.list (iL a))).bind fun x => (((toPy (.list (iL b))).bind fun y => (((toPy (.list (iL c))).bind fun z => (toPys []).map (z :: ·))).map (y :: ·))).map (x :: ·))).map PyData.list = _
  rw [h, h, h]; rfl
theorem shaped_three (a b c : List Int) : SeqAt.shaped (.list [.list (a.map .int), .list (b.map .int), .list (c.map .int)]) = true := by
  unfold SeqAt.shaped
  have h1 : PyData.canLay0 (.list [.list (a.map .int), .list (b.map .int), .list (c.map .int)]) = true := by
    show (PyData.canLayAll0 (a.map .int) && (PyData.canLayAll0 (b.map .int) && (PyData.canLayAll0 (c.map .int) && true))) = true
    rw [lay_ints, lay_ints, lay_ints]; rfl
  have h2 : PyData.depth (.list [.list (a.map .int), .list (b.map .int), .list (c.map .int)]) = 2 := by
    show max (PyData.depthAll (a.map .int) + 1) (max (PyData.depthAll (b.map .int) + 1) (max (PyData.depthAll (c.map .int) + 1) 0)) + 1 = 2
    rw [depth_ints, depth_ints, depth_ints]; rfl
  rw [h1, h2]; rfl
end
end Mine
end

-- part P1
section
set_option maxRecDepth 100000
namespace Mine
open PySem PySem.W PyProof.Rows

def stm (n : Nat) : Stmt := (PySem.Challenge.pw_rs0053_01.main.body[n]?).getD (.Pass default)
def bodyOf : Stmt → List Stmt
  | .FunctionDef _ _ b _ _ _ _ _ _ _ => b
  | _ => []
def parsOf : Stmt → Arguments
  | .FunctionDef _ a _ _ _ _ _ _ _ _ => a
  | _ => ⟨[], [], none, [], [], none, []⟩
def scopeOf : Stmt → Scope
  | .FunctionDef _ _ _ _ _ _ s _ _ _ => s
  | _ => default

/-- a def of the text at an address -/
structure IsDef (g : G) (f : Addr) (st : Stmt) (fd : FuncData) : Prop where
  is : FD g f fd
  pars : fd.params = parsOf st
  body : fd.body = .stmts (bodyOf st)
  scope : fd.scope = scopeOf st
  clo : fd.closure = []
  dflt : fd.defaults = .none
  kwd : fd.kwdefaults = .none

/-- the arguments of a def without defaults -/
theorem bind_pos {s : Shared} {fd : FuncData} {ps : Arguments} {args : Args} {bs : List (Str × Value)} (h1 : fd.params = ps) (h2 : fd.defaults = .none) (h3 : fd.kwdefaults = .none)
    (e : ∀ d : FuncData, bindArgs { d with params := ps, defaults := .none, kwdefaults := .none } args = pure bs) : BindsTo s fd args bs := by
  have e' := e fd
  cases fd
  dsimp only at h1 h2 h3
  subst h1 h2 h3
  exact .of_eq e'
theorem EnvOf.kind {g : G} {f : Addr} {st : Stmt} {fd : FuncData} {env : Env} (x : IsDef g f st fd) (e : EnvOf g f fd env) (y : Str) : env.kindOf y = (scopeOf st).names.lookup y := by
  unfold Env.kindOf; rw [e.scope, x.scope]

def spread (ns : List Int) : Int := ns.length * (ns.map fun x => x * x).sum - ns.sum * ns.sum

theorem spread_fn {g : G} {k : Nat} {μ : List MO} {f : Addr} {fd : FuncData} {ns : List Int} (x : IsDef g f (stm 14) fd)
    (h1 : g.mg "len" = none) (h2 : g.mb "len" = some (.builtin "len")) (h3 : g.mg "sum" = none) (h4 : g.mb "sum" = some (.builtin "sum")) (hz : ns.length ≤ sizeLine)
    (b1 : ∀ y ∈ ns, IntMulOk y y) (b2 : IntMulOk ns.length (ns.map fun x => x * x).sum) (b3 : IntMulOk ns.sum ns.sum) : Fn g (k + 1) (.ref f) [.list (iL ns)] μ (.int (spread ns)) μ := by
  refine Fn.body (ext := []) (d₁ := .int (spread ns)) (names := ["stays"]) (ρ' := [("stays", .list (iL ns))]) x.is x.body x.clo (by rw [x.scope]; decide +kernel) ?_ ?_ rfl (.closed rfl) ?_
  · intro y hy
    rw [List.mem_singleton.mp hy, x.scope]
    exact .inl rfl
  · intro s θ vs W V
    cases V with
    | cons V r => cases r; exact bind_pos x.pars x.dflt x.kwd fun _ => by kernel_rfl
  · intro env e
    rw [List.append_nil]
    show Ex g k env [("stays", .list (iL ns))] μ (bodyOf (stm 14)) _ _ _
    refine Ex.ret (Ex1.ret (Ev.bin (Ev.bin (Ev.callB ((e.kind x _).trans rfl) h1 h2 (Evs.cons (Ev.local rfl ((e.kind x _).trans rfl) (by decide)) Evs.nil) (Bi.len_list (by simpa using hz))) (Ev.callB ((e.kind x _).trans rfl) h3 h4 (Evs.cons (Ev.comp (ρc := []) (es := iL (ns.map fun x => x * x)) (Ev.local rfl ((e.kind x _).trans rfl) (by decide)) (by simpa using hz) (closureFor_none (by decide)) rfl (by decide) (by decide) (fun _ _ h => (nomatch h)) (fun _ _ h => (nomatch h)) (by simp) ?_) Evs.nil) Bi.sum) (Op.mul ?_)) (Ev.bin (Ev.callB ((e.kind x _).trans rfl) h3 h4 (Evs.cons (Ev.local rfl ((e.kind x _).trans rfl) (by decide)) Evs.nil) Bi.sum) (Ev.callB ((e.kind x _).trans rfl) h3 h4 (Evs.cons (Ev.local rfl ((e.kind x _).trans rfl) (by decide)) Evs.nil) Bi.sum) (Op.mul b3)) ?_))
    · intro i d e' hd he
      simp only [List.getElem?_map, Option.map_eq_some_iff] at hd he
      obtain ⟨a, ha, rfl⟩ := hd
      obtain ⟨b, ⟨a', ha', rfl⟩, rfl⟩ := he
      rw [ha] at ha'; cases ha'
      refine ⟨GoOk.name, rfl, fun C μ' _ _ => ⟨_, fun _ _ h => (nomatch h), Tg.name (.inl ⟨rfl, rfl⟩), Ev.bin (Ev.local rfl rfl (by decide)) (Ev.local rfl rfl (by decide)) (Op.mul (b1 a (List.mem_of_getElem? ha)))⟩⟩
    · simpa using b2
    · have := @Op.sub g k (↑(iL ns).length * (List.map (fun x => x * x) ns).sum) (ns.sum * ns.sum)
      simpa [spread] using this
end Mine
end

-- part P2
section
set_option maxRecDepth 100000
namespace Mine
open PySem PySem.W PyProof.Rows

theorem notInter {g : G} {f : Addr} {st : Stmt} {fd : FuncData} {env : Env} (x : IsDef g f st fd) (e : EnvOf g f fd env) : interactive env = false := by
  unfold interactive; rw [e.scope, x.is.plain.2.2]; rfl
/-- a local name may be stored -/
theorem sto {g : G} {f : Addr} {st : Stmt} {fd : FuncData} {env : Env} (x : IsDef g f st fd) (e : EnvOf g f fd env) {y : Str} (h : (scopeOf st).names.lookup y = some .local) : Sto g env y :=
  .inl ⟨(e.kind x y).trans h, (e.noCell y (by rw [x.scope, h]; decide)).trans (by rw [x.clo]; rfl)⟩
theorem stoC {g : G} {f : Addr} {st : Stmt} {fd : FuncData} {env : Env} (x : IsDef g f st fd) (e : EnvOf g f fd env) {y : Str} (h : (scopeOf st).names.lookup y = some .cell) : Sto g env y :=
  .inr ⟨(e.kind x y).trans h, by rw [e.func]; rfl, e.cell y (by rw [x.scope]; exact h)⟩
theorem set_last {μ : List MO} {a b : MO} : (μ ++ [a]).set μ.length b = μ ++ [b] := by
  rw [List.set_append_right _ _ (Nat.le_refl _), Nat.sub_self]; rfl
theorem get_last {μ : List MO} {a : MO} : (μ ++ [a])[μ.length]? = some a := by simp

structure DS where
  hour : Int
  lying : Int
  out : List (Bool × Int × Int)
def comesB (count lying : Int) (n : Nat) (x : Int) : Bool := decide (lying < 2 * count - (n : Int)) && (lying == 0 || Int.fmod x 2 == 0)
def dstep (count : Int) (s : DS) (x : Int) : DS :=
  let c := comesB count s.lying s.out.length x
  let h := s.hour + 1 + Int.fmod (Int.fdiv x 2) 9
  ⟨h, if c = true then s.lying + 1 else s.lying - 1, s.out ++ [(c, h, Int.fdiv x 18)]⟩
def dfold (count : Int) (xs : List Int) : DS := xs.foldl (dstep count) ⟨0, 0, []⟩
def deedD (d : Bool × Int × Int) : D := .tup [.bool d.1, .int d.2.1, .int d.2.2]
def deedsD (l : List (Bool × Int × Int)) : List D := l.map deedD
def dxs (cells : List Int) (count : Nat) : List Int := (cells ++ [2, 4, 23, 0, 6, 41, 9, 1]).take (2 * count)

theorem pylong_small {a b : Int} (h0 : b ≠ 0) (h : b.natAbs < 2 ^ 60) : Builtin.divisionGoesByPylong a b = false := by
  unfold Builtin.divisionGoesByPylong
  have h1 : (b == 0) = false := by simpa using h0
  have h2 : b.natAbs ≠ 0 := by lia
  have h3 : b.natAbs.log2 < 60 := (Nat.log2_lt h2).mpr h
  simp only [h1, Bool.false_eq_true, if_false]
  have : ¬ (b.natAbs.log2 / 30 + 1 > 300) := by lia
  simp [this]

theorem deeds_fn {g : G} {k : Nat} {μ : List MO} {f : Addr} {fd : FuncData} {cells : List Int} {count : Nat} (x : IsDef g f (stm 9) fd)
    (h1 : g.mg "len" = none) (h2 : g.mb "len" = some (.builtin "len")) (hz : cells.length ≤ 100) (hc : count ≤ 4) :
    Fn g (k + 1) (.ref f) [.list (iL cells), .int count] μ (.list (deedsD (dfold count (dxs cells count)).out)) μ := by
  let S (i : Nat) : DS := dfold count ((dxs cells count).take i)
  have hlen : ∀ i, (S i).out.length ≤ i := fun i => by
    have key : ∀ (ys : List Int) (s0 : DS), (ys.foldl (dstep count) s0).out.length = s0.out.length + ys.length := by
      intro ys
      induction ys with
      | nil => intro s0; simp
      | cons y r ih => intro s0; rw [List.foldl_cons, ih]; simp [dstep]; lia
    show ((List.take i (dxs cells count)).foldl (dstep count) ⟨0, 0, []⟩).out.length ≤ i
    rw [key, List.length_take]
    simp; lia
  refine Fn.body (ext := [.list (deedsD (dfold count (dxs cells count)).out)]) (d₁ := .ob μ.length) (names := ["cells", "count"])
    (ρ' := [("cells", .list (iL cells)), ("count", .int count), ("deeds", .ob μ.length), ("hour", .int (S (dxs cells count).length).hour), ("lying", .int (S (dxs cells count).length).lying)]) x.is x.body x.clo (by rw [x.scope]; decide +kernel) ?_ ?_ rfl (.ob (Nat.le_refl _) get_last) ?_
  · intro y hy
    rw [x.scope]
    rcases List.mem_cons.mp hy with rfl | hy
    · exact .inl rfl
    · rw [List.mem_singleton.mp hy]; exact .inl rfl
  · intro s θ vs W V
    cases V with
    | cons V r => cases r with
      | cons V' r' => cases r'; exact bind_pos x.pars x.dflt x.kwd fun _ => by kernel_rfl
  · intro env e
    show Ex g k env [("cells", .list (iL cells)), ("count", .int count)] μ (bodyOf (stm 9)) _ _ _
    have K := fun y => e.kind x y
    refine Ex.cons (Ex1.assign (Ev.newOb Evs.nil (Nat.zero_le _) rfl) (sto x e rfl)) ?_
    refine Ex.cons (Ex1.unpack (Ev.tup (Evs.cons Ev.int (Evs.cons Ev.int Evs.nil)) (by decide)) (TgL.cons (sto x e rfl) (TgL.cons (sto x e rfl) TgL.nil)) rfl ?_) ?_
    · unfold swappedStores
      dsimp only
      split
      · rfl
      · split
        · rfl
        · split
          · rfl
          · split
            · rfl
            · rename_i h
              exact absurd rfl h
    refine Ex.cons (Ex1.forL (ds := iL (dxs cells count)) ?_ (fun i => [("cells", .list (iL cells)), ("count", .int count), ("deeds", .ob μ.length), ("hour", .int (S i).hour), ("lying", .int (S i).lying)]) (fun i => μ ++ [.list (deedsD (S i).out)]) rfl rfl ?_) ?_
    · have hd : D.list (iL (dxs cells count)) = .list (cut (iL cells ++ [.int 2, .int 4, .int 23, .int 0, .int 6, .int 41, .int 9, .int 1]) none (some (2 * count))) := by
        simp [dxs, cut, iL, List.map_take]
      rw [hd]
      have hm : D.int ((2 * count : Nat) : Int) = .int (2 * (count : Int)) := by simp
      refine Ev.slice (Ev.bin (Ev.local rfl ((K _).trans rfl) (by decide)) (Ev.list (Evs.cons Ev.int (Evs.cons Ev.int (Evs.cons Ev.int (Evs.cons Ev.int (Evs.cons Ev.int (Evs.cons Ev.int (Evs.cons Ev.int (Evs.cons Ev.int Evs.nil)))))))) (by decide)) (Op.cat ?_)) .none (.some ?_) (.inl rfl) ?_
      · simp [sizeLine_eq]; lia
      · rw [hm]
        exact Ev.bin Ev.int (Ev.local rfl ((K _).trans rfl) (by decide)) (Op.mul (.of_left (by decide)))
      · simp [sizeLine_eq]; lia
    · intro i d hd
      rw [List.getElem?_map, Option.map_eq_some_iff] at hd
      obtain ⟨y, hy, rfl⟩ := hd
      have hi : i < (dxs cells count).length := (List.getElem?_eq_some_iff.mp hy).1
      have hS : S (i + 1) = dstep count (S i) y := by
        show List.foldl _ _ _ = _
        rw [List.take_add_one, hy, List.foldl_append]; rfl
      have hl8 : (dxs cells count).length ≤ 8 := by simp [dxs]; lia
      have hol := hlen i
      refine ⟨GoOk.name, _, Tg.name (sto x e rfl), ?_⟩
      rw [hS]
      have hset : μ ++ [MO.list (deedsD (dstep count (S i) y).out)] = (μ ++ [MO.list (deedsD (S i).out)]).set μ.length (.list (deedsD (S i).out ++ [deedD (comesB count (S i).lying (S i).out.length y, (S i).hour + 1 + Int.fmod (Int.fdiv y 2) 9, Int.fdiv y 18)])) := by
        rw [set_last]; simp [dstep, deedsD]
      rw [hset]
      refine Ex.sub (Ex.cons (Ex1.assign (d := .bool (comesB count (S i).lying (S i).out.length y)) (Ev.cast (Ev.and2 (Ev.cmp (Ev.bin (Ev.bin Ev.int (Ev.local rfl ((K _).trans rfl) (by decide)) (Op.mul (.of_left (by decide)))) (Ev.callB ((K _).trans rfl) h1 h2 (Evs.cons (Ev.local rfl ((K _).trans rfl) (by decide)) Evs.nil) (Bi.len_mut get_last (by simp [deedsD, sizeLine_eq]; lia))) Op.sub) (Ev.local rfl ((K _).trans rfl) (by decide)) Op.gt) (fun _ => Ev.or2 (Ev.cmp (Ev.local rfl ((K _).trans rfl) (by decide)) Ev.int Op.eq) (fun _ => Ev.cmp (Ev.bin (Ev.local rfl ((K _).trans rfl) (by decide)) Ev.int (Op.mod (by decide))) Ev.int Op.eq))) (by simp [comesB, deedsD])) (sto x e rfl))
        (Ex.cons (Ex1.assign (Ev.bin (Ev.bin (Ev.local rfl ((K _).trans rfl) (by decide)) Ev.int Op.add) (Ev.bin (Ev.bin (Ev.local rfl ((K _).trans rfl) (by decide)) Ev.int (Op.div (by decide) (pylong_small (by decide) (by decide)))) Ev.int (Op.mod (by decide))) Op.add) (sto x e rfl))
        (Ex.cons (Ex1.assign (d := .int (dstep count (S i) y).lying) (Ev.ite (Te.val (Ev.local rfl ((K _).trans rfl) (by decide))) ?_) (sto x e rfl))
        (Ex.cons (Ex1.expr (Ev.append (ds := deedsD (S i).out) (Ev.local rfl ((K _).trans rfl) (by decide)) (Ev.tup (Evs.cons (Ev.local rfl ((K _).trans rfl) (by decide)) (Evs.cons (Ev.local rfl ((K _).trans rfl) (by decide)) (Evs.cons (Ev.bin (Ev.local rfl ((K _).trans rfl) (by decide)) Ev.int (Op.div (by decide) (pylong_small (by decide) (by decide)))) Evs.nil))) (by simp [sizeLine_eq])) get_last get_last rfl (by simp [deedsD, sizeLine_eq]; lia)) (notInter x e)) Ex.nil)))) ?_
      · show if comesB count (S i).lying (S i).out.length y = true then _ else _
        cases hcb : comesB count (S i).lying (S i).out.length y with
        | true =>
          skip
          exact Ev.cast (Ev.bin (Ev.local rfl ((K _).trans rfl) (by decide)) Ev.int Op.add) (by simp [dstep, hcb])
        | false =>
          skip
          exact Ev.cast (Ev.bin (Ev.local rfl ((K _).trans rfl) (by decide)) Ev.int Op.sub) (by simp [dstep, hcb])
      · exact subOf (List.forall_mem_cons.mpr ⟨rfl, List.forall_mem_cons.mpr ⟨rfl, List.forall_mem_cons.mpr ⟨rfl, List.forall_mem_cons.mpr ⟨rfl, List.forall_mem_cons.mpr ⟨rfl, List.forall_mem_nil _⟩⟩⟩⟩⟩)
    · have hn : (iL (dxs cells count)).length = (dxs cells count).length := by simp
      have hw : S (dxs cells count).length = dfold count (dxs cells count) := by show dfold _ _ = _; rw [List.take_length]
      rw [hn]
      have hg : (μ ++ [MO.list (deedsD (dfold count (dxs cells count)).out)]) = μ ++ [MO.list (deedsD (S (dxs cells count).length).out)] := by rw [hw]
      rw [hg]
      exact Ex.ret (Ex1.ret (Ev.local rfl ((K _).trans rfl) (by decide)))
end Mine
end

-- part P3
section
set_option maxRecDepth 100000
namespace Mine
open PySem PySem.W PyProof.Rows

abbrev Deed := Bool × Int × Int
abbrev Way := List Int × List Int
def goOut (h : Int) (x : Way) (p : Nat) : Way := (x.1.take p ++ x.1.drop (p + 1), x.2 ++ [h - x.1.getD p 0])
def wstep (w : List Way) (d : Deed) : List Way :=
  if d.1 = true then w.map fun x => (x.1 ++ [d.2.1], x.2) else w.flatMap fun x => (List.range x.1.length).map (goOut d.2.1 x)
def wfold (deeds : List Deed) : List Way := deeds.foldl wstep [([], [])]
def wayD (x : Way) : D := .tup [.list (iL x.1), .list (iL x.2)]
def waysD (w : List Way) : List D := w.map wayD

theorem wfold_bound : ∀ (deeds : List Deed) (n : Nat), deeds.length ≤ n → n ≤ 8 → (∀ x ∈ wfold deeds, x.1.length ≤ deeds.length ∧ x.2.length ≤ deeds.length) ∧ (wfold deeds).length ≤ 8 ^ deeds.length := by
  intro deeds n hn h8
  have h8' : deeds.length ≤ 8 := by lia
  clear hn h8 n
  suffices ∀ (deeds : List Deed) (w0 : List Way) (m : Nat), m + deeds.length ≤ 8 → (∀ x ∈ w0, x.1.length ≤ m ∧ x.2.length ≤ m) → w0.length ≤ 8 ^ m →
      (∀ x ∈ deeds.foldl wstep w0, x.1.length ≤ m + deeds.length ∧ x.2.length ≤ m + deeds.length) ∧ (deeds.foldl wstep w0).length ≤ 8 ^ (m + deeds.length) by
    have := this deeds [([], [])] 0 (by lia) (by decide) (by simp)
    simpa [wfold] using this
  intro deeds
  induction deeds with
  | nil => intro w0 m _ h1 h2; simpa using ⟨fun a b h => h1 (a, b) h, h2⟩
  | cons d r ih =>
    intro w0 m hm h1 h2
    rw [List.foldl_cons]
    simp only [List.length_cons] at hm ⊢
    have e : m + (r.length + 1) = (m + 1) + r.length := by lia
    rw [e]
    apply ih
    · lia
    · intro x hx
      unfold wstep at hx
      split at hx
      · obtain ⟨y, hy, rfl⟩ := List.mem_map.mp hx
        have := h1 y hy
        simp; lia
      · obtain ⟨y, hy, hx⟩ := List.mem_flatMap.mp hx
        obtain ⟨p, hp, rfl⟩ := List.mem_map.mp hx
        have := h1 y hy
        simp [goOut]; omega
    · unfold wstep
      have e2 : 8 ^ (m + 1) = 8 * 8 ^ m := by rw [Nat.pow_succ]; lia
      split
      · rw [List.length_map, e2]; lia
      · rw [List.length_flatMap, e2]
        have key : ∀ (w : List Way), (∀ x ∈ w, x.1.length ≤ m) → (w.map fun a => ((List.range a.1.length).map (goOut d.2.1 a)).length).sum ≤ 8 * w.length := by
          intro w
          induction w with
          | nil => intro _; simp
          | cons y t iht =>
            intro hy
            have h3 := iht fun x hx => hy x (.tail _ hx)
            have h4 := hy y (.head _)
            simp only [List.map_cons, List.sum_cons, List.length_map, List.length_range, List.length_cons] at h3 ⊢
            lia
        have := key w0 fun x hx => (h1 x hx).1
        lia

theorem iL_len (ns : List Int) : (iL ns).length = ns.length := by simp
theorem pow8 {n : Nat} (h : n ≤ 8) : 8 ^ n ≤ sizeLine := by
  rw [sizeLine_eq]
  exact Nat.le_trans (Nat.pow_le_pow_right (by decide) h) (by decide)

theorem comp_func {scope : Scope} {cl : List (Str × Addr)} {C : Addr} {env : Env} : (compEnvC scope cl C env).func = none := rfl

theorem closureFor_free {scope : Scope} {env : Env} {x : Str} {c : Addr} (h : scope.names.filter (fun y => y.2 == .free) = [(x, .free)]) (hc : env.cells.lookup x = some c) : closureFor scope env = pure [(x, c)] := by
  obtain ⟨l₁, l₂, zq⟩ := List.filter_eq_cons_iff.mp h
  have e := zq.1
  replace zq := zq.2
  have h1 := zq.1
  replace zq := zq.2
  have h2 := zq.1
  replace zq := zq.2
  have h3 := zq
  clear zq
  refine closureFor_one l₁ l₂ e (fun y hy => ?_) (fun y hy => ?_) hc
  · have := h1 y hy
    simpa using this
  · have := List.filter_eq_nil_iff.mp h3 y hy
    simpa using this
theorem closed_map {α : Type} {f : α → D} : ∀ {l : List α}, (∀ x ∈ l, (f x).closed = true) → closedAll (l.map f) = true
  | [], _ => rfl
  | a :: r, h => by
    show ((f a).closed && closedAll (r.map f)) = true
    rw [h a (.head _), closed_map fun x hx => h x (.tail _ hx)]; rfl
theorem closed_iL (ns : List Int) : closedAll (iL ns) = true := closed_map fun _ _ => rfl
theorem closed_way (x : Way) : (wayD x).closed = true := by
  show (closedAll (iL x.1) && (closedAll (iL x.2) && true)) = true
  rw [closed_iL, closed_iL]; rfl
theorem blockFn {env : Env} (h : env.scope.kind = .function) : env.blockKind = .function := by unfold Env.blockKind; rw [h]; rfl
theorem flat1 {α β : Type} (f : α → β) (l : List α) : (l.map fun x => [f x]).flatten = l.map f := by
  induction l with
  | nil => rfl
  | cons a r ih => simp [ih]

theorem swap_true {elt : Expr} {gens : List Comprehension} {scope : Scope} {pos py : Pos} {y : Str} {n : Nat} {env : Env} (hb : env.blockKind = .function) (hk : env.kindOf y = some .local)
    (h : (py.line == (Expr.ListComp elt gens scope pos).pos.line && !(scope.names.any fun (n, k) => n == y && (k == .local || k == .cell))) = true) : swapsWith (.ListComp elt gens scope pos) (some (.Name y py)) n env = pure true := by
  unfold swapsWith
  dsimp only
  rw [hb, hk]
  have := Bool.and_eq_true_iff.mp h
  rw [this.1, this.2]; rfl
theorem one_lookup {α : Type} {x a : Str} {b y : α} (h : [(a, b)].lookup x = some y) : x = a ∧ y = b := by
  rw [List.lookup_cons] at h
  by_cases hx : x = a
  · subst hx; simp at h; exact ⟨rfl, h.symm⟩
  · have : (x == a) = false := by simpa using hx
    rw [this] at h; cases h

theorem ways_fn {g : G} {k : Nat} {μ : List MO} {f : Addr} {fd : FuncData} {deeds : List Deed} (x : IsDef g f (stm 10) fd)
    (h1 : g.mg "len" = none) (h2 : g.mb "len" = some (.builtin "len")) (h3 : g.mg "range" = none) (h4 : g.mb "range" = some (.type "range")) (hz : deeds.length ≤ 8) :
    Fn g (k + 1) (.ref f) [.list (deedsD deeds)] μ (.list ((wfold deeds).map fun x => .list (iL x.2))) μ := by
  let S (i : Nat) : List Way := wfold (deeds.take i)
  have hS : ∀ i, (∀ x ∈ S i, x.1.length ≤ 8 ∧ x.2.length ≤ 8) ∧ (S i).length ≤ sizeLine := fun i => by
    have hl : (deeds.take i).length ≤ 8 := by rw [List.length_take]; lia
    have := wfold_bound (deeds.take i) 8 hl (Nat.le_refl _)
    exact ⟨fun x hx => by have := this.1 x hx; lia, Nat.le_trans this.2 (pow8 hl)⟩
  refine Fn.body (ext := []) (d₁ := .list ((wfold deeds).map fun x => .list (iL x.2))) (names := ["deeds"])
    (ρ' := [("deeds", .list (deedsD deeds)), ("ways", .list (waysD (S deeds.length)))]) x.is x.body x.clo (by rw [x.scope]; decide +kernel) ?_ ?_ rfl (.closed ?_) ?_
  · intro y hy
    rw [List.mem_singleton.mp hy, x.scope]
    exact .inl rfl
  · intro s θ vs W V
    cases V with
    | cons V r => cases r; exact bind_pos x.pars x.dflt x.kwd fun _ => by kernel_rfl
  · exact closed_map fun y _ => closed_iL y.2
  · intro env e
    rw [List.append_nil]
    show Ex g k env [("deeds", .list (deedsD deeds))] μ (bodyOf (stm 10)) _ _ _
    have K := fun y => e.kind x y
    obtain ⟨c, zq⟩ := e.cell "hour" (by rw [x.scope]; rfl)
    have hc := zq.1
    replace zq := zq.2
    have hcB := zq
    clear zq
    refine Ex.cons (Ex1.assign (Ev.list (Evs.cons (Ev.tup (Evs.cons (Ev.list Evs.nil (by decide)) (Evs.cons (Ev.list Evs.nil (by decide)) Evs.nil)) (by decide)) Evs.nil) (by decide)) (sto x e rfl)) ?_
    refine Ex.cons (Ex1.forI (ds := deedsD deeds) (Itb.list (Ev.local rfl ((K _).trans rfl) (by decide))) (fun i => [("deeds", .list (deedsD deeds)), ("ways", .list (waysD (S i)))]) (fun i => μ) rfl rfl ?_) ?_
    · intro i d hd
      simp only [deedsD, List.getElem?_map, Option.map_eq_some_iff] at hd
      obtain ⟨⟨cm, h, pk⟩, hy, rfl⟩ := hd
      have hS1 : S (i + 1) = wstep (S i) (cm, h, pk) := by
        show List.foldl _ _ _ = _
        rw [List.take_add_one, hy, List.foldl_append]; rfl
      refine ⟨GoK.tup, _, Tg.tup (TgL.cons (sto x e rfl) (TgL.cons (stoC x e rfl) (TgL.cons (sto x e rfl) TgL.nil))), ?_⟩
      have hfk : env.scope.kind = .function := by rw [e.scope]; exact x.is.plain.2.2
      refine Ex.sub (Ex.cons (Ex1.ite (ρ₂ := [("deeds", .list (deedsD deeds)), ("ways", .list (waysD (S (i + 1)))), ("comes", .bool cm), ("hour", .int h), ("pick", .int pk)]) (μ₂ := μ) (Te.val (Ev.local rfl ((K _).trans rfl) (by decide))) ?_) Ex.nil) (subOf (List.forall_mem_cons.mpr ⟨rfl, List.forall_mem_cons.mpr ⟨rfl, List.forall_mem_nil _⟩⟩))
      have hb := hS i
      have hb1 := hS (i + 1)
      cases cm with
      | true =>
        dsimp only [if_true]
        refine Ex.cons (Cmp.assign (Cmp.of [("hour", c)] [("hour", .int h)] (waysD (S i)) ((S i).map fun x => [wayD (x.1 ++ [h], x.2)]) .one (Itb.list (Ev.local rfl ((K _).trans rfl) (by decide))) ?_ ?_ (closureFor_free (by decide) hc) rfl (by decide) (by decide) ?_ ?_ (by simp [waysD]) ?_ (by intro _; rfl)) (sto x e rfl) ?_) Ex.nil
        · rw [flat1, hS1]
          simp [wstep, waysD]
        · rw [flat1, List.length_map]; exact hb.2
        · intro y c' h'
          obtain ⟨rfl, rfl⟩ := one_lookup h'
          exact hc
        · intro y d' h'
          obtain ⟨rfl, rfl⟩ := one_lookup h'
          exact ⟨rfl, rfl, comp_noLocal rfl⟩
        · intro C j d es hd he
          simp only [waysD, List.getElem?_map, Option.map_eq_some_iff] at hd he
          obtain ⟨a, ha, rfl⟩ := hd
          obtain ⟨a', ha', rfl⟩ := he
          rw [ha] at ha'; cases ha'
          have hab := hb.1 a (List.mem_of_getElem? ha)
          refine ⟨GoK.tup, _, _, Tg.tup (TgL.cons (.inl ⟨rfl, rfl⟩) (TgL.cons (.inl ⟨rfl, rfl⟩) TgL.nil)), Bd.emit ?_ fun μ' _ => Ev.cast (Ev.tup (Evs.cons (Ev.bin (Ev.local rfl rfl (by decide)) (Ev.list (Evs.cons (Ev.cell rfl (comp_cell rfl hfk ((K _).trans rfl)) rfl (by decide)) Evs.nil) (by simp [sizeLine_eq])) (Op.cat ?_)) (Evs.cons (Ev.local rfl rfl (by decide)) Evs.nil)) (by simp [sizeLine_eq])) ?_, ?_⟩
          · exact closed_way _
          · rw [iL_len, sizeLine_eq]; simp; lia
          · simp [wayD]
          · intro y d' h'
            obtain ⟨rfl, rfl⟩ := one_lookup h'
            rfl
        · exact swap_true (blockFn hfk) ((K _).trans rfl) (by decide)
      | false =>
        dsimp only [Bool.false_eq_true, if_false]
        refine Ex.cons (Cmp.assign (Cmp.of [("hour", c)] [("hour", .int h)] (waysD (S i)) ((S i).map fun x => (List.range x.1.length).map fun p => wayD (goOut h x p)) .two (Itb.list (Ev.local rfl ((K _).trans rfl) (by decide))) ?_ ?_ (closureFor_free (by decide) hc) rfl (by decide) (by decide) ?_ ?_ (by simp [waysD]) ?_ (by intro _; rfl)) (sto x e rfl) ?_) Ex.nil
        · rw [hS1]
          simp [wstep, waysD, List.flatMap, List.map_flatten, Function.comp_def]
        · have : ((S i).map fun x => (List.range x.1.length).map fun p => wayD (goOut h x p)).flatten.length = (S (i + 1)).length := by
            rw [hS1]
            simp [wstep, List.flatMap, List.length_flatten, Function.comp_def]
          rw [this]; exact hb1.2
        · intro y c' h'
          obtain ⟨rfl, rfl⟩ := one_lookup h'
          exact hc
        · intro y d' h'
          obtain ⟨rfl, rfl⟩ := one_lookup h'
          exact ⟨rfl, rfl, comp_noLocal rfl⟩
        · intro C j d es hd he
          simp only [waysD, List.getElem?_map, Option.map_eq_some_iff] at hd he
          obtain ⟨a, ha, rfl⟩ := hd
          obtain ⟨a', ha', rfl⟩ := he
          rw [ha] at ha'; cases ha'
          have hab := hb.1 a (List.mem_of_getElem? ha)
          rw [← flat1]
          refine ⟨GoK.tup, _, _, Tg.tup (TgL.cons (.inl ⟨rfl, rfl⟩) (TgL.cons (.inl ⟨rfl, rfl⟩) TgL.nil)), Bd.inner (ds := rng a.1.length) rfl (fun μ' _ => Itb.range (comp_kind rfl (by decide)) h3 h4 (Ev.cast (Ev.callB (comp_kind rfl (by decide)) h1 h2 (Evs.cons (Ev.local rfl rfl (by decide)) Evs.nil) (Bi.len_list (by rw [iL_len, sizeLine_eq]; lia))) (by rw [iL_len])) (by lia)) (by simp [rng]) ?_, ?_⟩
          · intro j d es hd he
            simp only [rng, List.getElem?_map, Option.map_eq_some_iff] at hd he
            obtain ⟨q, hq, rfl⟩ := hd
            obtain ⟨q', hq', rfl⟩ := he
            rw [hq] at hq'; cases hq'
            have hql : q < a.1.length := by
              have := List.mem_of_getElem? hq
              simpa using this
            refine ⟨GoK.name, _, _, Tg.name (.inl ⟨rfl, rfl⟩), Bd.emit (closed_way _) fun μ' _ => Ev.cast (Ev.tup (Evs.cons (Ev.bin (Ev.slice (Ev.local rfl rfl (by decide)) .none (.some (Ev.local rfl rfl (by decide))) (.inl rfl) ?_) (Ev.slice (a := some (q + 1)) (Ev.local rfl rfl (by decide)) (.some (Ev.cast (Ev.bin (Ev.local rfl rfl (by decide)) Ev.int Op.add) (by simp))) .none (.inr rfl) ?_) (Op.cat ?_)) (Evs.cons (Ev.bin (Ev.local rfl rfl (by decide)) (Ev.list (Evs.cons (Ev.bin (Ev.cell rfl (comp_cell rfl hfk ((K _).trans rfl)) rfl (by decide)) (Ev.item_list (d := .int (a.1.getD q 0)) (Ev.local rfl rfl (by decide)) (Ev.local rfl rfl (by decide)) ?_ ?_ ?_) Op.sub) Evs.nil) (by simp [sizeLine_eq])) (Op.cat ?_)) Evs.nil)) (by simp [sizeLine_eq])) ?_, ?_⟩
            · rw [iL_len, sizeLine_eq]; lia
            · rw [iL_len, sizeLine_eq]; lia
            · simp [cut, sizeLine_eq]; lia
            · lia
            · lia
            · simp [hql]
            · simp [sizeLine_eq]; lia
            · simp [wayD, goOut, cut, List.map_take, List.map_drop]
            · intro y d' h'
              rw [upd_lookup, if_neg, h']
              intro z
              subst z
              cases h'
          · intro y d' h'
            obtain ⟨rfl, rfl⟩ := one_lookup h'
            rfl
        · exact swap_true (blockFn hfk) ((K _).trans rfl) (by decide)
    · have hn : (deedsD deeds).length = deeds.length := by simp [deedsD]
      rw [hn]
      refine Ex.ret (Ex1.ret (Cmp.ev (Cmp.of [] [] (waysD (S deeds.length)) ((S deeds.length).map fun x => [D.list (iL x.2)]) .one (Itb.list (Ev.local rfl ((K _).trans rfl) (by decide))) ?_ ?_ (closureFor_none (by decide)) rfl (by decide) (by decide) (fun _ _ h => (nomatch h)) (fun _ _ h => (nomatch h)) (by simp [waysD]) ?_ (by intro _; rfl))))
      · rw [flat1]
        show List.map _ (wfold deeds) = List.map _ (wfold (deeds.take deeds.length))
        rw [List.take_length]
      · rw [flat1, List.length_map]; exact (hS _).2
      · intro C j d es hd he
        simp only [waysD, List.getElem?_map, Option.map_eq_some_iff] at hd he
        obtain ⟨a, ha, rfl⟩ := hd
        obtain ⟨a', ha', rfl⟩ := he
        rw [ha] at ha'; cases ha'
        exact ⟨GoK.tup, _, _, Tg.tup (TgL.cons (.inl ⟨rfl, rfl⟩) (TgL.cons (.inl ⟨rfl, rfl⟩) TgL.nil)), Bd.emit (closed_iL _) fun μ' _ => Ev.local rfl rfl (by decide), fun _ _ h => (nomatch h)⟩
end Mine
end

-- part P4
section
set_option maxRecDepth 100000
namespace Mine
open PySem PySem.W PyProof.Rows

def pickAt (pk : Int) (n : Nat) : Nat := (Int.fmod pk n).toNat
def plstep (s : Way) (d : Deed) : Way :=
  if d.1 = true then (s.1 ++ [d.2.1], s.2) else (s.1.eraseIdx (pickAt d.2.2 s.1.length), s.2 ++ [d.2.1 - s.1.getD (pickAt d.2.2 s.1.length) 0])
def plfold (deeds : List Deed) : Way := deeds.foldl plstep ([], [])
theorem pickAt_lt {pk : Int} {n : Nat} (h : 0 < n) : pickAt pk n < n := by
  unfold pickAt
  have h1 := Int.fmod_nonneg_of_pos pk (b := (n : Int)) (by lia)
  have h2 := Int.fmod_lt_of_pos pk (b := (n : Int)) (by lia)
  omega
theorem pickAt_int {pk : Int} {n : Nat} (h : 0 < n) : ((pickAt pk n : Nat) : Int) = Int.fmod pk n := by
  unfold pickAt
  have h1 := Int.fmod_nonneg_of_pos pk (b := (n : Int)) (by lia)
  lia
theorem plfold_bound (deeds : List Deed) : (plfold deeds).1.length ≤ deeds.length ∧ (plfold deeds).2.length ≤ deeds.length := by
  suffices ∀ (deeds : List Deed) (s : Way) (m : Nat), s.1.length ≤ m → s.2.length ≤ m → (deeds.foldl plstep s).1.length ≤ m + deeds.length ∧ (deeds.foldl plstep s).2.length ≤ m + deeds.length by
    have := this deeds ([], []) 0 (by simp) (by simp)
    simpa [plfold] using this
  intro deeds
  induction deeds with
  | nil => intro s m h1 h2; simpa using ⟨h1, h2⟩
  | cons d r ih =>
    intro s m h1 h2
    rw [List.foldl_cons, List.length_cons]
    have := ih (plstep s d) (m + 1) (by
      unfold plstep
      split
      · simp; omega
      · simp [List.length_eraseIdx]; split <;> lia) (by
      unfold plstep
      split
      · simp; lia
      · simp; omega)
    lia

theorem iL_erase : ∀ (l : List Int) (p : Nat), iL (l.eraseIdx p) = (iL l).eraseIdx p
  | [], p => by simp
  | a :: r, 0 => rfl
  | a :: r, p + 1 => by
    show D.int a :: iL (r.eraseIdx p) = D.int a :: (iL r).eraseIdx p
    rw [iL_erase r p]
theorem places_fn {g : G} {k : Nat} {μ : List MO} {f : Addr} {fd : FuncData} {deeds : List Deed} (x : IsDef g f (stm 11) fd)
    (h1 : g.mg "len" = none) (h2 : g.mb "len" = some (.builtin "len")) (hz : deeds.length ≤ 8) (hok : ∀ i d, deeds[i]? = some d → d.1 = false → (plfold (deeds.take i)).1 ≠ []) :
    Fn g (k + 1) (.ref f) [.list (deedsD deeds)] μ (.list (iL (plfold deeds).2)) μ := by
  let S (i : Nat) : Way := plfold (deeds.take i)
  have hS : ∀ i, (S i).1.length ≤ 8 ∧ (S i).2.length ≤ 8 := fun i => by
    have := plfold_bound (deeds.take i)
    rw [List.length_take] at this
    exact ⟨by show (plfold _).1.length ≤ 8; lia, by show (plfold _).2.length ≤ 8; lia⟩
  have hSn : S deeds.length = plfold deeds := by show plfold _ = _; rw [List.take_length]
  refine Fn.body (ext := [.list (iL (plfold deeds).1), .list (iL (plfold deeds).2)]) (d₁ := .ob (μ.length + 1)) (names := ["deeds"])
    (ρ' := [("deeds", .list (deedsD deeds)), ("there", .ob μ.length), ("stays", .ob (μ.length + 1))]) x.is x.body x.clo (by rw [x.scope]; decide +kernel) ?_ ?_ rfl (.ob (Nat.le_succ _) (by simp)) ?_
  · intro y hy
    rw [List.mem_singleton.mp hy, x.scope]
    exact .inl rfl
  · intro s θ vs W V
    cases V with
    | cons V r => cases r; exact bind_pos x.pars x.dflt x.kwd fun _ => by kernel_rfl
  · intro env e
    show Ex g k env [("deeds", .list (deedsD deeds))] μ (bodyOf (stm 11)) _ _ _
    have K := fun y => e.kind x y
    refine Ex.cons (Ex1.assign (Ev.newOb Evs.nil (Nat.zero_le _) rfl) (sto x e rfl)) ?_
    refine Ex.cons (Ex1.assign (Ev.newOb Evs.nil (Nat.zero_le _) rfl) (sto x e rfl)) ?_
    have hml : (μ ++ [MO.list []]).length = μ.length + 1 := by simp
    rw [hml]
    refine Ex.cons (Ex1.forI (ds := deedsD deeds) (Itb.list (Ev.local rfl ((K _).trans rfl) (by decide))) (fun i => [("deeds", .list (deedsD deeds)), ("there", .ob μ.length), ("stays", .ob (μ.length + 1))]) (fun i => μ ++ [.list (iL (S i).1), .list (iL (S i).2)]) rfl (by simp [S, plfold]) ?_) ?_
    · intro i d hd
      rw [deedsD, List.getElem?_map, Option.map_eq_some_iff] at hd
      obtain ⟨⟨cm, h, pk⟩, hy, rfl⟩ := hd
      have hS1 : S (i + 1) = plstep (S i) (cm, h, pk) := by
        show List.foldl _ _ _ = _
        rw [List.take_add_one, hy, List.foldl_append]; rfl
      have hb := hS i
      have g0 : ∀ a b : MO, (μ ++ [a, b])[μ.length]? = some a := fun a b => by simp
      have g1 : ∀ a b : MO, (μ ++ [a, b])[μ.length + 1]? = some b := fun a b => by simp
      have s0 : ∀ a b c : MO, (μ ++ [a, b]).set μ.length c = μ ++ [c, b] := fun a b c => by simp
      have s1 : ∀ a b c : MO, (μ ++ [a, b]).set (μ.length + 1) c = μ ++ [a, c] := fun a b c => by simp
      refine ⟨GoK.tup, _, Tg.tup (TgL.cons (sto x e rfl) (TgL.cons (sto x e rfl) (TgL.cons (sto x e rfl) TgL.nil))), ?_⟩
      refine Ex.sub (Ex.cons (Ex1.ite (ρ₂ := [("deeds", .list (deedsD deeds)), ("there", .ob μ.length), ("stays", .ob (μ.length + 1)), ("comes", .bool cm), ("hour", .int h), ("pick", .int pk)]) (μ₂ := μ ++ [.list (iL (S (i + 1)).1), .list (iL (S (i + 1)).2)]) (Te.val (Ev.local rfl ((K _).trans rfl) (by decide))) ?_) Ex.nil) (subOf (List.forall_mem_cons.mpr ⟨rfl, List.forall_mem_cons.mpr ⟨rfl, List.forall_mem_cons.mpr ⟨rfl, List.forall_mem_nil _⟩⟩⟩))
      cases cm with
      | true =>
        skip
        have em : μ ++ [MO.list (iL (S (i + 1)).1), MO.list (iL (S (i + 1)).2)] = (μ ++ [MO.list (iL (S i).1), MO.list (iL (S i).2)]).set μ.length (.list (iL (S i).1 ++ [.int h])) := by
          rw [s0, hS1]; simp [plstep]
        rw [em]
        exact Ex.cons (Ex1.expr (Ev.append (Ev.local rfl ((K _).trans rfl) (by decide)) (Ev.local rfl ((K _).trans rfl) (by decide)) (g0 _ _) (g0 _ _) rfl (by rw [iL_len, sizeLine_eq]; lia)) (notInter x e)) Ex.nil
      | false =>
        skip
        have hne := hok i _ hy rfl
        have hpos : 0 < (S i).1.length := List.length_pos_iff.mpr hne
        generalize hp : pickAt pk (S i).1.length = p
        have hpl : p < (S i).1.length := hp ▸ pickAt_lt hpos
        have em : μ ++ [MO.list (iL (S (i + 1)).1), MO.list (iL (S (i + 1)).2)] = ((μ ++ [MO.list (iL (S i).1), MO.list (iL (S i).2)]).set μ.length (.list ((iL (S i).1).eraseIdx p))).set (μ.length + 1) (.list (iL (S i).2 ++ [.int (h - (S i).1.getD p 0)])) := by
          rw [s0, s1, hS1]; simp [plstep, hp, iL_erase]
        rw [em]
        refine Ex.cons (Ex1.expr (Ev.append (Ev.local rfl ((K _).trans rfl) (by decide)) (Ev.bin (Ev.local rfl ((K _).trans rfl) (by decide)) (Ev.pop (d := .int ((S i).1.getD p 0)) (Ev.local rfl ((K _).trans rfl) (by decide)) (Ev.cast (Ev.bin (Ev.local rfl ((K _).trans rfl) (by decide)) (Ev.callB ((K _).trans rfl) h1 h2 (Evs.cons (Ev.local rfl ((K _).trans rfl) (by decide)) Evs.nil) (Bi.len_mut (g0 _ _) (by rw [iL_len, sizeLine_eq]; lia))) (Op.mod ?_)) ?_) (g0 _ _) (g0 _ _) ?_ (by lia) (by rw [iL_len, sizeLine_eq]; lia)) Op.sub) (g1 _ _) (by rw [s0]; exact g1 _ _) rfl (by rw [iL_len, sizeLine_eq]; lia)) (notInter x e)) Ex.nil
        · rw [iL_len]; lia
        · rw [iL_len, ← pickAt_int hpos, hp]
        · simp [hpl]
    · have hn : (deedsD deeds).length = deeds.length := by simp [deedsD]
      rw [hn, hSn]
      exact Ex.ret (Ex1.ret (Ev.local rfl ((K _).trans rfl) (by decide)))
end Mine
end

-- part P5
section
set_option maxRecDepth 100000
namespace Mine
open PySem PySem.W PyProof.Rows

def clsBody : List Stmt := match stm 3 with
  | .ClassDef _ _ _ b _ _ _ _ _ _ _ => b
  | _ => []
def cst (n : Nat) : Stmt := (clsBody[n]?).getD (.Pass default)

/-- a def of the class -/
structure MDef (g : G) (name : Str) (f : Addr) (st : Stmt) (fd : FuncData) (dfl : Option Value) : Prop where
  is : FD g f fd
  meth : Meth g name f
  pars : fd.params = parsOf st
  body : fd.body = .stmts (bodyOf st)
  scope : fd.scope = scopeOf st
  clo : fd.closure = [] ∨ ∃ c, fd.closure = [(("__class__" : Str), c)] ∧ g.hB.IsCell c (some (.ref g.cls)) ∧ c ∉ g.tabs
  nocell : ∀ y ∈ (scopeOf st).names, y.2 ≠ .cell
  uniq : ((scopeOf st).names.map (·.1)).Nodup
  dflt : match dfl with
    | none => fd.defaults = .none
    | some v => ∃ T o n, fd.defaults = .ref T ∧ g.hB.get? T = some o ∧ o.data = .seq #[v] n ∧ T ∉ g.tabs
  kwd : fd.kwdefaults = .none

/-- what a def needs that calls super() -/
structure SupC (g : G) (fd : FuncData) : Prop where
  clo : ∃ c, fd.closure = [(("__class__" : Str), c)] ∧ g.hB.IsCell c (some (.ref g.cls)) ∧ c ∉ g.tabs
  code : ∃ cc oc vs tf, fd.code = .ref cc ∧ g.hB.get? cc = some oc ∧ cc ∉ g.tabs ∧ oc.data = .fields vs ∧ vs[2]? = some (.str g.prog.main.file tf)
  top : (g.prog.main.scope.names.lookup ("super" : Str)).isSome = false
  mg : g.mg "super" = none
  mb : g.mb "super" = some (.type "super")

/-- the global names that the class's defs read -/
structure Gn (g : G) : Prop where
  len : g.mg "len" = none ∧ g.mb "len" = some (.builtin "len")
  sum : g.mg "sum" = none ∧ g.mb "sum" = some (.builtin "sum")
  str : g.mg "str" = none ∧ g.mb "str" = some (.type "str")
  empty : ∃ t, g.mg "EMPTYSTRING" = some (.str "" t)

section
variable {g : G} {k : Nat} {μ : List MO} {name : Str} {f : Addr} {st : Stmt} {fd : FuncData} {dfl : Option Value} {env : Env}

theorem MDef.kind (x : MDef g name f st fd dfl) (e : EnvOf g f fd env) (y : Str) : env.kindOf y = (scopeOf st).names.lookup y := by
  unfold Env.kindOf; rw [e.scope, x.scope]
theorem MDef.notInter (x : MDef g name f st fd dfl) (e : EnvOf g f fd env) : interactive env = false := by
  unfold interactive; rw [e.scope, x.is.plain.2.2]; rfl
theorem MDef.noClo (x : MDef g name f st fd dfl) {y : Str} (h : y ≠ "__class__") : fd.closure.lookup y = none := by
  rcases x.clo with h' | ⟨c, h', _⟩
  · rw [h']; rfl
  · rw [h', List.lookup_cons]
    have : (y == ("__class__" : Str)) = false := by simpa using h
    rw [this]; rfl
theorem MDef.sto (x : MDef g name f st fd dfl) (e : EnvOf g f fd env) {y : Str} (h : (scopeOf st).names.lookup y = some .local) (hy : y ≠ "__class__") : Sto g env y :=
  .inl ⟨(x.kind e y).trans h, (e.noCell y (by rw [x.scope, h]; decide)).trans (x.noClo hy)⟩
theorem MDef.cloOk (x : MDef g name f st fd dfl) : Clo g fd := by
  rcases x.clo with h' | ⟨c, h', hc, hn⟩
  · exact .nil h'
  · refine .base (by rw [x.scope]; exact x.nocell) (fun y d hl => ?_) (fun y z d hy hz => ?_)
    · rw [h', List.lookup_cons] at hl
      split at hl
      · cases hl; exact ⟨⟨_, hc⟩, hn⟩
      · cases hl
    · rw [h', List.lookup_cons] at hy hz
      split at hy
      · rename_i e1
        split at hz
        · rename_i e2
          exact (beq_iff_eq.mp e1).trans (beq_iff_eq.mp e2).symm
        · cases hz
      · cases hy
theorem MDef.names (x : MDef g name f st fd dfl) {y : Str} (h : (scopeOf st).names.lookup y = some .local) (hy : y ≠ "__class__") : (fd.scope.names.lookup y = some .local ∧ fd.closure.lookup y = none) ∨ fd.scope.names.lookup y = some .cell :=
  .inl ⟨by rw [x.scope]; exact h, x.noClo hy⟩
theorem MDef.sup (x : MDef g name f st fd dfl) (s : SupC g fd) (e : EnvOf g f fd env) (h1 : (scopeOf st).names.lookup ("super" : Str) = some .globalImplicit) (h2 : (scopeOf st).names.lookup ("__class__" : Str) = some .free) (h3 : (scopeOf st).names.lookup ("self" : Str) = some .local)
    (h4 : ∃ ar, ((parsOf st).posonlyargs ++ (parsOf st).args).head? = some ar ∧ ar.arg = "self") : SupD g env f fd := by
  obtain ⟨c, hc, hv, hn⟩ := s.clo
  exact ⟨(x.kind e _).trans h1, (x.kind e _).trans h2, by rw [x.pars]; exact h4, (x.kind e _).trans h3, ⟨c, (e.noCell _ (by rw [x.scope, h2]; decide)).trans (by rw [hc]; rfl), hv, hn⟩, s.code, s.top, s.mg, s.mb⟩

/-- one or two arguments of a def with one default -/
theorem bind_d2 {T : Addr} {o : Obj} {n : Nat} {dv : Value} {ds : List Expr} {a b : Arg} {s : Shared} (h1 : fd.params = ⟨[], [a, b], none, [], [], none, ds⟩) (h2 : fd.defaults = .ref T) (h3 : fd.kwdefaults = .none) (hba : (b.arg == a.arg) = false)
    (ho : s.heap.get? T = some o) (hs : o.data = .seq #[dv] n) (v w : Value) : BindsTo s fd ⟨[v, w], []⟩ ([a.arg, b.arg].zip [v, w]) := by
  cases fd
  dsimp only at h1 h2 h3
  subst h1 h2 h3
  refine BindsTo.of_defaults rfl ho hs rfl ?_
  simp [List.lookup_cons, hba]
theorem bind_d21 {T : Addr} {o : Obj} {n : Nat} {dv : Value} {ds : List Expr} {a b : Arg} {s : Shared} (h1 : fd.params = ⟨[], [a, b], none, [], [], none, ds⟩) (h2 : fd.defaults = .ref T) (h3 : fd.kwdefaults = .none) (hba : (b.arg == a.arg) = false)
    (ho : s.heap.get? T = some o) (hs : o.data = .seq #[dv] n) (v : Value) : BindsTo s fd ⟨[v], []⟩ ([a.arg, b.arg].zip [v, dv]) := by
  cases fd
  dsimp only at h1 h2 h3
  subst h1 h2 h3
  refine BindsTo.of_defaults rfl ho hs rfl ?_
  simp [List.lookup_cons, hba]
theorem MDef.bind2 {dv : Value} (x : MDef g name f st fd (some dv)) {a b : Arg} {ds : List Expr} (h : parsOf st = ⟨[], [a, b], none, [], [], none, ds⟩) (hba : (b.arg == a.arg) = false) {θ : Th} {s : Shared} (W : Wld g θ μ s) (v w : Value) : BindsTo s fd ⟨[v, w], []⟩ ([a.arg, b.arg].zip [v, w]) :=
  let ⟨T, o, n, h2, ho, hs, hn⟩ := x.dflt
  bind_d2 (x.pars.trans h) h2 x.kwd hba (W.base T o hn ho) hs v w
theorem MDef.bind21 {dv : Value} (x : MDef g name f st fd (some dv)) {a b : Arg} {ds : List Expr} (h : parsOf st = ⟨[], [a, b], none, [], [], none, ds⟩) (hba : (b.arg == a.arg) = false) {θ : Th} {s : Shared} (W : Wld g θ μ s) (v : Value) : BindsTo s fd ⟨[v], []⟩ ([a.arg, b.arg].zip [v, dv]) :=
  let ⟨T, o, n, h2, ho, hs, hn⟩ := x.dflt
  bind_d21 (x.pars.trans h) h2 x.kwd hba (W.base T o hn ho) hs v
end
end Mine
end

-- part P6
section
set_option maxRecDepth 100000
namespace Mine
open PySem PySem.W PyProof.Rows

section
variable {g : G} {k : Nat} {μ : List MO} {f : Addr} {fd : FuncData}

theorem Te.cast {env : Env} {ρ : En} {μ₁ : List MO} {e : Expr} {a b : Bool} (h : Te g k env ρ μ e a μ₁) (hd : a = b) : Te g k env ρ μ e b μ₁ := hd ▸ h

theorem init_fn {t : Tok} {kk : Int} (C : AccT g) (x : MDef g "__init__" f (cst 0) fd (some (.int 0 t))) (s : SupC g fd) (hal : alongIn g.K "__init__" [.type "list", .type "object"] = some (some (.builtin "list.__init__"))) :
    FnC g (k + 1) (.ref f) [.ob μ.length, .int kk] (μ ++ [.raw]) .none (μ ++ [.acc kk []]) := by
  refine FnC.bodyA (ext := []) (r := none) (names := ["self", "initial_size"]) (ds' := [.ob μ.length, .int kk]) (ρ' := [("self", .ob μ.length), ("initial_size", .int kk)]) x.is x.body x.cloOk (by rw [x.scope]; exact x.uniq) ?_ ?_ (by simp) (.closed rfl) ?_
  · intro y hy
    rcases List.mem_cons.mp hy with rfl | hy
    · exact x.names rfl (by decide)
    · rw [List.mem_singleton.mp hy]; exact x.names rfl (by decide)
  · intro s θ vs W V
    refine ⟨vs, V, ?_⟩
    cases V with
    | cons V r => cases r with
      | cons V' r' => cases r'; exact x.bind2 rfl rfl W _ _
  · intro env e
    rw [List.append_nil]
    have K := fun y => x.kind e y
    show ExA g k env (bodyOf (cst 0)) [("self", .ob μ.length), ("initial_size", .int kk)] (μ ++ [.raw]) (bodyOf (cst 0)) none _ _
    refine ExA.cons (Ex1.setRaw (i := μ.length) C.toAccC (Ev.local rfl ((K _).trans rfl) (by decide)) (Ev.local rfl ((K _).trans rfl) (by decide)) get_last) ?_
    rw [set_last]
    refine ExA.exprSuper (d := .none) sup_init C x.is e (x.sup s e rfl rfl rfl ⟨_, rfl, rfl⟩) rfl get_last hal (by decide) (x.notInter e) fun A θ s p Q E W ep q => ?_
    exact acc_init_body C.toAccC W ep get_last (Nat.zero_le _) fun s' l' W' => q _ s' l' (by rw [set_last] at W'; exact W') .none

theorem push_fn {i : Nat} {kk : Int} {ds : List D} {a b : Str} (C : AccT g) (x : MDef g "push" f (cst 1) fd none) (happ : findIn g.K (.ref g.cls) "append" = some (some (.builtin "list.append"))) (hi : μ[i]? = some (.acc kk ds)) (hz : ds.length ≤ 1000) :
    Fn g (k + 1) (.ref f) [.ob i, .str a, .str b] μ .none (μ.set i (.acc kk (ds ++ [pairD (a, b)]))) := by
  refine Fn.bodyA (ext := []) (r := none) (names := ["self", "fws", "string"]) (ds' := [.ob i, .str a, .str b]) (ρ' := [("self", .ob i), ("fws", .str a), ("string", .str b)]) x.is x.body x.cloOk (by rw [x.scope]; exact x.uniq) ?_ ?_ (by simp) (.closed rfl) ?_
  · intro y hy
    rcases List.mem_cons.mp hy with rfl | hy
    · exact x.names rfl (by decide)
    · rcases List.mem_cons.mp hy with rfl | hy
      · exact x.names rfl (by decide)
      · rw [List.mem_singleton.mp hy]; exact x.names rfl (by decide)
  · intro s θ vs W V
    refine ⟨vs, V, ?_⟩
    cases V with
    | cons V r => cases r with
      | cons V' r' => cases r' with
        | cons V'' r'' => cases r''; exact bind_pos x.pars x.dflt x.kwd fun _ => by kernel_rfl
  · intro env e
    rw [List.append_nil]
    have K := fun y => x.kind e y
    show ExA g k env (bodyOf (cst 1)) [("self", .ob i), ("fws", .str a), ("string", .str b)] μ (bodyOf (cst 1)) none _ _
    exact (Ex.cons (Ex1.expr (Ev.appendAcc C.toAccC happ (Ev.local rfl ((K _).trans rfl) (by decide)) (Ev.tup (Evs.cons (Ev.local rfl ((K _).trans rfl) (by decide)) (Evs.cons (Ev.local rfl ((K _).trans rfl) (by decide)) Evs.nil)) (by simp [sizeLine_eq])) hi hi rfl hz) (x.notInter e)) Ex.nil).at

theorem cut_body {t : Tok} {i j : Nat} {kk : Int} {ds : List D} {env : Env} (C : AccT g) (x : MDef g "pop_from" f (cst 2) fd (some (.int 0 t))) (e : EnvOf g f fd env) (hi : μ[i]? = some (.acc kk ds)) (hz : ds.length ≤ 1000) :
    Ex g k env [("self", .ob i), ("i", .int j)] μ (bodyOf (cst 2)) (some (.list (ds.drop j))) [("self", .ob i), ("i", .int j), ("popped", .list (ds.drop j))] (μ.set i (.acc kk (ds.take j))) := by
  have K := fun y => x.kind e y
  have hp : ∀ (ρ : En), ρ.lookup ("i" : Str) = some (.int j) → Part g k env ρ μ (some (.Name "i" default)) (some j) μ := fun ρ h => .some (Ev.local h ((K _).trans rfl) (by decide))
  refine Ex.cons (Ex1.assign (Ev.sliceAcc (a := some j) C.toAccS (Ev.local rfl ((K _).trans rfl) (by decide)) (.some (Ev.local rfl ((K _).trans rfl) (by decide))) hi hz) (x.sto e rfl (by decide))) ?_
  have h2 : μ.set i (.acc kk (ds.take j)) = μ.set i (.acc kk (ds.take ((some j).getD 0) ++ [])) := by simp
  rw [h2]
  refine Ex.cons (Ex1.setSlice (a := some j) (es := []) C.toAccS (Ev.list Evs.nil (Nat.zero_le _)) (Ev.local rfl ((K _).trans rfl) (by decide)) (.some (Ev.local rfl ((K _).trans rfl) (by decide))) hi hz (Nat.zero_le _) rfl) ?_
  exact Ex.ret (Ex1.ret (Ev.local rfl ((K _).trans rfl) (by decide)))
theorem popfrom_fn {t : Tok} {i j : Nat} {kk : Int} {ds : List D} (C : AccT g) (x : MDef g "pop_from" f (cst 2) fd (some (.int 0 t))) (hi : μ[i]? = some (.acc kk ds)) (hz : ds.length ≤ 1000) (hc : closedAll ds = true) :
    Fn g (k + 1) (.ref f) [.ob i, .int j] μ (.list (ds.drop j)) (μ.set i (.acc kk (ds.take j))) := by
  refine Fn.bodyA (ext := []) (r := some (.list (ds.drop j))) (names := ["self", "i"]) (ds' := [.ob i, .int j]) (ρ' := [("self", .ob i), ("i", .int j), ("popped", .list (ds.drop j))]) x.is x.body x.cloOk (by rw [x.scope]; exact x.uniq) ?_ ?_ (by simp) (.closed (closed_drop _ hc)) ?_
  · intro y hy
    rcases List.mem_cons.mp hy with rfl | hy
    · exact x.names rfl (by decide)
    · rw [List.mem_singleton.mp hy]; exact x.names rfl (by decide)
  · intro s θ vs W V
    refine ⟨vs, V, ?_⟩
    cases V with
    | cons V r => cases r with
      | cons V' r' => cases r'; exact x.bind2 rfl rfl W _ _
  · intro env e
    rw [List.append_nil]
    exact (cut_body C x e hi hz).at
theorem popfrom0_fn {t : Tok} {i : Nat} {kk : Int} {ds : List D} (C : AccT g) (x : MDef g "pop_from" f (cst 2) fd (some (.int 0 t))) (hi : μ[i]? = some (.acc kk ds)) (hz : ds.length ≤ 1000) (hc : closedAll ds = true) :
    Fn g (k + 1) (.ref f) [.ob i] μ (.list ds) (μ.set i (.acc kk [])) := by
  refine Fn.bodyA (ext := []) (r := some (.list ds)) (names := ["self", "i"]) (ds' := [.ob i, .int 0]) (ρ' := [("self", .ob i), ("i", .int 0), ("popped", .list ds)]) x.is x.body x.cloOk (by rw [x.scope]; exact x.uniq) ?_ ?_ (by simp) (.closed hc) ?_
  · intro y hy
    rcases List.mem_cons.mp hy with rfl | hy
    · exact x.names rfl (by decide)
    · rw [List.mem_singleton.mp hy]; exact x.names rfl (by decide)
  · intro s θ vs W V
    cases V with
    | cons V r =>
      cases r
      exact ⟨[_, .int 0 t], .cons V (.cons (.int _ _) .nil), x.bind21 rfl rfl W _⟩
  · intro env e
    rw [List.append_nil]
    exact (cut_body (j := 0) C x e hi hz).at

theorem count_fn {i : Nat} {kk : Int} {ds : List D} (C : AccT g) (x : MDef g "part_count" f (cst 8) fd none) (s : SupC g fd) (hal : alongIn g.K "__len__" [.type "list", .type "object"] = some (some (.builtin "list.__len__"))) (hi : μ[i]? = some (.acc kk ds)) :
    Fn g (k + 1) (.ref f) [.ob i] μ (.int ds.length) μ := by
  refine Fn.bodyA (ext := []) (r := some (.int ds.length)) (names := ["self"]) (ds' := [.ob i]) (ρ' := [("self", .ob i)]) x.is x.body x.cloOk (by rw [x.scope]; exact x.uniq) ?_ ?_ rfl (.closed rfl) ?_
  · intro y hy
    rw [List.mem_singleton.mp hy]; exact x.names rfl (by decide)
  · intro s θ vs W V
    refine ⟨vs, V, ?_⟩
    cases V with
    | cons V r => cases r; exact bind_pos x.pars x.dflt x.kwd fun _ => by kernel_rfl
  · intro env e
    rw [List.append_nil]
    refine ExA.retSuper (d := .int ds.length) sup_len C x.is e (x.sup s e rfl rfl rfl ⟨_, rfl, rfl⟩) rfl hi hal (by decide) fun A θ s p Q E W ep q => ?_
    exact acc_len0_body C.toAccC W ep hi q

theorem pop_fn {i : Nat} {kk : Int} {ds : List D} {d : D} {f8 : Addr} {fd8 : FuncData} (C : AccT g) (x : MDef g "pop" f (cst 3) fd none) (s : SupC g fd) (hal : alongIn g.K "pop" [.type "list", .type "object"] = some (some (.builtin "list.pop"))) (hal8 : alongIn g.K "__len__" [.type "list", .type "object"] = some (some (.builtin "list.__len__")))
    (x8 : MDef g "part_count" f8 (cst 8) fd8 none) (s8 : SupC g fd8) (hi : μ[i]? = some (.acc kk (ds ++ [d]))) (hz : ds.length ≤ 1000) (hc : closedAll ds = true ∧ d.closed = true) :
    Fn g (k + 2) (.ref f) [.ob i] μ d (μ.set i (.acc kk ds)) := by
  refine Fn.bodyA (ext := []) (r := some d) (names := ["self"]) (ds' := [.ob i]) (ρ' := [("self", .ob i)]) x.is x.body x.cloOk (by rw [x.scope]; exact x.uniq) ?_ ?_ (by simp) (.closed hc.2) ?_
  · intro y hy
    rw [List.mem_singleton.mp hy]; exact x.names rfl (by decide)
  · intro s θ vs W V
    refine ⟨vs, V, ?_⟩
    cases V with
    | cons V r => cases r; exact bind_pos x.pars x.dflt x.kwd fun _ => by kernel_rfl
  · intro env e
    rw [List.append_nil]
    have K := fun y => x.kind e y
    show ExA g (k + 1) env (bodyOf (cst 3)) [("self", .ob i)] μ (bodyOf (cst 3)) _ _ _
    refine ExA.cons (Ex1.ite (b := false) (r := none) (ρ₂ := [("self", .ob i)]) (μ₂ := μ) ?_ Ex.nil) ?_
    · refine Te.cast (Te.cmp (Ev.callM0 C.toAccC (Ev.local rfl ((K _).trans rfl) (by decide)) hi x8.meth x8.is (count_fn C x8 s8 hal8 hi)) Ev.int Op.eq) ?_
      simp; lia
    · refine ExA.retSuper (d := d) sup_pop C x.is e (x.sup s e rfl rfl rfl ⟨_, rfl, rfl⟩) rfl hi hal (by decide) fun A θ s p Q E W ep q => ?_
      exact acc_pop_body C.toAccC W ep hi hz q
theorem pop0_fn {i : Nat} {kk : Int} {f8 : Addr} {fd8 : FuncData} (C : AccT g) (x : MDef g "pop" f (cst 3) fd none) (hal8 : alongIn g.K "__len__" [.type "list", .type "object"] = some (some (.builtin "list.__len__")))
    (x8 : MDef g "part_count" f8 (cst 8) fd8 none) (s8 : SupC g fd8) (hi : μ[i]? = some (.acc kk [])) :
    Fn g (k + 2) (.ref f) [.ob i] μ (pairD ("", "")) μ := by
  refine Fn.bodyA (ext := []) (r := some (pairD ("", ""))) (names := ["self"]) (ds' := [.ob i]) (ρ' := [("self", .ob i)]) x.is x.body x.cloOk (by rw [x.scope]; exact x.uniq) ?_ ?_ rfl (.closed rfl) ?_
  · intro y hy
    rw [List.mem_singleton.mp hy]; exact x.names rfl (by decide)
  · intro s θ vs W V
    refine ⟨vs, V, ?_⟩
    cases V with
    | cons V r => cases r; exact bind_pos x.pars x.dflt x.kwd fun _ => by kernel_rfl
  · intro env e
    rw [List.append_nil]
    have K := fun y => x.kind e y
    show ExA g (k + 1) env (bodyOf (cst 3)) [("self", .ob i)] μ (bodyOf (cst 3)) _ _ _
    refine (Ex.ret (Ex1.ite (b := true) (ρ₂ := [("self", .ob i)]) (μ₂ := μ) ?_ (Ex.ret (Ex1.ret (Ev.tup (Evs.cons Ev.str (Evs.cons Ev.str Evs.nil)) (by decide)))))).at
    exact Te.cast (Te.cmp (Ev.callM0 C.toAccC (Ev.local rfl ((K _).trans rfl) (by decide)) hi x8.meth x8.is (count_fn C x8 s8 hal8 hi)) Ev.int Op.eq) rfl
end
end Mine
end

-- part P7
section
set_option maxRecDepth 100000
namespace Mine
open PySem PySem.W PyProof.Rows

section
variable {g : G} {k : Nat} {μ μ₁ : List MO} {f : Addr} {fd : FuncData}

theorem Op.is_none : Op g k (.bool true) (compareOp .Is) .none .none := by
  intro A θ μ s va vb Q E ft W V1 V2 q
  cases V1; cases V2
  exact wpAny_is_self rfl (q _ _ (.refl ..) W (.bool _))
theorem Op.is_none_list {ds : List D} : Op g k (.bool false) (compareOp .Is) (.list ds) .none := by
  intro A θ μ s va vb Q E ft W V1 V2 q
  cases V2
  obtain ⟨a, vs, n, rfl, _⟩ := V1.list_inv
  exact is_none_ne (by intro x; cases x) (q _ _ (.refl ..) W (.bool _))

abbrev lens (its : List (Str × Str)) : Int := (its.map fun q => ((q.1.length : Int) + q.2.length)).sum
abbrev text (its : List (Str × Str)) : Str := Txt.join "" (its.map fun q => Txt.join "" [q.1, q.2])

theorem size_fn {i : Nat} {kk : Int} {its : List (Str × Str)} (C : AccT g) (x : MDef g "__len__" f (cst 4) fd none) (hG : GenDef g fd.code) (gn : Gn g) (hi : μ[i]? = some (.acc kk (its.map pairD))) (hz : ∀ q ∈ its, q.1.length ≤ 10000 ∧ q.2.length ≤ 10000) :
    Fn g (k + 2) (.ref f) [.ob i] μ (.int (kk + lens its)) μ := by
  refine Fn.bodyA (ext := []) (r := some (.int (kk + lens its))) (names := ["self"]) (ds' := [.ob i]) (ρ' := [("self", .ob i)]) x.is x.body x.cloOk (by rw [x.scope]; exact x.uniq) ?_ ?_ rfl (.closed rfl) ?_
  · intro y hy
    rw [List.mem_singleton.mp hy]; exact x.names rfl (by decide)
  · intro s θ vs W V
    refine ⟨vs, V, ?_⟩
    cases V with
    | cons V r => cases r; exact bind_pos x.pars x.dflt x.kwd fun _ => by kernel_rfl
  · intro env e
    rw [List.append_nil]
    have K := fun y => x.kind e y
    refine (Ex.ret (Ex1.ret (Ev.sumGen (i := i) (kk := kk) (its := its) (val := fun q => ((q.1.length : Int) + q.2.length)) C.toAccS (by rw [e.code]; exact hG) ((K _).trans rfl) gn.sum.1 gn.sum.2 (Ev.local rfl ((K _).trans rfl) (by decide)) hi ((K _).trans rfl) rfl (by decide) rfl (closureFor_none (by decide)) (by decide) rfl rfl rfl rfl (by decide) ?_))).at
    intro q hq
    exact el_lens rfl gn.len.1 gn.len.2 rfl rfl (by decide) (by decide) (by decide) (by have := (hz q hq).1; rw [sizeLine_eq]; lia) (by have := (hz q hq).2; rw [sizeLine_eq]; lia)

theorem str_fn {i : Nat} {kk : Int} {its : List (Str × Str)} (C : AccT g) (x : MDef g "__str__" f (cst 5) fd none) (hG : GenDef g fd.code) (gn : Gn g) (hi : μ[i]? = some (.acc kk (its.map pairD))) (hz : ∀ q ∈ its, q.1.length ≤ 10000 ∧ q.2.length ≤ 10000) (hl : its.length ≤ 100) (hs : ((its.map fun q => Txt.join "" [q.1, q.2]).map (·.length)).sum ≤ 1000000) :
    Fn g (k + 2) (.ref f) [.ob i] μ (.str (text its)) μ := by
  refine Fn.bodyA (ext := []) (r := some (.str (text its))) (names := ["self"]) (ds' := [.ob i]) (ρ' := [("self", .ob i)]) x.is x.body x.cloOk (by rw [x.scope]; exact x.uniq) ?_ ?_ rfl (.closed rfl) ?_
  · intro y hy
    rw [List.mem_singleton.mp hy]; exact x.names rfl (by decide)
  · intro s θ vs W V
    refine ⟨vs, V, ?_⟩
    cases V with
    | cons V r => cases r; exact bind_pos x.pars x.dflt x.kwd fun _ => by kernel_rfl
  · intro env e
    rw [List.append_nil]
    have K := fun y => x.kind e y
    obtain ⟨t, ht⟩ := gn.empty
    refine (Ex.ret (Ex1.ret (Ev.joinGen (i := i) (kk := kk) (its := its) (sep := "") (ts := t) (fs := fun q => Txt.join "" [q.1, q.2]) C.toAccS (by rw [e.code]; exact hG) ((K _).trans rfl) ht (by decide) (Ev.local rfl ((K _).trans rfl) (by decide)) hi rfl (closureFor_none (by decide)) (by decide) rfl rfl rfl rfl (by decide) ?_ ?_ (by lia)))).at
    · intro q hq
      exact el_join rfl ht rfl rfl (by decide) (by decide) (by decide) (by decide) (by have := hz q hq; show q.1.length + q.2.length + 2 * 0 ≤ _; lia)
    · show _ + its.length * 0 ≤ _
      lia

theorem reset_body {i : Nat} {kk : Int} {ds es : List D} {env : Env} {ρ : En} {wh : List Stmt} (C : AccT g) (x : MDef g "reset" f (cst 6) fd (some .none)) (e : EnvOf g f fd env) (hi : μ[i]? = some (.acc kk ds)) (hz : ds.length ≤ 1000) (hze : es.length ≤ 1000) (hce : closedAll es = true) :
    Ex g k env [("self", .ob i), ("startval", .list es)] μ ((bodyOf (cst 6)).drop 1) none [("self", .ob i), ("startval", .list es)] (μ.set i (.acc 0 es)) := by
  have K := fun y => x.kind e y
  have hi' : i < μ.length := (List.getElem?_eq_some_iff.mp hi).1
  have h2 : μ.set i (.acc 0 es) = (μ.set i (.acc kk (ds.take ((none : Option Nat).getD 0) ++ es))).set i (.acc 0 es) := by simp
  rw [h2]
  refine Ex.cons (Ex1.setSlice (a := none) C.toAccS (Ev.local rfl ((K _).trans rfl) (by decide)) (Ev.local rfl ((K _).trans rfl) (by decide)) .none hi hz hze hce) ?_
  exact Ex.cons (Ex1.setSize (kk := kk) C.toAccC Ev.int (Ev.local rfl ((K _).trans rfl) (by decide)) (by simp [hi'])) Ex.nil
theorem reset_fn {i : Nat} {kk : Int} {ds es : List D} (C : AccT g) (x : MDef g "reset" f (cst 6) fd (some .none)) (hi : μ[i]? = some (.acc kk ds)) (hz : ds.length ≤ 1000) (hze : es.length ≤ 1000) (hce : closedAll es = true) :
    Fn g (k + 1) (.ref f) [.ob i, .list es] μ .none (μ.set i (.acc 0 es)) := by
  refine Fn.bodyA (ext := []) (r := none) (names := ["self", "startval"]) (ds' := [.ob i, .list es]) (ρ' := [("self", .ob i), ("startval", .list es)]) x.is x.body x.cloOk (by rw [x.scope]; exact x.uniq) ?_ ?_ (by simp) (.closed rfl) ?_
  · intro y hy
    rcases List.mem_cons.mp hy with rfl | hy
    · exact x.names rfl (by decide)
    · rw [List.mem_singleton.mp hy]; exact x.names rfl (by decide)
  · intro s θ vs W V
    refine ⟨vs, V, ?_⟩
    cases V with
    | cons V r => cases r with
      | cons V' r' => cases r'; exact x.bind2 rfl rfl W _ _
  · intro env e
    rw [List.append_nil]
    have K := fun y => x.kind e y
    refine (Ex.cons (Ex1.ite (b := false) (r := none) (ρ₂ := [("self", .ob i), ("startval", .list es)]) (μ₂ := μ) (Te.cmp (Ev.local rfl ((K _).trans rfl) (by decide)) Ev.nul Op.is_none_list) Ex.nil) ?_).at
    exact reset_body (ρ := []) (wh := []) C x e hi hz hze hce
theorem reset0_fn {i : Nat} {kk : Int} {ds : List D} (C : AccT g) (x : MDef g "reset" f (cst 6) fd (some .none)) (hi : μ[i]? = some (.acc kk ds)) (hz : ds.length ≤ 1000) :
    Fn g (k + 1) (.ref f) [.ob i] μ .none (μ.set i (.acc 0 [])) := by
  refine Fn.bodyA (ext := []) (r := none) (names := ["self", "startval"]) (ds' := [.ob i, .none]) (ρ' := [("self", .ob i), ("startval", .list [])]) x.is x.body x.cloOk (by rw [x.scope]; exact x.uniq) ?_ ?_ (by simp) (.closed rfl) ?_
  · intro y hy
    rcases List.mem_cons.mp hy with rfl | hy
    · exact x.names rfl (by decide)
    · rw [List.mem_singleton.mp hy]; exact x.names rfl (by decide)
  · intro s θ vs W V
    cases V with
    | cons V r =>
      cases r
      exact ⟨[_, .none], .cons V (.cons .none .nil), x.bind21 rfl rfl W _⟩
  · intro env e
    rw [List.append_nil]
    have K := fun y => x.kind e y
    refine (Ex.cons (Ex1.ite (b := true) (r := none) (ρ₂ := [("self", .ob i), ("startval", .list [])]) (μ₂ := μ) (Te.cmp (Ev.local rfl ((K _).trans rfl) (by decide)) Ev.nul Op.is_none) (Ex.cons (Ex1.assign (Ev.list Evs.nil (Nat.zero_le _)) (x.sto e rfl (by decide))) Ex.nil)) ?_).at
    exact reset_body (ρ := []) (wh := []) C x e hi hz (Nat.zero_le _) rfl

theorem onlyws_fn {i : Nat} {kk : Int} {its : List (Str × Str)} {f4 f5 : Addr} {fd4 fd5 : FuncData} (C : AccT g) (x : MDef g "is_onlyws" f (cst 7) fd none) (hbool : findIn g.K (.ref g.cls) "__bool__" = some none) (x4 : MDef g "__len__" f4 (cst 4) fd4 none) (hG4 : GenDef g fd4.code) (x5 : MDef g "__str__" f5 (cst 5) fd5 none) (hG5 : GenDef g fd5.code) (gn : Gn g)
    (hi : μ[i]? = some (.acc kk (its.map pairD))) (hz : ∀ q ∈ its, q.1.length ≤ 10000 ∧ q.2.length ≤ 10000) (hl : its.length ≤ 100) (hs : ((its.map fun q => Txt.join "" [q.1, q.2]).map (·.length)).sum ≤ 1000000) (h0 : 0 ≤ kk + lens its) (h1 : kk + lens its < 2 ^ 63) :
    Fn g (k + 5) (.ref f) [.ob i] μ (.bool (kk == 0 && (kk + lens its == 0 || Txt.isspace (text its)))) μ := by
  refine Fn.bodyA (ext := []) (r := some (.bool (kk == 0 && (kk + lens its == 0 || Txt.isspace (text its))))) (names := ["self"]) (ds' := [.ob i]) (ρ' := [("self", .ob i)]) x.is x.body x.cloOk (by rw [x.scope]; exact x.uniq) ?_ ?_ rfl (.closed rfl) ?_
  · intro y hy
    rw [List.mem_singleton.mp hy]; exact x.names rfl (by decide)
  · intro s θ vs W V
    refine ⟨vs, V, ?_⟩
    cases V with
    | cons V r => cases r; exact bind_pos x.pars x.dflt x.kwd fun _ => by kernel_rfl
  · intro env e
    rw [List.append_nil]
    have K := fun y => x.kind e y
    have self : ∀ p, Ev g (k + 4) env [("self", .ob i)] μ (.Name "self" p) (.ob i) μ := fun p => Ev.local rfl ((K _).trans rfl) (by decide)
    refine (Ex.ret (Ex1.ret (Ev.and2 (Ev.cmp (Ev.size C.toAccC (self _) hi) Ev.int Op.eq) fun _ => Ev.or2 (Ev.notAcc (self _) hi hbool x4.meth (size_fn (k := k + 1) C x4 hG4 gn hi hz) h0 h1) fun _ => Ev.isspace (Ev.callT ((K _).trans rfl) gn.str.1 gn.str.2 (Evs.cons (self _) Evs.nil) (Bi.str_acc hi x5.meth (str_fn (k := k) C x5 hG5 gn hi hz hl hs)))))).at
end
end Mine
end

-- part P8
section
set_option maxRecDepth 100000
namespace Mine
open PySem PySem.W PyProof.Rows

/-- the class and its defs -/
structure Cls (g : G) : Prop where
  N : AccN g
  gn : Gn g
  app : findIn g.K (.ref g.cls) "append" = some (some (.builtin "list.append"))
  boo : findIn g.K (.ref g.cls) "__bool__" = some none
  alI : alongIn g.K "__init__" [.type "list", .type "object"] = some (some (.builtin "list.__init__"))
  alL : alongIn g.K "__len__" [.type "list", .type "object"] = some (some (.builtin "list.__len__"))
  alP : alongIn g.K "pop" [.type "list", .type "object"] = some (some (.builtin "list.pop"))
  m0 : ∃ f fd t, MDef g "__init__" f (cst 0) fd (some (.int 0 t)) ∧ SupC g fd
  m1 : ∃ f fd, MDef g "push" f (cst 1) fd none
  m2 : ∃ f fd t, MDef g "pop_from" f (cst 2) fd (some (.int 0 t))
  m3 : ∃ f fd, MDef g "pop" f (cst 3) fd none ∧ SupC g fd
  m4 : ∃ f fd, MDef g "__len__" f (cst 4) fd none ∧ GenDef g fd.code
  m5 : ∃ f fd, MDef g "__str__" f (cst 5) fd none ∧ GenDef g fd.code
  m6 : ∃ f fd, MDef g "reset" f (cst 6) fd (some .none)
  m7 : ∃ f fd, MDef g "is_onlyws" f (cst 7) fd none
  m8 : ∃ f fd, MDef g "part_count" f (cst 8) fd none ∧ SupC g fd
  own : g.mg "_Accumulator" = some (.ref g.cls)

section
variable {g : G} {k : Nat} {env : Env} {ρ : En} {μ : List MO} {xp ap pos : Pos} {i : Nat} {kk : Int} {ds : List D} {its : List (Str × Str)}

theorem Cls.new (c : Cls g) {np : Pos} {e : Expr} {μ₁ : List MO} (hk : env.kindOf "_Accumulator" = some .globalImplicit) (h1 : Ev g (k + 2) env ρ μ e (.int kk) μ₁) (hs : starEach [e] env = [(false, eval e env)] := by rfl) :
    Ev g (k + 2) env ρ μ (.Call (.Name "_Accumulator" np) [e] [] pos) (.ob μ₁.length) (μ₁ ++ [.acc kk []]) := by
  obtain ⟨f, fd, t, m, s⟩ := c.m0
  exact Ev.newAcc c.N hk c.own (by decide) h1 m.meth (init_fn c.N.toAccT m s c.alI) hs
theorem Cls.push (c : Cls g) {e1 e2 : Expr} {a b : Str} (h : Ev g (k + 1) env ρ μ (.Name "line" xp) (.ob i) μ) (h1 : Evs g (k + 1) env ρ μ [e1, e2] [.str a, .str b] μ) (hi : μ[i]? = some (.acc kk ds)) (hz : ds.length ≤ 1000)
    (hs : starEach [e1, e2] env = (false, eval e1 env) :: starEach [e2] env := by rfl) {pl : Sem Bool}
    (he : eval (.Call (.Attribute (.Name "line" xp) "push" ap) [e1, e2] [] pos) env = (do
      let ov ← eval (.Name "line" xp) env
      standAt ap.atName
      let (f, first) ← holding [ov] (getMethod ov "push" pl)
      callWith pos f first (backTo pos (starEach [e1, e2] env)) []) := by rfl) : Ev g (k + 1) env ρ μ (.Call (.Attribute (.Name "line" xp) "push" ap) [e1, e2] [] pos) .none (μ.set i (.acc kk (ds ++ [pairD (a, b)]))) := by
  obtain ⟨f, fd, m⟩ := c.m1
  exact Ev.callM c.N.toAccC h hi m.meth m.is h1 (push_fn c.N.toAccT m c.app hi hz) (hs := hs) (he := he)
theorem Cls.popFrom (c : Cls g) {e : Expr} {j : Nat} (h : Ev g (k + 1) env ρ μ (.Name "line" xp) (.ob i) μ) (h1 : Ev g (k + 1) env ρ μ e (.int j) μ) (hi : μ[i]? = some (.acc kk ds)) (hz : ds.length ≤ 1000) (hc : closedAll ds = true)
    (hs : starEach [e] env = [(false, eval e env)] := by rfl) {pl : Sem Bool}
    (he : eval (.Call (.Attribute (.Name "line" xp) "pop_from" ap) [e] [] pos) env = (do
      let ov ← eval (.Name "line" xp) env
      standAt ap.atName
      let (f, first) ← holding [ov] (getMethod ov "pop_from" pl)
      callWith pos f first (backTo pos (starEach [e] env)) []) := by rfl) : Ev g (k + 1) env ρ μ (.Call (.Attribute (.Name "line" xp) "pop_from" ap) [e] [] pos) (.list (ds.drop j)) (μ.set i (.acc kk (ds.take j))) := by
  obtain ⟨f, fd, t, m⟩ := c.m2
  exact Ev.callM c.N.toAccC h hi m.meth m.is (Evs.cons h1 Evs.nil hs) (popfrom_fn c.N.toAccT m hi hz hc) (hs := hs) (he := he)
theorem Cls.popFrom0 (c : Cls g) (h : Ev g (k + 1) env ρ μ (.Name "line" xp) (.ob i) μ) (hi : μ[i]? = some (.acc kk ds)) (hz : ds.length ≤ 1000) (hc : closedAll ds = true) {pl : Sem Bool}
    (he : eval (.Call (.Attribute (.Name "line" xp) "pop_from" ap) [] [] pos) env = (do
      let ov ← eval (.Name "line" xp) env
      standAt ap.atName
      let (f, first) ← holding [ov] (getMethod ov "pop_from" pl)
      callWith pos f first (backTo pos (starEach [] env)) []) := by rfl) :
    Ev g (k + 1) env ρ μ (.Call (.Attribute (.Name "line" xp) "pop_from" ap) [] [] pos) (.list ds) (μ.set i (.acc kk [])) := by
  obtain ⟨f, fd, t, m⟩ := c.m2
  exact Ev.callM0 c.N.toAccC h hi m.meth m.is (popfrom0_fn c.N.toAccT m hi hz hc) (he := he)
theorem Cls.count (c : Cls g) (h : Ev g (k + 1) env ρ μ (.Name "line" xp) (.ob i) μ) (hi : μ[i]? = some (.acc kk ds)) {pl : Sem Bool}
    (he : eval (.Call (.Attribute (.Name "line" xp) "part_count" ap) [] [] pos) env = (do
      let ov ← eval (.Name "line" xp) env
      standAt ap.atName
      let (f, first) ← holding [ov] (getMethod ov "part_count" pl)
      callWith pos f first (backTo pos (starEach [] env)) []) := by rfl) :
    Ev g (k + 1) env ρ μ (.Call (.Attribute (.Name "line" xp) "part_count" ap) [] [] pos) (.int ds.length) μ := by
  obtain ⟨f, fd, m, s⟩ := c.m8
  exact Ev.callM0 c.N.toAccC h hi m.meth m.is (count_fn c.N.toAccT m s c.alL hi) (he := he)
theorem Cls.pop (c : Cls g) {d : D} (h : Ev g (k + 2) env ρ μ (.Name "line" xp) (.ob i) μ) (hi : μ[i]? = some (.acc kk (ds ++ [d]))) (hz : ds.length ≤ 1000) (hc : closedAll ds = true ∧ d.closed = true) {pl : Sem Bool}
    (he : eval (.Call (.Attribute (.Name "line" xp) "pop" ap) [] [] pos) env = (do
      let ov ← eval (.Name "line" xp) env
      standAt ap.atName
      let (f, first) ← holding [ov] (getMethod ov "pop" pl)
      callWith pos f first (backTo pos (starEach [] env)) []) := by rfl) :
    Ev g (k + 2) env ρ μ (.Call (.Attribute (.Name "line" xp) "pop" ap) [] [] pos) d (μ.set i (.acc kk ds)) := by
  obtain ⟨f, fd, m, s⟩ := c.m3
  obtain ⟨f8, fd8, zq⟩ := c.m8
  have m8 := zq.1
  replace zq := zq.2
  have s8 := zq
  clear zq
  exact Ev.callM0 c.N.toAccC h hi m.meth m.is (pop_fn c.N.toAccT m s c.alP c.alL m8 s8 hi hz hc) (he := he)
theorem Cls.pop0 (c : Cls g) (h : Ev g (k + 2) env ρ μ (.Name "line" xp) (.ob i) μ) (hi : μ[i]? = some (.acc kk [])) {pl : Sem Bool}
    (he : eval (.Call (.Attribute (.Name "line" xp) "pop" ap) [] [] pos) env = (do
      let ov ← eval (.Name "line" xp) env
      standAt ap.atName
      let (f, first) ← holding [ov] (getMethod ov "pop" pl)
      callWith pos f first (backTo pos (starEach [] env)) []) := by rfl) :
    Ev g (k + 2) env ρ μ (.Call (.Attribute (.Name "line" xp) "pop" ap) [] [] pos) (pairD ("", "")) μ := by
  obtain ⟨f, fd, m, s⟩ := c.m3
  obtain ⟨f8, fd8, m8, s8⟩ := c.m8
  exact Ev.callM0 c.N.toAccC h hi m.meth m.is (pop0_fn c.N.toAccT m c.alL m8 s8 hi) (he := he)
theorem Cls.len (c : Cls g) {np : Pos} (hk : env.kindOf "len" = some .globalImplicit) (h : Ev g (k + 3) env ρ μ (.Name "line" xp) (.ob i) μ) (hi : μ[i]? = some (.acc kk (its.map pairD))) (hz : ∀ q ∈ its, q.1.length ≤ 10000 ∧ q.2.length ≤ 10000) (h0 : 0 ≤ kk + lens its) (h1 : kk + lens its < 2 ^ 63) :
    Ev g (k + 3) env ρ μ (.Call (.Name "len" np) [.Name "line" xp] [] pos) (.int (kk + lens its)) μ := by
  obtain ⟨f, fd, m, hG⟩ := c.m4
  exact Ev.callB hk c.gn.len.1 c.gn.len.2 (Evs.cons h Evs.nil) (Bi.len_acc hi m.meth (size_fn c.N.toAccT m hG c.gn hi hz) h0 h1)
theorem Cls.onlyws (c : Cls g) (h : Ev g (k + 5) env ρ μ (.Name "line" xp) (.ob i) μ) (hi : μ[i]? = some (.acc kk (its.map pairD))) (hz : ∀ q ∈ its, q.1.length ≤ 10000 ∧ q.2.length ≤ 10000) (hl : its.length ≤ 100) (hs : ((its.map fun q => Txt.join "" [q.1, q.2]).map (·.length)).sum ≤ 1000000) (h0 : 0 ≤ kk + lens its) (h1 : kk + lens its < 2 ^ 63) {pl : Sem Bool}
    (he : eval (.Call (.Attribute (.Name "line" xp) "is_onlyws" ap) [] [] pos) env = (do
      let ov ← eval (.Name "line" xp) env
      standAt ap.atName
      let (f, first) ← holding [ov] (getMethod ov "is_onlyws" pl)
      callWith pos f first (backTo pos (starEach [] env)) []) := by rfl) :
    Ev g (k + 5) env ρ μ (.Call (.Attribute (.Name "line" xp) "is_onlyws" ap) [] [] pos) (.bool (kk == 0 && (kk + lens its == 0 || Txt.isspace (text its)))) μ := by
  obtain ⟨f, fd, m⟩ := c.m7
  obtain ⟨f4, fd4, m4, hG4⟩ := c.m4
  obtain ⟨f5, fd5, zq⟩ := c.m5
  have m5 := zq.1
  replace zq := zq.2
  have hG5 := zq
  clear zq
  exact Ev.callM0 c.N.toAccC h hi m.meth m.is (onlyws_fn c.N.toAccT m c.boo m4 hG4 m5 hG5 c.gn hi hz hl hs h0 h1) (he := he)
theorem Cls.reset (c : Cls g) {e : Expr} {es : List D} (h : Ev g (k + 1) env ρ μ (.Name "line" xp) (.ob i) μ) (h1 : Ev g (k + 1) env ρ μ e (.list es) μ) (hi : μ[i]? = some (.acc kk ds)) (hz : ds.length ≤ 1000) (hze : es.length ≤ 1000) (hce : closedAll es = true)
    (hs : starEach [e] env = [(false, eval e env)] := by rfl) {pl : Sem Bool}
    (he : eval (.Call (.Attribute (.Name "line" xp) "reset" ap) [e] [] pos) env = (do
      let ov ← eval (.Name "line" xp) env
      standAt ap.atName
      let (f, first) ← holding [ov] (getMethod ov "reset" pl)
      callWith pos f first (backTo pos (starEach [e] env)) []) := by rfl) : Ev g (k + 1) env ρ μ (.Call (.Attribute (.Name "line" xp) "reset" ap) [e] [] pos) .none (μ.set i (.acc 0 es)) := by
  obtain ⟨f, fd, m⟩ := c.m6
  exact Ev.callM c.N.toAccC h hi m.meth m.is (Evs.cons h1 Evs.nil hs) (reset_fn c.N.toAccT m hi hz hze hce) (hs := hs) (he := he)
theorem Cls.reset0 (c : Cls g) (h : Ev g (k + 1) env ρ μ (.Name "line" xp) (.ob i) μ) (hi : μ[i]? = some (.acc kk ds)) (hz : ds.length ≤ 1000) {pl : Sem Bool}
    (he : eval (.Call (.Attribute (.Name "line" xp) "reset" ap) [] [] pos) env = (do
      let ov ← eval (.Name "line" xp) env
      standAt ap.atName
      let (f, first) ← holding [ov] (getMethod ov "reset" pl)
      callWith pos f first (backTo pos (starEach [] env)) []) := by rfl) :
    Ev g (k + 1) env ρ μ (.Call (.Attribute (.Name "line" xp) "reset" ap) [] [] pos) .none (μ.set i (.acc 0 [])) := by
  obtain ⟨f, fd, m⟩ := c.m6
  exact Ev.callM0 c.N.toAccC h hi m.meth m.is (reset0_fn c.N.toAccT m hi hz) (he := he)
end
end Mine
end

-- part P9
section
set_option maxRecDepth 100000
namespace Mine
open PySem PySem.W PyProof.Rows

theorem closed_pairs : ∀ (its : List (Str × Str)), closedAll (its.map pairD) = true
  | [] => rfl
  | q :: r => by show ((pairD q).closed && closedAll (r.map pairD)) = true; rw [closed_pairs r]; rfl

section
variable {g : G} {k : Nat} {μ : List MO} {f : Addr} {fd : FuncData} {i : Nat} {kk : Int} {its : List (Str × Str)} {q : Str × Str}

/-- the last of the line goes -/
theorem go0_fn {pk : Int} (c : Cls g) (x : IsDef g f (stm 12) fd) (hi : μ[i]? = some (.acc kk ((its ++ [q]).map pairD))) (hz : its.length ≤ 100) :
    Fn g (k + 3) (.ref f) [.ob i, .int 0, .int pk] μ (pairD q) (μ.set i (.acc kk (its.map pairD))) := by
  refine Fn.body (ext := []) (d₁ := pairD q) (names := ["line", "kind", "pick"]) (ρ' := [("line", .ob i), ("kind", .int 0), ("pick", .int pk)]) x.is x.body x.clo (by rw [x.scope]; decide +kernel) ?_ ?_ (by simp) (.closed rfl) ?_
  · intro y hy
    rw [x.scope]
    rcases List.mem_cons.mp hy with rfl | hy
    · exact .inl rfl
    · rcases List.mem_cons.mp hy with rfl | hy
      · exact .inl rfl
      · rw [List.mem_singleton.mp hy]; exact .inl rfl
  · intro s θ vs W V
    cases V with
    | cons V r => cases r with
      | cons V' r' => cases r' with
        | cons V'' r'' => cases r''; exact bind_pos x.pars x.dflt x.kwd fun _ => by kernel_rfl
  · intro env e
    rw [List.append_nil]
    have K := fun y => e.kind x y
    rw [List.map_append] at hi
    refine Ex.ret (Ex1.ite (b := true) (Te.cast (Te.cmp (Ev.local rfl ((K _).trans rfl) (by decide)) Ev.int Op.eq) rfl) ?_)
    exact Ex.ret (Ex1.ret (c.pop (Ev.local rfl ((K _).trans rfl) (by decide)) hi (by simp; lia) ⟨closed_pairs _, rfl⟩))

/-- the first of the line goes -/
theorem go1_fn {pk : Int} (c : Cls g) (x : IsDef g f (stm 12) fd) (hi : μ[i]? = some (.acc kk ((q :: its).map pairD))) (hz : its.length ≤ 100) :
    Fn g (k + 3) (.ref f) [.ob i, .int 1, .int pk] μ (pairD q) (μ.set i (.acc 0 (its.map pairD))) := by
  have hi' : i < μ.length := (List.getElem?_eq_some_iff.mp hi).1
  refine Fn.body (ext := []) (d₁ := pairD q) (names := ["line", "kind", "pick"]) (ρ' := [("line", .ob i), ("kind", .int 1), ("pick", .int pk), ("rest", .list (its.map pairD)), ("first", pairD q)]) x.is x.body x.clo (by rw [x.scope]; decide +kernel) ?_ ?_ (by simp) (.closed rfl) ?_
  · intro y hy
    rw [x.scope]
    rcases List.mem_cons.mp hy with rfl | hy
    · exact .inl rfl
    · rcases List.mem_cons.mp hy with rfl | hy
      · exact .inl rfl
      · rw [List.mem_singleton.mp hy]; exact .inl rfl
  · intro s θ vs W V
    cases V with
    | cons V r => cases r with
      | cons V' r' => cases r' with
        | cons V'' r'' => cases r''; exact bind_pos x.pars x.dflt x.kwd fun _ => by kernel_rfl
  · intro env e
    rw [List.append_nil]
    have K := fun y => e.kind x y
    refine Ex.cons (Ex1.ite (b := false) (r := none) (ρ₂ := [("line", .ob i), ("kind", .int 1), ("pick", .int pk)]) (μ₂ := μ) (Te.cast (Te.cmp (Ev.local rfl ((K _).trans rfl) (by decide)) Ev.int Op.eq) rfl) Ex.nil) ?_
    refine Ex.ret (Ex1.ite (b := true) (Te.cast (Te.cmp (Ev.local rfl ((K _).trans rfl) (by decide)) Ev.int Op.eq) rfl) ?_)
    have h1 : (μ.set i (.acc kk (((q :: its).map pairD).take 1)))[i]? = some (.acc kk [pairD q]) := by simp [hi']
    have h2 : μ.set i (.acc 0 (its.map pairD)) = (μ.set i (.acc kk (((q :: its).map pairD).take 1))).set i (.acc 0 (its.map pairD)) := by simp
    rw [h2]
    refine Ex.cons (Ex1.assign (d := .list (its.map pairD)) (c.popFrom (j := 1) (Ev.local rfl ((K _).trans rfl) (by decide)) Ev.int hi (by simp; lia) (closed_pairs _)) (sto x e rfl)) ?_
    refine Ex.cons (Ex1.assign (d := pairD q) (Ev.itemAcc (j := 0) c.N.toAccS (Ev.local rfl ((K _).trans rfl) (by decide)) Ev.int h1 rfl (by decide)) (sto x e rfl)) ?_
    refine Ex.cons (Ex1.expr (c.reset (Ev.local rfl ((K _).trans rfl) (by decide)) (Ev.local rfl ((K _).trans rfl) (by decide)) h1 (by simp) (by simp; lia) (closed_pairs _)) (notInter x e)) ?_
    exact Ex.ret (Ex1.ret (Ev.local rfl ((K _).trans rfl) (by decide)))

/-- the one at a place goes -/
theorem go2_fn {pk : Int} {p : Nat} (c : Cls g) (x : IsDef g f (stm 12) fd) (hi : μ[i]? = some (.acc kk (its.map pairD))) (hz : its.length ≤ 100) (hp : ((p : Nat) : Int) = Int.fmod pk its.length) (hq : its[p]? = some q) :
    Fn g (k + 3) (.ref f) [.ob i, .int 2, .int pk] μ (pairD q) (μ.set i (.acc kk ((its.eraseIdx p).map pairD))) := by
  have hi' : i < μ.length := (List.getElem?_eq_some_iff.mp hi).1
  have hpl : p < its.length := (List.getElem?_eq_some_iff.mp hq).1
  have hdrop : its.drop p = q :: its.drop (p + 1) := by
    obtain ⟨_, hq'⟩ := List.getElem?_eq_some_iff.mp hq
    rw [List.drop_eq_getElem_cons hpl, hq']
  have her : its.eraseIdx p = its.take p ++ its.drop (p + 1) := List.eraseIdx_eq_take_drop_succ ..
  let R : List (Str × Str) := its.drop (p + 1)
  refine Fn.body (ext := []) (d₁ := pairD q) (names := ["line", "kind", "pick"]) (ρ' := [("line", .ob i), ("kind", .int 2), ("pick", .int pk), ("rest", .list ((q :: R).map pairD))]) x.is x.body x.clo (by rw [x.scope]; decide +kernel) ?_ ?_ (by simp) (.closed rfl) ?_
  · intro y hy
    rw [x.scope]
    rcases List.mem_cons.mp hy with rfl | hy
    · exact .inl rfl
    · rcases List.mem_cons.mp hy with rfl | hy
      · exact .inl rfl
      · rw [List.mem_singleton.mp hy]; exact .inl rfl
  · intro s θ vs W V
    cases V with
    | cons V r => cases r with
      | cons V' r' => cases r' with
        | cons V'' r'' => cases r''; exact bind_pos x.pars x.dflt x.kwd fun _ => by kernel_rfl
  · intro env e
    rw [List.append_nil]
    have K := fun y => e.kind x y
    refine Ex.cons (Ex1.ite (b := false) (r := none) (ρ₂ := [("line", .ob i), ("kind", .int 2), ("pick", .int pk)]) (μ₂ := μ) (Te.cast (Te.cmp (Ev.local rfl ((K _).trans rfl) (by decide)) Ev.int Op.eq) rfl) Ex.nil) ?_
    refine Ex.cons (Ex1.ite (b := false) (r := none) (ρ₂ := [("line", .ob i), ("kind", .int 2), ("pick", .int pk)]) (μ₂ := μ) (Te.cast (Te.cmp (Ev.local rfl ((K _).trans rfl) (by decide)) Ev.int Op.eq) rfl) Ex.nil) ?_
    have hd : (its.map pairD).drop p = (q :: R).map pairD := by rw [← List.map_drop, hdrop]
    refine Ex.cons (Ex1.assign (d := .list ((q :: R).map pairD)) (Ev.cast (c.popFrom (j := p) (Ev.local rfl ((K _).trans rfl) (by decide)) (Ev.cast (Ev.bin (Ev.local rfl ((K _).trans rfl) (by decide)) (c.count (Ev.local rfl ((K _).trans rfl) (by decide)) hi) (Op.mod (by rw [List.length_map]; lia))) (by rw [hp]; simp)) hi (by simp; lia) (closed_pairs _)) (by rw [hd])) (sto x e rfl)) ?_
    let M (j : Nat) : List MO := μ.set i (.acc kk ((its.take p ++ R.take j).map pairD))
    have hM : ∀ j, (M j)[i]? = some (.acc kk ((its.take p ++ R.take j).map pairD)) := fun j => by simp [M, hi']
    have hzR : ((q :: R).map pairD).length ≤ sizeLine := by
      rw [sizeLine_eq, List.length_map, List.length_cons]
      have : R.length ≤ its.length := by simp [R]
      lia
    refine Ex.cons (Ex1.forI (ds := R.map pairD) (Itb.list (Ev.cast (Ev.slice (a := some 1) (b := none) (Ev.local rfl ((K _).trans rfl) (by decide)) (.some Ev.int) .none (.inr rfl) hzR) (by rfl))) (fun j => [("line", .ob i), ("kind", .int 2), ("pick", .int pk), ("rest", .list ((q :: R).map pairD))]) M rfl (by simp [M]) ?_) ?_
    · intro j d hd
      rw [List.getElem?_map, Option.map_eq_some_iff] at hd
      obtain ⟨⟨a, b⟩, hab, rfl⟩ := hd
      refine ⟨GoK.tup, _, Tg.tup (TgL.cons (sto x e rfl) (TgL.cons (sto x e rfl) TgL.nil)), ?_⟩
      have hn : M (j + 1) = (M j).set i (.acc kk (((its.take p ++ R.take j).map pairD) ++ [pairD (a, b)])) := by
        simp only [M, List.set_set]
        rw [List.take_add_one, hab]; simp
      rw [hn]
      refine Ex.sub (Ex.cons (Ex1.expr (c.push (Ev.local rfl ((K _).trans rfl) (by decide)) (Evs.cons (Ev.local rfl ((K _).trans rfl) (by decide)) (Evs.cons (Ev.local rfl ((K _).trans rfl) (by decide)) Evs.nil)) (hM j) (by simp only [List.length_map, List.length_append, List.length_take, R, List.length_drop]; lia)) (notInter x e)) Ex.nil) (subOf (List.forall_mem_cons.mpr ⟨rfl, List.forall_mem_cons.mpr ⟨rfl, List.forall_mem_cons.mpr ⟨rfl, List.forall_mem_cons.mpr ⟨rfl, List.forall_mem_nil _⟩⟩⟩⟩))
    · have hf : μ.set i (.acc kk ((its.eraseIdx p).map pairD)) = M (R.map pairD).length := by
        simp only [M, List.length_map]
        rw [List.take_length, her]
      rw [hf]
      exact Ex.ret (Ex1.ret (Ev.item_list (Ev.local rfl ((K _).trans rfl) (by decide)) Ev.int (by decide) (by decide) rfl))
end
end Mine
end

-- part P10
section
set_option maxRecDepth 100000
namespace Mine
open PySem PySem.W PyProof.Rows

theorem mul_small {a b : Int} (h : a.natAbs < 2 ^ 64) : IntMulOk a b := IntMulOk.of_left (intBits_le_iff.mpr h)
theorem mul_small' {a b : Int} (h : b.natAbs < 2 ^ 64) : IntMulOk a b := IntMulOk.of_right (intBits_le_iff.mpr h)

/-- a white text -/
def sp (h : Int) : Str := Txt.mul " " h
def letter (kind : Nat) : Str := ⟨#[97 + kind]⟩
def item (kind : Nat) (h : Int) : Str × Str := (sp h, letter kind)
theorem sp_len {h : Int} (h0 : 0 ≤ h) : ((sp h).length : Int) = h := by
  unfold sp
  rw [len_mul]
  have : ¬ h < 0 := by lia
  rw [decide_eq_false this]
  have h1 : ((" " : Str)).length = 1 := rfl
  rw [h1]
  simp
theorem sp_back {h : Int} (h0 : 0 ≤ h) : Txt.mul " " (((sp h).length : Nat) : Int) = sp h := by rw [sp_len h0]; rfl
theorem letter_len (kind : Nat) : (letter kind).length = 1 := rfl
theorem lens_items {kind : Nat} : ∀ {th : List Int}, (∀ h ∈ th, 0 ≤ h) → lens (th.map (item kind)) = (th.map fun h => h + 1).sum
  | [], _ => rfl
  | h :: r, hp => by
    have ih := lens_items (kind := kind) (th := r) fun y hy => hp y (.tail _ hy)
    have h1 := sp_len (hp h (.head _))
    show (((sp h).length : Int) + ((letter kind).length : Int)) + lens (r.map (item kind)) = (h + 1) + (r.map fun h => h + 1).sum
    rw [ih, letter_len, h1]; rfl

theorem foldl_cps (glue : Str) : ∀ (parts : List Str) (acc : Array Nat), (parts.foldl (fun acc p => acc ++ (Str.empty).cps ++ p.cps) acc).toList = acc.toList ++ (parts.map (·.cps.toList)).flatten
  | [], acc => by simp
  | p :: r, acc => by
    rw [List.foldl_cons, foldl_cps glue r]
    simp [Str.empty]
theorem join_cps (parts : List Str) : (Txt.join "" parts).cps.toList = (parts.map (·.cps.toList)).flatten := by
  unfold Txt.join Builtin.Str.glued
  cases parts with
  | nil => rfl
  | cons p r =>
    show ((r.foldl (fun acc p => acc ++ (Str.empty).cps ++ p.cps) p.cps).toList) = _
    rw [foldl_cps Str.empty]; rfl
theorem join_len (parts : List Str) : (Txt.join "" parts).length = (parts.map (·.length)).sum := by
  have : (Txt.join "" parts).length = (Txt.join "" parts).cps.toList.length := by simp [Str.length]
  rw [this, join_cps, List.length_flatten]
  simp [List.map_map, Str.length, Function.comp_def]
theorem text_mem {its : List (Str × Str)} {q : Str × Str} (h : q ∈ its) {c : Nat} (hc : c ∈ q.2.cps.toList) : c ∈ (text its).cps.toList := by
  rw [join_cps]
  refine List.mem_flatten.mpr ⟨(Txt.join "" [q.1, q.2]).cps.toList, ?_, ?_⟩
  · exact List.mem_map.mpr ⟨_, List.mem_map.mpr ⟨q, h, rfl⟩, rfl⟩
  · rw [join_cps]; simp [Array.mem_toList_iff.mp hc]
theorem isspace_items {kind : Nat} (hk : kind < 3) {th : List Int} : Txt.isspace (text (th.map (item kind))) = false := by
  cases th with
  | nil => rfl
  | cons h r =>
    unfold Txt.isspace
    have hm : (97 + kind) ∈ (text ((h :: r).map (item kind))).cps.toList := text_mem (q := item kind h) (by simp) (by simp [item, letter])
    have hn : Unicode.isSpace (97 + kind) = false := by
      match kind, hk with
      | 0, _ => decide +kernel
      | 1, _ => decide +kernel
      | 2, _ => decide +kernel
    have : ((text ((h :: r).map (item kind))).cps.all Unicode.isSpace) = false := by
      rw [Bool.eq_false_iff]
      intro ha
      rw [Array.all_eq_true_iff_forall_mem] at ha
      have := ha _ (Array.mem_toList_iff.mp hm)
      rw [hn] at this; cases this
    rw [this, Bool.and_false]
theorem item_small {kind : Nat} {th : List Int} (hp : ∀ h ∈ th, 0 ≤ h ∧ h ≤ 1000) : ∀ q ∈ th.map (item kind), q.1.length ≤ 10000 ∧ q.2.length ≤ 10000 := by
  intro q hq
  obtain ⟨h, hh, rfl⟩ := List.mem_map.mp hq
  have h1 := sp_len (hp h hh).1
  have h2 := (hp h hh).2
  refine ⟨?_, ?_⟩
  · show (sp h).length ≤ 10000
    lia
  · show (letter kind).length ≤ 10000
    rw [letter_len]; lia
theorem items_sum {kind : Nat} : ∀ {th : List Int}, (∀ h ∈ th, 0 ≤ h ∧ h ≤ 1000) → (((th.map (item kind)).map fun q => Txt.join "" [q.1, q.2]).map (·.length)).sum ≤ 2000 * th.length
  | [], _ => Nat.le_refl _
  | h :: r, hp => by
    have ih := items_sum (kind := kind) (th := r) fun y hy => hp y (.tail _ hy)
    have h1 := sp_len (hp h (.head _)).1
    have h2 := (hp h (.head _)).2
    rw [List.map_cons, List.map_cons, List.map_cons, List.sum_cons, List.length_cons]
    have : (Txt.join "" [(item kind h).1, (item kind h).2]).length = (sp h).length + (letter kind).length := by rw [join_len]; simp [item]
    rw [this, letter_len]
    lia
theorem sum_succ : ∀ {th : List Int}, (∀ h ∈ th, 0 ≤ h ∧ h ≤ 1000) → (0 : Int) ≤ (th.map fun h => h + 1).sum ∧ (th.map fun h => h + 1).sum ≤ (1001 * th.length : Int) ∧ (th ≠ [] → (0 : Int) < (th.map fun h => h + 1).sum)
  | [], _ => ⟨Int.le_refl _, Int.le_refl _, fun h => absurd rfl h⟩
  | h :: r, hp => by
    have ih := sum_succ (th := r) fun y hy => hp y (.tail _ hy)
    have h1 := hp h (.head _)
    simp only [List.map_cons, List.sum_cons, List.length_cons]
    refine ⟨by lia, by lia, fun _ => by lia⟩

/-- which of the line goes -/
def gix (kind : Nat) (pk : Int) (n : Nat) : Nat := if kind = 0 then n - 1 else if kind = 1 then 0 else pickAt pk n
theorem gix_lt {kind : Nat} {pk : Int} {n : Nat} (h : 0 < n) : gix kind pk n < n := by
  unfold gix
  split
  · lia
  · split
    · exact h
    · exact pickAt_lt h

structure LS where
  there : List Int
  stays : List Int
  first : Int
  area : Int
  last : Int
def lstep (kind : Nat) (s : LS) (d : Deed) : LS :=
  if d.1 = true then ⟨s.there ++ [d.2.1], s.stays, s.first, s.area + (d.2.1 - s.last) * s.there.length, d.2.1⟩
  else ⟨s.there.eraseIdx (gix kind d.2.2 s.there.length), s.stays ++ [d.2.1 - s.there.getD (gix kind d.2.2 s.there.length) 0], if kind = 1 then 0 else s.first, s.area + (d.2.1 - s.last) * s.there.length, d.2.1⟩
def lfold (kind : Nat) (deeds : List Deed) : LS := deeds.foldl (lstep kind) ⟨[], [], kind + 1, 0, 0⟩
def cnt (deeds : List Deed) : Nat := deeds.foldl (fun n d => if d.1 = true then n + 1 else n - 1) 0

theorem lfold_snoc (kind : Nat) (ds : List Deed) (d : Deed) : lfold kind (ds ++ [d]) = lstep kind (lfold kind ds) d := by
  unfold lfold; rw [List.foldl_append]; rfl
theorem cnt_snoc (ds : List Deed) (d : Deed) : cnt (ds ++ [d]) = if d.1 = true then cnt ds + 1 else cnt ds - 1 := by
  unfold cnt; rw [List.foldl_append]; rfl
theorem snoc_ind {α : Type} (P : List α → Prop) (h0 : P []) (h1 : ∀ r d, P r → P (r ++ [d])) (l : List α) : P l := by
  rw [← List.reverse_reverse l]
  generalize l.reverse = m
  induction m with
  | nil => exact h0
  | cons d r ih => rw [List.reverse_cons]; exact h1 _ _ ih
theorem lfold_len (kind : Nat) (ds : List Deed) : (lfold kind ds).there.length = cnt ds := by
  refine snoc_ind (fun ds => (lfold kind ds).there.length = cnt ds) rfl (fun r d ih => ?_) ds
  · rw [lfold_snoc, cnt_snoc]
    unfold lstep
    split
    · simp [ih]
    · show ((lfold kind r).there.eraseIdx _).length = _
      rw [List.length_eraseIdx, ih]
      split
      · rfl
      · rename_i h
        have : ¬ 0 < cnt r := fun h0 => h (by rw [← ih] at h0 ⊢; exact gix_lt h0)
        lia
theorem lfold_bound (kind : Nat) (ds : List Deed) (hh : ∀ d ∈ ds, 0 ≤ d.2.1 ∧ d.2.1 ≤ 1000) :
    (∀ h ∈ (lfold kind ds).there, 0 ≤ h ∧ h ≤ 1000) ∧ (lfold kind ds).there.length ≤ ds.length ∧ (lfold kind ds).stays.length ≤ ds.length ∧ (0 ≤ (lfold kind ds).last ∧ (lfold kind ds).last ≤ 1000) ∧ ((lfold kind ds).first = 0 ∨ (lfold kind ds).first = kind + 1) := by
  revert hh
  refine snoc_ind (fun ds => (∀ d ∈ ds, 0 ≤ d.2.1 ∧ d.2.1 ≤ 1000) → (∀ h ∈ (lfold kind ds).there, 0 ≤ h ∧ h ≤ 1000) ∧ (lfold kind ds).there.length ≤ ds.length ∧ (lfold kind ds).stays.length ≤ ds.length ∧ (0 ≤ (lfold kind ds).last ∧ (lfold kind ds).last ≤ 1000) ∧ ((lfold kind ds).first = 0 ∨ (lfold kind ds).first = kind + 1)) ?_ ?_ ds
  · exact fun _ => ⟨fun _ h => (nomatch h), Nat.le_refl _, Nat.le_refl _, ⟨Int.le_refl _, (by decide : (0 : Int) ≤ 1000)⟩, .inr rfl⟩
  · intro r d ih
    intro hh
    have zq := ih fun x hx => hh x (List.mem_append.mpr (.inl hx))
    have h1 := zq.1
    replace zq := zq.2
    have h2 := zq.1
    replace zq := zq.2
    have h3 := zq.1
    replace zq := zq.2
    have h4 := zq.1
    replace zq := zq.2
    have h5 := zq
    clear zq
    have hd := hh d (by simp)
    rw [lfold_snoc]
    unfold lstep
    split
    · refine ⟨fun h hm => ?_, by simp; omega, by simp; lia, hd, h5⟩
      rcases List.mem_append.mp hm with hm | hm
      · exact h1 h hm
      · rw [List.mem_singleton.mp hm]; exact hd
    · refine ⟨fun h hm => h1 h (List.mem_of_mem_eraseIdx hm), ?_, by simp; omega, hd, ?_⟩
      · show ((lfold kind r).there.eraseIdx _).length ≤ _
        rw [List.length_eraseIdx, List.length_append]
        split <;> lia
      · show (if kind = 1 then (0 : Int) else _) = 0 ∨ (if kind = 1 then (0 : Int) else _) = _
        split
        · exact .inl rfl
        · exact h5
end Mine
end

-- part P11
section
set_option maxRecDepth 100000
namespace Mine
open PySem PySem.W PyProof.Rows

theorem getD_some {α : Type} {l : List α} {p : Nat} {a : α} (h : p < l.length) : l[p]? = some (l.getD p a) := by
  rw [List.getD_eq_getElem?_getD, List.getElem?_eq_getElem h]; rfl
theorem sum_erase (f : Int → Int) : ∀ {l : List Int} {p : Nat}, p < l.length → ((l.eraseIdx p).map f).sum = (l.map f).sum - f (l.getD p 0)
  | [], p, h => absurd h (Nat.not_lt_zero _)
  | a :: r, 0, h => by
    show (r.map f).sum = f a + (r.map f).sum - f a
    lia
  | a :: r, p + 1, h => by
    have ih := sum_erase f (l := r) (p := p) (Nat.lt_of_succ_lt_succ h)
    show f a + ((r.eraseIdx p).map f).sum = f a + (r.map f).sum - f (r.getD p 0)
    lia
theorem map_erase {α β : Type} (f : α → β) : ∀ (l : List α) (p : Nat), (l.eraseIdx p).map f = (l.map f).eraseIdx p
  | [], p => by simp
  | a :: r, 0 => rfl
  | a :: r, p + 1 => by
    show f a :: (r.eraseIdx p).map f = f a :: (r.map f).eraseIdx p
    rw [map_erase f r p]

section
variable {g : G} {k : Nat} {μ : List MO} {f : Addr} {fd : FuncData}

/-- the one that goes, by the kind of the line -/
theorem go_fn {i kind : Nat} {kk pk : Int} {th : List Int} (c : Cls g) (x : IsDef g f (stm 12) fd) (hk : kind < 3) (hi : μ[i]? = some (.acc kk ((th.map (item kind)).map pairD))) (hz : th.length ≤ 100) (h0 : 0 < th.length) :
    Fn g (k + 3) (.ref f) [.ob i, .int kind, .int pk] μ (pairD (item kind (th.getD (gix kind pk th.length) 0))) (μ.set i (.acc (if kind = 1 then 0 else kk) (((th.eraseIdx (gix kind pk th.length)).map (item kind)).map pairD))) := by
  match kind, hk, hi with
  | 0, _, hi =>
    obtain ⟨r, h, rfl⟩ : ∃ r h, th = r ++ [h] := ⟨th.dropLast, th.getLast (List.length_pos_iff.mp h0), (List.dropLast_concat_getLast _).symm⟩
    have hg : gix 0 pk (r ++ [h]).length = r.length := by simp [gix]
    have h1 : (r ++ [h]).getD r.length 0 = h := by simp
    have h2 : (r ++ [h]).eraseIdx r.length = r := by simp [List.eraseIdx_append_of_length_le]
    rw [hg, h1, h2]
    rw [List.length_append] at hz
    exact go0_fn c x (by simpa using hi) (by simp; lia)
  | 1, _, hi =>
    obtain ⟨h, r, rfl⟩ : ∃ h r, th = h :: r := by
      cases th with
      | nil => cases h0
      | cons h r => exact ⟨h, r, rfl⟩
    have hg : gix 1 pk (h :: r).length = 0 := rfl
    rw [hg]
    rw [List.length_cons] at hz
    exact go1_fn c x hi (by simp; lia)
  | 2, _, hi =>
    have hg : gix 2 pk th.length = pickAt pk th.length := rfl
    rw [hg, map_erase]
    have hlt := pickAt_lt (pk := pk) h0
    refine go2_fn c x hi (by simpa using hz) (by rw [List.length_map]; exact pickAt_int h0) ?_
    rw [List.getElem?_map, getD_some (a := 0) hlt]; rfl

theorem letter_ev {env : Env} {ρ : En} {kind n : Nat} {p p' pos : Pos} (hk : kind < 3) (h : Ev g k env ρ μ (.Name "kind" p') (.int kind) μ) :
    Ev g k env ρ μ (.Subscript (.Constant (.str "abc") n p) (.Name "kind" p') pos) (.str (letter kind)) μ := by
  refine Ev.item_str (i := (kind : Int)) (c := 97 + kind) Ev.str h ?_ ?_
  · have a1 : ¬ (kind : Int) < -(2 ^ 63 : Int) := by omega
    have a2 : ¬ (kind : Int) ≥ (2 ^ 63 : Int) := by omega
    rw [decide_eq_false a1, decide_eq_false a2]; rfl
  · match kind, hk with
    | 0, _ => rfl
    | 1, _ => rfl
    | 2, _ => rfl

theorem strOk_sp (h : Int) : PyData.strOk (sp h) = true := by
  have hl : (sp h).cps.toList = List.replicate h.toNat 32 := mul_one_list 32 h
  unfold PyData.strOk
  rw [Array.all_eq_true_iff_forall_mem]
  intro c hc
  have := Array.mem_toList_iff.mpr hc
  rw [hl] at this
  rw [(List.mem_replicate.mp this).2]; rfl
theorem strOk_letter {kind : Nat} (hk : kind < 3) : PyData.strOk (letter kind) = true := by
  match kind, hk with
  | 0, _ => decide +kernel
  | 1, _ => decide +kernel
  | 2, _ => decide +kernel
theorem shaped_item {kind : Nat} (hk : kind < 3) (h : Int) : SeqAt.shaped (.tuple [.str (sp h), .str (letter kind)]) = true := by
  show (PyData.strOk (sp h) && (PyData.strOk (letter kind) && true) && _) = true
  rw [strOk_sp, strOk_letter hk]; rfl

theorem Ex.nilF {env : Env} {ρ : En} {X : Prop} : if false = true then X else Ex g k env ρ μ [] none ρ μ := by
  rw [if_neg (by decide)]; exact Ex.nil
theorem Ev.to {env : Env} {ρ : En} {μ₁ μ₂ : List MO} {e : Expr} {d : D} (h : Ev g k env ρ μ e d μ₁) (hm : μ₁ = μ₂) : Ev g k env ρ μ e d μ₂ := hm ▸ h
def tot (th : List Int) : Int := (th.map fun h => h + 1).sum

theorem line_fn {deeds : List Deed} {kind : Nat} {fg : Addr} {fdg : FuncData} (c : Cls g) (x : IsDef g f (stm 13) fd) (hgo : g.mg "_law_go" = some (.ref fg)) (xg : IsDef g fg (stm 12) fdg) (hk : kind < 3)
    (hz : deeds.length ≤ 8) (hh : ∀ d ∈ deeds, 0 ≤ d.2.1 ∧ d.2.1 ≤ 1000) (hok : ∀ i d, deeds[i]? = some d → d.1 = false → 0 < cnt (deeds.take i)) (hend : cnt deeds = 0) :
    Fn g (k + 6) (.ref f) [.list (deedsD deeds), .int kind] μ (.tup [.list (iL (lfold kind deeds).stays), .int (lfold kind deeds).area]) μ := by
  let S (i : Nat) : LS := lfold kind (deeds.take i)
  have hSb := fun i => lfold_bound kind (deeds.take i) fun d hd => hh d (List.mem_of_mem_take hd)
  have hSn : S deeds.length = lfold kind deeds := by show lfold _ _ = _; rw [List.take_length]
  have hL : ∀ i, (S i).there.length ≤ 8 ∧ (S i).stays.length ≤ 8 := fun i => by
    have h1 := (hSb i).2.1
    have h2 := (hSb i).2.2.1
    rw [List.length_take] at h1 h2
    exact ⟨by show (lfold _ _).there.length ≤ 8; omega, by show (lfold _ _).stays.length ≤ 8; omega⟩
  let T (i : Nat) : List (Str × Str) := (S i).there.map (item kind)
  let B (i : Nat) : En := [("deeds", .list (deedsD deeds)), ("kind", .int kind), ("line", .ob μ.length), ("stays", .ob (μ.length + 1)), ("first", .int (S i).first), ("lying", .int (tot (S i).there)), ("area", .int (S i).area), ("last", .int (S i).last)]
  let M (i : Nat) : List MO := μ ++ [.acc (S i).first ((T i).map pairD), .list (iL (S i).stays)]
  have g0 : ∀ a b : MO, (μ ++ [a, b])[μ.length]? = some a := fun a b => by simp
  have g1 : ∀ a b : MO, (μ ++ [a, b])[μ.length + 1]? = some b := fun a b => by simp
  have s0 : ∀ a b c : MO, (μ ++ [a, b]).set μ.length c = μ ++ [c, b] := fun a b c => by simp
  have s1 : ∀ a b c : MO, (μ ++ [a, b]).set (μ.length + 1) c = μ ++ [a, c] := fun a b c => by simp
  refine Fn.body (ext := [.acc 0 [], .list (iL (lfold kind deeds).stays)]) (d₁ := .tup [.ob (μ.length + 1), .int (lfold kind deeds).area]) (names := ["deeds", "kind"])
    (ρ' := B deeds.length) x.is x.body x.clo (by rw [x.scope]; decide +kernel) ?_ ?_ rfl (.tup (.cons (.ob (Nat.le_succ _) (by simp)) (.cons (.closed rfl) .nil))) ?_
  · intro y hy
    rw [x.scope]
    rcases List.mem_cons.mp hy with rfl | hy
    · exact .inl rfl
    · rw [List.mem_singleton.mp hy]; exact .inl rfl
  · intro s θ vs W V
    cases V with
    | cons V r => cases r with
      | cons V' r' => cases r'; exact bind_pos x.pars x.dflt x.kwd fun _ => by kernel_rfl
  · intro env e
    have K := fun y => e.kind x y
    show Ex g (k + 5) env [("deeds", .list (deedsD deeds)), ("kind", .int kind)] μ (bodyOf (stm 13)) _ _ _
    refine Ex.cons (Ex1.assign (c.new ((K _).trans rfl) (Ev.bin (Ev.local rfl ((K _).trans rfl) (by decide)) Ev.int Op.add)) (sto x e rfl)) ?_
    have hml : ∀ a : MO, (μ ++ [a]).length = μ.length + 1 := fun a => by simp
    refine Ex.cons (Ex1.unpack (Ev.tup (Evs.cons (Ev.newOb Evs.nil (Nat.zero_le _) rfl) (Evs.cons (Ev.bin (Ev.local rfl ((K _).trans rfl) (by decide)) Ev.int Op.add) (Evs.cons Ev.int (Evs.cons Ev.int (Evs.cons Ev.int Evs.nil))))) (by simp [sizeLine_eq])) (TgL.cons (sto x e rfl) (TgL.cons (sto x e rfl) (TgL.cons (sto x e rfl) (TgL.cons (sto x e rfl) (TgL.cons (sto x e rfl) TgL.nil))))) rfl ?_) ?_
    · rfl
    rw [hml, List.append_assoc]
    refine Ex.cons (Ex1.forI (ds := deedsD deeds) (Itb.list (Ev.local rfl ((K _).trans rfl) (by decide))) B M rfl rfl ?_) ?_
    · intro i d hd
      rw [deedsD, List.getElem?_map, Option.map_eq_some_iff] at hd
      obtain ⟨⟨cm, h, pk⟩, hy, rfl⟩ := hd
      have hi8 : i < deeds.length := (List.getElem?_eq_some_iff.mp hy).1
      have hS1 : S (i + 1) = lstep kind (S i) (cm, h, pk) := by
        show lfold kind _ = _
        rw [List.take_add_one, hy]; exact lfold_snoc _ _ _
      have hh' : 0 ≤ h ∧ h ≤ 1000 := hh _ (List.mem_of_getElem? hy)
      have hb := hSb i
      have hb1 := hSb (i + 1)
      have hli := hL i
      have hli1 := hL (i + 1)
      let B1 : En := [("deeds", .list (deedsD deeds)), ("kind", .int kind), ("line", .ob μ.length), ("stays", .ob (μ.length + 1)), ("first", .int (S i).first), ("lying", .int (tot (S i).there)), ("area", .int (S (i + 1)).area), ("last", .int h), ("comes", .bool cm), ("hour", .int h), ("pick", .int pk)]
      let B2 : En := [("deeds", .list (deedsD deeds)), ("kind", .int kind), ("line", .ob μ.length), ("stays", .ob (μ.length + 1)), ("first", .int (S (i + 1)).first), ("lying", .int (tot (S (i + 1)).there)), ("area", .int (S (i + 1)).area), ("last", .int h), ("comes", .bool cm), ("hour", .int h), ("pick", .int pk)]
      have harea : (S (i + 1)).area = (S i).area + (h - (S i).last) * ((S i).there.length : Int) := by rw [hS1]; unfold lstep; split <;> rfl
      have hlast : (S (i + 1)).last = h := by rw [hS1]; unfold lstep; split <;> rfl
      have hTl : ((T i).map pairD).length = (S i).there.length := by simp [T]
      refine ⟨GoK.tup, _, Tg.tup (TgL.cons (sto x e rfl) (TgL.cons (sto x e rfl) (TgL.cons (sto x e rfl) TgL.nil))), ?_⟩
      refine Ex.sub (ρ₁ := B2) (Ex.cons (ρ₁ := [("deeds", .list (deedsD deeds)), ("kind", .int kind), ("line", .ob μ.length), ("stays", .ob (μ.length + 1)), ("first", .int (S i).first), ("lying", .int (tot (S i).there)), ("area", .int (S (i + 1)).area), ("last", .int (S i).last), ("comes", .bool cm), ("hour", .int h), ("pick", .int pk)]) (Ex1.assign (d := .int (S (i + 1)).area) (Ev.cast (Ev.bin (Ev.local rfl ((K _).trans rfl) (by decide)) (Ev.bin (Ev.bin (Ev.local rfl ((K _).trans rfl) (by decide)) (Ev.local rfl ((K _).trans rfl) (by decide)) Op.sub) (c.count (Ev.local rfl ((K _).trans rfl) (by decide)) (g0 _ _)) (Op.mul (mul_small' ?_))) Op.add) ?_) (sto x e rfl))
        (Ex.cons (ρ₁ := B1) (Ex1.assign (Ev.local rfl ((K _).trans rfl) (by decide)) (sto x e rfl))
        (Ex.cons (ρ₁ := B2) (μ₁ := M (i + 1)) (Ex1.ite (Te.val (Ev.local rfl ((K _).trans rfl) (by decide))) ?_)
        (Ex.cons (Ex1.ite (b := false) (r := none) (ρ₂ := B2) (μ₂ := M (i + 1)) ?_ Ex.nil) Ex.nil)))) ?_
      · rw [hTl]; omega
      · rw [hTl, harea]
      · cases cm with
        | true =>
          rw [if_pos rfl]
          have e1 : (S (i + 1)).first = (S i).first := by rw [hS1]; rfl
          have e2 : (S (i + 1)).there = (S i).there ++ [h] := by rw [hS1]; rfl
          have e3 : (S (i + 1)).stays = (S i).stays := by rw [hS1]; rfl
          have hM : M (i + 1) = (M i).set μ.length (.acc (S i).first ((T i).map pairD ++ [pairD (item kind h)])) := by
            simp only [M, s0, T, e1, e2, e3, List.map_append, List.map_cons, List.map_nil]
          have hB : B2 = upd B1 "lying" (.int (tot (S (i + 1)).there)) := by
            simp only [B2, e1]; rfl
          rw [hM, hB]
          refine Ex.cons (Ex1.expr (c.push (a := sp h) (b := letter kind) (Ev.local rfl ((K _).trans rfl) (by decide)) (Evs.cons (Ev.bin Ev.str (Ev.local rfl ((K _).trans rfl) (by decide)) (Op.rep (mulOk_of 1 1000 (by decide) (by omega) (by omega) (by decide) (by decide)))) (Evs.cons (letter_ev hk (Ev.local rfl ((K _).trans rfl) (by decide))) Evs.nil)) (g0 _ _) (by rw [hTl]; omega)) (notInter x e)) ?_
          refine Ex.cons (Ex1.assign (d := .int (tot (S (i + 1)).there)) (Ev.cast (Ev.bin (Ev.bin (Ev.local rfl ((K _).trans rfl) (by decide)) (Ev.local rfl ((K _).trans rfl) (by decide)) Op.add) Ev.int Op.add) ?_) (sto x e rfl)) Ex.nil
          rw [e2]
          simp only [tot, List.map_append, List.sum_append, List.map_cons, List.map_nil, List.sum_cons, List.sum_nil]
          congr 1; lia
        | false =>
          skip
          have hpos : 0 < (S i).there.length := by
            have := hok i _ hy rfl
            rw [← lfold_len kind] at this; exact this
          generalize hix : gix kind pk (S i).there.length = ix
          have hixl : ix < (S i).there.length := hix ▸ gix_lt hpos
          generalize hhx : (S i).there.getD ix 0 = hx
          have hxb : 0 ≤ hx ∧ hx ≤ 1000 := by
            have := hb.1 hx (by rw [← hhx]; exact List.mem_of_getElem? (getD_some hixl))
            exact this
          have e1 : (S (i + 1)).first = if kind = 1 then 0 else (S i).first := by rw [hS1]; rfl
          have e2 : (S (i + 1)).there = (S i).there.eraseIdx ix := by rw [hS1, ← hix]; rfl
          have e3 : (S (i + 1)).stays = (S i).stays ++ [h - hx] := by rw [hS1, ← hhx, ← hix]; rfl
          have e4 : tot (S (i + 1)).there = tot (S i).there - hx - 1 := by
            rw [e2]; unfold tot
            rw [sum_erase _ hixl, hhx]; lia
          let N : List MO := μ ++ [.acc (S (i + 1)).first ((T (i + 1)).map pairD), .list (iL (S i).stays)]
          have hN : N = (M i).set μ.length (.acc (if kind = 1 then 0 else (S i).first) ((((S i).there.eraseIdx ix).map (item kind)).map pairD)) := by
            simp only [N, M, s0, T, e1, e2]
          have hM : M (i + 1) = N.set (μ.length + 1) (.list (iL (S i).stays ++ [.int (h - hx)])) := by
            simp only [N, M, s1, e3, iL, List.map_append, List.map_cons, List.map_nil]
          let B3 : En := upd (upd (upd B1 "piece" (pairD (item kind hx))) "lying" (.int (tot (S (i + 1)).there))) "first" (.int (S (i + 1)).first)
          have lenp : ∀ (ρ : En) (μ' : List MO) (p1 p2 p3 p4 p5 : Pos) (n : Nat), ρ.lookup ("piece" : Str) = some (pairD (item kind hx)) → Ev g (k + 5) env ρ μ' (.Call (.Name "len" p1) [.Subscript (.Name "piece" p2) (.Constant (.int 0) n p3) p4] [] p5) (.int hx) μ' := by
            intro ρ μ' p1 p2 p3 p4 p5 n hp
            refine Ev.cast (Ev.callB ((K _).trans rfl) c.gn.len.1 c.gn.len.2 (Evs.cons (Ev.item_tup (ds := [.str (sp hx), .str (letter kind)]) (d := .str (sp hx)) (Ev.local hp ((K _).trans rfl) (by decide)) Ev.int (by decide) (by decide) rfl) Evs.nil) (Bi.len_str ?_)) ?_
            · have := sp_len hxb.1
              rw [sizeLine_eq]; lia
            · rw [sp_len hxb.1]
          refine Ex.sub (ρ₁ := B3) ?_ (subOf (List.forall_mem_cons.mpr ⟨rfl, List.forall_mem_cons.mpr ⟨rfl, List.forall_mem_cons.mpr ⟨rfl, List.forall_mem_cons.mpr ⟨rfl, List.forall_mem_cons.mpr ⟨rfl, List.forall_mem_cons.mpr ⟨rfl, List.forall_mem_cons.mpr ⟨rfl, List.forall_mem_cons.mpr ⟨rfl, List.forall_mem_cons.mpr ⟨rfl, List.forall_mem_cons.mpr ⟨rfl, List.forall_mem_cons.mpr ⟨rfl, List.forall_mem_nil _⟩⟩⟩⟩⟩⟩⟩⟩⟩⟩⟩))
          refine Ex.cons (μ₁ := N) (Ex1.assign (d := pairD (item kind hx)) ?_ (sto x e rfl)) ?_
          · have hf := go_fn (k := k + 2) (μ := M i) (i := μ.length) (kk := (S i).first) (pk := pk) c xg hk (g0 _ _) (by lia) hpos
            rw [hix, hhx, ← hN] at hf
            exact Ev.callF ((K _).trans rfl) hgo xg.is (Evs.cons (Ev.local rfl ((K _).trans rfl) (by decide)) (Evs.cons (Ev.local rfl ((K _).trans rfl) (by decide)) (Evs.cons (Ev.local rfl ((K _).trans rfl) (by decide)) Evs.nil))) hf
          refine Ex.cons (Ex1.ite (b := false) (r := none) (ρ₂ := upd B1 "piece" (pairD (item kind hx))) (μ₂ := N) (Te.cmp (Ev.local rfl ((K _).trans rfl) (by decide)) (Ev.cast (Ev.tup (Evs.cons (Ev.bin Ev.str (lenp _ _ _ _ _ _ _ _ rfl) (Op.rep (mulOk_of 1 1000 (by decide) (by omega) (by omega) (by decide) (by decide)))) (Evs.cons (letter_ev hk (Ev.local rfl ((K _).trans rfl) (by decide))) Evs.nil)) (by simp [sizeLine_eq])) ?_) (Op.ne_same rfl (shaped_item hk hx))) Ex.nil) ?_
          · rfl
          rw [hM]
          refine Ex.cons (Ex1.expr (Ev.append (Ev.local rfl ((K _).trans rfl) (by decide)) (Ev.bin (Ev.local rfl ((K _).trans rfl) (by decide)) (lenp _ _ _ _ _ _ _ _ rfl) Op.sub) (g1 _ _) (g1 _ _) rfl (by rw [iL_len, sizeLine_eq]; omega)) (notInter x e)) ?_
          refine Ex.cons (Ex1.assign (d := .int (tot (S (i + 1)).there)) (Ev.cast (Ev.bin (Ev.bin (Ev.local rfl ((K _).trans rfl) (by decide)) (lenp _ _ _ _ _ _ _ _ rfl) Op.sub) Ev.int Op.sub) (by rw [e4])) (sto x e rfl)) ?_
          refine Ex.cons (Ex1.assign (d := .int (S (i + 1)).first) (Ev.ite (Te.cmp (Ev.local rfl ((K _).trans rfl) (by decide)) Ev.int Op.eq) ?_) (sto x e rfl)) Ex.nil
          rw [e1]
          by_cases hk1 : kind = 1
          · have hkb : ((kind : Int) == 1) = true := by rw [hk1]; rfl
            rw [hkb, if_pos rfl, if_pos hk1]
            exact Ev.int
          · have hkb : ((kind : Int) == 1) = false := by
              have : (kind : Int) ≠ 1 := by lia
              simpa using this
            rw [hkb, if_neg (by decide), if_neg hk1]
            exact Ev.local rfl ((K _).trans rfl) (by decide)
      · have hle : lens (T (i + 1)) = tot (S (i + 1)).there := lens_items fun y hy => (hb1.1 y hy).1
        have hsu := sum_succ (th := (S (i + 1)).there) fun y hy => hb1.1 y hy
        have hsm := items_sum (kind := kind) (th := (S (i + 1)).there) fun y hy => hb1.1 y hy
        have hT : (T (i + 1)).length = (S (i + 1)).there.length := by simp [T]
        have hfi : 0 ≤ (S (i + 1)).first ∧ (S (i + 1)).first ≤ 3 := by
          rcases hb1.2.2.2.2 with h' | h'
          · show 0 ≤ (lfold kind (deeds.take (i + 1))).first ∧ _
            rw [h']; omega
          · show 0 ≤ (lfold kind (deeds.take (i + 1))).first ∧ (lfold kind (deeds.take (i + 1))).first ≤ 3
            rw [h']; lia
        have hto : 0 ≤ tot (S (i + 1)).there ∧ tot (S (i + 1)).there ≤ 8008 := by
          have := hsu.1; have := hsu.2.1; unfold tot; omega
        refine Te.bop (Al.or_f (Te.cast (Te.cmp (c.len ((K _).trans rfl) (Ev.local rfl ((K _).trans rfl) (by decide)) (g0 _ _) (item_small fun y hy => hb1.1 y hy) (by rw [hle]; omega) (by rw [hle]; omega)) (Ev.bin (Ev.local rfl ((K _).trans rfl) (by decide)) (Ev.local rfl ((K _).trans rfl) (by decide)) Op.add) Op.ne) ?_) (Al.or_f (Te.cast (Te.cmp (c.onlyws (Ev.local rfl ((K _).trans rfl) (by decide)) (g0 _ _) (item_small fun y hy => hb1.1 y hy) (by omega) (Nat.le_trans hsm (by omega)) (by rw [hle]; omega) (by rw [hle]; omega)) (Ev.cmp (Ev.bin (Ev.local rfl ((K _).trans rfl) (by decide)) (Ev.local rfl ((K _).trans rfl) (by decide)) Op.add) Ev.int Op.eq) Op.neb) ?_) Al.or_nil))
        · rw [hle]; simp
        · rw [hle, isspace_items hk]
          generalize (S (i + 1)).first = a at hfi ⊢
          generalize tot (S (i + 1)).there = b at hto ⊢
          by_cases ha : a = 0
          · subst ha; simp
          · have h1 : (a == 0) = false := by simpa using ha
            have h2 : (a + b == 0) = false := by
              have : a + b ≠ 0 := by omega
              simpa using this
            rw [h1, h2]; rfl
      · refine subOf (List.forall_mem_cons.mpr ⟨rfl, List.forall_mem_cons.mpr ⟨rfl, List.forall_mem_cons.mpr ⟨rfl, List.forall_mem_cons.mpr ⟨rfl, List.forall_mem_cons.mpr ⟨rfl, List.forall_mem_cons.mpr ⟨rfl, List.forall_mem_cons.mpr ⟨rfl, List.forall_mem_cons.mpr ⟨?_, List.forall_mem_nil _⟩⟩⟩⟩⟩⟩⟩⟩)
        show some (D.int h) = some (.int (S (i + 1)).last)
        rw [hlast]
    · have hn : (deedsD deeds).length = deeds.length := by simp [deedsD]
      have hth : (S deeds.length).there = [] := List.length_eq_zero_iff.mp (by rw [hSn, lfold_len]; exact hend)
      have hfi : 0 ≤ (S deeds.length).first ∧ (S deeds.length).first ≤ 3 := by
        rcases (hSb deeds.length).2.2.2.2 with h' | h'
        · show 0 ≤ (lfold kind (deeds.take _)).first ∧ _
          rw [h']; omega
        · show 0 ≤ (lfold kind (deeds.take _)).first ∧ (lfold kind (deeds.take _)).first ≤ 3
          rw [h']; omega
      rw [hn]
      generalize hF : (S deeds.length).first = F at hfi
      have hM0 : M deeds.length = μ ++ [.acc F [], .list (iL (lfold kind deeds).stays)] := by
        show μ ++ [.acc (S deeds.length).first (((S deeds.length).there.map (item kind)).map pairD), .list (iL (S deeds.length).stays)] = _
        rw [hth, hF, hSn]; rfl
      have hB : B deeds.length = ([("deeds", .list (deedsD deeds)), ("kind", .int kind), ("line", .ob μ.length), ("stays", .ob (μ.length + 1)), ("first", .int F), ("lying", .int 0), ("area", .int (lfold kind deeds).area), ("last", .int (S deeds.length).last)] : En) := by
        show ([("deeds", .list (deedsD deeds)), ("kind", .int kind), ("line", .ob μ.length), ("stays", .ob (μ.length + 1)), ("first", .int (S deeds.length).first), ("lying", .int (tot (S deeds.length).there)), ("area", .int (S deeds.length).area), ("last", .int (S deeds.length).last)] : En) = _
        rw [hth, hF, ← hSn]; rfl
      rw [hM0, hB]
      generalize (iL (lfold kind deeds).stays) = st
      generalize hR : ([("deeds", .list (deedsD deeds)), ("kind", .int kind), ("line", .ob μ.length), ("stays", .ob (μ.length + 1)), ("first", .int F), ("lying", .int 0), ("area", .int (lfold kind deeds).area), ("last", .int (S deeds.length).last)] : En) = R
      have lin : ∀ (μ' : List MO) p, Ev g (k + 5) env R μ' (.Name "line" p) (.ob μ.length) μ' := fun μ' p => Ev.local (by rw [← hR]; rfl) ((K _).trans rfl) (by decide)
      have fir : ∀ (μ' : List MO) p, Ev g (k + 5) env R μ' (.Name "first" p) (.int F) μ' := fun μ' p => Ev.local (by rw [← hR]; rfl) ((K _).trans rfl) (by decide)
      refine Ex.cons (Ex1.ite (b := false) (r := none) (ρ₂ := R) (μ₂ := μ ++ [.acc F [], .list st]) (Te.bop (Al.or_f (Te.cast (Te.cmp (c.count (lin _ _) (g0 _ _)) Ev.int Op.ne) rfl) (Al.or_f (Te.cmp (c.pop0 (lin _ _) (g0 _ _)) (Ev.tup (Evs.cons Ev.str (Evs.cons Ev.str Evs.nil)) (by simp [sizeLine_eq])) (Op.ne_same rfl (by decide +kernel))) (Al.or_f (Te.cmp (Ev.to (c.popFrom0 (ds := []) (lin _ _) (g0 _ _) (Nat.zero_le _) rfl) (s0 (.acc F []) (.list st) (.acc F []))) (Ev.list Evs.nil (Nat.zero_le _)) (Op.ne_same (d := .list []) rfl (by decide +kernel))) Al.or_nil)))) Ex.nilF) ?_
      let its : List (Str × Str) := [(" ", ""), ("", " ")]
      have hits : ∀ q ∈ its, q.1.length ≤ 10000 ∧ q.2.length ≤ 10000 := by decide
      have hlen : lens its = 2 := by decide
      have htx : Txt.isspace (text its) = true := by decide +kernel
      refine Ex.cons (Ex1.expr (Ev.to (c.push (lin _ _) (Evs.cons Ev.str (Evs.cons Ev.str Evs.nil)) (g0 _ _) (Nat.zero_le _)) (s0 _ _ _)) (notInter x e)) ?_
      refine Ex.cons (μ₁ := μ ++ [.acc F (its.map pairD), .list st]) (Ex1.expr (Ev.to (c.push (lin _ _) (Evs.cons Ev.str (Evs.cons Ev.str Evs.nil)) (g0 _ _) (by decide)) (s0 _ _ _)) (notInter x e)) ?_
      refine Ex.cons (Ex1.ite (b := false) (r := none) (ρ₂ := R) (μ₂ := μ ++ [.acc F [], .list st]) (Te.bop (Al.or_f (Te.cast (Te.cmp (c.len (its := its) ((K _).trans rfl) (lin _ _) (g0 _ _) hits (by rw [hlen]; omega) (by rw [hlen]; omega)) (Ev.bin (fir _ _) Ev.int Op.add) Op.ne) ?_) (Al.or_f (Te.cast (Te.cmp (c.onlyws (its := its) (lin _ _) (g0 _ _) hits (by decide) (by decide) (by rw [hlen]; omega) (by rw [hlen]; omega)) (Ev.cmp (fir _ _) Ev.int Op.eq) Op.neb) ?_) (Al.or_f (Te.cmp (Ev.to (c.popFrom0 (ds := its.map pairD) (lin _ _) (g0 _ _) (by decide) (closed_pairs _)) (s0 (.acc F (its.map pairD)) (.list st) (.acc F []))) (Ev.list (Evs.cons (Ev.tup (Evs.cons Ev.str (Evs.cons Ev.str Evs.nil)) (by simp [sizeLine_eq])) (Evs.cons (Ev.tup (Evs.cons Ev.str (Evs.cons Ev.str Evs.nil)) (by decide)) Evs.nil)) (by decide)) (Op.ne_same (d := .list (its.map pairD)) rfl (by decide +kernel))) Al.or_nil)))) Ex.nilF) ?_
      · rw [hlen]; simp
      · rw [htx]; simp
      refine Ex.cons (Ex1.expr (Ev.to (c.push (lin _ _) (Evs.cons Ev.str (Evs.cons Ev.str Evs.nil)) (g0 _ _) (Nat.zero_le _)) (s0 _ _ _)) (notInter x e)) ?_
      refine Ex.cons (Ex1.expr (Ev.to (c.reset0 (lin _ _) (g0 _ _) (by decide)) (s0 (.acc F [pairD ("", "d")]) (.list st) (.acc 0 []))) (notInter x e)) ?_
      refine Ex.cons (Ex1.ite (b := false) (r := none) (ρ₂ := R) (μ₂ := μ ++ [.acc 0 [], .list st]) (Te.bop (Al.or_f (Te.cast (Te.cmp (c.count (lin _ _) (g0 _ _)) Ev.int Op.ne) rfl) (Al.or_f (Te.cast (Te.cmp (c.len (its := []) ((K _).trans rfl) (lin _ _) (g0 _ _) (by decide) (by decide) (by decide)) Ev.int Op.ne) rfl) (Al.or_f (Te.cast (Te.not (Te.val (Ev.cast (c.onlyws (its := []) (lin _ _) (g0 _ _) (by decide) (by decide) (by decide) (by decide) (by decide)) rfl))) rfl) Al.or_nil)))) Ex.nilF) ?_
      refine Ex.ret (Ex1.ret (Ev.tup (Evs.cons (Ev.local (by rw [← hR]; rfl) ((K _).trans rfl) (by decide)) (Evs.cons (Ev.local (by rw [← hR]; rfl) ((K _).trans rfl) (by decide)) Evs.nil)) (by simp [sizeLine_eq])))
end
end Mine
end

-- part P12
section
set_option maxRecDepth 100000
set_option exponentiation.threshold 100
namespace Mine
open PySem PySem.W PyProof.Rows

section
variable {g : G} {k : Nat} {μ : List MO} {f : Addr} {fd : FuncData}

theorem preSum_bound {cs : Nat → Int} {B : Nat} (n : Nat) (h : ∀ j, j < n → (cs j).natAbs ≤ B) : ∀ j, j ≤ n → (preSum cs j).natAbs ≤ j * B := by
  intro j
  induction j with
  | zero => intro _; show (0 : Int).natAbs ≤ _; simp
  | succ j ih =>
    intro hj
    have h1 := ih (by omega)
    have h2 := h j (by omega)
    show (preSum cs j + cs j).natAbs ≤ _
    rw [Nat.add_mul]
    omega

/-- covariance of two rows with exact means -/
theorem cov_fn {xs ys : List Int} {mx my q : Int} {cs : Nat → Int} (x : IsDef g f (stm 7) fd) (hG : GenDef g fd.code) (gn : Gn g)
    (hfs : g.mg "fsum" = some (.builtin "math.fsum")) (hsp : g.mg "sumprod" = some (.builtin "math.sumprod")) (hn : 2 ≤ xs.length) (hn2 : xs.length ≤ 100) (hxy : ys.length = xs.length)
    (hsx : ∀ a ∈ xs, a.natAbs < 2 ^ 16) (hsy : ∀ a ∈ ys, a.natAbs < 2 ^ 16)
    (hmx : 16 * xs.sum = xs.length * mx) (hmy : 16 * ys.sum = xs.length * my) (hmxb : mx.natAbs < 2 ^ 30) (hmyb : my.natAbs < 2 ^ 30)
    (hb : ∀ j a b, xs[j]? = some a → ys[j]? = some b → (cs j).natAbs < 2 ^ 40 ∧ (16 * a - mx < 0 ↔ 16 * b - my < 0) ∧ (16 * a - mx) * (16 * b - my) = 16 * cs j)
    (hq : preSum cs xs.length = ((xs.length - 1 : Nat) : Int) * q) (hqb : q.natAbs < 2 ^ 50) :
    Fn g (k + 2) (.ref f) [.list (iL xs), .list (iL ys)] μ (.flt (fl q)) μ := by
  refine Fn.body (ext := []) (d₁ := .flt (fl q)) (names := ["x", "y"]) (ρ' := [("x", .list (iL xs)), ("y", .list (iL ys)), ("n", .int xs.length), ("xbar", .flt (fl mx)), ("ybar", .flt (fl my)), ("sxy", .flt (fl (preSum cs xs.length)))]) x.is x.body x.clo (by rw [x.scope]; decide +kernel) ?_ ?_ rfl (.closed rfl) ?_
  · intro y hy
    rw [x.scope]
    rcases List.mem_cons.mp hy with rfl | hy
    · exact .inl rfl
    · rw [List.mem_singleton.mp hy]; exact .inl rfl
  · intro s θ vs W V
    cases V with
    | cons V r => cases r with
      | cons V' r' => cases r'; exact bind_pos x.pars x.dflt x.kwd fun _ => by kernel_rfl
  · intro env e
    rw [List.append_nil]
    have K := fun y => e.kind x y
    show Ex g (k + 1) env [("x", .list (iL xs)), ("y", .list (iL ys))] μ (bodyOf (stm 7)) _ _ _
    refine Ex.cons (Ex1.assign (d := .int xs.length) (Ev.cast (Ev.callB ((K _).trans rfl) gn.len.1 gn.len.2 (Evs.cons (Ev.local rfl ((K _).trans rfl) (by decide)) Evs.nil) (Bi.len_list (by rw [iL_len, sizeLine_eq]; omega))) (by rw [iL_len])) (sto x e rfl)) ?_
    refine Ex.cons (Ex1.ite (b := false) (r := none) (ρ₂ := [("x", .list (iL xs)), ("y", .list (iL ys)), ("n", .int xs.length)]) (μ₂ := μ) (Te.cast (Te.cmp (Ev.callB ((K _).trans rfl) gn.len.1 gn.len.2 (Evs.cons (Ev.local rfl ((K _).trans rfl) (by decide)) Evs.nil) (Bi.len_list (by rw [iL_len, sizeLine_eq]; omega))) (Ev.local rfl ((K _).trans rfl) (by decide)) Op.ne) ?_) Ex.nilF) ?_
    · rw [iL_len, hxy]; simp
    refine Ex.cons (Ex1.ite (b := false) (r := none) (ρ₂ := [("x", .list (iL xs)), ("y", .list (iL ys)), ("n", .int xs.length)]) (μ₂ := μ) (Te.cast (Te.cmp (Ev.local rfl ((K _).trans rfl) (by decide)) Ev.int Op.lt) ?_) Ex.nilF) ?_
    · exact decide_eq_false (by omega)
    have hxs : (16 * xs.sum).natAbs < 2 ^ 52 := by rw [hmx, Int.natAbs_mul]; have := Nat.mul_le_mul (show (xs.length : Int).natAbs ≤ 100 by omega) (Nat.le_of_lt hmxb); omega
    have hys : (16 * ys.sum).natAbs < 2 ^ 52 := by rw [hmy, Int.natAbs_mul]; have := Nat.mul_le_mul (show (xs.length : Int).natAbs ≤ 100 by omega) (Nat.le_of_lt hmyb); omega
    refine Ex.cons (Ex1.assign (d := .flt (fl mx)) (Ev.bin (Ev.callG ((K _).trans rfl) hfs (Evs.cons (Ev.local rfl ((K _).trans rfl) (by decide)) Evs.nil) (Bi.fsum (fun a ha => Nat.lt_trans (hsx a ha) (by decide)) (by omega))) (Ev.local rfl ((K _).trans rfl) (by decide)) ?_) (stoC x e rfl)) ?_
    · exact Op.fdiv (by omega) (by omega) hxs (by omega) hmx
    refine Ex.cons (Ex1.assign (d := .flt (fl my)) (Ev.bin (Ev.callG ((K _).trans rfl) hfs (Evs.cons (Ev.local rfl ((K _).trans rfl) (by decide)) Evs.nil) (Bi.fsum (fun a ha => Nat.lt_trans (hsy a ha) (by decide)) (by omega))) (Ev.local rfl ((K _).trans rfl) (by decide)) ?_) (stoC x e rfl)) ?_
    · exact Op.fdiv (by omega) (by omega) hys (by omega) hmy
    obtain ⟨c1, zq⟩ := e.cell "xbar" (by rw [x.scope]; rfl)
    have hc1 := zq.1
    replace zq := zq.2
    clear zq
    obtain ⟨c2, zq⟩ := e.cell "ybar" (by rw [x.scope]; rfl)
    have hc2 := zq.1
    replace zq := zq.2
    clear zq
    have hP := preSum_bound (cs := cs) (B := 2 ^ 40) xs.length fun j hj => by
      have := (hb j _ _ (getD_some' hj) (getD_some' (hxy ▸ hj))).1
      lia
    have hP' : ∀ j, j ≤ xs.length → (preSum cs j).natAbs < 2 ^ 50 := fun j hj => by
      have h1 := hP j hj
      have h2 : j * 2 ^ 40 ≤ 100 * 2 ^ 40 := Nat.mul_le_mul_right _ (by lia)
      exact Nat.lt_of_le_of_lt (Nat.le_trans h1 h2) (by decide)
    refine Ex.cons (Ex1.assign (d := .flt (fl (preSum cs xs.length))) (Ev.sumprod (α := fun a => 16 * a - mx) (β := fun b => 16 * b - my) (c1 := c1) (c2 := c2) (by rw [e.code]; exact hG) ((K _).trans rfl) hsp hxy.symm rfl ((K _).trans rfl) (by decide) rfl ((K _).trans rfl) (by decide)
      rfl (closureFor_one [(".0", .local), ("xi", .local)] [] rfl (by decide) (by decide) hc1) (by decide) rfl rfl rfl rfl (by decide) hc1 rfl
      rfl (closureFor_one [(".0", .local), ("yi", .local)] [] rfl (by decide) (by decide) hc2) (by decide) rfl rfl rfl rfl (by decide) hc2 rfl
      (fun a ha => el_sub rfl rfl rfl rfl (by decide) (by decide) (by decide) (by have := hsx a ha; omega) (by omega)) (fun a ha => el_sub rfl rfl rfl rfl (by decide) (by decide) (by decide) (by have := hsy a ha; omega) (by omega))
      (fun j a b ha hb' => ?_) hP' (by omega)) (sto x e rfl)) ?_
    · obtain ⟨h1, h2, h3⟩ := hb j a b ha hb'
      have h4 := hsx a (List.mem_of_getElem? ha)
      have h5 := hsy b (List.mem_of_getElem? hb')
      exact ⟨by omega, by omega, by omega, h2, h3⟩
    refine Ex.ret (Ex1.ret (Ev.bin (Ev.local rfl ((K _).trans rfl) (by decide)) (Ev.cast (Ev.bin (Ev.local rfl ((K _).trans rfl) (by decide)) Ev.int Op.sub) (d' := .int ((xs.length - 1 : Nat) : Int)) ?_) (Op.fdiv (by omega) (by omega) (Nat.lt_trans (hP' _ (Nat.le_refl _)) (by decide)) (by omega) hq)))
    congr 1; omega
end
end Mine
end

-- part P13
section
set_option maxRecDepth 100000
set_option exponentiation.threshold 100
namespace Mine
open PySem PySem.W PyProof.Rows

section
variable {g : G} {k : Nat} {μ μ₁ μ₂ : List MO} {f : Addr} {fd : FuncData} {env : Env} {ρ ρ₁ ρ₂ : En}

/-- a def with one default -/
structure DDef (g : G) (f : Addr) (st : Stmt) (fd : FuncData) (dv : Value) : Prop where
  is : FD g f fd
  pars : fd.params = parsOf st
  body : fd.body = .stmts (bodyOf st)
  scope : fd.scope = scopeOf st
  clo : fd.closure = []
  dflt : ∃ T o n, fd.defaults = .ref T ∧ g.hB.get? T = some o ∧ o.data = .seq #[dv] n ∧ T ∉ g.tabs
  kwd : fd.kwdefaults = .none
theorem DDef.kind {st : Stmt} {dv : Value} (x : DDef g f st fd dv) (e : EnvOf g f fd env) (y : Str) : env.kindOf y = (scopeOf st).names.lookup y := by
  unfold Env.kindOf; rw [e.scope, x.scope]
theorem DDef.sto {st : Stmt} {dv : Value} (x : DDef g f st fd dv) (e : EnvOf g f fd env) {y : Str} (h : (scopeOf st).names.lookup y = some .local) : Sto g env y :=
  .inl ⟨(x.kind e y).trans h, (e.noCell y (by rw [x.scope, h]; decide)).trans (by rw [x.clo]; rfl)⟩
theorem DDef.stoC {st : Stmt} {dv : Value} (x : DDef g f st fd dv) (e : EnvOf g f fd env) {y : Str} (h : (scopeOf st).names.lookup y = some .cell) : Sto g env y :=
  .inr ⟨(x.kind e y).trans h, by rw [e.func]; rfl, e.cell y (by rw [x.scope]; exact h)⟩
theorem DDef.bind21 {st : Stmt} {dv : Value} (x : DDef g f st fd dv) {a b : Arg} {ds : List Expr} (h : parsOf st = ⟨[], [a, b], none, [], [], none, ds⟩) (hba : (b.arg == a.arg) = false) {θ : Th} {s : Shared} (W : Wld g θ μ s) (v : Value) : BindsTo s fd ⟨[v], []⟩ ([a.arg, b.arg].zip [v, dv]) :=
  let ⟨T, o, n, h2, ho, hs, hn⟩ := x.dflt
  bind_d21 (x.pars.trans h) h2 x.kwd hba (W.base T o hn ho) hs v

/-- a try that runs through -/
theorem Ex1.tryOk {body : List Stmt} {h₀ : ExceptHandler} {hs : List ExceptHandler} {pos : Pos} (h : Ex g k env ρ μ body none ρ₁ μ₁) : Ex1 g k env ρ μ (.Try body (h₀ :: hs) [] [] pos) none ρ₁ μ₁ := fun A θ s Q E f S q =>
  wpAny_Try_except (h A θ s _ _ f S fun fl θ₁ s₁ l₁ S₁ F₁ => by
    cases F₁
    exact wpAny_execs_nil (q _ θ₁ s₁ l₁ S₁ .next))
theorem Ex1.tryRet {body : List Stmt} {h₀ : ExceptHandler} {hs : List ExceptHandler} {pos : Pos} {d : D} (h : Ex g k env ρ μ body (some d) ρ₁ μ₁) : Ex1 g k env ρ μ (.Try body (h₀ :: hs) [] [] pos) (some d) ρ₁ μ₁ := fun A θ s Q E f S q =>
  wpAny_Try_except (h A θ s _ _ f S fun fl θ₁ s₁ l₁ S₁ F₁ => by
    cases F₁ with
    | ret V => exact q _ θ₁ s₁ l₁ S₁ (.ret V))
theorem Te.int {e : Expr} {i : Int} (h : Ev g k env ρ μ e (.int i) μ₁) (he : ∀ whole : Sem Value, isTrue e env whole = (do let v ← whole; standAt e.pos; holding [v] (truthy v)) := by intro _; rfl) : Te g k env ρ μ e (i != 0) μ₁ := by
  intro A θ s Q E f S q
  refine wpAny_isTrue_value (h A θ s _ E f S fun v θ₁ s₁ l₁ W₁ V₁ => ?_) (he _)
  cases V₁
  exact PyProof.Rows.truthy_int (q θ₁ s₁ l₁ W₁)

theorem fmean_fn {xs : List Int} {mx : Int} (x : DDef g f (stm 6) fd .none) (gn : Gn g)
    (hfs : g.mg "fsum" = some (.builtin "math.fsum")) (hn : 1 ≤ xs.length) (hn2 : xs.length ≤ 100) (hsx : ∀ a ∈ xs, a.natAbs < 2 ^ 16) (hmx : 16 * xs.sum = xs.length * mx) (hmxb : mx.natAbs < 2 ^ 30) :
    Fn g (k + 2) (.ref f) [.list (iL xs)] μ (.flt (fl mx)) μ := by
  refine Fn.bodyA (ext := []) (r := some (.flt (fl mx))) (names := ["data", "weights"]) (ds' := [.list (iL xs), .none]) (ρ' := [("data", .list (iL xs)), ("weights", .none), ("n", .int xs.length), ("total", .flt (fl (16 * xs.sum)))]) x.is x.body (.nil x.clo) (by rw [x.scope]; decide +kernel) ?_ ?_ rfl (.closed rfl) ?_
  · intro y hy
    rw [x.scope, x.clo]
    rcases List.mem_cons.mp hy with rfl | hy
    · exact .inl ⟨rfl, rfl⟩
    · rw [List.mem_singleton.mp hy]; exact .inl ⟨rfl, rfl⟩
  · intro s θ vs W V
    cases V with
    | cons V r =>
      cases r
      exact ⟨[_, .none], .cons V (.cons .none .nil), x.bind21 rfl rfl W _⟩
  · intro env e
    rw [List.append_nil]
    have K := fun y => x.kind e y
    obtain ⟨c, hc, hcB⟩ := e.cell "n" (by rw [x.scope]; rfl)
    have hxs : (16 * xs.sum).natAbs < 2 ^ 52 := by rw [hmx, Int.natAbs_mul]; have := Nat.mul_le_mul (show (xs.length : Int).natAbs ≤ 100 by lia) (Nat.le_of_lt hmxb); lia
    refine (Ex.ret (Ex1.ite (b := true) (Te.cmp (Ev.local rfl ((K _).trans rfl) (by decide)) Ev.nul Op.is_none) ?_)).at
    show Ex g (k + 1) env [("data", .list (iL xs)), ("weights", .none)] μ _ _ _ _
    refine Ex.cons (Ex1.tryOk (Ex.cons (Ex1.assign (d := .int xs.length) (Ev.cast (Ev.callB ((K _).trans rfl) gn.len.1 gn.len.2 (Evs.cons (Ev.local rfl ((K _).trans rfl) (by decide)) Evs.nil) (Bi.len_list (by rw [iL_len, sizeLine_eq]; lia))) (by rw [iL_len])) (x.stoC e rfl)) Ex.nil)) ?_
    refine Ex.cons (Ex1.assign (d := .flt (fl (16 * xs.sum))) (Ev.callG ((K _).trans rfl) hfs (Evs.cons (Ev.local rfl ((K _).trans rfl) (by decide)) Evs.nil) (Bi.fsum (fun a ha => Nat.lt_trans (hsx a ha) (by decide)) (by lia))) (x.sto e rfl)) ?_
    refine Ex.cons (Ex1.ite (b := false) (r := none) (ρ₂ := [("data", .list (iL xs)), ("weights", .none), ("n", .int xs.length), ("total", .flt (fl (16 * xs.sum)))]) (μ₂ := μ) (Te.cast (Te.not (Te.int (Ev.cell rfl ((K _).trans rfl) hc (by decide)))) ?_) Ex.nilF) ?_
    · have : ((xs.length : Int) != 0) = true := by
        have : (xs.length : Int) ≠ 0 := by lia
        simpa using this
      rw [this]; rfl
    exact Ex.ret (Ex1.ret (Ev.bin (Ev.local rfl ((K _).trans rfl) (by decide)) (Ev.cell rfl ((K _).trans rfl) hc (by decide)) (Op.fdiv (by lia) (by lia) hxs (by lia) hmx)))
end
end Mine
end

-- part P14
section
set_option maxRecDepth 100000
set_option exponentiation.threshold 100
namespace Mine
open PySem PySem.W PyProof.Rows

section
variable {g : G} {k : Nat} {μ μ₁ μ₂ : List MO} {f : Addr} {fd : FuncData} {SE : Addr}

theorem fmean_raise (x : DDef g f (stm 6) fd .none) (gn : Gn g) (X : SErr g SE) (hfs : g.mg "fsum" = some (.builtin "math.fsum")) :
    FnX g SE (k + 2) (.ref f) [.list (iL [])] μ "fmean requires at least one data point" := by
  refine FnX.body (names := ["data", "weights"]) (ds' := [.list (iL []), .none]) x.is x.body (.nil x.clo) (by rw [x.scope]; decide +kernel) ?_ ?_ ?_
  · intro y hy
    rw [x.scope, x.clo]
    rcases List.mem_cons.mp hy with rfl | hy
    · exact .inl ⟨rfl, rfl⟩
    · rw [List.mem_singleton.mp hy]; exact .inl ⟨rfl, rfl⟩
  · intro s θ vs W V
    cases V with
    | cons V r =>
      cases r
      exact ⟨[_, .none], .cons V (.cons .none .nil), x.bind21 rfl rfl W _⟩
  · intro env e
    have K := fun y => x.kind e y
    obtain ⟨c, hc, hcB⟩ := e.cell "n" (by rw [x.scope]; rfl)
    refine Rai.iteT (Te.cmp (Ev.local rfl ((K _).trans rfl) (by decide)) Ev.nul Op.is_none) ?_
    show Rai g SE (k + 1) env [("data", .list (iL [])), ("weights", .none)] μ _ _
    refine Rai.cons (Ex1.tryOk (Ex.cons (Ex1.assign (d := .int 0) (Ev.callB ((K _).trans rfl) gn.len.1 gn.len.2 (Evs.cons (Ev.local rfl ((K _).trans rfl) (by decide)) Evs.nil) (Bi.len_list (Nat.zero_le _))) (x.stoC e rfl)) Ex.nil)) ?_
    refine Rai.cons (Ex1.assign (Ev.callG ((K _).trans rfl) hfs (Evs.cons (Ev.local rfl ((K _).trans rfl) (by decide)) Evs.nil) (Bi.fsum (fun a ha => nomatch ha) (Nat.zero_le _))) (x.sto e rfl)) ?_
    refine Rai.iteT (Te.cast (Te.not (Te.int (Ev.cell rfl ((K _).trans rfl) hc (by decide)))) rfl) ?_
    exact Rai.raise X ((K _).trans rfl)

theorem cov_raise {xs ys : List Int} (x : IsDef g f (stm 7) fd) (gn : Gn g) (X : SErr g SE) (hn : xs.length < 2) (hxy : ys.length = xs.length) :
    FnX g SE (k + 2) (.ref f) [.list (iL xs), .list (iL ys)] μ "covariance requires at least two data points" := by
  refine FnX.body (names := ["x", "y"]) (ds' := [.list (iL xs), .list (iL ys)]) x.is x.body (.nil x.clo) (by rw [x.scope]; decide +kernel) ?_ ?_ ?_
  · intro y hy
    rw [x.scope, x.clo]
    rcases List.mem_cons.mp hy with rfl | hy
    · exact .inl ⟨rfl, rfl⟩
    · rw [List.mem_singleton.mp hy]; exact .inl ⟨rfl, rfl⟩
  · intro s θ vs W V
    refine ⟨vs, V, ?_⟩
    cases V with
    | cons V r => cases r with
      | cons V' r' => cases r'; exact bind_pos x.pars x.dflt x.kwd fun _ => by kernel_rfl
  · intro env e
    have K := fun y => e.kind x y
    show Rai g SE (k + 1) env [("x", .list (iL xs)), ("y", .list (iL ys))] μ _ _
    refine Rai.cons (Ex1.assign (d := .int xs.length) (Ev.cast (Ev.callB ((K _).trans rfl) gn.len.1 gn.len.2 (Evs.cons (Ev.local rfl ((K _).trans rfl) (by decide)) Evs.nil) (Bi.len_list (by rw [iL_len, sizeLine_eq]; lia))) (by rw [iL_len])) (sto x e rfl)) ?_
    refine Rai.cons (Ex1.ite (b := false) (r := none) (ρ₂ := [("x", .list (iL xs)), ("y", .list (iL ys)), ("n", .int xs.length)]) (μ₂ := μ) (Te.cast (Te.cmp (Ev.callB ((K _).trans rfl) gn.len.1 gn.len.2 (Evs.cons (Ev.local rfl ((K _).trans rfl) (by decide)) Evs.nil) (Bi.len_list (by rw [iL_len, sizeLine_eq]; lia))) (Ev.local rfl ((K _).trans rfl) (by decide)) Op.ne) ?_) Ex.nilF) ?_
    · rw [iL_len, hxy]; simp
    refine Rai.iteT (Te.cast (Te.cmp (Ev.local rfl ((K _).trans rfl) (by decide)) Ev.int Op.lt) (decide_eq_true (by lia))) ?_
    exact Rai.raise X ((K _).trans rfl)
end
end Mine
end

-- part P15
section
set_option maxRecDepth 100000
set_option exponentiation.threshold 100
namespace Mine
open PySem PySem.W PyProof.Rows

section
variable {g : G} {k : Nat} {μ μ₁ μ₂ : List MO} {f : Addr} {fd : FuncData} {SE : Addr}

/-- what _law_told leans on -/
structure Told (g : G) (SE : Addr) : Prop where
  gn : Gn g
  err : SErr g SE
  fsum : g.mg "fsum" = some (.builtin "math.fsum")
  sp : g.mg "sumprod" = some (.builtin "math.sumprod")
  fm : ∃ f fd, g.mg "fmean" = some (.ref f) ∧ DDef g f (stm 6) fd .none
  cov : ∃ f fd, g.mg "covariance" = some (.ref f) ∧ IsDef g f (stm 7) fd ∧ GenDef g fd.code

def tryOf : Stmt → List Stmt
  | .Try b _ _ _ _ => b
  | _ => []
def retOf : Stmt → Expr
  | .Return (some x) _ => x
  | _ => .Constant .none 0 default
def toldX : Expr := retOf ((tryOf (((bodyOf (stm 15))[0]?).getD (.Pass default)))[0]?.getD (.Pass default))

theorem told_errX {rows : D} {msg : Str} (x : IsDef g f (stm 15) fd) (T : Told g SE) (h : ∀ env, EnvOf g f fd env → EvX g SE k env [("rows", rows)] μ toldX msg) : FnS g (k + 1) (.ref f) [rows] μ (.str msg) := by
  intro A θ s vs outer Q E ft hfr hch W V q
  obtain ⟨o, ho, hd⟩ := x.is.at_
  refine wpAny_call (codeAny_call_function (by have := ft.depth; lia) (W.base f o x.is.out ho) hd x.is.plain.1 x.is.plain.2.1 x.body (x.is.codeRec W) ?_)
  cases V with
  | @cons w _ _ _ V r =>
    cases r
    refine bind_pos (bs := ([PySem.Str.ofString "rows"]).zip [w]) x.pars x.dflt x.kwd (fun _ => by kernel_rfl) _ _ _ _ ?_
    refine enter x.is (.nil x.clo) (by rw [x.scope]; decide +kernel) (names := ["rows"]) (fun y hy => by
      rw [x.scope, x.clo, List.mem_singleton.mp hy]; exact .inl ⟨rfl, rfl⟩) W (.cons V .nil) fun env s₁ EO hL hC l₁ S₁ => ⟨S₁.W.lim, ks_codeAny_funcAt (wpAt_of_wpAny ?_)⟩
    have K := fun y => EO.kind x y
    have hch1 : Chain g θ s₁.heap (env :: outer) := by
      have h1 := hch.lat W l₁
      refine ⟨fun b hb => ?_, fun e he => ?_⟩
      · rcases List.mem_cons.mp hb with rfl | hb
        · obtain ⟨m, zq⟩ := S₁.F.locals
          have hn := zq.1
          replace zq := zq.2
          clear zq
          obtain ⟨o, _, _, zq⟩ := id hn
          have ho' := zq.1
          replace zq := zq.2
          clear zq
          exact ⟨S₁.F.newer.1, S₁.F.out.1, o, m, ho', hn⟩
        · exact h1.1 b hb
      · rcases List.mem_cons.mp he with zr | he
        · obtain rfl := zr.symm
          exact ⟨S₁.F.kind, EO.frame⟩
        · exact h1.2 e he
    refine told_try (k := k) (ρ := [("rows", rows)]) T.err (h env EO) EO.frame ((K _).trans rfl) ((K _).trans rfl) T.gn.str.1 T.gn.str.2 ((K _).trans rfl) rfl ft.deeper (by show A.frames.map (env :: ·) = _; rw [hfr]; rfl) hch1 S₁ fun tk s' h1 h2 h3 W' => ?_
    refine q _ s' ⟨fun b o nb n1 e => ?_, fun b o hb e => ?_, fun b o e => ?_⟩ W' (.str _ _)
    · exact h1 b o nb (fun z => by rw [z, hL] at e; cases e) n1 (l₁.keep b o nb e)
    · obtain ⟨z1, z2, _⟩ := hch.1 b hb
      exact h2 b o (fun z => by rw [z, hL] at e; cases e) hb (l₁.keep b o (notTab W.gd z1 z2) e)
    · obtain ⟨o', e'⟩ := l₁.alive b o e
      exact h3 b o' e'

theorem told1_err (x : IsDef g f (stm 15) fd) (T : Told g SE) : FnS g (k + 3) (.ref f) [.list [.list (iL [])]] μ (.str "fmean requires at least one data point") := by
  obtain ⟨ff, fdf, hm, xf⟩ := T.fm
  refine told_errX x T fun env e => ?_
  have K := fun y => e.kind x y
  refine EvX.ite (b := true) (Te.cast (Te.cmp (Ev.callB ((K _).trans rfl) T.gn.len.1 T.gn.len.2 (Evs.cons (Ev.local rfl ((K _).trans rfl) (by decide)) Evs.nil) (Bi.len_list (by decide))) Ev.int Op.eq) rfl) ?_
  rw [if_pos rfl]
  exact EvX.callF ((K _).trans rfl) hm xf.is (Evs.cons (Ev.item_list (d := .list (iL [])) (Ev.local rfl ((K _).trans rfl) (by decide)) Ev.int (by decide) (by decide) rfl) Evs.nil) (fmean_raise xf T.gn T.err T.fsum)
theorem told2_err {xs ys : List Int} (x : IsDef g f (stm 15) fd) (T : Told g SE) (hn : xs.length < 2) (hxy : ys.length = xs.length) : FnS g (k + 3) (.ref f) [.list [.list (iL xs), .list (iL ys)]] μ (.str "covariance requires at least two data points") := by
  obtain ⟨fc, fdc, hm, xc, hG⟩ := T.cov
  refine told_errX x T fun env e => ?_
  have K := fun y => e.kind x y
  refine EvX.ite (b := false) (Te.cast (Te.cmp (Ev.callB ((K _).trans rfl) T.gn.len.1 T.gn.len.2 (Evs.cons (Ev.local rfl ((K _).trans rfl) (by decide)) Evs.nil) (Bi.len_list (by simp [sizeLine_eq]))) Ev.int Op.eq) rfl) ?_
  rw [if_neg (by decide)]
  exact EvX.callF ((K _).trans rfl) hm xc.is (Evs.cons (Ev.item_list (d := .list (iL xs)) (Ev.local rfl ((K _).trans rfl) (by decide)) Ev.int (by decide) (by decide) rfl) (Evs.cons (Ev.item_list (d := .list (iL ys)) (Ev.local rfl ((K _).trans rfl) (by decide)) Ev.int (by decide) (by decide) rfl) Evs.nil)) (cov_raise xc T.gn T.err hn hxy)

theorem told_ok {rows : D} {v : UInt64} (x : IsDef g f (stm 15) fd) (h : ∀ env, EnvOf g f fd env → Ev g k env [("rows", rows)] μ toldX (.flt v) μ) : Fn g (k + 1) (.ref f) [rows] μ (.flt v) μ := by
  refine Fn.body (ext := []) (d₁ := .flt v) (names := ["rows"]) (ρ' := [("rows", rows)]) x.is x.body x.clo (by rw [x.scope]; decide +kernel) ?_ ?_ rfl (.closed rfl) ?_
  · intro y hy
    rw [List.mem_singleton.mp hy, x.scope]; exact .inl rfl
  · intro s θ vs W V
    cases V with
    | cons V r => cases r; exact bind_pos x.pars x.dflt x.kwd fun _ => by kernel_rfl
  · intro env e
    rw [List.append_nil]
    exact Ex.ret (Ex1.tryRet (Ex.ret (Ex1.ret (h env e))))
theorem told1_ok {xs : List Int} {mx : Int} (x : IsDef g f (stm 15) fd) (T : Told g SE) (hn : 1 ≤ xs.length) (hn2 : xs.length ≤ 100) (hsx : ∀ a ∈ xs, a.natAbs < 2 ^ 16) (hmx : 16 * xs.sum = xs.length * mx) (hmxb : mx.natAbs < 2 ^ 30) :
    Fn g (k + 3) (.ref f) [.list [.list (iL xs)]] μ (.flt (fl mx)) μ := by
  obtain ⟨ff, fdf, hm, xf⟩ := T.fm
  refine told_ok x fun env e => ?_
  have K := fun y => e.kind x y
  refine Ev.ite (b := true) (Te.cast (Te.cmp (Ev.callB ((K _).trans rfl) T.gn.len.1 T.gn.len.2 (Evs.cons (Ev.local rfl ((K _).trans rfl) (by decide)) Evs.nil) (Bi.len_list (by simp [sizeLine_eq]))) Ev.int Op.eq) rfl) ?_
  rw [if_pos rfl]
  exact Ev.callF ((K _).trans rfl) hm xf.is (Evs.cons (Ev.item_list (d := .list (iL xs)) (Ev.local rfl ((K _).trans rfl) (by decide)) Ev.int (by decide) (by decide) rfl) Evs.nil) (fmean_fn xf T.gn T.fsum hn hn2 hsx hmx hmxb)
theorem told2_ok {xs ys : List Int} {mx my q : Int} {cs : Nat → Int} (x : IsDef g f (stm 15) fd) (T : Told g SE) (hn : 2 ≤ xs.length) (hn2 : xs.length ≤ 100) (hxy : ys.length = xs.length)
    (hsx : ∀ a ∈ xs, a.natAbs < 2 ^ 16) (hsy : ∀ a ∈ ys, a.natAbs < 2 ^ 16)
    (hmx : 16 * xs.sum = xs.length * mx) (hmy : 16 * ys.sum = xs.length * my) (hmxb : mx.natAbs < 2 ^ 30) (hmyb : my.natAbs < 2 ^ 30)
    (hb : ∀ j a b, xs[j]? = some a → ys[j]? = some b → (cs j).natAbs < 2 ^ 40 ∧ (16 * a - mx < 0 ↔ 16 * b - my < 0) ∧ (16 * a - mx) * (16 * b - my) = 16 * cs j)
    (hq : preSum cs xs.length = ((xs.length - 1 : Nat) : Int) * q) (hqb : q.natAbs < 2 ^ 50) :
    Fn g (k + 3) (.ref f) [.list [.list (iL xs), .list (iL ys)]] μ (.flt (fl q)) μ := by
  obtain ⟨fc, fdc, hm, xc, hG⟩ := T.cov
  refine told_ok x fun env e => ?_
  have K := fun y => e.kind x y
  refine Ev.ite (b := false) (Te.cast (Te.cmp (Ev.callB ((K _).trans rfl) T.gn.len.1 T.gn.len.2 (Evs.cons (Ev.local rfl ((K _).trans rfl) (by decide)) Evs.nil) (Bi.len_list (by simp [sizeLine_eq]))) Ev.int Op.eq) rfl) ?_
  rw [if_neg (by decide)]
  exact Ev.callF ((K _).trans rfl) hm xc.is (Evs.cons (Ev.item_list (d := .list (iL xs)) (Ev.local rfl ((K _).trans rfl) (by decide)) Ev.int (by decide) (by decide) rfl) (Evs.cons (Ev.item_list (d := .list (iL ys)) (Ev.local rfl ((K _).trans rfl) (by decide)) Ev.int (by decide) (by decide) rfl) Evs.nil)) (cov_fn xc hG T.gn T.fsum T.sp hn hn2 hxy hsx hsy hmx hmy hmxb hmyb hb hq hqb)
end
end Mine
end

-- part P16
section
set_option maxRecDepth 100000
namespace Mine

/-- what the goes of the deeds yield, the line being T -/
def run (kind : Nat) : List Deed → List Int → List Int
  | [], _ => []
  | d :: ds, T => if d.1 = true then run kind ds (T ++ [d.2.1]) else (d.2.1 - T.getD (gix kind d.2.2 T.length) 0) :: run kind ds (T.eraseIdx (gix kind d.2.2 T.length))
def runs : List Deed → List Int → List (List Int)
  | [], _ => [[]]
  | d :: ds, T => if d.1 = true then runs ds (T ++ [d.2.1]) else (List.range T.length).flatMap fun p => (runs ds (T.eraseIdx p)).map fun r => (d.2.1 - T.getD p 0) :: r
/-- each go finds someone, at the end nobody is there -/
def okN : List Deed → Nat → Prop
  | [], n => n = 0
  | d :: ds, n => if d.1 = true then okN ds (n + 1) else 0 < n ∧ okN ds (n - 1)
def up : Int → List Deed → Prop
  | _, [] => True
  | h, d :: ds => h < d.2.1 ∧ up d.2.1 ds
inductive PW : List Int → List Int → Prop
  | nil : PW [] []
  | cons {a b : Int} {l m : List Int} : a ≤ b → PW l m → PW (a :: l) (b :: m)
def sqh (h : Int) (T : List Int) : Int := (T.map fun t => (h - t) * (h - t)).sum
def sq (l : List Int) : Int := (l.map fun x => x * x).sum

theorem PW.refl : ∀ l, PW l l
  | [] => .nil
  | a :: l => .cons (Int.le_refl _) (PW.refl l)
theorem PW.length {l m : List Int} (h : PW l m) : l.length = m.length := by
  induction h with
  | nil => rfl
  | cons _ _ ih => simp [ih]
theorem PW.app {l m : List Int} (h : PW l m) (x : Int) : PW (l ++ [x]) (m ++ [x]) := by
  induction h with
  | nil => exact .cons (Int.le_refl _) .nil
  | cons a _ ih => exact .cons a ih
theorem PW.erase {l m : List Int} (h : PW l m) : ∀ p, PW (l.eraseIdx p) (m.eraseIdx p) := by
  induction h with
  | nil => intro p; simpa using PW.nil
  | cons a r ih => intro p; cases p with
    | zero => exact r
    | succ p => exact .cons a (ih p)
theorem sqh_erase (h : Int) {T : List Int} {p : Nat} (hp : p < T.length) : sqh h T = sqh h (T.eraseIdx p) + (h - T.getD p 0) * (h - T.getD p 0) := by
  have : ∀ (T : List Int) (p : Nat), p < T.length → sqh h T = sqh h (T.eraseIdx p) + (h - T.getD p 0) * (h - T.getD p 0) := by
    intro T
    induction T with
    | nil => intro p hp; cases hp
    | cons a r ih =>
      intro p hp
      cases p with
      | zero => show (h - a) * (h - a) + sqh h r = sqh h r + (h - a) * (h - a); lia
      | succ p =>
        have := ih p (Nat.lt_of_succ_lt_succ hp)
        show (h - a) * (h - a) + sqh h r = ((h - a) * (h - a) + sqh h (r.eraseIdx p)) + (h - r.getD p 0) * (h - r.getD p 0)
        lia
  exact this T p hp
theorem sqh_move (h h' : Int) {T T' : List Int} (w : PW T T') : (sqh h' T - sqh h' T') - (sqh h T - sqh h T') = 2 * (h' - h) * (T'.sum - T.sum) := by
  induction w with
  | nil => show (0 - 0 : Int) - (0 - 0) = 2 * (h' - h) * (0 - 0); grind
  | @cons a b l m hab r ih =>
    show (((h' - a) * (h' - a) + sqh h' l) - ((h' - b) * (h' - b) + sqh h' m)) - (((h - a) * (h - a) + sqh h l) - ((h - b) * (h - b) + sqh h m)) = 2 * (h' - h) * ((b + m.sum) - (a + l.sum))
    grind
theorem PW.sum {T T' : List Int} (w : PW T T') : T.sum ≤ T'.sum ∧ (T ≠ T' → T.sum < T'.sum) := by
  induction w with
  | nil => exact ⟨Int.le_refl _, fun h => absurd rfl h⟩
  | @cons a b l m hab r ih =>
    rw [List.sum_cons, List.sum_cons]
    refine ⟨by lia, fun hne => ?_⟩
    by_cases h : a = b
    · subst h
      have := ih.2 fun z => hne (by rw [z])
      lia
    · lia
theorem sqh_mono {h h' : Int} (hh : h < h') {T T' : List Int} (w : PW T T') : sqh h T - sqh h T' ≤ sqh h' T - sqh h' T' ∧ (T ≠ T' → sqh h T - sqh h T' < sqh h' T - sqh h' T') := by
  have e := sqh_move h h' w
  have s := w.sum
  constructor
  · have : 0 ≤ 2 * (h' - h) * (T'.sum - T.sum) := Int.mul_nonneg (by lia) (by lia)
    lia
  · intro hne
    have : 0 < 2 * (h' - h) * (T'.sum - T.sum) := Int.mul_pos (by lia) (by have := s.2 hne; lia)
    lia
theorem sqh_app (h : Int) (T : List Int) (x : Int) : sqh h (T ++ [x]) = sqh h T + (h - x) * (h - x) := by
  unfold sqh
  rw [List.map_append, List.sum_append]; simp

theorem run_cmp (kind : Nat) : ∀ (ds : List Deed) (h : Int) (T T' : List Int), PW T T' → up h ds → okN ds T.length →
    sqh h T - sqh h T' ≤ sq (run kind ds T) - sq (run kind ds T') ∧ (T ≠ T' → sqh h T - sqh h T' < sq (run kind ds T) - sq (run kind ds T'))
  | [], h, T, T', w, _, hk => by
    have h1 : T = [] := List.length_eq_zero_iff.mp hk
    have h2 : T' = [] := List.length_eq_zero_iff.mp (w.length ▸ hk)
    subst h1; subst h2
    exact ⟨Int.le_refl _, fun z => absurd rfl z⟩
  | d :: ds, h, T, T', w, hu, hk => by
    obtain ⟨u1, u2⟩ := hu
    have mo := sqh_mono u1 w
    have hl := w.length
    unfold okN at hk
    unfold run
    cases hd : d.1 with
    | true =>
      simp only [hd, if_true] at hk ⊢
      have ih := run_cmp kind ds d.2.1 (T ++ [d.2.1]) (T' ++ [d.2.1]) (w.app _) u2 (by simpa using hk)
      rw [sqh_app, sqh_app] at ih
      refine ⟨by lia, fun hne => ?_⟩
      have := mo.2 hne
      lia
    | false =>
      simp only [hd, Bool.false_eq_true, if_false] at hk ⊢
      have hp : gix kind d.2.2 T.length < T.length := gix_lt hk.1
      rw [← hl]
      generalize gix kind d.2.2 T.length = p at hp ⊢
      have hp' : p < T'.length := hl ▸ hp
      have ih := run_cmp kind ds d.2.1 (T.eraseIdx p) (T'.eraseIdx p) (w.erase p) u2 (by rw [List.length_eraseIdx, if_pos hp]; exact hk.2)
      have e1 := sqh_erase d.2.1 hp
      have e2 := sqh_erase d.2.1 hp'
      have s1 : sq ((d.2.1 - T.getD p 0) :: run kind ds (T.eraseIdx p)) = (d.2.1 - T.getD p 0) * (d.2.1 - T.getD p 0) + sq (run kind ds (T.eraseIdx p)) := rfl
      have s2 : sq ((d.2.1 - T'.getD p 0) :: run kind ds (T'.eraseIdx p)) = (d.2.1 - T'.getD p 0) * (d.2.1 - T'.getD p 0) + sq (run kind ds (T'.eraseIdx p)) := rfl
      rw [s1, s2]
      refine ⟨by lia, fun hne => ?_⟩
      have := mo.2 hne
      lia

/-- strictly increasing -/
def inc : List Int → Prop
  | [] => True
  | a :: l => (∀ b ∈ l, a < b) ∧ inc l
theorem inc_app {x : Int} : ∀ {l : List Int}, inc l → (∀ b ∈ l, b < x) → inc (l ++ [x])
  | [], _, _ => ⟨fun _ h => (nomatch h), trivial⟩
  | a :: l, h, hx => ⟨fun b hb => by
      rcases List.mem_append.mp hb with hb | hb
      · exact h.1 b hb
      · rw [List.mem_singleton.mp hb]; exact hx a (.head _), inc_app h.2 fun b hb => hx b (.tail _ hb)⟩
theorem inc_erase : ∀ {l : List Int} (p : Nat), inc l → inc (l.eraseIdx p)
  | [], p, h => by simpa using h
  | a :: l, 0, h => h.2
  | a :: l, p + 1, h => ⟨fun b hb => h.1 b (List.mem_of_mem_eraseIdx hb), inc_erase p h.2⟩
/-- the line less its last is below the line less any -/
theorem pw_last : ∀ {l : List Int} (p : Nat), inc l → p < l.length → PW (l.eraseIdx (l.length - 1)) (l.eraseIdx p) ∧ (p ≠ l.length - 1 → l.eraseIdx (l.length - 1) ≠ l.eraseIdx p)
  | [], p, _, hp => absurd hp (Nat.not_lt_zero _)
  | [a], p, _, hp => by
    have : p = 0 := by simp at hp; exact hp
    subst this
    exact ⟨PW.refl _, fun h => absurd rfl h⟩
  | a :: b :: l, 0, h, _ => by
    have key : ∀ (a : Int) (l : List Int), inc (a :: l) → PW ((a :: l).eraseIdx l.length) l := by
      intro a l
      induction l generalizing a with
      | nil => intro _; exact .nil
      | cons b l ih => intro h; exact .cons (Int.le_of_lt (h.1 b (.head _))) (ih b h.2)
    refine ⟨key a (b :: l) h, fun _ z => ?_⟩
    have z' : a :: (b :: l).eraseIdx l.length = b :: l := z
    have : a = b := by injection z'
    have := h.1 b (.head _)
    lia
  | a :: b :: l, p + 1, h, hp => by
    have ih := pw_last (l := b :: l) p h.2 (Nat.lt_of_succ_lt_succ hp)
    refine ⟨.cons (Int.le_refl _) ih.1, fun hne z => ?_⟩
    have z' : a :: (b :: l).eraseIdx l.length = a :: (b :: l).eraseIdx p := z
    injection z' with _ z''
    exact ih.2 (fun w => hne (by simp at w ⊢; omega)) z''
/-- the line less its first is above the line less any -/
theorem pw_first : ∀ {l : List Int} (p : Nat), inc l → p < l.length → PW (l.eraseIdx p) (l.eraseIdx 0) ∧ (p ≠ 0 → l.eraseIdx p ≠ l.eraseIdx 0)
  | [], p, _, hp => absurd hp (Nat.not_lt_zero _)
  | a :: l, 0, h, _ => ⟨PW.refl _, fun h => absurd rfl h⟩
  | [a], p + 1, h, hp => by simp at hp
  | a :: b :: l, p + 1, h, hp => by
    have ih := pw_first (l := b :: l) p h.2 (Nat.lt_of_succ_lt_succ hp)
    have hab := h.1 b (.head _)
    refine ⟨.cons (Int.le_of_lt hab) ih.1, fun _ z => ?_⟩
    have z' : a :: (b :: l).eraseIdx p = b :: l := z
    have : a = b := by injection z'
    lia

/-- LIFO is the one way of the greatest squares, FIFO of the least -/
theorem runs_cmp : ∀ (ds : List Deed) (h : Int) (T : List Int), inc T → (∀ b ∈ T, b ≤ h) → up h ds → okN ds T.length → ∀ r ∈ runs ds T,
    (sq r ≤ sq (run 0 ds T) ∧ (sq r = sq (run 0 ds T) → r = run 0 ds T)) ∧ (sq (run 1 ds T) ≤ sq r ∧ (sq r = sq (run 1 ds T) → r = run 1 ds T))
  | [], h, T, _, _, _, _, r, hr => by
    rw [List.mem_singleton.mp hr]
    exact ⟨⟨Int.le_refl _, fun _ => rfl⟩, Int.le_refl _, fun _ => rfl⟩
  | d :: ds, h, T, hi, hT, hu, hk, r, hr => by
    obtain ⟨u1, u2⟩ := hu
    unfold okN at hk
    unfold runs at hr
    unfold run
    cases hd : d.1 with
    | true =>
      simp only [hd, if_true] at hk hr ⊢
      exact runs_cmp ds d.2.1 (T ++ [d.2.1]) (inc_app hi fun b hb => by have := hT b hb; lia) (fun b hb => by
        rcases List.mem_append.mp hb with hb | hb
        · have := hT b hb; lia
        · rw [List.mem_singleton.mp hb]; exact Int.le_refl _) u2 (by simpa using hk) r hr
    | false =>
      simp only [hd, Bool.false_eq_true, if_false] at hk hr ⊢
      obtain ⟨p, zq⟩ := List.mem_flatMap.mp hr
      have hp := zq.1
      replace zq := zq.2
      have hr := zq
      clear zq
      obtain ⟨r', hr', rfl⟩ := List.mem_map.mp hr
      have hp := List.mem_range.mp hp
      have hT' : ∀ q, ∀ b ∈ T.eraseIdx q, b ≤ d.2.1 := fun q b hb => by have := hT b (List.mem_of_mem_eraseIdx hb); lia
      have hlen : ∀ q, q < T.length → okN ds (T.eraseIdx q).length := fun q hq => by rw [List.length_eraseIdx, if_pos hq]; exact hk.2
      have ih := runs_cmp ds d.2.1 (T.eraseIdx p) (inc_erase p hi) (hT' p) u2 (hlen p hp) r' hr'
      have g0 : gix 0 d.2.2 T.length = T.length - 1 := rfl
      have g1 : gix 1 d.2.2 T.length = 0 := rfl
      rw [g0, g1]
      have l0 : T.length - 1 < T.length := by lia
      have e := sqh_erase d.2.1 hp
      have e0 := sqh_erase d.2.1 l0
      have e1 := sqh_erase d.2.1 hk.1
      have zq := pw_last p hi hp
      have w0 := zq.1
      replace zq := zq.2
      have n0 := zq
      clear zq
      have zq := pw_first p hi hp
      have w1 := zq.1
      replace zq := zq.2
      have n1 := zq
      clear zq
      have c0 := run_cmp 0 ds d.2.1 _ _ w0 u2 (hlen _ l0)
      have c1 := run_cmp 1 ds d.2.1 _ _ w1 u2 (hlen p hp)
      have s : ∀ (x : Int) (l : List Int), sq (x :: l) = x * x + sq l := fun _ _ => rfl
      rw [s, s, s]
      refine ⟨⟨by lia, fun he => ?_⟩, by lia, fun he => ?_⟩
      · by_cases hpl : p = T.length - 1
        · subst hpl
          rw [ih.1.2 (by lia)]
        · have := c0.2 (n0 hpl)
          lia
      · by_cases hp0 : p = 0
        · subst hp0
          rw [ih.2.2 (by lia)]
        · have := c1.2 (n1 hp0)
          lia
end Mine
end

-- part P17
section
set_option maxRecDepth 100000
namespace Mine

theorem fold_runs : ∀ (ds : List Deed) (w : List Way) (x : Way), x ∈ ds.foldl wstep w → ∃ y ∈ w, ∃ r ∈ runs ds y.1, x.2 = y.2 ++ r
  | [], w, x, h => ⟨x, h, [], by simp [runs], by simp⟩
  | d :: ds, w, x, h => by
    rw [List.foldl_cons] at h
    obtain ⟨y, hy, r, hr, e⟩ := fold_runs ds (wstep w d) x h
    unfold wstep at hy
    unfold runs
    cases hd : d.1 with
    | true =>
      simp only [hd, if_true] at hy ⊢
      obtain ⟨z, hz, rfl⟩ := List.mem_map.mp hy
      exact ⟨z, hz, r, hr, e⟩
    | false =>
      simp only [hd, Bool.false_eq_true, if_false] at hy ⊢
      obtain ⟨z, hz, hy⟩ := List.mem_flatMap.mp hy
      obtain ⟨p, hp, rfl⟩ := List.mem_map.mp hy
      refine ⟨z, hz, (d.2.1 - z.1.getD p 0) :: r, ?_, ?_⟩
      · refine List.mem_flatMap.mpr ⟨p, hp, List.mem_map.mpr ⟨r, ?_, rfl⟩⟩
        have : (goOut d.2.1 z p).1 = z.1.eraseIdx p := by unfold goOut; rw [List.eraseIdx_eq_take_drop_succ]
        rw [this] at hr; exact hr
      · rw [e]; unfold goOut; simp
theorem runs_fold : ∀ (ds : List Deed) (w : List Way) (y : Way), y ∈ w → ∀ r ∈ runs ds y.1, ∃ x ∈ ds.foldl wstep w, x.2 = y.2 ++ r
  | [], w, y, hy, r, hr => ⟨y, hy, by rw [List.mem_singleton.mp hr]; simp⟩
  | d :: ds, w, y, hy, r, hr => by
    rw [List.foldl_cons]
    unfold runs at hr
    unfold wstep
    cases hd : d.1 with
    | true =>
      simp only [hd, if_true] at hr ⊢
      exact runs_fold ds _ (y.1 ++ [d.2.1], y.2) (List.mem_map.mpr ⟨y, hy, rfl⟩) r hr
    | false =>
      simp only [hd, Bool.false_eq_true, if_false] at hr ⊢
      obtain ⟨p, hp, hr⟩ := List.mem_flatMap.mp hr
      obtain ⟨r', hr', rfl⟩ := List.mem_map.mp hr
      have he : (goOut d.2.1 y p).1 = y.1.eraseIdx p := by unfold goOut; rw [List.eraseIdx_eq_take_drop_succ]
      obtain ⟨x, hx, e⟩ := runs_fold ds (w.flatMap fun x => (List.range x.1.length).map (goOut d.2.1 x)) (goOut d.2.1 y p) (List.mem_flatMap.mpr ⟨y, hy, List.mem_map.mpr ⟨p, hp, rfl⟩⟩) r' (by rw [he]; exact hr')
      exact ⟨x, hx, by rw [e]; unfold goOut; simp⟩
theorem run_come {kind : Nat} {d : Deed} (hd : d.1 = true) (ds : List Deed) (T : List Int) : run kind (d :: ds) T = run kind ds (T ++ [d.2.1]) := by
  rw [run, if_pos hd]
theorem run_go {kind : Nat} {d : Deed} (hd : d.1 = false) (ds : List Deed) (T : List Int) : run kind (d :: ds) T = (d.2.1 - T.getD (gix kind d.2.2 T.length) 0) :: run kind ds (T.eraseIdx (gix kind d.2.2 T.length)) := by
  rw [run, if_neg (by rw [hd]; decide)]
theorem lfold_run (kind : Nat) : ∀ (ds : List Deed) (s : LS), (ds.foldl (lstep kind) s).stays = s.stays ++ run kind ds s.there
  | [], s => by simp [run]
  | d :: ds, s => by
    rw [List.foldl_cons, lfold_run kind ds]
    unfold lstep
    cases hd : d.1 with
    | true => rw [run_come hd]; simp only [if_true]
    | false => rw [run_go hd]; simp only [Bool.false_eq_true, if_false]; simp
theorem plfold_run : ∀ (ds : List Deed) (s : Way), (ds.foldl plstep s).2 = s.2 ++ run 2 ds s.1
  | [], s => by simp [run]
  | d :: ds, s => by
    rw [List.foldl_cons, plfold_run ds]
    unfold plstep
    have hg : gix 2 d.2.2 s.1.length = pickAt d.2.2 s.1.length := rfl
    cases hd : d.1 with
    | true => rw [run_come hd]; simp only [if_true]
    | false => rw [run_go hd, hg]; skip; simp
theorem run_mem (kind : Nat) : ∀ (ds : List Deed) (T : List Int), okN ds T.length → run kind ds T ∈ runs ds T
  | [], T, _ => by simp [run, runs]
  | d :: ds, T, h => by
    unfold okN at h
    unfold run runs
    cases hd : d.1 with
    | true =>
      simp only [hd, if_true] at h ⊢
      exact run_mem kind ds _ (by simpa using h)
    | false =>
      simp only [hd, Bool.false_eq_true, if_false] at h ⊢
      have hp := gix_lt (kind := kind) (pk := d.2.2) h.1
      exact List.mem_flatMap.mpr ⟨_, List.mem_range.mpr hp, List.mem_map.mpr ⟨_, run_mem kind ds _ (by rw [List.length_eraseIdx, if_pos hp]; exact h.2), rfl⟩⟩
def gs : List Deed → Int
  | [] => 0
  | d :: ds => if d.1 = true then gs ds - d.2.1 else gs ds + d.2.1
def ng : List Deed → Nat
  | [] => 0
  | d :: ds => if d.1 = true then ng ds else ng ds + 1
theorem sum_er : ∀ {l : List Int} {p : Nat}, p < l.length → (l.eraseIdx p).sum = l.sum - l.getD p 0 := fun {l} {p} h => by
  have := sum_erase (fun x => x) (l := l) (p := p) h
  simpa using this
theorem runs_sum : ∀ (ds : List Deed) (T r : List Int), okN ds T.length → r ∈ runs ds T → r.sum = gs ds - T.sum ∧ r.length = ng ds
  | [], T, r, h, hr => by
    rw [List.mem_singleton.mp hr, List.length_eq_zero_iff.mp h]
    exact ⟨rfl, rfl⟩
  | d :: ds, T, r, h, hr => by
    unfold okN at h
    unfold runs at hr
    unfold gs ng
    cases hd : d.1 with
    | true =>
      simp only [hd, if_true] at h hr ⊢
      have := runs_sum ds _ r (by simpa using h) hr
      rw [List.sum_append] at this
      simp only [List.sum_cons, List.sum_nil] at this
      exact ⟨by lia, this.2⟩
    | false =>
      simp only [hd, Bool.false_eq_true, if_false] at h hr ⊢
      obtain ⟨p, hp, hr⟩ := List.mem_flatMap.mp hr
      obtain ⟨r', hr', rfl⟩ := List.mem_map.mp hr
      have hp := List.mem_range.mp hp
      have := runs_sum ds _ r' (by rw [List.length_eraseIdx, if_pos hp]; exact h.2) hr'
      rw [sum_er hp] at this
      rw [List.sum_cons, List.length_cons]
      exact ⟨by lia, by lia⟩
/-- the area is the sum of the stays and of the waits so far -/
theorem area_inv (kind : Nat) : ∀ (ds : List Deed) (s : LS), okN ds s.there.length → s.area = s.stays.sum + (s.there.map fun t => s.last - t).sum →
    (ds.foldl (lstep kind) s).area = (ds.foldl (lstep kind) s).stays.sum
  | [], s, h, hi => by
    rw [List.foldl_nil, hi, List.length_eq_zero_iff.mp h]; simp
  | d :: ds, s, h, hi => by
    rw [List.foldl_cons]
    unfold okN at h
    have shift : ∀ (T : List Int) (a b : Int), (T.map fun t => b - t).sum = (T.map fun t => a - t).sum + (b - a) * T.length := by
      intro T a b
      induction T with
      | nil => simp
      | cons t r ih => rw [List.map_cons, List.sum_cons, List.map_cons, List.sum_cons, ih, List.length_cons]; grind
    have hs := shift s.there s.last d.2.1
    cases hd : d.1 with
    | true =>
      simp only [hd, if_true] at h
      have e : lstep kind s d = ⟨s.there ++ [d.2.1], s.stays, s.first, s.area + (d.2.1 - s.last) * s.there.length, d.2.1⟩ := by unfold lstep; rw [hd]; rfl
      rw [e]
      refine area_inv kind ds _ (by simpa using h) ?_
      show s.area + (d.2.1 - s.last) * s.there.length = s.stays.sum + ((s.there ++ [d.2.1]).map fun t => d.2.1 - t).sum
      rw [List.map_append, List.sum_append, hs, hi]
      simp only [List.map_cons, List.map_nil, List.sum_cons, List.sum_nil]
      lia
    | false =>
      simp only [hd, Bool.false_eq_true, if_false] at h
      have hp := gix_lt (kind := kind) (pk := d.2.2) h.1
      have e : lstep kind s d = ⟨s.there.eraseIdx (gix kind d.2.2 s.there.length), s.stays ++ [d.2.1 - s.there.getD (gix kind d.2.2 s.there.length) 0], if kind = 1 then 0 else s.first, s.area + (d.2.1 - s.last) * s.there.length, d.2.1⟩ := by unfold lstep; rw [hd]; rfl
      rw [e]
      generalize gix kind d.2.2 s.there.length = p at hp
      refine area_inv kind ds _ (by rw [List.length_eraseIdx, if_pos hp]; exact h.2) ?_
      show s.area + (d.2.1 - s.last) * s.there.length = (s.stays ++ [d.2.1 - s.there.getD p 0]).sum + ((s.there.eraseIdx p).map fun t => d.2.1 - t).sum
      have h3 := sum_erase (fun t => d.2.1 - t) (l := s.there) (p := p) hp
      rw [h3, List.sum_append, hs, hi]
      simp only [List.sum_cons, List.sum_nil]
      lia
end Mine
end

-- part P18
section
set_option maxRecDepth 100000
namespace Mine

def dgen (c : Int) : Nat → Int → Int → List Int → List Deed
  | _, _, _, [] => []
  | n, h, l, x :: xs => (comesB c l n x, h + 1 + Int.fmod (Int.fdiv x 2) 9, Int.fdiv x 18) :: dgen c (n + 1) (h + 1 + Int.fmod (Int.fdiv x 2) 9) (if comesB c l n x = true then l + 1 else l - 1) xs
theorem dfold_gen (c : Int) : ∀ (xs : List Int) (s : DS), (xs.foldl (dstep c) s).out = s.out ++ dgen c s.out.length s.hour s.lying xs
  | [], s => by simp [dgen]
  | x :: xs, s => by
    rw [List.foldl_cons, dfold_gen c xs]
    have e : (dstep c s x).out.length = s.out.length + 1 := by simp [dstep]
    rw [e, dgen]
    simp [dstep]
theorem dgen_len (c : Int) : ∀ (xs : List Int) (n : Nat) (h l : Int), (dgen c n h l xs).length = xs.length
  | [], _, _, _ => rfl
  | x :: xs, n, h, l => by rw [dgen, List.length_cons, List.length_cons, dgen_len c xs]
theorem dgen_up (c : Int) : ∀ (xs : List Int) (n : Nat) (h l : Int), up h (dgen c n h l xs) ∧ ∀ d ∈ dgen c n h l xs, h < d.2.1 ∧ d.2.1 ≤ h + 9 * xs.length
  | [], _, _, _ => ⟨trivial, fun _ h => nomatch h⟩
  | x :: xs, n, h, l => by
    rw [dgen]
    have h1 := Int.fmod_nonneg_of_pos (Int.fdiv x 2) (b := 9) (by decide)
    have h2 := Int.fmod_lt_of_pos (Int.fdiv x 2) (b := 9) (by decide)
    obtain ⟨u, b⟩ := dgen_up c xs (n + 1) (h + 1 + Int.fmod (Int.fdiv x 2) 9) (if comesB c l n x = true then l + 1 else l - 1)
    refine ⟨⟨?_, u⟩, fun d hd => ?_⟩
    · show h < h + 1 + Int.fmod (Int.fdiv x 2) 9
      lia
    · rw [List.length_cons]
      rcases List.mem_cons.mp hd with rfl | hd
      · dsimp only
        lia
      · have := b d hd
        lia
theorem dgen_ok (c : Nat) : ∀ (xs : List Int) (n m : Nat) (h : Int), n + xs.length = 2 * c → m ≤ xs.length → (m + xs.length) % 2 = 0 → okN (dgen c n h m xs) m
  | [], n, m, h, _, hm, _ => Nat.le_zero.mp hm
  | x :: xs, n, m, h, hn, hm, hp => by
    rw [List.length_cons] at hn hm hp
    rw [dgen]
    unfold okN
    cases hc : comesB c m n x with
    | true =>
      skip
      have h1 : (m : Int) < 2 * (c : Int) - n := by
        unfold comesB at hc
        have := (Bool.and_eq_true_iff.mp hc).1
        simpa using this
      have e : ((m : Int) + 1) = ((m + 1 : Nat) : Int) := by lia
      rw [e]
      exact dgen_ok c xs (n + 1) (m + 1) _ (by lia) (by lia) (by lia)
    | false =>
      skip
      have hm0 : 0 < m := by
        rcases Nat.eq_zero_or_pos m with h0 | h0
        · exfalso
          subst h0
          unfold comesB at hc
          have h1 : decide (((0 : Nat) : Int) < 2 * (c : Int) - n) = true := decide_eq_true (by lia)
          rw [h1] at hc
          simp at hc
        · exact h0
      have e : ((m : Int) - 1) = ((m - 1 : Nat) : Int) := by omega
      rw [e]
      exact ⟨hm0, dgen_ok c xs (n + 1) (m - 1) _ (by lia) (by lia) (by lia)⟩
theorem ok_ng : ∀ (ds : List Deed) (n : Nat), okN ds n → 2 * ng ds = ds.length + n
  | [], n, h => by rw [show n = 0 from h]; rfl
  | d :: ds, n, h => by
    unfold okN at h
    unfold ng
    rw [List.length_cons]
    cases hd : d.1 with
    | true =>
      simp only [hd, if_true] at h ⊢
      have := ok_ng ds _ h
      lia
    | false =>
      simp only [hd, Bool.false_eq_true, if_false] at h ⊢
      have := ok_ng ds _ h.2
      lia
def cntF (n : Nat) (ds : List Deed) : Nat := ds.foldl (fun n d => if d.1 = true then n + 1 else n - 1) n
theorem ok_cnt : ∀ (ds : List Deed) (n : Nat), okN ds n → (∀ i d, ds[i]? = some d → d.1 = false → 0 < cntF n (ds.take i)) ∧ cntF n ds = 0
  | [], n, h => ⟨fun i d e => by simp at e, h⟩
  | d :: ds, n, h => by
    unfold okN at h
    have hstep : ∀ (l : List Deed), cntF n (d :: l) = cntF (if d.1 = true then n + 1 else n - 1) l := fun l => rfl
    cases hd : d.1 with
    | true =>
      simp only [hd, if_true] at h hstep
      have ih := ok_cnt ds _ h
      refine ⟨fun i e hi he => ?_, by rw [hstep]; exact ih.2⟩
      cases i with
      | zero => simp at hi; subst hi; exact nomatch (hd).symm.trans he
      | succ i => rw [List.take_succ_cons, hstep]; exact ih.1 i e (by simpa using hi) he
    | false =>
      simp only [hd, Bool.false_eq_true, if_false] at h hstep
      have ih := ok_cnt ds _ h.2
      refine ⟨fun i e hi he => ?_, by rw [hstep]; exact ih.2⟩
      cases i with
      | zero => exact h.1
      | succ i => rw [List.take_succ_cons, hstep]; exact ih.1 i e (by simpa using hi) he

/-- the deeds of a law's call -/
def theDeeds (cells : List Int) (c : Nat) : List Deed := (dfold c (dxs cells c)).out
theorem deeds_facts (cells : List Int) (c : Nat) (hc : c ≤ 4) :
    (theDeeds cells c).length = 2 * c ∧ up 0 (theDeeds cells c) ∧ (∀ d ∈ theDeeds cells c, 0 < d.2.1 ∧ d.2.1 ≤ 72) ∧ okN (theDeeds cells c) 0 ∧ ng (theDeeds cells c) = c := by
  have hl : (dxs cells c).length = 2 * c := by unfold dxs; rw [List.length_take, List.length_append]; simp; lia
  have e : theDeeds cells c = dgen c 0 0 0 (dxs cells c) := by
    unfold theDeeds dfold
    rw [dfold_gen]; rfl
  have hok : okN (theDeeds cells c) 0 := by rw [e]; exact dgen_ok c (dxs cells c) 0 0 0 (by lia) (Nat.zero_le _) (by lia)
  have hlen : (theDeeds cells c).length = 2 * c := by rw [e, dgen_len, hl]
  have hup := dgen_up c (dxs cells c) 0 0 0
  rw [← e] at hup
  refine ⟨hlen, hup.1, fun d hd => ?_, hok, ?_⟩
  · have := hup.2 d hd
    lia
  · have := ok_ng _ _ hok
    lia
theorem pl_lfold : ∀ (ds : List Deed) (s : Way) (t : LS), s.1 = t.there → (ds.foldl plstep s).1 = (ds.foldl (lstep 2) t).there
  | [], s, t, h => h
  | d :: ds, s, t, h => by
    rw [List.foldl_cons, List.foldl_cons]
    refine pl_lfold ds _ _ ?_
    unfold plstep lstep
    rw [h]
    cases d.1 <;> rfl
theorem deeds_cnt (cells : List Int) (c : Nat) (hc : c ≤ 4) : (∀ i d, (theDeeds cells c)[i]? = some d → d.1 = false → 0 < cnt ((theDeeds cells c).take i)) ∧ cnt (theDeeds cells c) = 0 ∧
    (∀ i d, (theDeeds cells c)[i]? = some d → d.1 = false → (plfold ((theDeeds cells c).take i)).1 ≠ []) := by
  have h := ok_cnt _ _ (deeds_facts cells c hc).2.2.2.1
  refine ⟨h.1, h.2, fun i d hi hd hn => ?_⟩
  have h1 := h.1 i d hi hd
  have h2 := lfold_len 2 ((theDeeds cells c).take i)
  have h3 : (plfold ((theDeeds cells c).take i)).1 = (lfold 2 ((theDeeds cells c).take i)).there := pl_lfold _ _ _ rfl
  rw [hn] at h3
  rw [← h3] at h2
  have : cntF 0 ((theDeeds cells c).take i) = 0 := h2.symm
  lia
end Mine
end

-- part P19
section
set_option maxRecDepth 100000
namespace Mine

theorem runs_small (B : Int) : ∀ (ds : List Deed) (h : Int) (T : List Int), (∀ t ∈ T, 0 ≤ t ∧ t ≤ h) → 0 ≤ h → up h ds → (∀ d ∈ ds, d.2.1 ≤ B) → ∀ r ∈ runs ds T, ∀ x ∈ r, 0 ≤ x ∧ x ≤ B
  | [], h, T, _, _, _, _, r, hr, x, hx => by rw [List.mem_singleton.mp hr] at hx; cases hx
  | d :: ds, h, T, hT, h0, hu, hB, r, hr, x, hx => by
    obtain ⟨u1, u2⟩ := hu
    have hd1 := hB d (.head _)
    have hB' : ∀ e ∈ ds, e.2.1 ≤ B := fun e he => hB e (.tail _ he)
    unfold runs at hr
    cases hd : d.1 with
    | true =>
      simp only [hd, if_true] at hr
      refine runs_small B ds d.2.1 _ (fun t ht => ?_) (by lia) u2 hB' r hr x hx
      rcases List.mem_append.mp ht with ht | ht
      · have := hT t ht; lia
      · rw [List.mem_singleton.mp ht]; lia
    | false =>
      simp only [hd, Bool.false_eq_true, if_false] at hr
      obtain ⟨p, hp, hr⟩ := List.mem_flatMap.mp hr
      obtain ⟨r', hr', rfl⟩ := List.mem_map.mp hr
      have hp := List.mem_range.mp hp
      rcases List.mem_cons.mp hx with rfl | hx
      · have := hT (T.getD p 0) (List.mem_of_getElem? (getD_some hp))
        lia
      · exact runs_small B ds d.2.1 _ (fun t ht => by have := hT t (List.mem_of_mem_eraseIdx ht); lia) (by lia) u2 hB' r' hr' x hx

/-- all that the law says, of the deeds -/
structure Plain (ds : List Deed) (c : Nat) : Prop where
  m0 : (lfold 0 ds).stays ∈ (wfold ds).map (·.2)
  m1 : (lfold 1 ds).stays ∈ (wfold ds).map (·.2)
  top : ∀ r ∈ (wfold ds).map (·.2), spread r ≤ spread (lfold 0 ds).stays ∧ (spread r = spread (lfold 0 ds).stays → r = (lfold 0 ds).stays)
  low : ∀ r ∈ (wfold ds).map (·.2), spread (lfold 1 ds).stays ≤ spread r ∧ (spread r = spread (lfold 1 ds).stays → r = (lfold 1 ds).stays)
  pl : (plfold ds).2 = (lfold 2 ds).stays
  len : ∀ kind, (lfold kind ds).stays.length = c
  area : ∀ kind, (lfold kind ds).area = (lfold kind ds).stays.sum
  small : ∀ kind, ∀ x ∈ (lfold kind ds).stays, 0 ≤ x ∧ x ≤ 72
  smallW : ∀ r ∈ (wfold ds).map (·.2), r.length = c ∧ ∀ x ∈ r, 0 ≤ x ∧ x ≤ 72

theorem plain (cells : List Int) (c : Nat) (hc : c ≤ 4) : Plain (theDeeds cells c) c := by
  obtain ⟨hl, hu, hh, hk, hng⟩ := deeds_facts cells c hc
  generalize theDeeds cells c = ds at *
  have hst : ∀ kind, (lfold kind ds).stays = run kind ds [] := fun kind => by
    exact (lfold_run kind ds ⟨[], [], kind + 1, 0, 0⟩).trans (List.nil_append _)
  have hpl : (plfold ds).2 = run 2 ds [] := by
    exact (plfold_run ds ([], [])).trans (List.nil_append _)
  have hin : ∀ kind, run kind ds [] ∈ runs ds [] := fun kind => run_mem kind ds [] hk
  have hw : ∀ r, r ∈ (wfold ds).map (·.2) ↔ r ∈ runs ds [] := fun r => by
    constructor
    · intro h
      obtain ⟨x, hx, rfl⟩ := List.mem_map.mp h
      obtain ⟨y, hy, r, hr, e⟩ := fold_runs ds [([], [])] x hx
      rw [List.mem_singleton.mp hy] at hr e
      rw [e]; simpa using hr
    · intro h
      obtain ⟨x, hx, e⟩ := runs_fold ds [([], [])] ([], []) (by decide) r h
      exact List.mem_map.mpr ⟨x, hx, by rw [e]; simp⟩
  have hsum := fun r hr => runs_sum ds [] r hk hr
  have hcmp := fun r hr => runs_cmp ds 0 [] trivial (fun _ h => (nomatch h)) hu hk r hr
  have hsm := fun r hr => runs_small 72 ds 0 [] (fun _ h => (nomatch h)) (Int.le_refl _) hu (fun d hd => (hh d hd).2) r hr
  have hsp : ∀ r, r ∈ runs ds [] → spread r = (c : Int) * sq r - gs ds * gs ds := fun r hr => by
    obtain ⟨h1, h2⟩ := hsum r hr
    unfold spread sq
    rw [h2, h1, hng]; simp
  have key : ∀ r r', r ∈ runs ds [] → r' ∈ runs ds [] → sq r ≤ sq r' → (sq r = sq r' → r = r') → spread r ≤ spread r' ∧ (spread r = spread r' → r = r') := fun r r' hr hr' h1 h2 => by
    rw [hsp r hr, hsp r' hr']
    have h3 : (c : Int) * sq r ≤ c * sq r' := Int.mul_le_mul_of_nonneg_left h1 (by lia)
    refine ⟨by lia, fun he => ?_⟩
    rcases Nat.eq_zero_or_pos c with h0 | h0
    · have e1 := (hsum r hr).2
      have e2 := (hsum r' hr').2
      rw [hng, h0] at e1 e2
      rw [List.length_eq_zero_iff.mp e1, List.length_eq_zero_iff.mp e2]
    · have e3 : (c : Int) * sq r = c * sq r' := by lia
      exact h2 (Int.eq_of_mul_eq_mul_left (by lia) e3)
  refine ⟨by rw [hst, hw]; exact hin 0, by rw [hst, hw]; exact hin 1, fun r hr => ?_, fun r hr => ?_, by rw [hpl, hst], fun kind => ?_, fun kind => ?_, fun kind x hx => ?_, fun r hr => ?_⟩
  · have hr := (hw r).mp hr
    rw [hst]
    have := hcmp r hr
    exact key r _ hr (hin 0) this.1.1 this.1.2
  · have hr := (hw r).mp hr
    rw [hst]
    have := hcmp r hr
    have k := key (run 1 ds []) r (hin 1) hr this.2.1 (fun e => (this.2.2 e.symm).symm)
    exact ⟨k.1, fun e => (k.2 e.symm).symm⟩
  · rw [hst, (hsum _ (hin kind)).2, hng]
  · exact area_inv kind ds ⟨[], [], kind + 1, 0, 0⟩ hk rfl
  · rw [hst] at hx
    exact hsm _ (hin kind) x hx
  · have hr := (hw r).mp hr
    exact ⟨by rw [(hsum r hr).2, hng], hsm r hr⟩
end Mine
end

-- part P20
section
set_option maxRecDepth 100000
set_option exponentiation.threshold 100
namespace Mine
open PySem PySem.W PyProof.Rows

def row (st : List Int) : List Int := st.map fun x => 3 * x
def row2 (c : Nat) (st : List Int) : List Int := (row st).map fun x => ((c : Int) - 1) * x
theorem row_sum : ∀ st : List Int, (row st).sum = 3 * st.sum
  | [] => rfl
  | a :: r => by
    have := row_sum r
    show 3 * a + (row r).sum = 3 * (a + r.sum)
    lia
theorem row2_sum (c : Nat) : ∀ st : List Int, (row2 c st).sum = ((c : Int) - 1) * (3 * st.sum)
  | [] => by show (0 : Int) = _ * (3 * 0); simp
  | a :: r => by
    have := row2_sum c r
    show ((c : Int) - 1) * (3 * a) + (row2 c r).sum = ((c : Int) - 1) * (3 * (a + r.sum))
    grind
theorem sum_bd : ∀ {st : List Int}, (∀ x ∈ st, 0 ≤ x ∧ x ≤ 72) → 0 ≤ st.sum ∧ st.sum ≤ 72 * (st.length : Int)
  | [], _ => ⟨Int.le_refl _, Int.le_refl _⟩
  | a :: r, h => by
    have ih := sum_bd (st := r) fun x hx => h x (.tail _ hx)
    have ha := h a (.head _)
    rw [List.sum_cons, List.length_cons]
    lia
theorem twelfth {c : Nat} (h1 : 1 ≤ c) (h4 : c ≤ 4) : ∃ e : Int, (c : Int) * e = 12 ∧ 3 ≤ e ∧ e ≤ 12 := by
  match c, h1, h4 with
  | 1, _, _ => exact ⟨12, by decide, by decide, by decide⟩
  | 2, _, _ => exact ⟨6, by decide, by decide, by decide⟩
  | 3, _, _ => exact ⟨4, by decide, by decide, by decide⟩
  | 4, _, _ => exact ⟨3, by decide, by decide, by decide⟩
def usq (e S : Int) (st : List Int) : Int := (st.map fun s => (12 * s - e * S) * (12 * s - e * S)).sum
theorem usq_eq (e S : Int) : ∀ st : List Int, usq e S st = 144 * (st.map fun x => x * x).sum - 24 * (e * S) * st.sum + (st.length : Int) * (e * S * (e * S))
  | [] => by show (0 : Int) = 144 * 0 - 24 * (e * S) * 0 + ((0 : Nat) : Int) * _; simp
  | a :: r => by
    have ih := usq_eq e S r
    show (12 * a - e * S) * (12 * a - e * S) + usq e S r = 144 * (a * a + (r.map fun x => x * x).sum) - 24 * (e * S) * (a + r.sum) + ((r.length + 1 : Nat) : Int) * (e * S * (e * S))
    rw [ih]
    have : ((r.length + 1 : Nat) : Int) = (r.length : Int) + 1 := by lia
    rw [this]
    grind
theorem usq_spread {c : Nat} {e : Int} {st : List Int} (he : (c : Int) * e = 12) (hl : st.length = c) : (c : Int) * usq e st.sum st = 16 * (9 * spread st) := by
  rw [usq_eq, hl]
  unfold spread
  rw [hl]
  have h1 : (c : Int) * (24 * (e * st.sum) * st.sum) = 288 * (st.sum * st.sum) := by
    have : (c : Int) * (24 * (e * st.sum) * st.sum) = (c : Int) * e * 24 * (st.sum * st.sum) := by grind
    rw [this, he]; lia
  have h2 : (c : Int) * ((c : Int) * (e * st.sum * (e * st.sum))) = 144 * (st.sum * st.sum) := by
    have : (c : Int) * ((c : Int) * (e * st.sum * (e * st.sum))) = ((c : Int) * e) * ((c : Int) * e) * (st.sum * st.sum) := by grind
    rw [this, he]; lia
  grind
theorem usq_nonneg (e S : Int) : ∀ st : List Int, 0 ≤ usq e S st
  | [] => Int.le_refl _
  | a :: r => by
    have ih := usq_nonneg e S r
    have : 0 ≤ (12 * a - e * S) * (12 * a - e * S) := by
      by_cases h : 0 ≤ 12 * a - e * S
      · exact Int.mul_nonneg h h
      · exact Int.le_of_lt (Int.mul_pos_of_neg_of_neg (by lia) (by lia))
    show 0 ≤ (12 * a - e * S) * (12 * a - e * S) + usq e S r
    lia

section
variable {g : G} {k : Nat} {μ : List MO} {f : Addr} {fd : FuncData} {SE : Addr} {st : List Int} {c : Nat} {e : Int}

theorem mean_fn (x : IsDef g f (stm 15) fd) (T : Told g SE) (h1 : 1 ≤ c) (h4 : c ≤ 4) (he : (c : Int) * e = 12) (he2 : 3 ≤ e ∧ e ≤ 12) (hl : st.length = c) (hs : ∀ x ∈ st, 0 ≤ x ∧ x ≤ 72) :
    Fn g (k + 3) (.ref f) [.list [.list (iL (row st))]] μ (.flt (fl (4 * (e * st.sum)))) μ := by
  have hb := sum_bd hs
  have hrl : (row st).length = c := by simp [row, hl]
  have hes : 0 ≤ e * st.sum ∧ e * st.sum ≤ 12 * 288 := ⟨Int.mul_nonneg (by lia) hb.1, Int.mul_le_mul he2.2 (by lia) hb.1 (by decide)⟩
  refine told1_ok x T (by lia) (by lia) (fun a ha => ?_) ?_ (by lia)
  · obtain ⟨y, hy, rfl⟩ := List.mem_map.mp ha
    have := hs y hy; lia
  · rw [row_sum, hrl]
    have : (c : Int) * (4 * (e * st.sum)) = 4 * ((c : Int) * e) * st.sum := by grind
    rw [this, he]; lia
theorem pull_fn (x : IsDef g f (stm 15) fd) (T : Told g SE) (h1 : 2 ≤ c) (h4 : c ≤ 4) (he : (c : Int) * e = 12) (he2 : 3 ≤ e ∧ e ≤ 6) (hl : st.length = c) (hs : ∀ x ∈ st, 0 ≤ x ∧ x ≤ 72) :
    Fn g (k + 3) (.ref f) [.list [.list (iL (row st)), .list (iL (row2 c st))]] μ (.flt (fl (usq e st.sum st))) μ := by
  have hb := sum_bd hs
  have hrl : (row st).length = c := by simp [row, hl]
  have hrl2 : (row2 c st).length = c := by simp [row2, hrl]
  have hes : 0 ≤ e * st.sum ∧ e * st.sum ≤ 6 * 288 := ⟨Int.mul_nonneg (by lia) hb.1, Int.mul_le_mul he2.2 (by lia) hb.1 (by decide)⟩
  have hc1 : 1 ≤ (c : Int) - 1 ∧ (c : Int) - 1 ≤ 3 := by lia
  let cs : Nat → Int := fun j => ((st[j]?).map fun s => ((c : Int) - 1) * ((12 * s - e * st.sum) * (12 * s - e * st.sum))).getD 0
  have usm : ∀ s, 0 ≤ s → s ≤ 72 → (12 * s - e * st.sum).natAbs ≤ 2592 := fun s h1 h2 => by lia
  have hsum : ∀ l : List Int, (l.map fun s => ((c : Int) - 1) * ((12 * s - e * st.sum) * (12 * s - e * st.sum))).sum = ((c : Int) - 1) * usq e st.sum l := by
    intro l
    induction l with
    | nil => show (0 : Int) = _ * 0; simp
    | cons a r ih =>
      show ((c : Int) - 1) * ((12 * a - e * st.sum) * (12 * a - e * st.sum)) + (r.map _).sum = ((c : Int) - 1) * ((12 * a - e * st.sum) * (12 * a - e * st.sum) + usq e st.sum r)
      rw [ih, Int.mul_add]
  have hub : ∀ l : List Int, (∀ s ∈ l, 0 ≤ s ∧ s ≤ 72) → (usq e st.sum l).natAbs ≤ l.length * (2592 * 2592) := by
    intro l
    induction l with
    | nil => intro _; show (0 : Int).natAbs ≤ _; simp
    | cons a r ih =>
      intro h
      have h1 := ih fun s hs => h s (.tail _ hs)
      have h2 := h a (.head _)
      have h3 : ((12 * a - e * st.sum) * (12 * a - e * st.sum)).natAbs ≤ 2592 * 2592 := by rw [Int.natAbs_mul]; exact Nat.mul_le_mul (usm a h2.1 h2.2) (usm a h2.1 h2.2)
      show ((12 * a - e * st.sum) * (12 * a - e * st.sum) + usq e st.sum r).natAbs ≤ (r.length + 1) * _
      rw [Nat.add_mul]
      omega
  refine told2_ok (mx := 4 * (e * st.sum)) (my := ((c : Int) - 1) * (4 * (e * st.sum))) (q := usq e st.sum st) (cs := cs) x T (by lia) (by lia) (by lia) (fun a ha => ?_) (fun a ha => ?_) ?_ ?_ (by lia) ?_ (fun j a b ha hb' => ?_) ?_ ?_
  · obtain ⟨y, hy, rfl⟩ := List.mem_map.mp ha
    have := hs y hy; lia
  · obtain ⟨z, hz, rfl⟩ := List.mem_map.mp ha
    obtain ⟨y, hy, rfl⟩ := List.mem_map.mp hz
    have h5 := hs y hy
    rw [Int.natAbs_mul]
    have := Nat.mul_le_mul (show ((c : Int) - 1).natAbs ≤ 3 by lia) (show (3 * y).natAbs ≤ 216 by lia)
    lia
  · rw [row_sum, hrl]
    have : (c : Int) * (4 * (e * st.sum)) = 4 * ((c : Int) * e) * st.sum := by grind
    rw [this, he]; lia
  · rw [row2_sum, hrl]
    have : (c : Int) * (((c : Int) - 1) * (4 * (e * st.sum))) = ((c : Int) - 1) * (4 * ((c : Int) * e) * st.sum) := by grind
    rw [this, he]; grind
  · rw [Int.natAbs_mul]
    have := Nat.mul_le_mul (show ((c : Int) - 1).natAbs ≤ 3 by lia) (show (4 * (e * st.sum)).natAbs ≤ 6912 by lia)
    lia
  · have ha' : (row st)[j]? = some a := ha
    unfold row at ha'
    rw [List.getElem?_map, Option.map_eq_some_iff] at ha'
    obtain ⟨s, hs1, rfl⟩ := ha'
    have hb2 : (row2 c st)[j]? = some b := hb'
    unfold row2 row at hb2
    rw [List.getElem?_map, List.getElem?_map, hs1] at hb2
    simp only [Option.map_some, Option.some.injEq] at hb2
    subst hb2
    have h5 := hs s (List.mem_of_getElem? hs1)
    have h6 := usm s h5.1 h5.2
    have hcs : cs j = ((c : Int) - 1) * ((12 * s - e * st.sum) * (12 * s - e * st.sum)) := by simp only [cs, hs1]; rfl
    rw [hcs]
    refine ⟨?_, ?_, ?_⟩
    · rw [Int.natAbs_mul, Int.natAbs_mul]
      have h7 := Nat.mul_le_mul h6 h6
      have h8 := Nat.mul_le_mul (show ((c : Int) - 1).natAbs ≤ 3 by lia) h7
      omega
    · have e1 : 16 * (((c : Int) - 1) * (3 * s)) - ((c : Int) - 1) * (4 * (e * st.sum)) = ((c : Int) - 1) * (16 * (3 * s) - 4 * (e * st.sum)) := by grind
      rw [e1]
      constructor
      · intro h; exact Int.mul_neg_of_pos_of_neg (by lia) h
      · intro h
        by_cases h9 : 16 * (3 * s) - 4 * (e * st.sum) < 0
        · exact h9
        · have := Int.mul_nonneg (show 0 ≤ (c : Int) - 1 by lia) (show 0 ≤ 16 * (3 * s) - 4 * (e * st.sum) by lia)
          lia
    · grind
  · rw [hrl]
    have h7 := preSum_get (fun s => ((c : Int) - 1) * ((12 * s - e * st.sum) * (12 * s - e * st.sum))) st c (by lia)
    have h8 : preSum cs c = ((st.take c).map fun s => ((c : Int) - 1) * ((12 * s - e * st.sum) * (12 * s - e * st.sum))).sum := h7
    have h9 : st.take c = st := by rw [← hl]; exact List.take_length
    rw [h8, h9, hsum]
    congr 1; lia
  · have := hub st hs
    rw [hl] at this
    have h9 : c * (2592 * 2592) ≤ 4 * (2592 * 2592) := Nat.mul_le_mul_right _ h4
    lia
end
end Mine
end

-- part P21
section
set_option maxRecDepth 100000
set_option exponentiation.threshold 100
namespace Mine
open PySem PySem.W PyProof.Rows

/-- all that law leans on -/
structure All (g : G) (SE : Addr) : Prop where
  cls : Cls g
  told : Told g SE
  deeds : ∃ f fd, g.mg "_law_deeds" = some (.ref f) ∧ IsDef g f (stm 9) fd
  ways : ∃ f fd, g.mg "_law_ways" = some (.ref f) ∧ IsDef g f (stm 10) fd
  places : ∃ f fd, g.mg "_law_places" = some (.ref f) ∧ IsDef g f (stm 11) fd
  go : ∃ f fd, g.mg "_law_go" = some (.ref f) ∧ IsDef g f (stm 12) fd
  line : ∃ f fd, g.mg "_law_line" = some (.ref f) ∧ IsDef g f (stm 13) fd
  spread : ∃ f fd, g.mg "_law_spread" = some (.ref f) ∧ IsDef g f (stm 14) fd
  said : ∃ f fd, g.mg "_law_told" = some (.ref f) ∧ IsDef g f (stm 15) fd
  range : g.mg "range" = none ∧ g.mb "range" = some (.type "range")
  max : g.mg "max" = none ∧ g.mb "max" = some (.builtin "max")
  min : g.mg "min" = none ∧ g.mb "min" = some (.builtin "min")
  inst : g.mg "isinstance" = none ∧ g.mb "isinstance" = some (.builtin "isinstance")
  float : g.mg "float" = none ∧ g.mb "float" = some (.type "float")

def theCount (ns : List Int) : Nat := (Int.fmod ((ns.take 60).sum + 4) 5).toNat
theorem count_le (ns : List Int) : theCount ns ≤ 4 := by
  unfold theCount
  have h1 := Int.fmod_nonneg_of_pos ((ns.take 60).sum + 4) (b := 5) (by decide)
  have h2 := Int.fmod_lt_of_pos ((ns.take 60).sum + 4) (b := 5) (by decide)
  omega
theorem count_eq (ns : List Int) : ((theCount ns : Nat) : Int) = Int.fmod ((ns.take 60).sum + 4) 5 := by
  unfold theCount
  have h1 := Int.fmod_nonneg_of_pos ((ns.take 60).sum + 4) (b := 5) (by decide)
  omega
def lineD (ds : List Deed) (kind : Nat) : D := .tup [.list (iL (lfold kind ds).stays), .int (lfold kind ds).area]

theorem first_at : ∀ {ns : List Int} {a : Int}, a ∈ ns → ∃ j : Nat, ns[j]? = some a ∧ ∀ m : Nat, m < j → ns[m]? ≠ some a
  | b :: r, a, h => by
    by_cases hb : b = a
    · subst hb
      exact ⟨0, rfl, fun m hm => absurd hm (Nat.not_lt_zero _)⟩
    · rcases List.mem_cons.mp h with h | h
      · exact absurd h.symm hb
      · obtain ⟨j, hj, hn⟩ := first_at h
        refine ⟨j + 1, by simpa using hj, fun m hm => ?_⟩
        cases m with
        | zero => simpa using hb
        | succ m => simpa using hn m (by omega)

section
variable {g : G} {k : Nat} {μ : List MO} {f : Addr} {fd : FuncData} {SE : Addr}

theorem law_body {ns : List Int} {env : Env} (T : All g SE) (x : IsDef g f (stm 16) fd) (e : EnvOf g f fd env) (hz : ns.length ≤ 63) :
    ExF g (k + 10) env [("script", .list (iL ns))] μ (bodyOf (stm 16)) (some (.bool true)) [] μ := by
  obtain ⟨fd9, d9, m9, x9⟩ := T.deeds
  obtain ⟨f10, d10, m10, x10⟩ := T.ways
  obtain ⟨f11, d11, m11, x11⟩ := T.places
  obtain ⟨f12, d12, m12, x12⟩ := T.go
  obtain ⟨f13, d13, m13, x13⟩ := T.line
  obtain ⟨f14, d14, m14, x14⟩ := T.spread
  obtain ⟨f15, d15, m15, x15⟩ := T.said
  have gn := T.told.gn
  have K := fun y => e.kind x y
  have hfk : env.scope.kind = .function := by rw [e.scope]; exact x.is.plain.2.2
  let cells := ns.take 60
  let c := theCount ns
  have hc4 : c ≤ 4 := count_le ns
  let ds := theDeeds cells c
  have zq := deeds_facts cells c hc4
  have hl := zq.1
  replace zq := zq.2
  have hu := zq.1
  replace zq := zq.2
  have hh := zq.1
  replace zq := zq.2
  have hok := zq.1
  replace zq := zq.2
  have hng := zq
  clear zq
  obtain ⟨hcnt, hend, hpl⟩ := deeds_cnt cells c hc4
  have P := plain cells c hc4
  have hl8 : ds.length ≤ 8 := by show (theDeeds cells c).length ≤ 8; lia
  obtain ⟨cc, zq⟩ := e.cell "count" (by rw [x.scope]; rfl)
  have hcc := zq.1
  replace zq := zq.2
  clear zq
  obtain ⟨cd, zq⟩ := e.cell "deeds" (by rw [x.scope]; rfl)
  have hcd := zq.1
  replace zq := zq.2
  clear zq
  refine ExF.cons (Ex1.f (Ex1.assign (d := .list (iL cells)) (Ev.cast (Ev.slice (a := none) (b := some 60) (Ev.local rfl ((K _).trans rfl) (by decide)) .none (.some Ev.int) (.inl rfl) (by rw [iL_len, sizeLine_eq]; omega)) (by simp [cut, cells, List.map_take])) (sto x e rfl))) ?_
  refine ExF.cons (Ex1.f (Ex1.assign (d := .int c) (Ev.cast (Ev.bin (Ev.bin (Ev.callB ((K _).trans rfl) gn.sum.1 gn.sum.2 (Evs.cons (Ev.local rfl ((K _).trans rfl) (by decide)) Evs.nil) Bi.sum) Ev.int Op.add) Ev.int (Op.mod (by decide))) (by rw [← count_eq])) (stoC x e rfl))) ?_
  refine ExF.cons (Ex1.f (Ex1.assign (d := .list (deedsD ds)) (Ev.callF ((K _).trans rfl) m9 x9.is (Evs.cons (Ev.local rfl ((K _).trans rfl) (by decide)) (Evs.cons (Ev.cell rfl ((K _).trans rfl) hcc (by decide)) Evs.nil)) (deeds_fn x9 gn.len.1 gn.len.2 (by simp [cells]; lia) hc4)) (stoC x e rfl))) ?_
  refine ExF.cons (Ex1.f (Ex1.assign (d := .list ((wfold ds).map fun x => .list (iL x.2))) (Ev.callF ((K _).trans rfl) m10 x10.is (Evs.cons (Ev.cell rfl ((K _).trans rfl) hcd (by decide)) Evs.nil) (ways_fn x10 gn.len.1 gn.len.2 T.range.1 T.range.2 hl8)) (sto x e rfl))) ?_
  let spreads : List Int := (wfold ds).map fun x => spread x.2
  have wlen : (wfold ds).length ≤ sizeLine := by
    have := (wfold_bound ds 8 hl8 (Nat.le_refl _)).2
    have h2 : 8 ^ ds.length ≤ 8 ^ 8 := Nat.pow_le_pow_right (by decide) hl8
    rw [sizeLine_eq]
    have h3 : (8 : Nat) ^ 8 = 16777216 := by decide
    lia
  have sqb : ∀ r : List Int, (∀ x ∈ r, 0 ≤ x ∧ x ≤ 72) → 0 ≤ (r.map fun x => x * x).sum ∧ (r.map fun x => x * x).sum ≤ 5184 * (r.length : Int) := by
    intro r
    induction r with
    | nil => intro _; exact ⟨Int.le_refl _, Int.le_refl _⟩
    | cons a r ih =>
      intro h
      have h1 := ih fun x hx => h x (.tail _ hx)
      have h2 := h a (.head _)
      have h3 : 0 ≤ a * a ∧ a * a ≤ 72 * 72 := ⟨Int.mul_nonneg h2.1 h2.1, Int.mul_le_mul h2.2 h2.2 h2.1 (by decide)⟩
      rw [List.map_cons, List.sum_cons, List.length_cons]
      omega
  have spreadFn : ∀ (k : Nat) (μ' : List MO) (r : List Int), r.length = c → (∀ x ∈ r, 0 ≤ x ∧ x ≤ 72) → Fn g (k + 1) (.ref f14) [.list (iL r)] μ' (.int (spread r)) μ' := fun k μ' r hr hs => by
    have hb := sum_bd hs
    have hq := sqb r hs
    exact spread_fn x14 gn.len.1 gn.len.2 gn.sum.1 gn.sum.2 (by rw [sizeLine_eq]; lia) (fun y hy => mul_small (by have := hs y hy; omega)) (mul_small (by omega)) (mul_small (by lia))
  refine ExF.cons (ρ₁ := [("script", .list (iL ns)), ("cells", .list (iL cells)), ("count", .int c), ("deeds", .list (deedsD ds)), ("ways", .list ((wfold ds).map fun x => .list (iL x.2))), ("spreads", .list (iL spreads))]) (μ₁ := μ) (Ex1.f (Cmp.assign (es := iL spreads) (Cmp.of [] [] ((wfold ds).map fun x => .list (iL x.2)) ((wfold ds).map fun x => [D.int (spread x.2)]) .one (Itb.list (Ev.local rfl ((K _).trans rfl) (by decide))) ?_ ?_ (closureFor_none (by decide)) rfl (by decide) (by decide) (fun _ _ h => (nomatch h)) (fun _ _ h => (nomatch h)) (by simp) ?_ (by intro _; rfl)) (sto x e rfl) (swap_true (blockFn hfk) ((K _).trans rfl) (by decide)))) ?_
  · rw [flat1]; simp [spreads, iL]
  · rw [flat1, List.length_map]; exact wlen
  · intro C j d es hd he
    simp only [List.getElem?_map, Option.map_eq_some_iff] at hd he
    obtain ⟨a, ha, rfl⟩ := hd
    obtain ⟨a', ha', rfl⟩ := he
    rw [ha] at ha'; cases ha'
    have hw := P.smallW a.2 (List.mem_map.mpr ⟨a, List.mem_of_getElem? ha, rfl⟩)
    exact ⟨GoK.name, _, _, Tg.name (.inl ⟨rfl, rfl⟩), Bd.emit rfl fun μ' _ => Ev.callF (comp_kind rfl (by decide)) m14 x14.is (Evs.cons (Ev.local rfl rfl (by decide)) Evs.nil) (spreadFn (k + 9) _ a.2 hw.1 hw.2), fun _ _ h => (nomatch h)⟩
  have rng3 : rng 3 = (List.range 3).map fun (i : Nat) => D.int i := rfl
  refine ExF.cons (ρ₁ := [("script", .list (iL ns)), ("cells", .list (iL cells)), ("count", .int c), ("deeds", .list (deedsD ds)), ("ways", .list ((wfold ds).map fun x => .list (iL x.2))), ("spreads", .list (iL spreads)), ("lines", .list [lineD ds 0, lineD ds 1, lineD ds 2])]) (μ₁ := μ) (Ex1.f (Cmp.assign (es := [lineD ds 0, lineD ds 1, lineD ds 2]) (Cmp.of [("deeds", cd)] [("deeds", .list (deedsD ds))] (rng 3) ((List.range 3).map fun kind => [lineD ds kind]) .one (Itb.range ((K _).trans rfl) T.range.1 T.range.2 Ev.int (by decide)) ?_ ?_ (closureFor_free (by decide) hcd) rfl (by decide) (by decide) ?_ ?_ (by rfl) ?_ (by intro _; rfl)) (sto x e rfl) (swap_true (blockFn hfk) ((K _).trans rfl) (by decide)))) ?_
  · rfl
  · rw [flat1, List.length_map, sizeLine_eq]; decide
  · intro y c' h'
    obtain ⟨rfl, rfl⟩ := one_lookup h'
    exact hcd
  · intro y d' h'
    obtain ⟨rfl, rfl⟩ := one_lookup h'
    exact ⟨rfl, rfl, comp_noLocal rfl⟩
  · intro C j d es hd he
    simp only [rng, List.getElem?_map, Option.map_eq_some_iff] at hd he
    obtain ⟨q, hq, rfl⟩ := hd
    obtain ⟨q', hq', rfl⟩ := he
    rw [hq] at hq'; cases hq'
    have hq3 : q < 3 := by have := List.mem_of_getElem? hq; simpa using this
    refine ⟨GoK.name, _, _, Tg.name (.inl ⟨rfl, rfl⟩), Bd.emit ?_ fun μ' _ => Ev.callF (comp_kind rfl (by decide)) m13 x13.is (Evs.cons (Ev.cell rfl (comp_cell rfl hfk ((K _).trans rfl)) rfl (by decide)) (Evs.cons (Ev.local rfl rfl (by decide)) Evs.nil)) (line_fn (k := k + 4) T.cls x13 m12 x12 hq3 hl8 (fun d hd => by have := hh d hd; omega) hcnt hend), ?_⟩
    · show (closedAll (iL _) && (true && true)) = true
      rw [closed_iL]; rfl
    · intro y d' h'
      obtain ⟨rfl, rfl⟩ := one_lookup h'
      rfl
  refine ExF.cons (ρ₁ := [("script", .list (iL ns)), ("cells", .list (iL cells)), ("count", .int c), ("deeds", .list (deedsD ds)), ("ways", .list ((wfold ds).map fun x => .list (iL x.2))), ("spreads", .list (iL spreads)), ("lines", .list [lineD ds 0, lineD ds 1, lineD ds 2])]) (μ₁ := μ) (Ex1.f (Ex1.ite (b := false) (r := none) (Te.cmp Ev.nul (Ev.local rfl ((K _).trans rfl) (by decide)) (Op.none_in (fun d hd => by
    simp only [List.mem_cons, List.not_mem_nil, or_false] at hd
    rcases hd with rfl | rfl | rfl <;> exact ⟨_, rfl⟩))) Ex.nilF)) ?_
  refine ExF.cons (ρ₁ := [("script", .list (iL ns)), ("cells", .list (iL cells)), ("count", .int c), ("deeds", .list (deedsD ds)), ("ways", .list ((wfold ds).map fun x => .list (iL x.2))), ("spreads", .list (iL spreads)), ("lines", .list [lineD ds 0, lineD ds 1, lineD ds 2]), ("stays", .list [.list (iL (lfold 0 ds).stays), .list (iL (lfold 1 ds).stays), .list (iL (lfold 2 ds).stays)])]) (μ₁ := μ) (Ex1.f (Cmp.assign (es := [.list (iL (lfold 0 ds).stays), .list (iL (lfold 1 ds).stays), .list (iL (lfold 2 ds).stays)]) (Cmp.of [] [] [lineD ds 0, lineD ds 1, lineD ds 2] ([0, 1, 2].map fun kind => [.list (iL (lfold kind ds).stays)]) .one (Itb.list (Ev.local rfl ((K _).trans rfl) (by decide))) ?_ ?_ (closureFor_none (by decide)) rfl (by decide) (by decide) (fun _ _ h => (nomatch h)) (fun _ _ h => (nomatch h)) rfl ?_ (by intro _; rfl)) (sto x e rfl) (swap_true (blockFn hfk) ((K _).trans rfl) (by decide)))) ?_
  · rfl
  · rw [flat1, List.length_map, sizeLine_eq]; decide
  · intro C j d es hd he
    have hdd : d = lineD ds j ∧ es = [.list (iL (lfold j ds).stays)] ∧ j < 3 := by
      have hj : j = 0 ∨ j = 1 ∨ j = 2 := by
        have := (List.getElem?_eq_some_iff.mp hd).1
        simp only [List.length_cons, List.length_nil] at this
        lia
      rcases hj with rfl | rfl | rfl
      · exact ⟨(Option.some.inj (show some (lineD ds 0) = some d from hd)).symm, (Option.some.inj (show some [D.list (iL (lfold 0 ds).stays)] = some es from he)).symm, by decide⟩
      · exact ⟨(Option.some.inj (show some (lineD ds 1) = some d from hd)).symm, (Option.some.inj (show some [D.list (iL (lfold 1 ds).stays)] = some es from he)).symm, by decide⟩
      · exact ⟨(Option.some.inj (show some (lineD ds 2) = some d from hd)).symm, (Option.some.inj (show some [D.list (iL (lfold 2 ds).stays)] = some es from he)).symm, by decide⟩
    obtain ⟨rfl, rfl, _⟩ := hdd
    exact ⟨GoK.name, _, _, Tg.name (.inl ⟨rfl, rfl⟩), Bd.emit (closed_iL _) fun μ' _ => Ev.item_tup (d := .list (iL (lfold j ds).stays)) (Ev.local rfl rfl (by decide)) Ev.int (by decide) (by decide) rfl, fun _ _ h => (nomatch h)⟩
  have pickW : ∀ st : List Int, st ∈ (wfold ds).map (·.2) → (∀ r ∈ (wfold ds).map (·.2), spread r = spread st → r = st) → ∃ j : Nat, spreads[j]? = some (spread st) ∧ (∀ m, m < j → spreads[m]? ≠ some (spread st)) ∧ ((wfold ds).map fun x => D.list (iL x.2))[j]? = some (.list (iL st)) ∧ j < 2 ^ 62 := fun st hm hu => by
    have hin : spread st ∈ spreads := by
      obtain ⟨y, hy, rfl⟩ := List.mem_map.mp hm
      exact List.mem_map.mpr ⟨y, hy, rfl⟩
    obtain ⟨j, zq⟩ := first_at hin
    have hj := zq.1
    replace zq := zq.2
    have hn := zq
    clear zq
    refine ⟨j, hj, hn, ?_, ?_⟩
    · simp only [spreads, List.getElem?_map, Option.map_eq_some_iff] at hj
      obtain ⟨y, hy, hs⟩ := hj
      rw [List.getElem?_map, hy, Option.map_some, hu y.2 (List.mem_map.mpr ⟨y, List.mem_of_getElem? hy, rfl⟩) hs]
    · have h1 := (List.getElem?_eq_some_iff.mp hj).1
      simp only [spreads, List.length_map] at h1
      rw [sizeLine_eq] at wlen
      omega
  obtain ⟨j0, zq⟩ := pickW _ P.m0 fun r hr => (P.top r hr).2
  have hj0 := zq.1
  replace zq := zq.2
  have hn0 := zq.1
  replace zq := zq.2
  have hw0 := zq.1
  replace zq := zq.2
  have hb0 := zq
  clear zq
  obtain ⟨j1, zq⟩ := pickW _ P.m1 fun r hr => (P.low r hr).2
  have hj1 := zq.1
  replace zq := zq.2
  have hn1 := zq.1
  replace zq := zq.2
  have hw1 := zq.1
  replace zq := zq.2
  have hb1 := zq
  clear zq
  have hmx : ∀ a ∈ spreads, a ≤ spread (lfold 0 ds).stays := fun a ha => by
    obtain ⟨y, hy, rfl⟩ := List.mem_map.mp ha
    exact (P.top y.2 (List.mem_map.mpr ⟨y, hy, rfl⟩)).1
  have hmn : ∀ a ∈ spreads, spread (lfold 1 ds).stays ≤ a := fun a ha => by
    obtain ⟨y, hy, rfl⟩ := List.mem_map.mp ha
    exact (P.low y.2 (List.mem_map.mpr ⟨y, hy, rfl⟩)).1
  have slen : spreads.length < 2 ^ 62 := by
    simp only [spreads, List.length_map]
    rw [sizeLine_eq] at wlen
    omega
  have hplaces : Fn g (k + 10) (.ref f11) [.list (deedsD ds)] μ (.list (iL (lfold 2 ds).stays)) μ := by
    have := places_fn (g := g) (k := k + 9) (μ := μ) x11 gn.len.1 gn.len.2 hl8 hpl
    rw [P.pl] at this
    exact this
  let B : En := [("script", .list (iL ns)), ("cells", .list (iL cells)), ("count", .int c), ("deeds", .list (deedsD ds)), ("ways", .list ((wfold ds).map fun x => .list (iL x.2))), ("spreads", .list (iL spreads)), ("lines", .list [lineD ds 0, lineD ds 1, lineD ds 2]), ("stays", .list [.list (iL (lfold 0 ds).stays), .list (iL (lfold 1 ds).stays), .list (iL (lfold 2 ds).stays)])]
  refine ExF.cons (ρ₁ := B) (μ₁ := μ) (Ex1.f (Ex1.ite (b := false) (r := none) (Te.cmp (Ev.local rfl ((K _).trans rfl) (by decide)) (Ev.list (Evs.cons (Ev.item_list (i := (j0 : Int)) (Ev.local rfl ((K _).trans rfl) (by decide)) (Ev.index (Ev.local rfl ((K _).trans rfl) (by decide)) (Ev.callB ((K _).trans rfl) T.max.1 T.max.2 (Evs.cons (Ev.local rfl ((K _).trans rfl) (by decide)) Evs.nil) (Bi.max (List.mem_of_getElem? hj0) hmx)) hj0 hn0 slen) (by omega) (by omega) (by rw [Int.toNat_natCast]; exact hw0)) (Evs.cons (Ev.item_list (i := (j1 : Int)) (Ev.local rfl ((K _).trans rfl) (by decide)) (Ev.index (Ev.local rfl ((K _).trans rfl) (by decide)) (Ev.callB ((K _).trans rfl) T.min.1 T.min.2 (Evs.cons (Ev.local rfl ((K _).trans rfl) (by decide)) Evs.nil) (Bi.min (List.mem_of_getElem? hj1) hmn)) hj1 hn1 slen) (by omega) (by omega) (by rw [Int.toNat_natCast]; exact hw1))
    (Evs.cons (Ev.callF ((K _).trans rfl) m11 x11.is (Evs.cons (Ev.cell rfl ((K _).trans rfl) hcd (by decide)) Evs.nil) hplaces) Evs.nil))) (by simp [sizeLine_eq])) (Op.ne_same (toPy_three _ _ _) (shaped_three _ _ _))) Ex.nilF)) ?_
  refine ExF.cons (ρ₁ := B) (μ₁ := μ) (Ex1F.forI (ds := rng 3) (Itb.range ((K _).trans rfl) T.range.1 T.range.2 Ev.int (by decide)) (fun _ => B) (fun _ => μ) rfl rfl ?_) (Ex.f (Ex.sub (ρ₂ := []) (Ex.ret (Ex1.ret Ev.bool)) (fun _ _ h => (nomatch h))))
  intro i d hd
  simp only [rng, List.getElem?_map, Option.map_eq_some_iff] at hd
  obtain ⟨q, hq, rfl⟩ := hd
  have hq3 : q < 3 := by have := List.mem_of_getElem? hq; simpa using this
  refine ⟨GoK.name, _, Tg.name (sto x e rfl), ?_⟩
  generalize hst : (lfold q ds).stays = st
  have hsl : st.length = c := hst ▸ P.len q
  have hss : ∀ x ∈ st, 0 ≤ x ∧ x ≤ 72 := hst ▸ P.small q
  have har : (lfold q ds).area = st.sum := hst ▸ P.area q
  have hget : ([.list (iL (lfold 0 ds).stays), .list (iL (lfold 1 ds).stays), .list (iL (lfold 2 ds).stays)] : List D)[((q : Int)).toNat]? = some (.list (iL st)) := by
    rw [Int.toNat_natCast, ← hst]
    have : q = 0 ∨ q = 1 ∨ q = 2 := by omega
    rcases this with rfl | rfl | rfl <;> rfl
  have hgetL : ([lineD ds 0, lineD ds 1, lineD ds 2] : List D)[((q : Int)).toNat]? = some (lineD ds q) := by
    rw [Int.toNat_natCast]
    have : q = 0 ∨ q = 1 ∨ q = 2 := by omega
    rcases this with rfl | rfl | rfl <;> rfl
  have hrow : (row st).length = c := by simp [row, hsl]
  obtain ⟨dm, hdm, hm0, hm1⟩ : ∃ dm : D, FnS g (k + 10) (.ref f15) [.list [.list (iL (row st))]] μ dm ∧ (c = 0 → dm = .str "fmean requires at least one data point") ∧ (1 ≤ c → ∃ ee : Int, (c : Int) * ee = 12 ∧ 3 ≤ ee ∧ ee ≤ 12 ∧ dm = .flt (fl (4 * (ee * st.sum)))) := by
    rcases Nat.eq_zero_or_pos c with h0 | h0
    · have : st = [] := List.length_eq_zero_iff.mp (by lia)
      rw [this]
      exact ⟨_, told1_err x15 T.told, fun _ => rfl, fun h => absurd h (by omega)⟩
    · obtain ⟨ee, zq⟩ := twelfth h0 hc4
      have h1 := zq.1
      replace zq := zq.2
      have h2 := zq.1
      replace zq := zq.2
      have h3 := zq
      clear zq
      exact ⟨_, (mean_fn x15 T.told h0 hc4 h1 ⟨h2, h3⟩ hsl hss).s, fun h => absurd h (by omega), fun _ => ⟨ee, h1, h2, h3, rfl⟩⟩
  obtain ⟨dp, hdp, hp0, hp1⟩ : ∃ dp : D, FnS g (k + 10) (.ref f15) [.list [.list (iL (row st)), .list (iL (row2 c st))]] μ dp ∧ (c < 2 → dp = .str "covariance requires at least two data points") ∧ (2 ≤ c → ∃ ee : Int, (c : Int) * ee = 12 ∧ dp = .flt (fl (usq ee st.sum st))) := by
    rcases Nat.lt_or_ge c 2 with h0 | h0
    · exact ⟨_, told2_err x15 T.told (by omega) (by simp [row2]), fun _ => rfl, fun h => absurd h (by omega)⟩
    · obtain ⟨ee, zq⟩ := twelfth (c := c) (by omega) hc4
      have h1 := zq.1
      replace zq := zq.2
      have h2 := zq.1
      replace zq := zq.2
      have h3 := zq
      clear zq
      exact ⟨_, (pull_fn x15 T.told h0 hc4 h1 ⟨h2, by
        have : 2 * ee ≤ c * ee := Int.mul_le_mul_of_nonneg_right (by omega) (by omega)
        lia⟩ hsl hss).s, fun h => absurd h (by omega), fun _ => ⟨ee, h1, rfl⟩⟩
  let B1 : En := upd B "kind" (.int q)
  let B2 : En := upd B1 "row" (.list (iL (row st)))
  let B3 : En := upd B2 "mean" dm
  let R : En := upd B3 "pull" dp
  have hsub : ∀ y d, B.lookup y = some d → R.lookup y = some d := subOf (List.forall_mem_cons.mpr ⟨rfl, List.forall_mem_cons.mpr ⟨rfl, List.forall_mem_cons.mpr ⟨rfl, List.forall_mem_cons.mpr ⟨rfl, List.forall_mem_cons.mpr ⟨rfl, List.forall_mem_cons.mpr ⟨rfl, List.forall_mem_cons.mpr ⟨rfl, List.forall_mem_cons.mpr ⟨rfl, List.forall_mem_nil _⟩⟩⟩⟩⟩⟩⟩⟩)
  refine ExF.sub (ρ₁ := R) (ExF.cons (ρ₁ := B2) (μ₁ := μ) (Ex1.f (Cmp.assign (es := iL (row st)) (Cmp.of [] [] (iL st) (st.map fun y => [D.int (3 * y)]) .one (Itb.list (Ev.item_list (Ev.local rfl ((K _).trans rfl) (by decide)) (Ev.local rfl ((K _).trans rfl) (by decide)) (by omega) (by omega) hget)) ?_ ?_ (closureFor_none (by decide)) rfl (by decide) (by decide) (fun _ _ h => (nomatch h)) (fun _ _ h => (nomatch h)) (by simp) ?_ (by intro _; rfl)) (sto x e rfl) (swap_true (blockFn hfk) ((K _).trans rfl) (by decide))))
    (ExF.cons (ρ₁ := B3) (μ₁ := μ) (Ex1F.callS ((K _).trans rfl) m15 x15.is (Evs.cons (Ev.list (Evs.cons (Ev.local rfl ((K _).trans rfl) (by decide)) Evs.nil) (by simp [sizeLine_eq])) Evs.nil) hdm (sto x e rfl))
    (ExF.cons (ρ₁ := R) (μ₁ := μ) (Ex1F.callS ((K _).trans rfl) m15 x15.is (Evs.cons (Ev.list (Evs.cons (Ev.local rfl ((K _).trans rfl) (by decide)) (Evs.cons (Cmp.ev (es := iL (row2 c st)) ?_) Evs.nil)) (by simp [sizeLine_eq])) Evs.nil) hdp (sto x e rfl))
    (ExF.cons (ρ₁ := R) (μ₁ := μ) (Ex1.f (Ex1.ite (b := false) (r := none) ?_ Ex.nilF))
    (ExF.cons (ρ₁ := R) (μ₁ := μ) (Ex1.f (Ex1.ite (b := false) (r := none) ?_ Ex.nilF))
    (ExF.cons (ρ₁ := R) (μ₁ := μ) (Ex1.f (Ex1.ite (b := false) (r := none) ?_ Ex.nilF)) Ex.nil.f)))))) hsub
  · rw [flat1]; simp [row, iL]
  · rw [flat1, List.length_map, sizeLine_eq]; omega
  · intro C j d es hd he
    simp only [iL, List.getElem?_map, Option.map_eq_some_iff] at hd he
    obtain ⟨a, ha, rfl⟩ := hd
    obtain ⟨a', ha', rfl⟩ := he
    rw [ha] at ha'; cases ha'
    exact ⟨GoK.name, _, _, Tg.name (.inl ⟨rfl, rfl⟩), Bd.emit rfl fun μ' _ => Ev.bin Ev.int (Ev.local rfl rfl (by decide)) (Op.mul (mul_small (by decide))), fun _ _ h => (nomatch h)⟩
  · refine (Cmp.of [("count", cc)] [("count", .int c)] (iL (row st)) ((row st).map fun y => [D.int (((c : Int) - 1) * y)]) .one (Itb.list (Ev.local rfl ((K _).trans rfl) (by decide))) ?_ ?_ (closureFor_free (by decide) hcc) rfl (by decide) (by decide) ?_ ?_ (by simp) ?_ (by intro _; rfl))
    · rw [flat1]; simp [row2, iL]
    · rw [flat1, List.length_map, sizeLine_eq]; omega
    · intro y c' h'
      obtain ⟨rfl, rfl⟩ := one_lookup h'
      exact hcc
    · intro y d' h'
      obtain ⟨rfl, rfl⟩ := one_lookup h'
      exact ⟨rfl, rfl, comp_noLocal rfl⟩
    · intro C j d es hd he
      simp only [iL, List.getElem?_map, Option.map_eq_some_iff] at hd he
      obtain ⟨a, ha, rfl⟩ := hd
      obtain ⟨a', ha', rfl⟩ := he
      rw [ha] at ha'; cases ha'
      refine ⟨GoK.name, _, _, Tg.name (.inl ⟨rfl, rfl⟩), Bd.emit rfl fun μ' _ => Ev.bin (Ev.bin (Ev.cell rfl (comp_cell rfl hfk ((K _).trans rfl)) rfl (by decide)) Ev.int Op.sub) (Ev.local rfl rfl (by decide)) (Op.mul (mul_small (by omega))), ?_⟩
      intro y d' h'
      obtain ⟨rfl, rfl⟩ := one_lookup h'
      rfl
  · have cnt0 : ∀ p, Ev g (k + 10) env R μ (.Name "count" p) (.int c) μ := fun p => Ev.cell rfl ((K _).trans rfl) hcc (by decide)
    rcases Nat.eq_zero_or_pos c with h0 | h0
    · have hdm0 : Op g (k + 10) (.bool false) (compareOp .NotEq) dm (.str "fmean requires at least one data point") := by
        rw [hm0 h0]; exact Op.ne_same rfl (by decide +kernel)
      refine Te.bop (Al.or_f (Te.bop (Al.and_t (Te.cast (Te.cmp (cnt0 _) Ev.int Op.eq) (b := true) ?_) (Al.and_f (Te.cmp (Ev.local (d := dm) rfl ((K _).trans rfl) (by decide)) Ev.str hdm0)))) (Al.or_f (Te.bop (Al.and_f (Te.cast (Te.cmp (cnt0 _) Ev.int Op.gt) ?_))) Al.or_nil))
      · rw [h0]; rfl
      · rw [h0]; rfl
    · obtain ⟨ee, h1, h2, h3, he⟩ := hm1 h0
      have hb := sum_bd hss
      have hes : 0 ≤ ee * st.sum ∧ ee * st.sum ≤ 12 * 288 := ⟨Int.mul_nonneg (by omega) hb.1, Int.mul_le_mul h3 (by lia) hb.1 (by decide)⟩
      have hmulD : Op g (k + 10) (.flt (fl ((c : Int) * (4 * (ee * st.sum))))) (binaryOp .Mult) (.int c) dm := by
        rw [he]; exact Op.fmul (by omega) (by omega) (by lia) (by omega)
      have hval : (c : Int) * (4 * (ee * st.sum)) = 48 * st.sum := by
        have : (c : Int) * (4 * (ee * st.sum)) = 4 * ((c : Int) * ee) * st.sum := by grind
        rw [this, h1]; lia
      rw [hval] at hmulD
      refine Te.bop (Al.or_f (Te.bop (Al.and_f (Te.cast (Te.cmp (cnt0 _) Ev.int Op.eq) ?_))) (Al.or_f (Te.bop (Al.and_t (Te.cast (Te.cmp (cnt0 _) Ev.int Op.gt) ?_) (Al.and_f (Te.cast (Te.cmp (Ev.bin (cnt0 _) (Ev.local (d := dm) rfl ((K _).trans rfl) (by decide)) hmulD) (Ev.bin Ev.int (Ev.item_tup (ds := [.list (iL (lfold q ds).stays), .int (lfold q ds).area]) (d := .int (lfold q ds).area) (Ev.item_list (i := (q : Int)) (Ev.local rfl ((K _).trans rfl) (by decide)) (Ev.local rfl ((K _).trans rfl) (by decide)) (by omega) (by omega) hgetL) Ev.int (by decide) (by decide) rfl) (Op.mul (mul_small (by decide)))) (Op.fne (by lia))) ?_)))) Al.or_nil))
      · have : (c : Int) ≠ 0 := by omega
        simpa using this
      · exact decide_eq_true (by omega)
      · rw [har]
        have : 48 * st.sum = 16 * (3 * st.sum) := by lia
        rw [this]; simp
  · have cnt0 : ∀ p, Ev g (k + 10) env R μ (.Name "count" p) (.int c) μ := fun p => Ev.cell rfl ((K _).trans rfl) hcc (by decide)
    rcases Nat.lt_or_ge c 2 with h0 | h0
    · have hdp0 : Op g (k + 10) (.bool false) (compareOp .NotEq) dp (.str "covariance requires at least two data points") := by
        rw [hp0 h0]; exact Op.ne_same rfl (by decide +kernel)
      refine Te.bop (Al.or_f (Te.bop (Al.and_t (Te.cast (Te.cmp (cnt0 _) Ev.int Op.lt) (b := true) ?_) (Al.and_f (Te.cmp (Ev.local (d := dp) rfl ((K _).trans rfl) (by decide)) Ev.str hdp0)))) (Al.or_f (Te.bop (Al.and_f (Te.cast (Te.cmp (cnt0 _) Ev.int Op.gt) ?_))) Al.or_nil))
      · exact decide_eq_true (by omega)
      · exact decide_eq_false (by omega)
    · obtain ⟨ee, zq⟩ := hp1 h0
      have h1 := zq.1
      replace zq := zq.2
      have he := zq
      clear zq
      have hval := usq_spread h1 hsl
      have hnn := usq_nonneg ee st.sum st
      have hqs := sqb st hss
      have hsb := sum_bd hss
      have hspb : (spread st).natAbs ≤ 2000000 := by
        unfold spread
        rw [hsl]
        have a1 : (c : Int) * (st.map fun x => x * x).sum ≤ 4 * 20736 := Int.mul_le_mul (by lia) (by lia) hqs.1 (by decide)
        have a2 : 0 ≤ (c : Int) * (st.map fun x => x * x).sum := Int.mul_nonneg (by lia) hqs.1
        have a3 : st.sum * st.sum ≤ 288 * 288 := Int.mul_le_mul (by omega) (by omega) hsb.1 (by decide)
        have a4 : 0 ≤ st.sum * st.sum := Int.mul_nonneg hsb.1 hsb.1
        omega
      have hub : usq ee st.sum st ≤ 16 * (9 * spread st) := by
        have : 1 * usq ee st.sum st ≤ (c : Int) * usq ee st.sum st := Int.mul_le_mul_of_nonneg_right (by omega) hnn
        omega
      have hmulD : Op g (k + 10) (.flt (fl ((c : Int) * usq ee st.sum st))) (binaryOp .Mult) (.int c) dp := by
        rw [he]; exact Op.fmul (by omega) (by omega) (by omega) hnn
      rw [hval] at hmulD
      refine Te.bop (Al.or_f (Te.bop (Al.and_f (Te.cast (Te.cmp (cnt0 _) Ev.int Op.lt) ?_))) (Al.or_f (Te.bop (Al.and_t (Te.cast (Te.cmp (cnt0 _) Ev.int Op.gt) ?_) (Al.and_f (Te.cast (Te.cmp (Ev.bin (cnt0 _) (Ev.local (d := dp) rfl ((K _).trans rfl) (by decide)) hmulD) (Ev.bin Ev.int (Ev.callF ((K _).trans rfl) m14 x14.is (Evs.cons (Ev.item_list (i := (q : Int)) (Ev.local rfl ((K _).trans rfl) (by decide)) (Ev.local rfl ((K _).trans rfl) (by decide)) (by omega) (by omega) hget) Evs.nil) (spreadFn (k + 9) μ st hsl hss)) (Op.mul (mul_small (by decide)))) (Op.fne (by omega))) ?_)))) Al.or_nil))
      · exact decide_eq_false (by omega)
      · exact decide_eq_true (by omega)
      · simp
  · have cnt0 : ∀ p, Ev g (k + 10) env R μ (.Name "count" p) (.int c) μ := fun p => Ev.cell rfl ((K _).trans rfl) hcc (by decide)
    have hmf : ((∃ v, dm = .flt v) ∨ ∃ v, dm = .str v) ∧ isFl dm = decide ((0 : Int) < c) := by
      rcases Nat.eq_zero_or_pos c with h0 | h0
      · rw [hm0 h0, decide_eq_false (by omega)]; exact ⟨.inr ⟨_, rfl⟩, rfl⟩
      · obtain ⟨ee, _, _, _, he⟩ := hm1 h0
        rw [he, decide_eq_true (by omega)]; exact ⟨.inl ⟨_, rfl⟩, rfl⟩
    have hpf : ((∃ v, dp = .flt v) ∨ ∃ v, dp = .str v) ∧ isFl dp = decide ((1 : Int) < c) := by
      rcases Nat.lt_or_ge c 2 with h0 | h0
      · rw [hp0 h0, decide_eq_false (by omega)]; exact ⟨.inr ⟨_, rfl⟩, rfl⟩
      · obtain ⟨ee, _, he⟩ := hp1 h0
        rw [he, decide_eq_true (by omega)]; exact ⟨.inl ⟨_, rfl⟩, rfl⟩
    refine Te.bop (Al.or_f (Te.cast (Te.cmp (Ev.isFloat ((K _).trans rfl) T.inst.1 T.inst.2 ((K _).trans rfl) T.float.1 T.float.2 (Ev.local (d := dm) rfl ((K _).trans rfl) (by decide)) hmf.1) (Ev.cmp (cnt0 _) Ev.int Op.gt) Op.neb) ?_) (Al.or_f (Te.cast (Te.cmp (Ev.isFloat ((K _).trans rfl) T.inst.1 T.inst.2 ((K _).trans rfl) T.float.1 T.float.2 (Ev.local (d := dp) rfl ((K _).trans rfl) (by decide)) hpf.1) (Ev.cmp (cnt0 _) Ev.int Op.gt) Op.neb) ?_) Al.or_nil))
    · rw [hmf.2]; simp
    · rw [hpf.2]; simp
end
end Mine
end

-- part P22
section
set_option maxRecDepth 100000
namespace Mine
open PySem PySem.W PyProof.Rows

section
variable {g : G} {k : Nat} {μ : List MO} {f : Addr} {fd : FuncData} {SE : Addr}

/-- law called by the claim's caller -/
theorem law_call {A : Around} {θ : Th} {s : Shared} {v : Value} {ns : List Int} {Q : Value → Shared → Prop} {E : Value → Shared → Prop} (ft : Fit (k + 11) A) (hfr : A.frames = some []) (T : All g SE) (x : IsDef g f (stm 16) fd) (W : Wld g θ μ s) (V : Val g θ s.heap v (.list (iL ns))) (hz : ns.length ≤ 63)
    (q : ∀ θ' s', Wld g θ' μ s' → Q (.bool true) s') : wpAny g.M A (call (.ref f) [v]) Q E s := by
  obtain ⟨o, ho, hd⟩ := x.is.at_
  refine wpAny_call (codeAny_call_function (by have := ft.depth; lia) (W.base f o x.is.out ho) hd x.is.plain.1 x.is.plain.2.1 x.body (x.is.codeRec W) ?_)
  refine bind_pos (bs := ([PySem.Str.ofString "script"]).zip [v]) x.pars x.dflt x.kwd (fun _ => by kernel_rfl) _ _ _ _ ?_
  refine enter x.is (.nil x.clo) (by rw [x.scope]; decide +kernel) (names := ["script"]) (fun y hy => by
    rw [x.scope, x.clo, List.mem_singleton.mp hy]; exact .inl ⟨rfl, rfl⟩) W (.cons V .nil) fun env s₁ EO hL hC l₁ S₁ => ⟨S₁.W.lim, ks_codeAny_funcAt (wpAt_of_wpAny ?_)⟩
  refine law_body (k := k) T x EO hz _ θ s₁ _ _ ft.deeper (by show A.frames.map (env :: ·) = _; rw [hfr]; rfl) EO.frame S₁ fun fl θ' s' l' S' F' => ?_
  cases F' with
  | ret V' =>
    cases V'
    exact q θ' s' S'.W
end
end Mine
end

-- part P23
section
set_option maxRecDepth 100000
namespace Mine
open PySem PySem.W PyProof.Rows

/-- what a namespace holds, by the objects of a fragment -/
theorem mg_of {K : Frag} {h : Heap} {a : Addr} {m : Str → Option Value} (X : K.In h) (n : h.Ns a m) {name : Str} {r : Option Value} (e : nsIn K a name = some r) : m name = r := by
  obtain ⟨o, ho, hl⟩ := ns_look n
  have hl := hl name
  unfold nsIn at e
  split at e
  · rename_i c d es n' sl hk
    have := X _ _ hk
    rw [ho] at this
    cases this
    unfold lookIn at hl
    exact Option.some.inj (hl.symm.trans e)
  · cases e
end Mine
end

-- part P24
section
set_option maxRecDepth 100000
namespace Mine
open PySem PySem.W PyProof.Rows

def dataIn (K : Frag) (a : Addr) : Option Data := (K.lookup a).map (·.data)
def funcOf : Data → FuncData
  | .func fd => fd
  | _ => default
def fdIn (K : Frag) (a : Addr) : FuncData := ((dataIn K a).map funcOf).getD default
def valsOf : Data → Array Value
  | .fields vs => vs
  | _ => #[]
def valsIn (K : Frag) (a : Addr) : Array Value := ((dataIn K a).map valsOf).getD #[]
def entsOf : Data → Array DictEntry
  | .dict es _ => es
  | _ => #[]
def entsIn (K : Frag) (a : Addr) : Array DictEntry := ((dataIn K a).map entsOf).getD #[]

theorem data_at {g : G} {a : Addr} {d : Data} (gd : Gd g) (e : dataIn g.K a = some d) : ∃ o, g.hB.get? a = some o ∧ o.data = d ∧ a ∉ g.tabs :=
  let ⟨o, ho, hd⟩ := Option.map_eq_some_iff.mp e
  ⟨o, gd.kin _ _ ho, hd, gd.kout _ _ ho⟩

/-- what a def's record says -/
abbrev fdSays (fd : FuncData) : Arguments × FuncBody × Scope × Value × Addr × Addr := (fd.params, fd.body, fd.scope, fd.kwdefaults, fd.globals, fd.builtins)
abbrev stSays (st : Stmt) : Arguments × FuncBody × Scope × Value × Addr × Addr := (parsOf st, .stmts (bodyOf st), scopeOf st, .none, mainGlobals, builtinsNs)
abbrev scSays (s : Scope) : Bool × Bool × ScopeKind := (s.isCoroutine, s.isGenerator, s.kind)
/-- a def of the text as the fragment has it: its code at c -/
structure Def (K : Frag) (a : Addr) (st : Stmt) (c : Addr) (t : Tok) : Prop where
  fn : dataIn K a = some (.func (fdIn K a))
  code : (fdIn K a).code = .ref c
  vals : dataIn K c = some (.fields (valsIn K c))
  name : (valsIn K c)[1]? = some (.str (fdIn K a).qualname t)
  says : fdSays (fdIn K a) = stSays st
  scope : scSays (scopeOf st) = (false, false, .function)

section
variable {g : G} {K : Frag} {a c : Addr} {t : Tok} {st : Stmt}
theorem Def.pars (d : Def K a st c t) : (fdIn K a).params = parsOf st := congrArg (·.1) d.says
theorem Def.body (d : Def K a st c t) : (fdIn K a).body = .stmts (bodyOf st) := congrArg (·.2.1) d.says
theorem Def.scop (d : Def K a st c t) : (fdIn K a).scope = scopeOf st := congrArg (·.2.2.1) d.says
theorem Def.kwd (d : Def K a st c t) : (fdIn K a).kwdefaults = .none := congrArg (·.2.2.2.1) d.says
theorem Def.glob (d : Def K a st c t) : (fdIn K a).globals = mainGlobals ∧ (fdIn K a).builtins = builtinsNs := ⟨congrArg (·.2.2.2.2.1) d.says, congrArg (·.2.2.2.2.2) d.says⟩
theorem Def.fd (d : Def g.K a st c t) (gd : Gd g) : FD g a (fdIn g.K a) := by
  have h1 := data_at gd d.fn
  obtain ⟨oc, h2⟩ := data_at gd d.vals
  refine ⟨h1.imp fun o h => ⟨h.1, h.2.1⟩, h1.elim fun o h => h.2.2, ⟨c, oc, _, t, d.code, h2.1, h2.2.1, d.name, h2.2.2⟩, d.glob, ?_⟩
  rw [d.scop]
  exact ⟨congrArg (·.1) d.scope, congrArg (·.2.1) d.scope, congrArg (·.2.2) d.scope⟩
theorem Def.is (d : Def g.K a st c t) (gd : Gd g) (e : ((fdIn g.K a).closure, (fdIn g.K a).defaults) = ([], .none)) : IsDef g a st (fdIn g.K a) :=
  ⟨d.fd gd, d.pars, d.body, d.scop, congrArg (·.1) e, congrArg (·.2) e, d.kwd⟩
theorem Def.dd (d : Def g.K a st c t) {T : Addr} {n : Nat} {dv : Value} (gd : Gd g) (e : ((fdIn g.K a).closure, (fdIn g.K a).defaults) = ([], .ref T)) (eT : dataIn g.K T = some (.seq #[dv] n)) : DDef g a st (fdIn g.K a) dv :=
  ⟨d.fd gd, d.pars, d.body, d.scop, congrArg (·.1) e, (data_at gd eT).elim fun o h => ⟨T, o, n, congrArg (·.2) e, h.1, h.2.1, h.2.2⟩, d.kwd⟩
end
end Mine
end

-- part P25
section
set_option maxRecDepth 100000
namespace Mine
open PySem PySem.W PyProof.Rows

section
variable {g : G} {K : Frag} {a c : Addr} {t : Tok} {st : Stmt}
theorem cell_at {c : Addr} {v : Value} (gd : Gd g) (e : dataIn g.K c = some (.cell (some v))) : g.hB.IsCell c (some v) ∧ c ∉ g.tabs :=
  (data_at gd e).elim fun o h => ⟨⟨o, h.1, h.2.1⟩, h.2.2⟩

/-- a def of the class as the fragment has it -/
structure MOk (K : Frag) (cls : Addr) (name : Str) (a : Addr) (st : Stmt) (c : Addr) (t : Tok) : Prop where
  is : Def K a st c t
  find : findIn K (.ref cls) name = some (some (.ref a))
  typ : typeIn K (.ref a) = some (.type "function")
  ne : name ≠ "_initial_size"
  cells : (scopeOf st).names.all (fun y => y.2 != .cell) = true
  uniq : ((scopeOf st).names.map (·.1)).Nodup
theorem MOk.mdef {name : Str} {dfl : Option Value} {cl : List (Str × Addr)} (m : MOk g.K g.cls name a st c t) (gd : Gd g) (hc : (fdIn g.K a).closure = cl) (hcl : cl = [] ∨ ∃ c, cl = [(("__class__" : Str), c)] ∧ dataIn g.K c = some (.cell (some (.ref g.cls)))) (hd : match dfl with
    | none => (fdIn g.K a).defaults = .none
    | some v => ∃ T n, (fdIn g.K a).defaults = .ref T ∧ dataIn g.K T = some (.seq #[v] n)) : MDef g name a st (fdIn g.K a) dfl := by
  refine ⟨m.is.fd gd, ⟨m.find, m.typ, m.ne⟩, m.is.pars, m.is.body, m.is.scop, hc ▸ hcl.imp id fun ⟨c, h1, h2⟩ => ⟨c, h1, cell_at gd h2⟩, fun y hy e => ?_, m.uniq, ?_, m.is.kwd⟩
  · exact absurd (List.all_eq_true.mp m.cells y hy) (by rw [e]; decide)
  · cases dfl with
    | none => exact hd
    | some v => exact hd.elim fun T h => h.elim fun n h => (data_at gd h.2).elim fun o k => ⟨T, o, n, h.1, k.1, k.2.1, k.2.2⟩

theorem sup_of {cc : Addr} (gd : Gd g) (hc : (fdIn g.K a).closure = [(("__class__" : Str), cc)]) (hcc : dataIn g.K cc = some (.cell (some (.ref g.cls)))) (e1 : (fdIn g.K a).code = .ref c) (e2 : dataIn g.K c = some (.fields (valsIn g.K c))) (e3 : (valsIn g.K c)[2]? = some (.str g.prog.main.file t))
    (ht : (g.prog.main.scope.names.lookup ("super" : Str)).isSome = false) (h1 : g.mg "super" = none) (h2 : g.mb "super" = some (.type "super")) : SupC g (fdIn g.K a) :=
  ⟨⟨cc, hc, cell_at gd hcc⟩, (data_at gd e2).elim fun o h => ⟨c, o, _, t, e1, h.1, h.2.2, h.2.1, e3⟩, ht, h1, h2⟩
theorem gen_of {code : Value} {P : Addr} (gd : Gd g) (e : code = .ref c) (eh : codeHdIn g.K c P = true) (ek : dataIn g.K c = some (.fields (valsIn g.K c))) (hP : P ∈ g.tabs) (ht : g.hB.get? P = some (tabObj #[])) : GenDef g code :=
  ⟨c, P, #[], e, hP, (data_at gd ek).elim fun _ h => h.2.2, (codeHd_of_K gd.kin eh).code ht trivial⟩

def isS : Value → Bool
  | .str _ _ => true
  | _ => false
theorem isS_of {v : Value} (h : isS v = true) : ∃ x t, v = .str x t := by
  cases v with
  | str x t => exact ⟨x, t, rfl⟩
  | _ => cases h
/-- a namespace of the fragment -/
theorem ns_of {N : Addr} {n : Nat} (gd : Gd g) (e : dataIn g.K N = some (.dict (entsIn g.K N) n)) (ek : (entsIn g.K N).toList.all (fun e => isS e.key) = true) : ∃ m, g.hB.Ns N m ∧ (∀ name r, nsIn g.K N name = some r → m name = r) ∧ N ∉ g.tabs := by
  obtain ⟨o, h⟩ := data_at gd e
  have hn : g.hB.Ns N (nsFind (entsIn g.K N)) := ⟨o, _, _, h.1, h.2.1, fun en hen => isS_of (List.all_eq_true.mp ek en (Array.mem_toList_iff.mpr hen)), fun _ => rfl⟩
  exact ⟨_, hn, fun name r hr => mg_of gd.kin hn hr, h.2.2⟩
end
end Mine
end

-- part Hd
section
open PySem PySem.W PyProof.Rows
set_option maxRecDepth 100000
set_option maxHeartbeats 8000000
namespace Mine
local macro_rules | `(tactic| o_head (kmHook $k $a $e $ts)) => `(tactic| o_head (kmHook $k $a $e [84, 91, 149] : Hook))
open_top hd for PySem.Challenge.rw_rs0053_01
end Mine
end

-- part P26
section
set_option maxRecDepth 100000
namespace Mine
open PySem PySem.W PyProof.Rows

theorem k_d147 (P : Params) : Def (hd.heap_39 P) 147 (stm 6) 146 501 := ⟨by kernel_rfl, by kernel_rfl, by kernel_rfl, by kernel_rfl, by kernel_rfl, by kernel_rfl⟩
theorem k_g147 (P : Params) : nsIn (hd.heap_39 P) 3 "fmean" = some (some (.ref 147)) := by kernel_rfl
theorem k_e147 (P : Params) : ((fdIn (hd.heap_39 P) 147).closure, (fdIn (hd.heap_39 P) 147).defaults) = ([], .ref 140) := by kernel_rfl
theorem k_d154 (P : Params) : Def (hd.heap_39 P) 154 (stm 7) 153 514 := ⟨by kernel_rfl, by kernel_rfl, by kernel_rfl, by kernel_rfl, by kernel_rfl, by kernel_rfl⟩
theorem k_g154 (P : Params) : nsIn (hd.heap_39 P) 3 "covariance" = some (some (.ref 154)) := by kernel_rfl
theorem k_e154 (P : Params) : ((fdIn (hd.heap_39 P) 154).closure, (fdIn (hd.heap_39 P) 154).defaults) = ([], .none) := by kernel_rfl
theorem k_d161 (P : Params) : Def (hd.heap_39 P) 161 (stm 9) 160 528 := ⟨by kernel_rfl, by kernel_rfl, by kernel_rfl, by kernel_rfl, by kernel_rfl, by kernel_rfl⟩
theorem k_g161 (P : Params) : nsIn (hd.heap_39 P) 3 "_law_deeds" = some (some (.ref 161)) := by kernel_rfl
theorem k_e161 (P : Params) : ((fdIn (hd.heap_39 P) 161).closure, (fdIn (hd.heap_39 P) 161).defaults) = ([], .none) := by kernel_rfl
theorem k_d166 (P : Params) : Def (hd.heap_39 P) 166 (stm 10) 165 541 := ⟨by kernel_rfl, by kernel_rfl, by kernel_rfl, by kernel_rfl, by kernel_rfl, by kernel_rfl⟩
theorem k_g166 (P : Params) : nsIn (hd.heap_39 P) 3 "_law_ways" = some (some (.ref 166)) := by kernel_rfl
theorem k_e166 (P : Params) : ((fdIn (hd.heap_39 P) 166).closure, (fdIn (hd.heap_39 P) 166).defaults) = ([], .none) := by kernel_rfl
theorem k_d173 (P : Params) : Def (hd.heap_39 P) 173 (stm 11) 172 547 := ⟨by kernel_rfl, by kernel_rfl, by kernel_rfl, by kernel_rfl, by kernel_rfl, by kernel_rfl⟩
theorem k_g173 (P : Params) : nsIn (hd.heap_39 P) 3 "_law_places" = some (some (.ref 173)) := by kernel_rfl
theorem k_e173 (P : Params) : ((fdIn (hd.heap_39 P) 173).closure, (fdIn (hd.heap_39 P) 173).defaults) = ([], .none) := by kernel_rfl
theorem k_d180 (P : Params) : Def (hd.heap_39 P) 180 (stm 12) 179 559 := ⟨by kernel_rfl, by kernel_rfl, by kernel_rfl, by kernel_rfl, by kernel_rfl, by kernel_rfl⟩
theorem k_g180 (P : Params) : nsIn (hd.heap_39 P) 3 "_law_go" = some (some (.ref 180)) := by kernel_rfl
theorem k_e180 (P : Params) : ((fdIn (hd.heap_39 P) 180).closure, (fdIn (hd.heap_39 P) 180).defaults) = ([], .none) := by kernel_rfl
theorem k_d187 (P : Params) : Def (hd.heap_39 P) 187 (stm 13) 186 572 := ⟨by kernel_rfl, by kernel_rfl, by kernel_rfl, by kernel_rfl, by kernel_rfl, by kernel_rfl⟩
theorem k_g187 (P : Params) : nsIn (hd.heap_39 P) 3 "_law_line" = some (some (.ref 187)) := by kernel_rfl
theorem k_e187 (P : Params) : ((fdIn (hd.heap_39 P) 187).closure, (fdIn (hd.heap_39 P) 187).defaults) = ([], .none) := by kernel_rfl
theorem k_d192 (P : Params) : Def (hd.heap_39 P) 192 (stm 14) 191 590 := ⟨by kernel_rfl, by kernel_rfl, by kernel_rfl, by kernel_rfl, by kernel_rfl, by kernel_rfl⟩
theorem k_g192 (P : Params) : nsIn (hd.heap_39 P) 3 "_law_spread" = some (some (.ref 192)) := by kernel_rfl
theorem k_e192 (P : Params) : ((fdIn (hd.heap_39 P) 192).closure, (fdIn (hd.heap_39 P) 192).defaults) = ([], .none) := by kernel_rfl
theorem k_d199 (P : Params) : Def (hd.heap_39 P) 199 (stm 15) 198 596 := ⟨by kernel_rfl, by kernel_rfl, by kernel_rfl, by kernel_rfl, by kernel_rfl, by kernel_rfl⟩
theorem k_g199 (P : Params) : nsIn (hd.heap_39 P) 3 "_law_told" = some (some (.ref 199)) := by kernel_rfl
theorem k_e199 (P : Params) : ((fdIn (hd.heap_39 P) 199).closure, (fdIn (hd.heap_39 P) 199).defaults) = ([], .none) := by kernel_rfl
theorem k_d204 (P : Params) : Def (hd.heap_39 P) 204 (stm 16) 203 604 := ⟨by kernel_rfl, by kernel_rfl, by kernel_rfl, by kernel_rfl, by kernel_rfl, by kernel_rfl⟩
theorem k_g204 (P : Params) : nsIn (hd.heap_39 P) 3 "law" = some (some (.ref 204)) := by kernel_rfl
theorem k_e204 (P : Params) : ((fdIn (hd.heap_39 P) 204).closure, (fdIn (hd.heap_39 P) 204).defaults) = ([], .none) := by kernel_rfl
theorem k_d59 (P : Params) : Def (hd.heap_39 P) 59 (cst 0) 58 398 := ⟨by kernel_rfl, by kernel_rfl, by kernel_rfl, by kernel_rfl, by kernel_rfl, by kernel_rfl⟩
theorem k_m59 (P : Params) : MOk (hd.heap_39 P) 122 "__init__" 59 (cst 0) 58 398 := ⟨k_d59 P, by kernel_rfl, by kernel_rfl, by decide +kernel, by kernel_rfl, by decide +kernel⟩
theorem k_e59 (P : Params) : (fdIn (hd.heap_39 P) 59).defaults = .ref 51 := by kernel_rfl
theorem k_c59 (P : Params) : (fdIn (hd.heap_39 P) 59).closure = [(("__class__" : Str), 46)] := by kernel_rfl
theorem k_f59 (P : Params) : (valsIn (hd.heap_39 P) 58)[2]? = some (.str PySem.Challenge.pw_rs0053_01.main.file 399) := by kernel_rfl
theorem k_d66 (P : Params) : Def (hd.heap_39 P) 66 (cst 1) 65 407 := ⟨by kernel_rfl, by kernel_rfl, by kernel_rfl, by kernel_rfl, by kernel_rfl, by kernel_rfl⟩
theorem k_m66 (P : Params) : MOk (hd.heap_39 P) 122 "push" 66 (cst 1) 65 407 := ⟨k_d66 P, by kernel_rfl, by kernel_rfl, by decide +kernel, by kernel_rfl, by decide +kernel⟩
theorem k_e66 (P : Params) : (fdIn (hd.heap_39 P) 66).defaults = .none := by kernel_rfl
theorem k_c66 (P : Params) : (fdIn (hd.heap_39 P) 66).closure = [] := by kernel_rfl
theorem k_d74 (P : Params) : Def (hd.heap_39 P) 74 (cst 2) 73 417 := ⟨by kernel_rfl, by kernel_rfl, by kernel_rfl, by kernel_rfl, by kernel_rfl, by kernel_rfl⟩
theorem k_m74 (P : Params) : MOk (hd.heap_39 P) 122 "pop_from" 74 (cst 2) 73 417 := ⟨k_d74 P, by kernel_rfl, by kernel_rfl, by decide +kernel, by kernel_rfl, by decide +kernel⟩
theorem k_e74 (P : Params) : (fdIn (hd.heap_39 P) 74).defaults = .ref 67 := by kernel_rfl
theorem k_c74 (P : Params) : (fdIn (hd.heap_39 P) 74).closure = [] := by kernel_rfl
theorem k_d82 (P : Params) : Def (hd.heap_39 P) 82 (cst 3) 81 426 := ⟨by kernel_rfl, by kernel_rfl, by kernel_rfl, by kernel_rfl, by kernel_rfl, by kernel_rfl⟩
theorem k_m82 (P : Params) : MOk (hd.heap_39 P) 122 "pop" 82 (cst 3) 81 426 := ⟨k_d82 P, by kernel_rfl, by kernel_rfl, by decide +kernel, by kernel_rfl, by decide +kernel⟩
theorem k_e82 (P : Params) : (fdIn (hd.heap_39 P) 82).defaults = .none := by kernel_rfl
theorem k_c82 (P : Params) : (fdIn (hd.heap_39 P) 82).closure = [(("__class__" : Str), 46)] := by kernel_rfl
theorem k_f82 (P : Params) : (valsIn (hd.heap_39 P) 81)[2]? = some (.str PySem.Challenge.pw_rs0053_01.main.file 427) := by kernel_rfl
theorem k_d89 (P : Params) : Def (hd.heap_39 P) 89 (cst 4) 88 434 := ⟨by kernel_rfl, by kernel_rfl, by kernel_rfl, by kernel_rfl, by kernel_rfl, by kernel_rfl⟩
theorem k_m89 (P : Params) : MOk (hd.heap_39 P) 122 "__len__" 89 (cst 4) 88 434 := ⟨k_d89 P, by kernel_rfl, by kernel_rfl, by decide +kernel, by kernel_rfl, by decide +kernel⟩
theorem k_e89 (P : Params) : (fdIn (hd.heap_39 P) 89).defaults = .none := by kernel_rfl
theorem k_c89 (P : Params) : (fdIn (hd.heap_39 P) 89).closure = [] := by kernel_rfl
theorem k_d96 (P : Params) : Def (hd.heap_39 P) 96 (cst 5) 95 441 := ⟨by kernel_rfl, by kernel_rfl, by kernel_rfl, by kernel_rfl, by kernel_rfl, by kernel_rfl⟩
theorem k_m96 (P : Params) : MOk (hd.heap_39 P) 122 "__str__" 96 (cst 5) 95 441 := ⟨k_d96 P, by kernel_rfl, by kernel_rfl, by decide +kernel, by kernel_rfl, by decide +kernel⟩
theorem k_e96 (P : Params) : (fdIn (hd.heap_39 P) 96).defaults = .none := by kernel_rfl
theorem k_c96 (P : Params) : (fdIn (hd.heap_39 P) 96).closure = [] := by kernel_rfl
theorem k_d104 (P : Params) : Def (hd.heap_39 P) 104 (cst 6) 103 448 := ⟨by kernel_rfl, by kernel_rfl, by kernel_rfl, by kernel_rfl, by kernel_rfl, by kernel_rfl⟩
theorem k_m104 (P : Params) : MOk (hd.heap_39 P) 122 "reset" 104 (cst 6) 103 448 := ⟨k_d104 P, by kernel_rfl, by kernel_rfl, by decide +kernel, by kernel_rfl, by decide +kernel⟩
theorem k_e104 (P : Params) : (fdIn (hd.heap_39 P) 104).defaults = .ref 97 := by kernel_rfl
theorem k_c104 (P : Params) : (fdIn (hd.heap_39 P) 104).closure = [] := by kernel_rfl
theorem k_d111 (P : Params) : Def (hd.heap_39 P) 111 (cst 7) 110 456 := ⟨by kernel_rfl, by kernel_rfl, by kernel_rfl, by kernel_rfl, by kernel_rfl, by kernel_rfl⟩
theorem k_m111 (P : Params) : MOk (hd.heap_39 P) 122 "is_onlyws" 111 (cst 7) 110 456 := ⟨k_d111 P, by kernel_rfl, by kernel_rfl, by decide +kernel, by kernel_rfl, by decide +kernel⟩
theorem k_e111 (P : Params) : (fdIn (hd.heap_39 P) 111).defaults = .none := by kernel_rfl
theorem k_c111 (P : Params) : (fdIn (hd.heap_39 P) 111).closure = [] := by kernel_rfl
theorem k_d119 (P : Params) : Def (hd.heap_39 P) 119 (cst 8) 118 463 := ⟨by kernel_rfl, by kernel_rfl, by kernel_rfl, by kernel_rfl, by kernel_rfl, by kernel_rfl⟩
theorem k_m119 (P : Params) : MOk (hd.heap_39 P) 122 "part_count" 119 (cst 8) 118 463 := ⟨k_d119 P, by kernel_rfl, by kernel_rfl, by decide +kernel, by kernel_rfl, by decide +kernel⟩
theorem k_e119 (P : Params) : (fdIn (hd.heap_39 P) 119).defaults = .none := by kernel_rfl
theorem k_c119 (P : Params) : (fdIn (hd.heap_39 P) 119).closure = [(("__class__" : Str), 46)] := by kernel_rfl
theorem k_f119 (P : Params) : (valsIn (hd.heap_39 P) 118)[2]? = some (.str PySem.Challenge.pw_rs0053_01.main.file 464) := by kernel_rfl
theorem k_s51 (P : Params) : dataIn (hd.heap_39 P) 51 = some (.seq #[.int 0 396] 0) := by kernel_rfl
theorem k_s67 (P : Params) : dataIn (hd.heap_39 P) 67 = some (.seq #[.int 0 415] 0) := by kernel_rfl
theorem k_s97 (P : Params) : dataIn (hd.heap_39 P) 97 = some (.seq #[.none] 0) := by kernel_rfl
theorem k_s140 (P : Params) : dataIn (hd.heap_39 P) 140 = some (.seq #[.none] 0) := by kernel_rfl
theorem k_s46 (P : Params) : dataIn (hd.heap_39 P) 46 = some (.cell (some (.ref 122))) := by kernel_rfl

/-- the ground of this law's call -/
noncomputable abbrev gG (w : World) (hB : Heap) (os : OsState) (mg mb : Str → Option Value) : G := ⟨PySem.Challenge.pw_rs0053_01, w, hB, os, [84, 91, 149], 122, mg, mb, hd.heap_39 w.params⟩

theorem k_keys (P : Params) : ∀ a o, (hd.heap_39 P).lookup a = some o → a ∉ [84, 91, 149] := by
  intro a o h hm
  have h84 : (hd.heap_39 P).lookup 84 = none := by kernel_rfl
  have h91 : (hd.heap_39 P).lookup 91 = none := by kernel_rfl
  have h149 : (hd.heap_39 P).lookup 149 = none := by kernel_rfl
  simp only [List.mem_cons, List.not_mem_nil, or_false] at hm
  rcases hm with rfl | rfl | rfl
  · rw [h84] at h; cases h
  · rw [h91] at h; cases h
  · rw [h149] at h; cases h

section
variable {w : World} {hB : Heap} {os : OsState} {mg mb : Str → Option Value}

theorem gd_of {p : Program} {loose : List Str} {mean : ExcName → Option Value} (T : Top p loose mean mg mb hB) (X : (hd.heap_39 w.params).In hB) (ht : ∀ P ∈ [84, 91, 149], hB.get? P = some (tabObj #[])) : Gd (gG w hB os mg mb) := by
  have hc : ∀ P ∈ [84, 91, 149], isCodeTable hB P := by
    intro P hP
    have h := ht P hP
    simp only [List.mem_cons, List.not_mem_nil, or_false] at hP
    rcases hP with rfl | rfl | rfl
    · exact ((codeHd_of_K (c := 88) X (by kernel_rfl)).tab h).isCodeTable
    · exact ((codeHd_of_K (c := 95) X (by kernel_rfl)).tab h).isCodeTable
    · exact ((codeHd_of_K (c := 153) X (by kernel_rfl)).tab h).isCodeTable
  refine ⟨T.g, T.b, T.nolimit, by show mainGlobals ∉ ([84, 91, 149] : List Addr) ∧ builtinsNs ∉ ([84, 91, 149] : List Addr) ∧ cStatics ∉ ([84, 91, 149] : List Addr); decide, fun b hb => ⟨_, ht b hb⟩, X, k_keys _, hc, ?_⟩
  obtain ⟨bm, ob, h1, h2, h3, h4, h5, h6⟩ := T.bmain
  refine ⟨bm, ob, h1, h2, h3, h4, h5, h6, fun hm => ?_⟩
  have := ht bm hm
  rw [h3] at this
  cases this
  cases h4

theorem mg_k (G : Gd (gG w hB os mg mb)) {name : Str} {r : Option Value} (e : nsIn (hd.heap_39 w.params) 3 name = some r) : mg name = r := mg_of G.kin G.gl e

theorem gn_of (G : Gd (gG w hB os mg mb)) (hb : ∀ x : Str, x ≠ "__name__" → mb x = bootBuiltins x) : Gn (gG w hB os mg mb) :=
  ⟨⟨mg_k G (by kernel_rfl), (hb _ (by decide +kernel)).trans (by kernel_rfl)⟩, ⟨mg_k G (by kernel_rfl), (hb _ (by decide +kernel)).trans (by kernel_rfl)⟩,
   ⟨mg_k G (by kernel_rfl), (hb _ (by decide +kernel)).trans (by kernel_rfl)⟩, ⟨382, mg_k G (by kernel_rfl)⟩⟩

theorem k_cls (P : Params) : (hd.heap_39 P).lookup 122 = some ⟨.type "type", none, .cls { name := "_Accumulator", bases := [.type "list"], mro := [.ref 122, .type "list", .type "object"], ns := 121, qualname := "_Accumulator" }, #[some (.ref 43), none, some (.str "_Accumulator" 384), some (.str "_Accumulator" 392), some (.builtin "list.__new__"), some (.bool true)]⟩ := by kernel_rfl
theorem k_clsIn (P : Params) : clsIn (hd.heap_39 P) 122 = some { name := "_Accumulator", bases := [.type "list"], mro := [.ref 122, .type "list", .type "object"], ns := 121, qualname := "_Accumulator" } := by kernel_rfl
theorem accC_of : AccC (gG w hB os mg mb) := ⟨⟨_, k_clsIn _, rfl, rfl⟩, by kernel_rfl, by kernel_rfl, by kernel_rfl, by kernel_rfl⟩
theorem accS_of : AccS (gG w hB os mg mb) := ⟨accC_of, by kernel_rfl, by kernel_rfl, by kernel_rfl, by kernel_rfl⟩
theorem accT_of : AccT (gG w hB os mg mb) := ⟨accS_of, fun cd h => by
  have := (k_clsIn w.params).symm.trans h
  cases this
  decide +kernel, by kernel_rfl, by kernel_rfl⟩
theorem accN_of : AccN (gG w hB os mg mb) := ⟨accT_of, ⟨_, _, _, _, k_cls _, rfl, rfl, rfl⟩, by kernel_rfl, by kernel_rfl⟩

theorem supC_of (G : Gd (gG w hB os mg mb)) (hb : ∀ x : Str, x ≠ "__name__" → mb x = bootBuiltins x) {a c : Addr} {t t' : Tok} {st : Stmt} (d : Def (hd.heap_39 w.params) a st c t') (hc : (fdIn (hd.heap_39 w.params) a).closure = [(("__class__" : Str), 46)]) (hf : (valsIn (hd.heap_39 w.params) c)[2]? = some (.str PySem.Challenge.pw_rs0053_01.main.file t)) : SupC (gG w hB os mg mb) (fdIn (hd.heap_39 w.params) a) :=
  sup_of G hc (k_s46 _) d.code d.vals hf (by show (PySem.Challenge.pw_rs0053_01.main.scope.names.lookup ("super" : Str)).isSome = false; kernel_rfl) (mg_k G (by kernel_rfl)) ((hb _ (by decide +kernel)).trans (by kernel_rfl))
theorem clo_s (w : World) : ([(("__class__" : Str), 46)] : List (Str × Addr)) = [] ∨ ∃ c, ([(("__class__" : Str), 46)] : List (Str × Addr)) = [(("__class__" : Str), c)] ∧ dataIn (hd.heap_39 w.params) c = some (.cell (some (.ref 122))) := .inr ⟨46, rfl, k_s46 _⟩

theorem cls_of (G : Gd (gG w hB os mg mb)) (hb : ∀ x : Str, x ≠ "__name__" → mb x = bootBuiltins x) (ht : ∀ P ∈ [84, 91, 149], hB.get? P = some (tabObj #[])) : Cls (gG w hB os mg mb) where
  N := accN_of
  gn := gn_of G hb
  app := by kernel_rfl
  boo := by kernel_rfl
  alI := by kernel_rfl
  alL := by kernel_rfl
  alP := by kernel_rfl
  m0 := ⟨59, _, 396, (k_m59 w.params).mdef (g := gG w hB os mg mb) G (k_c59 _) (clo_s w) ⟨51, 0, k_e59 _, k_s51 _⟩, supC_of G hb (k_d59 _) (k_c59 _) (k_f59 _)⟩
  m1 := ⟨66, _, (k_m66 w.params).mdef (g := gG w hB os mg mb) G (k_c66 _) (.inl rfl) (k_e66 _)⟩
  m2 := ⟨74, _, 415, (k_m74 w.params).mdef (g := gG w hB os mg mb) G (k_c74 _) (.inl rfl) ⟨67, 0, k_e74 _, k_s67 _⟩⟩
  m3 := ⟨82, _, (k_m82 w.params).mdef (g := gG w hB os mg mb) G (k_c82 _) (clo_s w) (k_e82 _), supC_of G hb (k_d82 _) (k_c82 _) (k_f82 _)⟩
  m4 := ⟨89, _, (k_m89 w.params).mdef (g := gG w hB os mg mb) G (k_c89 _) (.inl rfl) (k_e89 _), gen_of (g := gG w hB os mg mb) (P := 84) G (k_d89 w.params).code (by kernel_rfl) (k_d89 w.params).vals (by show 84 ∈ [84, 91, 149]; decide) (ht _ (by decide))⟩
  m5 := ⟨96, _, (k_m96 w.params).mdef (g := gG w hB os mg mb) G (k_c96 _) (.inl rfl) (k_e96 _), gen_of (g := gG w hB os mg mb) (P := 91) G (k_d96 w.params).code (by kernel_rfl) (k_d96 w.params).vals (by show 91 ∈ [84, 91, 149]; decide) (ht _ (by decide))⟩
  m6 := ⟨104, _, (k_m104 w.params).mdef (g := gG w hB os mg mb) G (k_c104 _) (.inl rfl) ⟨97, 0, k_e104 _, k_s97 _⟩⟩
  m7 := ⟨111, _, (k_m111 w.params).mdef (g := gG w hB os mg mb) G (k_c111 _) (.inl rfl) (k_e111 _)⟩
  m8 := ⟨119, _, (k_m119 w.params).mdef (g := gG w hB os mg mb) G (k_c119 _) (clo_s w) (k_e119 _), supC_of G hb (k_d119 _) (k_c119 _) (k_f119 _)⟩
  own := mg_k G (by kernel_rfl)

theorem k_err (P : Params) : (hd.heap_39 P).lookup 136 = some (excClassObj "StatisticsError" "StatisticsError" 136 135 [.type "ValueError"] vbm true [] [] false none none (some (.ref 127)) none (some (.str "StatisticsError" 482)) (some (.str "StatisticsError" 490)) (some (.bool true)) "ValueError.__new__") := by kernel_rfl
theorem serr_of (G : Gd (gG w hB os mg mb)) : SErr (gG w hB os mg mb) 136 := by
  obtain ⟨m, h1, h2, h3⟩ := ns_of (N := 135) (n := 3) G (by kernel_rfl) (by kernel_rfl)
  exact ⟨⟨_, _, _, _, _, _, _, _, _, _, _, _, _, _, _, m, G.kin _ _ (k_err _), h1, h3, h2 _ _ (by kernel_rfl), h2 _ _ (by kernel_rfl)⟩, by show 136 ∉ [84, 91, 149]; decide, mg_k G (by kernel_rfl)⟩

theorem told_of (G : Gd (gG w hB os mg mb)) (hb : ∀ x : Str, x ≠ "__name__" → mb x = bootBuiltins x) (ht : ∀ P ∈ [84, 91, 149], hB.get? P = some (tabObj #[])) : Told (gG w hB os mg mb) 136 where
  gn := gn_of G hb
  err := serr_of G
  fsum := mg_k G (by kernel_rfl)
  sp := mg_k G (by kernel_rfl)
  fm := ⟨147, _, mg_k G (k_g147 _), (k_d147 w.params).dd (g := gG w hB os mg mb) G (k_e147 _) (k_s140 _)⟩
  cov := ⟨154, _, mg_k G (k_g154 _), (k_d154 w.params).is (g := gG w hB os mg mb) G (k_e154 _), gen_of (g := gG w hB os mg mb) (P := 149) G (k_d154 w.params).code (by kernel_rfl) (k_d154 w.params).vals (by show 149 ∈ [84, 91, 149]; decide) (ht _ (by decide))⟩

theorem all_of (G : Gd (gG w hB os mg mb)) (hb : ∀ x : Str, x ≠ "__name__" → mb x = bootBuiltins x) (ht : ∀ P ∈ [84, 91, 149], hB.get? P = some (tabObj #[])) : All (gG w hB os mg mb) 136 where
  cls := cls_of G hb ht
  told := told_of G hb ht
  deeds := ⟨161, _, mg_k G (k_g161 _), (k_d161 w.params).is (g := gG w hB os mg mb) G (k_e161 _)⟩
  ways := ⟨166, _, mg_k G (k_g166 _), (k_d166 w.params).is (g := gG w hB os mg mb) G (k_e166 _)⟩
  places := ⟨173, _, mg_k G (k_g173 _), (k_d173 w.params).is (g := gG w hB os mg mb) G (k_e173 _)⟩
  go := ⟨180, _, mg_k G (k_g180 _), (k_d180 w.params).is (g := gG w hB os mg mb) G (k_e180 _)⟩
  line := ⟨187, _, mg_k G (k_g187 _), (k_d187 w.params).is (g := gG w hB os mg mb) G (k_e187 _)⟩
  spread := ⟨192, _, mg_k G (k_g192 _), (k_d192 w.params).is (g := gG w hB os mg mb) G (k_e192 _)⟩
  said := ⟨199, _, mg_k G (k_g199 _), (k_d199 w.params).is (g := gG w hB os mg mb) G (k_e199 _)⟩
  range := ⟨mg_k G (by kernel_rfl), (hb _ (by decide +kernel)).trans (by kernel_rfl)⟩
  max := ⟨mg_k G (by kernel_rfl), (hb _ (by decide +kernel)).trans (by kernel_rfl)⟩
  min := ⟨mg_k G (by kernel_rfl), (hb _ (by decide +kernel)).trans (by kernel_rfl)⟩
  inst := ⟨mg_k G (by kernel_rfl), (hb _ (by decide +kernel)).trans (by kernel_rfl)⟩
  float := ⟨mg_k G (by kernel_rfl), (hb _ (by decide +kernel)).trans (by kernel_rfl)⟩
end
end Mine
end

-- part P27
section
set_option maxRecDepth 100000
namespace Mine
open PySem PySem.W PyProof.Rows

theorem vals_ints {g : G} {θ : Th} {h : Heap} {P : Params} : ∀ {ns : List Int} {vs : List Value}, WellAll P h vs (ofPys (ns.map PyData.int)) → Vals g θ h vs (iL ns)
  | [], _, w => by cases w; exact .nil
  | n :: r, _, w => by
    cases w with
    | cons a b =>
      cases a
      exact .cons (.int _ _) (vals_ints b)

/-- the script, as the call finds it -/
theorem val_ints {g : G} {h : Heap} {P : Params} {v : Value} {ns : List Int} (ht : ∀ P ∈ g.tabs, h.get? P = some (tabObj #[])) (w : Well P h v (ofPy (PyData.list (ns.map PyData.int)))) : Val g [] h v (.list (iL ns)) := by
  cases w with
  | list e r =>
    refine .list (n := 0) e (fun hm => ?_) (vals_ints r)
    rcases List.mem_append.mp hm with q | q
    · rw [ht _ q] at e
      cases e
    · cases q

theorem wld_of {w : World} {s : Shared} {mg mb : Str → Option Value} (G : Gd (gG w s.heap s.os mg mb)) (hg : s.gens = #[]) (ht : ∀ P ∈ [84, 91, 149], s.heap.get? P = some (tabObj #[])) : Wld (gG w s.heap s.os mg mb) [] [] s :=
  ⟨.refl _, fun _ _ _ e => e, G, rfl, .of_eq hg, (fun _ h => nomatch h), .nil, rfl, fun P hP => ⟨#[], ht P hP, trivial⟩, fun i p mo e => by cases e⟩

theorem fit0 : Fit 50 callerA := ⟨rfl, by decide +kernel, by decide +kernel⟩

/-- the law's call -/
theorem law_done {w : World} {s : Shared} {mg mb : Str → Option Value} {p : Program} {loose : List Str} {mean : ExcName → Option Value} (T : Top p loose mean mg mb s.heap) (X : (hd.heap_39 w.params).In s.heap) (ht : ∀ P ∈ [84, 91, 149], s.heap.get? P = some (tabObj #[])) (hg : s.gens = #[])
    {fa : Addr} (hf : mg "law" = some (.ref fa)) {v : Value} {ns : List Int} (hv : Well w.params s.heap v (ofPy (PyData.list (ns.map PyData.int)))) (hz : ns.length ≤ 63) {Q : Value → Shared → Prop} {E : Value → Shared → Prop}
    (q : ∀ s', OldK s.heap s'.heap → s'.os = s.os → AllBare s'.gens → Q (.bool true) s') : wpAny (model PySem.Challenge.pw_rs0053_01 w) callerA (call (.ref fa) [v]) Q E s := by
  have G : Gd (gG w s.heap s.os mg mb) := gd_of T X ht
  have hfa := (mg_k G (k_g204 _)).symm.trans hf
  cases hfa
  exact law_call (g := gG w s.heap s.os mg mb) (SE := 136) (k := 39) fit0 rfl (all_of G T.builtins ht) ((k_d204 w.params).is (g := gG w s.heap s.os mg mb) G (k_e204 _)) (wld_of G hg ht) (val_ints ht hv) hz fun θ' s' W => q s' W.old W.os W.gens
end Mine
end

open PySem PySem.W PyProof.Rows
set_option maxRecDepth 100000 in
set_option maxHeartbeats 8000000 in
theorem PySem.Challenge.cw_rs0053_01_holds : PySem.Challenge.rw_rs0053_01.Holds := by
  refine Mine.hd ?_
  intro w s₀ s₁ mg mb G Y fa o pm cd doc dV kV ho hd hcd hD hmg hg args vals as hpre hlay hrd hwl hlo
  refine Ground.open G ?_
  intro T B D TE TW
  wrow_args hpre hlay hrd hwl hlo
  rename_i ns _ _ _ _ _ _ _ _ _ _ _ hw _ _ _ hz _
  refine Mine.law_done T (km_in_of Y) (km_tabs_of Y) hg hmg hw (by omega) fun s' h1 h2 h3 => ?_
  exact ⟨.inl ⟨_, _, [], rfl, fun _ => rfl, .bool true, by wrow_post, fun _ => ⟨.nil, fun _ h => nomatch h⟩⟩, h1, h2, h3⟩
