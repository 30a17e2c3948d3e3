import PyProof.Rows.All
import Wide.All
import OpenK.AllK
import Wide.FinOn
import PyProof.Walk
import PyProof.WalkLemmas
import KE.KNest
import KE.KLam
import KE.KDictIter
import KE.KFromBytes
import KE.KNestM
import KE.KSortTup
import KE.KSuperObj
import Lean
import PySem.Challenge.RW_qh0019_01
open PySem PySem.W PyProof.Rows
set_option Elab.async false
set_option maxRecDepth 100000
set_option linter.unusedVariables false
set_option linter.unusedSimpArgs false
set_option maxHeartbeats 4000000
set_option compiler.extract_closed false
namespace Mine
open PySem.Calls
section
set_option Elab.async false
set_option maxRecDepth 100000

open PySem.Calls

/-! data trees, and a value that bears one in a heap -/

inductive D where
  | none
  | bool (b : Bool)
  | int (i : Int)
  | str (s : Str)
  | bytes (b : Array UInt8)
  | raw (v : Value)
  | list (ds : List D)
  | tuple (ds : List D)

mutual
noncomputable def Rep (O : List Addr) (h : Heap) : D → Value → Prop
  | .none, v => v = .none
  | .bool b, v => v = .bool b
  | .int i, v => ∃ t, v = .int i t
  | .str x, v => ∃ t, v = .str x t
  | .bytes b, v => ∃ t, v = .bytes b t
  | .raw x, v => v = x
  | .list ds, v => ∃ a vs, v = .ref a ∧ a ∉ O ∧ h.IsList a (List.toArray vs) ∧ Reps O h ds vs
  | .tuple ds, v => ∃ a vs, v = .ref a ∧ a ∉ O ∧ h.IsTuple a (List.toArray vs) ∧ Reps O h ds vs
noncomputable def Reps (O : List Addr) (h : Heap) : List D → List Value → Prop
  | [], vs => vs = []
  | d :: ds, vs => ∃ v r, vs = v :: r ∧ Rep O h d v ∧ Reps O h ds r
end

theorem IsList.lt' {h : Heap} {a : Addr} {vs : Array Value} (x : h.IsList a vs) : ∃ o, h.get? a = some o := let ⟨o, e, _⟩ := x; ⟨o, e⟩
theorem IsTuple.lt' {h : Heap} {a : Addr} {vs : Array Value} (x : h.IsTuple a vs) : ∃ o, h.get? a = some o := let ⟨o, e, _⟩ := x; ⟨o, e⟩
theorem isTuple_at {h h' : Heap} {a items} (x : h.IsTuple a items) (e : ∀ o, h.get? a = some o → h'.get? a = some o) : h'.IsTuple a items := let ⟨o, ho, r⟩ := x; ⟨o, e _ ho, r⟩

section
variable {O O' : List Addr} {h h' : Heap}
mutual
theorem Rep.mono (hk : ∀ b o xs n, b ∉ O → o.data = .seq xs n → h.get? b = some o → h'.get? b = some o) (hO : ∀ a ∈ O', a ∈ O ∨ h.get? a = none) : ∀ (d : D) (v : Value), Rep O h d v → Rep O' h' d v
  | .none, v, r => by simpa [Rep] using r
  | .bool b, v, r => by simpa [Rep] using r
  | .int i, v, r => by simpa [Rep] using r
  | .str x, v, r => by simpa [Rep] using r
  | .bytes b, v, r => by simpa [Rep] using r
  | .raw x, v, r => by simpa [Rep] using r
  | .list ds, v, r => by
    rw [Rep] at r ⊢
    obtain ⟨a, vs, rfl, ha, hl, hr⟩ := r
    refine ⟨a, vs, rfl, fun q => ?_, (let ⟨o, e, c, n, q⟩ := hl; ⟨o, hk _ _ _ _ ha q e, c, n, q⟩), Reps.mono hk hO ds vs hr⟩
    rcases hO a q with q | q
    · exact ha q
    · obtain ⟨o, e⟩ := IsList.lt' hl; rw [q] at e; cases e
  | .tuple ds, v, r => by
    rw [Rep] at r ⊢
    obtain ⟨a, vs, rfl, ha, hl, hr⟩ := r
    refine ⟨a, vs, rfl, fun q => ?_, (let ⟨o, e, c, n, q⟩ := hl; ⟨o, hk _ _ _ _ ha q e, c, n, q⟩), Reps.mono hk hO ds vs hr⟩
    rcases hO a q with q | q
    · exact ha q
    · obtain ⟨o, e⟩ := IsTuple.lt' hl; rw [q] at e; cases e
theorem Reps.mono (hk : ∀ b o xs n, b ∉ O → o.data = .seq xs n → h.get? b = some o → h'.get? b = some o) (hO : ∀ a ∈ O', a ∈ O ∨ h.get? a = none) : ∀ (ds : List D) (vs : List Value), Reps O h ds vs → Reps O' h' ds vs
  | [], vs, r => by simpa [Reps] using r
  | d :: ds, vs, r => by
    rw [Reps] at r ⊢
    obtain ⟨v, t, rfl, h1, h2⟩ := r
    exact ⟨v, t, rfl, Rep.mono hk hO d v h1, Reps.mono hk hO ds t h2⟩
end
end

section
variable {O : List Addr} {h : Heap}
theorem Reps.nil : Reps O h [] [] := by rw [Reps]
theorem Reps.cons {d : D} {ds : List D} {v : Value} {vs : List Value} (h1 : Rep O h d v) (h2 : Reps O h ds vs) : Reps O h (d :: ds) (v :: vs) := by
  rw [Reps]; exact ⟨v, vs, rfl, h1, h2⟩
theorem Reps.length : ∀ {ds : List D} {vs : List Value}, Reps O h ds vs → vs.length = ds.length
  | [], vs, r => by rw [Reps] at r; subst r; rfl
  | d :: ds, vs, r => by
    rw [Reps] at r
    obtain ⟨v, t, rfl, _, h2⟩ := r
    simp [Reps.length h2]
theorem Reps.append : ∀ {ds es : List D} {vs us : List Value}, Reps O h ds vs → Reps O h es us → Reps O h (ds ++ es) (vs ++ us)
  | [], es, vs, us, r, q => by rw [Reps] at r; subst r; exact q
  | d :: ds, es, vs, us, r, q => by
    rw [Reps] at r
    obtain ⟨v, t, rfl, h1, h2⟩ := r
    exact Reps.cons h1 (Reps.append h2 q)
theorem Reps.get : ∀ {ds : List D} {vs : List Value} {i : Nat} {d : D}, Reps O h ds vs → ds[i]? = some d → ∃ v, vs[i]? = some v ∧ Rep O h d v
  | [], vs, i, d, r, e => by simp at e
  | d' :: ds, vs, i, d, r, e => by
    rw [Reps] at r
    obtain ⟨v, t, rfl, h1, h2⟩ := r
    cases i with
    | zero => simp at e; subst e; exact ⟨v, rfl, h1⟩
    | succ i => simp at e; simpa using Reps.get h2 e
theorem Reps.take : ∀ {ds : List D} {vs : List Value} (n : Nat), Reps O h ds vs → Reps O h (ds.take n) (vs.take n)
  | _, _, 0, _ => by simpa using Reps.nil
  | [], vs, n + 1, r => by rw [Reps] at r; subst r; simpa using Reps.nil
  | d :: ds, vs, n + 1, r => by
    rw [Reps] at r
    obtain ⟨v, t, rfl, h1, h2⟩ := r
    simpa using Reps.cons h1 (Reps.take n h2)
theorem Reps.drop : ∀ {ds : List D} {vs : List Value} (n : Nat), Reps O h ds vs → Reps O h (ds.drop n) (vs.drop n)
  | _, _, 0, r => by simpa using r
  | [], vs, n + 1, r => by rw [Reps] at r; subst r; simpa using Reps.nil
  | d :: ds, vs, n + 1, r => by
    rw [Reps] at r
    obtain ⟨v, t, rfl, h1, h2⟩ := r
    simpa using Reps.drop n h2
end

/-! the ground: the top's heap (its two tables of code hidden), and what a step keeps -/

noncomputable def tabs : List Addr := [125, 175]

structure GData where
  h : Heap
  mg : Str → Option Value
  mb : Str → Option Value
  g : h.Ns mainGlobals mg
  b : h.Ns builtinsNs mb
  nolimit : h.NoLimit
  nodigits : ∃ mc, h.Ns cStatics mc ∧ mc "sys.int_max_str_digits" = none
  notab : ∀ a ∈ tabs, h.get? a = none

noncomputable def kQ : Str := Str.ofString "cmp_to_key.<locals>.K"
/-- the six codes of the class -/
noncomputable def kCodes : List (Pos × Str) := [(⟨180, 8, 181, 26⟩, Str.ofString "cmp_to_key.<locals>.K.__init__"), (⟨183, 8, 184, 49⟩, Str.ofString "cmp_to_key.<locals>.K.__lt__"), (⟨186, 8, 187, 49⟩, Str.ofString "cmp_to_key.<locals>.K.__gt__"), (⟨189, 8, 190, 50⟩, Str.ofString "cmp_to_key.<locals>.K.__eq__"), (⟨192, 8, 193, 50⟩, Str.ofString "cmp_to_key.<locals>.K.__le__"), (⟨195, 8, 196, 50⟩, Str.ofString "cmp_to_key.<locals>.K.__ge__")]
/-- a code of the class, its table full -/
noncomputable def ClsCode (h : Heap) (v : Value) : Prop := ∃ c P ps, v = .ref c ∧ CodeHd h c P ∧ h.get? P = some (tabObj ps) ∧ TriplesOk ps.toList ∧ P ≠ 125 ∧ P ≠ 175 ∧ h.CodeRec (.ref c) kQ ∧ ∀ p ∈ kCodes, ∃ cv, codeAmong p.1 ps.toList = some cv ∧ h.CodeRec cv p.2
theorem ClsCode.keeps {h h' : Heap} {v : Value} (x : ClsCode h v) (k : ∀ b o, h.get? b = some o → h'.get? b = some o) : ClsCode h' v :=
  let ⟨c, P, ps, e, h1, h2, h3, h4, h4', h5, h6⟩ := x; ⟨c, P, ps, e, h1.keeps k, k _ _ h2, h3, h4, h4', h5.keeps k, fun p hp => let ⟨cv, e1, e2⟩ := h6 p hp; ⟨cv, e1, e2.keeps k⟩⟩
noncomputable def tabQual (P : Addr) : Str := if P = 125 then kQ else Str.ofString "_law_led.<locals>.<lambda>"

/-- what is known of the tables (their code objects are told with them) -/
noncomputable def TabAt (h : Heap) (P : Addr) : Prop :=
  ∃ ps, h.get? P = some (tabObj ps) ∧ TriplesOk ps.toList ∧ ∀ pos v, codeAmong pos ps.toList = some v → h.CodeRec v (tabQual P) ∧ (P = 125 → ClsCode h v)
noncomputable def TabOk (h : Heap) : Prop := ∀ P ∈ tabs, TabAt h P
theorem TabOk.of_kept {h h' : Heap} (t : TabOk h) (hT : ∀ P ∈ tabs, ∀ o, h.get? P = some o → h'.get? P = some o)
    (hk : ∀ b o vs, h.get? b = some o → o.data = .fields vs → (o.cls = .none ∨ ∃ q t, vs[1]? = some (.str q t)) → h'.get? b = some o) : TabOk h' := fun P hP => by
  have rec' : ∀ {v q}, h.CodeRec v q → h'.CodeRec v q := fun {v q} x => by
    obtain ⟨c, o, vs, t, e1, e2, e3, e4⟩ := x
    exact ⟨c, o, vs, t, e1, hk _ _ _ e2 e3 (.inr ⟨_, _, e4⟩), e3, e4⟩
  obtain ⟨ps, h1, h2, h3⟩ := t P hP
  refine ⟨ps, hT P hP _ h1, h2, fun pos v e => ⟨rec' (h3 pos v e).1, fun e5 => ?_⟩⟩
  obtain ⟨c, P', ps', rfl, k1, k2, k3, k4, k4', k5, k6⟩ := (h3 pos v e).2 e5
  refine ⟨c, P', ps', rfl, ?_, hk _ _ _ k2 rfl (.inl rfl), k3, k4, k4', rec' k5, fun p hp => let ⟨cv, a, b⟩ := k6 p hp; ⟨cv, a, rec' b⟩⟩
  obtain ⟨o, vs, file, tf, flags, tg, inF, text, tt, e1, e2, e3, r⟩ := k1
  obtain ⟨c₂, o₂, vs₂, t₂, a1, a2, a3, a4⟩ := k5
  cases a1
  rw [e1] at a2; cases a2
  rw [e3] at a3; cases a3
  exact ⟨o, vs, file, tf, flags, tg, inF, text, tt, hk _ _ _ e1 e3 (.inr ⟨_, _, a4⟩), e2, e3, r⟩
theorem TabOk.keeps {h h' : Heap} (t : TabOk h) (hk : ∀ b o, h.get? b = some o → h'.get? b = some o) : TabOk h' := t.of_kept (fun P _ o e => hk P o e) fun b o _ e _ _ => hk b o e

structure Step (s s' : Shared) : Prop where
  keep : ∀ b o, b ∉ tabs → s.heap.get? b = some o → s'.heap.get? b = some o
  tab : TabOk s.heap → TabOk s'.heap
  os : s'.os = s.os
  gens : ∃ l : List GenState, s'.gens = s.gens ++ l.toArray ∧ ∀ g ∈ l, g.bare = true

theorem Step.refl (s : Shared) : Step s s := ⟨fun _ _ _ e => e, id, rfl, [], by simp, by simp⟩
theorem Step.trans {a b c : Shared} (x : Step a b) (y : Step b c) : Step a c := by
  refine ⟨fun q o hq e => y.keep q o hq (x.keep q o hq e), fun t => y.tab (x.tab t), y.os.trans x.os, ?_⟩
  obtain ⟨l, e, hl⟩ := x.gens
  obtain ⟨l', e', hl'⟩ := y.gens
  refine ⟨l ++ l', by rw [e', e]; simp [Array.append_assoc], fun g hg => ?_⟩
  rcases List.mem_append.mp hg with q | q
  · exact hl g q
  · exact hl' g q
/-- a step that keeps every object, the rest as it stood -/
theorem Step.of_keeps {s : Shared} {h' : Heap} {tk : Nat} (hk : ∀ b o, s.heap.get? b = some o → h'.get? b = some o) : Step s { s with heap := h', toks := tk } :=
  ⟨fun b o _ e => hk b o e, fun t => t.keeps hk, rfl, [], by simp, by simp⟩
theorem Step.push {s : Shared} {o : Obj} : Step s { s with heap := s.heap.push o } := Step.of_keeps (tk := s.toks) fun _ _ e => Heap.get?_push_of_some _ e
theorem Step.toks {s : Shared} {tk : Nat} : Step s { s with toks := tk } := Step.of_keeps (h' := s.heap) fun _ _ e => e

structure GI (G : GData) (s : Shared) : Prop where
  keep : ∀ b o, G.h.get? b = some o → s.heap.get? b = some o
  tab : TabOk s.heap
theorem GI.step {G : GData} {s s' : Shared} (g : GI G s) (x : Step s s') : GI G s' :=
  ⟨fun b o e => x.keep b o (fun q => by rw [G.notab b q] at e; cases e) (g.keep b o e), x.tab g.tab⟩

structure OkO (O : List Addr) (h : Heap) : Prop where
  tabs : ∀ a ∈ tabs, a ∈ O
  there : ∀ a ∈ Mine.tabs, ∃ o, h.get? a = some o
  live : ∀ a ∈ O, a ∉ Mine.tabs → ∃ o xs n, h.get? a = some o ∧ o.data = .seq xs n
theorem TabOk.there {h : Heap} (t : TabOk h) : ∀ a ∈ tabs, ∃ o, h.get? a = some o := fun a ha => let ⟨_, h1, _⟩ := t a ha; ⟨_, h1⟩
theorem OkO.step {G : GData} {O : List Addr} {s s' : Shared} (x : OkO O s.heap) (g : GI G s) (st : Step s s') : OkO O s'.heap :=
  ⟨x.tabs, (st.tab g.tab).there, fun a ha q => by
    obtain ⟨o, xs, n, e, hd⟩ := x.live a ha q; exact ⟨o, xs, n, st.keep a o q e, hd⟩⟩
theorem OkO.fresh {O : List Addr} {h : Heap} (x : OkO O h) {a : Addr} (e : h.get? a = none) : a ∉ O := fun q => by
  by_cases z : a ∈ Mine.tabs
  · obtain ⟨o, e'⟩ := x.there a z; rw [e] at e'; cases e'
  · obtain ⟨o, _, _, e', _⟩ := x.live a q z; rw [e] at e'; cases e'
theorem get?_size (h : Heap) : h.get? h.objs.size = none := by
  cases e : h.get? h.objs.size with
  | none => rfl
  | some o => exact absurd (Heap.lt_size e) (Nat.lt_irrefl _)

theorem Rep.step {O : List Addr} {s s' : Shared} {d : D} {v : Value} (r : Rep O s.heap d v) (x : OkO O s.heap) (st : Step s s') : Rep O s'.heap d v :=
  Rep.mono (fun b o _ _ hb _ e => st.keep b o (fun q => hb (x.tabs b q)) e) (fun _ ha => .inl ha) d v r
theorem Reps.step {O : List Addr} {s s' : Shared} {d : List D} {v : List Value} (r : Reps O s.heap d v) (x : OkO O s.heap) (st : Step s s') : Reps O s'.heap d v :=
  Reps.mono (fun b o _ _ hb _ e => st.keep b o (fun q => hb (x.tabs b q)) e) (fun _ ha => .inl ha) d v r

noncomputable def Room (k : Nat) (A : Around) : Prop := A.handled = none ∧ A.depth + k < 990 ∧ A.units + 20 * k < 9800
theorem Room.depth {k : Nat} {A : Around} (r : Room k A) : A.depth < recursionLimit := by have := r.2.1; unfold recursionLimit; (first | lia | omega)
theorem Room.units {k : Nat} {A : Around} (r : Room k A) : A.units < cLine := by have := r.2.2; unfold cLine; (first | lia | omega)
theorem Room.deeper {k : Nat} {A : Around} {env : Env} (r : Room (k + 1) A) : Room k (A.deeper env) := by
  obtain ⟨h1, h2, h3⟩ := r
  refine ⟨h1, ?_, ?_⟩
  · show A.depth + 1 + k < 990; (first | lia | omega)
  · show A.units + 3 + 20 * k < 9800; (first | lia | omega)
theorem Room.in1 {k : Nat} {A : Around} (r : Room (k + 1) A) : Room k A.in1 := by
  obtain ⟨h1, h2, h3⟩ := r
  refine ⟨h1, ?_, ?_⟩
  · show A.depth + k < 990; (first | lia | omega)
  · show A.units + 1 + 20 * k < 9800; (first | lia | omega)
theorem Room.le {k k' : Nat} {A : Around} (r : Room k A) (h : k' ≤ k) : Room k' A := by
  obtain ⟨h1, h2, h3⟩ := r
  exact ⟨h1, by (first | lia | omega), by (first | lia | omega)⟩

/-! a frame: its variables as data, its own lists (that a turn grows) apart -/

structure Fm where
  env : Env
  O : List Addr
  W : List (Str × Addr)
  base : Shared
  kp : Shared → Prop
  ok : Addr → Prop

/-- what may be written while the frame keeps a place: names, cells, lists that are hidden -/
noncomputable def SeqStays (a : Addr) (h h' : Heap) : Prop := ∀ o xs n, h.get? a = some o → o.data = .seq xs n → ∃ o' xs' n', h'.get? a = some o' ∧ o'.data = .seq xs' n'
noncomputable def Own (F : Fm) (a : Addr) (h h' : Heap) : Prop :=
  F.ok a ∧ (∀ o, h.get? a = some o → (∀ vs, o.data ≠ .fields vs) ∧ (a ∉ F.O → ∀ xs n, o.data ≠ .seq xs n)) ∧ SeqStays a h h'

noncomputable def VarAt (env : Env) (h : Heap) (x : Str) (v : Value) : Prop :=
  (env.kindOf x = some .local ∧ ∃ m, h.Ns env.locals m ∧ m x = some v) ∨
  ((env.kindOf x = some .cell ∨ (env.kindOf x = some .free ∧ (x == ("__classdict__" : Str)) = false)) ∧ ∃ c, env.cells.lookup x = some c ∧ h.IsCell c (some v))

structure Inv (G : GData) (F : Fm) (ρ : List (Str × D)) (C : List (Addr × List D)) (s : Shared) : Prop where
  step : Step F.base s
  gb : GI G F.base
  okO : OkO F.O s.heap
  kind : F.env.scope.kind = .function
  glob : F.env.globals = mainGlobals
  blt : F.env.builtins = builtinsNs
  ns : ∃ m, s.heap.Ns F.env.locals m
  new : F.base.heap.get? F.env.locals = none
  offTab : F.env.locals ∉ tabs
  nd : (ρ.map (·.1)).Nodup
  vars : ∀ p ∈ ρ, ∃ v, VarAt F.env s.heap p.1 v ∧ Rep F.O s.heap p.2 v
  W : ∀ p ∈ F.W, F.env.kindOf p.1 = some .cell ∧ F.env.cells.lookup p.1 = some p.2 ∧ (∃ v, s.heap.IsCell p.2 v) ∧ F.base.heap.get? p.2 = none ∧ p.2 ∉ tabs
  apart : F.env.cells.Pairwise fun x y => x.2 ≠ y.2
  own : ∀ p ∈ C, p.1 ∈ F.O ∧ F.base.heap.get? p.1 = none ∧ p.1 ∉ tabs ∧ ∃ vs, s.heap.PlainList p.1 (List.toArray vs) ∧ Reps F.O s.heap p.2 vs
  ownNd : (C.map (·.1)).Nodup
  kpGo : ∀ s s', F.kp s → Step s s' → F.kp s'
  kpBut : ∀ (s : Shared) a h' tk, F.kp s → Heap.SameBut a s.heap h' → Own F a s.heap h' → F.kp { s with heap := h', toks := tk }
  kp : F.kp s
  okL : F.ok F.env.locals
  okW : ∀ p ∈ F.W, F.ok p.2
  okOwn : ∀ p ∈ C, F.ok p.1

theorem Inv.gi {G : GData} {F : Fm} {ρ : List (Str × D)} {C : List (Addr × List D)} {s : Shared} (I : Inv G F ρ C s) : GI G s := I.gb.step I.step

theorem VarAt.keeps {env : Env} {h h' : Heap} {x : Str} {v : Value} (y : VarAt env h x v) (hL : ∀ o, h.get? env.locals = some o → h'.get? env.locals = some o)
    (hc : ∀ c w, env.cells.lookup x = some c → h.IsCell c w → h'.IsCell c w) : VarAt env h' x v := by
  rcases y with ⟨k, m, n, e⟩ | ⟨k, c, e, q⟩
  · exact .inl ⟨k, m, n.at' hL, e⟩
  · exact .inr ⟨k, c, e, hc c _ e q⟩

section
variable {G : GData} {F : Fm} {ρ ρ' : List (Str × D)} {C : List (Addr × List D)} {s s' : Shared}

theorem cell_offTab {h : Heap} {c : Addr} {v : Option Value} (t : TabOk h) (x : h.IsCell c v) : c ∉ tabs := fun q => by
  obtain ⟨ps, h1, _⟩ := t c q
  obtain ⟨o, h2, h3⟩ := x
  rw [h1] at h2; cases h2; cases h3

theorem Inv.go (I : Inv G F ρ C s) (st : Step s s') : Inv G F ρ C s' where
  step := I.step.trans st
  gb := I.gb
  okO := I.okO.step I.gi st
  kind := I.kind
  glob := I.glob
  blt := I.blt
  ns := let ⟨m, n⟩ := I.ns; ⟨m, n.at' fun o e => st.keep _ _ I.offTab e⟩
  new := I.new
  offTab := I.offTab
  nd := I.nd
  vars := fun p hp => by
    obtain ⟨v, h1, h2⟩ := I.vars p hp
    refine ⟨v, h1.keeps (fun o e => st.keep _ _ I.offTab e) (fun c w _ q => ?_), h2.step I.okO st⟩
    have := cell_offTab I.gi.tab q
    obtain ⟨o, e, r⟩ := q
    exact ⟨o, st.keep _ _ this e, r⟩
  W := fun p hp => by
    obtain ⟨h1, h2, ⟨v, q⟩, h4, h5⟩ := I.W p hp
    refine ⟨h1, h2, ?_, h4, h5⟩
    obtain ⟨o, e, r⟩ := q
    exact ⟨v, o, st.keep _ _ h5 e, r⟩
  apart := I.apart
  own := fun p hp => by
    obtain ⟨h1, h2, h3, vs, h4, h5⟩ := I.own p hp
    exact ⟨h1, h2, h3, vs, h4.at fun o e => st.keep _ _ h3 e, h5.step I.okO st⟩
  ownNd := I.ownNd
  kpGo := I.kpGo
  kpBut := I.kpBut
  kp := I.kpGo _ _ I.kp st
  okL := I.okL
  okW := I.okW
  okOwn := I.okOwn

/-- fewer variables -/
theorem Inv.less (I : Inv G F ρ C s) (h : ρ'.Sublist ρ) : Inv G F ρ' C s :=
  { I with nd := I.nd.sublist (h.map _), vars := fun p hp => I.vars p (h.subset hp) }

inductive PutTo (x : Str) (d : D) : List (Str × D) → List (Str × D) → Prop
  | nil : PutTo x d [] [(x, d)]
  | here {d₀ : D} {r : List (Str × D)} : PutTo x d ((x, d₀) :: r) ((x, d) :: r)
  | next {y : Str} {e : D} {r r' : List (Str × D)} : y ≠ x → PutTo x d r r' → PutTo x d ((y, e) :: r) ((y, e) :: r')

theorem PutTo.keys {x : Str} {d : D} : ∀ {ρ ρ' : List (Str × D)}, PutTo x d ρ ρ' → ∀ p ∈ ρ', p.1 = x ∨ ∃ q ∈ ρ, q.1 = p.1
  | _, _, .nil, p, hp => by simp at hp; exact .inl (by rw [hp])
  | _, _, .here, p, hp => by
    rcases List.mem_cons.mp hp with rfl | hp
    · exact .inl rfl
    · exact .inr ⟨p, .tail _ hp, rfl⟩
  | _, _, .next _ r, p, hp => by
    rcases List.mem_cons.mp hp with rfl | hp
    · exact .inr ⟨_, .head _, rfl⟩
    · rcases r.keys p hp with e | ⟨q, hq, e⟩
      · exact .inl e
      · exact .inr ⟨q, .tail _ hq, e⟩
theorem PutTo.nd {x : Str} {d : D} : ∀ {ρ ρ' : List (Str × D)}, PutTo x d ρ ρ' → (ρ.map (·.1)).Nodup → (ρ'.map (·.1)).Nodup
  | _, _, .nil, _ => by simp
  | _, _, .here, n => n
  | _, _, .next (y := y) hy r, n => by
    simp only [List.map_cons, List.nodup_cons] at n ⊢
    refine ⟨fun q => ?_, r.nd n.2⟩
    obtain ⟨p, hp, e⟩ := List.mem_map.mp q
    rcases r.keys p hp with e' | ⟨z, hz, e'⟩
    · exact hy (e.symm.trans e')
    · exact n.1 (List.mem_map.mpr ⟨z, hz, e'.trans e⟩)
theorem PutTo.mem {x : Str} {d : D} : ∀ {ρ ρ' : List (Str × D)}, PutTo x d ρ ρ' → (ρ.map (·.1)).Nodup → ∀ p ∈ ρ', p = (x, d) ∨ (p ∈ ρ ∧ p.1 ≠ x)
  | _, _, .nil, _, p, hp => by simp at hp; exact .inl hp
  | _, _, .here, n, p, hp => by
    rcases List.mem_cons.mp hp with rfl | hp
    · exact .inl rfl
    · refine .inr ⟨.tail _ hp, fun e => ?_⟩
      simp only [List.map_cons, List.nodup_cons] at n
      exact n.1 (List.mem_map.mpr ⟨p, hp, e⟩)
  | _, _, .next hy r, n, p, hp => by
    simp only [List.map_cons, List.nodup_cons] at n
    rcases List.mem_cons.mp hp with rfl | hp
    · exact .inr ⟨.head _, hy⟩
    · rcases r.mem n.2 p hp with e | ⟨hq, e⟩
      · exact .inl e
      · exact .inr ⟨.tail _ hq, e⟩

/-- a change of one object that is not in the base heap, no table and no list or tuple that is borne -/
theorem step_sameBut {base s : Shared} {a : Addr} {h' : Heap} {tk : Nat} (st : Step base s) (t : TabOk s.heap) (hb : base.heap.get? a = none) (ha : a ∉ tabs)
    (hcode : ∀ o, s.heap.get? a = some o → ∀ vs, o.data = .fields vs → False) (hs : Heap.SameBut a s.heap h') : Step base { s with heap := h', toks := tk } := by
  refine ⟨fun b o hq e => ?_, fun q => t.of_kept (fun P hP o e => (hs.2 P fun z => ha (z ▸ hP)).trans e) fun b o vs e hd _ => (hs.2 b fun z => hcode o (z ▸ e) vs hd).trans e, st.os, st.gens⟩
  have hne : b ≠ a := fun e' => by rw [e', hb] at e; cases e
  exact (hs.2 b hne).trans (st.keep b o hq e)

theorem ns_unique {h : Heap} {a : Addr} {m m' : Str → Option Value} (x : h.Ns a m) (y : h.Ns a m') : m = m' := by
  obtain ⟨o, es, ep, h1, h2, _, h4⟩ := x
  obtain ⟨o', es', ep', h1', h2', _, h4'⟩ := y
  rw [h1] at h1'; cases h1'
  rw [h2] at h2'; cases h2'
  funext z; rw [← h4, ← h4']

/-- data that is borne does not see a change at an object that is no list and no tuple -/
theorem Rep.but {O : List Addr} {h h' : Heap} {a : Addr} {d : D} {v : Value} (r : Rep O h d v) (hs : Heap.SameBut a h h') (hn : ∀ o xs n, h.get? a = some o → o.data ≠ .seq xs n) : Rep O h' d v :=
  Rep.mono (fun b o xs n _ hd e => (hs.2 b fun q => hn o xs n (q ▸ e) hd).trans e) (fun _ ha => .inl ha) d v r
theorem Reps.but {O : List Addr} {h h' : Heap} {a : Addr} {d : List D} {v : List Value} (r : Reps O h d v) (hs : Heap.SameBut a h h') (hn : ∀ o xs n, h.get? a = some o → o.data ≠ .seq xs n) : Reps O h' d v :=
  Reps.mono (fun b o xs n _ hd e => (hs.2 b fun q => hn o xs n (q ▸ e) hd).trans e) (fun _ ha => .inl ha) d v r
theorem Rep.butO {O : List Addr} {h h' : Heap} {a : Addr} {d : D} {v : Value} (r : Rep O h d v) (hs : Heap.SameBut a h h') (ha : a ∈ O) : Rep O h' d v :=
  Rep.mono (fun b _ _ _ hb _ e => (hs.2 b fun q => hb (q ▸ ha)).trans e) (fun _ ha => .inl ha) d v r
theorem Reps.butO {O : List Addr} {h h' : Heap} {a : Addr} {d : List D} {v : List Value} (r : Reps O h d v) (hs : Heap.SameBut a h h') (ha : a ∈ O) : Reps O h' d v :=
  Reps.mono (fun b _ _ _ hb _ e => (hs.2 b fun q => hb (q ▸ ha)).trans e) (fun _ ha => .inl ha) d v r

theorem ns_data {h : Heap} {a : Addr} {m : Str → Option Value} (x : h.Ns a m) : ∀ o, h.get? a = some o → ∃ es ep, o.data = .dict es ep := fun o e => by
  obtain ⟨o', es, ep, h1, h2, _⟩ := x
  rw [h1] at e; cases e; exact ⟨es, ep, h2⟩
theorem ns_cell_ne {h : Heap} {a c : Addr} {m : Str → Option Value} {v : Option Value} (x : h.Ns a m) (y : h.IsCell c v) : c ≠ a := fun q => by
  obtain ⟨o, h1, h2⟩ := y
  obtain ⟨es, ep, h3⟩ := ns_data x o (q ▸ h1)
  rw [h2] at h3; cases h3
theorem live_sameBut {h h' : Heap} {a : Addr} (hs : Heap.SameBut a h h') (hl : ∃ o, h'.get? a = some o) {b : Addr} (e : ∃ o, h.get? b = some o) : ∃ o, h'.get? b = some o := by
  by_cases q : b = a
  · subst q; exact hl
  · obtain ⟨o, e⟩ := e; exact ⟨o, (hs.2 b q).trans e⟩

theorem Inv.putLocal {x : Str} {d : D} {v : Value} {m : Str → Option Value} {h' : Heap} {tk : Nat} (I : Inv G F ρ C s) (hk : F.env.kindOf x = some .local) (P : PutTo x d ρ ρ') (hR : Rep F.O s.heap d v)
    (hn : s.heap.Ns F.env.locals m) (hn' : h'.Ns F.env.locals (fun y => if y = x then some v else m y)) (hs : Heap.SameBut F.env.locals s.heap h') : Inv G F ρ' C { s with heap := h', toks := tk } := by
  have hnd : ∀ o xs n, s.heap.get? F.env.locals = some o → o.data ≠ .seq xs n := fun o xs n e q => by
    obtain ⟨es, ep, h3⟩ := ns_data hn o e; rw [q] at h3; cases h3
  have hnf : ∀ o, s.heap.get? F.env.locals = some o → ∀ vs, o.data ≠ .fields vs := fun o e vs q => by
    obtain ⟨es, ep, h3⟩ := ns_data hn o e; rw [q] at h3; cases h3
  have hst : Step F.base { s with heap := h', toks := tk } := step_sameBut I.step I.gi.tab I.new I.offTab (fun o e vs q => absurd q (hnf o e vs)) hs
  have hl' : ∃ o, h'.get? F.env.locals = some o := let ⟨o, _, _, e, _⟩ := hn'; ⟨o, e⟩
  refine { step := hst, gb := I.gb, okO := ⟨I.okO.tabs, (I.gb.step hst).tab.there, fun a ha z => let ⟨o, xs, n, e, hd⟩ := I.okO.live a ha z; ⟨o, xs, n, (hs.2 a fun q => hnd o xs n (q ▸ e) hd).trans e, hd⟩⟩, kind := I.kind, glob := I.glob, blt := I.blt, ns := ⟨_, hn'⟩, new := I.new, offTab := I.offTab, nd := P.nd I.nd, vars := fun p hp => ?_, W := fun p hp => ?_, apart := I.apart, own := fun p hp => ?_, ownNd := I.ownNd, kpGo := I.kpGo, kpBut := I.kpBut, kp := I.kpBut s _ h' tk I.kp hs ⟨I.okL, fun o e => ⟨hnf o e, fun _ xs n => hnd o xs n e⟩, fun o xs n e q => absurd q (hnd o xs n e)⟩, okL := I.okL, okW := I.okW, okOwn := I.okOwn }
  · rcases P.mem I.nd p hp with rfl | ⟨hq, hne⟩
    · exact ⟨v, .inl ⟨hk, _, hn', by simp⟩, hR.but hs hnd⟩
    · obtain ⟨v', h1, h2⟩ := I.vars p hq
      refine ⟨v', ?_, h2.but hs hnd⟩
      rcases h1 with ⟨k, m', n', e⟩ | ⟨k, c, e, q⟩
      · have := ns_unique n' hn; subst this
        exact .inl ⟨k, _, hn', by simpa [hne] using e⟩
      · exact .inr ⟨k, c, e, q.sameBut hs (ns_cell_ne hn q)⟩
  · obtain ⟨h1, h2, ⟨w, q⟩, h4, h5⟩ := I.W p hp
    exact ⟨h1, h2, ⟨w, q.sameBut hs (ns_cell_ne hn q)⟩, h4, h5⟩
  · obtain ⟨h1, h2, h3, vs, h4, h5⟩ := I.own p hp
    have hne : p.1 ≠ F.env.locals := fun q => by
      obtain ⟨o, e, _, n, hd⟩ := h4.isList
      exact hnd o _ n (q ▸ e) hd
    exact ⟨h1, h2, h3, vs, h4.at fun o e => (hs.2 _ hne).trans e, h5.but hs hnd⟩

theorem Inv.putCell {x : Str} {d : D} {v : Value} {c : Addr} {h' : Heap} (I : Inv G F ρ C s) (hW : (x, c) ∈ F.W) (P : PutTo x d ρ ρ') (hR : Rep F.O s.heap d v)
    (hc' : h'.IsCell c (some v)) (hs : Heap.SameBut c s.heap h') : Inv G F ρ' C { s with heap := h' } := by
  obtain ⟨k1, k2, ⟨w, k3⟩, k4, k5⟩ := I.W _ hW
  dsimp only at k1 k2 k3 k4 k5
  have hnd : ∀ o xs n, s.heap.get? c = some o → o.data ≠ .seq xs n := fun o xs n e q => by
    obtain ⟨o', e', hd⟩ := k3; rw [e] at e'; cases e'; rw [q] at hd; cases hd
  have hnf : ∀ o, s.heap.get? c = some o → ∀ vs, o.data ≠ .fields vs := fun o e vs q => by
    obtain ⟨o', e', hd⟩ := k3; rw [e] at e'; cases e'; rw [q] at hd; cases hd
  have hst : Step F.base { s with heap := h' } := step_sameBut (tk := s.toks) I.step I.gi.tab k4 k5 (fun o e vs q => absurd q (hnf o e vs)) hs
  have hl' : ∃ o, h'.get? c = some o := let ⟨o, e, _⟩ := hc'; ⟨o, e⟩
  obtain ⟨m, hn⟩ := I.ns
  have hLc : F.env.locals ≠ c := (ns_cell_ne hn k3).symm
  refine { step := hst, gb := I.gb, okO := ⟨I.okO.tabs, (I.gb.step hst).tab.there, fun a ha z => let ⟨o, xs, n, e, hd⟩ := I.okO.live a ha z; ⟨o, xs, n, (hs.2 a fun q => hnd o xs n (q ▸ e) hd).trans e, hd⟩⟩, kind := I.kind, glob := I.glob, blt := I.blt, ns := ⟨_, hn.sameBut hs hLc⟩, new := I.new, offTab := I.offTab, nd := P.nd I.nd, vars := fun p hp => ?_, W := fun p hp => ?_, apart := I.apart, own := fun p hp => ?_, ownNd := I.ownNd, kpGo := I.kpGo, kpBut := I.kpBut, kp := I.kpBut s _ h' s.toks I.kp hs ⟨I.okW _ hW, fun o e => ⟨hnf o e, fun _ xs n => hnd o xs n e⟩, fun o xs n e q => absurd q (hnd o xs n e)⟩, okL := I.okL, okW := I.okW, okOwn := I.okOwn }
  · rcases P.mem I.nd p hp with rfl | ⟨hq, hne⟩
    · exact ⟨v, .inr ⟨.inl k1, c, k2, hc'⟩, hR.but hs hnd⟩
    · obtain ⟨v', h1, h2⟩ := I.vars p hq
      refine ⟨v', ?_, h2.but hs hnd⟩
      rcases h1 with ⟨k, m', n', e⟩ | ⟨k, c₁, e, q⟩
      · exact .inl ⟨k, _, n'.sameBut hs hLc, e⟩
      · exact .inr ⟨k, c₁, e, q.sameBut hs fun z => hne (name_of_addr I.apart (mem_of_lookup e) (z ▸ mem_of_lookup k2))⟩
  · obtain ⟨h1, h2, ⟨w', q⟩, h4, h5⟩ := I.W p hp
    refine ⟨h1, h2, ?_, h4, h5⟩
    by_cases z : p.2 = c
    · rw [z]; exact ⟨_, hc'⟩
    · exact ⟨w', q.sameBut hs z⟩
  · obtain ⟨h1, h2, h3, vs, h4, h5⟩ := I.own p hp
    have hne : p.1 ≠ c := fun q => by
      obtain ⟨o, e, _, n, hd⟩ := h4.isList
      exact hnd o _ n (q ▸ e) hd
    exact ⟨h1, h2, h3, vs, h4.at fun o e => (hs.2 _ hne).trans e, h5.but hs hnd⟩

/-- where a name may be stored -/
noncomputable def MayPut (F : Fm) (x : Str) : Prop := F.env.kindOf x = some .local ∨ ∃ c, (x, c) ∈ F.W

theorem Inv.store {M : Model} {A : Around} {x : Str} {d : D} {v : Value} {Q : Unit → Shared → Prop} {E : Value → Shared → Prop} (I : Inv G F ρ C s) (hk : MayPut F x) (P : PutTo x d ρ ρ') (hR : Rep F.O s.heap d v)
    (h : ∀ s', Inv G F ρ' C s' → Q () s') : wpAny M A (storeName F.env x v) Q E s := by
  rcases hk with hk | ⟨c, hc⟩
  · obtain ⟨m, hn⟩ := I.ns
    exact wpAny_storeName_local hk hn (fun h' hn' hs => h _ (I.putLocal hk P hR hn hn' hs)) (by rw [I.kind]; rfl)
  · obtain ⟨k1, k2, ⟨w, k3⟩, k4, k5⟩ := I.W _ hc
    exact wpAny_storeName_cell I.kind k1 k2 k3 fun h' hc' hs => h _ (I.putCell hc P hR hc' hs)

theorem Inv.load {M : Model} {A : Around} {x : Str} {d : D} {Q : Value → Shared → Prop} {E : Value → Shared → Prop} (I : Inv G F ρ C s) (hx : (x, d) ∈ ρ)
    (h : ∀ v, Rep F.O s.heap d v → Q v s) : wpAny M A (loadName F.env x) Q E s := by
  obtain ⟨v, h1, h2⟩ := I.vars _ hx
  rcases h1 with ⟨k, m, n, e⟩ | ⟨k | ⟨k, k'⟩, c, e, q⟩
  · exact wpAny_loadName_local I.kind k n e (h v h2)
  · exact wpAny_loadName_cell I.kind k e q (h v h2)
  · exact wpAny_loadName_free I.kind k e q (h v h2) k'

/-- an own list takes another shape -/
theorem Inv.setOwn {a : Addr} {ds ds' : List D} {vs' : List Value} {h' : Heap} (I : Inv G F ρ ((a, ds) :: C) s) (hl : h'.PlainList a (List.toArray vs')) (hs : Heap.SameBut a s.heap h') (hr : Reps F.O s.heap ds' vs') :
    Inv G F ρ ((a, ds') :: C) { s with heap := h' } := by
  obtain ⟨k1, k2, k3, vs, k4, k5⟩ := I.own _ (.head _)
  dsimp only at k1 k2 k3 k4 k5
  obtain ⟨o, e, hc, n, hd⟩ := k4.isList
  have hnf : ∀ o, s.heap.get? a = some o → ∀ vs, o.data ≠ .fields vs := fun o' e' vs q => by
    rw [e] at e'; cases e'; rw [q] at hd; cases hd
  have hst : Step F.base { s with heap := h' } := step_sameBut (tk := s.toks) I.step I.gi.tab k2 k3 (fun o e vs q => absurd q (hnf o e vs)) hs
  have hl' : ∃ o, h'.get? a = some o := let ⟨o, e, _⟩ := hl.isList; ⟨o, e⟩
  obtain ⟨m, hn⟩ := I.ns
  have hLa : F.env.locals ≠ a := fun q => by
    obtain ⟨es, ep, h3⟩ := ns_data hn o (q ▸ e); rw [hd] at h3; cases h3
  have hca : ∀ {c : Addr} {u : Option Value}, s.heap.IsCell c u → c ≠ a := fun {c u} x q => by
    obtain ⟨o', e', r⟩ := x; rw [q, e] at e'; cases e'; rw [hd] at r; cases r
  refine { step := hst, gb := I.gb, okO := ⟨I.okO.tabs, (I.gb.step hst).tab.there, fun b hb z => (if q : b = a then by subst q; obtain ⟨o, e, _, n, hd⟩ := hl.isList; exact ⟨o, _, n, e, hd⟩ else let ⟨o, xs, n, e, hd⟩ := I.okO.live b hb z; ⟨o, xs, n, (hs.2 b q).trans e, hd⟩)⟩, kind := I.kind, glob := I.glob, blt := I.blt, ns := ⟨_, hn.sameBut hs hLa⟩, new := I.new, offTab := I.offTab, nd := I.nd, vars := fun p hp => ?_, W := fun p hp => ?_, apart := I.apart, own := fun p hp => ?_, ownNd := ?_, kpGo := I.kpGo, kpBut := I.kpBut, kp := I.kpBut s _ h' s.toks I.kp hs ⟨I.okOwn _ (.head _), fun o e => ⟨hnf o e, fun q => absurd k1 q⟩, fun _ _ _ _ _ => by obtain ⟨o, e, _, n, hd⟩ := hl.isList; exact ⟨o, _, n, e, hd⟩⟩, okL := I.okL, okW := I.okW, okOwn := fun p hp => ?_ }
  · obtain ⟨v', h1, h2⟩ := I.vars p hp
    refine ⟨v', ?_, h2.butO hs k1⟩
    rcases h1 with ⟨k, m', n', e⟩ | ⟨k, c₁, e, q⟩
    · exact .inl ⟨k, _, n'.sameBut hs hLa, e⟩
    · exact .inr ⟨k, c₁, e, q.sameBut hs (hca q)⟩
  · obtain ⟨h1, h2, ⟨w', q⟩, h4, h5⟩ := I.W p hp
    exact ⟨h1, h2, ⟨w', q.sameBut hs (hca q)⟩, h4, h5⟩
  · rcases List.mem_cons.mp hp with rfl | hp
    · exact ⟨k1, k2, k3, vs', hl, hr.butO hs k1⟩
    · obtain ⟨h1, h2, h3, us, h4, h5⟩ := I.own p (.tail _ hp)
      have hne : p.1 ≠ a := fun q => by
        have := I.ownNd
        simp only [List.map_cons, List.nodup_cons] at this
        exact this.1 (List.mem_map.mpr ⟨p, hp, q⟩)
      exact ⟨h1, h2, h3, us, h4.at fun o e => (hs.2 _ hne).trans e, h5.butO hs k1⟩
  · exact I.ownNd
  · rcases List.mem_cons.mp hp with rfl | hp
    · exact I.okOwn (a, ds) (.head _)
    · exact I.okOwn p (.tail _ hp)

/-- a new list, hidden -/
theorem Inv.newOwn {a : Addr} {h' : Heap} {tk : Nat} (I : Inv G F ρ C s) (hn : s.heap.get? a = none) (ha : a ∉ tabs) (hk : ∀ b o, s.heap.get? b = some o → h'.get? b = some o) (hl : h'.PlainList a (List.toArray [])) (hok : F.ok a)
    (hkp : ∀ (s : Shared) b h' tk, F.kp s → Heap.SameBut b s.heap h' → Own { F with O := a :: F.O } b s.heap h' → F.kp { s with heap := h', toks := tk }) :
    Inv G { F with O := a :: F.O } ρ ((a, []) :: C) { s with heap := h', toks := tk } := by
  have st : Step s { s with heap := h', toks := tk } := Step.of_keeps hk
  have J := I.go st
  have wk : ∀ {d : D} {v : Value}, Rep F.O s.heap d v → Rep (a :: F.O) h' d v := fun {d v} r => Rep.mono (fun b o _ _ _ _ e => hk b o e) (fun b hb => by
    rcases List.mem_cons.mp hb with rfl | q
    · exact .inr hn
    · exact .inl q) d v r
  have wks : ∀ {d : List D} {v : List Value}, Reps F.O s.heap d v → Reps (a :: F.O) h' d v := fun {d v} r => Reps.mono (fun b o _ _ _ _ e => hk b o e) (fun b hb => by
    rcases List.mem_cons.mp hb with rfl | q
    · exact .inr hn
    · exact .inl q) d v r
  have hb : F.base.heap.get? a = none := by
    cases q : F.base.heap.get? a with
    | none => rfl
    | some o => have := I.step.keep a o ha q; rw [hn] at this; cases this
  refine { step := J.step, gb := J.gb, okO := ⟨fun b hb => .tail _ (J.okO.tabs b hb), J.okO.there, fun b hb z => ?_⟩, kind := J.kind, glob := J.glob, blt := J.blt, ns := J.ns, new := J.new, offTab := J.offTab, nd := J.nd, vars := fun p hp => ?_, W := J.W, apart := J.apart, own := fun p hp => ?_, ownNd := ?_, kpGo := J.kpGo, kpBut := hkp, kp := J.kp, okL := J.okL, okW := J.okW, okOwn := fun p hp => ?_ }
  · rcases List.mem_cons.mp hb with rfl | q
    · obtain ⟨o, e, _, n, hd⟩ := hl.isList; exact ⟨o, _, n, e, hd⟩
    · exact J.okO.live b q z
  · obtain ⟨v, h1, h2⟩ := I.vars p hp
    obtain ⟨v', h1', h2'⟩ := J.vars p hp
    refine ⟨v, ?_, wk h2⟩
    exact h1.keeps (fun o e => hk _ _ e) (fun c w _ q => q.keeps hk)
  · rcases List.mem_cons.mp hp with rfl | hp
    · exact ⟨.head _, hb, ha, [], hl, Reps.nil⟩
    · obtain ⟨h1, h2, h3, us, h4, h5⟩ := I.own p hp
      exact ⟨.tail _ h1, h2, h3, us, h4.at fun o e => hk _ _ e, wks h5⟩
  · simp only [List.map_cons, List.nodup_cons]
    refine ⟨fun q => ?_, I.ownNd⟩
    obtain ⟨p, hp, e⟩ := List.mem_map.mp q
    obtain ⟨h1, h2, h3, us, h4, h5⟩ := I.own p hp
    obtain ⟨o, e', _⟩ := h4.isList
    rw [e, hn] at e'; cases e'
  · rcases List.mem_cons.mp hp with rfl | hp
    · exact hok
    · exact J.okOwn p hp

/-- an own list comes to light -/
theorem Inv.reveal {a : Addr} {O : List Addr} {x : Str} {ds : List D} (I : Inv G { F with O := a :: O } ρ ((a, ds) :: C) s) (hx : (x, D.raw (.ref a)) ∈ ρ) (P : PutTo x (.list ds) ρ ρ') (ha : a ∉ O) (ht : ∀ b ∈ tabs, b ∈ O) (hC : ∀ p ∈ C, p.1 ∈ O)
    (hkp : ∀ (s : Shared) b h' tk, F.kp s → Heap.SameBut b s.heap h' → Own { F with O := O } b s.heap h' → F.kp { s with heap := h', toks := tk }) : Inv G { F with O := O } ρ' C s := by
  have wk : ∀ {d : D} {v : Value}, Rep (a :: O) s.heap d v → Rep O s.heap d v := fun {d v} r => Rep.mono (fun b o _ _ _ _ e => e) (fun b hb => .inl (.tail _ hb)) d v r
  have wks : ∀ {d : List D} {v : List Value}, Reps (a :: O) s.heap d v → Reps O s.heap d v := fun {d v} r => Reps.mono (fun b o _ _ _ _ e => e) (fun b hb => .inl (.tail _ hb)) d v r
  obtain ⟨k1, k2, k3, vs, k4, k5⟩ := I.own _ (.head _)
  dsimp only at k1 k2 k3 k4 k5
  refine { step := I.step, gb := I.gb, okO := ⟨ht, I.okO.there, fun b hb z => I.okO.live b (.tail _ hb) z⟩, kind := I.kind, glob := I.glob, blt := I.blt, ns := I.ns, new := I.new, offTab := I.offTab, nd := P.nd I.nd, vars := fun p hp => ?_, W := I.W, apart := I.apart, own := fun p hp => ?_, ownNd := ?_, kpGo := I.kpGo, kpBut := hkp, kp := I.kp, okL := I.okL, okW := I.okW, okOwn := fun p hp => I.okOwn p (.tail _ hp) }
  · rcases P.mem I.nd p hp with rfl | ⟨hq, hne⟩
    · obtain ⟨v, h1, h2⟩ := I.vars _ hx
      rw [Rep] at h2; subst h2
      refine ⟨_, h1, ?_⟩
      show Rep O s.heap (.list ds) (.ref a)
      rw [Rep]
      exact ⟨a, vs, rfl, ha, k4.isList, wks k5⟩
    · obtain ⟨v, h1, h2⟩ := I.vars p hq
      exact ⟨v, h1, wk h2⟩
  · obtain ⟨h1, h2, h3, us, h4, h5⟩ := I.own p (.tail _ hp)
    exact ⟨hC p hp, h2, h3, us, h4, wks h5⟩
  · have := I.ownNd
    simp only [List.map_cons, List.nodup_cons] at this
    exact this.2
end
end
section
set_option Elab.async false
set_option maxRecDepth 100000

open PySem.Calls

/-! expressions: a judgement and its rules -/

noncomputable abbrev noE : Value → Shared → Prop := fun _ _ => False

noncomputable def Ev (prog : Program) (w : World) (A : Around) (G : GData) (F : Fm) (ρ : List (Str × D)) (C : List (Addr × List D)) (e : Expr) (d : D) : Prop :=
  ∀ s, Inv G F ρ C s → wpAny (model prog w) A (eval e F.env) (fun v s' => Step s s' ∧ Rep F.O s'.heap d v) noE s
noncomputable def Evs (prog : Program) (w : World) (A : Around) (G : GData) (F : Fm) (ρ : List (Str × D)) (C : List (Addr × List D)) (es : List Expr) (ds : List D) : Prop :=
  ∀ s pos, Inv G F ρ C s → wpAny (model prog w) A (spliced (backTo pos (starEach es F.env))) (fun vs s' => Step s s' ∧ Reps F.O s'.heap ds vs) noE s
noncomputable def Tr (prog : Program) (w : World) (A : Around) (G : GData) (F : Fm) (ρ : List (Str × D)) (C : List (Addr × List D)) (e : Expr) (b : Bool) : Prop :=
  ∀ s, Inv G F ρ C s → wpAny (model prog w) A (isTrue e F.env (eval e F.env)) (fun b' s' => Step s s' ∧ b' = b) noE s

/-- an operation upon values, as data -/
noncomputable def Op2 (prog : Program) (w : World) (A : Around) (G : GData) (O : List Addr) (t : Value → Value → Sem Value) (d₁ d₂ d : D) : Prop :=
  ∀ s v₁ v₂, GI G s → OkO O s.heap → Rep O s.heap d₁ v₁ → Rep O s.heap d₂ v₂ → wpAny (model prog w) A (t v₁ v₂) (fun v s' => Step s s' ∧ Rep O s'.heap d v) noE s
noncomputable def CallOk (prog : Program) (w : World) (A : Around) (G : GData) (O : List Addr) (f : Value) (ds : List D) (d : D) : Prop :=
  ∀ s vs, GI G s → OkO O s.heap → Reps O s.heap ds vs → wpAny (model prog w) A (call f vs []) (fun v s' => Step s s' ∧ Rep O s'.heap d v) noE s
noncomputable def TruthOk (prog : Program) (w : World) (A : Around) (G : GData) (O : List Addr) (d : D) (b : Bool) : Prop :=
  ∀ s v, GI G s → OkO O s.heap → Rep O s.heap d v → wpAny (model prog w) A (truthy v) (fun b' s' => Step s s' ∧ b' = b) noE s

section
variable {prog : Program} {w : World} {A : Around} {G : GData} {F : Fm} {ρ : List (Str × D)} {C : List (Addr × List D)} {s : Shared}

theorem Ev.int {i : Int} {k : Nat} {pos : Pos} : Ev prog w A G F ρ C (.Constant (.int i) k pos) (.int i) := fun s _ =>
  wpAny_Constant_int ⟨Step.toks, by rw [Rep]; exact ⟨_, rfl⟩⟩
theorem Ev.str {x : Str} {k : Nat} {pos : Pos} : Ev prog w A G F ρ C (.Constant (.str x) k pos) (.str x) := fun s _ =>
  Constant_str ⟨Step.toks, by rw [Rep]; exact ⟨_, rfl⟩⟩
theorem Ev.none {k : Nat} {pos : Pos} : Ev prog w A G F ρ C (.Constant .none k pos) .none := fun s _ =>
  show wpAny _ _ (constValue F.env .none) _ _ _ from wpAny_pure ⟨Step.refl s, by rw [Rep]⟩
theorem Ev.bool {b : Bool} {k : Nat} {pos : Pos} : Ev prog w A G F ρ C (.Constant (.bool b) k pos) (.bool b) := fun s _ =>
  show wpAny _ _ (constValue F.env (.bool b)) _ _ _ from wpAny_pure ⟨Step.refl s, by rw [Rep]⟩

theorem Ev.name {x : Str} {d : D} {pos : Pos} (hx : (x, d) ∈ ρ) (hd : (x == ("__debug__" : Str)) = false := by decide) : Ev prog w A G F ρ C (.Name x pos) d := fun s I =>
  wpAny_Name (I.load hx fun v r => ⟨Step.refl s, r⟩) hd
theorem Ev.glob {x : Str} {v : Value} {pos : Pos} (hv : G.mg x = some v) (hk : F.env.kindOf x = some .globalImplicit) (hd : (x == ("__debug__" : Str)) = false := by decide) :
    Ev prog w A G F ρ C (.Name x pos) (.raw v) := fun s I =>
  Name_function_global I.kind hk (loadGlobal_global (by rw [I.glob]; exact G.g.keeps I.gi.keep) hv ⟨Step.refl s, by rw [Rep]⟩) hd
theorem Ev.blt {x : Str} {v : Value} {pos : Pos} (hm : G.mg x = Option.none) (hv : G.mb x = some v) (hk : F.env.kindOf x = some .globalImplicit) (hd : (x == ("__debug__" : Str)) = false := by decide) :
    Ev prog w A G F ρ C (.Name x pos) (.raw v) := fun s I =>
  Name_function_global I.kind hk (loadGlobal_builtin (by rw [I.glob]; exact G.g.keeps I.gi.keep) hm (by rw [I.blt]; exact G.b.keeps I.gi.keep) hv ⟨Step.refl s, by rw [Rep]⟩) hd

theorem Ev.bin {l r : Expr} {op : Operator} {pos : Pos} {d₁ d₂ d : D} (h₁ : Ev prog w A G F ρ C l d₁) (h₂ : Ev prog w A G F ρ C r d₂) (h : Op2 prog w A G F.O (binaryOp op) d₁ d₂ d) :
    Ev prog w A G F ρ C (.BinOp l op r pos) d := fun s I =>
  wpAny_BinOp (wpAny_mono (h₁ s I) (fun v₁ s₁ x₁ => wpAny_mono (h₂ s₁ (I.go x₁.1)) (fun v₂ s₂ x₂ =>
    wpAny_mono (h s₂ v₁ v₂ (I.gi.step (x₁.1.trans x₂.1)) ((I.go x₁.1).go x₂.1).okO (x₁.2.step (I.go x₁.1).okO x₂.1) x₂.2) (fun v s₃ x₃ => ⟨(x₁.1.trans x₂.1).trans x₃.1, x₃.2⟩) fun _ _ e => e) fun _ _ e => e) fun _ _ e => e)
theorem Ev.cmp {l r : Expr} {op : CmpOp} {pos : Pos} {d₁ d₂ d : D} (h₁ : Ev prog w A G F ρ C l d₁) (h₂ : Ev prog w A G F ρ C r d₂) (h : Op2 prog w A G F.O (compareOp op) d₁ d₂ d)
    (hm : behindInMarks op r = false := by with_unfolding_all rfl) : Ev prog w A G F ρ C (.Compare l [op] [r] pos) d := fun s I =>
  wpAny_Compare1 (wpAny_mono (h₁ s I) (fun v₁ s₁ x₁ => wpAny_mono (h₂ s₁ (I.go x₁.1)) (fun v₂ s₂ x₂ =>
    wpAny_mono (h s₂ v₁ v₂ (I.gi.step (x₁.1.trans x₂.1)) ((I.go x₁.1).go x₂.1).okO (x₁.2.step (I.go x₁.1).okO x₂.1) x₂.2) (fun v s₃ x₃ => ⟨(x₁.1.trans x₂.1).trans x₃.1, x₃.2⟩) fun _ _ e => e) fun _ _ e => e) fun _ _ e => e) hm

theorem Tr.cmp {l r : Expr} {op : CmpOp} {pos : Pos} {d₁ d₂ : D} {b : Bool} (h₁ : Ev prog w A G F ρ C l d₁) (h₂ : Ev prog w A G F ρ C r d₂) (h : Op2 prog w A G F.O (compareOp op) d₁ d₂ (.bool b))
    (hm : behindInMarks op r = false := by with_unfolding_all rfl) : Tr prog w A G F ρ C (.Compare l [op] [r] pos) b := fun s I =>
  wpAny_isTrue_Compare1 (wpAny_mono (h₁ s I) (fun v₁ s₁ x₁ => wpAny_mono (h₂ s₁ (I.go x₁.1)) (fun v₂ s₂ x₂ =>
    wpAny_mono (h s₂ v₁ v₂ (I.gi.step (x₁.1.trans x₂.1)) ((I.go x₁.1).go x₂.1).okO (x₁.2.step (I.go x₁.1).okO x₂.1) x₂.2) (fun v s₃ x₃ => by
      obtain ⟨st, r⟩ := x₃
      rw [Rep] at r; subst r
      exact wpAny_truthy_bool ⟨(x₁.1.trans x₂.1).trans st, rfl⟩) fun _ _ e => e) fun _ _ e => e) fun _ _ e => e) hm
/-- a chain of two -/
theorem Tr.cmp2 {l r₁ r₂ : Expr} {op₁ op₂ : CmpOp} {pos : Pos} {d₀ d₁ d₂ : D} {b₁ b₂ : Bool} (h₀ : Ev prog w A G F ρ C l d₀) (h₁ : Ev prog w A G F ρ C r₁ d₁) (h₂ : Ev prog w A G F ρ C r₂ d₂)
    (o₁ : Op2 prog w A G F.O (compareOp op₁) d₀ d₁ (.bool b₁)) (o₂ : Op2 prog w A G F.O (compareOp op₂) d₁ d₂ (.bool b₂))
    (hm : lastMarks [op₁, op₂] [r₁, r₂] = false := by with_unfolding_all rfl) : Tr prog w A G F ρ C (.Compare l [op₁, op₂] [r₁, r₂] pos) (b₁ && b₂) := fun s I => by
  refine isTrue_chain (wpAny_mono (h₀ s I) (fun v₀ s₁ x₁ => ?_) fun _ _ e => e) hm
  have I₁ := I.go x₁.1
  show wpAny _ A (do
    let rv ← holding [v₀] (eval r₁ F.env)
    standAt pos
    let c ← holding [v₀, rv] (compareOp op₁ v₀ rv)
    release [v₀, rv] [c]
    if ← holding [c, rv] (truthy c) then testChain pos rv [op₂] [eval r₂ F.env] else pure false) _ _ _
  refine wpAny_bind (wpAny_holding (wpAny_mono (h₁ s₁ I₁) (fun v₁ s₂ x₂ => ?_) fun _ _ e => e))
  have I₂ := I₁.go x₂.1
  refine wpAny_bind (wpAny_standAt (wpAny_bind (wpAny_holding (wpAny_mono (o₁ s₂ v₀ v₁ I₂.gi I₂.okO (x₁.2.step I₁.okO x₂.1) x₂.2) (fun c s₃ x₃ => ?_) fun _ _ e => e))))
  have I₃ := I₂.go x₃.1
  obtain ⟨st₃, rc⟩ := x₃
  rw [Rep] at rc; subst rc
  refine wpAny_bind (wpAny_release' (wpAny_bind (wpAny_holding (wpAny_truthy_bool ?_))))
  cases b₁ with
  | false => exact wpAny_pure ⟨(x₁.1.trans x₂.1).trans st₃, rfl⟩
  | true =>
    show wpAny _ A (do
      let rv ← holding [v₁] (eval r₂ F.env)
      standAt pos
      let c ← operate [v₁, rv] (compareOp op₂ v₁ rv)
      holding [c] (truthy c)) _ _ _
    refine wpAny_bind (wpAny_holding (wpAny_mono (h₂ s₃ I₃) (fun v₂ s₄ x₄ => ?_) fun _ _ e => e))
    have I₄ := I₃.go x₄.1
    refine wpAny_bind (wpAny_standAt (wpAny_bind (wpAny_operating (wpAny_mono (o₂ s₄ v₁ v₂ I₄.gi I₄.okO ((x₂.2.step I₂.okO st₃).step I₃.okO x₄.1) x₄.2) (fun c s₅ x₅ => ?_) fun _ _ e => e))))
    obtain ⟨st₅, rc⟩ := x₅
    rw [Rep] at rc; subst rc
    exact wpAny_holding (wpAny_truthy_bool ⟨(((x₁.1.trans x₂.1).trans st₃).trans x₄.1).trans st₅, rfl⟩)

theorem Tr.not {e : Expr} {b : Bool} {pos : Pos} (h : Tr prog w A G F ρ C e b) : Tr prog w A G F ρ C (.UnaryOp .Not e pos) (!b) := fun s I =>
  isTrue_not (wpAny_mono (h s I) (fun _ _ x => ⟨x.1, by rw [x.2]⟩) fun _ _ e => e)
theorem Tr.andNil {pos : Pos} : Tr prog w A G F ρ C (.BoolOp .And [] pos) true := fun s _ => isTrue_and_nil ⟨Step.refl s, rfl⟩
theorem Tr.orNil {pos : Pos} : Tr prog w A G F ρ C (.BoolOp .Or [] pos) false := fun s _ => isTrue_or_nil ⟨Step.refl s, rfl⟩
theorem Tr.and {e : Expr} {es : List Expr} {b b' : Bool} {pos : Pos} (h : Tr prog w A G F ρ C e b) (h' : b = true → Tr prog w A G F ρ C (.BoolOp .And es pos) b') :
    Tr prog w A G F ρ C (.BoolOp .And (e :: es) pos) (b && b') := fun s I => by
  refine isTrue_and (wpAny_mono (h s I) (fun c s₁ x => ?_) fun _ _ e => e)
  obtain ⟨st, rfl⟩ := x
  cases c with
  | false => exact ⟨st, rfl⟩
  | true => exact wpAny_mono (h' rfl s₁ (I.go st)) (fun _ _ y => ⟨st.trans y.1, y.2⟩) fun _ _ e => e
theorem Tr.or {e : Expr} {es : List Expr} {b b' : Bool} {pos : Pos} (h : Tr prog w A G F ρ C e b) (h' : b = false → Tr prog w A G F ρ C (.BoolOp .Or es pos) b') :
    Tr prog w A G F ρ C (.BoolOp .Or (e :: es) pos) (b || b') := fun s I => by
  refine isTrue_or (wpAny_mono (h s I) (fun c s₁ x => ?_) fun _ _ e => e)
  obtain ⟨st, rfl⟩ := x
  cases c with
  | true => exact ⟨st, rfl⟩
  | false => exact wpAny_mono (h' rfl s₁ (I.go st)) (fun _ _ y => ⟨st.trans y.1, y.2⟩) fun _ _ e => e
theorem Tr.orT {e : Expr} {es : List Expr} {pos : Pos} (h : Tr prog w A G F ρ C e true) : Tr prog w A G F ρ C (.BoolOp .Or (e :: es) pos) true := Tr.or (b' := true) h fun e => nomatch e
theorem Tr.orF {e : Expr} {es : List Expr} {b : Bool} {pos : Pos} (h : Tr prog w A G F ρ C e false) (h' : Tr prog w A G F ρ C (.BoolOp .Or es pos) b) : Tr prog w A G F ρ C (.BoolOp .Or (e :: es) pos) b := Tr.or h fun _ => h'
theorem Tr.andF {e : Expr} {es : List Expr} {pos : Pos} (h : Tr prog w A G F ρ C e false) : Tr prog w A G F ρ C (.BoolOp .And (e :: es) pos) false := Tr.and (b' := true) h fun e => nomatch e
theorem Tr.andT {e : Expr} {es : List Expr} {b : Bool} {pos : Pos} (h : Tr prog w A G F ρ C e true) (h' : Tr prog w A G F ρ C (.BoolOp .And es pos) b) : Tr prog w A G F ρ C (.BoolOp .And (e :: es) pos) b := Tr.and h fun _ => h'
theorem Tr.plain {e : Expr} {d : D} {b : Bool} (h : Ev prog w A G F ρ C e d) (t : TruthOk prog w A G F.O d b)
    (he : ∀ whole, isTrue e F.env whole = (do let v ← whole; standAt e.pos; holding [v] (truthy v)) := by intro _; first | rfl | with_unfolding_all rfl) : Tr prog w A G F ρ C e b := fun s I =>
  isTrue_plain (wpAny_mono (h s I) (fun v s₁ x => wpAny_mono (t s₁ v (I.gi.step x.1) (I.go x.1).okO x.2) (fun _ _ y => ⟨x.1.trans y.1, y.2⟩) fun _ _ e => e) fun _ _ e => e) (he _)

theorem Ev.ite {t a b : Expr} {pos : Pos} {c : Bool} {d : D} (ht : Tr prog w A G F ρ C t c) (h₁ : c = true → Ev prog w A G F ρ C a d) (h₂ : c = false → Ev prog w A G F ρ C b d) :
    Ev prog w A G F ρ C (.IfExp t a b pos) d := fun s I => by
  refine wpAny_IfExp (wpAny_mono (ht s I) (fun c' s₁ x => ?_) fun _ _ e => e)
  obtain ⟨st, rfl⟩ := x
  cases c' with
  | true => exact wpAny_mono (h₁ rfl s₁ (I.go st)) (fun _ _ y => ⟨st.trans y.1, y.2⟩) fun _ _ e => e
  | false => exact wpAny_mono (h₂ rfl s₁ (I.go st)) (fun _ _ y => ⟨st.trans y.1, y.2⟩) fun _ _ e => e

theorem Ev.and2 {x y : Expr} {pos : Pos} {b c : Bool} (h₁ : Ev prog w A G F ρ C x (.bool b)) (h₂ : b = true → Ev prog w A G F ρ C y (.bool c)) : Ev prog w A G F ρ C (.BoolOp .And [x, y] pos) (.bool (b && c)) := fun s I => by
  refine wpAny_And2 (wpAny_mono (h₁ s I) (fun v s₁ x₁ => ?_) fun _ _ e => e)
  obtain ⟨st, r⟩ := x₁
  rw [Rep] at r; subst r
  refine wpAny_truthy_bool ?_
  cases b with
  | false => exact ⟨st, by simp [Rep]⟩
  | true => exact wpAny_mono (h₂ rfl s₁ (I.go st)) (fun _ _ y => ⟨st.trans y.1, y.2⟩) fun _ _ e => e

theorem Evs.nil : Evs prog w A G F ρ C [] [] := fun s _ _ => args_nil ⟨Step.refl s, Reps.nil⟩
theorem Evs.cons {e : Expr} {es : List Expr} {d : D} {ds : List D} (h : Ev prog w A G F ρ C e d) (hs : Evs prog w A G F ρ C es ds)
    (he : starEach (e :: es) F.env = (false, eval e F.env) :: starEach es F.env := by first | rfl | with_unfolding_all rfl) : Evs prog w A G F ρ C (e :: es) (d :: ds) := fun s pos I =>
  args_cons (wpAny_mono (h s I) (fun v s₁ x => wpAny_mono (hs s₁ pos (I.go x.1)) (fun vs s₂ y => ⟨x.1.trans y.1, Reps.cons (x.2.step (I.go x.1).okO y.1) y.2⟩) fun _ _ e => e) fun _ _ e => e) he

theorem newList_rep {O : List Addr} {ds : List D} {vs : List Value} {s : Shared} (g : OkO O s.heap) (r : Reps O s.heap ds vs) :
    Step s { s with heap := s.heap.push { cls := .type "list", data := .seq vs.toArray } } ∧ Rep O (s.heap.push { cls := .type "list", data := .seq vs.toArray }) (.list ds) (.ref s.heap.objs.size) := by
  refine ⟨Step.push, ?_⟩
  rw [Rep]
  exact ⟨_, vs, rfl, g.fresh (get?_size _), ⟨_, Heap.get?_push_size _ rfl, rfl, _, rfl⟩, r.step (s' := { s with heap := s.heap.push _ }) g Step.push⟩
theorem newTuple_rep {O : List Addr} {ds : List D} {vs : List Value} {s : Shared} (g : OkO O s.heap) (r : Reps O s.heap ds vs) :
    Step s { s with heap := s.heap.push { cls := .type "tuple", data := .seq vs.toArray } } ∧ Rep O (s.heap.push { cls := .type "tuple", data := .seq vs.toArray }) (.tuple ds) (.ref s.heap.objs.size) := by
  refine ⟨Step.push, ?_⟩
  rw [Rep]
  exact ⟨_, vs, rfl, g.fresh (get?_size _), ⟨_, Heap.get?_push_size _ rfl, rfl, _, rfl⟩, r.step (s' := { s with heap := s.heap.push _ }) g Step.push⟩

theorem Ev.list {es : List Expr} {ds : List D} {pos : Pos} (h : Evs prog w A G F ρ C es ds) (hz : ds.length ≤ sizeLine := by size_fits) : Ev prog w A G F ρ C (.List es pos) (.list ds) := fun s I =>
  List_ (wpAny_mono (h s pos I) (fun vs s₁ x => wpAny_newObj_type (by
    have := newList_rep (I.go x.1).okO x.2
    exact ⟨x.1.trans this.1, this.2⟩) (by show vs.toArray.size ≤ sizeLine; rw [List.size_toArray, x.2.length]; exact hz)) fun _ _ e => e)
theorem Ev.tuple {es : List Expr} {ds : List D} {k : Nat} {pos : Pos} (h : Evs prog w A G F ρ C es ds) (hz : ds.length ≤ sizeLine := by size_fits) : Ev prog w A G F ρ C (.Tuple es k pos) (.tuple ds) := fun s I =>
  Tuple_ (wpAny_mono (h s pos I) (fun vs s₁ x => wpAny_newObj_type (by
    have := newTuple_rep (I.go x.1).okO x.2
    exact ⟨x.1.trans this.1, this.2⟩) (by show vs.toArray.size ≤ sizeLine; rw [List.size_toArray, x.2.length]; exact hz)) fun _ _ e => e)

/-! calls -/
theorem Ev.callDef {f : Addr} {o : Obj} {fd : FuncData} {fe e : Expr} {es : List Expr} {ds : List D} {d : D} {pos : Pos} (hf : Ev prog w A G F ρ C fe (.raw (.ref f))) (ho : G.h.get? f = some o) (hd : o.data = .func fd)
    (ha : Evs prog w A G F ρ C (e :: es) ds) (h : CallOk prog w A G F.O (.ref f) ds d)
    (hc : eval (.Call fe (e :: es) [] pos) F.env = (do callWith pos (← eval fe F.env) [] (backTo pos (starEach (e :: es) F.env)) (backToKw pos (keywordEach [] F.env))) := by first | rfl | with_unfolding_all rfl)
    (he : starEach (e :: es) F.env = (false, eval e F.env) :: starEach es F.env := by first | rfl | with_unfolding_all rfl) : Ev prog w A G F ρ C (.Call fe (e :: es) [] pos) d := fun s I =>
  Call_ (wpAny_mono (hf s I) (fun fv s₁ x => by
    obtain ⟨st, r⟩ := x
    rw [Rep] at r; subst r
    refine callWith_def hd (wpAny_mono (ha s₁ pos (I.go st)) (fun vs s₂ y => ?_) fun _ _ e => e) he
    have I₂ := (I.go st).go y.1
    exact ⟨I₂.gi.keep _ _ ho, wpAny_mono (h s₂ vs I₂.gi I₂.okO y.2) (fun _ _ z => ⟨(st.trans y.1).trans z.1, z.2⟩) fun _ _ e => e⟩) fun _ _ e => e) hc
theorem Ev.callBlt {id : String} {fe e : Expr} {es : List Expr} {ds : List D} {d : D} {pos : Pos} (hf : Ev prog w A G F ρ C fe (.raw (.builtin id)))
    (ha : Evs prog w A G F ρ C (e :: es) ds) (h : CallOk prog w A G F.O (.builtin id) ds d)
    (hc : eval (.Call fe (e :: es) [] pos) F.env = (do callWith pos (← eval fe F.env) [] (backTo pos (starEach (e :: es) F.env)) (backToKw pos (keywordEach [] F.env))) := by first | rfl | with_unfolding_all rfl)
    (he : starEach (e :: es) F.env = (false, eval e F.env) :: starEach es F.env := by first | rfl | with_unfolding_all rfl)
    (hplain : (backTo pos (starEach es F.env)).any (·.1) = false := by first | rfl | with_unfolding_all rfl) : Ev prog w A G F ρ C (.Call fe (e :: es) [] pos) d := fun s I =>
  Call_ (wpAny_mono (hf s I) (fun fv s₁ x => by
    obtain ⟨st, r⟩ := x
    rw [Rep] at r; subst r
    refine callWith_builtin1 (wpAny_mono (ha s₁ pos (I.go st)) (fun vs s₂ y => ?_) fun _ _ e => e) he hplain
    have I₂ := (I.go st).go y.1
    exact wpAny_mono (h s₂ vs I₂.gi I₂.okO y.2) (fun _ _ z => ⟨(st.trans y.1).trans z.1, z.2⟩) fun _ _ e => e) fun _ _ e => e) hc
theorem Ev.callTyp {T : String} {fe e : Expr} {es : List Expr} {ds : List D} {d : D} {pos : Pos} (hf : Ev prog w A G F ρ C fe (.raw (.type T)))
    (ha : Evs prog w A G F ρ C (e :: es) ds) (h : CallOk prog w A G F.O (.type T) ds d)
    (hc : eval (.Call fe (e :: es) [] pos) F.env = (do callWith pos (← eval fe F.env) [] (backTo pos (starEach (e :: es) F.env)) (backToKw pos (keywordEach [] F.env))) := by first | rfl | with_unfolding_all rfl)
    (he : starEach (e :: es) F.env = (false, eval e F.env) :: starEach es F.env := by first | rfl | with_unfolding_all rfl)
    (hplain : (backTo pos (starEach (e :: es) F.env)).any (·.1) = false := by first | rfl | with_unfolding_all rfl) : Ev prog w A G F ρ C (.Call fe (e :: es) [] pos) d := fun s I =>
  Call_ (wpAny_mono (hf s I) (fun fv s₁ x => by
    obtain ⟨st, r⟩ := x
    rw [Rep] at r; subst r
    refine PyProof.Rows.callWith_type hplain ?_
    have key : wpAny (model prog w) A (spliced (backTo pos (starEach (e :: es) F.env))) (fun vs s₂ => wpAny (model prog w) A (call (.type T) vs []) (fun v s' => Step s s' ∧ Rep F.O s'.heap d v) noE s₂) noE s₁ := by
      refine wpAny_mono (ha s₁ pos (I.go st)) (fun vs s₂ y => ?_) fun _ _ e => e
      have I₂ := (I.go st).go y.1
      exact wpAny_mono (h s₂ vs I₂.gi I₂.okO y.2) (fun _ _ z => ⟨(st.trans y.1).trans z.1, z.2⟩) fun _ _ e => e
    rw [he] at key ⊢
    exact evalArgs_plain key) fun _ _ e => e) hc

/-! subscripts -/
noncomputable def SubOk (prog : Program) (w : World) (A : Around) (G : GData) (O : List Addr) (slice : Expr) (d₁ d₂ d : D) : Prop :=
  ∀ s v₁ v₂ value, GI G s → OkO O s.heap → Rep O s.heap d₁ v₁ → Rep O s.heap d₂ v₂ → wpAny (model prog w) A (subscriptTail value slice v₁ v₂) (fun v s' => Step s s' ∧ Rep O s'.heap d v) noE s
theorem Ev.sub {value slice : Expr} {pos : Pos} {d₁ d₂ d : D} (h₁ : Ev prog w A G F ρ C value d₁) (h₂ : Ev prog w A G F ρ C slice d₂) (h : SubOk prog w A G F.O slice d₁ d₂ d) :
    Ev prog w A G F ρ C (.Subscript value slice pos) d := fun s I =>
  Subscript_ (wpAny_mono (h₁ s I) (fun v₁ s₁ x₁ => wpAny_mono (h₂ s₁ (I.go x₁.1)) (fun v₂ s₂ x₂ =>
    wpAny_mono (h s₂ v₁ v₂ value (I.gi.step (x₁.1.trans x₂.1)) ((I.go x₁.1).go x₂.1).okO (x₁.2.step (I.go x₁.1).okO x₂.1) x₂.2) (fun v s₃ x₃ => ⟨(x₁.1.trans x₂.1).trans x₃.1, x₃.2⟩) fun _ _ e => e) fun _ _ e => e) fun _ _ e => e)
end
end
section
set_option Elab.async false
set_option maxRecDepth 100000

open PySem.Calls

/-! statements -/

noncomputable def Then (prog : Program) (w : World) (A : Around) (env : Env) (rest : List Stmt) (Q : Flow → Shared → Prop) : Flow → Shared → Prop
  | .next, s' => wpAny (model prog w) A (execs rest env) Q noE s'
  | f, s' => Q f s'

section
variable {prog : Program} {w : World} {A : Around} {G : GData} {F : Fm} {ρ ρ' : List (Str × D)} {C C' : List (Addr × List D)} {s : Shared} {Q : Flow → Shared → Prop} {rest : List Stmt}

theorem x_assign {x : Str} {d : D} {e : Expr} {p pos : Pos} (I : Inv G F ρ C s) (he : Ev prog w A G F ρ C e d) (hp : MayPut F x) (P : PutTo x d ρ ρ')
    (h : ∀ s', Inv G F ρ' C s' → wpAny (model prog w) A (execs rest F.env) Q noE s') (hs : swapsWith e (some (.Name x p)) pos.line F.env = pure false := by first | rfl | with_unfolding_all rfl) :
    wpAny (model prog w) A (execs (.Assign [.Name x p] e pos :: rest) F.env) Q noE s :=
  wpAny_execs_cons (wpAny_Assign_Name (wpAny_mono (he s I) (fun v s₁ y => (I.go y.1).store hp P y.2 fun s' I' => h s' I') fun _ _ e => e) hs)

theorem x_ret {d : D} {e : Expr} {pos : Pos} (I : Inv G F ρ C s) (he : Ev prog w A G F ρ C e d)
    (h : ∀ s' v, Inv G F ρ C s' → Rep F.O s'.heap d v → Q (.ret v) s') : wpAny (model prog w) A (execs (.Return (some e) pos :: rest) F.env) Q noE s :=
  wpAny_execs_cons (wpAny_Return_some (wpAny_mono (he s I) (fun v s₁ y => h s₁ v (I.go y.1) y.2) fun _ _ e => e))

theorem x_nil (h : Q .next s) : wpAny (model prog w) A (execs [] F.env) Q noE s := wpAny_execs_nil h
theorem x_cont {pos : Pos} (h : Q .cont s) : wpAny (model prog w) A (execs (.Continue pos :: rest) F.env) Q noE s := wpAny_execs_cons (wpAny_Continue h)

theorem x_if {b : Bool} {t : Expr} {body orelse : List Stmt} {pos : Pos} (I : Inv G F ρ C s) (ht : Tr prog w A G F ρ C t b)
    (h₁ : b = true → ∀ s', Inv G F ρ C s' → wpAny (model prog w) A (execs body F.env) (Then prog w A F.env rest Q) noE s')
    (h₂ : b = false → ∀ s', Inv G F ρ C s' → wpAny (model prog w) A (execs orelse F.env) (Then prog w A F.env rest Q) noE s') :
    wpAny (model prog w) A (execs (.If t body orelse pos :: rest) F.env) Q noE s := by
  refine wpAny_execs_cons (wpAny_If (wpAny_mono (ht s I) (fun b' s₁ y => ?_) fun _ _ e => e))
  obtain ⟨st, rfl⟩ := y
  cases b' with
  | true => exact wpAny_mono (h₁ rfl s₁ (I.go st)) (fun f s' z => by cases f <;> exact z) fun _ _ e => e
  | false => exact wpAny_mono (h₂ rfl s₁ (I.go st)) (fun f s' z => by cases f <;> exact z) fun _ _ e => e

/-- an if whose two ways meet -/
theorem x_ifJ (ρ' : List (Str × D)) (C' : List (Addr × List D)) {b : Bool} {t : Expr} {body orelse : List Stmt} {pos : Pos} (I : Inv G F ρ C s) (ht : Tr prog w A G F ρ C t b)
    (h₁ : b = true → ∀ s', Inv G F ρ C s' → wpAny (model prog w) A (execs body F.env) (fun f s' => f = .next ∧ Inv G F ρ' C' s') noE s')
    (h₂ : b = false → ∀ s', Inv G F ρ C s' → wpAny (model prog w) A (execs orelse F.env) (fun f s' => f = .next ∧ Inv G F ρ' C' s') noE s')
    (h : ∀ s', Inv G F ρ' C' s' → wpAny (model prog w) A (execs rest F.env) Q noE s') :
    wpAny (model prog w) A (execs (.If t body orelse pos :: rest) F.env) Q noE s :=
  x_if I ht (fun e s' I' => wpAny_mono (h₁ e s' I') (fun f s'' z => by obtain ⟨rfl, z⟩ := z; exact h s'' z) fun _ _ e => e)
    (fun e s' I' => wpAny_mono (h₂ e s' I') (fun f s'' z => by obtain ⟨rfl, z⟩ := z; exact h s'' z) fun _ _ e => e)

theorem x_aug {x : Str} {d₀ d₁ d : D} {op : Operator} {e : Expr} {p pos : Pos} (I : Inv G F ρ C s) (hx : (x, d₀) ∈ ρ) (he : Ev prog w A G F ρ C e d₁) (ho : Op2 prog w A G F.O (inplaceOp op) d₀ d₁ d) (hp : MayPut F x) (P : PutTo x d ρ ρ')
    (h : ∀ s', Inv G F ρ' C s' → wpAny (model prog w) A (execs rest F.env) Q noE s') : wpAny (model prog w) A (execs (.AugAssign (.Name x p) op e pos :: rest) F.env) Q noE s :=
  wpAny_execs_cons (wpAny_AugAssign_Name (I.load hx fun v₀ r₀ => wpAny_mono (he s I) (fun v₁ s₁ y => wpAny_mono (ho s₁ v₀ v₁ (I.go y.1).gi (I.go y.1).okO (r₀.step I.okO y.1) y.2)
    (fun v s₂ z => ((I.go y.1).go z.1).store hp P z.2 fun s' I' => h s' I') fun _ _ e => e) fun _ _ e => e))

/-! several names at once -/
inductive PutAll : List (Str × D) → List (Str × D) → List (Str × D) → Prop
  | nil {ρ : List (Str × D)} : PutAll [] ρ ρ
  | cons {x : Str} {d : D} {r ρ ρ₁ ρ₂ : List (Str × D)} : PutTo x d ρ ρ₁ → PutAll r ρ₁ ρ₂ → PutAll ((x, d) :: r) ρ ρ₂

theorem stores {M : Model} {Q : Unit → Shared → Prop} (f : Str → Value → Sem Unit) (hf : ∀ x v s Q, wpAny M A (storeName F.env x v) Q noE s → wpAny M A (f x v) Q noE s) :
    ∀ {xs : List (Str × D)} {vs : List Value} {ρ ρ' : List (Str × D)} {s : Shared}, PutAll xs ρ ρ' → (∀ p ∈ xs, MayPut F p.1) → Inv G F ρ C s → Reps F.O s.heap (xs.map (·.2)) vs →
      (∀ s', Inv G F ρ' C s' → Q () s') → wpAny M A (assignInOrder (xs.map fun p => f p.1) vs) Q noE s
  | [], vs, ρ, ρ', s, P, hp, I, r, h => by
    cases P
    exact assignInOrder_nil (h s I)
  | (x, d) :: xs, vs, ρ, ρ', s, P, hp, I, r, h => by
    rw [List.map_cons, Reps] at r
    obtain ⟨v, t, rfl, h1, h2⟩ := r
    cases P with
    | cons P1 P2 =>
      refine assignInOrder_cons (hf _ _ _ _ ?_)
      -- the rest of the values is borne behind the store as well
      rcases hp (x, d) (.head _) with hk | ⟨c, hc⟩
      · obtain ⟨m, hn⟩ := I.ns
        refine wpAny_storeName_local hk hn (fun h' hn' hs => ?_) (by rw [I.kind]; rfl)
        refine stores f hf P2 (fun p hq => hp p (.tail _ hq)) (I.putLocal hk P1 h1 hn hn' hs) (h2.but hs fun o xs n e q => ?_) h
        obtain ⟨es, ep, h3⟩ := ns_data hn o e; rw [q] at h3; cases h3
      · obtain ⟨k1, k2, ⟨u, k3⟩, k4, k5⟩ := I.W _ hc
        refine wpAny_storeName_cell I.kind k1 k2 k3 fun h' hc' hs => ?_
        refine stores f hf P2 (fun p hq => hp p (.tail _ hq)) (I.putCell hc P1 h1 hc' hs) (h2.but hs fun o xs n e q => ?_) h
        obtain ⟨o', e', hd⟩ := k3
        dsimp only at e'
        rw [e] at e'; cases e'; rw [q] at hd; cases hd

/-! iterators -/

structure Nx (b₀ s s' : Shared) : Prop where
  step : ∀ base, Step base b₀ → Step base s → Step base s'
  keep : ∀ b o, b ∉ tabs → (∀ vs, o.data ≠ .fields vs) → s.heap.get? b = some o → s'.heap.get? b = some o

theorem Nx.rep {b₀ s s' : Shared} {O : List Addr} {d : D} {v : Value} (x : Nx b₀ s s') (ho : ∀ a ∈ tabs, a ∈ O) (r : Rep O s.heap d v) : Rep O s'.heap d v :=
  Rep.mono (fun b o xs n hb hd e => x.keep b o (fun q => hb (ho b q)) (fun vs q => by rw [hd] at q; cases q) e) (fun _ ha => .inl ha) d v r
theorem Nx.reps {b₀ s s' : Shared} {O : List Addr} {d : List D} {v : List Value} (x : Nx b₀ s s') (ho : ∀ a ∈ tabs, a ∈ O) (r : Reps O s.heap d v) : Reps O s'.heap d v :=
  Reps.mono (fun b o xs n hb hd e => x.keep b o (fun q => hb (ho b q)) (fun vs q => by rw [hd] at q; cases q) e) (fun _ ha => .inl ha) d v r

theorem Inv.nx {b₀ s' : Shared} (I : Inv G F ρ C s) (hb : Step F.base b₀) (x : Nx b₀ s s') (hkp : F.kp s') : Inv G F ρ C s' where
  step := x.step _ hb I.step
  gb := I.gb
  okO := ⟨I.okO.tabs, (I.gb.step (x.step _ hb I.step)).tab.there, fun a ha z => let ⟨o, xs, n, e, hd⟩ := I.okO.live a ha z; ⟨o, xs, n, x.keep a o z (fun vs q => by rw [hd] at q; cases q) e, hd⟩⟩
  kind := I.kind
  glob := I.glob
  blt := I.blt
  ns := by
    obtain ⟨m, o, es, ep, h1, h2, h3⟩ := I.ns
    exact ⟨m, o, es, ep, x.keep _ _ I.offTab (fun vs q => by rw [h2] at q; cases q) h1, h2, h3⟩
  new := I.new
  offTab := I.offTab
  nd := I.nd
  vars := fun p hp => by
    obtain ⟨v, h1, h2⟩ := I.vars p hp
    obtain ⟨m, hn⟩ := I.ns
    refine ⟨v, h1.keeps (fun o e => ?_) (fun c w _ q => ?_), x.rep I.okO.tabs h2⟩
    · obtain ⟨es, ep, h3⟩ := ns_data hn o e
      exact x.keep _ _ I.offTab (fun vs q => by rw [h3] at q; cases q) e
    · have := cell_offTab I.gi.tab q
      obtain ⟨o, e, r⟩ := q
      exact ⟨o, x.keep _ _ this (fun vs q => by rw [r] at q; cases q) e, r⟩
  W := fun p hp => by
    obtain ⟨h1, h2, ⟨v, q⟩, h4, h5⟩ := I.W p hp
    refine ⟨h1, h2, ?_, h4, h5⟩
    obtain ⟨o, e, r⟩ := q
    exact ⟨v, o, x.keep _ _ h5 (fun vs q => by rw [r] at q; cases q) e, r⟩
  apart := I.apart
  own := fun p hp => by
    obtain ⟨h1, h2, h3, vs, h4, h5⟩ := I.own p hp
    refine ⟨h1, h2, h3, vs, ?_, x.reps I.okO.tabs h5⟩
    obtain ⟨n, e⟩ := h4
    exact ⟨n, x.keep _ _ h3 (fun vs q => by cases q) e⟩
  ownNd := I.ownNd
  kpGo := I.kpGo
  kpBut := I.kpBut
  kp := hkp
  okL := I.okL
  okW := I.okW
  okOwn := I.okOwn

/-- an object that is no iterator, and no list or tuple that is not hidden -/
noncomputable def KindOk (O : List Addr) (a : Addr) (h : Heap) : Prop := ∀ o, h.get? a = some o → (∀ vs, o.data ≠ .fields vs) ∧ (a ∉ O → ∀ xs n, o.data ≠ .seq xs n)

/-- an iterator, its places told by St; b₀ the state ahead of it, b₁ the one behind its making -/
structure ItOk (prog : Program) (w : World) (A : Around) (G : GData) (O : List Addr) (b₀ b₁ : Shared) (it : Value) (ds : List D) (St : Nat → Shared → Prop) (fl : Prop) : Prop where
  go : ∀ i s s', St i s → Step s s' → St i s'
  but : ∀ i (s : Shared) a h' tk, St i s → Heap.SameBut a s.heap h' → ((fl ∧ KindOk O a s.heap) ∨ b₁.heap.get? a = none) → St i { s with heap := h', toks := tk }
  item : ∀ i (s : Shared) d, ds[i]? = some d → St i s → GI G s → OkO O s.heap → wpAny (model prog w) A (pyNext it) (fun r s' => ∃ v, r = some v ∧ Nx b₀ s s' ∧ St (i + 1) s' ∧ ∀ O', (∀ a ∈ O', a ∈ O ∨ b₁.heap.get? a = none) → Rep O' s'.heap d v) noE s
  done : ∀ (s : Shared), St ds.length s → GI G s → OkO O s.heap → wpAny (model prog w) A (pyNext it) (fun r s' => r = none ∧ Nx b₀ s s') noE s
  self : ∀ i (s : Shared), St i s → wpAny (model prog w) A (pyIter it) (fun v s' => v = it ∧ s' = s) noE s
  owned : ∀ i (s : Shared) target v, St i s → wpAny (model prog w) A (letOwnedTupleGo target it v) (fun _ s' => s' = s) noE s
  gens : ∀ i (s : Shared) gs, St i s → St i { s with gens := gs }

noncomputable def Iters (prog : Program) (w : World) (A : Around) (G : GData) (O : List Addr) (d : D) (ds : List D) : Prop :=
  ∀ s v, GI G s → OkO O s.heap → Rep O s.heap d v → wpAny (model prog w) A (pyIter v) (fun it s' => Step s s' ∧ ∃ St, ItOk prog w A G O s s' it ds St True ∧ St 0 s') noE s
theorem Nx.early {b₀ b₁ s s' : Shared} (x : Nx b₁ s s') (st : Step b₀ b₁) : Nx b₀ s s' := ⟨fun base h1 h2 => x.step base (h1.trans st) h2, x.keep⟩
theorem ItOk.early {O : List Addr} {b₀ b₁ b₂ : Shared} {it : Value} {ds : List D} {St : Nat → Shared → Prop} {fl : Prop} (x : ItOk prog w A G O b₁ b₂ it ds St fl) (st : Step b₀ b₁) : ItOk prog w A G O b₀ b₂ it ds St fl where
  go := x.go
  but := x.but
  item := fun i s d hd h1 h2 h3 => wpAny_mono (x.item i s d hd h1 h2 h3) (fun _ _ ⟨v, e, nx, r⟩ => ⟨v, e, nx.early st, r⟩) fun _ _ e => e
  done := fun s h1 h2 h3 => wpAny_mono (x.done s h1 h2 h3) (fun _ _ ⟨e, nx⟩ => ⟨e, nx.early st⟩) fun _ _ e => e
  self := x.self
  owned := x.owned
  gens := x.gens

noncomputable def IterE (prog : Program) (w : World) (A : Around) (G : GData) (F : Fm) (ρ : List (Str × D)) (C : List (Addr × List D)) (e : Expr) (ds : List D) (fl : Prop) : Prop :=
  ∀ s, Inv G F ρ C s → wpAny (model prog w) A (eval e F.env) (fun v s₁ => wpAny (model prog w) A (pyIter v) (fun it s₂ => Step s s₂ ∧ ∃ St, ItOk prog w A G F.O s s₂ it ds St fl ∧ St 0 s₂) noE s₁) noE s
theorem IterE.of {e : Expr} {d : D} {ds : List D} (he : Ev prog w A G F ρ C e d) (hi : Iters prog w A G F.O d ds) : IterE prog w A G F ρ C e ds True := fun s I =>
  wpAny_mono (he s I) (fun v s₁ y => wpAny_mono (hi s₁ v (I.go y.1).gi (I.go y.1).okO y.2) (fun _ _ ⟨st, St, ok, h0⟩ => ⟨y.1.trans st, St, ok.early y.1, h0⟩) fun _ _ e => e) fun _ _ e => e

/-- the frame, with a place of an iterator kept -/
noncomputable abbrev Fm.with (F : Fm) (P : Shared → Prop) : Fm := { F with kp := fun s => F.kp s ∧ P s }

theorem Inv.keeping {P : Shared → Prop} (I : Inv G F ρ C s) (hP : P s) (go : ∀ s s', P s → Step s s' → P s')
    (but : ∀ (s : Shared) a h' tk, P s → Heap.SameBut a s.heap h' → F.ok a → (∀ o, s.heap.get? a = some o → (∀ vs, o.data ≠ .fields vs) ∧ (a ∉ F.O → ∀ xs n, o.data ≠ .seq xs n)) → SeqStays a s.heap h' → P { s with heap := h', toks := tk }) : Inv G (F.with P) ρ C s :=
  { step := I.step, gb := I.gb, okO := I.okO, kind := I.kind, glob := I.glob, blt := I.blt, ns := I.ns, new := I.new, offTab := I.offTab, nd := I.nd, vars := I.vars, W := I.W, apart := I.apart, own := I.own, ownNd := I.ownNd,
    kpGo := fun s s' k st => ⟨I.kpGo s s' k.1 st, go s s' k.2 st⟩,
    kpBut := fun s a h' tk k hs ho => ⟨I.kpBut s a h' tk k.1 hs ho, but s a h' tk k.2 hs ho.1 ho.2.1 ho.2.2⟩,
    kp := ⟨I.kp, hP⟩, okL := I.okL, okW := I.okW, okOwn := I.okOwn }
theorem Inv.forget {P : Shared → Prop} (go : ∀ s s', F.kp s → Step s s' → F.kp s') (but : ∀ (s : Shared) a h' tk, F.kp s → Heap.SameBut a s.heap h' → Own F a s.heap h' → F.kp { s with heap := h', toks := tk })
    (I : Inv G (F.with P) ρ C s) : Inv G F ρ C s :=
  { step := I.step, gb := I.gb, okO := I.okO, kind := I.kind, glob := I.glob, blt := I.blt, ns := I.ns, new := I.new, offTab := I.offTab, nd := I.nd, vars := I.vars, W := I.W, apart := I.apart, own := I.own, ownNd := I.ownNd,
    kpGo := go, kpBut := but, kp := I.kp.1, okL := I.okL, okW := I.okW, okOwn := I.okOwn }

/-- a frame that keeps no place yet -/
noncomputable abbrev Free (F : Fm) : Prop := ∀ s, F.kp s

theorem x_for (ρs : Nat → List (Str × D)) (Cs : Nat → List (Addr × List D)) {ds : List D} {target iter : Expr} {body : List Stmt} {pos : Pos} (I : Inv G F (ρs 0) (Cs 0) s) (hfree : Free F)
    (hi : IterE prog w A G F (ρs 0) (Cs 0) iter ds True)
    (turn : ∀ P i d s v, ds[i]? = some d → Inv G (F.with P) (ρs i) (Cs i) s → Rep F.O s.heap d v →
      wpAny (model prog w) A (assign target F.env v) (fun _ s₂ => wpAny (model prog w) A (execs body F.env) (fun f s₃ => (f = .next ∨ f = .cont) ∧ Inv G (F.with P) (ρs (i + 1)) (Cs (i + 1)) s₃) noE s₂) noE s)
    (h : ∀ s', Inv G F (ρs ds.length) (Cs ds.length) s' → wpAny (model prog w) A (execs rest F.env) Q noE s')
    (hs : ∀ x, foldedSetIterable iter F.env x = pure x := by intro _; first | rfl | with_unfolding_all rfl) :
    wpAny (model prog w) A (execs (.For target iter body [] pos :: rest) F.env) Q noE s := by
  refine wpAny_execs_cons (wpAny_For (wpAny_mono (hi s I) (fun v s₁ y => wpAny_mono y (fun it s₂ z => ?_) fun _ _ e => e) fun _ _ e => e) hs)
  obtain ⟨st₂, St, ok, h0⟩ := z
  have I₂ := I.go st₂
  refine codeAny_forLoop_any (fun n s' => ∃ i, i ≤ ds.length ∧ n = ds.length - i ∧ Inv G F (ρs i) (Cs i) s' ∧ St i s') ?_ ds.length ⟨0, Nat.zero_le _, rfl, I₂, h0⟩
  rintro n s' ⟨i, hi', rfl, I', hSt⟩
  have kf : ∀ s, F.kp s := hfree
  by_cases hlt : i < ds.length
  · have hd : ds[i]? = some ds[i] := by simp [hlt]
    refine wpAny_mono (ok.item i s' _ hd hSt I'.gi I'.okO) (fun r s₃ q => ?_) fun _ _ e => e.elim
    obtain ⟨v', rfl, nx, hSt', hR⟩ := q
    have I₃ : Inv G F (ρs i) (Cs i) s₃ := I'.nx I.step nx (kf _)
    have I₄ : Inv G (F.with (St (i + 1))) (ρs i) (Cs i) s₃ := I₃.keeping hSt' (ok.go (i + 1)) (fun s a h' tk p hs _ k _ => ok.but (i + 1) s a h' tk p hs (.inl ⟨trivial, k⟩))
    refine wpAny_mono (ok.owned (i + 1) s₃ target v' hSt') (fun _ s₄ e => ?_) fun _ _ e => e.elim
    subst e
    refine wpAny_mono (turn (St (i + 1)) i _ _ v' hd I₄ (hR _ fun _ h => .inl h)) (fun _ s₅ z => wpAny_mono z (fun f s₆ z => ?_) fun _ _ e => e.elim) fun _ _ e => e.elim
    obtain ⟨hf, I₆⟩ := z
    have key : ∃ m, m < ds.length - i ∧ ∃ j, j ≤ ds.length ∧ m = ds.length - j ∧ Inv G F (ρs j) (Cs j) s₆ ∧ St j s₆ :=
      ⟨ds.length - (i + 1), by omega, i + 1, by omega, rfl, I₆.forget (fun _ _ _ _ => kf _) (fun _ _ _ _ _ _ _ => kf _), I₆.kp.2⟩
    rcases hf with rfl | rfl <;> exact key
  · have : i = ds.length := by omega
    subst this
    refine wpAny_mono (ok.done s' hSt I'.gi I'.okO) (fun r s₃ q => ?_) fun _ _ e => e.elim
    obtain ⟨rfl, nx⟩ := q
    exact wpAny_execs_nil (h s₃ (I'.nx I.step nx (kf _)))

/-- the same, the target one name -/
theorem x_forN (ρs ρt : Nat → List (Str × D)) (Cs : Nat → List (Addr × List D)) {x : Str} {px : Pos} {ds : List D} {iter : Expr} {body : List Stmt} {pos : Pos} (I : Inv G F (ρs 0) (Cs 0) s) (hfree : Free F)
    (hi : IterE prog w A G F (ρs 0) (Cs 0) iter ds True) (hp : MayPut F x) (hput : ∀ i d, ds[i]? = some d → PutTo x d (ρs i) (ρt i))
    (turn : ∀ P i d s, ds[i]? = some d → Inv G (F.with P) (ρt i) (Cs i) s → wpAny (model prog w) A (execs body F.env) (fun f s₃ => (f = .next ∨ f = .cont) ∧ Inv G (F.with P) (ρs (i + 1)) (Cs (i + 1)) s₃) noE s)
    (h : ∀ s', Inv G F (ρs ds.length) (Cs ds.length) s' → wpAny (model prog w) A (execs rest F.env) Q noE s')
    (hs : ∀ x, foldedSetIterable iter F.env x = pure x := by intro _; first | rfl | with_unfolding_all rfl) :
    wpAny (model prog w) A (execs (.For (.Name x px) iter body [] pos :: rest) F.env) Q noE s :=
  x_for ρs Cs I hfree hi (fun P i d s v hd I' hR => wpAny_assign_Name (I'.store (F := F.with P) hp (hput i d hd) hR fun s' I'' => turn P i d s' hd I'')) h hs

/-- a while, a turn or its end -/
theorem x_while (J : Nat → List (Str × D) → List (Addr × List D) → Prop) {t : Expr} {body : List Stmt} {pos : Pos} (n : Nat) (I : Inv G F ρ C s) (h0 : J n ρ C)
    (turn : ∀ n ρ C s, J n ρ C → Inv G F ρ C s → ∃ b, Tr prog w A G F ρ C t b ∧ (b = true → ∀ s', Inv G F ρ C s' → wpAny (model prog w) A (execs body F.env) (fun f s₃ => (f = .next ∨ f = .cont) ∧ ∃ m ρ' C', m < n ∧ J m ρ' C' ∧ Inv G F ρ' C' s₃) noE s') ∧
      (b = false → ∀ s', Inv G F ρ C s' → wpAny (model prog w) A (execs rest F.env) Q noE s')) :
    wpAny (model prog w) A (execs (.While t body [] pos :: rest) F.env) Q noE s := by
  refine wpAny_execs_cons (wpAny_While ?_)
  refine codeAny_whileLoop (fun k s' => ∃ ρ C, J k ρ C ∧ Inv G F ρ C s') ?_ n ⟨ρ, C, h0, I⟩
  rintro k s' ⟨ρ, C, hJ, I'⟩
  obtain ⟨b, ht, h1, h2⟩ := turn k ρ C s' hJ I'
  refine wpAny_mono (ht s' I') (fun b' s₁ y => ?_) fun _ _ e => e.elim
  obtain ⟨st, rfl⟩ := y
  cases b' with
  | true =>
    refine wpAny_mono (h1 rfl s₁ (I'.go st)) (fun f s₃ z => ?_) fun _ _ e => e.elim
    obtain ⟨hf, m, ρ', C', hm, hJ', I₃⟩ := z
    rcases hf with rfl | rfl <;> exact ⟨m, hm, ρ', C', hJ', I₃⟩
  | false => exact wpAny_execs_nil (h2 rfl s₁ (I'.go st))
end
end
section
set_option Elab.async false
set_option maxRecDepth 100000

open PySem.Calls

theorem step_extBut {base s : Shared} {a : Addr} {h' : Heap} {tk : Nat} (st : Step base s) (t : TabOk s.heap) (hb : base.heap.get? a = none) (ha : a ∉ tabs) (hc : ∀ o, s.heap.get? a = some o → o.cls ≠ .none)
    (hcode : ∀ o, s.heap.get? a = some o → ∀ vs, o.data = .fields vs → ∀ q t, vs[1]? ≠ some (.str q t)) (hs : Heap.ExtBut a s.heap h') : Step base { s with heap := h', toks := tk } := by
  refine ⟨fun b o hq e => ?_, fun q => t.of_kept (fun P hP o e => hs P o (fun z => ha (z ▸ hP)) e) fun b o vs e hd hh => hs b o (fun z => ?_) e, st.os, st.gens⟩
  · have hne : b ≠ a := fun e' => by rw [e', hb] at e; cases e
    exact hs b o hne (st.keep b o hq e)
  · rcases hh with hh | ⟨q, tt, hh⟩
    · exact hc o (z ▸ e) hh
    · exact hcode o (z ▸ e) vs hd q tt hh
theorem nx_extBut {b₀ s : Shared} {a : Addr} {h' : Heap} {tk : Nat} (t : TabOk s.heap) (hb : b₀.heap.get? a = none) (ha : a ∉ tabs) (hf : ∀ o, s.heap.get? a = some o → (∃ vs, o.data = .fields vs) ∧ o.cls ≠ .none)
    (hcode : ∀ o, s.heap.get? a = some o → ∀ vs, o.data = .fields vs → ∀ q t, vs[1]? ≠ some (.str q t)) (hs : Heap.ExtBut a s.heap h') : Nx b₀ s { s with heap := h', toks := tk } := by
  refine ⟨fun base h1 h2 => step_extBut h2 t ?_ ha (fun o e => (hf o e).2) hcode hs, fun b o _ hd e => hs b o (fun q => ?_) e⟩
  · cases q : base.heap.get? a with
    | none => rfl
    | some o => have := h1.keep a o ha q; rw [hb] at this; cases this
  · obtain ⟨⟨vs, h⟩, _⟩ := hf o (q ▸ e)
    exact hd vs h

theorem fresh_offTab {h : Heap} {a : Addr} (t : TabOk h) (e : h.get? a = none) : a ∉ tabs := fun q => by
  obtain ⟨o, e'⟩ := t.there a q; rw [e] at e'; cases e'

theorem owned_any {prog : Program} {w : World} {A : Around} {s : Shared} {I : Addr} {o : Obj} {T : String} {target : Expr} {v : Value} (e : s.heap.get? I = some o) (hc : o.cls = .type T)
    (hT : (["enumerate", "zip", "dict_itemiterator", "dict_reverseitemiterator", "odict_iterator", "itertools.zip_longest", "itertools.pairwise"] : List String).contains T = false) :
    wpAny (model prog w) A (letOwnedTupleGo target (.ref I) v) (fun _ s' => s' = s) noE s := by
  unfold letOwnedTupleGo
  split
  all_goals first
    | exact wpAny_pure rfl
    | (cases v with
       | ref a =>
         refine wpAny_bind (wpAny_load e ?_)
         rw [hc]
         split
         · rename_i hn _
           cases hn
           simp only [hT, Bool.false_and, Bool.false_eq_true, if_false]
           exact wpAny_pure rfl
         · exact wpAny_pure rfl
       | _ => exact wpAny_pure rfl)

section
variable {prog : Program} {w : World} {A : Around} {G : GData} {F : Fm} {ρ ρ' : List (Str × D)} {C C' : List (Addr × List D)} {s : Shared} {O : List Addr}

theorem iters_list (hh : A.handled = none) {ds : List D} : Iters prog w A G O (.list ds) ds := fun s v g ho r => by
  rw [Rep] at r
  obtain ⟨a, vs, rfl, haO, hl, hr⟩ := r
  refine wpAny_pyIter_list hl ?_
  have hfr : s.heap.get? s.heap.objs.size = none := get?_size _
  have hIt := fresh_offTab g.tab hfr
  have hIO := ho.fresh hfr
  have hat : a ∉ tabs := fun q => haO (ho.tabs a q)
  have hl₁ : (s.heap.push { cls := .type "list_iterator", data := .fields #[.ref a, .int 0 0] }).IsList a (List.toArray vs) := hl.push _
  have hr₁ : Reps O (s.heap.push { cls := .type "list_iterator", data := .fields #[.ref a, .int 0 0] }) ds vs := Reps.step (s' := { s with heap := s.heap.push _ }) hr ho Step.push
  have hI₁ : (s.heap.push { cls := .type "list_iterator", data := .fields #[.ref a, .int 0 0] }).IsListIter s.heap.objs.size a 0 := ⟨_, Heap.get?_push_size _ rfl, rfl, rfl⟩
  generalize hH : s.heap.push { cls := .type "list_iterator", data := .fields #[.ref a, .int 0 0] } = H at hl₁ hr₁ hI₁ ⊢
  have hst : Step s { s with heap := H } := by rw [← hH]; exact Step.push
  refine ⟨hst, fun i s' => s'.heap.IsListIter s.heap.objs.size a i ∧ ∀ b o xs n, b ∉ O → H.get? b = some o → o.data = .seq xs n → s'.heap.get? b = some o, ?_, hI₁, fun _ _ _ _ _ e _ => e⟩
  have lst : ∀ {s₁ : Shared}, (∀ b o xs n, b ∉ O → H.get? b = some o → o.data = .seq xs n → s₁.heap.get? b = some o) → s₁.heap.IsList a (List.toArray vs) := fun {s₁} k => by
    obtain ⟨o, e, hc, n, hd⟩ := hl₁
    exact ⟨o, k _ _ _ _ haO e hd, hc, n, hd⟩
  constructor
  · rintro i s₁ s₂ ⟨h1, h2⟩ st
    exact ⟨h1.at fun o e => st.keep _ _ hIt e, fun b o xs n hb e hd => st.keep b o (fun q => hb (ho.tabs b q)) (h2 b o xs n hb e hd)⟩
  · rintro i s₁ b h' tk ⟨h1, h2⟩ hs hk
    have n1 : s.heap.objs.size ≠ b := fun q => by
      rcases hk with ⟨_, hk⟩ | hk
      · obtain ⟨o, e, _, hd⟩ := h1
        exact (hk o (q ▸ e)).1 _ hd
      · obtain ⟨o, e, _⟩ := hI₁
        rw [q] at e; rw [show H.get? b = none from hk] at e; cases e
    refine ⟨h1.at fun o e => (hs.2 _ n1).trans e, fun c o xs n hc e hd => (hs.2 c fun q => ?_).trans (h2 c o xs n hc e hd)⟩
    rcases hk with ⟨_, hk⟩ | hk
    · exact (hk o (q ▸ h2 c o xs n hc e hd)).2 (q ▸ hc) xs n hd
    · rw [q] at e; rw [show H.get? b = none from hk] at e; cases e
  · rintro i s₁ d hd ⟨h1, h2⟩ g₁ o₁
    obtain ⟨x, hx, hR⟩ := hr₁.get hd
    refine wpAny_pyNext_list_item h1 (lst h2) (x := x) (by simpa using hx) fun h' hit hs => ?_
    have nx : Nx s s₁ { s₁ with heap := h' } := nx_extBut (tk := s₁.toks) g₁.tab hfr hIt
      (fun o e => by obtain ⟨o', e', c', q⟩ := h1; rw [e] at e'; cases e'; exact ⟨⟨_, q⟩, by rw [c']; nofun⟩)
      (fun o e us hu q t => by
        obtain ⟨o', e', _, hd'⟩ := h1; rw [e] at e'; cases e'; rw [hu] at hd'; cases hd'; simp) hs.extBut
    have h2' : ∀ b o xs n, b ∉ O → H.get? b = some o → o.data = .seq xs n → h'.get? b = some o := fun b o xs n hb e hd => nx.keep b o (fun q => hb (ho.tabs b q)) (fun vs q => by rw [hd] at q; cases q) (h2 b o xs n hb e hd)
    refine ⟨x, rfl, nx, ⟨hit, h2'⟩, fun O' hO' => ?_⟩
    exact Rep.mono (fun b o xs n hb hd e => h2' b o xs n hb e hd) hO' _ _ hR
  · rintro s₁ ⟨h1, h2⟩ g₁ o₁
    refine wpAny_pyNext_list_end hh h1 (lst h2) (by simp [hr.length]) fun h' hs => ?_
    exact ⟨rfl, nx_extBut (tk := s₁.toks) g₁.tab hfr hIt (fun o e => by obtain ⟨o', e', c', q⟩ := h1; rw [e] at e'; cases e'; exact ⟨⟨_, q⟩, by rw [c']; nofun⟩)
      (fun o e us hu q t => by
        obtain ⟨o', e', _, hd'⟩ := h1; rw [e] at e'; cases e'; rw [hu] at hd'; cases hd'; simp) hs⟩
  · rintro i s₁ ⟨h1, _⟩
    exact wpAny_pyIter_listiter h1 ⟨rfl, rfl⟩
  · rintro i s₁ target v ⟨⟨o, e, hc, _⟩, _⟩
    exact owned_any e hc (by decide)
  · exact fun _ _ _ h => h

theorem iters_bytes (hh : A.handled = none) {b : Array UInt8} : Iters prog w A G O (.bytes b) (b.toList.map fun c => .int (c.toNat : Int)) := fun s v g ho r => by
  rw [Rep] at r
  obtain ⟨t, rfl⟩ := r
  refine KBw.pyIter_bytes ?_
  have hfr : s.heap.get? s.heap.objs.size = none := get?_size _
  have hIt := fresh_offTab g.tab hfr
  refine ⟨Step.push, fun i s' => KBw.IsBytesIter s'.heap s.heap.objs.size b t i, ?_, ?_⟩
  · have kf : ∀ {i} {s₁ : Shared}, KBw.IsBytesIter s₁.heap s.heap.objs.size b t i → ∀ o, s₁.heap.get? s.heap.objs.size = some o → (∃ vs, o.data = .fields vs) ∧ o.cls ≠ .none := fun h1 o e => by
      obtain ⟨o', e', c', q⟩ := h1; rw [e] at e'; cases e'; exact ⟨⟨_, q⟩, by rw [c']; nofun⟩
    have kc : ∀ {i} {s₁ : Shared}, KBw.IsBytesIter s₁.heap s.heap.objs.size b t i → ∀ o, s₁.heap.get? s.heap.objs.size = some o → ∀ vs, o.data = .fields vs → ∀ q t, vs[1]? ≠ some (.str q t) := fun h1 o e us hu q t => by
      obtain ⟨o', e', _, hd'⟩ := h1; rw [e] at e'; cases e'; rw [hu] at hd'; cases hd'; simp
    constructor
    · rintro i s₁ s₂ ⟨o, e, r⟩ st
      exact ⟨o, st.keep _ _ hIt e, r⟩
    · rintro i s₁ a h' tk ⟨o, e, hc, hd⟩ hs hk
      refine ⟨o, (hs.2 _ fun q => ?_).trans e, hc, hd⟩
      rcases hk with ⟨_, hk⟩ | hk
      · exact (hk o (q ▸ e)).1 _ hd
      · rw [← q] at hk
        rw [show (s.heap.push _).get? s.heap.objs.size = some _ from Heap.get?_push_size _ rfl] at hk; cases hk
    · rintro i s₁ d hd h1 g₁ o₁
      obtain ⟨c, hc, rfl⟩ : ∃ c, b[i]? = some c ∧ D.int (c.toNat : Int) = d := by
        rw [List.getElem?_map, Option.map_eq_some_iff] at hd
        obtain ⟨c, hc, rfl⟩ := hd
        exact ⟨c, by simpa using hc, rfl⟩
      refine KBw.next_item h1 hc fun h' hit hs => ?_
      exact ⟨_, rfl, nx_extBut g₁.tab hfr hIt (kf h1) (kc h1) hs.extBut, hit, fun _ _ => by rw [Rep]; exact ⟨_, rfl⟩⟩
    · rintro s₁ h1 g₁ o₁
      refine KBw.next_end hh h1 (by simp) fun h' hs => ?_
      exact ⟨rfl, nx_extBut (tk := s₁.toks) g₁.tab hfr hIt (kf h1) (kc h1) hs⟩
    · rintro i s₁ h1
      exact KBw.pyIter_self h1 ⟨rfl, rfl⟩
    · rintro i s₁ target v ⟨o, e, hc, _⟩
      exact owned_any e hc (by decide)
    · exact fun _ _ _ h => h
  · exact ⟨_, Heap.get?_push_size _ rfl, rfl, rfl⟩
end
end
section
set_option Elab.async false
set_option maxRecDepth 100000

open PySem.Calls

/-! comprehensions -/

theorem codeAny_compLoop_any {prog : Program} {w : World} {A : Around} {R : Result → Shared → Prop} {s : Shared} {elt target iter : Expr} {scope : Scope} {pos : Pos} {it acc : Value} {env : Env} (I : Nat → Shared → Prop)
    (turn : ∀ n s, I n s → wpAny (model prog w) A (pyNext it) (fun r s₁ => match r with
      | none => R (.ok .next) s₁
      | some v => wpAny (model prog w) A (letOwnedTupleGo target it v) (fun _ s₁' => wpAny (model prog w) A (assign target env v) (fun _ s₂ => wpAny (model prog w) A (eval elt env) (fun x s₃ =>
          wpAny (model prog w) A (call (.builtin "list.append") [acc, x]) (fun _ s₄ => ∃ m, m < n ∧ I m s₄) noE s₃) noE s₂) noE s₁') noE s₁) noE s)
    (n : Nat) (h : I n s) :
    codeAny (model prog w) A (.compLoop (.ListComp elt [⟨target, iter, [], 0⟩] scope pos) 0 it acc env) R s := by
  refine codeAny_loop rfl I (fun n s hI => ?_) n h
  show wpAny _ _ ((compTurn (.ListComp elt [⟨target, iter, [], 0⟩] scope pos) 0 it acc env).onRaise (fun x => do noteFrame x env; theTreesLotGoes x)) _ _ s
  refine wpAny_noted ?_
  rw [compTurn_list1]
  refine wpAny_bind (wpAny_standAt (wpAny_bind (wpAny_mono (turn n s hI) (fun r s₁ h₁ => ?_) fun _ _ h' => h'.elim)))
  cases r with
  | none => exact wpAny_pure h₁
  | some v =>
    exact wpAny_bind (wpAny_mono h₁ (fun _ s₁' h₁' => wpAny_bind (wpAny_mono h₁' (fun _ s₂ h₂ => wpAny_bind (wpAny_bind (wpAny_mono h₂ (fun x s₃ h₃ => wpAny_bind (wpAny_mono h₃
      (fun _ s₄ h₄ => wpAny_pure (wpAny_pure ⟨rfl, h₄⟩)) fun _ _ h' => h'.elim)) fun _ _ h' => h'.elim))) fun _ _ h' => h'.elim)) fun _ _ h' => h'.elim)

noncomputable abbrev compFm (F : Fm) (scope : Scope) (cl : List (Str × Addr)) (L Dd : Addr) (b : Shared) (kp : Shared → Prop) (ok : Addr → Prop) : Fm :=
  { env := compEnvC scope cl L F.env, O := Dd :: F.O, W := [], base := b, kp := kp, ok := ok }

/-- a target takes a datum -/
noncomputable def Tgt (prog : Program) (w : World) (A : Around) (G : GData) (F : Fm) (target : Expr) (d : D) (ρ ρ' : List (Str × D)) : Prop :=
  ∀ (C : List (Addr × List D)) (s : Shared) (v : Value) (Q : Unit → Shared → Prop), Inv G F ρ C s → Rep F.O s.heap d v → (∀ s', Inv G F ρ' C s' → Q () s') → wpAny (model prog w) A (assign target F.env v) Q noE s

section
variable {prog : Program} {w : World} {A : Around} {G : GData} {F : Fm} {ρ ρ' ρf : List (Str × D)} {C C' : List (Addr × List D)} {s : Shared} {O : List Addr}

theorem Tgt.name {x : Str} {p : Pos} {d : D} (hp : MayPut F x) (P : PutTo x d ρ ρ') : Tgt prog w A G F (.Name x p) d ρ ρ' := fun _ s v Q I r h => wpAny_assign_Name (I.store hp P r h)

/-- the names that a comprehension sees through its frame's cells -/
noncomputable def Sees (F : Fm) (scope : Scope) (cl : List (Str × Addr)) (ρ ρf : List (Str × D)) : Prop :=
  (ρf.map (·.1)).Nodup ∧ ∀ p ∈ ρf, p ∈ ρ ∧ ((relabel scope F.env).names.lookup p.1 = some .cell ∨ ((relabel scope F.env).names.lookup p.1 = some .free ∧ (p.1 == ("__classdict__" : Str)) = false)) ∧ cl.lookup p.1 = F.env.cells.lookup p.1 ∧ F.env.kindOf p.1 ≠ some .local
theorem Sees.nil {scope : Scope} {cl : List (Str × Addr)} : Sees F scope cl ρ [] := ⟨by simp, by simp⟩
theorem Sees.cons {scope : Scope} {cl : List (Str × Addr)} {x : Str} {d : D} (h : Sees F scope cl ρ ρf) (hx : (x, d) ∈ ρ) (hn : x ∉ ρf.map (·.1))
    (hk : (relabel scope F.env).names.lookup x = some .cell) (hc : cl.lookup x = F.env.cells.lookup x) (hl : F.env.kindOf x = some .cell) : Sees F scope cl ρ ((x, d) :: ρf) := by
  refine ⟨by simp only [List.map_cons, List.nodup_cons]; exact ⟨hn, h.1⟩, fun p hp => ?_⟩
  rcases List.mem_cons.mp hp with rfl | hp
  · exact ⟨hx, .inl hk, hc, by rw [hl]; simp⟩
  · exact h.2 p hp

theorem comp_core {α : Type} {xs : List α} {g r : α → D} {ρt : α → List (Str × D)} {elt target iter : Expr} {scope : Scope} {cl : List (Str × Addr)} {pos ipos : Pos} {use : Option (Value → Sem Unit)} {Q : Value → Shared → Prop}
    (I : Inv G F ρ C s) {fl : Prop} (hi : IterE prog w A G F ρ C iter (xs.map g) fl) (hsee : Sees F scope cl ρ ρf) (hclos : closureFor scope F.env = pure cl) (hap : cl.Pairwise fun x y => x.2 ≠ y.2)
    (htgt : ∀ x ∈ xs, ∀ L Dd b kp ok, Tgt prog w A G (compFm F scope cl L Dd b kp ok) target (g x) ρf (ρt x))
    (hsub : ∀ x ∈ xs, ρf.Sublist (ρt x))
    (helt : ∀ x ∈ xs, ∀ L Dd b kp ok C', Ev prog w A G (compFm F scope cl L Dd b kp ok) (ρt x) C' elt (r x))
    (hQ : ∀ s' v C₀, Step s s' → Rep F.O s'.heap (.list (xs.map r)) v → s.heap.get? C₀ = none → C₀ ∉ tabs → (∃ m, s'.heap.Ns C₀ m) → compPost (model prog w) A noE use Q v C₀ (.ok .next) s')
    (hcell : ∀ y ∈ scope.names, y.2 ≠ .cell) (hkind : scope.kind = .function) (hnames : ∀ y ∈ scope.names, y.2 = .local → scope.names.lookup y.1 = some .local)
    (hz : xs.length ≤ sizeLine) (hs : ∀ x, foldedSetIterable iter F.env x = pure x) :
    wpAny (model prog w) A (comprehension (.ListComp elt [⟨target, iter, [], 0⟩] scope pos) scope F.env ipos (newList []) false (eval iter F.env) use) Q noE s := by
  refine wpAny_comprehension_free (g := ⟨target, iter, [], 0⟩) (gs := []) rfl hs hclos hkind hnames (wpAny_mono (hi s I) (fun v s₁ y => wpAny_mono y (fun it s₂ z => ?_) fun _ _ e => e) fun _ _ e => e)
  obtain ⟨st₂, St, ok, h0⟩ := z
  have I₂ := I.go st₂
  refine wpAny_newObj_type (wpAny_newFunctionEnv hcell (by intro y hy; simp at hy) (fun h₁ hns₁ hsb₁ => ?_) hkind)
  dsimp only at hns₁ hsb₁ ⊢
  generalize hH2 : s₂.heap.push { cls := .type "list", dict := none, data := .seq ([] : List Value).toArray } = H2 at hns₁ hsb₁ ⊢
  have hC : H2.objs.size = s₂.heap.objs.size + 1 := by rw [← hH2, Heap.size_push]
  have hDn : s₂.heap.get? s₂.heap.objs.size = none := get?_size _
  have hLn : s₂.heap.get? H2.objs.size = none := by
    cases e : s₂.heap.get? H2.objs.size with
    | none => rfl
    | some o => have := Heap.lt_size e; rw [hC] at this; exact absurd this (Nat.not_lt.mpr (Nat.le_succ _))
  have hDC : s₂.heap.objs.size ≠ H2.objs.size := by rw [hC]; exact Nat.ne_of_lt (Nat.lt_succ_self _)
  have old : ∀ b o, s₂.heap.get? b = some o → h₁.get? b = some o := fun b o e =>
    hsb₁.extBut b o (fun q => by rw [q, hLn] at e; cases e) (Heap.get?_push_of_some _ (hH2 ▸ Heap.get?_push_of_some _ e))
  have hacc : h₁.PlainList s₂.heap.objs.size (List.toArray []) := by
    refine ⟨_, hsb₁.extBut _ _ hDC (Heap.get?_push_of_some _ (hH2 ▸ Heap.get?_push_size _ rfl))⟩
  generalize hDd : s₂.heap.objs.size = Dd at *
  generalize hLL : H2.objs.size = L at *
  have hDt : Dd ∉ tabs := fresh_offTab I₂.gi.tab hDn
  have hLt : L ∉ tabs := fresh_offTab I₂.gi.tab hLn
  have none₀ : ∀ a, a ∉ tabs → s₂.heap.get? a = none → s.heap.get? a = none := fun a ha e => by
    cases q : s.heap.get? a with
    | none => rfl
    | some o => have := st₂.keep a o ha q; rw [e] at this; cases this
  have hLn₀ := none₀ L hLt hLn
  have hDn₀ := none₀ Dd hDt hDn
  let F₀ : Fm := compFm F scope cl L Dd s (fun _ => True) (fun a => a = L ∨ a = Dd)
  have st₃ : Step s₂ { s₂ with heap := h₁, toks := s₂.toks + ([] : List (Str × Value)).length } := Step.of_keeps old
  have I₃ : Inv G F₀ ρf [(Dd, [])] { s₂ with heap := h₁, toks := s₂.toks + ([] : List (Str × Value)).length } := by
    refine { step := st₂.trans st₃, gb := I.gi, okO := ⟨fun a ha => .tail _ (I₂.okO.tabs a ha), ((I₂.go st₃).gi).tab.there, fun a ha z => ?_⟩, kind := hkind, glob := I.glob, blt := I.blt, ns := ⟨_, hns₁⟩, new := hLn₀, offTab := hLt, nd := hsee.1, vars := fun p hp => ?_, W := by simp [F₀], apart := hap, own := fun p hp => ?_, ownNd := by simp, kpGo := fun _ _ _ _ => trivial, kpBut := fun _ _ _ _ _ _ _ => trivial, kp := trivial, okL := .inl rfl, okW := by simp [F₀], okOwn := fun p hp => ?_ }
    · rcases List.mem_cons.mp ha with rfl | q
      · obtain ⟨o, e, _, n, hd⟩ := hacc.isList; exact ⟨o, _, n, e, hd⟩
      · exact (I₂.go st₃).okO.live a q z
    · obtain ⟨h1, h2, h3, h4⟩ := hsee.2 p hp
      obtain ⟨v, k1, k2⟩ := (I₂.go st₃).vars p h1
      refine ⟨v, .inr ⟨h2, ?_⟩, ?_⟩
      · rcases k1 with ⟨k, _⟩ | ⟨_, c, e, q⟩
        · exact absurd k h4
        · exact ⟨c, h3.trans e, q⟩
      · obtain ⟨v', k1', k2'⟩ := I₂.vars p h1
        have e : v' = v := by
          rcases k1' with ⟨k, _⟩ | ⟨_, c, e, q⟩
          · exact absurd k h4
          · rcases k1 with ⟨k, _⟩ | ⟨_, c', e', q'⟩
            · exact absurd k h4
            · rw [e] at e'; cases e'
              obtain ⟨o, g1, g2⟩ := q
              obtain ⟨o', g1', g2'⟩ := q'
              rw [show h₁.get? c = some o from old _ _ g1] at g1'; cases g1'
              rw [g2] at g2'; cases g2'; rfl
        subst e
        exact Rep.mono (fun b o _ _ _ _ e => old b o e) (fun a ha => by
          rcases List.mem_cons.mp ha with rfl | q
          · exact .inr hDn
          · exact .inl q) _ _ k2'
    · simp only [List.mem_singleton] at hp; subst hp
      exact ⟨.head _, hDn₀, hDt, [], hacc, Reps.nil⟩
    · simp only [List.mem_singleton] at hp; subst hp; exact .inr rfl
  have hst₃ : St 0 { s₂ with heap := h₁, toks := s₂.toks + ([] : List (Str × Value)).length } := ok.go 0 _ _ h0 st₃
  have loop : codeAny (model prog w) A (.compLoop (.ListComp elt [⟨target, iter, [], 0⟩] scope pos) 0 it (.ref Dd) (compEnvC scope cl L F.env)) (compPost (model prog w) A noE use Q (.ref Dd) L) { s₂ with heap := h₁, toks := s₂.toks + ([] : List (Str × Value)).length } := by
    refine codeAny_compLoop_any (fun n s' => ∃ i, i ≤ xs.length ∧ n = xs.length - i ∧ Inv G F₀ ρf [(Dd, (xs.take i).map r)] s' ∧ St i s') ?_ xs.length ⟨0, Nat.zero_le _, rfl, I₃, hst₃⟩
    rintro n s' ⟨i, hle, rfl, I', hSt⟩
    have hokO : OkO F.O s'.heap := ⟨I.okO.tabs, I'.okO.there, fun a ha z => I'.okO.live a (.tail _ ha) z⟩
    by_cases hlt : i < xs.length
    · have hmem : xs[i] ∈ xs := List.getElem_mem hlt
      have hd : (xs.map g)[i]? = some (g xs[i]) := by simp [hlt]
      refine wpAny_mono (ok.item i s' _ hd hSt I'.gi hokO) (fun rr s₄ q => ?_) fun _ _ e => e
      obtain ⟨v', rfl, nx, hSt', hR⟩ := q
      have I₄ : Inv G F₀ ρf [(Dd, (xs.take i).map r)] s₄ := I'.nx (Step.refl s) nx trivial
      have I₅ : Inv G (F₀.with (St (i + 1))) ρf [(Dd, (xs.take i).map r)] s₄ := I₄.keeping hSt' (ok.go (i + 1)) (fun s a h' tk p hs ho k _ => ok.but (i + 1) s a h' tk p hs (.inr (by
        rcases ho with rfl | rfl
        · exact hLn
        · exact hDn)))
      refine wpAny_mono (ok.owned (i + 1) s₄ target v' hSt') (fun _ s₅ e => ?_) fun _ _ e => e
      subst e
      have hR' : Rep (Dd :: F.O) s₅.heap (g xs[i]) v' := hR _ fun a ha => by
        rcases List.mem_cons.mp ha with rfl | q
        · exact .inr hDn
        · exact .inl q
      refine htgt _ hmem L Dd s _ _ _ _ v' _ I₅ hR' fun s₆ I₆ => ?_
      refine wpAny_mono (helt _ hmem L Dd s _ _ _ s₆ I₆) (fun x s₇ z => ?_) fun _ _ e => e
      have I₇ := I₆.go z.1
      obtain ⟨k1, k2, k3, us, k4, k5⟩ := I₇.own _ (.head _)
      dsimp only at k1 k2 k3 k4 k5
      refine wpAny_list_append_plain k4 (fun h' hl hsb => ?_) ?_
      · have I₈ := I₇.setOwn (vs' := us ++ [x]) (ds' := (xs.take i).map r ++ [r xs[i]]) (by simpa using hl) hsb (k5.append (Reps.cons z.2 Reps.nil))
        refine ⟨xs.length - (i + 1), by (first | lia | omega), i + 1, by (first | lia | omega), rfl, ?_, I₈.kp.2⟩
        have e : (xs.take (i + 1)).map r = (xs.take i).map r ++ [r xs[i]] := by
          rw [List.take_succ_eq_append_getElem hlt, List.map_append]; rfl
        rw [e]
        exact (I₈.less (hsub _ hmem)).forget (fun _ _ _ _ => trivial) (fun _ _ _ _ _ _ _ => trivial)
      · have := k5.length
        simp only [List.length_map, List.length_take] at this
        simp only [List.size_toArray]
        (first | lia | omega)
    · have : i = xs.length := by (first | lia | omega)
      subst this
      refine wpAny_mono (ok.done s' (by simpa using hSt) I'.gi hokO) (fun rr s₄ q => ?_) fun _ _ e => e
      obtain ⟨rfl, nx⟩ := q
      have I₄ : Inv G F₀ ρf [(Dd, (xs.take xs.length).map r)] s₄ := I'.nx (Step.refl s) nx trivial
      rw [List.take_length] at I₄
      obtain ⟨k1, k2, k3, us, k4, k5⟩ := I₄.own _ (.head _)
      dsimp only at k1 k2 k3 k4 k5
      refine hQ s₄ _ L I₄.step ?_ hLn₀ hLt I₄.ns
      rw [Rep]
      exact ⟨Dd, us, rfl, (fun q => I₂.okO.fresh hDn q), k4.isList, Reps.mono (fun b o _ _ _ _ e => e) (fun a ha => .inl (.tail _ ha)) _ _ k5⟩
  exact codeAny_compStart_list loop (wpAny_mono (ok.self 0 _ hst₃) (fun it' s' e => by obtain ⟨rfl, rfl⟩ := e; exact loop) fun _ _ e => e.elim)

theorem Ev.comp {α : Type} (xs : List α) (g r : α → D) (ρf : List (Str × D)) (ρt : α → List (Str × D)) (cl : List (Str × Addr)) {elt target iter : Expr} {scope : Scope} {pos : Pos} {fl : Prop}
    (hi : IterE prog w A G F ρ C iter (xs.map g) fl) (hsee : Sees F scope cl ρ ρf) (hclos : closureFor scope F.env = pure cl) (hap : cl.Pairwise fun x y => x.2 ≠ y.2)
    (htgt : ∀ x ∈ xs, ∀ L Dd b kp ok, Tgt prog w A G (compFm F scope cl L Dd b kp ok) target (g x) ρf (ρt x))
    (hsub : ∀ x ∈ xs, ρf.Sublist (ρt x))
    (helt : ∀ x ∈ xs, ∀ L Dd b kp ok C', Ev prog w A G (compFm F scope cl L Dd b kp ok) (ρt x) C' elt (r x))
    (hz : xs.length ≤ sizeLine)
    (hcell : ∀ y ∈ scope.names, y.2 ≠ .cell := by decide) (hkind : scope.kind = .function := by rfl) (hnames : ∀ y ∈ scope.names, y.2 = .local → scope.names.lookup y.1 = some .local := by decide)
    (hs : ∀ x, foldedSetIterable iter F.env x = pure x := by intro _; with_unfolding_all rfl) :
    Ev prog w A G F ρ C (.ListComp elt [⟨target, iter, [], 0⟩] scope pos) (.list (xs.map r)) := fun s I => by
  rw [eval_ListComp]
  refine comp_core (use := Option.none) I hi hsee hclos hap htgt hsub helt (fun s' v C₀ st hR hn ht hns => ?_) hcell hkind hnames hz hs
  obtain ⟨m, hns⟩ := hns
  refine ⟨m, hns, fun h' hsb => ⟨?_, ?_⟩⟩
  · refine step_sameBut (tk := s'.toks) st (I.gi.step st).tab hn ht (fun o e vs q => ?_) hsb
    obtain ⟨es, ep, h3⟩ := ns_data hns o e; rw [q] at h3; cases h3
  · refine hR.but hsb fun o xs n e q => ?_
    obtain ⟨es, ep, h3⟩ := ns_data hns o e; rw [q] at h3; cases h3

theorem Inv.junk {a : Addr} {m : Str → Option Value} {h' : Heap} (I : Inv G F ρ C s) (hns : s.heap.Ns a m) (hs : Heap.SameBut a s.heap h') (hb : F.base.heap.get? a = none) (ha : a ∉ tabs) (hL : F.env.locals ≠ a) (hok : F.ok a) : Inv G F ρ C { s with heap := h' } := by
  have hnd : ∀ o xs n, s.heap.get? a = some o → o.data ≠ .seq xs n := fun o xs n e q => by
    obtain ⟨es, ep, h3⟩ := ns_data hns o e; rw [q] at h3; cases h3
  have hnf : ∀ o, s.heap.get? a = some o → ∀ vs, o.data ≠ .fields vs := fun o e vs q => by
    obtain ⟨es, ep, h3⟩ := ns_data hns o e; rw [q] at h3; cases h3
  have hst : Step F.base { s with heap := h' } := step_sameBut (tk := s.toks) I.step I.gi.tab hb ha (fun o e vs q => absurd q (hnf o e vs)) hs
  obtain ⟨mL, hn⟩ := I.ns
  refine { step := hst, gb := I.gb, okO := ⟨I.okO.tabs, (I.gb.step hst).tab.there, fun b hb z => let ⟨o, xs, n, e, hd⟩ := I.okO.live b hb z; ⟨o, xs, n, (hs.2 b fun q => hnd o xs n (q ▸ e) hd).trans e, hd⟩⟩, kind := I.kind, glob := I.glob, blt := I.blt, ns := ⟨_, hn.sameBut hs hL⟩, new := I.new, offTab := I.offTab, nd := I.nd, vars := fun p hp => ?_, W := fun p hp => ?_, apart := I.apart, own := fun p hp => ?_, ownNd := I.ownNd, kpGo := I.kpGo, kpBut := I.kpBut, kp := I.kpBut s _ h' s.toks I.kp hs ⟨hok, fun o e => ⟨hnf o e, fun _ xs n => hnd o xs n e⟩, fun o xs n e q => absurd q (hnd o xs n e)⟩, okL := I.okL, okW := I.okW, okOwn := I.okOwn }
  · obtain ⟨v', h1, h2⟩ := I.vars p hp
    refine ⟨v', ?_, h2.but hs hnd⟩
    rcases h1 with ⟨k, m', n', e⟩ | ⟨k, c₁, e, q⟩
    · exact .inl ⟨k, _, n'.sameBut hs hL, e⟩
    · exact .inr ⟨k, c₁, e, q.sameBut hs (ns_cell_ne hns q)⟩
  · obtain ⟨h1, h2, ⟨w', q⟩, h4, h5⟩ := I.W p hp
    exact ⟨h1, h2, ⟨w', q.sameBut hs (ns_cell_ne hns q)⟩, h4, h5⟩
  · obtain ⟨h1, h2, h3, vs, h4, h5⟩ := I.own p hp
    have hne : p.1 ≠ a := fun q => by
      obtain ⟨o, e, _, n, hd⟩ := h4.isList
      exact hnd o _ n (q ▸ e) hd
    exact ⟨h1, h2, h3, vs, h4.at fun o e => (hs.2 _ hne).trans e, h5.but hs hnd⟩

theorem blockKind_fn {env : Env} (h : env.scope.kind = .function) : env.blockKind = .function := by unfold Env.blockKind; rw [h]; rfl
theorem swaps_comp {env : Env} {elt target iter : Expr} {scope : Scope} {pos py : Pos} {y : Str} {l : Nat} (hb : env.scope.kind = .function) (hk : env.kindOf y = some .local) (hln : (py.line == pos.line) = true) (hnm : (scope.names.any fun p => p.1 == y && (p.2 == .local || p.2 == .cell)) = false) :
    swapsWith (.ListComp elt [⟨target, iter, [], 0⟩] scope pos) (some (.Name y py)) l env = pure true := by
  show (pure (env.blockKind == .function && env.kindOf y == some .local && py.line == pos.line && !(scope.names.any fun p => p.1 == y && (p.2 == .local || p.2 == .cell))) : Sem Bool) = pure true
  rw [blockKind_fn hb, hk, hln, hnm]; rfl
theorem swaps_cell {env : Env} {elt target iter : Expr} {scope : Scope} {pos py : Pos} {y : Str} {l : Nat} {k : NameKind} (hb : env.scope.kind = .function) (hk : env.kindOf y = some k) (hkl : k ≠ .local) :
    swapsWith (.ListComp elt [⟨target, iter, [], 0⟩] scope pos) (some (.Name y py)) l env = pure false := by
  show (pure (env.blockKind == .function && env.kindOf y == some .local && py.line == pos.line && !(scope.names.any fun p => p.1 == y && (p.2 == .local || p.2 == .cell))) : Sem Bool) = pure false
  have : (env.kindOf y == some .local) = false := by
    rw [hk]
    cases k <;> first | rfl | exact absurd rfl hkl
  rw [this]
  simp

/-- a comprehension that is stored at once (the stores are exchanged) -/
theorem x_assignC {Q : Flow → Shared → Prop} {rest : List Stmt} {α : Type} (xs : List α) (g r : α → D) (ρf : List (Str × D)) (ρt : α → List (Str × D)) (cl : List (Str × Addr)) {y : Str} {py spos : Pos} {elt target iter : Expr} {scope : Scope} {pos : Pos} {fl : Prop}
    (I : Inv G F ρ C s) (hok : ∀ a, F.ok a) (hi : IterE prog w A G F ρ C iter (xs.map g) fl) (hsee : Sees F scope cl ρ ρf) (hclos : closureFor scope F.env = pure cl) (hap : cl.Pairwise fun x y => x.2 ≠ y.2)
    (htgt : ∀ x ∈ xs, ∀ L Dd b kp ok, Tgt prog w A G (compFm F scope cl L Dd b kp ok) target (g x) ρf (ρt x))
    (hsub : ∀ x ∈ xs, ρf.Sublist (ρt x))
    (helt : ∀ x ∈ xs, ∀ L Dd b kp ok C', Ev prog w A G (compFm F scope cl L Dd b kp ok) (ρt x) C' elt (r x))
    (hk : F.env.kindOf y = some .local) (P : PutTo y (.list (xs.map r)) ρ ρ')
    (h : ∀ s', Inv G F ρ' C s' → wpAny (model prog w) A (execs rest F.env) Q noE s')
    (hz : xs.length ≤ sizeLine)
    (hln : (py.line == pos.line) = true := by rfl) (hnm : (scope.names.any fun p => p.1 == y && (p.2 == .local || p.2 == .cell)) = false := by decide)
    (hcell : ∀ y ∈ scope.names, y.2 ≠ .cell := by decide) (hkind : scope.kind = .function := by rfl) (hnames : ∀ y ∈ scope.names, y.2 = .local → scope.names.lookup y.1 = some .local := by decide)
    (hs : ∀ x, foldedSetIterable iter F.env x = pure x := by intro _; with_unfolding_all rfl) :
    wpAny (model prog w) A (execs (.Assign [.Name y py] (.ListComp elt [⟨target, iter, [], 0⟩] scope pos) spos :: rest) F.env) Q noE s := by
  refine wpAny_execs_cons ?_
  rw [exec_Assign_Name_used _ _ _ _ (swaps_comp I.kind hk hln hnm)]
  refine wpAny_bind (wpAny_standAt (wpAny_bind ?_))
  show wpAny _ A (do let _ ← comprehension (.ListComp elt [⟨target, iter, [], 0⟩] scope pos) scope F.env _ (newList []) false (eval iter F.env) (some (assign (.Name y py) F.env))) _ _ s
  refine wpAny_bind (wpAny_mono (comp_core (use := some (assign (.Name y py) F.env)) (Q := fun _ s' => Inv G F ρ' C s') I hi hsee hclos hap htgt hsub helt (fun s' v C₀ st hR hn ht hns => ?_) hcell hkind hnames hz hs) (fun _ s' I' => wpAny_pure (wpAny_pure (h s' I'))) fun _ _ e => e)
  obtain ⟨m, hns⟩ := hns
  have I' := I.go st
  obtain ⟨mL, hnL⟩ := I'.ns
  have hLC : F.env.locals ≠ C₀ := fun q => by
    obtain ⟨m', o, es, ep, e, _⟩ := I.ns
    rw [q, hn] at e; cases e
  have hb : F.base.heap.get? C₀ = none := by
    cases q : F.base.heap.get? C₀ with
    | none => rfl
    | some o => have := I.step.keep C₀ o ht q; rw [hn] at this; cases this
  show wpAny _ A (assign (.Name y py) F.env v) _ _ _
  refine wpAny_assign_Name (wpAny_storeName_local hk hnL (fun h₂ hn₂ hs₂ => ?_) (by rw [I.kind]; rfl))
  have I₂ := I'.putLocal (tk := s'.toks + 1) hk P hR hnL hn₂ hs₂
  refine ⟨m, hns.sameBut hs₂ (Ne.symm hLC), fun h₃ hs₃ => ?_⟩
  exact I₂.junk (hns.sameBut hs₂ (Ne.symm hLC)) hs₃ hb ht hLC (hok _)
end
end
section
set_option Elab.async false
set_option maxRecDepth 100000

open PySem.Calls

/-! a call of a def of the text -/

noncomputable def Done (O : List Addr) (s : Shared) (d : D) : Flow → Shared → Prop := fun f s' => ∃ v, f = .ret v ∧ Step s s' ∧ Rep O s'.heap d v
noncomputable def Back (O : List Addr) (s : Shared) (d : D) : Result → Shared → Prop := fun r s' => ∃ v, r = .ok (.ret v) ∧ Step s s' ∧ Rep O s'.heap d v

noncomputable abbrev fnFm (fd : FuncData) (f L : Addr) (O : List Addr) (s : Shared) : Fm :=
  { env := callEnvC fd L f, O := O, W := cellsFrom (L + 1) fd.scope.names [], base := s, kp := fun _ => True, ok := fun _ => True }

theorem bindL_mem {kindOf : Str → Option NameKind} : ∀ {binds : List (Str × Value)} {m : Str → Option Value} {x : Str} {v : Value}, (x, v) ∈ binds → (binds.map (·.1)).Nodup → kindOf x = some .local → bindL kindOf binds m x = some v
  | (y, u) :: r, m, x, v, hm, hn, hk => by
    simp only [List.map_cons, List.nodup_cons] at hn
    unfold bindL
    rcases List.mem_cons.mp hm with e | hm
    · cases e
      rw [if_pos hk]
      have : ∀ (r : List (Str × Value)) (m : Str → Option Value), y ∉ r.map (·.1) → m y = some u → bindL kindOf r m y = some u := by
        intro r
        induction r with
        | nil => intro m _ e; exact e
        | cons p r ih =>
          intro m hx e
          obtain ⟨z, u'⟩ := p
          simp only [List.map_cons, List.mem_cons, not_or] at hx
          unfold bindL
          refine ih _ hx.2 ?_
          split
          · simp [hx.1, e]
          · exact e
      exact this r _ hn.1 (by simp)
    · exact bindL_mem hm hn.2 hk
theorem bindC_mem {kindOf : Str → Option NameKind} : ∀ {binds : List (Str × Value)} {m : Str → Option Value} {x : Str} {v : Value}, (x, v) ∈ binds → (binds.map (·.1)).Nodup → kindOf x ≠ some .local → bindC kindOf binds m x = some v
  | (y, u) :: r, m, x, v, hm, hn, hk => by
    simp only [List.map_cons, List.nodup_cons] at hn
    unfold bindC
    rcases List.mem_cons.mp hm with e | hm
    · cases e
      rw [if_neg hk]
      have : ∀ (r : List (Str × Value)) (m : Str → Option Value), y ∉ r.map (·.1) → m y = some u → bindC kindOf r m y = some u := by
        intro r
        induction r with
        | nil => intro m _ e; exact e
        | cons p r ih =>
          intro m hx e
          obtain ⟨z, u'⟩ := p
          simp only [List.map_cons, List.mem_cons, not_or] at hx
          unfold bindC
          refine ih _ hx.2 ?_
          split
          · exact e
          · simp [hx.1, e]
      exact this r _ hn.1 (by simp)
    · exact bindC_mem hm hn.2 hk

theorem cellsFrom_addr {h : Heap} {n : Nat} {names : List (Str × NameKind)} : True := trivial

inductive BindsOk (O : List Addr) (h : Heap) : List (Str × Value) → List (Str × D) → Prop
  | nil : BindsOk O h [] []
  | cons {x : Str} {v : Value} {d : D} {r : List (Str × Value)} {ρ : List (Str × D)} : Rep O h d v → BindsOk O h r ρ → BindsOk O h ((x, v) :: r) ((x, d) :: ρ)
theorem BindsOk.keys {O : List Addr} {h : Heap} : ∀ {b : List (Str × Value)} {ρ : List (Str × D)}, BindsOk O h b ρ → b.map (·.1) = ρ.map (·.1)
  | _, _, .nil => rfl
  | _, _, .cons _ r => by simp [r.keys]
theorem BindsOk.mem {O : List Addr} {h : Heap} : ∀ {b : List (Str × Value)} {ρ : List (Str × D)}, BindsOk O h b ρ → ∀ p ∈ ρ, ∃ v, (p.1, v) ∈ b ∧ Rep O h p.2 v
  | _, _, .nil, p, hp => by simp at hp
  | _, _, .cons (v := v) hr r, p, hp => by
    rcases List.mem_cons.mp hp with rfl | hp
    · exact ⟨v, .head _, hr⟩
    · obtain ⟨v, h1, h2⟩ := r.mem p hp; exact ⟨v, .tail _ h1, h2⟩

section
variable {prog : Program} {w : World} {A : Around} {G : GData} {s : Shared} {O : List Addr}

theorem lookup_some_of_mem : ∀ {l : List (Str × Addr)} {p : Str × Addr}, (l.Pairwise fun x y => x.2 ≠ y.2) → (l.map (·.1)).Nodup → p ∈ l → l.lookup p.1 = some p.2
  | q :: r, p, hp, hn, hm => by
    simp only [List.map_cons, List.nodup_cons] at hn
    rw [List.lookup_cons]
    rcases List.mem_cons.mp hm with rfl | hm
    · simp
    · have : (p.1 == q.1) = false := by
        cases e : p.1 == q.1 with
        | false => rfl
        | true => exact absurd (List.mem_map.mpr ⟨p, hm, beq_iff_eq.mp e⟩) hn.1
      rw [this]
      exact lookup_some_of_mem (List.pairwise_cons.mp hp).2 hn.2 hm

theorem enter {d : D} {f : Addr} {o : Obj} {fd : FuncData} {body : List Stmt} {args : Args} {binds : List (Str × Value)} {ρ : List (Str × D)} (hroom : A.depth < recursionLimit)
    (hf : G.h.get? f = some o) (hd : o.data = .func fd) (hcd : G.h.CodeRec fd.code fd.qualname) (hbody : fd.body = .stmts body) (hclo : fd.closure = []) (hgl : fd.globals = mainGlobals) (hbl : fd.builtins = builtinsNs)
    (g : GI G s) (hO : OkO O s.heap)
    (hbind : wpAny (model prog w) A.in1 (bindArgs fd args) (fun bs s₁ => bs = binds ∧ s₁ = s) noE s) (hb : BindsOk O s.heap binds ρ)
    (hnd : (ρ.map (·.1)).Nodup)
    (hkind : ∀ x ∈ ρ, fd.scope.names.lookup x.1 = some .local ∨ (fd.scope.names.lookup x.1 = some .cell ∧ ((cellsFrom (s.heap.objs.size + 1) fd.scope.names []).lookup x.1).isSome = true))
    (hcells : ∀ p ∈ cellsFrom (s.heap.objs.size + 1) fd.scope.names [], fd.scope.names.lookup p.1 = some .cell) (hcnd : ((cellsFrom (s.heap.objs.size + 1) fd.scope.names []).map (·.1)).Nodup)
    (h : ∀ s₁, Inv G (fnFm fd f s.heap.objs.size O s) ρ [] s₁ → wpAny (model prog w) (A.deeper (callEnvC fd s.heap.objs.size f)) (execs body (callEnvC fd s.heap.objs.size f)) (Done O s d) noE s₁)
    (hco : fd.scope.isCoroutine = false) (hgen : fd.scope.isGenerator = false) (hk : fd.scope.kind = .function) :
    codeAny (model prog w) A (.call (.ref f) args) (Back O s d) s := by
  have hks : ∀ b o, G.h.get? b = some o → s.heap.get? b = some o := g.keep
  refine codeAny_call_function hroom (hks _ _ hf) hd hco hgen hbody (hcd.keeps hks) (wpAny_mono hbind (fun bs s₁ e => ?_) fun _ _ e => e.elim)
  obtain ⟨rfl, rfl⟩ := e
  rw [hclo]
  have hkeys := hb.keys
  refine wpAny_newFunctionEnv_cells hk (fun x hx => ?_) fun env he s' x => ?_
  · have hx' : x.1 ∈ ρ.map (·.1) := by rw [← hkeys]; exact List.mem_map_of_mem hx
    obtain ⟨p, hp, e⟩ := List.mem_map.mp hx'
    have := hkind p hp
    rw [e] at this; exact this
  · subst he
    refine ⟨(G.nolimit.keeps hks).keeps x.toInCall.keep, codeAny_func ?_⟩
    have hst : Step s₁ s' := by
      obtain ⟨h', tk, rfl⟩ := x.toInCall.same
      exact Step.of_keeps x.toInCall.keep
    have hfresh : s₁.heap.get? s₁.heap.objs.size = none := get?_size _
    have hLt := fresh_offTab g.tab hfresh
    have hcn : ∀ p ∈ cellsFrom (s₁.heap.objs.size + 1) fd.scope.names [], s₁.heap.get? p.2 = none := fun p hp => by
      have := x.above p.1 p.2 hp
      cases e : s₁.heap.get? p.2 with
      | none => rfl
      | some o => exact absurd (Heap.lt_size e) (Nat.not_lt.mpr (Nat.le_of_lt this))
    have I : Inv G (fnFm fd f s₁.heap.objs.size O s₁) ρ [] s' := by
      refine { step := hst, gb := g, okO := hO.step g hst, kind := hk, glob := hgl, blt := hbl, ns := ⟨_, x.toInCall.ns⟩, new := hfresh, offTab := hLt, nd := hnd, vars := fun p hp => ?_, W := fun p hp => ?_, apart := x.apart, own := by simp, ownNd := by simp, kpGo := fun _ _ _ _ => trivial, kpBut := fun _ _ _ _ _ _ _ => trivial, kp := trivial, okL := trivial, okW := fun _ _ => trivial, okOwn := by simp }
      · obtain ⟨v, h1, h2⟩ := hb.mem p hp
        refine ⟨v, ?_, h2.step hO hst⟩
        have hbn : (bs.map (·.1)).Nodup := by rw [hkeys]; exact hnd
        rcases hkind p hp with hl | ⟨hl, hc⟩
        · exact .inl ⟨hl, _, x.toInCall.ns, bindL_mem h1 hbn hl⟩
        · obtain ⟨c, hc⟩ := Option.isSome_iff_exists.mp hc
          refine .inr ⟨.inl hl, c, hc, ?_⟩
          have := x.cell p.1 c hc
          rw [bindC_mem h1 hbn (by
            intro q
            have q' : fd.scope.names.lookup p.1 = some .local := q
            rw [hl] at q'; cases q')] at this
          exact this
      · have hlk := lookup_some_of_mem x.apart hcnd hp
        refine ⟨hcells p hp, hlk, ⟨_, x.cell p.1 p.2 hlk⟩, hcn p hp, fresh_offTab g.tab (hcn p hp)⟩
    refine wpAny_mono (h s' I) (fun fl s'' q => ?_) fun _ _ e => e.elim
    obtain ⟨v, rfl, st, r⟩ := q
    exact ⟨v, rfl, st, r⟩

theorem callOk_of {f : Value} {ds : List D} {d : D} (h : ∀ s vs, GI G s → OkO O s.heap → Reps O s.heap ds vs → codeAny (model prog w) A (.call f ⟨vs, []⟩) (Back O s d) s) : CallOk prog w A G O f ds d := fun s vs g o r =>
  wpAny_call (codeAny_mono (h s vs g o r) fun r s' q => by obtain ⟨v, rfl, st, rr⟩ := q; exact ⟨st, rr⟩)
end
end
section
set_option Elab.async false
set_option maxRecDepth 100000

open PySem.Calls

/-! operations -/
section
variable {prog : Program} {w : World} {A : Around} {G : GData} {F : Fm} {ρ : List (Str × D)} {C : List (Addr × List D)} {s : Shared} {O : List Addr}

theorem rep_int {h : Heap} {i : Int} {t : Tok} : Rep O h (.int i) (.int i t) := by rw [Rep]; exact ⟨t, rfl⟩
theorem rep_str {h : Heap} {x : Str} {t : Tok} : Rep O h (.str x) (.str x t) := by rw [Rep]; exact ⟨t, rfl⟩
theorem rep_bytes {h : Heap} {x : Array UInt8} {t : Tok} : Rep O h (.bytes x) (.bytes x t) := by rw [Rep]; exact ⟨t, rfl⟩
theorem rep_bool {h : Heap} {b : Bool} : Rep O h (.bool b) (.bool b) := by rw [Rep]
theorem rep_none {h : Heap} : Rep O h .none .none := by rw [Rep]

theorem op_ii {t : Value → Value → Sem Value} {a b : Int} {d : D} (h : ∀ (s : Shared) u v, wpAny (model prog w) A (t (.int a u) (.int b v)) (fun r s' => Step s s' ∧ Rep O s'.heap d r) noE s) : Op2 prog w A G O t (.int a) (.int b) d := fun s v₁ v₂ _ _ r₁ r₂ => by
  rw [Rep] at r₁ r₂
  obtain ⟨u, rfl⟩ := r₁
  obtain ⟨v, rfl⟩ := r₂
  exact h s u v
theorem op_add {a b : Int} : Op2 prog w A G O (binaryOp .Add) (.int a) (.int b) (.int (a + b)) := op_ii fun _ _ _ => add_int ⟨Step.toks, rep_int⟩
theorem op_sub {a b : Int} : Op2 prog w A G O (binaryOp .Sub) (.int a) (.int b) (.int (a - b)) := op_ii fun _ _ _ => sub_int ⟨Step.toks, rep_int⟩
theorem op_isub {a b : Int} : Op2 prog w A G O (inplaceOp .Sub) (.int a) (.int b) (.int (a - b)) := op_ii fun _ _ _ => isub_int ⟨Step.toks, rep_int⟩
theorem op_div {a b : Int} (h0 : b ≠ 0) (hs : b.natAbs < 1073741824) : Op2 prog w A G O (binaryOp .FloorDiv) (.int a) (.int b) (.int (a.fdiv b)) := op_ii fun _ _ _ => floordiv_int h0 ⟨Step.toks, rep_int⟩ (.inl (PyProof.noPylong_small hs))
theorem op_mod {a b : Int} (h0 : b ≠ 0) : Op2 prog w A G O (binaryOp .Mod) (.int a) (.int b) (.int (a.fmod b)) := op_ii fun _ _ _ => mod_int' h0 ⟨Step.toks, rep_int⟩
theorem op_and {a b : Int} : Op2 prog w A G O (binaryOp .BitAnd) (.int a) (.int b) (.int (Builtin.bitAnd a b)) := op_ii fun _ _ _ => and_int ⟨Step.toks, rep_int⟩
theorem op_or {a b : Int} : Op2 prog w A G O (binaryOp .BitOr) (.int a) (.int b) (.int (Builtin.bitOr a b)) := op_ii fun _ _ _ => or_int ⟨Step.toks, rep_int⟩
theorem op_shr {a b : Int} (hb : 0 ≤ b) : Op2 prog w A G O (binaryOp .RShift) (.int a) (.int b) (.int (a.fdiv (2 ^ b.toNat))) := op_ii fun _ _ _ => rshift_int hb ⟨Step.toks, rep_int⟩
theorem op_shl {a b : Int} (hb : 0 ≤ b) (hb2 : b ≤ 1000000) (ha : a.natAbs < 2 ^ 64) : Op2 prog w A G O (binaryOp .LShift) (.int a) (.int b) (.int (a * 2 ^ b.toNat)) := op_ii fun _ _ _ => lshift_int_small hb hb2 ha ⟨Step.toks, rep_int⟩

theorem cmp_eq {a b : Int} : Op2 prog w A G O (compareOp .Eq) (.int a) (.int b) (.bool (a == b)) := op_ii fun s _ _ => eq_int ⟨Step.refl s, rep_bool⟩
theorem cmp_ne {a b : Int} : Op2 prog w A G O (compareOp .NotEq) (.int a) (.int b) (.bool (a != b)) := op_ii fun s _ _ => ne_int ⟨Step.refl s, rep_bool⟩
theorem cmp_lt {a b : Int} : Op2 prog w A G O (compareOp .Lt) (.int a) (.int b) (.bool (decide (a < b))) := op_ii fun s _ _ => lt_int ⟨Step.refl s, rep_bool⟩
theorem cmp_le {a b : Int} : Op2 prog w A G O (compareOp .LtE) (.int a) (.int b) (.bool (decide (a ≤ b))) := op_ii fun s _ _ => le_int ⟨Step.refl s, rep_bool⟩
theorem cmp_gt {a b : Int} : Op2 prog w A G O (compareOp .Gt) (.int a) (.int b) (.bool (decide (b < a))) := op_ii fun s _ _ => gt_int ⟨Step.refl s, rep_bool⟩
theorem cmp_ge {a b : Int} : Op2 prog w A G O (compareOp .GtE) (.int a) (.int b) (.bool (decide (b ≤ a))) := op_ii fun s _ _ => ge_int ⟨Step.refl s, rep_bool⟩

theorem op_addS {x y : Str} (hz : x.length + y.length ≤ sizeLine) : Op2 prog w A G O (binaryOp .Add) (.str x) (.str y) (.str (x ++ y)) := fun s v₁ v₂ _ _ r₁ r₂ => by
  rw [Rep] at r₁ r₂
  obtain ⟨u, rfl⟩ := r₁
  obtain ⟨v, rfl⟩ := r₂
  exact PyProof.Rows.add_str (fun _ _ => ⟨Step.toks, rep_str⟩) hz

theorem op_addL {xs ys : List D} (hz : xs.length + ys.length ≤ sizeLine) : Op2 prog w A G O (binaryOp .Add) (.list xs) (.list ys) (.list (xs ++ ys)) := fun s v₁ v₂ g ho r₁ r₂ => by
  rw [Rep] at r₁ r₂
  obtain ⟨a, vs, rfl, _, hl, hr⟩ := r₁
  obtain ⟨b, us, rfl, _, hl', hr'⟩ := r₂
  obtain ⟨⟨cls, dd, data, sl⟩, e, hc, n, hd⟩ := id hl
  obtain ⟨⟨cls2, dd2, data2, sl2⟩, e2, hc2, n2, hd2⟩ := id hl'
  simp only at hc hd hc2 hd2
  subst hc hd hc2 hd2
  refine concat_meets ⟨_, e, rfl⟩ ⟨_, e2, rfl⟩ noFill_list_add seq_list_add PySem.F.slot_list_add PySem.F.entry_list_add (PySem.F.args_list_add_2 _ _)
    (list_addW a b vs.toArray us.toArray n n2 dd dd2 sl sl2 (by simpa [hr.length, hr'.length] using hz)) ⟨e, e2, ?_⟩
  have := newList_rep ho (hr.append hr')
  rw [List.append_toArray]
  exact this

/-! items -/
theorem sub_tail {slice value : Expr} {o i : Value} {T id : String} {Q : Value → Shared → Prop} (hT : s.TypeIs o T) (hl : typeLookup (.type T) "__getitem__" = pure (some (.builtin id)))
    (h : wpAny (model prog w) A (getItem o i) Q noE s) : wpAny (model prog w) A (subscriptTail value slice o i) Q noE s := by
  unfold subscriptTail
  refine wpAny_bind ?_
  rw [getitemInPython_of_ne hT.not_modules]
  refine wpAny_bind (wpAny_specialOf hT hl ?_)
  have fin : ∀ l, wpAny (model prog w) A (operate l (getItem o i)) (fun r s₃ => wpAny (model prog w) A (letTemporaryGo value o r >>= fun _ => pure r) Q noE s₃) noE s := fun l =>
    wpAny_operating (wpAny_mono h (fun r s₃ h₃ => wpAny_bind (wpAny_letTemporaryGo (wpAny_pure h₃))) fun _ _ x => x)
  have sub : wpAny (model prog w) A (subscripted slice false o i) (fun r s₃ => wpAny (model prog w) A (letTemporaryGo value o r >>= fun _ => pure r) Q noE s₃) noE s := by
    unfold subscripted
    split
    · exact fin _
    · rename_i q; cases q
    · exact fin _
  first
    | exact wpAny_pure (wpAny_bind sub)
    | exact wpAny_bind (wpAny_pure (wpAny_bind sub))
    | exact wpAny_bind sub

theorem sub_list {slice : Expr} {ds : List D} {k : Int} {d : D} (h0 : 0 ≤ k) (hk : k < 2 ^ 63) (hx : ds[k.toNat]? = some d) : SubOk prog w A G O slice (.list ds) (.int k) d := fun s v₁ v₂ value g ho r₁ r₂ => by
  rw [Rep] at r₁
  rw [Rep] at r₂
  obtain ⟨a, vs, rfl, _, hl, hr⟩ := r₁
  obtain ⟨u, rfl⟩ := r₂
  obtain ⟨v, hv, hR⟩ := hr.get hx
  exact sub_tail hl.typeIs slot_list_getitem.lookup (wpAny_getItem_list hl h0 hk (by simpa using hv) ⟨Step.refl s, hR⟩)
theorem sub_tuple {slice : Expr} {ds : List D} {k : Int} {d : D} (h0 : 0 ≤ k) (hk : k < 2 ^ 63) (hx : ds[k.toNat]? = some d) : SubOk prog w A G O slice (.tuple ds) (.int k) d := fun s v₁ v₂ value g ho r₁ r₂ => by
  rw [Rep] at r₁
  rw [Rep] at r₂
  obtain ⟨a, vs, rfl, _, hl, hr⟩ := r₁
  obtain ⟨u, rfl⟩ := r₂
  obtain ⟨v, hv, hR⟩ := hr.get hx
  have hlt : k.toNat < vs.length := by
    cases e : decide (k.toNat < vs.length) with
    | true => exact of_decide_eq_true e
    | false => rw [List.getElem?_eq_none (by have := of_decide_eq_false e; (first | lia | omega))] at hv; cases hv
  refine sub_tail hl.typeIs slot_tuple_getitem.lookup (PyProof.Rows.getItem_tuple (j := k.toNat) hl (by (first | lia | omega)) hk ?_ (by simpa using hv) ⟨Step.refl s, hR⟩)
  unfold seqIndex?
  simp only [List.size_toArray]
  have e1 : ¬ k < 0 := by (first | lia | omega)
  have e2 : k < (vs.length : Int) := by (first | lia | omega)
  simp [e1, e2, h0]
theorem sub_bytes {slice : Expr} {b : Array UInt8} {k : Int} {c : UInt8} (hb : b.size ≤ 1099511627776) (h0 : 0 ≤ k) (hx : b[k.toNat]? = some c) : SubOk prog w A G O slice (.bytes b) (.int k) (.int (c.toNat : Int)) := fun s v₁ v₂ value g ho r₁ r₂ => by
  rw [Rep] at r₁
  rw [Rep] at r₂
  obtain ⟨t, rfl⟩ := r₁
  obtain ⟨u, rfl⟩ := r₂
  have hlt : k.toNat < b.size := by
    cases e : decide (k.toNat < b.size) with
    | true => exact of_decide_eq_true e
    | false => rw [Array.getElem?_eq_none (by have := of_decide_eq_false e; (first | lia | omega))] at hx; cases hx
  refine sub_tail (typeIs_bytes s b t) FB.slot_bytes_getitem.lookup ?_
  obtain ⟨l⟩ := b
  refine getItem_bytes (by simpa using hb) h0 (by simp at hlt; (first | lia | omega)) ⟨Step.toks, ?_⟩
  have : l.getD k.toNat 0 = c := by
    rw [List.getD_eq_getElem?_getD]
    have hx' : l[k.toNat]? = some c := by simpa using hx
    rw [hx']; rfl
  rw [this]
  exact rep_int

/-! slices of a list -/
noncomputable def part? (o : Option Int) : D := match o with | Option.none => .none | some i => .int i
theorem isPart_of {h : Heap} {o : Option Int} {v : Value} (r : Rep O h (part? o) v) : IsPart v o := by
  cases o with
  | none => unfold part? at r; rw [Rep] at r; subst r; exact .none
  | some i => unfold part? at r; rw [Rep] at r; obtain ⟨t, rfl⟩ := r; exact .int i t

noncomputable def EvP (prog : Program) (w : World) (A : Around) (G : GData) (F : Fm) (ρ : List (Str × D)) (C : List (Addr × List D)) (e : Option Expr) (o : Option Int) : Prop :=
  ∀ s, Inv G F ρ C s → wpAny (model prog w) A (evalPart e F.env) (fun v s' => Step s s' ∧ Rep F.O s'.heap (part? o) v) noE s
theorem EvP.none : EvP prog w A G F ρ C Option.none Option.none := fun s _ => by
  rw [evalPart_none]; exact wpAny_pure ⟨Step.refl s, by unfold part?; rw [Rep]⟩
theorem EvP.some {e : Expr} {i : Int} (h : Ev prog w A G F ρ C e (.int i)) : EvP prog w A G F ρ C (Option.some e) (Option.some i) := fun s I => by
  rw [evalPart_some]; exact h s I

/-- what a slice takes -/
noncomputable def cut {α : Type} (xs : List α) (lo hi : Option Int) : List α := (xs.drop (lo.getD 0).toNat).take (match hi with | Option.none => xs.length | Option.some h => h.toNat - (lo.getD 0).toNat)

theorem slicePick_cut (vs : List Value) (lo hi : Option Int) (hlo : ∀ i, lo = some i → 0 ≤ i) (hhi : ∀ i, hi = some i → 0 ≤ i) : (slicePick vs.toArray lo hi Option.none).toList = cut vs lo hi := by
  unfold slicePick cut
  have hb : sliceBounds lo hi Option.none vs.toArray.size = (((min (lo.getD 0).toNat vs.length : Nat) : Int), ((match hi with | Option.none => vs.length | Option.some h => min h.toNat vs.length : Nat) : Int), 1) := by
    unfold sliceBounds
    simp only [List.size_toArray, Option.getD_none]
    congr 1
    · cases lo with
      | none => simp
      | some i =>
        have := hlo i rfl
        simp only [Option.getD_some, show (1 : Int) > 0 by decide, if_true]
        rw [if_neg (by (first | lia | omega))]
        (first | lia | omega)
    · congr 1
      cases hi with
      | none => simp
      | some i =>
        have := hhi i rfl
        simp only [show (1 : Int) > 0 by decide, if_true]
        rw [if_neg (by (first | lia | omega))]
        (first | lia | omega)
  rw [hb]
  simp only
  rw [sliceRange_one, pick_run]
  simp only
  generalize (lo.getD 0).toNat = a
  cases hi with
  | none =>
    simp only
    by_cases h : a ≤ vs.length
    · rw [Nat.min_eq_left h, List.take_of_length_le (by simp), List.take_of_length_le (by simp)]
    · have e : vs.drop a = [] := List.drop_of_length_le (by (first | lia | omega))
      rw [Nat.min_eq_right (a := a) (by (first | lia | omega)), e, List.drop_of_length_le (by simp)]; simp
  | some i =>
    simp only
    generalize i.toNat = b
    by_cases h : a ≤ vs.length
    · rw [Nat.min_eq_left h]
      by_cases h' : b ≤ vs.length
      · rw [Nat.min_eq_left h']
      · rw [Nat.min_eq_right (by (first | lia | omega)), List.take_of_length_le (by simp), List.take_of_length_le (by simp; (first | lia | omega))]
    · have e : vs.drop a = [] := List.drop_of_length_le (by (first | lia | omega))
      rw [Nat.min_eq_right (a := a) (by (first | lia | omega)), e, List.drop_of_length_le (by simp)]; simp

theorem Ev.sliceL {value : Expr} {lower upper : Option Expr} {p pos : Pos} {ds : List D} {lo hi : Option Int} (hv : Ev prog w A G F ρ C value (.list ds)) (hl : EvP prog w A G F ρ C lower lo) (hu : EvP prog w A G F ρ C upper hi)
    (hlo : ∀ i, lo = some i → 0 ≤ i) (hhi : ∀ i, hi = some i → 0 ≤ i) (hz : ds.length ≤ sizeLine) : Ev prog w A G F ρ C (.Subscript value (.Slice lower upper Option.none p) pos) (.list (cut ds lo hi)) := fun s I => by
  refine Subscript_ (wpAny_mono (hv s I) (fun v s₁ x₁ => ?_) fun _ _ e => e)
  have I₁ := I.go x₁.1
  refine wpAny_Slice (wpAny_mono (hl s₁ I₁) (fun vl s₂ x₂ => ?_) fun _ _ e => e)
  have I₂ := I₁.go x₂.1
  refine wpAny_mono (hu s₂ I₂) (fun vu s₃ x₃ => ?_) fun _ _ e => e
  have I₃ := I₂.go x₃.1
  rw [evalPart_none]
  refine wpAny_pure ?_
  have r := (x₁.2.step I₁.okO x₂.1).step I₂.okO x₃.1
  rw [Rep] at r
  obtain ⟨a, vs, rfl, haO, hL, hr⟩ := r
  have st : Step s₃ { s₃ with heap := s₃.heap.push { cls := .type "slice", data := .fields #[vl, vu, .none] } } := Step.push
  have I₄ := I₃.go st
  refine sub_tail (hL.push _).typeIs slot_list_getitem.lookup (wpAny_getItem_list_slice (hL.push _) (Heap.IsSliceOf.new ..) (isPart_of (x₂.2.step I₂.okO x₃.1)) (isPart_of x₃.2) .none (by simp) ?_ (by simpa [hr.length] using hz))
  have hr₄ : Reps F.O (s₃.heap.push { cls := .type "slice", data := .fields #[vl, vu, .none] }) (cut ds lo hi) (cut vs lo hi) := by
    have := hr.step I₃.okO st
    unfold cut
    rw [show vs.length = ds.length from hr.length]
    exact (this.drop _).take _
  have key := newList_rep I₄.okO hr₄
  have e : slicePick vs.toArray lo hi Option.none = (cut vs lo hi).toArray := by
    rw [← slicePick_cut vs lo hi hlo hhi]
  rw [e]
  exact ⟨(((x₁.1.trans x₂.1).trans x₃.1).trans st).trans key.1, key.2⟩
end
end
section
set_option Elab.async false
set_option maxRecDepth 100000

open PySem.Calls

section
variable {prog : Program} {w : World} {A : Around} {G : GData} {F : Fm} {ρ ρ' : List (Str × D)} {C : List (Addr × List D)} {s : Shared} {O : List Addr} {Q : Flow → Shared → Prop} {rest : List Stmt}

/-! is, truth -/
noncomputable def notNone : D → Bool
  | .none => false
  | .raw .none => false
  | _ => true
theorem ne_none_of {h : Heap} {d : D} {v : Value} (hd : notNone d = true) (r : Rep O h d v) : v ≠ .none := by
  cases d with
  | none => cases hd
  | raw x => rw [Rep] at r; subst r; intro e; subst e; cases hd
  | bool b => rw [Rep] at r; subst r; simp
  | int i => rw [Rep] at r; obtain ⟨t, rfl⟩ := r; simp
  | str x => rw [Rep] at r; obtain ⟨t, rfl⟩ := r; simp
  | bytes b => rw [Rep] at r; obtain ⟨t, rfl⟩ := r; simp
  | list ds => rw [Rep] at r; obtain ⟨a, vs, rfl, _⟩ := r; simp
  | tuple ds => rw [Rep] at r; obtain ⟨a, vs, rfl, _⟩ := r; simp
theorem is_none {d : D} (hd : notNone d = true) : Op2 prog w A G O (compareOp .Is) d .none (.bool false) := fun s v₁ v₂ _ _ r₁ r₂ => by
  rw [Rep] at r₂; subst r₂
  exact is_none_ne (ne_none_of hd r₁) ⟨Step.refl s, rep_bool⟩
theorem isnot_none {d : D} (hd : notNone d = true) : Op2 prog w A G O (compareOp .IsNot) d .none (.bool true) := fun s v₁ v₂ _ _ r₁ r₂ => by
  rw [Rep] at r₂; subst r₂
  exact isnot_none_ne (ne_none_of hd r₁) ⟨Step.refl s, rep_bool⟩
theorem isnot_none0 : Op2 prog w A G O (compareOp .IsNot) .none .none (.bool false) := fun s v₁ v₂ _ _ r₁ r₂ => by
  rw [Rep] at r₁ r₂; subst r₁ r₂
  exact isnot_none_none ⟨Step.refl s, rep_bool⟩
theorem is_type {S T : String} : Op2 prog w A G O (compareOp .Is) (.raw (.type S)) (.raw (.type T)) (.bool (S == T)) := fun s v₁ v₂ _ _ r₁ r₂ => by
  rw [Rep] at r₁ r₂; subst r₁ r₂
  refine wpAny_is_plain rfl ⟨Step.refl s, ?_⟩
  have : (Value.type S == Value.type T) = (S == T) := by
    by_cases e : S = T
    · subst e; simp
    · rw [beq_eq_false_iff_ne.mpr e, beq_eq_false_iff_ne.mpr (fun q => e (by cases q; rfl))]
  rw [this]; exact rep_bool

theorem is_type_same {S : String} : Op2 prog w A G O (compareOp .Is) (.raw (.type S)) (.raw (.type S)) (.bool true) := by have := is_type (prog := prog) (w := w) (A := A) (G := G) (O := O) (S := S) (T := S); rwa [beq_self_eq_true] at this
theorem truth_bool {b : Bool} : TruthOk prog w A G O (.bool b) b := fun s v _ _ r => by
  rw [Rep] at r; subst r; exact wpAny_truthy_bool ⟨Step.refl s, rfl⟩
theorem truth_int {i : Int} : TruthOk prog w A G O (.int i) (i != 0) := fun s v _ _ r => by
  rw [Rep] at r; obtain ⟨t, rfl⟩ := r; exact PyProof.Rows.truthy_int ⟨Step.refl s, rfl⟩

/-! calls of built-ins -/
theorem reps1 {h : Heap} {d : D} {vs : List Value} (r : Reps O h [d] vs) : ∃ v, vs = [v] ∧ Rep O h d v := by
  rw [Reps] at r; obtain ⟨v, t, rfl, h1, h2⟩ := r
  rw [Reps] at h2; subst h2; exact ⟨v, rfl, h1⟩
theorem reps2 {h : Heap} {d e : D} {vs : List Value} (r : Reps O h [d, e] vs) : ∃ v u, vs = [v, u] ∧ Rep O h d v ∧ Rep O h e u := by
  rw [Reps] at r; obtain ⟨v, t, rfl, h1, h2⟩ := r
  obtain ⟨u, rfl, h3⟩ := reps1 h2; exact ⟨v, u, rfl, h1, h3⟩
theorem reps3 {h : Heap} {d e f : D} {vs : List Value} (r : Reps O h [d, e, f] vs) : ∃ v u x, vs = [v, u, x] ∧ Rep O h d v ∧ Rep O h e u ∧ Rep O h f x := by
  rw [Reps] at r; obtain ⟨v, t, rfl, h1, h2⟩ := r
  obtain ⟨u, x, rfl, h3, h4⟩ := reps2 h2; exact ⟨v, u, x, rfl, h1, h3, h4⟩

noncomputable def typeName : D → Option String
  | .bool _ => some "bool"
  | .int _ => some "int"
  | .str _ => some "str"
  | .bytes _ => some "bytes"
  | .list _ => some "list"
  | .tuple _ => some "tuple"
  | .none => some "NoneType"
  | .raw _ => Option.none
theorem typeIs_of {s : Shared} {d : D} {T : String} {v : Value} (h : typeName d = some T) (r : Rep O s.heap d v) : s.TypeIs v T := by
  cases d with
  | none => cases h; rw [Rep] at r; subst r; exact typeIs_none s
  | raw x => cases h
  | bool b => cases h; rw [Rep] at r; subst r; exact PySem.typeIs_bool s b
  | int i => cases h; rw [Rep] at r; obtain ⟨t, rfl⟩ := r; exact typeIs_int s i t
  | str x => cases h; rw [Rep] at r; obtain ⟨t, rfl⟩ := r; exact typeIs_str s x t
  | bytes b => cases h; rw [Rep] at r; obtain ⟨t, rfl⟩ := r; exact PySem.W.typeIs_bytes s b t
  | list ds => cases h; rw [Rep] at r; obtain ⟨a, vs, rfl, _, hl, _⟩ := r; exact hl.typeIs
  | tuple ds => cases h; rw [Rep] at r; obtain ⟨a, vs, rfl, _, hl, _⟩ := r; exact hl.typeIs

theorem call_type {d : D} {T : String} (h : typeName d = some T) (hT : (Value.type T == Value.type "builtin_function_or_method") = false) : CallOk prog w A G O (.type "type") [d] (.raw (.type T)) := fun s vs g ho r => by
  obtain ⟨v, rfl, h1⟩ := reps1 r
  exact call_type_of (typeIs_of h h1) hT ⟨Step.refl s, by rw [Rep]⟩

theorem call_len {ds : List D} (hz : ds.length < 2 ^ 62) : CallOk prog w A G O (.builtin "len") [.list ds] (.int ds.length) := fun s vs g ho r => by
  obtain ⟨v, rfl, h1⟩ := reps1 r
  rw [Rep] at h1
  obtain ⟨a, vs, rfl, _, hl, hr⟩ := h1
  refine call_len_list hl (by simp only [List.size_toArray, hr.length]; (first | lia | omega)) ⟨Step.toks, ?_⟩
  simp only [List.size_toArray, hr.length]
  exact rep_int

theorem intsAre_of {h : Heap} : ∀ {ns : List Int} {vs : List Value}, Reps O h (ns.map .int) vs → IntsAre vs ns
  | [], vs, r => by rw [List.map_nil, Reps] at r; subst r; exact .nil
  | n :: ns, vs, r => by
    rw [List.map_cons, Reps] at r
    obtain ⟨v, t, rfl, h1, h2⟩ := r
    rw [Rep] at h1
    obtain ⟨u, rfl⟩ := h1
    exact .cons _ _ (intsAre_of h2)
theorem call_bytes {ns : List Int} (hr : ∀ n ∈ ns, 0 ≤ n ∧ n < 256) (hz : ns.length ≤ sizeLine) (hh : A.handled = none) : CallOk prog w A G O (.type "bytes") [.list (ns.map .int)] (.bytes (byteArr ns)) := fun s vs g ho r => by
  obtain ⟨v, rfl, h1⟩ := reps1 r
  rw [Rep] at h1
  obtain ⟨a, vs, rfl, _, hl, hr'⟩ := h1
  exact call_bytes_ints hl (intsAre_of hr') hr (by rw [hr'.length]; simpa using hz) hh fun h' t k hk => ⟨Step.of_keeps hk, rep_bytes⟩

theorem call_chr {i : Int} (h0 : 0 ≤ i) (h1 : i ≤ 1114111) : CallOk prog w A G O (.builtin "chr") [.int i] (.str ⟨#[i.toNat]⟩) := fun s vs g ho r => by
  obtain ⟨v, rfl, r1⟩ := reps1 r
  rw [Rep] at r1
  obtain ⟨t, rfl⟩ := r1
  exact chr_of_range h0 h1 ⟨Step.toks, rep_str⟩

theorem call_intS {x : Str} {n : Int} (hn : PySem.intText? x = some n) (hl : x.length ≤ 640) : CallOk prog w A G O (.type "int") [.str x] (.int n) := fun s vs g ho r => by
  obtain ⟨v, rfl, r1⟩ := reps1 r
  rw [Rep] at r1
  obtain ⟨t, rfl⟩ := r1
  exact KIN.call_text hn hl ⟨Step.toks, rep_int⟩
theorem call_intI {n : Int} : CallOk prog w A G O (.type "int") [.int n] (.int n) := fun s vs g ho r => by
  obtain ⟨v, rfl, r1⟩ := reps1 r
  rw [Rep] at r1
  obtain ⟨t, rfl⟩ := r1
  exact call_int_int ⟨Step.refl s, rep_int⟩

/-! range -/
theorem iter_range (hh : A.handled = none) {n : Int} {fe e : Expr} {pos : Pos} (hf : Ev prog w A G F ρ C fe (.raw (.type "range"))) (he : Ev prog w A G F ρ C e (.int n)) (h0 : 0 ≤ n) (h1 : n < 2 ^ 62)
    (hc : eval (.Call fe [e] [] pos) F.env = (do callWith pos (← eval fe F.env) [] (backTo pos (starEach [e] F.env)) (backToKw pos (keywordEach [] F.env))) := by first | rfl | with_unfolding_all rfl)
    (hse : starEach [e] F.env = (false, eval e F.env) :: starEach [] F.env := by first | rfl | with_unfolding_all rfl) :
    IterE prog w A G F ρ C (.Call fe [e] [] pos) ((List.range n.toNat).map fun (i : Nat) => D.int (i : Int)) True := fun s I => by
  refine Call_ (wpAny_mono (hf s I) (fun fv s₁ x => ?_) fun _ _ e => e) hc
  obtain ⟨st, r⟩ := x
  rw [Rep] at r; subst r
  refine PyProof.Rows.callWith_type (by rw [hse]; rfl) ?_
  rw [hse]
  refine evalArgs_plain (spliced_cons (wpAny_mono (he s₁ (I.go st)) (fun v s₂ y => ?_) fun _ _ e => e))
  refine spliced_nil ?_
  have I₂ := (I.go st).go y.1
  obtain ⟨st₂, r⟩ := y
  rw [Rep] at r
  obtain ⟨t, rfl⟩ := r
  refine call_range_1 ?_
  have stA : Step s₂ { s₂ with heap := s₂.heap.push { cls := .type "range", data := .fields #[.int 0 s₂.toks, .int n t, .int 1 (s₂.toks + 1)] }, toks := s₂.toks + 1 + 1 } := Step.of_keeps fun _ _ e => Heap.get?_push_of_some _ e
  have I₃ := I₂.go stA
  generalize hs3 : ({ s₂ with heap := s₂.heap.push { cls := .type "range", data := .fields #[.int 0 s₂.toks, .int n t, .int 1 (s₂.toks + 1)] }, toks := s₂.toks + 1 + 1 } : Shared) = s₃ at stA I₃ ⊢
  have hrg : IsRange s₃.heap s₂.heap.objs.size 0 n 1 s₂.toks t (s₂.toks + 1) := by rw [← hs3]; exact Heap.get?_push_size _ rfl
  refine wpAny_pyIter_range hrg (small_one (by (first | lia | omega)) (by (first | lia | omega)) (by (first | lia | omega)) (by (first | lia | omega))) ?_
  rw [rangeSize_one]
  have hfr : s₃.heap.get? s₃.heap.objs.size = none := get?_size _
  have hIt := fresh_offTab I₃.gi.tab hfr
  have hsz : (if (0 : Int) < n then n - 0 else 0) = n := by split <;> (first | lia | omega)
  rw [hsz]
  have hI₁ : IsRangeIter (s₃.heap.push { cls := .type "range_iterator", data := .fields #[rawInt 0, rawInt n, rawInt 1] }) s₃.heap.objs.size 0 n 1 := Heap.get?_push_size _ rfl
  generalize hH : s₃.heap.push { cls := .type "range_iterator", data := .fields #[rawInt 0, rawInt n, rawInt 1] } = H at hI₁ ⊢
  have stB : Step s₃ { s₃ with heap := H } := by rw [← hH]; exact Step.push
  refine ⟨((st.trans st₂).trans stA).trans stB, fun i s' => IsRangeIter s'.heap s₃.heap.objs.size i (n - i) 1, ItOk.early (b₁ := s₃) ?_ ((st.trans st₂).trans stA), by simpa using hI₁⟩
  have kf : ∀ {i : Nat} {s₁ : Shared}, IsRangeIter s₁.heap s₃.heap.objs.size i (n - i) 1 → ∀ o, s₁.heap.get? s₃.heap.objs.size = some o → (∃ vs, o.data = .fields vs) ∧ o.cls ≠ .none := fun h1 o e => by
    rw [h1] at e; cases e; exact ⟨⟨_, rfl⟩, by nofun⟩
  have kc : ∀ {i : Nat} {s₁ : Shared}, IsRangeIter s₁.heap s₃.heap.objs.size i (n - i) 1 → ∀ o, s₁.heap.get? s₃.heap.objs.size = some o → ∀ vs, o.data = .fields vs → ∀ q t, vs[1]? ≠ some (.str q t) := fun h1 o e us hu q t => by
    rw [h1] at e; cases e; cases hu; simp [rawInt]
  constructor
  · rintro i s₁ s₂ e st
    exact st.keep _ _ hIt e
  · rintro i s₁ a h' tk e hs hk
    refine (hs.2 _ fun q => ?_).trans e
    rcases hk with ⟨_, hk⟩ | hk
    · exact (hk _ (q ▸ e)).1 _ rfl
    · rw [← q] at hk
      rw [show H.get? s₃.heap.objs.size = some _ from hI₁] at hk; cases hk
  · rintro i s₁ d hd h1 g₁ o₁
    rw [List.getElem?_map, Option.map_eq_some_iff] at hd
    obtain ⟨j, hj, rfl⟩ := hd
    obtain ⟨hlt, rfl⟩ := List.getElem?_eq_some_iff.mp hj
    simp only [List.length_range, List.getElem_range] at hlt ⊢
    refine wpAny_pyNext_range_item h1 (by (first | lia | omega)) fun h' hit hs => ?_
    refine ⟨_, rfl, nx_extBut g₁.tab hfr hIt (kf h1) (kc h1) hs.extBut, ?_, fun _ _ => rep_int⟩
    have e : n - ((i : Nat) : Int) - 1 = n - ((i + 1 : Nat) : Int) := by (first | lia | omega)
    have e2 : ((i : Nat) : Int) + 1 = ((i + 1 : Nat) : Int) := by (first | lia | omega)
    rw [e, e2] at hit
    exact hit
  · rintro s₁ h1 g₁ o₁
    simp only [List.length_map, List.length_range] at h1
    refine wpAny_pyNext_range_end hh h1 (by (first | lia | omega)) fun h' hs => ?_
    exact ⟨rfl, nx_extBut (tk := s₁.toks) g₁.tab hfr hIt (kf h1) (kc h1) hs⟩
  · rintro i s₁ h1
    exact wpAny_pyIter_rangeiter h1 ⟨rfl, rfl⟩
  · rintro i s₁ target v e
    exact owned_any e rfl (by decide)
  · exact fun _ _ _ h => h

/-! try, when nothing is raised -/
theorem x_try {body orelse : List Stmt} {h₀ : ExceptHandler} {hs : List ExceptHandler} {pos : Pos} (h : wpAny (model prog w) A (execs (body) F.env) (Then prog w A F.env orelse (Then prog w A F.env rest Q)) noE s) :
    wpAny (model prog w) A (execs (.Try body (h₀ :: hs) orelse [] pos :: rest) F.env) Q noE s := by
  refine wpAny_execs_cons (wpAny_Try_except (wpAny_mono h (fun f s' z => ?_) fun _ _ e => e.elim))
  cases f with
  | next => exact wpAny_mono (show wpAny _ _ _ _ _ _ from z) (fun f s'' z => by cases f <;> exact z) fun _ _ e => e
  | _ => exact z

/-! methods -/
theorem meth_list {name : Str} {id : String} {pl : Sem Bool} {l : Addr} {vs : List Value} {Q : Value × List Value → Shared → Prop} (slot : Slot "list" name id)
    (hty : typeOf (.builtin id) = pure (.type "method_descriptor")) (hl : s.heap.PlainList l vs.toArray) (h : Q (.builtin id, [.ref l]) s) : wpAny (model prog w) A (getMethod (.ref l) name pl) Q noE s := by
  have hl' := hl
  obtain ⟨n, e⟩ := hl'
  exact getMethod_list_of slot hty hl.isList ⟨_, e, rfl⟩ h

/-- a method of a value that is no object of the heap -/
theorem Ev.meth {id : String} {o e : Expr} {es : List Expr} {name : Str} {ap pos : Pos} {d₀ d : D} {ds : List D} {pl : Sem Bool} (ho : Ev prog w A G F ρ C o d₀)
    (hm : ∀ (s : Shared) v, Rep F.O s.heap d₀ v → ∀ Q : Value × List Value → Shared → Prop, Q (.builtin id, [v]) s → wpAny (model prog w) A (getMethod v name pl) Q noE s)
    (ha : Evs prog w A G F ρ C (e :: es) ds) (h : CallOk prog w A G F.O (.builtin id) (d₀ :: ds) d)
    (hc : eval (.Call (.Attribute o name ap) (e :: es) [] pos) F.env = (do
      let ov ← eval o F.env
      standAt ap.atName
      let (f, first) ← holding [ov] (getMethod ov name pl)
      callWith pos f first (backTo pos (starEach (e :: es) F.env)) []) := by first | rfl | with_unfolding_all rfl)
    (he : starEach (e :: es) F.env = (false, eval e F.env) :: starEach es F.env := by first | rfl | with_unfolding_all rfl)
    (hplain : (backTo pos (starEach es F.env)).any (·.1) = false := by first | rfl | with_unfolding_all rfl) : Ev prog w A G F ρ C (.Call (.Attribute o name ap) (e :: es) [] pos) d := fun s I => by
  refine MethodCall_ (pl := pl) (wpAny_mono (ho s I) (fun v s₁ x => hm s₁ v x.2 _ ?_) fun _ _ e => e) hc
  refine callWith_method1 (wpAny_mono (ha s₁ pos (I.go x.1)) (fun vs s₂ y => ?_) fun _ _ e => e) he hplain
  have I₂ := (I.go x.1).go y.1
  exact wpAny_mono (h s₂ _ I₂.gi I₂.okO (Reps.cons (x.2.step (I.go x.1).okO y.1) y.2)) (fun _ _ z => ⟨(x.1.trans y.1).trans z.1, z.2⟩) fun _ _ e => e

/-! one's own list grown -/
theorem x_append {a : Addr} {ds : List D} {x : Str} {d : D} {e : Expr} {px ap pos spos : Pos} {pl : Sem Bool} (I : Inv G F ρ ((a, ds) :: C) s) (hx : (x, D.raw (.ref a)) ∈ ρ) (he : Ev prog w A G F ρ ((a, ds) :: C) e d) (hz : ds.length ≤ sizeLine)
    (h : ∀ s', Inv G F ρ ((a, ds ++ [d]) :: C) s' → wpAny (model prog w) A (execs rest F.env) Q noE s') (hdb : (x == ("__debug__" : Str)) = false := by decide)
    (hc : eval (.Call (.Attribute (.Name x px) "append" ap) [e] [] pos) F.env = (do
      let ov ← eval (.Name x px) F.env
      standAt ap.atName
      let (f, first) ← holding [ov] (getMethod ov "append" pl)
      callWith pos f first (backTo pos (starEach [e] F.env)) []) := by first | rfl | with_unfolding_all rfl)
    (hse : starEach [e] F.env = (false, eval e F.env) :: starEach [] F.env := by first | rfl | with_unfolding_all rfl)
    (hsw : swapsWith (.Call (.Attribute (.Name x px) "append" ap) [e] [] pos) none spos.line F.env = pure false := by first | rfl | with_unfolding_all rfl) :
    wpAny (model prog w) A (execs (.Expr (.Call (.Attribute (.Name x px) "append" ap) [e] [] pos) spos :: rest) F.env) Q noE s := by
  have hi : interactive F.env = false := by unfold interactive; rw [I.kind]; rfl
  refine wpAny_execs_cons (wpAny_Expr (MethodCall_ (pl := pl) (wpAny_Name (I.load hx fun v r => ?_) hdb) hc) hi hsw)
  rw [Rep] at r; subst r
  obtain ⟨k1, k2, k3, vs, k4, k5⟩ := I.own _ (.head _)
  dsimp only at k1 k2 k3 k4 k5
  refine meth_list slot_list_append type_list_append k4 ?_
  refine callWith_method1 (rest := []) (wpAny_mono (Evs.cons he Evs.nil hse s pos I) (fun us s₂ y => ?_) fun _ _ e => e) hse
  obtain ⟨u, rfl, hu⟩ := reps1 y.2
  have I₂ := I.go y.1
  obtain ⟨_, _, _, vs₂, k4', k5'⟩ := I₂.own _ (.head _)
  dsimp only at k4' k5'
  refine wpAny_list_append_plain k4' (fun h' hl hsb => ?_) (by simp only [List.size_toArray, k5'.length]; exact hz)
  exact h _ (I₂.setOwn (vs' := vs₂ ++ [u]) (by simpa using hl) hsb (k5'.append (Reps.cons hu Reps.nil)))

theorem list_insertW (l : Addr) (items : Array Value) (n : Nat) (x : Int) (u : Tok) (y : Value) (hc0 : ¬(!Builtin.List.listFitsIndex x) = true) (hsz : items.size ≤ sizeLine) :
    Meets (Builtin.«list.insert» ⟨[.ref l, .int x u, y], []⟩) (fun _ R s => s.heap.get? l = some { cls := .type "list", dict := none, data := .seq items n, slots := #[] } ∧ R (.ok (.ret Value.none)) { s with heap := s.heap.update l (Obj.mapSeq fun xs => have k := if x < 0 then (x + ((xs.size : Nat) : Int)).toNat else min x.toNat xs.size; (xs.extract 0 k).push y ++ xs.extract k), toks := s.toks }) :=
  AutoListH.list_insert_list_int_val_1 l items n x u y hc0 hsz

theorem call_insert {l : Addr} {vs : List Value} {k : Int} {u : Tok} {y : Value} {Q : Value → Shared → Prop} (hl : s.heap.PlainList l vs.toArray) (h0 : 0 ≤ k) (hk : k ≤ vs.length) (hz : vs.length ≤ sizeLine)
    (h : ∀ h', h'.PlainList l (vs.take k.toNat ++ y :: vs.drop k.toNat).toArray → Heap.SameBut l s.heap h' → Q .none { s with heap := h' }) : wpAny (model prog w) A (call (.builtin "list.insert") [.ref l, .int k u, y]) Q noE s := by
  obtain ⟨n, e⟩ := hl
  refine call_meets PySem.F.slot_list_insert (show s.TypeIs (.ref l) "list" from ⟨_, e, rfl⟩) PySem.F.entry_list_insert (PySem.F.args_list_insert_3 _ _ _) (list_insertW l vs.toArray n k u y ?_ (by simpa using hz)) ⟨e, ?_⟩
  · rw [sizeLine_eq] at hz
    simp [Builtin.List.listFitsIndex]
    (first | lia | omega)
  · show Q _ _
    refine h _ ?_ (Heap.SameBut.update ..)
    have key : ∀ xs : Array Value, xs = vs.toArray → ((xs.extract 0 (if k < 0 then (k + ((xs.size : Nat) : Int)).toNat else min k.toNat xs.size)).push y ++ xs.extract (if k < 0 then (k + ((xs.size : Nat) : Int)).toNat else min k.toNat xs.size)) = (vs.take k.toNat ++ y :: vs.drop k.toNat).toArray := by
      rintro xs rfl
      rw [if_neg (by (first | lia | omega)), List.size_toArray, Nat.min_eq_left (by (first | lia | omega))]
      apply Array.ext'
      simp [List.extract_eq_take_drop]
      exact List.take_of_length_le (by simp)
    have e2 := Heap.get?_update_self (Obj.mapSeq fun xs => have k := if k < 0 then (k + ((xs.size : Nat) : Int)).toNat else min k.toNat xs.size; (xs.extract 0 k).push y ++ xs.extract k) e rfl
    have e3 := key _ rfl
    unfold Obj.mapSeq at e2 ⊢
    dsimp only at e2 e3 ⊢
    rw [e3] at e2
    exact ⟨_, e2⟩

theorem x_own {x : Str} {px pos lpos : Pos} (ρ' : Addr → List (Str × D)) (I : Inv G F ρ C s) (hp : MayPut F x) (hfree : Free F) (hok : ∀ a, F.ok a)
    (hput : ∀ a, PutTo x (.raw (.ref a)) ρ (ρ' a))
    (h : ∀ a s', a ∉ F.O → Inv G { F with O := a :: F.O } (ρ' a) ((a, []) :: C) s' → wpAny (model prog w) A (execs rest F.env) Q noE s') :
    wpAny (model prog w) A (execs (.Assign [.Name x px] (.List [] lpos) pos :: rest) F.env) Q noE s := by
  refine wpAny_execs_cons (wpAny_Assign_Name (List_ (args_nil (wpAny_newObj_type ?_))))
  have hn : s.heap.get? s.heap.objs.size = none := get?_size _
  have J := I.newOwn (tk := s.toks) hn (fresh_offTab I.gi.tab hn) (fun b o e => Heap.get?_push_of_some { cls := .type "list", data := .seq ([] : List Value).toArray } e) ⟨_, Heap.get?_push_size _ rfl⟩ (hok _) (fun _ _ _ _ _ _ _ => hfree _)
  exact J.store (F := { F with O := s.heap.objs.size :: F.O }) hp (hput _) (by rw [Rep]) fun s' I' => h _ s' (I.okO.fresh hn) I'
end
end
section
set_option Elab.async false
set_option maxRecDepth 100000
set_option maxHeartbeats 8000000
open PySem.Calls
/-- the row of the law -/
abbrev Rw : OpenRow := PySem.Challenge.rw_qh0019_01.row
/-- the statements of the text that the head keeps in sight, and the names that it leaves out -/
noncomputable def sight : Program := PySem.W.view PySem.Challenge.pw_qh0019_01 [0, 2, 3, 4, 6, 7, 9, 10, 11, 12, 13, 14, 21, 22, 25, 26, 27, 28, 29, 30, 31, 32]
noncomputable def apart : List Str := ["bytes_types", "a2b_base64", "b2a_base64", "b64encode", "b64decode", "_initial_missing", "reduce"].map Str.ofString
/-- where the text begins, and where its top ends -/
noncomputable abbrev booted (w : World) (os : OsState) : Shared := ⟨boot_heap w.params, Array.mk [], boot_drawn, boot_toks, os⟩
noncomputable abbrev topped (w : World) (os : OsState) : Option Shared := topFrom treeTable Rw.prog w 2150 (booted w os)
noncomputable abbrev lookT (s : Shared) : Bool := xlAt sight [] s && recOk Rw.toRowW.records s
theorem opens (w : World) : ∃ os, fencedOpening treeTable Rw.prog w 2150 = some (booted w os) := by
  have e := boot_open (p := Rw.prog) (N := 2150) (by kernel_rfl) (by decide) (fun s => by kernel_rfl) w
  cases q : fencedOpening treeTable Rw.prog w 2150 with
  | none => rw [q] at e; cases e
  | some s =>
    obtain ⟨h, g, d, t, os⟩ := s
    rw [q] at e
    cases e
    exact ⟨os, rfl⟩
/-! the look at the law's text, in parts -/
theorem said_names : namesResolve Rw.prog = true := by kernel_rfl
theorem said_roads : noRoadLSs { strict := !(importedModules Rw.prog.main.body).all cThrough.contains, foot := none, bare := (["vars", "dir", "locals"] : List Str).filter (readsOut Rw.prog Rw.prog.main.body) } Rw.prog.main.body = true := by kernel_rfl
theorem said_attrs : namesMeet Rw.prog Rw.prog.main.body (fun _ n => attrL n) = true := by kernel_rfl
theorem said_looks : looksOpen Rw.prog = true := by unfold looksOpen; rw [said_names, said_roads, said_attrs]; kernel_rfl
theorem said_row : Rw.wellSaid = true := by unfold OpenRow.wellSaid OpenRow.partSaid; rw [said_looks]; kernel_rfl
theorem law_said : OpenLaw.wellSaid PySem.Challenge.rw_qh0019_01 = true := by
  unfold OpenLaw.wellSaid
  rw [show PySem.Challenge.rw_qh0019_01.row.wellSaid = true from said_row]
  kernel_rfl
/-- the head, its walk left open: the top is run once, and looked at -/
theorem head_of (H : Hook) {K : Params → Frag} {as ts : List Addr} {e : ∀ P, as = (K P).map (·.1)} (hH : H = kmHook K as e ts) {d : DefRec} {kwd : List (Str × Expr)}
    (look : ∀ w os, (topped w os).map (fun s => (openSeen sight apart (importedModules Rw.prog.main.body) lookT true s, (K w.params).map fun p => s.heap.get? p.1, ts.map s.heap.get?)) =
      some (openGood sight apart, (K w.params).map fun p => some p.2, ts.map fun _ => some (tabObj #[])))
    (h1 : defOf sight Rw.name = some (d, kwd)) (h2 : Rw.prog.theDef Rw.name = some (d.params, d.body, d.scope)) (h3 : kwWritten? d.params.kwonlyargs d.params.kw_defaults = some kwd)
    (hw : Rw.toRowW.promised) (call : WalkO sight apart (XL sight []) H.says Rw.toRowW d kwd fun f vs => PySem.call f vs) : Rw.Holds := by
  refine holds_open (N := 2150) (Xt := lookT) (fun w => ?_) H.of H.keeps (fun s e => xl_of s (Bool.and_eq_true_iff.mp e).1) XL.keeps h1 h2 h3 (fun s e => recFacts_of (Bool.and_eq_true_iff.mp e).2) rfl said_row (by decide +kernel) ⟨rfl, rfl, rfl, rfl, rfl, by decide +kernel⟩ hw call
  subst hH
  obtain ⟨os, eo⟩ := opens w
  have a := look w os
  rw [openEnds, eo, Option.bind_some]
  unfold topped at a
  generalize topFrom treeTable Rw.prog w 2150 (booted w os) = r at a ⊢
  cases r with
  | none => cases a
  | some s =>
    rw [Option.map_some] at a ⊢
    obtain ⟨a1, a2⟩ := Prod.mk.inj (Option.some.inj a)
    obtain ⟨a2, a3⟩ := Prod.mk.inj a2
    have ea : as.map s.heap.get? = (K w.params).map fun p => some p.2 := by rw [← a2, e w.params, List.map_map]; rfl
    show some (_, (as.map s.heap.get?, ts.map s.heap.get?)) = _
    rw [a1, ea, a3]
    rfl
theorem law_of (h : Rw.Holds) : PySem.Challenge.rw_qh0019_01.Holds := holds_law law_said fun _ => h
local macro_rules | `(tactic| o_law) => `(tactic| refine law_of ?_)
local macro_rules | `(tactic| o_head $H) => do
  let (hw, hc) := (Lean.mkIdent `hw, Lean.mkIdent `hc)
  `(tactic| refine head_of $H rfl (fun _ _ => by kernel_rfl) (by rfl) (by rfl) (by rfl) ?$hw ?$hc)
open_top hd for PySem.Challenge.rw_qh0019_01
end
section
set_option Elab.async false
set_option maxRecDepth 100000

open PySem.Calls

noncomputable abbrev Kf (w : World) : Frag := hd.heap_1 w.params

structure Gr (w : World) (G : GData) : Prop where
  kin : (Kf w).In G.h
  mb : ∀ x : Str, x ≠ "__name__" → G.mb x = bootBuiltins x

section
variable {prog : Program} {w : World} {A : Around} {G : GData} {s : Shared} {O : List Addr}
theorem Gr.mg (g : Gr w G) {x : Str} {v : Value} (e : nsIn (Kf w) mainGlobals x = some (some v)) : G.mg x = some v := mg_of g.kin G.g e
theorem Gr.mgn (g : Gr w G) {x : Str} (e : nsIn (Kf w) mainGlobals x = some none) : G.mg x = none := mg_none_of g.kin G.g e
theorem Gr.bl (g : Gr w G) {x : Str} {v : Value} (e : bootBuiltins x = some v) (h : x ≠ "__name__") : G.mb x = some v := (g.mb x h).trans e

noncomputable def cellNames (names : List (Str × NameKind)) : List Str := (names.filter fun p => p.2 == .cell).map (·.1)
theorem cellsFrom_names : ∀ (names : List (Str × NameKind)) (n : Nat) (acc : List (Str × Addr)), (cellsFrom n names acc).map (·.1) = (cellNames names).reverse ++ acc.map (·.1)
  | [], _, _ => by simp [cellsFrom, cellNames]
  | (x, k) :: r, n, acc => by
    unfold cellsFrom
    split
    · rename_i hk
      rw [cellsFrom_names r]
      simp [cellNames, hk]
    · rename_i hk
      rw [cellsFrom_names r]
      simp [cellNames, hk]
noncomputable def chk (names : List (Str × NameKind)) (keys : List Str) : Bool :=
  decide keys.Nodup && keys.all (fun x => names.lookup x == some .local || names.lookup x == some .cell) && decide (cellNames names).Nodup && (cellNames names).all fun x => names.lookup x == some .cell

/-- a def of the top, entered: its record is a letter, of which its names are told -/
theorem Gr.enter (g : Gr w G) {k : Nat} {d : D} {f : Addr} {o : Obj} {fd : FuncData} {body : List Stmt} {args : Args} {binds : List (Str × Value)} {ρ : List (Str × D)} {names : List (Str × NameKind)} (hroom : Room k A)
    (hf : (Kf w).lookup f = some o) (hd : o.data = .func fd) (hbody : fd.body = .stmts body) (hn : fd.scope.names = names) (hcd : codeIn (Kf w) fd.code fd.qualname = true) (hclo : fd.closure = []) (hgl : fd.globals = mainGlobals) (hbl : fd.builtins = builtinsNs)
    (hco : fd.scope.isCoroutine = false) (hgen : fd.scope.isGenerator = false) (hk : fd.scope.kind = .function)
    (gi : GI G s) (hO : OkO O s.heap)
    (hbind : wpAny (model prog w) A.in1 (bindArgs fd args) (fun bs s₁ => bs = binds ∧ s₁ = s) noE s) (hb : BindsOk O s.heap binds ρ)
    (hchk : chk names (ρ.map (·.1)) = true)
    (h : ∀ (fd : FuncData) L s₁, fd.scope.names = names → Inv G (fnFm fd f L O s) ρ [] s₁ → wpAny (model prog w) (A.deeper (callEnvC fd L f)) (execs body (callEnvC fd L f)) (Done O s d) noE s₁) :
    codeAny (model prog w) A (.call (.ref f) args) (Back O s d) s := by
  subst hn
  simp only [chk, Bool.and_eq_true, decide_eq_true_eq, List.all_eq_true, Bool.or_eq_true, beq_iff_eq] at hchk
  obtain ⟨⟨⟨c1, c2⟩, c3⟩, c4⟩ := hchk
  refine Mine.enter hroom.depth (g.kin _ _ hf) hd (codeRec_of g.kin hcd) hbody hclo hgl hbl gi hO hbind hb c1 (fun x hx => ?_) (fun p hp => ?_) ?_ (fun s₁ I => h fd _ s₁ rfl I) hco hgen hk
  · rcases c2 x.1 (List.mem_map_of_mem hx) with q | q
    · exact .inl q
    · exact .inr ⟨q, cellsFrom_some _ _ _ (.inl q)⟩
  · have : p.1 ∈ (cellsFrom (s.heap.objs.size + 1) fd.scope.names []).map (·.1) := List.mem_map_of_mem hp
    rw [cellsFrom_names] at this
    simp only [List.map_nil, List.append_nil, List.mem_reverse] at this
    exact c4 _ this
  · rw [cellsFrom_names]
    simp only [List.map_nil, List.append_nil]
    unfold List.Nodup at c3 ⊢
    rw [List.pairwise_reverse]
    exact c3.imp fun h => h.symm
theorem Gr.g_ctk (g : Gr w G) : G.mg (Str.ofString "cmp_to_key") = some (.ref 130) := g.mg (by kernel_rfl)
theorem Gr.g_reduce (g : Gr w G) : G.mg (Str.ofString "reduce") = some (.ref 139) := g.mg (by kernel_rfl)
noncomputable def b64Tab : Array UInt8 := #[65, 66, 67, 68, 69, 70, 71, 72, 73, 74, 75, 76, 77, 78, 79, 80, 81, 82, 83, 84, 85, 86, 87, 88, 89, 90, 97, 98, 99, 100, 101, 102, 103, 104, 105, 106, 107, 108, 109, 110, 111, 112, 113, 114, 115, 116, 117, 118, 119, 120, 121, 122, 48, 49, 50, 51, 52, 53, 54, 55, 56, 57, 43, 47]
theorem Gr.g_B64 (g : Gr w G) : G.mg (Str.ofString "_B64") = some (.bytes b64Tab 281) := g.mg (by kernel_rfl)
section
variable {F : Fm} {ρ : List (Str × D)} {C : List (Addr × List D)} {pos : Pos}
theorem Gr.e_sorted (g : Gr w G) (hk : F.env.kindOf (Str.ofString "sorted") = some .globalImplicit) : Ev prog w A G F ρ C (.Name (Str.ofString "sorted") pos) (.raw (.builtin "sorted")) := Ev.blt (g.mgn (by kernel_rfl)) (g.bl (by kernel_rfl) (by decide)) hk
theorem Gr.e_iter (g : Gr w G) (hk : F.env.kindOf (Str.ofString "iter") = some .globalImplicit) : Ev prog w A G F ρ C (.Name (Str.ofString "iter") pos) (.raw (.builtin "iter")) := Ev.blt (g.mgn (by kernel_rfl)) (g.bl (by kernel_rfl) (by decide)) hk
end
/-- the names of the text, and those of the builtins, that the walk asks for -/
theorem Gr.glob (g : Gr w G) {x : Str} {v : Value} (h : (x, v) ∈ [(Str.ofString "_b64_value", (.ref 91)), (Str.ofString "_truth", (.ref 84)), (Str.ofString "_buffer", (.ref 77)), (Str.ofString "_ascii_buffer", (.ref 70)), (Str.ofString "a2b_base64", (.ref 99)), (Str.ofString "b2a_base64", (.ref 107)), (Str.ofString "b64encode", (.ref 115)), (Str.ofString "b64decode", (.ref 123)), (Str.ofString "_bytes_from_decode_data", (.ref 50)), (Str.ofString "_format_range_unified", (.ref 28)), (Str.ofString "_format_range_context", (.ref 35)), (Str.ofString "restore", (.ref 42)), (Str.ofString "cmp_to_key", (.ref 130)), (Str.ofString "reduce", (.ref 139)), (Str.ofString "_initial_missing", (.ref 131)), (Str.ofString "_law_runs", (.ref 146)), (Str.ofString "_law_texts", (.ref 153)), (Str.ofString "_law_patch", (.ref 158)), (Str.ofString "_law_unified", (.ref 163)), (Str.ofString "_law_context", (.ref 168)), (Str.ofString "_law_read", (.ref 173)), (Str.ofString "_law_led", (.ref 180)), (Str.ofString "_B64", (.bytes b64Tab 281))]) : G.mg x = some v := by
  have a : ([(Str.ofString "_b64_value", (.ref 91)), (Str.ofString "_truth", (.ref 84)), (Str.ofString "_buffer", (.ref 77)), (Str.ofString "_ascii_buffer", (.ref 70)), (Str.ofString "a2b_base64", (.ref 99)), (Str.ofString "b2a_base64", (.ref 107)), (Str.ofString "b64encode", (.ref 115)), (Str.ofString "b64decode", (.ref 123)), (Str.ofString "_bytes_from_decode_data", (.ref 50)), (Str.ofString "_format_range_unified", (.ref 28)), (Str.ofString "_format_range_context", (.ref 35)), (Str.ofString "restore", (.ref 42)), (Str.ofString "cmp_to_key", (.ref 130)), (Str.ofString "reduce", (.ref 139)), (Str.ofString "_initial_missing", (.ref 131)), (Str.ofString "_law_runs", (.ref 146)), (Str.ofString "_law_texts", (.ref 153)), (Str.ofString "_law_patch", (.ref 158)), (Str.ofString "_law_unified", (.ref 163)), (Str.ofString "_law_context", (.ref 168)), (Str.ofString "_law_read", (.ref 173)), (Str.ofString "_law_led", (.ref 180)), (Str.ofString "_B64", (.bytes b64Tab 281))] : List (Str × Value)).all (fun p => nsIn (Kf w) mainGlobals p.1 == some (some p.2)) = true := by kernel_rfl
  exact g.mg (beq_iff_eq.mp (List.all_eq_true.mp a _ h))
theorem Gr.blt {F : Fm} {ρ : List (Str × D)} {C : List (Addr × List D)} {pos : Pos} (g : Gr w G) {x : Str} {v : Value} (hk : F.env.kindOf x = some .globalImplicit) (h : (x, v) ∈ [(Str.ofString "type", (.type "type")), (Str.ofString "bytes", (.type "bytes")), (Str.ofString "str", (.type "str")), (Str.ofString "bool", (.type "bool")), (Str.ofString "int", (.type "int")), (Str.ofString "len", (.builtin "len")), (Str.ofString "range", (.type "range")), (Str.ofString "chr", (.builtin "chr")), (Str.ofString "sorted", (.builtin "sorted")), (Str.ofString "isinstance", (.builtin "isinstance")), (Str.ofString "iter", (.builtin "iter"))]) : Ev prog w A G F ρ C (.Name x pos) (.raw v) := by
  have a : ([(Str.ofString "type", (.type "type")), (Str.ofString "bytes", (.type "bytes")), (Str.ofString "str", (.type "str")), (Str.ofString "bool", (.type "bool")), (Str.ofString "int", (.type "int")), (Str.ofString "len", (.builtin "len")), (Str.ofString "range", (.type "range")), (Str.ofString "chr", (.builtin "chr")), (Str.ofString "sorted", (.builtin "sorted")), (Str.ofString "isinstance", (.builtin "isinstance")), (Str.ofString "iter", (.builtin "iter"))] : List (Str × Value)).all (fun p => nsIn (Kf w) mainGlobals p.1 == some none && bootBuiltins p.1 == some p.2 && p.1 != "__name__" && p.1 != "__debug__") = true := by kernel_rfl
  have a := List.all_eq_true.mp a _ h
  simp only [Bool.and_eq_true, bne_iff_ne, beq_iff_eq] at a
  exact Ev.blt (g.mgn a.1.1.1) (g.bl a.1.1.2 a.1.2) hk (beq_eq_false_iff_ne.mpr a.2)
theorem kind_of {fd : FuncData} {L f : Addr} {x : Str} {k : NameKind} {names : List (Str × NameKind)} (hn : fd.scope.names = names) (h : names.lookup x = some k) : (callEnvC fd L f).kindOf x = some k := by
  show fd.scope.names.lookup x = some k
  rw [hn]; exact h
theorem put_of {fd : FuncData} {L f : Addr} {x : Str} {names : List (Str × NameKind)} {s : Shared} {F : Fm} (hn : fd.scope.names = names) (h : names.lookup x = some .local) (hF : F.env = callEnvC fd L f := by first | rfl | with_unfolding_all rfl) : MayPut F x := .inl (by rw [hF]; exact kind_of hn h)
end
end
section
set_option Elab.async false
set_option maxRecDepth 100000
theorem tn_tt : isSubtype (.type "tuple") (.type "tuple") = pure true := by rw [isSubtype_type]; kernel_rfl
theorem tn_dd : isSubtype (.type "dict") (.type "dict") = pure true := by rw [isSubtype_type]; kernel_rfl
theorem tn_yy : isSubtype (.type "type") (.type "type") = pure true := by rw [isSubtype_type]; kernel_rfl
theorem tn_oo : isSubtype (.type "object") (.type "object") = pure true := by rw [isSubtype_type]; kernel_rfl
theorem tn_ty_o : typeOf (.type "object") = pure (.type "type") := by kernel_rfl
theorem tn_ty_t : typeOf (.type "type") = pure (.type "type") := by kernel_rfl
theorem tn_ext : Builtin.extendedBase [.type "object"] = pure (.type "object") := by kernel_rfl
theorem tn_nt : Builtin.notOverATurnedClass [.type "object"] = pure () := by kernel_rfl
theorem tn_best : Builtin.Slots.bestBase [.type "object"] = pure (.type "object") := by kernel_rfl
theorem tn_names : Builtin.Slots.slotNamesOf (.type "object") = pure [] := by kernel_rfl
theorem tn_gd : Builtin.Slots.givesDict (.type "object") = pure false := by kernel_rfl
theorem tn_gw : Builtin.Slots.givesWeak (.type "object") = pure false := by kernel_rfl
theorem tn_vs : Builtin.Slots.varSize (.type "object") = pure false := by kernel_rfl
theorem tn_made : Bind.madeBy (.type "object") = pure (some "object.__new__") := by kernel_rfl
theorem tn_hook : Builtin.mroHook? (.type "type") = pure none := by kernel_rfl
theorem tn_lin : Builtin.linearize [.type "object"] mroOf = pure [.type "object"] := by kernel_rfl
theorem tn_it : typeLookup (.type "dict") (Str.ofString "__iter__") = pure (some (.builtin "dict.__iter__")) := by rw [typeLookup_type, builtinLookup_eq_fast]; kernel_rfl
end
section
set_option Elab.async false
set_option maxRecDepth 100000
set_option linter.unusedVariables false
open PySem.Calls
noncomputable abbrev S (x : String) : Str := Str.ofString x

/-! a dict of names, its entries told in their order -/
inductive EntL : List DictEntry → List (Str × Value) → Prop
  | nil : EntL [] []
  | cons {hh : Int} {n : Str} {t : Tok} {v : Value} {es : List DictEntry} {kvs : List (Str × Value)} : EntL es kvs → EntL (⟨hh, .str n t, v⟩ :: es) ((n, v) :: kvs)
noncomputable def putL (n : Str) (v : Value) : List (Str × Value) → List (Str × Value)
  | [] => [(n, v)]
  | (m, u) :: r => if (m == n) = true then (m, v) :: r else (m, u) :: putL n v r
noncomputable def dropL (n : Str) : List (Str × Value) → List (Str × Value)
  | [] => []
  | (m, u) :: r => if (m == n) = true then r else (m, u) :: dropL n r
noncomputable def getL (n : Str) : List (Str × Value) → Option Value
  | [] => none
  | (m, u) :: r => if (m == n) = true then some u else getL n r
structure NsL (h : Heap) (a : Addr) (kvs : List (Str × Value)) : Prop where
  at' : ∃ es ep, h.get? a = some ⟨.type "dict", none, .dict (List.toArray es) ep, #[]⟩ ∧ EntL es kvs

theorem cps_is {m n : Str} {t : Tok} : (Value.str m t).isStrByCps n.cps.size n.cps.toList = (m == n) := Value.isStrByCps_eq _ _
theorem EntL.name {n : Str} : ∀ {es : List DictEntry} {kvs : List (Str × Value)}, EntL es kvs → ∃ x, nsNameIn n.cps.size n.cps.toList es false = (x, false) ∧ x.map (·.val) = getL n kvs
  | _, _, .nil => ⟨none, rfl, rfl⟩
  | _, _, .cons (n := m) (v := v) r => by
    obtain ⟨x, h1, h2⟩ := r.name (n := n)
    unfold nsNameIn getL
    rw [cps_is]
    by_cases e : (m == n) = true
    · rw [if_pos e, if_pos e]; exact ⟨_, rfl, rfl⟩
    · rw [if_neg e, if_neg e]; exact ⟨x, h1, h2⟩
theorem EntL.put {n : Str} {hh : Int} {t : Tok} {v : Value} : ∀ {es : List DictEntry} {kvs : List (Str × Value)}, EntL es kvs →
    EntL (nsPutIn n.cps.size n.cps.toList (fun | some e => { e with val := v } | none => ⟨hh, .str n t, v⟩) es).1 (putL n v kvs)
  | _, _, .nil => .cons .nil
  | _, _, .cons (n := m) (v := u) r => by
    have ih := r.put (n := n) (hh := hh) (t := t) (v := v)
    unfold nsPutIn putL
    rw [cps_is]
    by_cases e : (m == n) = true
    · rw [if_pos e, if_pos e]; exact .cons r
    · rw [if_neg e, if_neg e]; exact .cons ih
theorem EntL.drop {n : Str} : ∀ {es : List DictEntry} {kvs : List (Str × Value)}, EntL es kvs → ∀ es', nsDropIn n.cps.size n.cps.toList es = some es' → EntL es' (dropL n kvs)
  | _, _, .nil, _, h => by cases h
  | _, _, .cons (n := m) (v := u) r, es', h => by
    unfold nsDropIn at h
    unfold dropL
    rw [cps_is] at h
    by_cases e : (m == n) = true
    · rw [if_pos e] at h; rw [if_pos e]; cases h; exact r
    · rw [if_neg e] at h; rw [if_neg e]
      obtain ⟨es₂, h2, rfl⟩ := Option.map_eq_some_iff.mp h
      exact .cons (r.drop es₂ h2)
theorem EntL.drop_none {n : Str} : ∀ {es : List DictEntry} {kvs : List (Str × Value)}, EntL es kvs → nsDropIn n.cps.size n.cps.toList es = none → dropL n kvs = kvs
  | _, _, .nil, _ => rfl
  | _, _, .cons (n := m) (v := u) r, h => by
    unfold nsDropIn at h
    unfold dropL
    rw [cps_is] at h
    by_cases e : (m == n) = true
    · rw [if_pos e] at h; cases h
    · rw [if_neg e] at h; rw [if_neg e]
      rw [Option.map_eq_none_iff] at h
      rw [r.drop_none h]

theorem NsL.at {h h' : Heap} {a : Addr} {kvs : List (Str × Value)} (x : NsL h a kvs) (e : ∀ o, h.get? a = some o → h'.get? a = some o) : NsL h' a kvs := ⟨let ⟨es, ep, h1, h2⟩ := x.at'; ⟨es, ep, e _ h1, h2⟩⟩
theorem NsL.ne {h : Heap} {a b : Addr} {o : Obj} {kvs : List (Str × Value)} (x : NsL h a kvs) (e : h.get? b = some o) (hd : ∀ es ep, o.data ≠ .dict es ep) : b ≠ a := fun q => by
  obtain ⟨es, ep, h1, _⟩ := x.at'
  rw [q, h1] at e; cases e; exact hd _ _ rfl

section
variable {M : Model} {prog : Program} {w : World} {A : Around} {E : Value → Shared → Prop} {h : Heap} {g : Array GenState} {d : Drawn} {t : Nat} {os : OsState}

theorem nsl_get {a : Addr} {n : Str} {kvs : List (Str × Value)} {Q : Option Value → Shared → Prop} (r : Option Value) (N : NsL h a kvs) (e : getL n kvs = r) (q : Q r ⟨h, g, d, t, os⟩) : wpAny M A (nsGet a n) Q E ⟨h, g, d, t, os⟩ := by
  obtain ⟨es, ep, ho, he⟩ := N.at'
  unfold nsGet
  refine wpAny_bind (wpAny_loadPart ho ?_)
  obtain ⟨x, h1, h2⟩ := he.name (n := n)
  unfold nsLook
  dsimp only
  (try rw [show (List.toArray es).toList = es from rfl]); rw [h1]
  rw [e] at h2
  cases x with
  | none => rw [← h2] at q; exact wpAny_pure q
  | some x => rw [← h2] at q; exact wpAny_pure q
theorem nsl_set {a : Addr} {n : Str} {v : Value} {kvs : List (Str × Value)} {Q : Unit → Shared → Prop} (N : NsL h a kvs) (q : ∀ h', NsL h' a (putL n v kvs) → Heap.SameBut a h h' → Q () ⟨h', g, d, t + 1, os⟩) : wpAny M A (nsSet a n v) Q E ⟨h, g, d, t, os⟩ := by
  obtain ⟨es, ep, ho, he⟩ := N.at'
  unfold nsSet strHash
  refine wpAny_bind (wpAny_bind (wpAny_askSetting (wpAny_pure ?_)))
  refine wpAny_bind (wpAny_mkText ?_)
  refine wpAny_bind (wpAny_loadPart ho ?_)
  dsimp only
  obtain ⟨x, h1, h2⟩ := he.name (n := n)
  have hr : aRefKeyMayBeTheName n (List.toArray es) = false := by
    unfold aRefKeyMayBeTheName
    (try rw [show (List.toArray es).toList = es from rfl]); rw [h1]
    cases x <;> rfl
  rw [hr]
  simp only [Bool.false_eq_true, if_false]
  generalize (if n.cps.isEmpty = true then 0 else reduceHash (M.w.params.strHash n.cps)) = hh
  have hp := he.put (n := n) (hh := hh) (t := t) (v := v)
  have hget : (h.update a (Obj.putName n hh (.str n t) v)).get? a = some (Obj.putName n hh (.str n t) v ⟨.type "dict", none, .dict (List.toArray es) ep, #[]⟩) := Heap.get?_update_self _ ho (by
    unfold Obj.putName
    dsimp only
    split <;> rfl)
  refine wpAny_updatePart ho (q _ ⟨?_⟩ (Heap.SameBut.update ..))
  unfold Obj.putName at hget
  dsimp only at hget
  (try rw [show (List.toArray es).toList = es from rfl] at hget)
  generalize hz : nsPutIn n.cps.size n.cps.toList _ es = z at hget hp
  obtain ⟨es', b⟩ := z
  cases b with
  | false => exact ⟨es', _, by unfold Obj.putName; exact hget, hp⟩
  | true => exact ⟨es', _, by unfold Obj.putName; exact hget, hp⟩
theorem nsl_setV {a : Addr} {n : Str} {v : Value} {kvs : List (Str × Value)} {Q : Unit → Shared → Prop} (N : NsL h a kvs) (hz : kvs.length ≤ 1000) (q : ∀ h', NsL h' a (putL n v kvs) → Heap.SameBut a h h' → Q () ⟨h', g, d, t + 1, os⟩) : wpAny M A (nsSetByValue a n v) Q E ⟨h, g, d, t, os⟩ := by
  obtain ⟨es, ep, ho, he⟩ := N.at'
  have hl : ∀ {es : List DictEntry} {kvs : List (Str × Value)}, EntL es kvs → es.length = kvs.length := fun {es kvs} x => by induction x with | nil => rfl | cons r ih => simp [ih]
  unfold nsSetByValue
  refine wpAny_bind (wpAny_loadPart ho ?_)
  dsimp only
  have : ¬ (List.toArray es).size > sizeLine := by rw [List.size_toArray, hl he, sizeLine_eq]; (first | lia | omega)
  rw [decide_eq_false this]
  simp only [Bool.false_and, Bool.false_eq_true, if_false]
  exact nsl_set N q
theorem nsl_del {a : Addr} {n : Str} {kvs : List (Str × Value)} {Q : Bool → Shared → Prop} (N : NsL h a kvs) (q : ∀ h' b, NsL h' a (dropL n kvs) → Heap.SameBut a h h' → Q b ⟨h', g, d, t, os⟩) : wpAny M A (nsDel a n) Q E ⟨h, g, d, t, os⟩ := by
  obtain ⟨es, ep, ho, he⟩ := N.at'
  unfold nsDel
  refine wpAny_bind (wpAny_loadPart ho ?_)
  obtain ⟨x, h1, h2⟩ := he.name (n := n)
  unfold nsHas
  dsimp only
  (try rw [show (List.toArray es).toList = es from rfl]); rw [h1]
  cases x with
  | none =>
    refine wpAny_bind (wpAny_pure ?_)
    simp only [Bool.false_eq_true, if_false]
    refine wpAny_pure (q h _ ⟨es, ep, ho, ?_⟩ (Heap.SameBut.refl ..))
    have hd : nsDropIn n.cps.size n.cps.toList es = none := by
      have key : ∀ (l : List DictEntry), (nsNameIn n.cps.size n.cps.toList l false).1 = none → ∀ b, (nsNameIn n.cps.size n.cps.toList l b).1 = none := by
        intro l
        induction l with
        | nil => intro _ b; rfl
        | cons e r ih =>
          intro hh b
          unfold nsNameIn at hh ⊢
          by_cases c : e.key.isStrByCps n.cps.size n.cps.toList = true
          · rw [if_pos c] at hh; cases hh
          · rw [if_neg c] at hh ⊢
            have any : ∀ (l : List DictEntry) b b', (nsNameIn n.cps.size n.cps.toList l b).1 = (nsNameIn n.cps.size n.cps.toList l b').1 := by
              intro l
              induction l with
              | nil => intro _ _; rfl
              | cons e r ih => intro b b'; unfold nsNameIn; split <;> first | rfl | exact ih _ _
            exact (any r _ _).trans hh
      have : ∀ (l : List DictEntry), (nsNameIn n.cps.size n.cps.toList l false).1 = none → nsDropIn n.cps.size n.cps.toList l = none := by
        intro l
        induction l with
        | nil => intro _; rfl
        | cons e r ih =>
          intro hh
          unfold nsNameIn at hh
          unfold nsDropIn
          by_cases c : e.key.isStrByCps n.cps.size n.cps.toList = true
          · rw [if_pos c] at hh; cases hh
          · rw [if_neg c] at hh ⊢
            have any : ∀ (l : List DictEntry) b b', (nsNameIn n.cps.size n.cps.toList l b).1 = (nsNameIn n.cps.size n.cps.toList l b').1 := by
              intro l
              induction l with
              | nil => intro _ _; rfl
              | cons e r ih => intro b b'; unfold nsNameIn; split <;> first | rfl | exact ih _ _
            rw [ih ((any r _ _).trans hh)]; rfl
      exact this es (by rw [h1])
    rw [he.drop_none hd]; exact he
  | some x =>
    refine wpAny_bind (wpAny_pure ?_)
    simp only [if_true]
    cases hd : nsDropIn n.cps.size n.cps.toList es with
    | none =>
      have hget : (h.update a (Obj.dropName n)).get? a = some (Obj.dropName n ⟨.type "dict", none, .dict (List.toArray es) ep, #[]⟩) := Heap.get?_update_self _ ho (by
        unfold Obj.dropName
        dsimp only
        split <;> rfl)
      refine wpAny_bind (wpAny_updatePart ho (wpAny_pure (q _ _ ⟨es, ep, ?_, ?_⟩ (Heap.SameBut.update ..))))
      · unfold Obj.dropName at hget
        dsimp only at hget
        (try rw [show (List.toArray es).toList = es from rfl] at hget); rw [hd] at hget
        unfold Obj.dropName; exact hget
      · rw [he.drop_none hd]; exact he
    | some es' =>
      have hget : (h.update a (Obj.dropName n)).get? a = some (Obj.dropName n ⟨.type "dict", none, .dict (List.toArray es) ep, #[]⟩) := Heap.get?_update_self _ ho (by
        unfold Obj.dropName
        dsimp only
        split <;> rfl)
      refine wpAny_bind (wpAny_updatePart ho (wpAny_pure (q _ _ ⟨es', ep + 1, ?_, he.drop es' hd⟩ (Heap.SameBut.update ..))))
      unfold Obj.dropName at hget
      dsimp only at hget
      (try rw [show (List.toArray es).toList = es from rfl] at hget); rw [hd] at hget
      unfold Obj.dropName; exact hget

theorem cw_setSlot {a : Addr} {o : Obj} {i : Nat} {v : Option Value} {Q : Unit → Shared → Prop} (ho : h.get? a = some o) (hf : ∀ sl, ({ o with slots := sl } : Obj).isFreed = false) (hi : i < 1000)
    (q : ∀ h', h'.get? a = some { o with slots := (o.slots ++ Array.replicate (i + 1 - o.slots.size) none).setIfInBounds i v } → Heap.SameBut a h h' → Q () ⟨h', g, d, t, os⟩) : wpAny M A (setSlotAt a i v) Q E ⟨h, g, d, t, os⟩ := by
  unfold setSlotAt
  rw [if_neg (by rw [sizeLine_eq]; (first | lia | omega))]
  exact wpAny_updatePart ho (q _ (Heap.get?_update_self _ ho (hf _)) (Heap.SameBut.update ..))
theorem cw_updateCls {a : Addr} {c : Value} {dd : Option Addr} {cd : ClassData} {sl : Array (Option Value)} {f : ClassData → ClassData} {Q : Unit → Shared → Prop} (ho : h.get? a = some ⟨c, dd, .cls cd, sl⟩) (hb : (f cd).slotNames.length ≤ 100 ∧ (f cd).subclasses.length ≤ 100)
    (q : ∀ h', h'.get? a = some ⟨c, dd, .cls (f cd), sl⟩ → Heap.SameBut a h h' → Q () ⟨h', g, d, t, os⟩) : wpAny M A (updateCls a f) Q E ⟨h, g, d, t, os⟩ := by
  unfold updateCls
  refine wpAny_bind (wpAny_load ho ?_)
  dsimp only
  have hget : (h.update a (Obj.mapCls f)).get? a = some ⟨c, dd, .cls (f cd), sl⟩ := Heap.get?_update_self _ ho rfl
  refine wpAny_bind (wpAny_update ho ?_)
  exact wpAny_lookBehind hget (by unfold Data.pastItsLine; dsimp only; rw [if_neg]; simp only [Bool.or_eq_true, decide_eq_true_eq, not_or]; rw [sizeLine_eq]; (first | lia | omega)) (q _ hget (Heap.SameBut.update ..))
end
end
section
set_option Elab.async false
set_option maxRecDepth 100000
set_option linter.unusedVariables false
set_option maxHeartbeats 1000000
open PySem.Calls
section
variable {M : Model} {prog : Program} {w : World} {A : Around} {E : Value → Shared → Prop} {h : Heap} {g : Array GenState} {d : Drawn} {t : Nat} {os : OsState}

theorem EntL.find {n : Str} {es : List DictEntry} {kvs : List (Str × Value)} (he : EntL es kvs) : ((List.toArray es).find? (·.key.isStr n)).map (·.val) = getL n kvs := by
  obtain ⟨x, h1, h2⟩ := he.name (n := n)
  have := nsNameIn_fst n (List.toArray es)
  rw [show (List.toArray es).toList = es from rfl, h1] at this
  rw [← this]; exact h2
theorem EntL.any {n : Str} {es : List DictEntry} {kvs : List (Str × Value)} (he : EntL es kvs) : (List.toArray es).any (·.key.isStr n) = (getL n kvs).isSome := by
  obtain ⟨x, h1, h2⟩ := he.name (n := n)
  have := noSuchName_at n (List.toArray es)
  unfold noSuchName at this
  rw [show (List.toArray es).toList = es from rfl, h1] at this
  rw [← h2]
  cases x with
  | none => simp at this ⊢; exact this
  | some x => simp at this ⊢; exact this
noncomputable abbrev kPlan : Builtin.Slots.Plan := { names := [S "obj"], dict := false, weak := false, inherited := [] }
theorem slots_read {sl : Addr} {to : Tok} {n : Nat} {es : List DictEntry} {kvs : List (Str × Value)} {Q : Builtin.Slots.Plan → Shared → Prop} (he : EntL es kvs) (h1 : getL (S "__slots__") kvs = some (.ref sl)) (h2 : getL (S "obj") kvs = none)
    (hsl : h.get? sl = some ⟨.type "list", none, .seq #[.str (S "obj") to] n, #[]⟩) (q : ∀ h', (∀ b o, h.get? b = some o → h'.get? b = some o) → Q kPlan ⟨h', g, d, t, os⟩) :
    wpAny (model prog w) A (Builtin.Slots.read (S "K") [.type "object"] (List.toArray es)) Q E ⟨h, g, d, t, os⟩ := by
  have hf := he.find (n := S "__slots__")
  rw [h1] at hf
  obtain ⟨e, hf, hv⟩ := Option.map_eq_some_iff.mp hf
  have ha := he.any (n := S "obj")
  rw [h2] at ha
  simp only [Option.isSome_none] at ha
  unfold Builtin.Slots.read
  refine wpAny_bind (wpAny_of_eq tn_best (wpAny_bind (wpAny_of_eq tn_names (wpAny_bind (wpAny_of_eq tn_gd (wpAny_bind (wpAny_of_eq tn_gw (wpAny_bind (wpAny_of_eq tn_vs ?_)))))))))
  rw [hf]
  dsimp only
  refine wpAny_bind (wpAny_rule ?_)
  rw [hv]
  refine wpAny_bind (wpAny_bind (wpAny_load hsl (wpAny_pure ?_)))
  refine KFB.if_not rfl ?_
  have hl : h.IsList sl (List.toArray [Value.str (S "obj") to]) := ⟨_, hsl, rfl, n, rfl⟩
  refine wpAny_bind (collect_list (s := ⟨h, g, d, t, os⟩) hl ?_ (by rw [sizeLine_eq]; show 1 ≤ 16777216; decide))
  dsimp only
  have hk : ∀ b o, h.get? b = some o → ((h.push (seqObj "list" #[] 0)).update h.objs.size (Obj.mapSeq (· ++ List.toArray [Value.str (S "obj") to]))).get? b = some o := fun b o q => by
    have hlt : b < h.objs.size := Heap.lt_size q
    rw [Heap.get?_update_ne _ _ _ _ (Nat.ne_of_lt hlt)]
    exact Heap.get?_push_of_some _ q
  have q' := q _ hk
  generalize ((h.push (seqObj "list" #[] 0)).update h.objs.size (Obj.mapSeq (· ++ List.toArray [Value.str (S "obj") to]))) = H at q' ⊢
  refine KFB.if_so rfl ?_
  refine wpAny_bind (wpAny_of_eq tn_vs ?_)
  refine KFB.if_not rfl ?_
  refine wpAny_bind ?_
  rw [List.forIn_cons]
  refine wpAny_bind ?_
  dsimp only
  have i1 : Builtin.Slots.isIdentifier (S "obj") = some true := by kernel_rfl
  have i2 : (S "obj" == Str.ofString "__dict__") = false := by kernel_rfl
  have i3 : (S "obj" == Str.ofString "__weakref__") = false := by kernel_rfl
  refine wpAny_bind (wpAny_pure (wpAny_bind (wpAny_pure ?_)))
  rw [i1]
  dsimp only
  refine wpAny_bind (wpAny_pure ?_)
  refine KFB.if_not rfl ?_
  refine KFB.if_not i2 ?_
  refine KFB.if_not i3 ?_
  refine wpAny_pure ?_
  dsimp only
  rw [List.forIn_nil]
  refine wpAny_pure ?_
  dsimp only
  refine wpAny_bind ?_
  rw [← Array.forIn_toList]
  simp only [List.push_toArray, List.nil_append]
  rw [List.forIn_cons]
  have i4 : Builtin.Slots.mangle (S "K") (S "obj") = S "obj" := by kernel_rfl
  have i5 : (S "obj" == Str.ofString "__del__") = false := by kernel_rfl
  have i6 : ¬ (0 + (S "obj").length > sizeLine) := by rw [sizeLine_eq]; show ¬ (0 + 3 > 16777216); decide
  rw [i4]
  refine wpAny_bind ?_
  rw [if_neg i6]
  refine KFB.if_not (by rw [ha]; rfl) ?_
  refine KFB.if_not i5 ?_
  refine wpAny_pure ?_
  dsimp only
  rw [List.forIn_nil]
  refine wpAny_pure ?_
  dsimp only
  refine wpAny_bind ?_
  rw [List.forIn_cons]
  refine wpAny_bind ?_
  refine KFB.if_not (by simp) ?_
  refine wpAny_pure ?_
  dsimp only
  rw [List.forIn_nil]
  refine wpAny_pure ?_
  dsimp only
  exact wpAny_pure q'
end
end
section
set_option Elab.async false
set_option maxRecDepth 100000
set_option linter.unusedVariables false
set_option maxHeartbeats 1000000
open PySem.Calls
section
variable {M : Model} {prog : Program} {w : World} {A : Around} {E : Value → Shared → Prop} {h : Heap} {g : Array GenState} {d : Drawn} {t : Nat} {os : OsState}

theorem tn_sub_type : isSubtype (.type "type") (.type "object") = pure true := by rw [isSubtype_type]; kernel_rfl
/-- super(C, C) -/
theorem call_super2 {C : Addr} {oC : Obj} {cd : ClassData} {Q : Value → Shared → Prop} (hC : h.get? C = some oC) (hd : oC.data = .cls cd) (hsub : Looks (model prog w) h (isSubtype (.ref C) (.ref C)) true)
    (hq : ∀ h', h'.get? h.objs.size = some { cls := .type "super", dict := none, data := .fields #[.ref C, .ref C, .ref C], slots := #[] } → (∀ y o, h.get? y = some o → h'.get? y = some o) → Q (.ref h.objs.size) ⟨h', g, d, t, os⟩) :
    wpAny (model prog w) A (call (.type "super") [.ref C, .ref C]) Q E ⟨h, g, d, t, os⟩ := by
  refine ks_callType_codesW (Q₁ := fun obj s₁ => obj = .ref h.objs.size ∧ s₁ = ⟨h.push { cls := .type "super", data := .fields #[.none, .none, .none] }, g, d, t, os⟩) F.ks_called_super (ks_wpAny_checkTypeCall_super hC hd) F.ks_entry_super_init
    (ks_code_super_new _ _ ⟨rfl, rfl⟩) fun obj s₁ h₁ => ?_
  obtain ⟨rfl, rfl⟩ := h₁
  have up : ∀ y o, h.get? y = some o → (h.push { cls := .type "super", data := .fields #[.none, .none, .none] }).get? y = some o := fun y o e => Heap.get?_push_of_some _ e
  have hso : (h.push { cls := .type "super", data := .fields #[.none, .none, .none] }).get? h.objs.size = some { cls := .type "super", dict := none, data := .fields #[.none, .none, .none], slots := #[] } := Heap.get?_push_at rfl rfl
  have hC' := up _ _ hC
  have hsub' := hsub.keeps up
  refine ⟨⟨_, hso, rfl⟩, F.ks_initArgs_super _ _ _, ?_⟩
  unfold Builtin.«super.__init__» noKeywords
  repeat (first | (with_reducible refine ks_wpAny_isType_cls hC' hd ?_) | (with_reducible refine Looks.at hsub' ?_) | (with_reducible refine ks_wpAny_super_set3 hso ?_) | wp_step)
  all_goals first
    | (intro h' e k; exact ⟨rfl, hq h' e fun y o ey => k y o (Nat.ne_of_lt (Heap.lt_size ey)) (up y o ey)⟩)
    | (refine ks_wpAny_super_set3 hso ?_; intro h' e k; exact ⟨rfl, hq h' e fun y o ey => k y o (Nat.ne_of_lt (Heap.lt_size ey)) (up y o ey)⟩)

theorem isu_type : typeOf (.builtin "object.__init_subclass__") = pure (.type "classmethod_descriptor") := by show builtinType _ = _; rw [builtinType_eq_fast]; kernel_rfl
theorem isu_own : classOwn (.type "object") "__init_subclass__" = pure (some (.builtin "object.__init_subclass__")) := by first | kernel_rfl | (unfold classOwn; kernel_rfl)
theorem isu_entry : entryFor table "object.__init_subclass__" = some Builtin.«object.__init_subclass__» := entryFor_of_tree (by kernel_rfl)
theorem isu_ga : typeLookup (.type "super") "__getattribute__" = pure (some (.builtin "super.__getattribute__")) := F.ks_slot_super_ga.lookup
theorem isu_owner : (kfb_private% "ownerAndName") "object.__init_subclass__" = ("object", "__init_subclass__") := by first | decide +kernel | kernel_rfl
noncomputable abbrev isuBound (C : Addr) : Obj := { cls := .type "builtin_function_or_method", data := .fields #[.builtin "object.__init_subclass__", .ref C] }

theorem run_get_is {C : Addr} {oC : Obj} {cd : ClassData} {P : PySem.Fin → Shared → Prop} (hC : h.get? C = some oC) (hd : oC.data = .cls cd) (hsub : Looks M h (isSubtype (.ref C) (.type "object")) true)
    (hq : P (.done (.ret (.ref h.objs.size))) ⟨h.push (isuBound C), g, d, t, os⟩) :
    wpAny M A (Builtin.«classmethod_descriptor.__get__» ⟨[.builtin "object.__init_subclass__", .none, .ref C], []⟩) P E ⟨h, g, d, t, os⟩ := by
  unfold Builtin.«classmethod_descriptor.__get__»
  refine wpAny_bind (wpAny_of_eq (a := (.builtin "object.__init_subclass__", none, some (.ref C))) (by first | rfl | kernel_rfl) ?_)
  simp only [isu_owner]
  refine wpAny_bind (wpAny_of_eq (a := .ref C) rfl ?_)
  refine wpAny_bind (ks_wpAny_isType_cls hC hd ?_)
  refine KFB.if_not rfl ?_
  refine wpAny_bind (Looks.at hsub ?_)
  refine KFB.if_not rfl ?_
  exact wpAny_bind (wpAny_newObj_type (wpAny_pure hq))

theorem getattr_is {C so : Addr} {oC : Obj} {cd : ClassData} {Q : Value → Shared → Prop} (hso : h.get? so = some { cls := .type "super", dict := none, data := .fields #[.ref C, .ref C, .ref C], slots := #[] }) (hC : h.get? C = some oC) (hd : oC.data = .cls cd)
    (hmro : cd.mro = [.ref C, .type "object"]) (hsub : Looks (model prog w) h (isSubtype (.ref C) (.type "object")) true) (hopq : Looks (model prog w) h (opaqueClassAbove (.ref C)) none)
    (hq : Q (.ref h.objs.size) ⟨h.push (isuBound C), g, d, t + 1, os⟩) :
    wpAny (model prog w) A (getAttr (.ref so) "__init_subclass__") Q E ⟨h, g, d, t, os⟩ := by
  have hm : Looks (model prog w) h (mroOf (.ref C)) [.ref C, .type "object"] := fun A Q E s k q => by
    show wpAny _ A (do return (← classData C).mro) _ _ _
    refine wpAny_bind ?_
    unfold classData
    refine wpAny_bind (wpAny_load (k _ _ hC) ?_)
    rw [hd]
    exact wpAny_pure (wpAny_pure (by rw [hmro]; exact q))
  unfold getAttr
  refine wpAny_bind (wpAny_mkText ?_)
  unfold getAttrBy
  refine wpAny_holding (wpAny_bind (wpAny_typeOf (s := ⟨h, g, d, t + 1, os⟩) (T := "super") ⟨_, hso, rfl⟩ ?_))
  refine wpAny_bind (wpAny_of_eq isu_ga ?_)
  dsimp only
  show wpAny _ _ (getAttrByItsOwn _ _ _ _ _ _) _ _ _
  unfold getAttrByItsOwn
  refine wpAny_bind (wpAny_of_eq (show hookBefore (.type "super") = pure none from rfl) ?_)
  refine wpAny_bind (wpAny_attempt (wpAny_holding ?_))
  show wpAny _ _ (boundAndCalled _ _ _) _ _ _
  unfold boundAndCalled
  refine wpAny_bind (wpAny_of_eq (F.ks_slot_super_ga.bind _) ?_)
  show wpAny _ _ (call (.builtin "super.__getattribute__") [.ref so, .str "__init_subclass__" t]) _ _ _
  refine wpAny_call_entry F.ks_slot_super_ga (s := ⟨h, g, d, t + 1, os⟩) ⟨_, hso, rfl⟩ F.ks_entry_super_ga ?_ (F.ks_gaArgs_super _ _)
  unfold Builtin.«super.__getattribute__»
  have f0 := looks_field (M := model prog w) hso 0 (v := .ref C) rfl
  have f1 := looks_field (M := model prog w) hso 1 (v := .ref C) rfl
  have f2 := looks_field (M := model prog w) hso 2 (v := .ref C) rfl
  refine wpAny_bind (wpAny_pure ?_)
  refine KFB.if_not rfl ?_
  refine wpAny_bind (wpAny_pure ?_)
  dsimp only
  refine wpAny_bind (Looks.at f0 (wpAny_bind (Looks.at f1 (wpAny_bind (Looks.at f2 ?_)))))
  rw [if_neg (by
    rw [show (Str.ofString "__init_subclass__" == Str.ofString "__class__") = false by kernel_rfl, show (Value.ref C == Value.none) = false from rfl]; decide)]
  refine wpAny_bind (ks_wpAny_notOpaque hopq ?_)
  rw [if_neg (by rw [show (Value.ref C == Value.type "module") = false from rfl]; decide)]
  refine wpAny_bind (Looks.at hm ?_)
  have hdw : List.drop 1 (List.dropWhile (fun x => x != Value.ref C) [Value.ref C, Value.type "object"]) = [Value.type "object"] := by
    rw [List.dropWhile_cons, if_neg (by simp)]; rfl
  rw [hdw]
  refine wpAny_bind ?_
  rw [List.forIn_cons]
  refine wpAny_bind (wpAny_bind (wpAny_of_eq isu_own ?_))
  dsimp only
  refine wpAny_bind (wpAny_of_eq isu_type (wpAny_bind (wpAny_of_eq KFB.slot_get.lookup ?_)))
  dsimp only
  rw [if_pos (by simp)]
  refine wpAny_bind (wpAny_holding (wpAny_call_entry KFB.slot_get isu_type KFB.entry_get (run_get_is hC hd hsub ⟨_, rfl, ?_⟩) (KFB.args_get _ _ _)))
  refine wpAny_bind (wpAny_pure (wpAny_pure ?_))
  dsimp only
  refine wpAny_pure ?_
  dsimp only
  refine wpAny_pure ⟨_, rfl, ?_⟩
  exact wpAny_pure hq

theorem isu_bound {C : Addr} {oC : Obj} {cd : ClassData} (hC : h.get? C = some oC) (hd : oC.data = .cls cd) (hc : oC.cls = .type "type") (hqn : cd.qualname = S "cmp_to_key.<locals>.K") : Looks M h (checkBoundCall "object.__init_subclass__" ⟨[.ref C], []⟩) () := fun A Q E s k q => by
  obtain ⟨h, g, d, t, os⟩ := s
  have hC' := k _ _ hC
  unfold checkBoundCall
  rw [show Manifest.signature? "object.__init_subclass__" = some ⟨.noArgs, "object.__init_subclass__", "__init_subclass__", .cls, []⟩ by kernel_rfl, show builtinKind "object.__init_subclass__" = some .classMethod by kernel_rfl]
  dsimp only
  rw [if_neg (by decide)]
  refine wpAny_bind ?_
  unfold isInstance
  refine wpAny_bind (wpAny_typeOf (s := ⟨h, g, d, t, os⟩) (T := "type") ⟨_, hC', hc⟩ ?_)
  refine wpAny_of_eq (show isSubtype (.type "type") (.type "module") = pure false by rw [isSubtype_type]; kernel_rfl) ?_
  rw [show Manifest.varargsMethods.contains "object.__init_subclass__" = false by kernel_rfl]
  refine KFB.if_not rfl ?_
  refine wpAny_bind (ks_wpAny_isType_cls hC' hd ?_)
  refine KFB.if_so rfl ?_
  refine wpAny_bind (wpAny_pure ?_)
  dsimp only
  refine wpAny_bind ?_
  unfold classData
  refine wpAny_bind (wpAny_load hC' ?_)
  rw [hd]
  refine wpAny_pure ?_
  refine wpAny_bind (wpAny_typeOf (s := ⟨h, g, d, t, os⟩) (T := "type") ⟨_, hC', hc⟩ ?_)
  rw [if_pos (by decide), hqn]
  exact wpAny_of_eq (by kernel_rfl) q
theorem call_is {C b : Addr} {Q : Value → Shared → Prop} (hb : h.get? b = some (isuBound C)) (hq : Q .none ⟨h, g, d, t, os⟩) (hck : Looks (model prog w) h (checkBoundCall "object.__init_subclass__" ⟨[.ref C], []⟩) ()) :
    wpAny (model prog w) A (call (.ref b) []) Q E ⟨h, g, d, t, os⟩ := by
  refine wpAny_call (codeAny_of_tree ?_)
  show wpAny _ A.in1 (callAny (.ref b) ⟨[], []⟩) _ _ _
  unfold callAny
  refine wpAny_bind (wpAny_load hb ?_)
  refine KFB.if_so (by kernel_rfl) ?_
  refine KFB.if_so (by kernel_rfl) ?_
  show wpAny _ _ (checkBoundCall "object.__init_subclass__" ⟨[.ref C], []⟩ >>= fun _ => again (Code.builtin "object.__init_subclass__" ⟨[.ref C], []⟩)) _ _ _
  refine wpAny_bind (Looks.at hck ?_)
  refine wpAny_pure ⟨Code.quiet_builtin _ (by decide +kernel), codeAny_builtin isu_entry ?_⟩
  unfold Builtin.«object.__init_subclass__»
  dsimp only
  refine KFB.if_so rfl ?_
  exact wpAny_pure hq
end
end
section
set_option Elab.async false
set_option maxRecDepth 100000
set_option linter.unusedVariables false
set_option maxHeartbeats 2000000
open PySem.Calls
section
variable {M : Model} {prog : Program} {w : World} {A : Around} {E : Value → Shared → Prop} {h : Heap} {g : Array GenState} {d : Drawn} {t : Nat} {os : OsState}

theorem for_cons {s : Shared} {α β : Type} {x : α} {l : List α} {b : β} {f : α → β → Sem (ForInStep β)} {Q : β → Shared → Prop} (hh : wpAny M A (f x b) (fun r s' => match r with | .done b' => Q b' s' | .yield b' => wpAny M A (forIn l b' f) Q E s') E s) : wpAny M A (forIn (x :: l) b f) Q E s := by
  rw [List.forIn_cons]
  refine wpAny_bind (wpAny_mono hh (fun r s' h' => ?_) fun _ _ e => e)
  cases r with
  | done b' => exact wpAny_pure h'
  | yield b' => exact h'
theorem for_nil {s : Shared} {α β : Type} {b : β} {f : α → β → Sem (ForInStep β)} {Q : β → Shared → Prop} (hh : Q b s) : wpAny M A (forIn ([] : List α) b f) Q E s := by
  rw [List.forIn_nil]; exact wpAny_pure hh
theorem looks_mroC {C : Addr} {oC : Obj} {cd : ClassData} (hC : h.get? C = some oC) (hd : oC.data = .cls cd) : Looks M h (mroOf (.ref C)) cd.mro := fun A Q E s k q => by
  show wpAny _ A (do return (← classData C).mro) _ _ _
  refine wpAny_bind ?_
  unfold classData
  refine wpAny_bind (wpAny_load (k _ _ hC) ?_)
  rw [hd]
  exact wpAny_pure (wpAny_pure q)
theorem looks_subC {C : Addr} {oC : Obj} {cd : ClassData} {b : Value} (hC : h.get? C = some oC) (hd : oC.data = .cls cd) (hm : cd.mro = [.ref C, .type "object"]) (hb : b = .ref C ∨ b = .type "object") : Looks M h (isSubtype (.ref C) b) true := fun A Q E s k q => by
  unfold isSubtype
  refine wpAny_bind (looks_mroC hC hd A _ E _ k ?_)
  rw [hm]
  refine KFB.if_not (by rfl) ?_
  refine wpAny_pure ?_
  have : ([Value.ref C, .type "object"].contains b) = true := by
    rcases hb with rfl | rfl <;> simp
  rw [this]; exact q
theorem sn_str : typeLookup (.type "str") "__set_name__" = pure none := by rw [typeLookup_type, builtinLookup_eq_fast]; kernel_rfl
theorem sn_int : typeLookup (.type "int") "__set_name__" = pure none := by rw [typeLookup_type, builtinLookup_eq_fast]; kernel_rfl
theorem sn_list : typeLookup (.type "list") "__set_name__" = pure none := by rw [typeLookup_type, builtinLookup_eq_fast]; kernel_rfl
theorem sn_fn : typeLookup (.type "function") "__set_name__" = pure none := by rw [typeLookup_type, builtinLookup_eq_fast]; kernel_rfl
theorem sn_none : typeLookup (.type "NoneType") "__set_name__" = pure none := by rw [typeLookup_type, builtinLookup_eq_fast]; kernel_rfl
theorem sn_tuple : typeLookup (.type "tuple") "__set_name__" = pure none := by rw [typeLookup_type, builtinLookup_eq_fast]; kernel_rfl
theorem sn_mem : typeLookup (.type "member_descriptor") "__set_name__" = pure none := by rw [typeLookup_type, builtinLookup_eq_fast]; kernel_rfl
theorem looks_cls {C NS : Addr} {oC : Obj} {cd : ClassData} {kvs : List (Str × Value)} {name : Str} {r r₀ : Option Value} (hC : h.get? C = some oC) (hd : oC.data = .cls cd) (hm : cd.mro = [.ref C, .type "object"]) (hn : cd.ns = NS) (N : NsL h NS kvs)
    (hO : builtinOwn "object" name = r₀) (e : (match getL name kvs with | some v => some v | none => r₀) = r) : Looks M h (typeLookup (.ref C) name) r := fun A Q E s k q => by
  obtain ⟨h', g, d, t, os⟩ := s
  unfold typeLookup
  refine wpAny_bind (looks_mroC hC hd A _ E _ k ?_)
  rw [hm]
  have N' := N.at (fun o e => k _ _ e)
  have own : ∀ (Q' : Option Value → Shared → Prop), Q' (getL name kvs) ⟨h', g, d, t, os⟩ → wpAny M A (classOwn (.ref C) name) Q' E ⟨h', g, d, t, os⟩ := fun Q' q' => by
    show wpAny _ _ (do nsGet (← classData C).ns name) _ _ _
    refine wpAny_bind ?_
    unfold classData
    refine wpAny_bind (wpAny_load (k _ _ hC) ?_)
    rw [hd]
    refine wpAny_pure ?_
    rw [hn]
    exact nsl_get _ N' rfl q'
  refine wpAny_bind ?_
  refine for_cons (wpAny_bind (own _ ?_))
  cases hg : getL name kvs with
  | some v =>
    rw [hg] at e
    subst e
    exact wpAny_pure (wpAny_pure q)
  | none =>
    rw [hg] at e
    subst e
    refine wpAny_pure (for_cons (wpAny_bind (m := classOwn (.type "object") name) (wpAny_pure ?_)))
    rw [hO]
    cases r₀ with
    | some v => exact wpAny_pure (wpAny_pure q)
    | none => exact wpAny_pure (for_nil (wpAny_pure q))
theorem ite_neg {s : Shared} {α : Type} {c : Prop} [Decidable c] {a b : Sem α} {Q : α → Shared → Prop} (hc : ¬ c) (hh : wpAny M A b Q E s) : wpAny M A (if c then a else b) Q E s := by rw [if_neg hc]; exact hh
theorem for_ent {s : Shared} {β : Type} {b : β} {f : DictEntry → β → Sem (ForInStep β)} {Q : β → Shared → Prop} : ∀ {es : List DictEntry} {kvs : List (Str × Value)}, EntL es kvs →
    (∀ hh n t v, (n, v) ∈ kvs → ∀ (Q' : ForInStep β → Shared → Prop), Q' (.yield b) s → wpAny M A (f ⟨hh, .str n t, v⟩ b) Q' E s) → Q b s → wpAny M A (forIn es b f) Q E s
  | _, _, .nil, _, q => for_nil q
  | _, _, .cons r, hf, q => for_cons (hf _ _ _ _ (.head _) _ (for_ent r (fun hh n t v hm => hf hh n t v (.tail _ hm)) q))
theorem for_arr {s : Shared} {α β : Type} {l : List α} {b : β} {f : α → β → Sem (ForInStep β)} {Q : β → Shared → Prop} (hh : wpAny M A (forIn l b f) Q E s) : wpAny M A (forIn (List.toArray l) b f) Q E s := by
  rw [List.forIn_toArray]; exact hh
theorem cw_setSlotE {a : Addr} {c : Value} {dd : Option Addr} {dt : Data} {sl : Array (Option Value)} (sl' : Array (Option Value)) {i : Nat} {v : Option Value} {Q : Unit → Shared → Prop} (ho : h.get? a = some ⟨c, dd, dt, sl⟩) (hf : ∀ sl, (⟨c, dd, dt, sl⟩ : Obj).isFreed = false) (hi : i < 1000)
    (e : (sl ++ Array.replicate (i + 1 - sl.size) none).setIfInBounds i v = sl') (q : ∀ h', h'.get? a = some ⟨c, dd, dt, sl'⟩ → Heap.SameBut a h h' → Q () ⟨h', g, d, t, os⟩) : wpAny M A (setSlotAt a i v) Q E ⟨h, g, d, t, os⟩ :=
  cw_setSlot ho hf hi fun h' h1 h2 => q h' (by rw [← e]; exact h1) h2
theorem type_new {nsA bT : Addr} {tn : Tok} {n ns : Nat} {to : Tok} {tm tfl : Tok} {sl f1 f2 f3 f4 f5 f6 st : Addr} {tq : Tok}
    (hns : NsL h nsA [(S "__module__", .str (S "cpy313.functools") tm), (S "__qualname__", .str (S "cmp_to_key.<locals>.K") tq), (S "__firstlineno__", .int 176 tfl), (S "__slots__", .ref sl), (S "__init__", .ref f1), (S "__lt__", .ref f2), (S "__gt__", .ref f3), (S "__eq__", .ref f4), (S "__le__", .ref f5), (S "__ge__", .ref f6), (S "__hash__", .none), (S "__static_attributes__", .ref st)])
    (hlo : (nsA == sysModules) = false) (hsl : h.get? sl = some ⟨.type "list", none, .seq #[.str (S "obj") to] ns, #[]⟩)
    (hbT : h.get? bT = some ⟨.type "tuple", none, .seq #[.type "object"] n, #[]⟩) {Q : PySem.Fin → Shared → Prop}
    (hfs : ∀ f ∈ [f1, f2, f3, f4, f5, f6], ∃ o, h.get? f = some o ∧ o.cls = .type "function") (hstt : ∃ o, h.get? st = some o ∧ o.cls = .type "tuple")
    (hop : ∀ C, Looks (model prog w) h (opaqueClassAbove (.ref C)) none)
    (hq : ∀ C NS DD H tk td slots, h.get? C = none → h.get? NS = none → h.get? DD = none → C ≠ NS → C ≠ DD → DD ≠ NS → (∀ b o, h.get? b = some o → H.get? b = some o) →
      H.get? C = some ⟨.type "type", none, .cls { name := S "K", bases := [.type "object"], mro := [.ref C, .type "object"], ns := NS, qualname := S "cmp_to_key.<locals>.K", hasDict := false, slotNames := [S "obj"] }, slots⟩ → (slots.toList[4]?).join = some (.builtin "object.__new__") →
      NsL H NS [(S "__module__", .str (S "cpy313.functools") tm), (S "__firstlineno__", .int 176 tfl), (S "__slots__", .ref sl), (S "__init__", .ref f1), (S "__lt__", .ref f2), (S "__gt__", .ref f3), (S "__eq__", .ref f4), (S "__le__", .ref f5), (S "__ge__", .ref f6), (S "__hash__", .none), (S "__static_attributes__", .ref st), (S "obj", .ref DD), (S "__doc__", .none)] →
      H.get? DD = some ⟨.type "member_descriptor", none, .fields #[.str (S "obj") td, .ref C, .builtin "proto.slot", .builtin "proto.slot#set", .int 0 0], #[]⟩ → Q (.done (.ret (.ref C))) ⟨H, g, d, tk, os⟩) :
    wpAny (model prog w) A (Builtin.«type.__new__» ⟨[.type "type", .str (S "K") tn, .ref bT, .ref nsA], []⟩) Q E ⟨h, g, d, t, os⟩ := by
  obtain ⟨es, ep, hnsA, he⟩ := hns.at'
  have tyB : (⟨h, g, d, t, os⟩ : Shared).TypeIs (.ref bT) "tuple" := ⟨_, hbT, rfl⟩
  have tyN : (⟨h, g, d, t, os⟩ : Shared).TypeIs (.ref nsA) "dict" := ⟨_, hnsA, rfl⟩
  unfold Builtin.«type.__new__»
  refine wpAny_bind (wpAny_pure ?_)
  refine wpAny_bind ?_
  refine wpAny_bind (m := typeOf (.ref bT)) (wpAny_typeOf tyB (wpAny_of_eq tn_tt ?_))
  refine KFB.if_not rfl ?_
  refine wpAny_bind ?_
  refine wpAny_bind (m := typeOf (.ref nsA)) (wpAny_typeOf tyN (wpAny_of_eq tn_dd ?_))
  refine KFB.if_not rfl ?_
  refine wpAny_bind ?_
  refine wpAny_bind (m := load bT) (wpAny_load hbT (wpAny_pure ?_))
  refine KFB.if_not hlo ?_
  refine wpAny_bind (m := dictEntries nsA) (wpAny_dictEntries hnsA rfl ?_)
  refine wpAny_bind (m := specialOf (.ref nsA) (S "__iter__")) (wpAny_bind (m := typeOf (.ref nsA)) (wpAny_typeOf tyN (wpAny_of_eq tn_it ?_)))
  refine KFB.if_so (by simp) ?_
  refine wpAny_bind (wpAny_pure ?_)
  refine wpAny_bind (wpAny_holding (slots_read he (by kernel_rfl) (by kernel_rfl) hsl fun H hk => ?_))
  have hbT' := hk _ _ hbT
  have hes : es.length ≤ 1000 := by
    have hl : ∀ {es : List DictEntry} {kvs : List (Str × Value)}, EntL es kvs → es.length = kvs.length := fun {es kvs} x => by induction x with | nil => rfl | cons r ih => simp [ih]
    rw [hl he]; show (12 : Nat) ≤ 1000; decide
  have hza : h.get? H.objs.size = none := by
    cases e : h.get? H.objs.size with
    | none => rfl
    | some o => exact absurd (Heap.lt_size (hk _ _ e)) (Nat.lt_irrefl _)
  refine wpAny_bind (m := newObj (.type "dict") (.dict (List.toArray es))) (wpAny_newObj_type ?_ (by show (List.toArray es).size ≤ _; rw [List.size_toArray, sizeLine_eq]; omega))
  have hm : (fun n : Str => (List.toArray es).any (·.key.isStr n)) (S "__module__") = true := he.any.trans (by kernel_rfl)
  refine KFB.if_not (by show (!(fun n : Str => (List.toArray es).any (·.key.isStr n)) (S "__module__")) = false; rw [hm]; rfl) ?_
  have N0 : NsL (H.push ⟨.type "dict", none, .dict (List.toArray es) 0, #[]⟩) H.objs.size _ := ⟨⟨es, 0, Heap.get?_push_size _ rfl, he⟩⟩
  have hk0 : ∀ b o, h.get? b = some o → (H.push ⟨.type "dict", none, .dict (List.toArray es) 0, #[]⟩).get? b = some o := fun b o e => Heap.get?_push_of_some _ (hk b o e)
  have hdel : (fun n : Str => (List.toArray es).any (·.key.isStr n)) (S "__del__") = false := he.any.trans (by kernel_rfl)
  show wpAny _ _ _ _ _ ⟨H.push ⟨.type "dict", none, .dict (List.toArray es) 0, #[]⟩, g, d, t, os⟩
  generalize H.push ⟨.type "dict", none, .dict (List.toArray es) 0, #[]⟩ = H0 at N0 hk0 ⊢
  generalize H.objs.size = NS at N0 hza ⊢
  clear hk hbT' 
  refine wpAny_bind (KFB.if_not (by kernel_rfl) (wpAny_pure ?_))
  refine KFB.if_not (by kernel_rfl) ?_
  refine wpAny_bind (nsl_get (some (.str (S "cmp_to_key.<locals>.K") tq)) N0 (by kernel_rfl) ?_)
  refine wpAny_bind (nsl_get (some (.str (S "cmp_to_key.<locals>.K") tq)) N0 (by kernel_rfl) ?_)
  refine wpAny_bind (wpAny_pure ?_)
  refine wpAny_bind (wpAny_pure ?_)
  refine wpAny_bind (nsl_get none N0 (by kernel_rfl) ?_)
  refine wpAny_bind (wpAny_alloc' ?_)
  have hCn : h.get? H0.objs.size = none := by
    cases e : h.get? H0.objs.size with
    | none => rfl
    | some o => exact absurd (Heap.lt_size (hk0 _ _ e)) (Nat.lt_irrefl _)
  have hC0n : H0.get? H0.objs.size = none := get?_size _
  have hNC : NS ≠ H0.objs.size := fun q => by obtain ⟨_, _, e, _⟩ := N0.at'; rw [q, hC0n] at e; cases e
  have hC0 : (H0.push { cls := .type "type", data := .cls { name := S "K", bases := [.type "object"], mro := [], ns := NS, qualname := S "cmp_to_key.<locals>.K" } }).get? H0.objs.size = some ⟨.type "type", none, .cls { name := S "K", bases := [.type "object"], mro := [], ns := NS, qualname := S "cmp_to_key.<locals>.K" }, #[]⟩ := Heap.get?_push_size _ rfl
  have N1 := N0.at (h' := H0.push { cls := .type "type", data := .cls { name := S "K", bases := [.type "object"], mro := [], ns := NS, qualname := S "cmp_to_key.<locals>.K" } }) fun o e => Heap.get?_push_of_some _ e
  have hk1 : ∀ b o, h.get? b = some o → (H0.push { cls := .type "type", data := .cls { name := S "K", bases := [.type "object"], mro := [], ns := NS, qualname := S "cmp_to_key.<locals>.K" } }).get? b = some o := fun b o e => Heap.get?_push_of_some _ (hk0 b o e)
  show wpAny _ _ _ _ _ ⟨H0.push { cls := .type "type", data := .cls { name := S "K", bases := [.type "object"], mro := [], ns := NS, qualname := S "cmp_to_key.<locals>.K" } }, g, d, t, os⟩
  generalize H0.push { cls := .type "type", data := .cls { name := S "K", bases := [.type "object"], mro := [], ns := NS, qualname := S "cmp_to_key.<locals>.K" } } = H1 at hC0 N1 hk1 ⊢
  clear hC0n
  generalize H0.objs.size = C at hC0 hCn hNC ⊢
  clear N0 hk0
  -- three of its places
  refine KFB.if_so rfl ?_
  refine wpAny_bind (cw_setSlotE #[some (.ref bT)] hC0 (fun _ => rfl) (by decide) (by kernel_rfl) fun H2 hC2 sb2 => ?_)
  refine wpAny_bind (cw_setSlotE #[some (.ref bT), none, some (.str (S "K") tn)] hC2 (fun _ => rfl) (by decide) (by kernel_rfl) fun H3 hC3 sb3 => ?_)
  refine wpAny_bind (cw_setSlotE #[some (.ref bT), none, some (.str (S "K") tn), some (.str (S "cmp_to_key.<locals>.K") tq)] hC3 (fun _ => rfl) (by decide) (by kernel_rfl) fun H4 hC4 sb4 => ?_)
  have hst : ∀ {Ha Hb : Heap}, Heap.SameBut C Ha Hb → (∀ b o, h.get? b = some o → Ha.get? b = some o) → ∀ b o, h.get? b = some o → Hb.get? b = some o := fun sb k b o e => (sb.2 b (fun q => by rw [q, hCn] at e; cases e)).trans (k b o e)
  have hsn : ∀ {Ha Hb : Heap}, Heap.SameBut NS Ha Hb → (∀ b o, h.get? b = some o → Ha.get? b = some o) → ∀ b o, h.get? b = some o → Hb.get? b = some o := fun sb k b o e => (sb.2 b (fun q => by rw [q, hza] at e; cases e)).trans (k b o e)
  have N4 := ((N1.at fun o e => (sb2.2 _ hNC).trans e).at fun o e => (sb3.2 _ hNC).trans e).at fun o e => (sb4.2 _ hNC).trans e
  have hk4 := hst sb4 (hst sb3 (hst sb2 hk1))
  clear hC0 hC2 hC3 sb2 sb3 sb4 N1 hk1 H1 H2 H3
  refine wpAny_bind (nsl_del N4 fun H5 b5 N5 sb5 => ?_)
  have hk5 := hsn sb5 hk4
  have hC5 := (sb5.2 _ hNC.symm).trans hC4
  clear N4 hk4 hC4 sb5
  replace N5 : NsL H5 NS [(S "__module__", .str (S "cpy313.functools") tm), (S "__firstlineno__", .int 176 tfl), (S "__slots__", .ref sl), (S "__init__", .ref f1), (S "__lt__", .ref f2), (S "__gt__", .ref f3), (S "__eq__", .ref f4), (S "__le__", .ref f5), (S "__ge__", .ref f6), (S "__hash__", .none), (S "__static_attributes__", .ref st)] := by
    have e : dropL (S "__qualname__") [(S "__module__", .str (S "cpy313.functools") tm), (S "__qualname__", .str (S "cmp_to_key.<locals>.K") tq), (S "__firstlineno__", .int 176 tfl), (S "__slots__", .ref sl), (S "__init__", .ref f1), (S "__lt__", .ref f2), (S "__gt__", .ref f3), (S "__eq__", .ref f4), (S "__le__", .ref f5), (S "__ge__", .ref f6), (S "__hash__", .none), (S "__static_attributes__", .ref st)] = [(S "__module__", .str (S "cpy313.functools") tm), (S "__firstlineno__", .int 176 tfl), (S "__slots__", .ref sl), (S "__init__", .ref f1), (S "__lt__", .ref f2), (S "__gt__", .ref f3), (S "__eq__", .ref f4), (S "__le__", .ref f5), (S "__ge__", .ref f6), (S "__hash__", .none), (S "__static_attributes__", .ref st)] := by kernel_rfl
    rw [← e]; exact N5
  refine wpAny_bind (nsl_get none N5 (by kernel_rfl) ?_)
  refine wpAny_bind (for_cons (wpAny_bind (nsl_get none N5 (by kernel_rfl) (wpAny_pure (for_cons (wpAny_bind (nsl_get none N5 (by kernel_rfl) (wpAny_pure (for_nil ?_)))))))))
  refine wpAny_bind (nsl_get none N5 (by kernel_rfl) ?_)
  refine wpAny_bind (nsl_get none N5 (by kernel_rfl) ?_)
  refine wpAny_bind (wpAny_of_eq tn_hook ?_)
  refine wpAny_bind (m := Builtin.linearize [.type "object"] mroOf) (wpAny_of_eq tn_lin ?_)
  refine wpAny_bind (wpAny_pure ?_)
  have hfil : List.filter (fun x => x != Value.ref C) [Value.ref C, .type "object"] = [.type "object"] := by
    rw [List.filter_cons_of_neg (by simp), List.filter_cons_of_pos (by rfl)]; rfl
  refine wpAny_bind ?_
  rw [hfil]
  have hdo : ((Manifest.find? "object").elim false fun ty => ty.attrs.any fun x => x.1 == "__del__") = false := by kernel_rfl
  refine wpAny_bind (wpAny_pure ?_)
  rw [hdo]
  refine wpAny_pure ?_
  refine wpAny_bind (cw_updateCls hC5 ⟨Nat.zero_le _, Nat.zero_le _⟩ fun H6 hC6 sb6 => ?_)
  have hC6' : H6.get? C = some ⟨.type "type", none, .cls { name := S "K", bases := [.type "object"], mro := [.ref C, .type "object"], ns := NS, qualname := S "cmp_to_key.<locals>.K" }, #[some (.ref bT), none, some (.str (S "K") tn), some (.str (S "cmp_to_key.<locals>.K") tq)]⟩ :=
    hC6.trans (congrArg (fun b => some (⟨.type "type", none, .cls { name := S "K", bases := [.type "object"], mro := [.ref C, .type "object"], ns := NS, qualname := S "cmp_to_key.<locals>.K", hasDel := b }, #[some (.ref bT), none, some (.str (S "K") tn), some (.str (S "cmp_to_key.<locals>.K") tq)]⟩ : Obj)) (show ((fun n : Str => (List.toArray es).any (·.key.isStr n)) (S "__del__") || false) = false by rw [hdel]; rfl))
  have hk6 := hst sb6 hk5
  have N6 := N5.at fun o e => (sb6.2 _ hNC).trans e
  clear hC6 hC5 hk5 N5 sb6 hfil
  refine wpAny_bind (wpAny_of_eq tn_made ?_)
  refine wpAny_bind (cw_setSlotE #[some (.ref bT), none, some (.str (S "K") tn), some (.str (S "cmp_to_key.<locals>.K") tq), some (.builtin "object.__new__")] hC6' (fun _ => rfl) (by decide) (by kernel_rfl) fun H7 hC7 sb7 => ?_)
  have hk7 := hst sb7 hk6
  have N7 := N6.at fun o e => (sb7.2 _ hNC).trans e
  clear hC6' hk6 N6 sb7
  have hnew : Looks (model prog w) H7 (typeLookup (.ref C) "__new__") (some (.builtin "object.__new__")) := looks_cls hC7 rfl rfl rfl N7 (r₀ := some (.builtin "object.__new__")) (by kernel_rfl) (by kernel_rfl)
  refine wpAny_bind (m := Bind.refreshMaker C) ?_
  unfold Bind.refreshMaker
  refine wpAny_bind ?_
  unfold slotAt
  refine wpAny_bind (wpAny_loadPart hC7 (wpAny_pure ?_))
  refine KFB.if_not (by kernel_rfl) ?_
  refine wpAny_bind (Looks.at hnew ?_)
  refine KFB.if_not (by kernel_rfl) ?_
  refine wpAny_pure ?_
  clear hnew
  refine wpAny_bind (m := Builtin.Slots.install (.ref C) NS [.type "object"] kPlan) ?_
  unfold Builtin.Slots.install
  refine wpAny_bind ?_
  refine for_cons (wpAny_bind (nsl_get none N7 (by kernel_rfl) (KFB.if_so rfl ?_)))
  refine wpAny_bind (wpAny_mkStr' ?_)
  refine wpAny_bind (m := newFields "member_descriptor" _) (wpAny_newObj_type ?_ (by show 5 ≤ _; rw [sizeLine_eq]; decide))
  have hD8 : (H7.push { cls := .type "member_descriptor", data := .fields #[.str (S "obj") t, .ref C, .builtin "proto.slot", .builtin "proto.slot#set", .int 0 0] }).get? H7.objs.size = some ⟨.type "member_descriptor", none, .fields #[.str (S "obj") t, .ref C, .builtin "proto.slot", .builtin "proto.slot#set", .int 0 0], #[]⟩ := Heap.get?_push_size _ rfl
  have hk8 : ∀ b o, h.get? b = some o → (H7.push { cls := .type "member_descriptor", data := .fields #[.str (S "obj") t, .ref C, .builtin "proto.slot", .builtin "proto.slot#set", .int 0 0] }).get? b = some o := fun b o e => Heap.get?_push_of_some _ (hk7 b o e)
  have hC8 : (H7.push { cls := .type "member_descriptor", data := .fields #[.str (S "obj") t, .ref C, .builtin "proto.slot", .builtin "proto.slot#set", .int 0 0] }).get? C = _ := Heap.get?_push_of_some _ hC7
  have N8 := N7.at (h' := H7.push { cls := .type "member_descriptor", data := .fields #[.str (S "obj") t, .ref C, .builtin "proto.slot", .builtin "proto.slot#set", .int 0 0] }) fun o e => Heap.get?_push_of_some _ e
  have hDn : h.get? H7.objs.size = none := by
    cases e : h.get? H7.objs.size with
    | none => rfl
    | some o => exact absurd (Heap.lt_size (hk7 _ _ e)) (Nat.lt_irrefl _)
  show wpAny _ _ _ _ _ ⟨H7.push { cls := .type "member_descriptor", data := .fields #[.str (S "obj") t, .ref C, .builtin "proto.slot", .builtin "proto.slot#set", .int 0 0] }, g, d, t + 1, os⟩
  generalize H7.push { cls := .type "member_descriptor", data := .fields #[.str (S "obj") t, .ref C, .builtin "proto.slot", .builtin "proto.slot#set", .int 0 0] } = H8 at hD8 hk8 hC8 N8 ⊢
  generalize H7.objs.size = DD at hD8 hDn ⊢
  clear hC7 hk7 N7
  refine wpAny_bind (nsl_setV N8 (by show (11 : Nat) ≤ 1000; decide) fun H9 N9 sb9 => ?_)
  have hDNS : DD ≠ NS := N8.ne hD8 (by intro _ _ e; cases e)
  have hk9 := hsn sb9 hk8
  have hC9 := (sb9.2 _ hNC.symm).trans hC8
  have hD9 := (sb9.2 _ hDNS).trans hD8
  replace N9 : NsL H9 NS [(S "__module__", .str (S "cpy313.functools") tm), (S "__firstlineno__", .int 176 tfl), (S "__slots__", .ref sl), (S "__init__", .ref f1), (S "__lt__", .ref f2), (S "__gt__", .ref f3), (S "__eq__", .ref f4), (S "__le__", .ref f5), (S "__ge__", .ref f6), (S "__hash__", .none), (S "__static_attributes__", .ref st), (S "obj", .ref DD)] := by
    have e : putL (S "obj") (.ref DD) [(S "__module__", .str (S "cpy313.functools") tm), (S "__firstlineno__", .int 176 tfl), (S "__slots__", .ref sl), (S "__init__", .ref f1), (S "__lt__", .ref f2), (S "__gt__", .ref f3), (S "__eq__", .ref f4), (S "__le__", .ref f5), (S "__ge__", .ref f6), (S "__hash__", .none), (S "__static_attributes__", .ref st)] = [(S "__module__", .str (S "cpy313.functools") tm), (S "__firstlineno__", .int 176 tfl), (S "__slots__", .ref sl), (S "__init__", .ref f1), (S "__lt__", .ref f2), (S "__gt__", .ref f3), (S "__eq__", .ref f4), (S "__le__", .ref f5), (S "__ge__", .ref f6), (S "__hash__", .none), (S "__static_attributes__", .ref st), (S "obj", .ref DD)] := by kernel_rfl
    rw [← e]; exact N9
  clear hk8 hC8 N8 hD8 sb9
  refine wpAny_pure (for_nil ?_)
  refine wpAny_bind (for_cons (wpAny_bind (wpAny_of_eq tn_gd (KFB.if_not rfl (wpAny_pure (for_nil ?_))))))
  refine ite_neg (by rw [sizeLine_eq]; show ¬ (0 + 1 > 16777216); decide) ?_
  refine cw_updateCls hC9 ⟨by show (1 : Nat) ≤ 100; decide, Nat.zero_le _⟩ fun H10 hC10 sb10 => ?_
  have hDC : DD ≠ C := fun q => by rw [q, hC9] at hD9; have e := congrArg Obj.data (Option.some.inj hD9); cases e
  have hk10 := hst sb10 hk9
  have N10 := N9.at fun o e => (sb10.2 _ hNC).trans e
  have hD10 := (sb10.2 _ hDC).trans hD9
  clear hC9 hk9 N9 hD9 sb10
  refine wpAny_bind (wpAny_of_eq tn_gw ?_)
  refine wpAny_bind (cw_setSlotE #[some (.ref bT), none, some (.str (S "K") tn), some (.str (S "cmp_to_key.<locals>.K") tq), some (.builtin "object.__new__"), some (.bool false)] hC10 (fun _ => rfl) (by decide) (by kernel_rfl) fun H11 hC11 sb11 => ?_)
  have hk11 := hst sb11 hk10
  have N11 := N10.at fun o e => (sb11.2 _ hNC).trans e
  have hD11 := (sb11.2 _ hDC).trans hD10
  clear hC10 hk10 N10 hD10 sb11
  refine KFB.if_not rfl ?_
  refine KFB.if_not rfl ?_
  refine wpAny_bind (nsl_get none N11 (by kernel_rfl) ?_)
  refine KFB.if_so rfl ?_
  refine wpAny_bind (nsl_set N11 fun H12 N12 sb12 => ?_)
  have hk12 := hsn sb12 hk11
  have hC12 := (sb12.2 _ hNC.symm).trans hC11
  have hD12 := (sb12.2 _ hDNS).trans hD11
  replace N12 : NsL H12 NS [(S "__module__", .str (S "cpy313.functools") tm), (S "__firstlineno__", .int 176 tfl), (S "__slots__", .ref sl), (S "__init__", .ref f1), (S "__lt__", .ref f2), (S "__gt__", .ref f3), (S "__eq__", .ref f4), (S "__le__", .ref f5), (S "__ge__", .ref f6), (S "__hash__", .none), (S "__static_attributes__", .ref st), (S "obj", .ref DD), (S "__doc__", .none)] := by
    have e : putL (S "__doc__") .none [(S "__module__", .str (S "cpy313.functools") tm), (S "__firstlineno__", .int 176 tfl), (S "__slots__", .ref sl), (S "__init__", .ref f1), (S "__lt__", .ref f2), (S "__gt__", .ref f3), (S "__eq__", .ref f4), (S "__le__", .ref f5), (S "__ge__", .ref f6), (S "__hash__", .none), (S "__static_attributes__", .ref st), (S "obj", .ref DD)] = [(S "__module__", .str (S "cpy313.functools") tm), (S "__firstlineno__", .int 176 tfl), (S "__slots__", .ref sl), (S "__init__", .ref f1), (S "__lt__", .ref f2), (S "__gt__", .ref f3), (S "__eq__", .ref f4), (S "__le__", .ref f5), (S "__ge__", .ref f6), (S "__hash__", .none), (S "__static_attributes__", .ref st), (S "obj", .ref DD), (S "__doc__", .none)] := by kernel_rfl
    rw [← e]; exact N12
  clear hk11 hC11 N11 hD11 sb12
  refine wpAny_bind (nsl_get (some (.ref f4)) N12 (by kernel_rfl) ?_)
  refine KFB.if_so rfl ?_
  refine wpAny_bind (nsl_get (some .none) N12 (by kernel_rfl) ?_)
  refine KFB.if_not rfl ?_
  refine wpAny_bind (for_cons (wpAny_bind (m := Builtin.noteSubclassOfBuiltin "object" C) (wpAny_of_eq (a := ()) (by kernel_rfl) (wpAny_pure (for_nil ?_)))))
  refine wpAny_bind (wpAny_tryCatch (wpAny_holding ?_))
  obtain ⟨es12, ep12, hNS12, he12⟩ := N12.at'
  refine wpAny_bind (m := dictEntries NS) (wpAny_dictEntries hNS12 rfl ?_)
  refine wpAny_bind (for_arr (for_ent he12 (fun hh n t v hm Q' q' => wpAny_bind (m := asStr? (.str n t)) (wpAny_pure (KFB.if_not rfl (wpAny_pure q')))) ?_))
  refine KFB.if_not rfl ?_
  refine wpAny_bind (m := dictEntries NS) (wpAny_dictEntries hNS12 rfl ?_)
  refine wpAny_bind (for_arr (for_ent he12 (fun hh n' t' v hm Q' q' => ?_) ?_))
  · have fin : ∀ {E' : Value → Shared → Prop} {v : Value} {T : String} {f : Option Value → Sem (ForInStep PUnit)}, (⟨H12, g, d, t + 1 + 1 + 1, os⟩ : Shared).TypeIs v T → typeLookup (.type T) "__set_name__" = pure none → f none = pure (.yield PUnit.unit) → wpAny (model prog w) A (specialOf v "__set_name__" >>= f) Q' E' ⟨H12, g, d, t + 1 + 1 + 1, os⟩ := fun hT hl hf => by
      unfold specialOf
      refine wpAny_bind (wpAny_bind (wpAny_typeOf hT (wpAny_of_eq hl ?_)))
      rw [hf]
      exact wpAny_pure q'
    have tf : ∀ f ∈ [f1, f2, f3, f4, f5, f6], (⟨H12, g, d, t + 1 + 1 + 1, os⟩ : Shared).TypeIs (.ref f) "function" := fun f hf => let ⟨o, e, c⟩ := hfs f hf; ⟨o, hk12 _ _ e, c⟩
    refine Exists.elim ((?pf : ∀ p : Str × Value, p ∈ _ → ∃ T, (⟨H12, g, d, t + 1 + 1 + 1, os⟩ : Shared).TypeIs p.2 T ∧ typeLookup (.type T) "__set_name__" = pure none ∧ ∀ n t, Builtin.laidUnderItsOwnName (.str n t) p.2 = false) _ hm) fun T x => KFB.if_not (x.2.2 _ _) (fin x.1 x.2.1 rfl)
    exact List.forall_mem_cons.mpr ⟨⟨_, typeIs_str _ _ _, sn_str, fun _ _ => rfl⟩,
      List.forall_mem_cons.mpr ⟨⟨_, typeIs_int _ _ _, sn_int, fun _ _ => rfl⟩,
      List.forall_mem_cons.mpr ⟨⟨"list", ⟨_, hk12 _ _ hsl, rfl⟩, sn_list, fun _ _ => rfl⟩,
      List.forall_mem_cons.mpr ⟨⟨_, tf _ (.head _), sn_fn, fun _ _ => rfl⟩,
      List.forall_mem_cons.mpr ⟨⟨_, tf _ (.tail _ (.head _)), sn_fn, fun _ _ => rfl⟩,
      List.forall_mem_cons.mpr ⟨⟨_, tf _ (.tail _ (.tail _ (.head _))), sn_fn, fun _ _ => rfl⟩,
      List.forall_mem_cons.mpr ⟨⟨_, tf _ (.tail _ (.tail _ (.tail _ (.head _)))), sn_fn, fun _ _ => rfl⟩,
      List.forall_mem_cons.mpr ⟨⟨_, tf _ (.tail _ (.tail _ (.tail _ (.tail _ (.head _))))), sn_fn, fun _ _ => rfl⟩,
      List.forall_mem_cons.mpr ⟨⟨_, tf _ (.tail _ (.tail _ (.tail _ (.tail _ (.tail _ (.head _)))))), sn_fn, fun _ _ => rfl⟩,
      List.forall_mem_cons.mpr ⟨⟨_, typeIs_none _, sn_none, fun _ _ => rfl⟩,
      List.forall_mem_cons.mpr ⟨⟨"tuple", (let ⟨o, e, c⟩ := hstt; ⟨o, hk12 _ _ e, c⟩), sn_tuple, fun _ _ => rfl⟩,
      List.forall_mem_cons.mpr ⟨⟨"member_descriptor", ⟨_, hD12, rfl⟩, sn_mem, fun _ _ => rfl⟩,
      List.forall_mem_cons.mpr ⟨⟨_, typeIs_none _, sn_none, fun _ _ => rfl⟩,
      fun _ h => nomatch h⟩⟩⟩⟩⟩⟩⟩⟩⟩⟩⟩⟩⟩
  have hsub1 : Looks (model prog w) H12 (isSubtype (.ref C) (.ref C)) true := looks_subC hC12 rfl rfl (.inl rfl)
  have hsub2 : Looks (model prog w) H12 (isSubtype (.ref C) (.type "object")) true := looks_subC hC12 rfl rfl (.inr rfl)
  refine wpAny_bind (call_super2 hC12 rfl hsub1 fun H13 hso k13 => ?_)
  have hC13 := k13 _ _ hC12
  refine wpAny_bind (wpAny_holding (getattr_is hso hC13 rfl rfl (hsub2.keeps k13) (((hop C).keeps hk12).keeps k13) ?_))
  have k14 : ∀ b o, H13.get? b = some o → (H13.push (isuBound C)).get? b = some o := fun b o e => Heap.get?_push_of_some _ e
  refine wpAny_bind (call_is (Heap.get?_push_size _ rfl) ?_ (isu_bound (k14 _ _ hC13) rfl rfl rfl))
  have hDC' : C ≠ DD := fun q => hDC q.symm
  exact wpAny_pure (wpAny_pure (hq C NS DD _ _ t _ hCn hza hDn hNC.symm hDC' hDNS (fun b o e => k14 _ _ (k13 _ _ (hk12 _ _ e))) (k14 _ _ hC13) rfl ((N12.at fun o e => k13 _ _ e).at fun o e => k14 _ _ e) (k14 _ _ (k13 _ _ hD12))))
end
end
section
set_option Elab.async false
set_option maxRecDepth 100000
set_option linter.unusedVariables false
set_option maxHeartbeats 2000000
open PySem.Calls
section
variable {M : Model} {prog : Program} {w : World} {A : Around} {E : Value → Shared → Prop} {h : Heap} {g : Array GenState} {d : Drawn} {t : Nat} {os : OsState}

theorem ct_mro : mroOf (.type "type") = pure [.type "type", .type "object"] := by rw [mroOf_type]; kernel_rfl
theorem ct_made : Bind.madeBy (.type "type") = pure (some "type.__new__") := by kernel_rfl
theorem ct_init : Slot "type" "__init__" "type.__init__" := .of (owner := "type") (n := "__init__") (by rw [typeLookup_type, builtinLookup_eq_fast]; kernel_rfl) (by decide +kernel) (by decide +kernel) (by decide +kernel)
  (by first | exact .inl (by decide +kernel) | exact .inr (by decide +kernel)) (by rw [isSubtype_type]; kernel_rfl)
theorem ct_newCall (a b c : Value) : checkBuiltinCall "type.__new__" ⟨[.type "type", a, b, c], []⟩ = pure () := by kernel_rfl
theorem ct_initArgs (o a b c : Value) : argsOk "type.__init__" ⟨[o, a, b, c], []⟩ := by unfold argsOk; kernel_rfl
theorem ct_entry_new : entryFor table "type.__new__" = some Builtin.«type.__new__» := entryFor_of_tree (by kernel_rfl)
theorem ct_entry_init : entryFor table "type.__init__" = some Builtin.«type.__init__» := entryFor_of_tree (by kernel_rfl)
theorem ct_plain_new : plainId "type.__new__" = true := by decide +kernel
theorem ct_check (a b c : Value) : checkTypeCall "type" ⟨[a, b, c], []⟩ = pure () := by kernel_rfl
theorem call_type3 {nm bT ns : Value} {Q : Value → Shared → Prop} {s : Shared}
    (hnew : ∀ (E₂ : Value → Shared → Prop) (Q₂ : PySem.Fin → Shared → Prop), (∀ C s', s'.TypeIs (.ref C) "type" → Q (.ref C) s' → Q₂ (.done (.ret (.ref C))) s') → wpAny (model prog w) A.in1.in1 (Builtin.«type.__new__» ⟨[.type "type", nm, bT, ns], []⟩) Q₂ E₂ s) :
    wpAny (model prog w) A (call (.type "type") [nm, bT, ns]) Q E s := by
  refine wpAny_call (codeAny_of_tree ?_)
  show wpAny _ _ (callAny (.type "type") _) _ _ _
  refine wpAny_pure ⟨Code.quiet_builtin _ (by decide +kernel), codeAny_builtin F.entry_type_call ?_⟩
  rw [Around.under_plain (weight_type_call_type "type" [nm, bT, ns] []) rfl]
  unfold Builtin.«type.__call__»
  refine KFB.if_so rfl ?_
  refine KFB.if_not rfl ?_
  refine KFB.if_not rfl ?_
  refine KFB.if_not (by kernel_rfl) ?_
  refine wpAny_bind (wpAny_of_eq (ct_check _ _ _) ?_)
  refine wpAny_bind (wpAny_of_eq ct_mro ?_)
  refine KFB.if_not rfl ?_
  refine wpAny_bind (wpAny_of_eq ct_made ?_)
  refine wpAny_bind (wpAny_pure ?_)
  refine wpAny_bind (wpAny_holding (wpAny_call (codeAny_of_tree ?_)))
  show wpAny _ A.in1.in1 (do checkBuiltinCall "type.__new__" ⟨[.type "type", nm, bT, ns], []⟩; again (.builtin "type.__new__" ⟨[.type "type", nm, bT, ns], []⟩)) _ _ s
  refine wpAny_bind (wpAny_of_eq (ct_newCall _ _ _) (wpAny_pure ⟨plainId_quiet ct_plain_new _, codeAny_builtin ct_entry_new ?_⟩))
  rw [Around.under_plainId ct_plain_new _]
  refine hnew _ _ fun C s' hT hq => ?_
  show wpAny _ _ _ _ _ _
  refine wpAny_bind ?_
  unfold isInstance
  refine wpAny_bind (wpAny_typeOf hT (wpAny_of_eq tn_yy ?_))
  refine KFB.if_not rfl ?_
  refine wpAny_bind (wpAny_holding ?_)
  unfold callSpecial? specialOf
  refine wpAny_bind (wpAny_bind (wpAny_typeOf hT (wpAny_of_eq ct_init.lookup ?_)))
  refine wpAny_holding ?_
  refine wpAny_bind (wpAny_of_eq (ct_init.bind _) ?_)
  refine wpAny_bind (m := call (.builtin "type.__init__") [.ref C, nm, bT, ns]) ?_
  refine wpAny_call_entry ct_init hT ct_entry_init ?_ (ct_initArgs _ _ _ _)
  show wpAny _ _ (ret Value.none) _ _ _
  refine wpAny_pure ⟨_, rfl, ?_⟩
  refine wpAny_pure ?_
  show wpAny _ _ (ret (Value.ref C)) _ _ _
  exact wpAny_pure hq
end
end
section
set_option Elab.async false
set_option maxRecDepth 100000
set_option linter.unusedVariables false
set_option maxHeartbeats 2000000
open PySem.Calls
section
variable {M : Model} {prog : Program} {w : World} {A : Around} {E : Value → Shared → Prop} {h : Heap} {g : Array GenState} {d : Drawn} {t : Nat} {os : OsState} {s : Shared}

noncomputable abbrev prBound : Obj := { cls := .type "builtin_function_or_method", data := .fields #[.builtin "type.__prepare__", .type "type"] }
theorem pr_type : typeOf (.builtin "type.__prepare__") = pure (.type "classmethod_descriptor") := by show builtinType _ = _; rw [builtinType_eq_fast]; kernel_rfl
theorem pr_owner : (kfb_private% "ownerAndName") "type.__prepare__" = ("type", "__prepare__") := by first | decide +kernel | kernel_rfl
theorem pr_entry : entryFor table "type.__prepare__" = some Builtin.«type.__prepare__» := entryFor_of_tree (by kernel_rfl)
theorem pr_isType : isType (.type "type") = pure true := by first | rfl | kernel_rfl
theorem pr_run {P : PySem.Fin → Shared → Prop} (h : P (.done (.ret (.ref s.heap.objs.size))) { s with heap := s.heap.push prBound }) :
    wpAny M A (Builtin.«classmethod_descriptor.__get__» ⟨[.builtin "type.__prepare__", .none, .type "type"], []⟩) P E s := by
  unfold Builtin.«classmethod_descriptor.__get__»
  refine wpAny_bind (wpAny_of_eq (a := (.builtin "type.__prepare__", none, some (.type "type"))) (by first | rfl | kernel_rfl) ?_)
  simp only [pr_owner]
  refine wpAny_bind (wpAny_of_eq (a := .type "type") rfl ?_)
  refine wpAny_bind (wpAny_of_eq (a := true) pr_isType ?_)
  refine KFB.if_not rfl ?_
  refine wpAny_bind (wpAny_of_eq (a := true) tn_yy ?_)
  refine KFB.if_not rfl ?_
  exact wpAny_bind (wpAny_newObj_type (wpAny_pure h))
theorem pr_find : findCls ([] : Frag) (.type "type") (.type "type") "__prepare__" = some (.get (.builtin "classmethod_descriptor.__get__") (.builtin "type.__prepare__") .none (.type "type")) := by kernel_rfl
theorem pr_opq : opaqueClassAbove (.type "type") = pure none := by unfold opaqueClassAbove; dsimp only; rw [show Manifest.isStub "type" = false by decide +kernel]; rfl
theorem pr_ga : typeLookup (.type "type") "__getattribute__" = pure (some (.builtin "type.__getattribute__")) := KF.slot_tga.lookup
theorem get_prepare {Q : Option Value → Shared → Prop} (hq : Q (some (.ref s.heap.objs.size)) { s with heap := s.heap.push prBound, toks := s.toks + 1 }) : wpAny (model prog w) A (getAttr? (.type "type") "__prepare__") Q E s := by
  have X : Frag.In [] s.heap := fun a o e => by cases e
  have X' : Frag.In [] ({ s with toks := s.toks + 1 } : Shared).heap := X
  unfold getAttr? 
  refine wpAny_bind (wpAny_mkText ?_)
  unfold getAttrBy?
  refine wpAny_bind (wpAny_attempt ?_)
  unfold getAttrBy
  refine wpAny_holding (wpAny_bind (wpAny_of_eq tn_ty_t (wpAny_bind (wpAny_of_eq pr_ga ?_))))
  dsimp only
  rw [show (onTheHeap (Value.type "type") && Value.builtin "type.__getattribute__" == Value.builtin "object.__getattribute__") = false from by rw [show (Value.builtin "type.__getattribute__" == Value.builtin "object.__getattribute__") = false from by decide +kernel, Bool.and_false], if_neg (by decide)]
  unfold getAttrByItsOwn
  refine wpAny_bind (wpAny_of_eq (show hookBefore (.type "type") = pure none from rfl) (wpAny_bind (wpAny_attempt (wpAny_holding ?_))))
  unfold callGetattribute
  rw [show (false && onTheHeap (Value.builtin "type.__getattribute__")) = false from rfl, if_neg (by decide)]
  unfold boundAndCalled
  rw [KF.slot_tga.bind]
  refine wpAny_bind (wpAny_pure ?_)
  show wpAny _ _ (call (.builtin "type.__getattribute__") [.type "type", .str "__prepare__" s.toks]) _ _ _
  refine wpAny_call ?_
  refine codeAny_call_builtin KF.slot_tga.plain KF.entry_tga ?_
  have hi : Looks (model prog w) ({ s with toks := s.toks + 1 } : Shared).heap (isInstance (.type "type") (.type "type")) true := Looks.of_pure (by kernel_rfl)
  refine @check_slot (model prog w) _ _ { s with toks := s.toks + 1 } "type.__getattribute__" "type" "__getattribute__" (.type "type") [.str "__prepare__" s.toks] [] _ (by decide +kernel) (by decide +kernel) hi (KF.args_tga _ (.str "__prepare__" s.toks)) ?_
  have hrun : wpAny (model prog w) A.in1 (CFound.run (.get (.builtin "classmethod_descriptor.__get__") (.builtin "type.__prepare__") .none (.type "type"))) (fun fin s' => fin = .done (.ret (.ref s.heap.objs.size)) ∧ s' = { s with heap := s.heap.push prBound, toks := s.toks + 1 }) noE { s with toks := s.toks + 1 } := by
    unfold CFound.run
    refine wpAny_bind (wpAny_holding (wpAny_call_entry KFB.slot_get pr_type KFB.entry_get (pr_run ⟨_, rfl, ?_⟩) (KFB.args_get _ _ _)))
    exact wpAny_pure ⟨rfl, rfl⟩
  have key := tga_run (prog := prog) (w := w) (A := A.in1) (s := { s with toks := s.toks + 1 }) (K := []) (c := .type "type") (mc := .type "type") (name := "__prepare__") (tk := s.toks) X' (Looks.of_pure pr_opq) (Looks.of_pure tn_ty_t) pr_find hrun
  refine wpAny_mono key (fun fin s' z => ?_) fun _ _ z => z.elim
  obtain ⟨rfl, rfl⟩ := z
  exact wpAny_pure (wpAny_pure hq)

theorem pr_bound (nm bT : Value) : checkBoundCall "type.__prepare__" ⟨[.type "type", nm, bT], []⟩ = pure () := by kernel_rfl
theorem call_prepare {b : Addr} {nm bT : Value} {Q : Value → Shared → Prop} (hb : h.get? b = some prBound) (hq : Q (.ref h.objs.size) ⟨h.push ⟨.type "dict", none, .dict #[] 0, #[]⟩, g, d, t, os⟩) :
    wpAny (model prog w) A (call (.ref b) [nm, bT] []) Q E ⟨h, g, d, t, os⟩ := by
  refine wpAny_call (codeAny_of_tree ?_)
  show wpAny _ A.in1 (callAny (.ref b) ⟨[nm, bT], []⟩) _ _ _
  unfold callAny
  refine wpAny_bind (wpAny_load hb ?_)
  refine KFB.if_so (by kernel_rfl) ?_
  refine KFB.if_so (by kernel_rfl) ?_
  show wpAny _ _ (checkBoundCall "type.__prepare__" ⟨[.type "type", nm, bT], []⟩ >>= fun _ => again (Code.builtin "type.__prepare__" ⟨[.type "type", nm, bT], []⟩)) _ _ _
  refine wpAny_bind (wpAny_of_eq (pr_bound _ _) ?_)
  refine wpAny_pure ⟨Code.quiet_builtin _ (by decide +kernel), codeAny_builtin pr_entry ?_⟩
  unfold Builtin.«type.__prepare__»
  exact wpAny_bind (m := newDict) (wpAny_newObj_type (wpAny_pure hq))
end
end
section
set_option Elab.async false
set_option maxRecDepth 100000
set_option linter.unusedVariables false
set_option maxHeartbeats 1000000
open PySem.Calls

theorem codeAmong_snoc_ne {pos q : Pos} {c : Value} (hne : ¬ (((pos.line : Int) == q.line && (pos.col : Int) == q.col) = true)) : ∀ (l : List Value), TriplesOk l → codeAmong q (l ++ [rawInt pos.line, rawInt pos.col, c]) = codeAmong q l := by
  intro l h
  fun_induction TriplesOk l with
  | case1 =>
    simp only [List.nil_append, codeAmong, rawInt]
    rw [if_neg hne]
  | case2 a t b u x rest ih =>
    simp only [List.cons_append, codeAmong]
    rw [ih h]
  | case3 l h1 h2 => exact h.elim

theorem TriplesOk_one {ps : Array Value} {q : Str} {t : Tok} (h : TriplesOk ps.toList) (e : ps[1]? = some (.str q t)) : False := by
  obtain ⟨l⟩ := ps
  match l, h with
  | [], _ => simp at e
  | .int _ _ :: .int _ _ :: _ :: _, _ => simp at e

section
variable {M : Model} {prog : Program} {w : World} {A : Around} {E : Value → Shared → Prop} {h : Heap} {g : Array GenState} {d : Drawn} {t : Nat} {os : OsState} {s : Shared}

/-- the state of a class's body: the names so far, the code's table -/
structure CB (h00 : Heap) (nsA c P : Addr) (kvs : List (Str × Value)) (done todo : List (Pos × Str)) (news : List (Addr × Obj)) (recs : List (Value × Str)) (h : Heap) : Prop where
  keep : ∀ b o, b ≠ 125 → h00.get? b = some o → h.get? b = some o
  ns : NsL h nsA kvs
  nsNew : h00.get? nsA = none
  hd : CodeHd h c P
  tab : ∃ ps, h.get? P = some (tabObj ps) ∧ TriplesOk ps.toList ∧ (∀ p ∈ done, ∃ cv, codeAmong p.1 ps.toList = some cv ∧ h.CodeRec cv p.2) ∧
    (∀ p ∈ todo, (h00.get? P = none ∧ codeAmong p.1 ps.toList = none) ∨ ∃ cv, codeAmong p.1 ps.toList = some cv ∧ h.CodeRec cv p.2)
  new : ∀ p ∈ news, h.get? p.1 = some p.2 ∧ p.1 ≠ nsA ∧ p.1 ≠ P
  rc : ∀ p ∈ recs, h.CodeRec p.1 p.2
  P125 : P ≠ 125
  n125 : nsA ≠ 125

noncomputable def apartPos (p : Pos) (l : List (Pos × Str)) : Bool := l.all fun q => !((p.line : Int) == q.1.line && (p.col : Int) == q.1.col)

theorem cb_store {h00 : Heap} {nsA c P : Addr} {kvs : List (Str × Value)} {done todo : List (Pos × Str)} {news : List (Addr × Obj)} {recs : List (Value × Str)} {env : Env} {n : Str} {v : Value} {Q : Unit → Shared → Prop} (B : CB h00 nsA c P kvs done todo news recs h)
    (hk : env.scope.kind = .class) (hl : env.locals = nsA) (hn : env.kindOf n = some .local ∨ (env.kindOf n = none ∧ compilersOwnNames.contains n = true))
    (q : ∀ h' tk, CB h00 nsA c P (putL n v kvs) done todo news recs h' → Q () ⟨h', g, d, tk, os⟩) : wpAny M A (storeName env n v) Q E ⟨h, g, d, t, os⟩ := by
  obtain ⟨es, ep, ho, he⟩ := B.ns.at'
  have step : wpAny M A (localSet env n v) Q E ⟨h, g, d, t, os⟩ := by
    unfold localSet
    rw [hl]
    refine wpAny_bind (wpAny_load ho ?_)
    refine KFB.if_so rfl (nsl_set B.ns fun h' N' sb => q h' _ ?_)
    have hne : ∀ {a o}, h.get? a = some o → (∀ es ep, o.data ≠ .dict es ep) → a ≠ nsA := fun e hd => B.ns.ne e hd
    obtain ⟨ps, h1, h2, h3, h4⟩ := B.tab
    have rec' : ∀ {cv q}, h.CodeRec cv q → h'.CodeRec cv q := fun {cv q} x => by
      obtain ⟨c, o, vs, t, e1, e2, e3, e4⟩ := x
      exact ⟨c, o, vs, t, e1, (sb.2 _ (hne e2 (by intro _ _ z; rw [e3] at z; cases z))).trans e2, e3, e4⟩
    refine ⟨fun b o hb e => (sb.2 b fun z => by rw [z, B.nsNew] at e; cases e).trans (B.keep b o hb e), N', B.nsNew, ?_, ⟨ps, (sb.2 _ (hne h1 (by intro _ _ z; cases z))).trans h1, h2, fun p hp => ?_, fun p hp => ?_⟩, fun p hp => ?_, fun p hp => ?_, B.P125, B.n125⟩
    · obtain ⟨o, vs, file, tf, flags, tg, inF, text, tt, e1, e2, e3, r⟩ := B.hd
      exact ⟨o, vs, file, tf, flags, tg, inF, text, tt, (sb.2 _ (hne e1 (by intro _ _ z; rw [e3] at z; cases z))).trans e1, e2, e3, r⟩
    · obtain ⟨cv, e1, e2⟩ := h3 p hp; exact ⟨cv, e1, rec' e2⟩
    · rcases h4 p hp with r | ⟨cv, e1, e2⟩
      · exact .inl r
      · exact .inr ⟨cv, e1, rec' e2⟩
    · obtain ⟨e1, e2, e3⟩ := B.new p hp
      exact ⟨(sb.2 _ e2).trans e1, e2, e3⟩
    · exact rec' (B.rc p hp)
  have hb : env.blockKind = .class := by unfold Env.blockKind; rw [hk]; rfl
  unfold storeName
  rcases hn with hn | ⟨hn, hc⟩
  · rw [hn, hk]
    exact step
  · rw [hn, hk, hb]
    dsimp only
    rw [hc]
    exact step

/-- a push -/
theorem CB.push {h00 : Heap} {nsA c P : Addr} {kvs : List (Str × Value)} {done todo : List (Pos × Str)} {news : List (Addr × Obj)} {recs : List (Value × Str)} (B : CB h00 nsA c P kvs done todo news recs h) (o : Obj) (hf : o.isFreed = false) : CB h00 nsA c P kvs done todo ((h.objs.size, o) :: news) recs (h.push o) := by
  have k : ∀ b x, h.get? b = some x → (h.push o).get? b = some x := fun b x e => Heap.get?_push_of_some _ e
  obtain ⟨ps, h1, h2, h3, h4⟩ := B.tab
  obtain ⟨es, ep, ho, he⟩ := B.ns.at'
  refine ⟨fun b x hb e => k _ _ (B.keep b x hb e), B.ns.at fun _ e => k _ _ e, B.nsNew, B.hd.keeps k, ⟨ps, k _ _ h1, h2, fun p hp => let ⟨cv, e1, e2⟩ := h3 p hp; ⟨cv, e1, e2.keeps k⟩, fun p hp => (h4 p hp).imp id fun ⟨cv, e1, e2⟩ => ⟨cv, e1, e2.keeps k⟩⟩, fun p hp => ?_, fun p hp => (B.rc p hp).keeps k, B.P125, B.n125⟩
  rcases List.mem_cons.mp hp with rfl | hp
  · refine ⟨Heap.get?_push_size _ hf, fun q => ?_, fun q => ?_⟩
    · have := Heap.lt_size ho; rw [← q] at this; exact absurd this (Nat.lt_irrefl _)
    · have := Heap.lt_size h1; rw [← q] at this; exact absurd this (Nat.lt_irrefl _)
  · obtain ⟨e1, e2, e3⟩ := B.new p hp; exact ⟨k _ _ e1, e2, e3⟩

/-- a def in the body of the class -/
theorem cb_def {h00 : Heap} {nsA c P : Addr} {kvs : List (Str × Value)} {done todo : List (Pos × Str)} {news : List (Addr × Obj)} {recs : List (Value × Str)} {env : Env} {name qual : Str} {params : Arguments} {body : List Stmt} {scope : Scope} {pos : Pos} {clos : List (Str × Addr)} {mg : Str → Option Value} {Q : Flow → Shared → Prop}
    (B : CB h00 nsA c P kvs done ((pos, qual) :: todo) news recs h) (hk : env.scope.kind = .class) (hl : env.locals = nsA) (hgl : env.globals = mainGlobals) (hcd : env.code = .ref c) (hn : env.kindOf name = some .local) (hqn : env.qual ++ name = qual)
    (hcl : closureFor scope env = pure clos) (hd0 : params.defaults = []) (hk0 : params.kw_defaults = []) (ha : annTrees params none env = []) (hap : apartPos pos done = true) (hat : apartPos pos todo = true)
    (hg : ∀ h' : Heap, (∀ b o, b ≠ 125 → h00.get? b = some o → h'.get? b = some o) → h'.Ns mainGlobals mg ∧ (P ≠ mainGlobals) ∧ h'.BuiltinsAt mg P)
    (q : ∀ f cv ctv doc h' tk, CB h00 nsA c P (putL name (.ref f) kvs) ((pos, qual) :: done) todo ((f, { cls := .type "function", data := .func (fnX name qual params body scope clos .none .none doc ((mg "__name__").getD .none) none cv ctv) }) :: news) ((cv, qual) :: recs) h' → Q .next ⟨h', g, d, tk, os⟩) :
    wpAny M A (exec (.FunctionDef name params body [] none [] scope none name pos) env) Q E ⟨h, g, d, t, os⟩ := by
  have hqq : qualnameIn env name name = qual := by unfold qualnameIn; rw [hn]; exact hqn
  obtain ⟨G1, G2, G3⟩ := hg h B.keep
  obtain ⟨ps, h1, h2, h3, h4⟩ := B.tab
  obtain ⟨es, ep, ho, he⟩ := B.ns.at'
  refine nestDef_K hd0 hk0 ha ?_
  rw [hqq]
  have fin : ∀ {H : Heap} {o : Obj} {fa : Addr} {tk : Nat} {rs : List (Value × Str)}, CB h00 nsA c P kvs ((pos, qual) :: done) todo ((fa, o) :: news) rs H → (∀ h' tk, CB h00 nsA c P (putL name (.ref fa) kvs) ((pos, qual) :: done) todo ((fa, o) :: news) rs h' → Q .next ⟨h', g, d, tk, os⟩) →
      wpAny M A (storeName env name (.ref fa)) (fun _ s'' => Q .next s'') E ⟨H, g, d, tk, os⟩ := fun B' q' => cb_store B' hk hl (.inl hn) fun h' tk B'' => q' h' tk B''
  rcases h4 (pos, qual) (.head _) with ⟨hP0, hnf⟩ | ⟨cv, hf, hrec⟩
  · refine makeFunction_K hcl hgl G1 hcd B.hd h1 h2 hnf (fun e => G2 e.symm) G3 fun c' ctv doc h' tk hx hge hlt hrec htb => ?_
    have hne : ∀ {a o}, h.get? a = some o → a ≠ P → h'.get? a = some o := fun e hz => hx _ _ hz e
    have hnP : nsA ≠ P := fun z => by rw [z, h1] at ho; cases ho
    have hl2 : (ps ++ #[rawInt pos.line, rawInt pos.col, .ref c']).toList = ps.toList ++ [rawInt pos.line, rawInt pos.col, .ref c'] := by simp
    have ap : ∀ {l : List (Pos × Str)}, apartPos pos l = true → ∀ p ∈ l, codeAmong p.1 (ps ++ #[rawInt pos.line, rawInt pos.col, .ref c']).toList = codeAmong p.1 ps.toList := fun {l} hh p hp => by
      rw [hl2]
      refine codeAmong_snoc_ne (fun z => ?_) _ h2
      have := List.all_eq_true.mp hh p hp
      rw [z] at this; cases this
    have recK : ∀ {cv q}, h.CodeRec cv q → h'.CodeRec cv q := fun {cv q} x => by
      obtain ⟨c₁, o, vs, t, e1, e2, e3, e4⟩ := x
      refine ⟨c₁, o, vs, t, e1, hne e2 fun z => ?_, e3, e4⟩
      rw [z, h1] at e2; cases e2
      cases e3
      exact TriplesOk_one h2 e4
    have B1 : CB h00 nsA c P kvs ((pos, qual) :: done) todo news ((.ref c', qual) :: recs) h' := by
      refine ⟨fun b o hb e => hne (B.keep b o hb e) (fun z => by rw [z, hP0] at e; cases e), B.ns.at fun _ e => hne e hnP, B.nsNew, ?_, ⟨_, htb, by rw [hl2]; exact TriplesOk_snoc _ _ _ _ h2, fun p hp => ?_, fun p hp => ?_⟩, fun p hp => ?_, fun p hp => ?_, B.P125, B.n125⟩
      · obtain ⟨o, vs, file, tf, flags, tg, inF, text, tt, e1, r⟩ := B.hd
        exact ⟨o, vs, file, tf, flags, tg, inF, text, tt, hne e1 r.2.2.2.2.2.2.2.2, r⟩
      · rcases List.mem_cons.mp hp with rfl | hp
        · exact ⟨_, by rw [hl2]; exact codeAmong_snoc _ h2 hnf, hrec⟩
        · obtain ⟨cv, e1, e2⟩ := h3 p hp
          exact ⟨cv, (ap hap p hp).trans e1, recK e2⟩
      · rcases h4 p (.tail _ hp) with ⟨r1, r2⟩ | ⟨cv, e1, e2⟩
        · exact .inl ⟨r1, (ap hat p hp).trans r2⟩
        · exact .inr ⟨cv, (ap hat p hp).trans e1, recK e2⟩
      · obtain ⟨e1, e2, e3⟩ := B.new p hp; exact ⟨hne e1 e3, e2, e3⟩
      · rcases List.mem_cons.mp hp with rfl | hp
        · exact hrec
        · exact recK (B.rc p hp)
    exact fin (B1.push _ rfl) fun h'' tk' B'' => q _ (.ref c') ctv doc h'' tk' B''
  · refine makeFunction_hit hcl hgl G1 hcd B.hd h1 h2 hf G3 fun ctv doc h' tk hk' hsz => ?_
    have B1 : CB h00 nsA c P kvs ((pos, qual) :: done) todo news ((cv, qual) :: recs) h' := by
      refine ⟨fun b o hb e => hk' _ _ (B.keep b o hb e), B.ns.at fun _ e => hk' _ _ e, B.nsNew, B.hd.keeps hk', ⟨ps, hk' _ _ h1, h2, fun p hp => ?_, fun p hp => ?_⟩, fun p hp => ?_, fun p hp => ?_, B.P125, B.n125⟩
      · rcases List.mem_cons.mp hp with rfl | hp
        · exact ⟨cv, hf, hrec.keeps hk'⟩
        · obtain ⟨cv, e1, e2⟩ := h3 p hp
          exact ⟨cv, e1, e2.keeps hk'⟩
      · exact (h4 p (.tail _ hp)).imp id fun ⟨cv, e1, e2⟩ => ⟨cv, e1, e2.keeps hk'⟩
      · obtain ⟨e1, e2, e3⟩ := B.new p hp; exact ⟨hk' _ _ e1, e2, e3⟩
      · rcases List.mem_cons.mp hp with rfl | hp
        · exact hrec.keeps hk'
        · exact (B.rc p hp).keeps hk'
    exact fin (B1.push _ rfl) fun h'' tk' B'' => q _ cv ctv doc h'' tk' B''
end
end
section
set_option Elab.async false
set_option maxRecDepth 100000
set_option linter.unusedVariables false
set_option maxHeartbeats 1000000
open PySem.Calls
section
variable {M : Model} {prog : Program} {w : World} {A : Around} {E : Value → Shared → Prop} {h : Heap} {g : Array GenState} {d : Drawn} {t : Nat} {os : OsState} {s : Shared}

/-- the code of the class, made -/
theorem cc_miss {env : Env} {c P : Addr} {ps : Array Value} {pos : Pos} {firstLine : Nat} {name qualname : Str} {scope : Scope}
    {Q : Value → Shared → Prop} (hc : env.code = .ref c) (hok : s.heap.IsCode c P ps) (htab : s.heap.TableAt c P ps) (hnf : codeAmong pos ps.toList = none)
    (hQ : ∀ c' P' h' tk, Heap.ExtBut P s.heap h' → s.heap.objs.size ≤ c' → s.heap.objs.size ≤ P' → h'.CodeRec (.ref c') qualname →
      h'.get? P = some (tabObj (ps ++ #[rawInt pos.line, rawInt pos.col, .ref c'])) → h'.IsCode c' P' #[] → h'.TableAt c' P' #[] → Q (.ref c') { s with heap := h', toks := tk }) :
    wpAny M A (classCode env pos firstLine name qualname scope) Q E s := by
  obtain ⟨o, vs, file, tf, flags, tg, inF, text, tt, op, ho, hd, h11, h2, h7, h9, h10, hop, hpd, htr, hne⟩ := id hok
  have htP := htab.2
  have e1 : op = { cls := .none, data := .fields ps } := Option.some.inj (hop.symm.trans htP)
  unfold classCode codeAt
  rw [hc, if_neg (show ¬ ((Value.ref c == Value.none) = true) from Bool.false_ne_true)]
  refine wpAny_bind (wpAny_fieldsOf ho hd ?_)
  rw [h11]
  refine wpAny_bind (wpAny_fieldsOf hop hpd ?_)
  rw [hnf, h2, h7, h9, h10]
  refine wpAny_bind (wpAny_newCodeX fun c' P' h' tk hk hc' hP' hcode' htab' hrec' => ?_)
  have hop' := hk _ _ hop
  refine wpAny_bind (wpAny_updateFieldsOfTheText hop' hpd ?_)
  have hnew : (Obj.mapFields (fun vs => if (codeAmong pos vs.toList).isSome = true then vs else vs ++ #[rawInt pos.line, rawInt pos.col, .ref c']) op).data = .fields (ps ++ #[rawInt pos.line, rawInt pos.col, .ref c']) := by
    rw [Obj.data_mapFields hpd, hnf]; rfl
  have hget := Heap.get?_update_self (h := h') (fun o => Obj.mapFields (fun vs => if (codeAmong pos vs.toList).isSome = true then vs else vs ++ #[rawInt pos.line, rawInt pos.col, .ref c']) o) hop' (Obj.isFreed_of_fields hnew)
  refine wpAny_bind (wpAny_fieldsOf hget hnew ?_)
  have hl : (ps ++ #[rawInt pos.line, rawInt pos.col, Value.ref c']).toList = ps.toList ++ [rawInt pos.line, rawInt pos.col, .ref c'] := by simp
  rw [hl, codeAmong_snoc _ htr hnf]
  have hPlt := Heap.lt_size hop
  have hcP : c' ≠ P := Nat.ne_of_gt (Nat.lt_of_lt_of_le hPlt hc')
  have hPP : P' ≠ P := Nat.ne_of_gt (Nat.lt_of_lt_of_le hPlt hP')
  refine wpAny_pure (hQ _ _ _ _ (fun b o' hb e => ((Heap.SameBut.update ..).extBut b o' hb (hk b o' e))) hc' hP' ?_ ?_ (hcode'.extBut (Heap.SameBut.update ..).extBut hcP hPP) ?_)
  · obtain ⟨c₂, o₂, vs₂, t₂, e₂, g₂, r₂⟩ := hrec'
    cases e₂
    exact ⟨_, o₂, vs₂, t₂, rfl, (Heap.SameBut.update ..).extBut _ _ hcP g₂, r₂⟩
  · rw [hget, e1]
    simp only [Obj.mapFields, hnf]
    rfl
  · obtain ⟨⟨oc, vc, hoc, hcc, hdc, h11c⟩, htP'⟩ := htab'
    exact ⟨⟨oc, vc, (Heap.SameBut.update ..).extBut _ _ hcP hoc, hcc, hdc, h11c⟩, (Heap.SameBut.update ..).extBut _ _ hPP htP'⟩

/-- one way or the other -/
theorem cc_any {env : Env} {c : Addr} {ps : Array Value} {pos : Pos} {firstLine : Nat} {name : Str} {scope : Scope} {Q : Value → Shared → Prop} (hc : env.code = .ref c) (C : CodeHd h c 125) (hP : h.get? 125 = some (tabObj ps)) (ht : TriplesOk ps.toList) (h175 : ∃ o, h.get? 175 = some o)
    (hcase : codeAmong pos ps.toList = none ∨ ∃ cv, codeAmong pos ps.toList = some cv ∧ ClsCode h cv)
    (q : ∀ c' P' ps' p125 h' tk, Heap.ExtBut 125 h h' → CodeHd h' c' P' → h'.get? P' = some (tabObj ps') → TriplesOk ps'.toList → P' ≠ 125 → P' ≠ 175 → h'.CodeRec (.ref c') kQ → h'.get? 125 = some (tabObj p125) → TriplesOk p125.toList → (∀ p v, codeAmong p p125.toList = some v → codeAmong p ps.toList = some v ∨ v = .ref c') →
      (∀ p ∈ kCodes, (h.get? P' = none ∧ codeAmong p.1 ps'.toList = none) ∨ ∃ cv, codeAmong p.1 ps'.toList = some cv ∧ h'.CodeRec cv p.2) → Q (.ref c') ⟨h', g, d, tk, os⟩) :
    wpAny M A (classCode env pos firstLine name kQ scope) Q E ⟨h, g, d, t, os⟩ := by
  rcases hcase with hnf | ⟨cv, hf, c', P', ps', rfl, h1, h2, h3, h4, h4', h5, h6⟩
  · refine cc_miss (s := ⟨h, g, d, t, os⟩) hc (C.code hP ht) (C.tab hP) hnf fun c' P' h' tk hx hgc hgP hrec h125 hcode htab => ?_
    have hl : (ps ++ #[rawInt pos.line, rawInt pos.col, Value.ref c']).toList = ps.toList ++ [rawInt pos.line, rawInt pos.col, .ref c'] := by simp
    have hlt := Heap.lt_size hP
    obtain ⟨o175, e175⟩ := h175
    have hlt2 := Heap.lt_size e175
    have hPn : h.get? P' = none := by
      cases e : h.get? P' with
      | none => rfl
      | some o => exact absurd (Heap.lt_size e) (Nat.not_lt.mpr hgP)
    refine q c' P' #[] _ h' tk hx (CodeHd.of hcode htab) htab.2 trivial (Nat.ne_of_gt (Nat.lt_of_lt_of_le hlt hgP)) (Nat.ne_of_gt (Nat.lt_of_lt_of_le hlt2 hgP)) hrec h125 (by rw [hl]; exact TriplesOk_snoc _ _ _ _ ht) (fun p v hv => ?_) fun p hp => .inl ⟨hPn, rfl⟩
    by_cases hne : ((pos.line : Int) == p.line && (pos.col : Int) == p.col) = true
    · have hpp : codeAmong p (ps ++ #[rawInt pos.line, rawInt pos.col, Value.ref c']).toList = codeAmong pos (ps ++ #[rawInt pos.line, rawInt pos.col, Value.ref c']).toList := by
        have key : ∀ l : List Value, codeAmong p l = codeAmong pos l := by
          intro l
          simp only [Bool.and_eq_true, beq_iff_eq] at hne
          fun_induction codeAmong p l with
          | case1 line _ col _ c rest hh => rw [codeAmong, if_pos (by rw [hne.1, hne.2]; exact hh)]
          | case2 line _ col _ c rest hh ih => rw [codeAmong, if_neg (by rw [hne.1, hne.2]; exact hh), ih]
          | case3 l hl =>
            unfold codeAmong
            split
            · rename_i a b c d e f; exact absurd rfl (hl a b c d e f)
            · rfl
        exact key _
      rw [hpp, hl, codeAmong_snoc _ ht hnf] at hv
      exact .inr (Option.some.inj hv).symm
    · rw [hl, codeAmong_snoc_ne hne _ ht] at hv
      exact .inl hv
  · exact wpAny_codeAt_hit (s := ⟨h, g, d, t, os⟩) hc (C.code hP ht) hf (q c' P' ps' ps h t (fun _ _ _ e => e) h1 h2 h3 h4 h4' h5 hP ht (fun p v hv => .inl hv) fun p hp => .inr (h6 p hp))
end
end
section
set_option Elab.async false
set_option maxRecDepth 100000
set_option linter.unusedVariables false
set_option maxHeartbeats 1000000
open PySem.Calls
section
variable {M : Model} {prog : Program} {w : World} {A : Around} {E : Value → Shared → Prop} {h : Heap} {g : Array GenState} {d : Drawn} {t : Nat} {os : OsState} {s : Shared}

theorem bc_getitem : typeLookup (.type "dict") "__getitem__" = pure (some (.builtin "dict.__getitem__")) := by rw [typeLookup_type, builtinLookup_eq_fast]; kernel_rfl
theorem bc_ty : isType (.type "object") = pure true := by kernel_rfl

theorem cb_load {h00 : Heap} {nsA c P : Addr} {kvs : List (Str × Value)} {done todo : List (Pos × Str)} {news : List (Addr × Obj)} {recs : List (Value × Str)} {env : Env} {n : Str} {vn : Value} {mg : Str → Option Value} {Q : Value → Shared → Prop} (B : CB h00 nsA c P kvs done todo news recs h)
    (hk : env.scope.kind = .class) (hl : env.locals = nsA) (hgl : env.globals = mainGlobals) (hg : h.Ns mainGlobals mg) (hv : mg n = some vn) (hn : env.kindOf n = none) (hc : compilersOwnNames.contains n = true) (hno : getL n kvs = none)
    (q : Q vn ⟨h, g, d, t, os⟩) : wpAny M A (loadName env n) Q E ⟨h, g, d, t, os⟩ := by
  obtain ⟨es, ep, ho, he⟩ := B.ns.at'
  have hb : env.blockKind = .class := by unfold Env.blockKind; rw [hk]; rfl
  unfold loadName
  rw [hk, hb, hn]
  refine KFB.if_not rfl ?_
  refine KFB.if_not (by rw [hc]; rfl) ?_
  refine wpAny_bind ?_
  unfold localGet
  rw [hl]
  refine wpAny_bind (wpAny_load ho (KFB.if_so rfl (nsl_get none B.ns hno ?_)))
  show wpAny _ _ (loadGlobal env n) _ _ _
  unfold loadGlobal
  rw [hgl]
  refine wpAny_bind (wpAny_nsGet (s := ⟨h, g, d, t, os⟩) hg ?_)
  rw [hv]
  exact wpAny_pure q
noncomputable abbrev bodyEnv (scope : Scope) (nsA c fr : Addr) (clos : List (Str × Addr)) : Env := { scope := scope, locals := nsA, globals := mainGlobals, qual := kQ ++ ".", code := .ref c, frame := some fr, builtins := builtinsNs, cells := clos }
noncomputable def kvs0 (vm vq vf : Value) : List (Str × Value) := [(S "__module__", vm), (S "__qualname__", vq), (S "__firstlineno__", vf)]

noncomputable def kvsF (tm tq tf : Tok) (sl f1 f2 f3 f4 f5 f6 : Addr) : List (Str × Value) := [(S "__module__", .str (S "cpy313.functools") tm), (S "__qualname__", .str kQ tq), (S "__firstlineno__", .int 176 tf), (S "__slots__", .ref sl), (S "__init__", .ref f1), (S "__lt__", .ref f2), (S "__gt__", .ref f3), (S "__eq__", .ref f4), (S "__le__", .ref f5), (S "__ge__", .ref f6), (S "__hash__", .none)]
/-- behind the body -/
structure BodyEnd (h : Heap) (nsA c P : Addr) (tq tf : Tok) (news : List (Addr × Obj)) (recs : List (Value × Str)) (P1 P2 : FuncData → Prop) (tm : Tok) (sl : Addr) (to : Tok) (n : Nat) (f : Nat → Addr) (o : Nat → Obj) (dn : List (Pos × Str)) (news' : List (Addr × Obj)) (recs' : List (Value × Str)) (h'' : Heap) : Prop where
  cb : CB h nsA c P (kvsF tm tq tf sl (f 1) (f 2) (f 3) (f 4) (f 5) (f 6)) dn [] news' recs' h''
  dn : ∀ p ∈ kCodes, p ∈ dn
  old : ∀ p ∈ news, p ∈ news'
  oldR : ∀ p ∈ recs, p ∈ recs'
  sl : (sl, (⟨.type "list", none, .seq #[.str (S "obj") to] n, #[]⟩ : Obj)) ∈ news'
  fn : ∀ i, 1 ≤ i → i ≤ 6 → (f i, o i) ∈ news' ∧ (o i).cls = .type "function"
  one : ∃ fd, (o 1).data = .func fd ∧ P1 fd ∧ (fd.code, fd.qualname) ∈ recs'
  two : ∃ fd, (o 2).data = .func fd ∧ P2 fd ∧ (fd.code, fd.qualname) ∈ recs'
/-- the class, made -/
theorem getL_notin {n : Str} : ∀ {kvs : List (Str × Value)}, n ∉ kvs.map (·.1) → getL n kvs = none
  | [], _ => rfl
  | p :: r, h => by
    have h1 : (p.1 == n) = false := beq_eq_false_iff_ne.mpr fun z => h (z ▸ .head _)
    unfold getL
    rw [h1]
    exact getL_notin fun q => h (.tail _ q)
structure KAt (h : Heap) (q125 : Array Value) (P1 P2 : FuncData → Prop) (C : Addr) (H : Heap) : Prop where
  keep : ∀ b o, b ≠ 125 → h.get? b = some o → H.get? b = some o
  tab : ∃ p125, H.get? 125 = some (tabObj p125) ∧ TriplesOk p125.toList ∧ ∀ p v, codeAmong p p125.toList = some v → codeAmong p q125.toList = some v ∨ (H.CodeRec v kQ ∧ ClsCode H v)
  cls : ∃ NS DD slots td kvs f1 f2 o1 o2 fd1 fd2, H.get? C = some ⟨.type "type", none, .cls { name := S "K", bases := [.type "object"], mro := [.ref C, .type "object"], ns := NS, qualname := kQ, hasDict := false, slotNames := [S "obj"] }, slots⟩ ∧ (slots.toList[4]?).join = some (.builtin "object.__new__") ∧
    NsL H NS kvs ∧ getL (S "obj") kvs = some (.ref DD) ∧ getL (S "__init__") kvs = some (.ref f1) ∧ getL (S "__lt__") kvs = some (.ref f2) ∧ (∀ n, n ∉ [S "__module__", S "__firstlineno__", S "__slots__", S "__init__", S "__lt__", S "__gt__", S "__eq__", S "__le__", S "__ge__", S "__hash__", S "__static_attributes__", S "obj", S "__doc__"] → getL n kvs = none) ∧
    H.get? DD = some ⟨.type "member_descriptor", none, .fields #[.str (S "obj") td, .ref C, .builtin "proto.slot", .builtin "proto.slot#set", .int 0 0], #[]⟩ ∧
    H.get? f1 = some o1 ∧ o1.cls = .type "function" ∧ o1.data = .func fd1 ∧ P1 fd1 ∧ H.CodeRec fd1.code fd1.qualname ∧ H.get? f2 = some o2 ∧ o2.cls = .type "function" ∧ o2.data = .func fd2 ∧ P2 fd2 ∧ H.CodeRec fd2.code fd2.qualname ∧
    h.get? C = none ∧ h.get? NS = none ∧ h.get? DD = none

theorem bc {env : Env} {c0 : Addr} {q125 : Array Value} {body : List Stmt} {scope : Scope} {statics : List Str} {pos : Pos} {clos : List (Str × Addr)} {mg : Str → Option Value} {vn : Value} {Q : Value → Shared → Prop}
    (hgl : env.globals = mainGlobals) (hcode : env.code = .ref c0) (hC : CodeHd h c0 125) (h125 : h.get? 125 = some (tabObj q125)) (ht : TriplesOk q125.toList) (h175 : ∃ o, h.get? 175 = some o)
    (hcase : codeAmong pos q125.toList = none ∨ ∃ cv, codeAmong pos q125.toList = some cv ∧ ClsCode h cv)
    (hg : ∀ h' : Heap, (∀ b o, b ≠ 125 → h.get? b = some o → h'.get? b = some o) → h'.Ns mainGlobals mg ∧ h'.NoLimit ∧ ∀ P ps, h'.get? P = some (tabObj ps) → h'.BuiltinsAt mg P)
    (hname : mg (S "__name__") = some vn) (hcl : closureFor scope env = pure clos) (hsk : scope.kind = .class)
    (hnm : scope.names.lookup (S "__class__") = none ∧ scope.names.lookup (S "__classdict__") = none ∧ scope.names.lookup (S "__name__") = none ∧ scope.names.lookup (S "__module__") = some .local ∧ scope.names.lookup (S "__qualname__") = none ∧ scope.names.lookup (S "__firstlineno__") = none ∧ scope.names.lookup (S "__static_attributes__") = none)
    (hd : A.depth < recursionLimit) (h4 : 4 < h.objs.size) (hstat : statics = [S "obj"])
    (P1 P2 : FuncData → Prop) (hop : ∀ H : Heap, (∀ b o, b ≠ 125 → h.get? b = some o → H.get? b = some o) → ∀ C, Looks (model prog w) H (opaqueClassAbove (.ref C)) none)
    (hann : hasAnns body = false) (hdoc : docOf body = none)
    (hbody : ∀ nsA c P fr h' tk vm tq tf news recs, CB h nsA c P (kvs0 vm (.str kQ tq) (.int 176 tf)) [] kCodes news recs h' → wpAny (model prog w) ((A.mark none).deeper (bodyEnv scope nsA c fr clos)) (execs body (bodyEnv scope nsA c fr clos))
      (fun f s' => f = .next ∧ ∃ h'' tk' tm sl to n f o dn news' recs', s' = ⟨h'', g, d, tk', os⟩ ∧ BodyEnd h nsA c P tq tf news recs P1 P2 tm sl to n f o dn news' recs' h'') noE ⟨h', g, d, tk, os⟩)
    (hq : ∀ C H tk, KAt h q125 P1 P2 C H → Q (.ref C) ⟨H, g, d, tk, os⟩) :
    wpAny (model prog w) A (buildClass (S "K") kQ [.type "object"] [] body scope statics 176 env pos none) Q noE ⟨h, g, d, t, os⟩ := by
  unfold buildClass
  refine wpAny_bind (wpAny_newTuple ?_ (by show 1 ≤ _; rw [sizeLine_eq]; decide))
  have k1 : ∀ b o, h.get? b = some o → (h.push { cls := .type "tuple", data := .seq (List.toArray [Value.type "object"]) }).get? b = some o := fun b o e => Heap.get?_push_of_some _ e
  have hT1 : (h.push { cls := .type "tuple", data := .seq (List.toArray [Value.type "object"]) }).get? h.objs.size = some ⟨.type "tuple", none, .seq (List.toArray [Value.type "object"]) 0, #[]⟩ := Heap.get?_push_size _ rfl
  have hz1 : h.objs.size < (h.push { cls := .type "tuple", data := .seq (List.toArray [Value.type "object"]) }).objs.size := by rw [Heap.size_push]; exact Nat.lt_succ_self _
  show wpAny _ _ _ _ _ ⟨h.push { cls := .type "tuple", data := .seq (List.toArray [Value.type "object"]) }, g, d, t, os⟩
  generalize h.push { cls := .type "tuple", data := .seq (List.toArray [Value.type "object"]) } = H1 at k1 hT1 hz1 ⊢
  refine wpAny_bind (for_cons (wpAny_bind (wpAny_of_eq bc_ty (KFB.if_so rfl ?_))))
  refine ite_neg (by show ¬ (1 > 2 ^ 20); decide) (wpAny_pure (for_nil ?_))
  refine wpAny_bind (wpAny_of_eq tn_ty_o ?_)
  refine wpAny_bind (m := isType (.type "type")) (wpAny_of_eq pr_isType ?_)
  refine KFB.if_so rfl ?_
  refine wpAny_bind (for_cons (wpAny_bind (wpAny_of_eq tn_ty_o (wpAny_bind (wpAny_of_eq tn_yy (KFB.if_so rfl (wpAny_pure (for_nil ?_)))))))) 
  refine wpAny_bind (wpAny_mkText ?_)
  refine wpAny_bind (wpAny_pure (wpAny_holding ?_))
  refine wpAny_bind (get_prepare ?_)
  have k2 : ∀ b o, h.get? b = some o → (H1.push prBound).get? b = some o := fun b o e => Heap.get?_push_of_some _ (k1 b o e)
  have hT2 := Heap.get?_push_of_some prBound hT1
  have hz2 : h.objs.size < (H1.push prBound).objs.size := by rw [Heap.size_push]; exact Nat.lt_succ_of_lt hz1
  refine wpAny_bind (call_prepare (h := H1.push prBound) (b := H1.objs.size) (Heap.get?_push_size _ rfl) ?_)
  have k3 : ∀ b o, h.get? b = some o → ((H1.push prBound).push ⟨.type "dict", none, .dict #[] 0, #[]⟩).get? b = some o := fun b o e => Heap.get?_push_of_some _ (k2 b o e)
  have hT3 := Heap.get?_push_of_some (⟨.type "dict", none, .dict #[] 0, #[]⟩ : Obj) hT2
  have hN3 : ((H1.push prBound).push ⟨.type "dict", none, .dict #[] 0, #[]⟩).get? (H1.push prBound).objs.size = some ⟨.type "dict", none, .dict #[] 0, #[]⟩ := Heap.get?_push_size _ rfl
  have hNn : h.get? (H1.push prBound).objs.size = none := by
    cases e : h.get? (H1.push prBound).objs.size with
    | none => rfl
    | some o => exact absurd (Heap.lt_size (k2 _ _ e)) (Nat.lt_irrefl _)
  have hlo : ((H1.push prBound).objs.size == sysModules) = false := by
    have e1 : sysModules = 1 := rfl
    rw [e1]
    simp only [beq_eq_false_iff_ne, ne_eq]
    intro q
    have hz2' : h.objs.size < (1 : Nat) := by rw [← q]; exact hz2
    have h4' : (4 : Nat) < h.objs.size := h4
    omega
  have hTne : h.objs.size ≠ (H1.push prBound).objs.size := Nat.ne_of_lt hz2
  generalize (H1.push prBound).objs.size = nsA at hN3 hNn hlo hTne ⊢
  generalize (H1.push prBound).push ⟨.type "dict", none, .dict #[] 0, #[]⟩ = H3 at k3 hT3 hN3 ⊢
  clear k2 hT2 hz2 k1 hT1 hz1
  refine wpAny_bind (m := notTheModulesDict _ nsA) ?_
  unfold notTheModulesDict
  refine KFB.if_not hlo (wpAny_pure ?_)
  refine wpAny_bind (m := specialOf (.ref nsA) (S "__getitem__")) (wpAny_bind (m := typeOf (.ref nsA)) (wpAny_typeOf (T := "dict") ⟨_, hN3, rfl⟩ (wpAny_of_eq bc_getitem ?_)))
  refine KFB.if_not rfl ?_
  refine wpAny_holding ?_
  refine KFB.if_not (by rw [hnm.1]; rfl) ?_
  refine wpAny_bind (wpAny_pure ?_)
  refine KFB.if_not (by rw [hnm.2.1]; rfl) ?_
  refine wpAny_bind (wpAny_pure ?_)
  have hA125 : nsA ≠ 125 := fun q => by rw [q, h125] at hNn; cases hNn
  refine wpAny_bind (cc_any hcode (hC.keeps k3) (k3 _ _ h125) ht (let ⟨o, e⟩ := h175; ⟨o, k3 _ _ e⟩) (hcase.imp id fun ⟨cv, e1, e2⟩ => ⟨cv, e1, e2.keeps k3⟩) fun c P ps p125 H4 tk4 hx hd4 hP4 htri hP1 hP7 hrec4 h1254 htri4 hmono htodo => ?_)
  have k4 : ∀ b o, b ≠ 125 → h.get? b = some o → H4.get? b = some o := fun b o hb e => hx b o hb (k3 b o e)
  have hT4 : H4.get? h.objs.size = some ⟨.type "tuple", none, .seq (List.toArray [Value.type "object"]) 0, #[]⟩ := hx _ _ (fun q => by
    have := Heap.lt_size h125
    rw [q] at this
    exact absurd this (Nat.lt_irrefl _)) hT3
  have hPn : H3.get? P = none → h.get? P = none := fun e1 => by
    cases e : h.get? P with
    | none => rfl
    | some o => rw [k3 _ _ e] at e1; cases e1
  have B4 : CB h nsA c P [] [] kCodes [(h.objs.size, ⟨.type "tuple", none, .seq (List.toArray [Value.type "object"]) 0, #[]⟩), (125, tabObj p125)] [(.ref c, kQ)] H4 := by
    refine ⟨k4, ⟨⟨[], 0, hx _ _ hA125 hN3, .nil⟩⟩, hNn, hd4, ⟨ps, hP4, htri, by simp, fun p hp => (htodo p hp).imp (fun ⟨e1, e2⟩ => ⟨hPn e1, e2⟩) id⟩, fun p hp => ?_, fun p hp => ?_, hP1, hA125⟩
    · simp only [List.mem_cons, List.not_mem_nil, or_false] at hp
      rcases hp with rfl | rfl
      · refine ⟨hT4, hTne, fun q => ?_⟩
        have q' : h.objs.size = P := q
        rw [q', hP4] at hT4; cases hT4
      · exact ⟨h1254, hA125.symm, hP1.symm⟩
    · simp only [List.mem_cons, List.not_mem_nil, or_false] at hp
      subst hp; exact hrec4
  clear hT4 hN3 hT3 hd4 hP4 htri hrec4 h1254 htodo
  obtain ⟨G1, G2, G3⟩ := hg H4 k4
  obtain ⟨ps4, t4, _⟩ := B4.tab
  obtain ⟨bm, ob, b1, b2, b3, b4, b5, b6, b7, b8⟩ := G3 P _ t4
  refine wpAny_bind ?_
  rw [hgl]
  refine wpAny_builtinsFor (s := ⟨H4, g, d, tk4, os⟩) G1 b1 b2 b5 b6 b7 b8 ?_
  refine wpAny_bind (m := newBodyFrame (.ref c) mainGlobals nsA builtinsNs) ?_
  unfold newBodyFrame
  refine wpAny_bind (wpAny_nsGet (s := ⟨H4, g, d, tk4, os⟩) G1 (wpAny_alloc' ?_))
  have B5 := B4.push ({ cls := .type "frame", slots := #[some (.ref c), some (.ref mainGlobals), some (.ref nsA), none, some ((mg "__name__").getD .none), none, some (.ref builtinsNs)] } : Obj) rfl
  show wpAny _ _ _ _ _ ⟨H4.push ({ cls := .type "frame", slots := #[some (.ref c), some (.ref mainGlobals), some (.ref nsA), none, some ((mg "__name__").getD .none), none, some (.ref builtinsNs)] } : Obj), g, d, tk4, os⟩
  generalize H4.push ({ cls := .type "frame", slots := #[some (.ref c), some (.ref mainGlobals), some (.ref nsA), none, some ((mg "__name__").getD .none), none, some (.ref builtinsNs)] } : Obj) = H5 at B5 ⊢
  generalize H4.objs.size = fr at B5 ⊢
  clear B4 G1 G2 G3
  refine wpAny_bind (wpAny_of_eq hcl ?_)
  have ck : ∀ n : Str, (bodyEnv scope nsA c fr clos).kindOf n = scope.names.lookup n := fun n => rfl
  show wpAny _ _ (holding [.ref fr] _) _ _ _
  refine wpAny_holding ?_
  refine wpAny_bind (wpAny_enterFrame (s := ⟨H5, g, d, tk4, os⟩) (hg H5 B5.keep).2.1 hd ?_)
  refine wpAny_bind (wpAny_onRaise ?_)
  refine wpAny_bind (cb_load (env := bodyEnv scope nsA c fr clos) B5 hsk rfl rfl (hg H5 B5.keep).1 hname ((ck _).trans hnm.2.2.1) (by kernel_rfl) rfl ?_)
  refine wpAny_bind (cb_store (env := bodyEnv scope nsA c fr clos) B5 hsk rfl (.inl ((ck _).trans hnm.2.2.2.1)) fun H6 tk6 B6 => ?_)
  refine wpAny_bind (wpAny_mkText ?_)
  refine wpAny_bind (cb_store (env := bodyEnv scope nsA c fr clos) B6 hsk rfl (.inr ⟨(ck _).trans hnm.2.2.2.2.1, by kernel_rfl⟩) fun H7 tk7 B7 => ?_)
  refine wpAny_bind (wpAny_mkInt ?_)
  refine wpAny_bind (cb_store (env := bodyEnv scope nsA c fr clos) B7 hsk rfl (.inr ⟨(ck _).trans hnm.2.2.2.2.2.1, by kernel_rfl⟩) fun H8 tk8 B8 => ?_)
  refine wpAny_pure ?_
  replace B8 : CB h nsA c P (kvs0 vn (.str kQ tk6) (.int 176 tk7)) [] kCodes _ _ H8 := B8
  refine wpAny_bind (wpAny_run (codeAny_body hann hdoc (wpAny_mono (hbody nsA c P fr H8 tk8 vn tk6 tk7 _ _ B8) (fun f s' q => ?_) fun _ _ e => e.elim)))
  obtain ⟨rfl, H9, tk9, tm, sl, to, n, f, o, dn, news', recs', rfl, K⟩ := q
  refine wpAny_bind (wpAny_onRaise ?_)
  rw [hstat]
  refine wpAny_bind (wpAny_mkStrs fun vs => ?_)
  refine wpAny_bind (wpAny_newTextTuple ?_)
  have B10 := K.cb.push ({ cls := .type "tuple", data := .seq vs.toArray } : Obj) rfl
  show wpAny _ _ _ _ _ ⟨H9.push ({ cls := .type "tuple", data := .seq vs.toArray } : Obj), g, d, tk9 + [S "obj"].length, os⟩
  have hst9 : (H9.push ({ cls := .type "tuple", data := .seq vs.toArray } : Obj)).get? H9.objs.size = some ({ cls := .type "tuple", data := .seq vs.toArray } : Obj) := Heap.get?_push_size _ rfl
  refine wpAny_bind (cb_store (env := bodyEnv scope nsA c fr clos) B10 hsk rfl (.inr ⟨(ck _).trans hnm.2.2.2.2.2.2, by kernel_rfl⟩) fun H11 tk11 B11 => ?_)
  refine wpAny_pure ?_
  refine wpAny_bind (call_type3 fun E₂ Q₂ hQ₂ => ?_)
  have N11 : NsL H11 nsA [(S "__module__", .str (S "cpy313.functools") tm), (S "__qualname__", .str kQ tk6), (S "__firstlineno__", .int 176 tk7), (S "__slots__", .ref sl), (S "__init__", .ref (f 1)), (S "__lt__", .ref (f 2)), (S "__gt__", .ref (f 3)), (S "__eq__", .ref (f 4)), (S "__le__", .ref (f 5)), (S "__ge__", .ref (f 6)), (S "__hash__", .none), (S "__static_attributes__", .ref H9.objs.size)] := by
    have e : putL (S "__static_attributes__") (.ref H9.objs.size) (kvsF tm tk6 tk7 sl (f 1) (f 2) (f 3) (f 4) (f 5) (f 6)) = [(S "__module__", .str (S "cpy313.functools") tm), (S "__qualname__", .str kQ tk6), (S "__firstlineno__", .int 176 tk7), (S "__slots__", .ref sl), (S "__init__", .ref (f 1)), (S "__lt__", .ref (f 2)), (S "__gt__", .ref (f 3)), (S "__eq__", .ref (f 4)), (S "__le__", .ref (f 5)), (S "__ge__", .ref (f 6)), (S "__hash__", .none), (S "__static_attributes__", .ref H9.objs.size)] := by kernel_rfl
    rw [← e]; exact B11.ns
  have g11 : ∀ p ∈ news', H11.get? p.1 = some p.2 := fun p hp => (B11.new p (.tail _ hp)).1
  have hsl11 := g11 _ K.sl
  have hT11 := g11 (h.objs.size, ⟨.type "tuple", none, .seq (List.toArray [Value.type "object"]) 0, #[]⟩) (K.old _ (.tail _ (.head _)))
  refine type_new N11 hlo hsl11 hT11 (fun x hx => ?_) ⟨_, (B11.new _ (.head _)).1, rfl⟩ (fun C => hop H11 B11.keep C) (fun C NS DD H tk td slots n1 n2 n3 ne1 ne2 ne3 kk hC hsl4 hN hD => ?_)
  · have ff : ∀ i, 1 ≤ i → i ≤ 6 → ∃ o, H11.get? (f i) = some o ∧ o.cls = .type "function" := fun i h1 h6 => ⟨o i, g11 _ (K.fn i h1 h6).1, (K.fn i h1 h6).2⟩
    exact (List.forall_mem_cons.mpr ⟨ff 1 (by decide) (by decide), List.forall_mem_cons.mpr ⟨ff 2 (by decide) (by decide), List.forall_mem_cons.mpr ⟨ff 3 (by decide) (by decide),
      List.forall_mem_cons.mpr ⟨ff 4 (by decide) (by decide), List.forall_mem_cons.mpr ⟨ff 5 (by decide) (by decide), List.forall_mem_cons.mpr ⟨ff 6 (by decide) (by decide), fun _ h => nomatch h⟩⟩⟩⟩⟩⟩ : ∀ x ∈ [f 1, f 2, f 3, f 4, f 5, f 6], ∃ o, H11.get? x = some o ∧ o.cls = .type "function") x hx
  · refine hQ₂ C _ ⟨_, hC, rfl⟩ (wpAny_pure (hq C H tk ?_))
    have none0 : ∀ {a}, H11.get? a = none → a ≠ 125 → h.get? a = none := fun {a} e hb => by
      cases q : h.get? a with
      | none => rfl
      | some o => rw [B11.keep a o hb q] at e; cases e
    have h11_125 := g11 (125, tabObj p125) (K.old _ (.tail _ (.tail _ (.head _))))
    have n125 : ∀ {a}, H11.get? a = none → a ≠ 125 := fun {a} e q => by rw [q, h11_125] at e; cases e
    obtain ⟨fd1, e11, e12, e13⟩ := K.one
    obtain ⟨fd2, e21, e22, e23⟩ := K.two
    refine ⟨fun b o hb e => kk _ _ (B11.keep b o hb e), ⟨p125, kk _ _ h11_125, htri4, fun p v hv => ?_⟩, NS, DD, slots, td, _, f 1, f 2, o 1, o 2, fd1, fd2, hC, hsl4, hN, by kernel_rfl, by kernel_rfl, by kernel_rfl, fun n hn => ?_, hD, kk _ _ (g11 _ (K.fn 1 (by decide) (by decide)).1), (K.fn 1 (by decide) (by decide)).2, e11, e12, (B11.rc _ e13).keeps kk, kk _ _ (g11 _ (K.fn 2 (by decide) (by decide)).1), (K.fn 2 (by decide) (by decide)).2, e21, e22, (B11.rc _ e23).keeps kk, none0 n1 (n125 n1), none0 n2 (n125 n2), none0 n3 (n125 n3)⟩
    · rcases hmono p v hv with q | rfl
      · exact .inl q
      · right
        obtain ⟨ps', t1, t2, t3, _⟩ := B11.tab
        have hrc : H.CodeRec (.ref c) kQ := (B11.rc (.ref c, kQ) (K.oldR _ (.head _))).keeps kk
        exact ⟨hrc, c, P, ps', rfl, B11.hd.keeps kk, kk _ _ t1, t2, B11.P125, hP7, hrc, fun p hp => let ⟨cv, a1, a2⟩ := t3 p (K.dn p hp); ⟨cv, a1, a2.keeps kk⟩⟩
    · exact getL_notin hn
end
end
section
set_option Elab.async false
set_option maxRecDepth 100000
set_option linter.unusedVariables false
set_option maxHeartbeats 1000000
open PySem.Calls

/-! the class as a fragment -/
noncomputable def kNames : List Str := [S "__module__", S "__firstlineno__", S "__slots__", S "__init__", S "__lt__", S "__gt__", S "__eq__", S "__le__", S "__ge__", S "__hash__", S "__static_attributes__", S "obj", S "__doc__"]
structure KIn (K : Frag) (C DD f1 f2 : Addr) : Prop where
  cc : ∃ NS sl es ep kvs, K.lookup C = some ⟨.type "type", none, .cls { name := S "K", bases := [.type "object"], mro := [.ref C, .type "object"], ns := NS, qualname := kQ, hasDict := false, slotNames := [S "obj"] }, sl⟩ ∧ (sl.toList[4]?).join = some (.builtin "object.__new__") ∧
    K.lookup NS = some ⟨.type "dict", none, .dict (List.toArray es) ep, #[]⟩ ∧ EntL es kvs ∧ getL (S "obj") kvs = some (.ref DD) ∧ getL (S "__init__") kvs = some (.ref f1) ∧ getL (S "__lt__") kvs = some (.ref f2) ∧ ∀ n, n ∉ kNames → getL n kvs = none
  dd : ∃ td, K.lookup DD = some ⟨.type "member_descriptor", none, .fields #[.str (S "obj") td, .ref C, .builtin "proto.slot", .builtin "proto.slot#set", .int 0 0], #[]⟩
  f1 : ∃ o, K.lookup f1 = some o ∧ o.cls = .type "function"
  f2 : ∃ o, K.lookup f2 = some o ∧ o.cls = .type "function"

theorem look_ent {es : List DictEntry} {kvs : List (Str × Value)} (he : EntL es kvs) (n : Str) : (match es.find? (·.key.isStr n) with
      | some e => some (some e.val)
      | none => if es.any (·.refKey) then none else some none) = some (getL n kvs) := by
  have h1 := he.find (n := n)
  rw [← Array.find?_toList] at h1
  have hr : es.any (·.refKey) = false := by
    have : ∀ {es : List DictEntry} {kvs : List (Str × Value)}, EntL es kvs → es.any (·.refKey) = false := fun {es kvs} x => by
      induction x with
      | nil => rfl
      | cons r ih => rw [List.any_cons, ih]; rfl
    exact this he
  change (es.find? (·.key.isStr n)).map (·.val) = getL n kvs at h1
  rw [hr, ← h1]
  cases es.find? (·.key.isStr n) <;> rfl

section
variable {K : Frag} {C DD f1 f2 : Addr}
theorem KIn.own (k : KIn K C DD f1 f2) : ∃ kvs, (∀ n, ownIn K n (.ref C) = some (getL n kvs)) ∧ getL (S "obj") kvs = some (.ref DD) ∧ getL (S "__init__") kvs = some (.ref f1) ∧ getL (S "__lt__") kvs = some (.ref f2) ∧ ∀ n, n ∉ kNames → getL n kvs = none := by
  obtain ⟨NS, sl, es, ep, kvs, h1, h2, h3, h4, h5, h6, h7, h8⟩ := k.cc
  refine ⟨kvs, fun n => ?_, h5, h6, h7, h8⟩
  unfold ownIn
  dsimp only
  rw [h1]
  dsimp only
  unfold nsIn
  rw [h3]
  exact look_ent h4 n
theorem KIn.findO (k : KIn K C DD f1 f2) {n : Str} {r : Option Value} (hn : n ∉ kNames) (hO : fastBuiltinOwn "object" n = r) : findIn K (.ref C) n = some r := by
  obtain ⟨kvs, o1, _, _, _, o5⟩ := k.own
  obtain ⟨NS, sl, es, ep, kvs', h1, _⟩ := k.cc
  unfold findIn
  dsimp only
  rw [h1]
  dsimp only
  unfold alongIn
  rw [o1, o5 n hn]
  dsimp only
  unfold alongIn ownIn
  dsimp only
  rw [hO]
  cases r with
  | some v => rfl
  | none => rfl
theorem KIn.findOwn (k : KIn K C DD f1 f2) {n : Str} {v : Value} (h : ∀ kvs, getL (S "obj") kvs = some (.ref DD) → getL (S "__init__") kvs = some (.ref f1) → getL (S "__lt__") kvs = some (.ref f2) → getL n kvs = some v) : findIn K (.ref C) n = some (some v) := by
  obtain ⟨kvs, o1, o2, o3, o4, o5⟩ := k.own
  obtain ⟨NS, sl, es, ep, kvs', h1, _⟩ := k.cc
  unfold findIn
  dsimp only
  rw [h1]
  dsimp only
  unfold alongIn
  rw [o1, h kvs o2 o3 o4]
theorem KIn.obj (k : KIn K C DD f1 f2) : findIn K (.ref C) (S "obj") = some (some (.ref DD)) := k.findOwn fun _ h _ _ => h
theorem KIn.init (k : KIn K C DD f1 f2) : findIn K (.ref C) (S "__init__") = some (some (.ref f1)) := k.findOwn fun _ _ h _ => h
theorem KIn.lt (k : KIn K C DD f1 f2) : findIn K (.ref C) (S "__lt__") = some (some (.ref f2)) := k.findOwn fun _ _ _ h => h
theorem KIn.cd (k : KIn K C DD f1 f2) : ∃ NS, clsIn K C = some { name := S "K", bases := [.type "object"], mro := [.ref C, .type "object"], ns := NS, qualname := kQ, hasDict := false, slotNames := [S "obj"] } := by
  obtain ⟨NS, sl, es, ep, kvs', h1, _⟩ := k.cc
  exact ⟨NS, by unfold clsIn; rw [h1]⟩
theorem KIn.typD (k : KIn K C DD f1 f2) : typeIn K (.ref DD) = some (.type "member_descriptor") := by
  obtain ⟨td, h⟩ := k.dd
  unfold typeIn; dsimp only; rw [h]; rfl
theorem KIn.typC (k : KIn K C DD f1 f2) : typeIn K (.ref C) = some (.type "type") := by
  obtain ⟨NS, sl, es, ep, kvs', h1, _⟩ := k.cc
  unfold typeIn; dsimp only; rw [h1]; rfl
theorem KIn.typ1 (k : KIn K C DD f1 f2) : typeIn K (.ref f1) = some (.type "function") := by
  obtain ⟨o, h, c⟩ := k.f1
  unfold typeIn; dsimp only; rw [h]; show some o.cls = _; rw [c]
theorem KIn.typ2 (k : KIn K C DD f1 f2) : typeIn K (.ref f2) = some (.type "function") := by
  obtain ⟨o, h, c⟩ := k.f2
  unfold typeIn; dsimp only; rw [h]; show some o.cls = _; rw [c]
theorem KIn.getD (k : KIn K C DD f1 f2) : specialIn K (.ref DD) "__get__" = some (some (.builtin "member_descriptor.__get__")) := by
  unfold specialIn; rw [k.typD]; show findIn K (.type "member_descriptor") _ = _; exact (by kernel_rfl : fastLookup "member_descriptor" "__get__" = some (some (.builtin "member_descriptor.__get__")))
theorem KIn.takes (k : KIn K C DD f1 f2) : takesIn K (.ref DD) = some true := by
  have e : specialIn K (.ref DD) "__set__" = some (some (.builtin "member_descriptor.__set__")) := by
    unfold specialIn; rw [k.typD]; show findIn K (.type "member_descriptor") _ = _; exact (by kernel_rfl : fastLookup "member_descriptor" "__set__" = some (some (.builtin "member_descriptor.__set__")))
  unfold takesIn; rw [e]
theorem KIn.slot (k : KIn K C DD f1 f2) : slotIn K DD C = some 0 := by
  obtain ⟨td, h⟩ := k.dd
  obtain ⟨NS, hc⟩ := k.cd
  unfold slotIn recIn
  rw [h, hc]
  simp
theorem KIn.taker (k : KIn K C DD f1 f2) : takerIn K C (S "obj") = some (some (.ref DD)) := by
  unfold takerIn; rw [k.obj]; show (takesIn K (.ref DD)).map _ = _; rw [k.takes]; rfl
theorem KIn.plain (k : KIn K C DD f1 f2) : plainOver K C = true := by
  obtain ⟨NS, hc⟩ := k.cd
  unfold plainOver; rw [hc]; rfl
theorem KIn.isCls (k : KIn K C DD f1 f2) : isClsIn K C = true := by
  obtain ⟨NS, hc⟩ := k.cd
  unfold isClsIn; rw [hc]; rfl
theorem KIn.makes (k : KIn K C DD f1 f2) : makesIn K C = true := by
  obtain ⟨NS, sl, es, ep, kvs', h1, h2, _⟩ := k.cc
  unfold makesIn
  rw [h1]
  dsimp only
  rw [h2]
  have e1 : specialIn K (.ref C) "__call__" = some (some (.builtin "type.__call__")) := by
    unfold specialIn; rw [k.typC]; show findIn K (.type "type") _ = _; exact (by kernel_rfl : fastLookup "type" "__call__" = some (some (.builtin "type.__call__")))
  have e2 : instIn K (.ref C) (.type "type") = some true := by
    unfold instIn; rw [k.typC]; show subIn K (.type "type") _ = _; exact (by kernel_rfl : (fastBuiltinMro "type").map (·.contains (.type "type")) = some true)
  rw [e1, e2]
  simp
theorem KIn.ga (k : KIn K C DD f1 f2) : findIn K (.ref C) "__getattribute__" = some (some (.builtin "object.__getattribute__")) := k.findO (by decide +kernel) (by kernel_rfl)
theorem KIn.gattr (k : KIn K C DD f1 f2) : findIn K (.ref C) "__getattr__" = some none := k.findO (by decide +kernel) (by kernel_rfl)
theorem KIn.sattr (k : KIn K C DD f1 f2) : findIn K (.ref C) "__setattr__" = some (some (.builtin "object.__setattr__")) := k.findO (by decide +kernel) (by kernel_rfl)
end
end
section
set_option Elab.async false
set_option maxRecDepth 100000
set_option linter.unusedVariables false
set_option maxHeartbeats 1000000
open PySem.Calls

/-! a call of a function with a closure -/
noncomputable abbrev closFm (fd : FuncData) (f L : Addr) (O : List Addr) (s : Shared) : Fm :=
  { env := newEnv fd.scope L fd.globals fd.closure (fd.qualname ++ ".<locals>.") (some f) fd.code none fd.builtins, O := O, W := [], base := s, kp := fun _ => True, ok := fun _ => True }
noncomputable def ClosOk (fd : FuncData) (O : List Addr) (h : Heap) (ρc : List (Str × D)) : Prop :=
  ∀ p ∈ ρc, fd.scope.names.lookup p.1 = some .free ∧ (p.1 == ("__classdict__" : Str)) = false ∧ ∃ c v, fd.closure.lookup p.1 = some c ∧ h.IsCell c (some v) ∧ Rep O h p.2 v
theorem lookup_of_nd : ∀ {l : List (Str × Value)} {x : Str} {v : Value}, (l.map (·.1)).Nodup → (x, v) ∈ l → l.lookup x = some v
  | (y, u) :: r, x, v, hn, hm => by
    simp only [List.map_cons, List.nodup_cons] at hn
    rw [List.lookup_cons]
    rcases List.mem_cons.mp hm with e | hm
    · cases e; simp
    · have : (x == y) = false := by
        cases e : x == y with
        | false => rfl
        | true => exact absurd (List.mem_map.mpr ⟨(x, v), hm, beq_iff_eq.mp e⟩) hn.1
      rw [this]
      exact lookup_of_nd hn.2 hm
noncomputable def Grown (s s₁ : Shared) : Prop := ∃ h₁ tk, s₁ = { s with heap := h₁, toks := tk } ∧ ∀ b o, s.heap.get? b = some o → h₁.get? b = some o
theorem Grown.keep {s s₁ : Shared} (x : Grown s s₁) : ∀ b o, s.heap.get? b = some o → s₁.heap.get? b = some o := by obtain ⟨h, tk, rfl, k⟩ := x; exact k
section
variable {prog : Program} {w : World} {A : Around} {G : GData} {s : Shared} {O : List Addr}
theorem newEnv_inv {fd : FuncData} {f : Addr} {binds : List (Str × Value)} {ρ ρc : List (Str × D)} {Q : Env → Shared → Prop} (g : GI G s) (hO : OkO O s.heap) (hgl : fd.globals = mainGlobals) (hbl : fd.builtins = builtinsNs)
    (hb : BindsOk O s.heap binds ρ) (hc : ClosOk fd O s.heap ρc) (hnd : ((ρ ++ ρc).map (·.1)).Nodup) (hkind : ∀ x ∈ ρ, fd.scope.names.lookup x.1 = some .local) (hcell : ∀ x ∈ fd.scope.names, x.2 ≠ .cell)
    (hap : fd.closure.Pairwise fun x y => x.2 ≠ y.2) (hk : fd.scope.kind = .function)
    (h : ∀ s₁, Grown s s₁ → Inv G (closFm fd f s.heap.objs.size O s) (ρ ++ ρc) [] s₁ → Q (closFm fd f s.heap.objs.size O s).env s₁) :
    wpAny (model prog w) A (newFunctionEnv fd.scope fd.globals fd.closure binds (fd.qualname ++ ".<locals>.") (some f) fd.code none fd.builtins) Q noE s := by
  have hkeys := hb.keys
  refine wpAny_newFunctionEnv hcell (fun x hx => ?_) (fun h₁ hns hsb => ?_) hk
  · have hx' : x.1 ∈ ρ.map (·.1) := by rw [← hkeys]; exact List.mem_map_of_mem hx
    obtain ⟨p, hp, e⟩ := List.mem_map.mp hx'
    rw [← e]; exact hkind p hp
  · have hfresh : s.heap.get? s.heap.objs.size = none := get?_size _
    have old : ∀ b o, s.heap.get? b = some o → h₁.get? b = some o := fun b o e =>
      hsb.extBut b o (fun q => by rw [q, hfresh] at e; cases e) (Heap.get?_push_of_some _ e)
    have hst : Step s { s with heap := h₁, toks := s.toks + binds.length } := Step.of_keeps old
    have hbn : (binds.map (·.1)).Nodup := by
      rw [hkeys]; rw [List.map_append] at hnd; exact (List.nodup_append.mp hnd).1
    refine h _ ⟨_, _, rfl, old⟩ { step := hst, gb := g, okO := hO.step g hst, kind := hk, glob := hgl, blt := hbl, ns := ⟨_, hns⟩, new := hfresh, offTab := fresh_offTab g.tab hfresh, nd := hnd, vars := fun p hp => ?_, W := by simp, apart := hap, own := by simp, ownNd := by simp, kpGo := fun _ _ _ _ => trivial, kpBut := fun _ _ _ _ _ _ _ => trivial, kp := trivial, okL := trivial, okW := fun _ _ => trivial, okOwn := by simp }
    rcases List.mem_append.mp hp with hp | hp
    · obtain ⟨v, h1, h2⟩ := hb.mem p hp
      refine ⟨v, .inl ⟨hkind p hp, _, hns, ?_⟩, h2.step hO hst⟩
      exact lookup_of_nd (by rw [List.map_reverse]; exact (List.reverse_perm _).nodup_iff.mpr hbn) (List.mem_reverse.mpr h1)
    · obtain ⟨k1, k2, c, v, k3, ⟨o, k4, k5⟩, k6⟩ := hc p hp
      exact ⟨v, .inr ⟨.inr ⟨k1, k2⟩, c, k3, o, old _ _ k4, k5⟩, k6.step hO hst⟩

theorem enterS {f : Addr} {o : Obj} {fd : FuncData} {body : List Stmt} {args : Args} {binds : List (Str × Value)} {ρ ρc : List (Str × D)} {R : Result → Shared → Prop} (hroom : A.depth < recursionLimit)
    (hf : s.heap.get? f = some o) (hd : o.data = .func fd) (hcd : s.heap.CodeRec fd.code fd.qualname) (hbody : fd.body = .stmts body) (hgl : fd.globals = mainGlobals) (hbl : fd.builtins = builtinsNs)
    (g : GI G s) (hO : OkO O s.heap) (hbind : wpAny (model prog w) A.in1 (bindArgs fd args) (fun bs s₁ => bs = binds ∧ s₁ = s) noE s)
    (hb : BindsOk O s.heap binds ρ) (hc : ClosOk fd O s.heap ρc) (hnd : ((ρ ++ ρc).map (·.1)).Nodup) (hkind : ∀ x ∈ ρ, fd.scope.names.lookup x.1 = some .local) (hcell : ∀ x ∈ fd.scope.names, x.2 ≠ .cell)
    (hap : fd.closure.Pairwise fun x y => x.2 ≠ y.2) (hk : fd.scope.kind = .function) (hco : fd.scope.isCoroutine = false) (hgen : fd.scope.isGenerator = false)
    (h : ∀ s₁, Grown s s₁ → Inv G (closFm fd f s.heap.objs.size O s) (ρ ++ ρc) [] s₁ → wpAny (model prog w) (A.deeper (closFm fd f s.heap.objs.size O s).env) (execs body (closFm fd f s.heap.objs.size O s).env)
      (fun fl s' => R (.ok (.ret (match fl with | .ret v => v | _ => .none))) s') noE s₁) :
    codeAny (model prog w) A (.call (.ref f) args) R s := by
  refine codeAny_call_function hroom hf hd hco hgen hbody hcd (wpAny_mono hbind (fun bs s₁ e => ?_) fun _ _ e => e.elim)
  obtain ⟨rfl, rfl⟩ := e
  refine wpAny_mono (newEnv_inv (Q := fun env s₂ => s₂.heap.NoLimit ∧ codeAny (model prog w) A (.func body env) R s₂) g hO hgl hbl hb hc hnd hkind hcell hap hk fun s₂ old I => ⟨G.nolimit.keeps fun b o e => old.keep b o (g.keep b o e), codeAny_func (wpAny_mono (h s₂ old I) (fun _ _ q => q) fun _ _ e => e.elim)⟩) (fun _ _ q => q) fun _ _ e => e.elim
theorem enterE {f : Addr} {o : Obj} {fd : FuncData} {body : Expr} {args : Args} {binds : List (Str × Value)} {ρ ρc : List (Str × D)} {R : Result → Shared → Prop} (hroom : A.depth < recursionLimit)
    (hf : s.heap.get? f = some o) (hd : o.data = .func fd) (hcd : s.heap.CodeRec fd.code fd.qualname) (hbody : fd.body = .expr body) (hgl : fd.globals = mainGlobals) (hbl : fd.builtins = builtinsNs)
    (g : GI G s) (hO : OkO O s.heap) (hbind : wpAny (model prog w) A.in1 (bindArgs fd args) (fun bs s₁ => bs = binds ∧ s₁ = s) noE s)
    (hb : BindsOk O s.heap binds ρ) (hc : ClosOk fd O s.heap ρc) (hnd : ((ρ ++ ρc).map (·.1)).Nodup) (hkind : ∀ x ∈ ρ, fd.scope.names.lookup x.1 = some .local) (hcell : ∀ x ∈ fd.scope.names, x.2 ≠ .cell)
    (hap : fd.closure.Pairwise fun x y => x.2 ≠ y.2) (hk : fd.scope.kind = .function) (hco : fd.scope.isCoroutine = false) (hgen : fd.scope.isGenerator = false)
    (h : ∀ s₁, Grown s s₁ → Inv G (closFm fd f s.heap.objs.size O s) (ρ ++ ρc) [] s₁ → wpAny (model prog w) (A.deeper (closFm fd f s.heap.objs.size O s).env) (eval body (closFm fd f s.heap.objs.size O s).env)
      (fun v s' => R (.ok (.ret v)) s') noE s₁) :
    codeAny (model prog w) A (.call (.ref f) args) R s := by
  refine kla_callFunE hroom hf hd hco hgen hbody hcd (wpAny_mono hbind (fun bs s₁ e => ?_) fun _ _ e => e.elim)
  obtain ⟨rfl, rfl⟩ := e
  refine wpAny_mono (newEnv_inv (Q := fun env s₂ => s₂.heap.NoLimit ∧ codeAny (model prog w) A (.expr body env) R s₂) g hO hgl hbl hb hc hnd hkind hcell hap hk fun s₂ old I => ⟨G.nolimit.keeps fun b o e => old.keep b o (g.keep b o e), kla_codeExpr (wpAny_mono (h s₂ old I) (fun _ _ q => q) fun _ _ e => e.elim)⟩) (fun _ _ q => q) fun _ _ e => e.elim
end
end
section
set_option Elab.async false
set_option maxRecDepth 100000
set_option linter.unusedVariables false
set_option maxHeartbeats 1000000
open PySem.Calls Builtin Builtin.Getset_descriptor

/-! the class in a heap, and its instances -/
structure KHas (h : Heap) (K : Frag) (C DD f1 f2 : Addr) : Prop where
  inn : K.In h
  k : KIn K C DD f1 f2
  off : ∀ a ∈ tabs, K.lookup a = none
theorem KHas.step {s s' : Shared} {K : Frag} {C DD f1 f2 : Addr} (x : KHas s.heap K C DD f1 f2) (st : Step s s') : KHas s'.heap K C DD f1 f2 :=
  ⟨fun a o e => st.keep a o (fun q => by rw [x.off a q] at e; cases e) (x.inn a o e), x.k, x.off⟩
noncomputable abbrev instK (C dx : Addr) (v : Value) : Obj := { cls := .ref C, dict := some dx, data := .plain, slots := #[some v] }
structure InstK (h : Heap) (x C dx : Addr) (v : Value) : Prop where
  x : h.get? x = some (instK C dx v)
  d : h.get? dx = some emptyDict
theorem InstK.step {s s' : Shared} {x C dx : Addr} {v : Value} (i : InstK s.heap x C dx v) (t : TabOk s.heap) (st : Step s s') : InstK s'.heap x C dx v := by
  refine ⟨st.keep _ _ (fun q => ?_) i.x, st.keep _ _ (fun q => ?_) i.d⟩
  · obtain ⟨ps, e, _⟩ := t _ q; rw [i.x] at e; cases e
  · obtain ⟨ps, e, _⟩ := t _ q; rw [i.d] at e; cases e
theorem InstK.at {h : Heap} {x C dx : Addr} {v : Value} (i : InstK h x C dx v) : InstAt h x (instK C dx v) C (some emptyDict) := ⟨i.x, rfl, rfl, i.d⟩

section
variable {prog : Program} {w : World} {A : Around} {E : Value → Shared → Prop} {s : Shared} {K : Frag} {C DD f1 f2 x dx : Addr} {v : Value} {expr : Bool} {Q : Value → Shared → Prop} {R : Result → Shared → Prop}

theorem KIn.findObj (k : KIn K C DD f1 f2) {od : Option Obj} : PySem.W.findObj K C od (S "obj") = some (.bind (.builtin "member_descriptor.__get__") (.ref DD)) := by
  obtain ⟨NS, hc⟩ := k.cd
  unfold PySem.W.findObj
  rw [hc, Option.bind_some, k.obj, Option.bind_some]
  dsimp only
  rw [k.getD, Option.bind_some]
  dsimp only
  rw [k.takes, Option.bind_some]

theorem get_obj (X : KHas s.heap K C DD f1 f2) (I : InstK s.heap x C dx v) (hh : handedIn v = true) (h : Q v { s with toks := s.toks + 1 }) : wpAny (model prog w) A (getAttr (.ref x) (S "obj") expr) Q E s := by
  refine get_bind X.inn I.at X.k.ga X.k.findObj X.k.gattr (wpAny_call ?_)
  refine slot_get (s := { s with toks := s.toks + 1 }) X.inn I.at X.k.slot rfl ?_
  show wpAny _ _ (handedOut v) Q E _
  rw [handedOut_of hh]; exact wpAny_pure h

theorem slot_put {ox ox' : Obj} {od : Option Obj} {p i : Nat} (X : K.In s.heap) (I : InstAt s.heap x ox C od)
    (hp : slotIn K p C = some i) (hi : i < 1000) (e : { ox with slots := (ox.slots ++ Array.replicate (i + 1 - ox.slots.size) none).setIfInBounds i (some v) } = ox') (hf : ox'.isFreed = false)
    (h : ∀ h', h'.get? x = some ox' → Heap.SameBut x s.heap h' → R (.ok (.ret .none)) { s with heap := h' }) :
    codeAny (model prog w) A (.call (.builtin "member_descriptor.__set__") ⟨[.ref p, .ref x, v], []⟩) R s := by
  obtain ⟨n, tn, owner, behind, tb, d, sl, cd, ho, hc, hm, hb, rfl⟩ := slot_of X hp
  obtain ⟨hh, g, dr, t, os⟩ := s
  have L0 := I.type (M := model prog w)
  have L1 := looks_mroIn (M := model prog w) X hm
  have L2 : Looks (model prog w) hh (Slots.slotNamesOf (.ref C)) cd.slotNames := (looks_clsIn X hc).andThen .now
  have hx := I.at_
  dsimp only at ho hx L0 L1
  have f0 := looks_field (M := model prog w) ho 0 (v := .str n tn) rfl
  have f1 := looks_field (M := model prog w) ho 1 (v := owner) rfl
  have f3 := looks_field (M := model prog w) ho 3 (v := .builtin "proto.slot#set") rfl
  have f4 := looks_field (M := model prog w) ho 4 (v := .int behind tb) rfl
  refine codeAny_call_builtin KF.slot_mset.plain KF.entry_mset (KF.slot_mset.check _ _ _ _ _ _ _ _ ⟨_, ho, rfl⟩ (KF.args_mset _ _ _) ?_)
  unfold Builtin.«member_descriptor.__set__» descrSet descrStoreThrough descrCheckInstance descrNameAndClass isInstance
  have f5 : Looks (model prog w) hh (descrItself (.ref p)) [.ref p] := ((Looks.ld (part := none) ho).andThen .now).andThen (Looks.of_pure (by kernel_rfl))
  repeat lk
  refine ⟨Code.quiet_builtin _ (by decide +kernel), codeAny_builtin KF.entry_slotset ?_⟩
  unfold Builtin.«proto.slot#set» Slots.target
  repeat lk
  rw [if_neg hb]
  refine wpAny_pure (wpAny_bind ?_)
  unfold setSlotAt
  dsimp only
  rw [if_neg (by rw [sizeLine_eq]; omega)]
  refine wpAny_updatePart hx (wpAny_pure (h _ ?_ (Heap.SameBut.update ..)))
  rw [Heap.get?_update_self _ hx (by rw [← e] at hf; exact hf), ← e]

theorem set_obj {Q : Unit → Shared → Prop} (X : KHas s.heap K C DD f1 f2) (hx : s.heap.get? x = some (instObj C dx)) (hd : s.heap.get? dx = some emptyDict)
    (h : ∀ h' tk, h'.get? x = some (instK C dx v) → Heap.SameBut x s.heap h' → Q () { s with heap := h', toks := tk }) : wpAny (model prog w) A (setAttr (.ref x) (S "obj") v) Q E s := by
  have I : InstAt s.heap x (instObj C dx) C (some emptyDict) := ⟨hx, rfl, rfl, hd⟩
  refine set_plain X.inn I X.k.sattr ?_
  refine osa_descr (s := { s with toks := s.toks + 1 }) KF.slot_mset X.inn I X.k.plain X.k.taker X.k.typD ?_
  refine slot_put (s := { s with toks := s.toks + 1 }) X.inn I X.k.slot (by decide) rfl rfl fun h' e1 e2 => ?_
  exact h h' _ e1 e2
end

section
variable {prog : Program} {w : World} {A : Around} {G : GData} {F : Fm} {ρ : List (Str × D)} {Cs : List (Addr × List D)} {K : Frag} {C DD f1 f2 x dx : Addr} {v : Value}
theorem Ev.slot {n : Str} {np ap : Pos} (hn : (n, .raw (.ref x)) ∈ ρ) (hX : KHas F.base.heap K C DD f1 f2) (hI : InstK F.base.heap x C dx v) (hh : handedIn v = true) (hd : (n == ("__debug__" : Str)) = false := by decide) :
    Ev prog w A G F ρ Cs (.Attribute (.Name n np) (S "obj") ap) (.raw v) := fun s I => by
  refine Attribute_name (wpAny_Name (I.load hn fun u r => ?_) hd)
  rw [Rep] at r; subst r
  refine get_obj (hX.step I.step) (hI.step I.gb.tab I.step) hh ⟨Step.toks, by rw [Rep]⟩

/-- what a call of the class's `__init__` does -/
noncomputable def InitOk (prog : Program) (w : World) (G : GData) (fd : FuncData) : Prop := ∀ (A : Around) (O : List Addr) (s : Shared) (f : Addr) (o : Obj) (K : Frag) (C DD f1 f2 x dx : Addr) (v : Value) (k : Nat),
  Room (k + 2) A → GI G s → OkO O s.heap → s.heap.get? f = some o → o.data = .func fd → s.heap.CodeRec fd.code fd.qualname → KHas s.heap K C DD f1 f2 → s.heap.get? x = some (instObj C dx) → s.heap.get? dx = some emptyDict →
  codeAny (model prog w) A (.call (.ref f) ⟨[.ref x, v], []⟩) (fun r s' => r = .ok (.ret .none) ∧ ∃ h' tk, s' = { s with heap := h', toks := tk } ∧ h'.get? x = some (instK C dx v) ∧ ∀ b o, b ≠ x → s.heap.get? b = some o → h'.get? b = some o) s

theorem initOk {fd : FuncData} {sn on : Str} {p1 p2 p3 p4 : Pos} (hbody : fd.body = .stmts [.Assign [.Attribute (.Name sn p1) (S "obj") p2] (.Name on p3) p4]) (hbind : ∀ a b, bindArgs fd ⟨[a, b], []⟩ = pure [(sn, a), (on, b)])
    (hgl : fd.globals = mainGlobals) (hbl : fd.builtins = builtinsNs) (hclo : fd.closure = []) (hsn : fd.scope.names.lookup sn = some .local) (hon : fd.scope.names.lookup on = some .local) (hne : sn ≠ on)
    (hcell : (fd.scope.names.all fun p => p.2 != .cell) = true) (hk : fd.scope.kind = .function) (hco : fd.scope.isCoroutine = false) (hgen : fd.scope.isGenerator = false) (h1 : (sn == ("__debug__" : Str)) = false) (h2 : (on == ("__debug__" : Str)) = false) : InitOk prog w G fd := by
  intro A O s f o K C DD f1 f2 x dx v k hr g hO ho hd hcd hX hx hdx
  refine enterS (O := O) (ρ := [(sn, .raw (.ref x)), (on, .raw v)]) (ρc := []) hr.depth ho hd hcd hbody hgl hbl g hO (by rw [hbind]; exact wpAny_pure ⟨rfl, rfl⟩) (.cons (by rw [Rep]) (.cons (by rw [Rep]) .nil)) (fun p hp => by simp at hp) (by simpa using hne)
    (fun p hp => ?_) (fun x hx => by simpa using List.all_eq_true.mp hcell x hx) (by rw [hclo]; exact .nil) hk hco hgen fun s₁ old I => ?_
  · simp only [List.mem_cons, List.not_mem_nil, or_false] at hp
    rcases hp with rfl | rfl
    · exact hsn
    · exact hon
  · refine wpAny_execs_cons (plainObj_wpAny_Assign_Attribute (wpAny_Name (I.load (x := on) (d := .raw v) (by simp) fun u r => ?_) h2) ?_)
    · rw [Rep] at r; subst r
      refine wpAny_Name (I.load (x := sn) (d := .raw (.ref x)) (by simp) fun u r => ?_) h1
      rw [Rep] at r; subst r
      have hX1 : KHas s₁.heap K C DD f1 f2 := ⟨fun a o e => old.keep a o (hX.inn a o e), hX.k, hX.off⟩
      refine set_obj hX1 (old.keep _ _ hx) (old.keep _ _ hdx) fun h' tk e1 e2 => wpAny_execs_nil ⟨rfl, ?_⟩
      obtain ⟨h₁, tk₁, rfl, k⟩ := old
      exact ⟨h', tk, rfl, e1, fun b o hb e => (e2.2 b hb).trans (k b o e)⟩
    · rfl

/-- what a call of the class's `__lt__` does -/
noncomputable def LtOk (prog : Program) (w : World) (G : GData) (cm : Addr) (fd : FuncData) : Prop := ∀ (A : Around) (O : List Addr) (s : Shared) (f : Addr) (o : Obj) (K : Frag) (C DD f1 f2 x dx y dy : Addr) (v1 v2 : Value) (fm : Addr) (om : Obj) (fdm : FuncData) (b : Bool) (k : Nat),
  Room (k + 2) A → GI G s → OkO O s.heap → s.heap.get? f = some o → o.data = .func fd → s.heap.CodeRec fd.code fd.qualname → KHas s.heap K C DD f1 f2 → InstK s.heap x C dx v1 → InstK s.heap y C dy v2 → handedIn v1 = true → handedIn v2 = true →
  s.heap.IsCell cm (some (.ref fm)) → s.heap.get? fm = some om → om.data = .func fdm →
  (∀ A' s', Room k A' → Step s s' → codeAny (model prog w) A' (.call (.ref fm) ⟨[v1, v2], []⟩) (fun r s'' => ∃ i t, r = .ok (.ret (.int i t)) ∧ decide (i < 0) = b ∧ Step s' s'') s') →
  codeAny (model prog w) A (.call (.ref f) ⟨[.ref x, .ref y], []⟩) (fun r s' => r = .ok (.ret (.bool b)) ∧ Step s s') s

theorem ltOk {cm : Addr} {fd : FuncData} {m a b : Str} {kk : Nat} {p0 p1 p2 p3 p4 p5 p6 p7 p8 : Pos} (hbody : fd.body = .stmts [.Return (some (.Compare (.Call (.Name m p0) [.Attribute (.Name a p1) (S "obj") p2, .Attribute (.Name b p3) (S "obj") p4] [] p5) [.Lt] [.Constant (.int 0) kk p6] p7)) p8])
    (hbind : ∀ u v, bindArgs fd ⟨[u, v], []⟩ = pure [(a, u), (b, v)])
    (hgl : fd.globals = mainGlobals) (hbl : fd.builtins = builtinsNs) (hclo : fd.closure = [(m, cm)]) (ha : fd.scope.names.lookup a = some .local) (hb : fd.scope.names.lookup b = some .local) (hm : fd.scope.names.lookup m = some .free)
    (hnd : ([a, b, m] : List Str).Nodup) (hcell : (fd.scope.names.all fun p => p.2 != .cell) = true) (hk : fd.scope.kind = .function) (hco : fd.scope.isCoroutine = false) (hgen : fd.scope.isGenerator = false)
    (h1 : (a == ("__debug__" : Str)) = false) (h2 : (b == ("__debug__" : Str)) = false) (h3 : (m == ("__debug__" : Str)) = false) (h4 : (m == ("__classdict__" : Str)) = false) : LtOk prog w G cm fd := by
  intro A O s f o K C DD f1 f2 x dx y dy v1 v2 fm om fdm bb k hr g hO ho hd hcd hX hx hy hv1 hv2 hcm hfm hdm hcall
  refine enterS (O := O) (ρ := [(a, .raw (.ref x)), (b, .raw (.ref y))]) (ρc := [(m, .raw (.ref fm))]) hr.depth ho hd hcd hbody hgl hbl g hO (by rw [hbind]; exact wpAny_pure ⟨rfl, rfl⟩) (.cons (by rw [Rep]) (.cons (by rw [Rep]) .nil)) (fun p hp => ?_) hnd
    (fun p hp => ?_) (fun x hx => by simpa using List.all_eq_true.mp hcell x hx) (by rw [hclo]; exact List.pairwise_singleton ..) hk hco hgen fun s₁ old I => ?_
  · simp only [List.mem_cons, List.not_mem_nil, or_false] at hp
    subst hp
    exact ⟨hm, h4, cm, _, by rw [hclo]; simp, hcm, by rw [Rep]⟩
  · simp only [List.mem_cons, List.not_mem_nil, or_false] at hp
    rcases hp with rfl | rfl
    · exact ha
    · exact hb
  · refine wpAny_execs_cons (wpAny_Return_some (wpAny_Compare1 (Call_ (wpAny_Name (I.load (x := m) (d := .raw (.ref fm)) (by simp) fun u r => ?_) h3) rfl) rfl))
    rw [Rep] at r; subst r
    have hst : Step s s₁ := I.step
    refine callWith_def hdm (wpAny_mono ((Evs.cons (Ev.slot (n := a) (x := x) (v := v1) (by simp) hX hx hv1 h1) (Evs.cons (Ev.slot (n := b) (x := y) (v := v2) (by simp) hX hy hv2 h2) Evs.nil)) s₁ p5 I) (fun vs s₂ q => ?_) fun _ _ e => e)
    obtain ⟨st, r⟩ := q
    obtain ⟨u1, u2, rfl, r1, r2⟩ := reps2 r
    rw [Rep] at r1 r2; subst r1 r2
    have t1 := I.gi.tab
    have hof : fm ∉ tabs := fun q => by
      obtain ⟨ps, e, _⟩ := g.tab _ q; rw [hfm] at e; cases e; cases hdm
    refine ⟨st.keep _ _ hof (hst.keep _ _ hof hfm), wpAny_call (codeAny_mono (hcall _ s₂ (hr.deeper.le (Nat.le_succ _)) (hst.trans st)) fun r s' q => ?_)⟩
    obtain ⟨i, t, rfl, hi, st'⟩ := q
    refine Ev.int (ρ := []) (C := []) (F := closFm fd f s.heap.objs.size O s) s' ((I.go (st.trans st')).less (by simp)) |> fun z => wpAny_mono z (fun u s₃ z => ?_) fun _ _ e => e
    obtain ⟨st₃, r⟩ := z
    have I₃ := (I.go (st.trans st')).go st₃
    refine wpAny_mono (cmp_lt (a := i) (b := 0) s₃ _ _ I₃.gi I₃.okO ⟨t, rfl⟩ r) (fun z s₄ q => ?_) fun _ _ e => e
    obtain ⟨st₄, rz⟩ := q
    rw [Rep] at rz; subst rz
    exact ⟨by rw [hi], hst.trans ((st.trans st').trans (st₃.trans st₄))⟩
end
end
local macro_rules | `(tactic| walk_at "mem") => `(tactic| first | with_reducible exact List.mem_cons_self | ((with_reducible refine' List.mem_cons_of_mem _ ?_); walk_at "mem"))
local macro_rules | `(tactic| walk_at "kind") => `(tactic| first | exact kind_of (by assumption) (by kernel_rfl) | (with_unfolding_all rfl))
local macro_rules | `(tactic| walk_at "put") => `(tactic| first | with_reducible exact PutTo.here | with_reducible exact PutTo.nil | ((with_reducible refine' PutTo.next ?h1 ?h2); (case h1 => decide); (case h2 => walk_at "put")))
local macro_rules | `(tactic| walk_at "op") => `(tactic| first
  | with_reducible (first | exact op_add | exact op_sub | exact cmp_le | exact cmp_eq | exact cmp_lt | exact cmp_ge | exact cmp_gt | exact cmp_ne | exact op_and | exact op_or | exact op_isub | exact is_type_same | exact is_type | exact isnot_none0)
  | ((with_reducible first | refine' is_none ?h1 | refine' isnot_none ?h1); (case h1 => rfl))
  | ((with_reducible refine' op_div ?h1 ?h2); (case h1 => decide); (case h2 => decide)) | ((with_reducible refine' op_mod ?h1); (case h1 => decide)))
local macro_rules | `(tactic| walk_at "gl") => `(tactic| first
  | ((with_reducible refine' Gr.blt ?h0 ?h1 ?h2); (case h2 => walk_at "mem"); (case h0 => assumption); (case h1 => walk_at "kind"))
  | (refine' Ev.glob ?h0 ?h1 ?h2; (case h2 => decide); (case h1 => walk_at "kind"); (case h0 => walk_at "glob")))
local macro_rules | `(tactic| walk_at "glob") => `(tactic| (refine Gr.glob (by assumption) ?_; walk_at "mem"))
local macro_rules | `(tactic| walk_at "evs") => `(tactic| first | with_reducible exact Evs.nil | ((with_reducible refine' Evs.cons ?h1 ?h2 ?h3); (case h1 => walk_at "ev"); (case h2 => walk_at "evs"); (case h3 => first | rfl | with_unfolding_all rfl)))
local macro_rules | `(tactic| walk_at "ev") => `(tactic| first
  | with_reducible (first | exact Ev.int | exact Ev.str | exact Ev.none | exact Ev.bool)
  | ((with_reducible refine' Ev.name ?h1 ?h2); (case h2 => decide); (case h1 => walk_at "mem"))
  | ((with_reducible refine' Ev.bin ?h1 ?h2 ?h3); (case h1 => walk_at "ev"); (case h2 => walk_at "ev"); (case h3 => walk_at "op"))
  | ((with_reducible refine' Ev.cmp ?h1 ?h2 ?h3 ?h4); (case h1 => walk_at "ev"); (case h2 => walk_at "ev"); (case h3 => walk_at "op"); (case h4 => with_unfolding_all rfl))
  | ((with_reducible refine' Ev.list ?h1 ?h2); (case h1 => walk_at "evs"); (case h2 => size_fits))
  | ((with_reducible refine' Ev.tuple ?h1 ?h2); (case h1 => walk_at "evs"); (case h2 => size_fits))
  | walk_at "gl")
local macro_rules | `(tactic| walk_at "tr") => `(tactic| first
  | ((with_reducible refine' Tr.cmp2 ?h1 ?h2 ?h3 ?h4 ?h5 ?h6); (case h1 => walk_at "ev"); (case h2 => walk_at "ev"); (case h3 => walk_at "ev"); (case h4 => walk_at "op"); (case h5 => walk_at "op"); (case h6 => with_unfolding_all rfl))
  | ((with_reducible refine' Tr.cmp ?h1 ?h2 ?h3 ?h4); (case h1 => walk_at "ev"); (case h2 => walk_at "ev"); (case h3 => walk_at "op"); (case h4 => with_unfolding_all rfl))
  | ((with_reducible refine' Tr.not ?h1); (case h1 => walk_at "tr"))
  | with_reducible exact Tr.andNil | with_reducible exact Tr.orNil
  | ((with_reducible refine' Tr.and ?h1 ?h2); (case h1 => walk_at "tr"); (case h2 => intro _; walk_at "tr"))
  | ((with_reducible refine' Tr.or ?h1 ?h2); (case h1 => walk_at "tr"); (case h2 => intro _; walk_at "tr"))
  | ((with_reducible refine' Tr.plain ?h1 ?h2 ?h3); (case h1 => walk_at "ev"); (case h2 => first | with_reducible exact truth_bool | with_reducible exact truth_int); (case h3 => intro _; first | rfl | with_unfolding_all rfl)))
section
section
variable {prog : Program} {w : World} {A : Around} {G : GData} {s : Shared} {O : List Addr}

theorem Ev.conv {F : Fm} {ρ : List (Str × D)} {C : List (Addr × List D)} {e : Expr} {b : Array UInt8} {t : Tok} (h : Ev prog w A G F ρ C e (.raw (.bytes b t))) : Ev prog w A G F ρ C e (.bytes b) := fun s I =>
  wpAny_mono (h s I) (fun v s' x => ⟨x.1, by have := x.2; rw [Rep] at this; subst this; exact rep_bytes⟩) fun _ _ e => e

theorem spec_truth (g : Gr w G) {k : Nat} (hr : Room (k + 1) A) (b : Bool) : CallOk prog w A G O (.ref 84) [.bool b] (.bool b) := by
  refine callOk_of fun s vs gi hO hR => ?_
  obtain ⟨v, rfl, h1⟩ := reps1 hR
  refine g.enter (f := 84) (binds := [(Str.ofString "x", v)]) (ρ := [(Str.ofString "x", .bool b)]) hr rfl rfl rfl (by dsimp only) (by kernel_rfl) rfl rfl rfl rfl rfl rfl gi hO (wpAny_pure ⟨rfl, rfl⟩) (.cons h1 .nil) (by kernel_rfl) ?_
  intro fd L s₁ hn I
  have hr' := hr.deeper (env := callEnvC fd L 84)
  refine x_assign I (Ev.callTyp (by walk_at "gl") (by walk_at "evs") (call_type rfl (by decide))) (put_of (s := s) hn (by kernel_rfl)) (by walk_at "put") fun s₂ I₂ => ?_
  refine x_if (b := true) I₂ ?_ (fun hb s₃ I₃ => ?_) (fun hb => absurd hb (by decide))
  · exact Tr.orF (by walk_at "tr") (Tr.orT (by walk_at "tr"))
  · refine x_ret I₃ (Ev.ite (c := b) (d := .bool b) (by walk_at "tr") (fun h => by subst h; walk_at "ev") (fun h => by subst h; walk_at "ev")) fun s' v I' r => ⟨v, rfl, I'.step, r⟩

theorem spec_buffer (g : Gr w G) {k : Nat} (hr : Room (k + 1) A) (b : Array UInt8) : CallOk prog w A G O (.ref 77) [.bytes b] (.bytes b) := by
  refine callOk_of fun s vs gi hO hR => ?_
  obtain ⟨v, rfl, h1⟩ := reps1 hR
  refine g.enter (f := 77) (binds := [(Str.ofString "data", v)]) (ρ := [(Str.ofString "data", .bytes b)]) hr rfl rfl rfl (by dsimp only) (by kernel_rfl) rfl rfl rfl rfl rfl rfl gi hO (wpAny_pure ⟨rfl, rfl⟩) (.cons h1 .nil) (by kernel_rfl) ?_
  intro fd L s₁ hn I
  refine x_assign I (Ev.callTyp (by walk_at "gl") (by walk_at "evs") (call_type rfl (by decide))) (put_of (s := s) hn (by kernel_rfl)) (by walk_at "put") fun s₂ I₂ => ?_
  refine x_if I₂ (by walk_at "tr") (fun hb s₃ I₃ => ?_) (fun hb => absurd hb (by decide))
  refine x_ret I₃ (by walk_at "ev") fun s' v I' r => ⟨v, rfl, I'.step, r⟩

theorem spec_ascii_buffer (g : Gr w G) {k : Nat} (hr : Room (k + 1) A) (b : Array UInt8) : CallOk prog w A G O (.ref 70) [.bytes b] (.bytes b) := by
  refine callOk_of fun s vs gi hO hR => ?_
  obtain ⟨v, rfl, h1⟩ := reps1 hR
  refine g.enter (f := 70) (binds := [(Str.ofString "data", v)]) (ρ := [(Str.ofString "data", .bytes b)]) hr rfl rfl rfl (by dsimp only) (by kernel_rfl) rfl rfl rfl rfl rfl rfl gi hO (wpAny_pure ⟨rfl, rfl⟩) (.cons h1 .nil) (by kernel_rfl) ?_
  intro fd L s₁ hn I
  refine x_assign I (Ev.callTyp (by walk_at "gl") (by walk_at "evs") (call_type rfl (by decide))) (put_of (s := s) hn (by kernel_rfl)) (by walk_at "put") fun s₂ I₂ => ?_
  refine x_if I₂ (by walk_at "tr") (fun hb => absurd hb (by decide)) (fun hb s₃ I₃ => ?_)
  refine x_nil ?_
  refine x_if I₃ (by walk_at "tr") (fun hb s₄ I₄ => ?_) (fun hb => absurd hb (by decide))
  refine x_ret I₄ (by walk_at "ev") fun s' v I' r => ⟨v, rfl, I'.step, r⟩
end
end
section
section
/-! bits -/
theorem bitOr_nat {x y : Int} (hx : 0 ≤ x) (hy : 0 ≤ y) : Builtin.bitOr x y = ((x.toNat ||| y.toNat : Nat) : Int) := by
  unfold Builtin.bitOr Builtin.bitAnd
  have h1 : decide (0 ≤ Builtin.bitNot x) = false := by unfold Builtin.bitNot; simp; (first | lia | omega)
  have h2 : decide (0 ≤ Builtin.bitNot y) = false := by unfold Builtin.bitNot; simp; (first | lia | omega)
  rw [h1, h2]
  have e1 : (Builtin.bitNot (Builtin.bitNot x)) = x := by unfold Builtin.bitNot; (first | lia | omega)
  have e2 : (Builtin.bitNot (Builtin.bitNot y)) = y := by unfold Builtin.bitNot; (first | lia | omega)
  simp only [e1, e2]
  unfold Builtin.bitNot; (first | lia | omega)
theorem bitOr_add {z y : Int} (k : Nat) (hz : 0 ≤ z) (hy : 0 ≤ y) (hlt : y < 2 ^ k) : Builtin.bitOr (z * 2 ^ k) y = z * 2 ^ k + y := by
  have hp : (0 : Int) ≤ 2 ^ k := Int.le_of_lt (kbt_pos k)
  rw [bitOr_nat (Int.mul_nonneg hz hp) hy]
  obtain ⟨a, rfl⟩ := Int.eq_ofNat_of_zero_le hz
  obtain ⟨b, rfl⟩ := Int.eq_ofNat_of_zero_le hy
  have e : ((a : Int) * 2 ^ k).toNat = a * 2 ^ k := by
    rw [← kbt_cast, ← Int.natCast_mul, Int.toNat_natCast]
  rw [e, Int.toNat_natCast]
  have hb : b < 2 ^ k := by rw [← kbt_cast] at hlt; exact Int.ofNat_lt.mp hlt
  have := Nat.shiftLeft_add_eq_or_of_lt hb a
  rw [Nat.shiftLeft_eq] at this
  rw [← this, ← kbt_cast]
  push_cast
  rfl
end

/-! the encoder -/
noncomputable def tb (i : Int) : Int := ((b64Tab.getD i.toNat 0).toNat : Int)
noncomputable def drain : Nat → List Int → Int → Int → List Int × Int × Int
  | 0, out, lc, lb => (out, lc, lb)
  | n + 1, out, lc, lb => if 6 ≤ lb then drain n (out ++ [tb (lc / 2 ^ (lb - 6).toNat % 64)]) lc (lb - 6) else (out, lc, lb)
noncomputable def encStep (st : List Int × Int × Int) (b : Int) : List Int × Int × Int :=
  let lc := (st.2.1 * 256 + b) % 65536
  if st.2.2 = 4 then (st.1 ++ [tb (lc / 64 % 64)] ++ [tb (lc % 64)], lc, 0)
  else if st.2.2 = 2 then (st.1 ++ [tb (lc / 16 % 64)], lc, 4)
  else (st.1 ++ [tb (lc / 4 % 64)], lc, 2)
noncomputable def encEnd (st : List Int × Int × Int) : List Int :=
  if st.2.2 = 2 then st.1 ++ [tb (st.2.1 % 4 * 16)] ++ [61] ++ [61] else if st.2.2 = 4 then st.1 ++ [tb (st.2.1 % 16 * 4)] ++ [61] else st.1
noncomputable def encode (bs : List Int) : List Int := encEnd (bs.foldl encStep ([], 0, 0))

theorem encStep_ok {st : List Int × Int × Int} {b : Int} (h1 : st.2.2 = 0 ∨ st.2.2 = 2 ∨ st.2.2 = 4) : ((encStep st b).2.2 = 0 ∨ (encStep st b).2.2 = 2 ∨ (encStep st b).2.2 = 4) ∧ 0 ≤ (encStep st b).2.1 ∧ (encStep st b).2.1 < 65536 := by
  unfold encStep
  dsimp only
  split
  · exact ⟨.inl rfl, by dsimp only; (first | lia | omega), by dsimp only; (first | lia | omega)⟩
  · split
    · exact ⟨.inr (.inr rfl), by dsimp only; (first | lia | omega), by dsimp only; (first | lia | omega)⟩
    · exact ⟨.inr (.inl rfl), by dsimp only; (first | lia | omega), by dsimp only; (first | lia | omega)⟩

section
variable {prog : Program} {w : World} {A : Around} {G : GData} {s : Shared} {O : List Addr}

theorem tab_get {i : Int} (h0 : 0 ≤ i) (h1 : i < 64) : b64Tab[i.toNat]? = some (b64Tab.getD i.toNat 0) := by
  have : i.toNat < b64Tab.size := by show i.toNat < 64; (first | lia | omega)
  simp [Array.getD, this]

/-- an item of the table -/
theorem ev_tab (g : Gr w G) {fd : FuncData} {L f : Addr} {F : Fm} {ρ : List (Str × D)} {C : List (Addr × List D)} {e : Expr} {p pos : Pos} {i : Int} (hF : F.env = callEnvC fd L f) (hk : (callEnvC fd L f).kindOf (Str.ofString "_B64") = some .globalImplicit)
    (he : Ev prog w A G F ρ C e (.int i)) (h0 : 0 ≤ i) (h1 : i < 64) : Ev prog w A G F ρ C (.Subscript (.Name (Str.ofString "_B64") p) e pos) (.int (tb i)) := by
  refine Ev.sub (Ev.conv (Ev.glob (Gr.g_B64 g) (by rw [hF]; exact hk))) he ?_
  exact sub_bytes (by decide) h0 (tab_get h0 h1)

noncomputable abbrev b2aRho (b : Array UInt8) (a : Addr) (lb lc : Int) (tl : List (Str × D)) : List (Str × D) :=
  (Str.ofString "data", .bytes b) :: (Str.ofString "newline", .bool false) :: (Str.ofString "bin_data", .bytes b) :: (Str.ofString "out", .raw (.ref a)) :: (Str.ofString "leftbits", .int lb) :: (Str.ofString "leftchar", .int lc) :: tl
noncomputable abbrev bTl (xs : List Int) : Nat → List (Str × D)
  | 0 => []
  | i + 1 => [(Str.ofString "b", .int (xs.getD i 0))]
theorem iters_bytesI {F : Fm} (hh : A.handled = none) {b : Array UInt8} : Iters prog w A G O (.bytes b) ((b.toList.map fun c => (c.toNat : Int)).map .int) := by
  have := iters_bytes (prog := prog) (w := w) (A := A) (G := G) (O := O) hh (b := b)
  rwa [List.map_map]

theorem shr_nat {x : Int} (hx : 0 ≤ x) (n : Nat) : x.fdiv (2 ^ n) = x / 2 ^ n := Int.fdiv_eq_ediv_of_nonneg _ (Int.le_of_lt (kbt_pos n))

theorem tb_range (i : Int) : 0 ≤ tb i ∧ tb i < 256 := by
  unfold tb
  have := (b64Tab.getD i.toNat 0).toNat_lt
  constructor <;> (first | lia | omega)
theorem encStep_range {st : List Int × Int × Int} {x : Int} (h : ∀ n ∈ st.1, 0 ≤ n ∧ n < 256) : ∀ n ∈ (encStep st x).1, 0 ≤ n ∧ n < 256 := by
  unfold encStep
  dsimp only
  intro n hn
  split at hn
  · simp only [List.append_assoc, List.mem_append, List.mem_singleton, List.mem_cons, List.not_mem_nil, or_false] at hn
    rcases hn with h' | rfl | rfl
    · exact h n h'
    · exact tb_range _
    · exact tb_range _
  · split at hn
    · simp only [List.mem_append, List.mem_singleton] at hn
      rcases hn with h' | rfl
      · exact h n h'
      · exact tb_range _
    · simp only [List.mem_append, List.mem_singleton] at hn
      rcases hn with h' | rfl
      · exact h n h'
      · exact tb_range _
theorem encFold_range : ∀ (xs : List Int) (st : List Int × Int × Int), (∀ n ∈ st.1, 0 ≤ n ∧ n < 256) → ∀ n ∈ (xs.foldl encStep st).1, 0 ≤ n ∧ n < 256
  | [], st, h => h
  | x :: xs, st, h => encFold_range xs (encStep st x) (encStep_range h)
theorem encode_range (xs : List Int) : ∀ n ∈ encode xs, 0 ≤ n ∧ n < 256 := by
  have h := encFold_range xs ([], 0, 0) (by simp)
  unfold encode encEnd
  intro n hn
  split at hn
  · simp only [List.append_assoc, List.mem_append, List.mem_singleton, List.mem_cons, List.not_mem_nil, or_false] at hn
    rcases hn with h' | rfl | rfl | rfl
    · exact h n h'
    · exact tb_range _
    · (first | lia | omega)
    · (first | lia | omega)
  · split at hn
    · simp only [List.append_assoc, List.mem_append, List.mem_singleton, List.mem_cons, List.not_mem_nil, or_false] at hn
      rcases hn with h' | rfl | rfl
      · exact h n h'
      · exact tb_range _
      · (first | lia | omega)
    · exact h n hn
noncomputable abbrev outFm (fd : FuncData) (f L a : Addr) (O : List Addr) (s : Shared) : Fm := { fnFm fd f L O s with O := a :: O }

theorem drain_enc {out : List Int} {lc lb x : Int} (h : lb = 0 ∨ lb = 2 ∨ lb = 4) : drain 2 out ((lc * 256 + x) % 65536) (lb + 8) = encStep (out, lc, lb) x := by
  rcases h with rfl | rfl | rfl <;> simp [drain, encStep]

theorem spec_b2a (g : Gr w G) {k : Nat} (hr : Room (k + 2) A) (b : Array UInt8) (hb : b.size ≤ 1000) :
    ∀ s vs, GI G s → OkO O s.heap → Reps O s.heap [.bytes b] vs → codeAny (model prog w) A (.call (.ref 107) ⟨vs, [(Str.ofString "newline", .bool false)]⟩) (Back O s (.bytes (byteArr (encode (b.toList.map fun c => (c.toNat : Int)))))) s := by
  intro s vs gi hO hR
  obtain ⟨v, rfl, h1⟩ := reps1 hR
  refine g.enter (f := 107) (binds := [(Str.ofString "data", v), (Str.ofString "newline", .bool false)]) (ρ := [(Str.ofString "data", .bytes b), (Str.ofString "newline", .bool false)]) hr rfl rfl rfl (by dsimp only) (by kernel_rfl) rfl rfl rfl rfl rfl rfl gi hO (wpAny_pure ⟨rfl, rfl⟩) (.cons h1 (.cons rep_bool .nil)) (by kernel_rfl) ?_
  intro fd L s₁ hn I
  have hr' : Room (k + 1) (A.deeper (callEnvC fd L 107)) := hr.deeper
  have hh : (A.deeper (callEnvC fd L 107)).handled = none := hr'.1
  generalize hA : A.deeper (callEnvC fd L 107) = A' at hr' hh ⊢
  refine x_assign I (Ev.callDef (by walk_at "gl") (g.kin _ _ rfl) rfl (by walk_at "evs") (spec_buffer g hr' b)) (put_of (s := s) hn (by kernel_rfl)) (by walk_at "put") fun s₂ I₂ => ?_
  refine x_assign I₂ (Ev.callDef (by walk_at "gl") (g.kin _ _ rfl) rfl (by walk_at "evs") (spec_truth g hr' false)) (put_of (s := s) hn (by kernel_rfl)) (by walk_at "put") fun s₃ I₃ => ?_
  refine x_own (fun a => [(Str.ofString "data", .bytes b), (Str.ofString "newline", .bool false), (Str.ofString "bin_data", .bytes b), (Str.ofString "out", .raw (.ref a))]) I₃ (put_of (s := s) hn (by kernel_rfl)) (fun _ => trivial) (fun _ => trivial) (fun a => by walk_at "put") (fun a s₄ haO I₄ => ?_)
  replace I₄ : Inv G (outFm fd 107 L a O s) _ _ s₄ := I₄
  refine x_assign (F := outFm fd 107 L a O s) I₄ (by walk_at "ev") (put_of (s := s) hn (by kernel_rfl)) (by walk_at "put") fun s₅ I₅ => ?_
  refine x_assign I₅ (by walk_at "ev") (put_of (s := s) hn (by kernel_rfl)) (by walk_at "put") fun s₆ I₆ => ?_
  let xs := b.toList.map fun c => (c.toNat : Int)
  have hxs : ∀ x ∈ xs, 0 ≤ x ∧ x < 256 := fun x hx => by
    obtain ⟨c, _, rfl⟩ := List.mem_map.mp hx
    have := c.toNat_lt
    constructor <;> (first | lia | omega)
  have hlen : xs.length ≤ 1000 := by simpa [xs] using hb
  let st : Nat → List Int × Int × Int := fun i => (xs.take i).foldl encStep ([], 0, 0)
  have hsucc : ∀ i x, xs[i]? = some x → st (i + 1) = encStep (st i) x := fun i x hx => by
    show List.foldl _ _ (xs.take (i + 1)) = _
    rw [List.take_add_one, hx, List.foldl_append]; rfl
  have hst : ∀ i, i ≤ xs.length → ((st i).2.2 = 0 ∨ (st i).2.2 = 2 ∨ (st i).2.2 = 4) ∧ 0 ≤ (st i).2.1 ∧ (st i).2.1 < 65536 ∧ (st i).1.length ≤ 2 * i := fun i => by
    induction i with
    | zero => intro _; exact ⟨.inl rfl, by show (0 : Int) ≤ 0; (first | lia | omega), by show (0 : Int) < 65536; (first | lia | omega), by show 0 ≤ _; (first | lia | omega)⟩
    | succ i ih =>
      intro hi
      have hx : xs[i]? = some xs[i] := by simp [show i < xs.length by (first | lia | omega)]
      obtain ⟨h1, h2, h3, h4⟩ := ih (by (first | lia | omega))
      rw [hsucc i _ hx]
      have := encStep_ok (st := st i) (b := xs[i]) h1
      refine ⟨this.1, this.2.1, this.2.2, ?_⟩
      unfold encStep
      dsimp only
      split
      · simp; (first | lia | omega)
      · split
        · simp; (first | lia | omega)
        · simp; (first | lia | omega)
  have hdl : (xs.map D.int).length = xs.length := by simp
  refine x_forN (ds := xs.map .int) (fun i => b2aRho b a (st i).2.2 (st i).2.1 (bTl xs i)) (fun i => b2aRho b a (st i).2.2 (st i).2.1 [(Str.ofString "b", .int (xs.getD i 0))]) (fun i => [(a, (st i).1.map .int)]) I₆ (fun _ => trivial) (IterE.of (by walk_at "ev") (iters_bytesI (F := outFm fd 107 L a O s) hh)) (put_of (s := s) hn (by kernel_rfl)) ?hputs ?turn ?rest
  case hputs =>
    intro i d hd
    have e : d = .int (xs.getD i 0) := by
      rw [List.getElem?_map, Option.map_eq_some_iff] at hd
      obtain ⟨c, hc, rfl⟩ := hd
      rw [List.getD_eq_getElem?_getD, hc]; rfl
    subst e
    cases i with
    | zero => show PutTo _ _ (b2aRho b a (st 0).2.2 (st 0).2.1 []) _; walk_at "put"
    | succ i => show PutTo _ _ (b2aRho b a (st (i + 1)).2.2 (st (i + 1)).2.1 [_]) _; walk_at "put"
  case turn =>
    intro P i d s₇ hd I₇
    obtain ⟨x, hx, rfl⟩ : ∃ x, xs[i]? = some x ∧ D.int x = d := by
      rw [List.getElem?_map, Option.map_eq_some_iff] at hd; exact hd
    have hg : xs.getD i 0 = x := by
      rw [List.getD_eq_getElem?_getD, hx]; rfl
    have hi : i < xs.length := by
      cases Nat.lt_or_ge i xs.length with
      | inl h => exact h
      | inr h => rw [List.getElem?_eq_none h] at hx; cases hx
    obtain ⟨hx0, hx1⟩ := hxs x (List.mem_of_getElem? hx)
    obtain ⟨h1, h2, h3, h4⟩ := hst i (by (first | lia | omega))
    show wpAny _ _ _ (fun (f : Flow) s₃ => (f = .next ∨ f = .cont) ∧ Inv G _ (b2aRho b a (st (i + 1)).2.2 (st (i + 1)).2.1 [(Str.ofString "b", .int (xs.getD i 0))]) _ s₃) _ _
    rw [hsucc i x hx]
    rw [hg] at I₇ ⊢
    have hd2 := drain_enc (out := (st i).1) (lc := (st i).2.1) (x := x) h1
    generalize st i = t at *
    obtain ⟨out, lc, lb⟩ := t
    dsimp only at *
    rw [← hd2]
    have elc : Builtin.bitAnd (Builtin.bitOr (lc * 2 ^ (8 : Int).toNat) x) 65535 = (lc * 256 + x) % 65536 := by
      rw [bitAnd_m16, show (8 : Int).toNat = 8 from rfl, bitOr_add 8 h2 hx0 (by (first | lia | omega))]
      rfl
    refine x_assign (F := (outFm fd 107 L a O s).with P) I₇ (Ev.bin (Ev.bin (Ev.bin (by walk_at "ev") (by walk_at "ev") (op_shl (by decide) (by decide) (by (first | lia | omega)))) (by walk_at "ev") op_or) (by walk_at "ev") op_and) (put_of (s := s) hn (by kernel_rfl)) (by walk_at "put") fun s₈ I₈ => ?_
    rw [elc] at I₈
    refine x_assign I₈ (by walk_at "ev") (put_of (s := s) hn (by kernel_rfl)) (by walk_at "put") fun s₉ I₉ => ?_
    have hlc0 : 0 ≤ (lc * 256 + x) % 65536 := by (first | lia | omega)
    generalize hlc : (lc * 256 + x) % 65536 = lc' at *
    have hlb : 0 ≤ lb + 8 ∧ lb + 8 < 18 := by (first | lia | omega)
    generalize lb + 8 = lb' at *
    refine x_while (fun n ρ C => ∃ out₂ lb₂, ρ = b2aRho b a lb₂ lc' [(Str.ofString "b", .int x)] ∧ C = [(a, out₂.map .int)] ∧ 0 ≤ lb₂ ∧ lb₂ < 6 * (n + 1) ∧ out₂.length + n ≤ 3000 ∧ drain n out₂ lc' lb₂ = drain 2 out lc' lb') 2 I₉ ⟨out, lb', rfl, rfl, hlb.1, by (first | lia | omega), by (first | lia | omega), rfl⟩ ?_
    rintro n ρ C s₁₀ ⟨out₂, lb₂, rfl, rfl, hl1, hl2, hl3, hl4⟩ I₁₀
    refine ⟨_, by walk_at "tr", fun hb s₁₁ I₁₁ => ?_, fun hb s₁₁ I₁₁ => ?_⟩
    · have hb' : 6 ≤ lb₂ := by simpa using hb
      obtain ⟨m, rfl⟩ : ∃ m, n = m + 1 := ⟨n - 1, by (first | lia | omega)⟩
      have hm0 : 0 ≤ Builtin.bitAnd (lc'.fdiv (2 ^ (lb₂ - 6).toNat)) 63 ∧ Builtin.bitAnd (lc'.fdiv (2 ^ (lb₂ - 6).toNat)) 63 < 64 := by rw [bitAnd_m6]; (first | lia | omega)
      refine x_append I₁₁ (by walk_at "mem") (ev_tab g (fd := fd) (L := L) (f := 107) rfl (kind_of hn (by kernel_rfl)) (Ev.bin (Ev.bin (by walk_at "ev") (by walk_at "ev") (op_shr (by (first | lia | omega)))) (by walk_at "ev") op_and) hm0.1 hm0.2) (by size_fits) fun s₁₂ I₁₂ => ?_
      refine x_assign I₁₂ (by walk_at "ev") (put_of (s := s) hn (by kernel_rfl)) (by walk_at "put") fun s₁₃ I₁₃ => ?_
      refine x_nil ⟨.inl rfl, m, _, _, by (first | lia | omega), ⟨out₂ ++ [tb (lc' / 2 ^ (lb₂ - 6).toNat % 64)], lb₂ - 6, rfl, ?_, by (first | lia | omega), by (first | lia | omega), by simp; (first | lia | omega), ?_⟩, I₁₃⟩
      · rw [bitAnd_m6, shr_nat hlc0]; simp
      · rw [← hl4]
        show _ = if 6 ≤ lb₂ then _ else _
        rw [if_pos hb']
    · have hb' : ¬ 6 ≤ lb₂ := by simpa using hb
      have : drain n out₂ lc' lb₂ = (out₂, lc', lb₂) := by
        cases n with
        | zero => rfl
        | succ n => show (if 6 ≤ lb₂ then _ else _) = _; rw [if_neg hb']
      rw [← hl4, this]
      exact x_nil ⟨.inl rfl, I₁₁⟩
  case rest =>
    intro s₇ I₇
    have hlen' : (xs.map D.int).length = xs.length := by simp
    rw [hlen'] at I₇
    obtain ⟨h1, h2, h3, h4⟩ := hst xs.length (Nat.le_refl _)
    have hfin : encEnd (st xs.length) = encode xs := by
      show encEnd (List.foldl _ _ (xs.take xs.length)) = _
      rw [List.take_length]; rfl
    have hrng : ∀ n ∈ encode xs, 0 ≤ n ∧ n < 256 := encode_range xs
    generalize st xs.length = t at *
    obtain ⟨out, lc, lb⟩ := t
    dsimp only at *
    replace I₇ : Inv G (outFm fd 107 L a O s) (b2aRho b a lb lc (bTl xs xs.length)) [(a, out.map .int)] s₇ := I₇
    have hel : (encode xs).length ≤ 3000 := by
      rw [← hfin]; unfold encEnd; dsimp only; split
      · simp; (first | lia | omega)
      · split
        · simp; (first | lia | omega)
        · (first | lia | omega)
    generalize bTl xs xs.length = tl at *
    refine x_ifJ (b2aRho b a lb lc tl) [(a, (encode xs).map .int)] I₇ (by walk_at "tr") (fun hb s₈ I₈ => ?_) (fun hb s₈ I₈ => ?_) fun s₉ I₉ => ?_
    · have hb' : lb = 2 := by simpa using hb
      have hm : 0 ≤ Builtin.bitAnd lc 3 * 2 ^ (4 : Int).toNat ∧ Builtin.bitAnd lc 3 * 2 ^ (4 : Int).toNat < 64 ∧ Builtin.bitAnd lc 3 * 2 ^ (4 : Int).toNat = lc % 4 * 16 := by
        rw [bitAnd_m2]; show 0 ≤ lc % 4 * 16 ∧ lc % 4 * 16 < 64 ∧ lc % 4 * 16 = lc % 4 * 16; (first | lia | omega)
      refine x_append I₈ (by walk_at "mem") (ev_tab g (fd := fd) (L := L) (f := 107) rfl (kind_of hn (by kernel_rfl)) (Ev.bin (by walk_at "ev") (by walk_at "ev") (op_shl (by decide) (by decide) (by rw [bitAnd_m2]; (first | lia | omega)))) hm.1 hm.2.1) (by simp; size_fits) fun s₁₂ I₁₂ => ?_
      refine x_append I₁₂ (by walk_at "mem") (by walk_at "ev") (by simp; size_fits) fun s₁₃ I₁₃ => ?_
      refine x_append I₁₃ (by walk_at "mem") (by walk_at "ev") (by simp; size_fits) fun s₁₄ I₁₄ => ?_
      refine x_nil ⟨rfl, ?_⟩
      rw [← hfin]
      unfold encEnd
      dsimp only
      rw [if_pos hb']
      rw [hm.2.2] at I₁₄
      simpa using I₁₄
    · have hb' : lb ≠ 2 := by simpa using hb
      refine x_if I₈ (by walk_at "tr") (fun hb2 s₉ I₉ => ?_) (fun hb2 s₉ I₉ => ?_)
      · have hb2' : lb = 4 := by simpa using hb2
        have hm : 0 ≤ Builtin.bitAnd lc 15 * 2 ^ (2 : Int).toNat ∧ Builtin.bitAnd lc 15 * 2 ^ (2 : Int).toNat < 64 ∧ Builtin.bitAnd lc 15 * 2 ^ (2 : Int).toNat = lc % 16 * 4 := by
          rw [bitAnd_m4]; show 0 ≤ lc % 16 * 4 ∧ lc % 16 * 4 < 64 ∧ lc % 16 * 4 = lc % 16 * 4; (first | lia | omega)
        refine x_append I₉ (by walk_at "mem") (ev_tab g (fd := fd) (L := L) (f := 107) rfl (kind_of hn (by kernel_rfl)) (Ev.bin (by walk_at "ev") (by walk_at "ev") (op_shl (by decide) (by decide) (by rw [bitAnd_m4]; (first | lia | omega)))) hm.1 hm.2.1) (by simp; size_fits) fun s₁₂ I₁₂ => ?_
        refine x_append I₁₂ (by walk_at "mem") (by walk_at "ev") (by simp; size_fits) fun s₁₃ I₁₃ => ?_
        refine x_nil ?_
        refine x_nil ⟨rfl, ?_⟩
        rw [← hfin]
        unfold encEnd
        dsimp only
        rw [if_neg hb', if_pos hb2']
        rw [hm.2.2] at I₁₃
        simpa using I₁₃
      · have hb2' : lb ≠ 4 := by simpa using hb2
        refine x_nil ?_
        refine x_nil ⟨rfl, ?_⟩
        rw [← hfin]
        unfold encEnd
        dsimp only
        rw [if_neg hb', if_neg hb2']
        exact I₉
    · refine x_if I₉ (by walk_at "tr") (fun hb => absurd hb (by decide)) (fun hb s₁₀ I₁₀ => ?_)
      refine x_nil ?_
      have I₁₁ := I₁₀.reveal (F := fnFm fd 107 L O s) (O := O) (x := Str.ofString "out") (by walk_at "mem") (by walk_at "put") haO hO.tabs (by simp) (fun _ _ _ _ _ _ _ => trivial)
      replace I₁₁ : Inv G (fnFm fd 107 L O s) _ _ s₁₀ := I₁₁
      refine x_ret (F := fnFm fd 107 L O s) I₁₁ (Ev.callTyp (by walk_at "gl") (by walk_at "evs") (call_bytes hrng (by size_fits) hh)) fun s' v I' r => ⟨v, rfl, I'.step, r⟩
end
end
section
section
variable {prog : Program} {w : World} {A : Around} {G : GData} {s : Shared} {O : List Addr}

theorem Ev.callKw {F : Fm} {ρ : List (Str × D)} {C : List (Addr × List D)} {f : Addr} {o : Obj} {fd : FuncData} {id name : Str} {p kp pos : Pos} {e value : Expr} {es : List Expr} {ds : List D} {dk d : D} (hf : Ev prog w A G F ρ C (.Name id p) (.raw (.ref f))) (ho : G.h.get? f = some o) (hd : o.data = .func fd)
    (ha : Evs prog w A G F ρ C (e :: es) ds) (hk : Ev prog w A G F ρ C value dk)
    (h : ∀ s vs kv, GI G s → OkO F.O s.heap → Reps F.O s.heap ds vs → Rep F.O s.heap dk kv → codeAny (model prog w) A (.call (.ref f) ⟨vs, [(name, kv)]⟩) (Back F.O s d) s)
    (he : starEach (e :: es) F.env = (false, eval e F.env) :: starEach es F.env := by first | rfl | with_unfolding_all rfl) : Ev prog w A G F ρ C (.Call (.Name id p) (e :: es) [⟨some name, value, kp⟩] pos) d := fun s I => by
  refine wpAny_Call_Name_kw (wpAny_mono (hf s I) (fun fv s₁ x => ?_) fun _ _ e => e)
  obtain ⟨st, r⟩ := x
  rw [Rep] at r; subst r
  refine callWith_def_kw hd (evalArgs_kw2 (by with_unfolding_all rfl) (wpAny_mono (ha s₁ pos (I.go st)) (fun vs s₂ y => kwAll_cons (wpAny_mono (hk s₂ ((I.go st).go y.1)) (fun kv s₃ z => kwAll_nil ?_) fun _ _ e => e)) fun _ _ e => e) he)
  have I₃ := ((I.go st).go y.1).go z.1
  refine ⟨I₃.gi.keep _ _ ho, wpAny_call (codeAny_mono (h s₃ vs kv I₃.gi I₃.okO (y.2.step ((I.go st).go y.1).okO z.1) z.2) fun r s' q => ?_)⟩
  obtain ⟨v, rfl, st', rr⟩ := q
  exact ⟨((st.trans y.1).trans z.1).trans st', rr⟩

noncomputable def encB (b : Array UInt8) : Array UInt8 := byteArr (encode (b.toList.map fun c => (c.toNat : Int)))

theorem spec_enc (g : Gr w G) {k : Nat} (hr : Room (k + 3) A) (b : Array UInt8) (hb : b.size ≤ 1000) : CallOk prog w A G O (.ref 115) [.bytes b] (.bytes (encB b)) := by
  refine callOk_of fun s vs gi hO hR => ?_
  obtain ⟨v, rfl, h1⟩ := reps1 hR
  refine g.enter (f := 115) (binds := [(Str.ofString "s", v), (Str.ofString "altchars", .none)]) (ρ := [(Str.ofString "s", .bytes b), (Str.ofString "altchars", .none)]) hr rfl rfl rfl (by dsimp only) (by kernel_rfl) rfl rfl rfl rfl rfl rfl gi hO
    ((BindsTo.of_defaults rfl (gi.keep _ _ (g.kin _ _ rfl)) rfl rfl rfl) _ _ _ _ ⟨rfl, rfl⟩) (.cons h1 (.cons rep_none .nil)) (by kernel_rfl) ?_
  intro fd L s₁ hn I
  have hr' : Room (k + 2) (A.deeper (callEnvC fd L 115)) := hr.deeper
  generalize hA : A.deeper (callEnvC fd L 115) = A' at hr' ⊢
  refine x_assign I (Ev.callKw (dk := .bool false) (d := .bytes (encB b)) (by walk_at "gl") (g.kin _ _ rfl) rfl (by walk_at "evs") (by walk_at "ev") (fun s vs kv gi ho r rk => by
    rw [Rep] at rk; subst rk
    exact spec_b2a g hr' b hb s vs gi ho r)) (put_of (s := s) hn (by kernel_rfl)) (by walk_at "put") fun s₂ I₂ => ?_
  refine x_if I₂ (by walk_at "tr") (fun hb => absurd hb (by decide)) (fun hb s₃ I₃ => ?_)
  refine x_nil ?_
  refine x_ret I₃ (by walk_at "ev") fun s' v I' r => ⟨v, rfl, I'.step, r⟩
end
end
section
section
variable {prog : Program} {w : World} {A : Around} {G : GData} {s : Shared} {O : List Addr}

noncomputable def val64 (c : Int) : Int := if 65 ≤ c ∧ c ≤ 90 then c - 65 else if 97 ≤ c ∧ c ≤ 122 then c - 71 else if 48 ≤ c ∧ c ≤ 57 then c + 4 else if c = 43 then 62 else if c = 47 then 63 else 64

theorem spec_b64_value (g : Gr w G) {k : Nat} (hr : Room k A) (c : Int) : CallOk prog w A G O (.ref 91) [.int c] (.int (val64 c)) := by
  refine callOk_of fun s vs gi hO hR => ?_
  rw [Reps] at hR
  obtain ⟨v, t, rfl, h1, h2⟩ := hR
  rw [Reps] at h2; subst h2
  refine g.enter (f := 91) (binds := [(Str.ofString "c", v)]) (ρ := [(Str.ofString "c", .int c)]) hr rfl rfl rfl (by dsimp only) (by kernel_rfl) rfl rfl rfl rfl rfl rfl gi hO (wpAny_pure ⟨rfl, rfl⟩) (.cons h1 .nil) (by kernel_rfl) ?_
  intro fd L s₁ hn I
  refine x_if I (by walk_at "tr") (fun hb s₂ I₂ => ?_) (fun hb s₂ I₂ => ?_)
  · refine x_ret I₂ (by walk_at "ev") fun s' v I' r => ?_
    simp only [Bool.and_eq_true, decide_eq_true_eq] at hb
    exact ⟨v, rfl, I'.step, by rw [val64, if_pos (by (first | lia | omega))]; exact r⟩
  refine x_nil ?_
  refine x_if I₂ (by walk_at "tr") (fun hb2 s₃ I₃ => ?_) (fun hb2 s₃ I₃ => ?_)
  · refine x_ret I₃ (by walk_at "ev") fun s' v I' r => ?_
    simp only [Bool.and_eq_true, Bool.and_eq_false_iff, decide_eq_true_eq, decide_eq_false_iff_not] at hb hb2
    exact ⟨v, rfl, I'.step, by rw [val64, if_neg (by (first | lia | omega)), if_pos (by (first | lia | omega))]; exact r⟩
  refine x_nil ?_
  refine x_if I₃ (by walk_at "tr") (fun hb3 s₄ I₄ => ?_) (fun hb3 s₄ I₄ => ?_)
  · refine x_ret I₄ (by walk_at "ev") fun s' v I' r => ?_
    simp only [Bool.and_eq_true, Bool.and_eq_false_iff, decide_eq_true_eq, decide_eq_false_iff_not] at hb hb2 hb3
    exact ⟨v, rfl, I'.step, by rw [val64, if_neg (by (first | lia | omega)), if_neg (by (first | lia | omega)), if_pos (by (first | lia | omega))]; exact r⟩
  refine x_nil ?_
  refine x_if I₄ (by walk_at "tr") (fun hb4 s₅ I₅ => ?_) (fun hb4 s₅ I₅ => ?_)
  · refine x_ret I₅ (by walk_at "ev") fun s' v I' r => ?_
    simp only [Bool.and_eq_true, Bool.and_eq_false_iff, decide_eq_true_eq, decide_eq_false_iff_not, beq_iff_eq] at hb hb2 hb3 hb4
    exact ⟨v, rfl, I'.step, by rw [val64, if_neg (by (first | lia | omega)), if_neg (by (first | lia | omega)), if_neg (by (first | lia | omega)), if_pos (by (first | lia | omega))]; exact r⟩
  refine x_nil ?_
  refine x_if I₅ (by walk_at "tr") (fun hb5 s₆ I₆ => ?_) (fun hb5 s₆ I₆ => ?_)
  · refine x_ret I₆ (by walk_at "ev") fun s' v I' r => ?_
    simp only [Bool.and_eq_true, Bool.and_eq_false_iff, decide_eq_true_eq, decide_eq_false_iff_not, beq_iff_eq, beq_eq_false_iff_ne] at hb hb2 hb3 hb4 hb5
    exact ⟨v, rfl, I'.step, by rw [val64, if_neg (by (first | lia | omega)), if_neg (by (first | lia | omega)), if_neg (by (first | lia | omega)), if_neg (by (first | lia | omega)), if_pos (by (first | lia | omega))]; exact r⟩
  refine x_nil ?_
  refine x_ret I₆ (by walk_at "ev") fun s' v I' r => ?_
  simp only [Bool.and_eq_true, Bool.and_eq_false_iff, decide_eq_true_eq, decide_eq_false_iff_not, beq_iff_eq, beq_eq_false_iff_ne] at hb hb2 hb3 hb4 hb5
  exact ⟨v, rfl, I'.step, by rw [val64, if_neg (by (first | lia | omega)), if_neg (by (first | lia | omega)), if_neg (by (first | lia | omega)), if_neg (by (first | lia | omega)), if_neg (by (first | lia | omega))]; exact r⟩

theorem val64_range (c : Int) : 0 ≤ val64 c := by
  unfold val64
  split; · (first | lia | omega)
  split; · (first | lia | omega)
  split; · (first | lia | omega)
  split; · (first | lia | omega)
  split; · (first | lia | omega)
  (first | lia | omega)

noncomputable abbrev DSt := List Int × Int × Int × Int
noncomputable def decStep (st : DSt) (x : Int) : DSt :=
  if x = 61 then (st.1, st.2.1, st.2.2.1, st.2.2.2 + 1)
  else if 64 ≤ val64 x then st
  else if st.2.1 = 0 then (st.1, 1, val64 x, 0)
  else if st.2.1 = 1 then (st.1 ++ [st.2.2.1 * 4 + val64 x / 16], 2, val64 x % 16, 0)
  else if st.2.1 = 2 then (st.1 ++ [st.2.2.1 * 16 + val64 x / 4], 3, val64 x % 4, 0)
  else (st.1 ++ [st.2.2.1 * 64 + val64 x], 0, 0, 0)
noncomputable def DOk (st : DSt) : Prop := 0 ≤ st.2.1 ∧ st.2.1 ≤ 3 ∧ 0 ≤ st.2.2.1 ∧ st.2.2.1 < 64 ∧ (st.2.1 = 2 → st.2.2.1 < 16) ∧ (st.2.1 = 3 → st.2.2.1 < 4) ∧ 0 ≤ st.2.2.2 ∧ ∀ n ∈ st.1, 0 ≤ n ∧ n < 256
theorem DOk.zero : DOk ([], 0, 0, 0) := ⟨by decide, by decide, by decide, by decide, by decide, by decide, by decide, by simp⟩
theorem DOk.step {st : DSt} (h : DOk st) (x : Int) : DOk (decStep st x) := by
  obtain ⟨out, q, l, p⟩ := st
  obtain ⟨h1, h2, h3, h4, h5, h6, h7, h8⟩ := h
  have hv := val64_range x
  dsimp only at *
  unfold decStep
  dsimp only
  have app : ∀ y : Int, 0 ≤ y → y < 256 → ∀ n ∈ out ++ [y], 0 ≤ n ∧ n < 256 := fun y hy0 hy1 n hn => by
    rcases List.mem_append.mp hn with h | h
    · exact h8 n h
    · rw [List.mem_singleton.mp h]; exact ⟨hy0, hy1⟩
  split
  · exact ⟨h1, h2, h3, h4, h5, h6, by dsimp only; (first | lia | omega), h8⟩
  split
  · exact ⟨h1, h2, h3, h4, h5, h6, h7, h8⟩
  rename_i hlt
  split
  · refine ⟨?_, ?_, ?_, ?_, ?_, ?_, ?_, h8⟩ <;> (try dsimp only) <;> (first | lia | omega)
  split
  · refine ⟨?_, ?_, ?_, ?_, ?_, ?_, ?_, app _ ?_ ?_⟩ <;> (try dsimp only) <;> (first | lia | omega)
  split
  · refine ⟨?_, ?_, ?_, ?_, ?_, ?_, ?_, app _ ?_ ?_⟩ <;> (try dsimp only) <;> (first | lia | omega)
  · refine ⟨?_, ?_, ?_, ?_, ?_, ?_, ?_, app _ ?_ ?_⟩ <;> (try dsimp only) <;> (first | lia | omega)
theorem decStep_len {st : DSt} (x : Int) : (decStep st x).1.length ≤ st.1.length + 1 := by
  unfold decStep
  split; · exact Nat.le_succ _
  split; · exact Nat.le_succ _
  split; · exact Nat.le_succ _
  split; · simp
  split; · simp
  simp
noncomputable def decFold (xs : List Int) : DSt := xs.foldl decStep ([], 0, 0, 0)
noncomputable abbrev a2bRho (b : Array UInt8) (a : Addr) (q l p i : Int) (tl : List (Str × D)) : List (Str × D) :=
  (Str.ofString "data", .bytes b) :: (Str.ofString "strict_mode", .bool false) :: (Str.ofString "ascii_data", .bytes b) :: (Str.ofString "out", .raw (.ref a)) :: (Str.ofString "quad_pos", .int q) :: (Str.ofString "leftchar", .int l) :: (Str.ofString "pads", .int p) :: (Str.ofString "i", .int i) :: tl
noncomputable abbrev chTl (xs : List Int) : Nat → List (Str × D)
  | 0 => []
  | i + 1 => [(Str.ofString "this_ch", .int (if xs.getD i 0 = 61 then 61 else val64 (xs.getD i 0)))]

theorem spec_a2b (g : Gr w G) {k : Nat} (hr : Room (k + 2) A) (b : Array UInt8) (hb : b.size ≤ 1000)
    (hfin : (decFold (b.toList.map fun c => (c.toNat : Int))).2.1 ≠ 1 ∧ ((decFold (b.toList.map fun c => (c.toNat : Int))).2.1 = 0 ∨ 4 ≤ (decFold (b.toList.map fun c => (c.toNat : Int))).2.1 + (decFold (b.toList.map fun c => (c.toNat : Int))).2.2.2)) :
    ∀ s vs, GI G s → OkO O s.heap → Reps O s.heap [.bytes b] vs → codeAny (model prog w) A (.call (.ref 99) ⟨vs, [(Str.ofString "strict_mode", .bool false)]⟩) (Back O s (.bytes (byteArr (decFold (b.toList.map fun c => (c.toNat : Int))).1))) s := by
  intro s vs gi hO hR
  obtain ⟨v, rfl, h1⟩ := reps1 hR
  refine g.enter (f := 99) (binds := [(Str.ofString "data", v), (Str.ofString "strict_mode", .bool false)]) (ρ := [(Str.ofString "data", .bytes b), (Str.ofString "strict_mode", .bool false)]) hr rfl rfl rfl (by dsimp only) (by kernel_rfl) rfl rfl rfl rfl rfl rfl gi hO (wpAny_pure ⟨rfl, rfl⟩) (.cons h1 (.cons rep_bool .nil)) (by kernel_rfl) ?_
  intro fd L s₁ hn I
  have hr' : Room (k + 1) (A.deeper (callEnvC fd L 99)) := hr.deeper
  have hh : (A.deeper (callEnvC fd L 99)).handled = none := hr'.1
  generalize hA : A.deeper (callEnvC fd L 99) = A' at hr' hh ⊢
  refine x_assign I (Ev.callDef (by walk_at "gl") (g.kin _ _ rfl) rfl (by walk_at "evs") (spec_ascii_buffer g hr' b)) (put_of (s := s) hn (by kernel_rfl)) (by walk_at "put") fun s₂ I₂ => ?_
  refine x_assign I₂ (Ev.callDef (by walk_at "gl") (g.kin _ _ rfl) rfl (by walk_at "evs") (spec_truth g hr' false)) (put_of (s := s) hn (by kernel_rfl)) (by walk_at "put") fun s₃ I₃ => ?_
  refine x_own (fun a => [(Str.ofString "data", .bytes b), (Str.ofString "strict_mode", .bool false), (Str.ofString "ascii_data", .bytes b), (Str.ofString "out", .raw (.ref a))]) I₃ (put_of (s := s) hn (by kernel_rfl)) (fun _ => trivial) (fun _ => trivial) (fun a => by walk_at "put") (fun a s₄ haO I₄ => ?_)
  replace I₄ : Inv G (outFm fd 99 L a O s) _ _ s₄ := I₄
  refine x_assign (F := outFm fd 99 L a O s) I₄ (by walk_at "ev") (put_of (s := s) hn (by kernel_rfl)) (by walk_at "put") fun s₅ I₅ => ?_
  refine x_assign I₅ (by walk_at "ev") (put_of (s := s) hn (by kernel_rfl)) (by walk_at "put") fun s₆ I₆ => ?_
  refine x_assign I₆ (by walk_at "ev") (put_of (s := s) hn (by kernel_rfl)) (by walk_at "put") fun s₆ I₆ => ?_
  refine x_assign I₆ (by walk_at "ev") (put_of (s := s) hn (by kernel_rfl)) (by walk_at "put") fun s₆ I₆ => ?_
  generalize hxs : (b.toList.map fun c => (c.toNat : Int)) = xs at *
  have hlen : xs.length ≤ 1000 := by rw [← hxs]; simpa using hb
  let st : Nat → DSt := fun i => decFold (xs.take i)
  have hsucc : ∀ i x, xs[i]? = some x → st (i + 1) = decStep (st i) x := fun i x hx => by
    show List.foldl _ _ (xs.take (i + 1)) = _
    rw [List.take_add_one, hx, List.foldl_append]; rfl
  have hst : ∀ i, i ≤ xs.length → DOk (st i) ∧ (st i).1.length ≤ i := fun i => by
    induction i with
    | zero => intro _; exact ⟨DOk.zero, by show 0 ≤ _; (first | lia | omega)⟩
    | succ i ih =>
      intro hi
      have hx : xs[i]? = some xs[i] := by simp [show i < xs.length by (first | lia | omega)]
      obtain ⟨h1, h2⟩ := ih (by (first | lia | omega))
      rw [hsucc i _ hx]
      exact ⟨h1.step _, by have := decStep_len (st := st i) xs[i]; (first | lia | omega)⟩
  refine x_forN (ds := xs.map .int) (fun i => a2bRho b a (st i).2.1 (st i).2.2.1 (st i).2.2.2 i (chTl xs i)) (fun i => a2bRho b a (st i).2.1 (st i).2.2.1 (st i).2.2.2 i [(Str.ofString "this_ch", .int (xs.getD i 0))]) (fun i => [(a, (st i).1.map .int)]) I₆ (fun _ => trivial) (by rw [← hxs]; exact IterE.of (by walk_at "ev") (iters_bytesI (F := outFm fd 99 L a O s) hh)) (put_of (s := s) hn (by kernel_rfl)) ?hputs ?turn ?rest
  case hputs =>
    intro i d hd
    have e : d = .int (xs.getD i 0) := by
      rw [List.getElem?_map, Option.map_eq_some_iff] at hd
      obtain ⟨c, hc, rfl⟩ := hd
      rw [List.getD_eq_getElem?_getD, hc]; rfl
    subst e
    cases i with
    | zero => show PutTo _ _ (a2bRho b a (st 0).2.1 (st 0).2.2.1 (st 0).2.2.2 _ []) _; walk_at "put"
    | succ i => show PutTo _ _ (a2bRho b a (st (i + 1)).2.1 (st (i + 1)).2.2.1 (st (i + 1)).2.2.2 _ [_]) _; walk_at "put"
  case turn =>
    intro P i d s₇ hd I₇
    obtain ⟨x, hx, rfl⟩ : ∃ x, xs[i]? = some x ∧ D.int x = d := by
      rw [List.getElem?_map, Option.map_eq_some_iff] at hd; exact hd
    have hg : xs.getD i 0 = x := by
      rw [List.getD_eq_getElem?_getD, hx]; rfl
    have hi : i < xs.length := by
      cases Nat.lt_or_ge i xs.length with
      | inl h => exact h
      | inr h => rw [List.getElem?_eq_none h] at hx; cases hx
    obtain ⟨h1, h4⟩ := hst i (by (first | lia | omega))
    show wpAny _ _ _ (fun (f : Flow) s₃ => (f = .next ∨ f = .cont) ∧ Inv G _ (a2bRho b a (st (i + 1)).2.1 (st (i + 1)).2.2.1 (st (i + 1)).2.2.2 ((i + 1 : Nat) : Int) [(Str.ofString "this_ch", .int (if xs.getD i 0 = 61 then 61 else val64 (xs.getD i 0)))]) _ s₃) _ _
    rw [hsucc i x hx]
    rw [hg] at I₇ ⊢
    generalize st i = t at *
    obtain ⟨out, q, l, p⟩ := t
    obtain ⟨k1, k2, k3, k4, k5, k6, k7, k8⟩ := h1
    dsimp only at *
    have hii : ((i + 1 : Nat) : Int) = (i : Int) + 1 := by (first | lia | omega)
    rw [hii]
    generalize (i : Int) = ii at *
    have hv := val64_range x
    refine x_if (F := (outFm fd 99 L a O s).with P) I₇ (by walk_at "tr") (fun hb s₈ I₈ => ?_) (fun hb s₈ I₈ => ?_)
    · have hb' : x = 61 := by simpa using hb
      subst hb'
      refine x_assign I₈ (by walk_at "ev") (put_of (s := s) hn (by kernel_rfl)) (by walk_at "put") fun s₉ I₉ => ?_
      have fin : ∀ (I₁₀ : Inv G ((outFm fd 99 L a O s).with P) (a2bRho b a q l (p + 1) (ii + 1) [(Str.ofString "this_ch", .int 61)]) [(a, out.map .int)] s₉) , True := fun _ => trivial
      refine x_if I₉ (by walk_at "tr") (fun hb2 s₁₀ I₁₀ => ?_) (fun hb2 s₁₀ I₁₀ => ?_)
      · refine x_assign I₁₀ (by walk_at "ev") (put_of (s := s) hn (by kernel_rfl)) (by walk_at "put") fun s₁₁ I₁₁ => ?_
        exact x_cont ⟨.inr rfl, I₁₁⟩
      · refine x_nil ?_
        refine x_if I₁₀ (by walk_at "tr") (fun hb3 s₁₀ I₁₀ => ?_) (fun hb3 => absurd hb3 (by decide))
        refine x_assign I₁₀ (by walk_at "ev") (put_of (s := s) hn (by kernel_rfl)) (by walk_at "put") fun s₁₁ I₁₁ => ?_
        exact x_cont ⟨.inr rfl, I₁₁⟩
    · have hb' : x ≠ 61 := by simpa using hb
      rw [if_neg hb']
      refine x_nil ?_
      refine x_assign I₈ (Ev.callDef (by walk_at "gl") (g.kin _ _ rfl) rfl (by walk_at "evs") (spec_b64_value g hr' x)) (put_of (s := s) hn (by kernel_rfl)) (by walk_at "put") fun s₉ I₉ => ?_
      unfold decStep
      dsimp only
      rw [if_neg hb']
      generalize val64 x = v at *
      refine x_if I₉ (by walk_at "tr") (fun hb2 s₁₀ I₁₀ => ?_) (fun hb2 s₁₀ I₁₀ => ?_)
      · have hb2' : 64 ≤ v := by simpa using hb2
        rw [if_pos hb2']
        refine x_if I₁₀ (by walk_at "tr") (fun hb3 => absurd hb3 (by decide)) (fun hb3 s₁₁ I₁₁ => ?_)
        refine x_nil ?_
        refine x_assign I₁₁ (by walk_at "ev") (put_of (s := s) hn (by kernel_rfl)) (by walk_at "put") fun s₁₁ I₁₁ => ?_
        exact x_cont ⟨.inr rfl, I₁₁⟩
      · have hb2' : ¬ 64 ≤ v := by simpa using hb2
        rw [if_neg hb2']
        refine x_nil ?_
        refine x_if I₁₀ (by walk_at "tr") (fun hb3 => absurd hb3 (by simp)) (fun hb3 s₁₁ I₁₁ => ?_)
        refine x_nil ?_
        refine x_assign I₁₁ (by walk_at "ev") (put_of (s := s) hn (by kernel_rfl)) (by walk_at "put") fun s₁₂ I₁₂ => ?_
        refine x_if I₁₂ (by walk_at "tr") (fun hb4 s₁₃ I₁₃ => ?_) (fun hb4 s₁₃ I₁₃ => ?_)
        · have hb4' : q = 0 := by simpa using hb4
          rw [if_pos hb4']
          refine x_assign I₁₃ (by walk_at "ev") (put_of (s := s) hn (by kernel_rfl)) (by walk_at "put") fun s₁₄ I₁₄ => ?_
          refine x_assign I₁₄ (by walk_at "ev") (put_of (s := s) hn (by kernel_rfl)) (by walk_at "put") fun s₁₅ I₁₅ => ?_
          refine x_nil ?_
          refine x_assign I₁₅ (by walk_at "ev") (put_of (s := s) hn (by kernel_rfl)) (by walk_at "put") fun s₁₆ I₁₆ => ?_
          exact x_nil ⟨.inl rfl, I₁₆⟩
        · have hb4' : q ≠ 0 := by simpa using hb4
          rw [if_neg hb4']
          refine x_if I₁₃ (by walk_at "tr") (fun hb5 s₁₄ I₁₄ => ?_) (fun hb5 s₁₄ I₁₄ => ?_)
          · have hb5' : q = 1 := by simpa using hb5
            rw [if_pos hb5']
            have e1 : Builtin.bitOr (l * 2 ^ (2 : Int).toNat) (v.fdiv (2 ^ (4 : Int).toNat)) = l * 4 + v / 16 := by
              rw [shr_nat hv]
              show Builtin.bitOr (l * 2 ^ 2) (v / 16) = _
              rw [bitOr_add 2 k3 (by (first | lia | omega)) (by (first | lia | omega))]; rfl
            have e2 : Builtin.bitAnd v 15 = v % 16 := bitAnd_m4 v
            refine x_assign I₁₄ (by walk_at "ev") (put_of (s := s) hn (by kernel_rfl)) (by walk_at "put") fun s₁₅ I₁₅ => ?_
            refine x_append I₁₅ (by walk_at "mem") (Ev.bin (Ev.bin (by walk_at "ev") (by walk_at "ev") (op_shl (by decide) (by decide) (by (first | lia | omega)))) (Ev.bin (by walk_at "ev") (by walk_at "ev") (op_shr (by decide))) op_or) (by simp; size_fits) fun s₁₆ I₁₆ => ?_
            refine x_assign I₁₆ (by walk_at "ev") (put_of (s := s) hn (by kernel_rfl)) (by walk_at "put") fun s₁₇ I₁₇ => ?_
            refine x_nil ?_
            refine x_nil ?_
            refine x_assign I₁₇ (by walk_at "ev") (put_of (s := s) hn (by kernel_rfl)) (by walk_at "put") fun s₁₈ I₁₈ => ?_
            refine x_nil ⟨.inl rfl, ?_⟩
            rw [e1, e2] at I₁₈
            simpa using I₁₈
          · have hb5' : q ≠ 1 := by simpa using hb5
            rw [if_neg hb5']
            refine x_if I₁₄ (by walk_at "tr") (fun hb6 s₁₅ I₁₅ => ?_) (fun hb6 s₁₅ I₁₅ => ?_)
            · have hb6' : q = 2 := by simpa using hb6
              rw [if_pos hb6']
              have e1 : Builtin.bitOr (l * 2 ^ (4 : Int).toNat) (v.fdiv (2 ^ (2 : Int).toNat)) = l * 16 + v / 4 := by
                rw [shr_nat hv]
                show Builtin.bitOr (l * 2 ^ 4) (v / 4) = _
                rw [bitOr_add 4 k3 (by (first | lia | omega)) (by (first | lia | omega))]; rfl
              have e2 : Builtin.bitAnd v 3 = v % 4 := bitAnd_m2 v
              refine x_assign I₁₅ (by walk_at "ev") (put_of (s := s) hn (by kernel_rfl)) (by walk_at "put") fun s₁₆ I₁₆ => ?_
              refine x_append I₁₆ (by walk_at "mem") (Ev.bin (Ev.bin (by walk_at "ev") (by walk_at "ev") (op_shl (by decide) (by decide) (by (first | lia | omega)))) (Ev.bin (by walk_at "ev") (by walk_at "ev") (op_shr (by decide))) op_or) (by simp; size_fits) fun s₁₇ I₁₇ => ?_
              refine x_assign I₁₇ (by walk_at "ev") (put_of (s := s) hn (by kernel_rfl)) (by walk_at "put") fun s₁₈ I₁₈ => ?_
              refine x_nil ?_
              refine x_nil ?_
              refine x_nil ?_
              refine x_assign I₁₈ (by walk_at "ev") (put_of (s := s) hn (by kernel_rfl)) (by walk_at "put") fun s₁₉ I₁₉ => ?_
              refine x_nil ⟨.inl rfl, ?_⟩
              rw [e1, e2] at I₁₉
              simpa using I₁₉
            · have hb6' : q ≠ 2 := by simpa using hb6
              rw [if_neg hb6']
              have e1 : Builtin.bitOr (l * 2 ^ (6 : Int).toNat) v = l * 64 + v := by
                show Builtin.bitOr (l * 2 ^ 6) v = _
                rw [bitOr_add 6 k3 (by (first | lia | omega)) (by (first | lia | omega))]; rfl
              refine x_assign I₁₅ (by walk_at "ev") (put_of (s := s) hn (by kernel_rfl)) (by walk_at "put") fun s₁₆ I₁₆ => ?_
              refine x_append I₁₆ (by walk_at "mem") (Ev.bin (Ev.bin (by walk_at "ev") (by walk_at "ev") (op_shl (by decide) (by decide) (by (first | lia | omega)))) (by walk_at "ev") op_or) (by simp; size_fits) fun s₁₇ I₁₇ => ?_
              refine x_assign I₁₇ (by walk_at "ev") (put_of (s := s) hn (by kernel_rfl)) (by walk_at "put") fun s₁₈ I₁₈ => ?_
              refine x_nil ?_
              refine x_nil ?_
              refine x_nil ?_
              refine x_assign I₁₈ (by walk_at "ev") (put_of (s := s) hn (by kernel_rfl)) (by walk_at "put") fun s₁₉ I₁₉ => ?_
              refine x_nil ⟨.inl rfl, ?_⟩
              rw [e1] at I₁₉
              simpa using I₁₉
  case rest =>
    intro s₇ I₇
    have hlen' : (xs.map D.int).length = xs.length := by simp
    rw [hlen'] at I₇
    obtain ⟨h1, h4⟩ := hst xs.length (Nat.le_refl _)
    have hfold : st xs.length = decFold xs := by
      show decFold (xs.take xs.length) = _
      rw [List.take_length]
    rw [← hfold] at hfin ⊢
    generalize st xs.length = t at *
    obtain ⟨out, q, l, p⟩ := t
    obtain ⟨k1, k2, k3, k4, k5, k6, k7, k8⟩ := h1
    dsimp only at *
    replace I₇ : Inv G (outFm fd 99 L a O s) (a2bRho b a q l p xs.length (chTl xs xs.length)) [(a, out.map .int)] s₇ := I₇
    generalize chTl xs xs.length = tl at *
    refine x_if I₇ (by walk_at "tr") (fun hb => absurd hb (by simpa using hfin.1)) (fun hb s₈ I₈ => ?_)
    refine x_nil ?_
    refine x_if I₈ (by walk_at "tr") (fun hb => absurd hb (by simp; (first | lia | omega))) (fun hb s₉ I₉ => ?_)
    refine x_nil ?_
    have I₁₁ := I₉.reveal (F := fnFm fd 99 L O s) (O := O) (x := Str.ofString "out") (by walk_at "mem") (by walk_at "put") haO hO.tabs (by simp) (fun _ _ _ _ _ _ _ => trivial)
    replace I₁₁ : Inv G (fnFm fd 99 L O s) _ _ s₉ := I₁₁
    refine x_ret (F := fnFm fd 99 L O s) I₁₁ (Ev.callTyp (by walk_at "gl") (by walk_at "evs") (call_bytes k8 (by size_fits) hh)) fun s' v I' r => ⟨v, rfl, I'.step, r⟩
end
end
section
theorem forIn_two {σ : Type} (f : Nat → σ → Sem (ForInStep σ)) (a b : σ) (h1 : ∀ k, f k a = pure (.yield b)) (h2 : ∀ k, f k b = pure (.done b)) (n : Nat) : (forIn [:n+1] a f : Sem σ) = pure b := by
  rw [Std.Legacy.Range.forIn_eq_forIn_range']
  show forIn (List.range' 0 ((n + 1 - 0 + 1 - 1) / 1) 1) a f = pure b
  rw [show (n + 1 - 0 + 1 - 1) / 1 = n + 1 by simp, List.range'_succ, List.forIn_cons, h1]
  cases n with
  | zero => rfl
  | succ n =>
    show (forIn (List.range' (0 + 1) (n + 1) 1) b f : Sem σ) = pure b
    rw [List.range'_succ, List.forIn_cons, h2]; rfl
open PySem.Builtin PySem.Builtin._codecs in
theorem encodeNarrow_ascii (id : String) (self : Value) (x : Str) (h0 : x.cps.size ≠ 0) (h : ∀ c ∈ x.cps.toList, c < 128) (hz : x.cps.size ≤ sizeLine) :
    encodeNarrow id asciiCodec none self x = pure (x.cps.map fun c => c.toUInt8) := by
  obtain ⟨n, hn⟩ : ∃ n, x.cps.size = n + 1 := ⟨x.cps.size - 1, by omega⟩
  have hnone : x.cps.findIdx? asciiCodec.bad = none := by
    rw [Array.findIdx?_eq_none_iff]
    intro c hc
    have := h c (by simpa using hc)
    show decide (c ≥ 128) = false
    simp; omega
  have hf : (x.cps.extract 0 x.cps.size) = x.cps := by simp
  have hfold : Array.foldl (fun (acc : Array UInt8) y => acc ++ (asciiCodec.bytesOf y).toArray) #[] x.cps = x.cps.map fun c => c.toUInt8 := by
    rw [← Array.foldl_toList]
    have : ∀ (l : List Nat) (acc : Array UInt8), List.foldl (fun (acc : Array UInt8) y => acc ++ (asciiCodec.bytesOf y).toArray) acc l = acc ++ (l.map fun c => c.toUInt8).toArray := by
      intro l
      induction l with
      | nil => intro acc; simp
      | cons c l ih => intro acc; simp [ih, asciiCodec]
    rw [this]
    rw [← List.map_toArray, Array.toArray_toList, Array.empty_append]
  have hc0 : x.cps[0]? = some x.cps[0] := by simp [hn]
  have hb0 : asciiCodec.bad x.cps[0] = false := by
    have := h x.cps[0] (by simp)
    show decide (_ ≥ 128) = false
    simp; omega
  have hend : x.cps[x.cps.size]? = none := by simp
  unfold encodeNarrow
  dsimp only
  have hl : x.length = n + 1 := hn
  rw [hl]
  refine (congrArg (fun m => m >>= _) (forIn_two _ _ (x.cps.size, x.cps.map fun c => c.toUInt8, {}) (fun k => ?_) (fun k => ?_) n)).trans rfl
  · dsimp only
    rw [if_neg (by simp), hc0]
    dsimp only
    rw [hb0]
    rw [show (!false) = true from rfl, if_pos rfl, hf, hnone]
    simp only [Option.getD_none, hf, hfold, Nat.zero_add]
  · dsimp only
    rw [if_neg (by simp; omega), hend]

section
variable {prog : Program} {w : World} {A : Around} {G : GData} {s : Shared} {O : List Addr}

theorem call_isinst_str {x : Str} : CallOk prog w A G O (.builtin "isinstance") [.str x, .raw (.type "str")] (.bool true) := fun s vs g ho r => by
  obtain ⟨v, u, rfl, r1, r2⟩ := reps2 r
  rw [Rep] at r1
  rw [Rep] at r2
  obtain ⟨t, rfl⟩ := r1
  subst r2
  exact call_isinstance_yes (Tx := "str") (typeIs_str _ _ _) (by rfl) PySem.isSubtype_str_str ⟨Step.refl s, rep_bool⟩

theorem str_meth {name : Str} {id : String} (slot : Slot "str" name id) (hty : typeOf (.builtin id) = pure (.type "method_descriptor")) {O : List Addr} {x : Str} {pl : Sem Bool} : ∀ (s : Shared) v, Rep O s.heap (.str x) v → ∀ Q : Value × List Value → Shared → Prop, Q (.builtin id, [v]) s → wpAny (model prog w) A (getMethod v name pl) Q noE s := fun s v r Q h => by
  rw [Rep] at r
  obtain ⟨t, rfl⟩ := r
  exact GM.of (.str x t) (typeIs_str _ _ _) slot hty GM.noRef h

theorem m_format {O : List Addr} {x : Str} {pl : Sem Bool} : ∀ (s : Shared) v, Rep O s.heap (.str x) v → ∀ Q : Value × List Value → Shared → Prop, Q (.builtin "str.format", [v]) s → wpAny (model prog w) A (getMethod v (Str.ofString "format") pl) Q noE s := str_meth PySem.F.slot_str_format_m PySem.F.type_str_format_m
theorem m_encode {O : List Addr} {x : Str} {pl : Sem Bool} : ∀ (s : Shared) v, Rep O s.heap (.str x) v → ∀ Q : Value × List Value → Shared → Prop, Q (.builtin "str.encode", [v]) s → wpAny (model prog w) A (getMethod v (Str.ofString "encode") pl) Q noE s := str_meth PySem.F.slot_str_encode PySem.F.type_str_encode
theorem m_split {O : List Addr} {x : Str} {pl : Sem Bool} : ∀ (s : Shared) v, Rep O s.heap (.str x) v → ∀ Q : Value × List Value → Shared → Prop, Q (.builtin "str.split", [v]) s → wpAny (model prog w) A (getMethod v (Str.ofString "split") pl) Q noE s := str_meth PySem.F.slot_str_split PySem.F.type_str_split
theorem m_endswith {O : List Addr} {x : Str} {pl : Sem Bool} : ∀ (s : Shared) v, Rep O s.heap (.str x) v → ∀ Q : Value × List Value → Shared → Prop, Q (.builtin "str.endswith", [v]) s → wpAny (model prog w) A (getMethod v (Str.ofString "endswith") pl) Q noE s := str_meth PySem.F.slot_str_endswith PySem.F.type_str_endswith
theorem m_join {O : List Addr} {x : Str} {pl : Sem Bool} : ∀ (s : Shared) v, Rep O s.heap (.str x) v → ∀ Q : Value × List Value → Shared → Prop, Q (.builtin "str.join", [v]) s → wpAny (model prog w) A (getMethod v (Str.ofString "join") pl) Q noE s := str_meth PySem.F.slot_str_join PySem.F.type_str_join
theorem call_encode {x : Str} (h0 : x.cps.size ≠ 0) (h : ∀ c ∈ x.cps.toList, c < 128) (hz : x.cps.size ≤ sizeLine) : CallOk prog w A G O (.builtin "str.encode") [.str x, .str (Str.ofString "ascii")] (.bytes (x.cps.map fun c => c.toUInt8)) := fun s vs g ho r => by
  obtain ⟨v, u, rfl, r1, r2⟩ := reps2 r
  rw [Rep] at r1 r2
  obtain ⟨t, rfl⟩ := r1
  obtain ⟨t', rfl⟩ := r2
  refine call_gives PySem.F.slot_str_encode (typeIs_str _ _ _) PySem.F.entry_str_encode (PySem.F.args_str_encode_2 _ _) (m := .bytes (x.cps.map fun c => c.toUInt8)) ?_ ⟨by simpa using hz, Step.toks, rep_bytes⟩
  refine Gives.of_eq ?_
  have e : Builtin.«str.encode» ⟨[.str x t, .str (Str.ofString "ascii") t'], []⟩ = (do ret (← Builtin._codecs.encodeRoad "str.encode" (.str x t) x (Str.ofString "ascii") none)) := by
    have hc : Builtin.Str.codecArg "str.encode" "encode" "'encoding'" (some (.str (Str.ofString "ascii") t')) = pure (some (Str.ofString "ascii")) := by
      show (if (Str.ofString "ascii").cps.any (fun c => decide (c ≥ 128)) = true then _ else if (Str.ofString "ascii").cps.contains 0 = true then _ else _) = _
      rw [if_neg (by decide +kernel), if_neg (by decide +kernel)]
    show (Builtin.Str.codecArg "str.encode" "encode" "'encoding'" (some (.str (Str.ofString "ascii") t')) >>= _) = _
    rw [hc]
    rfl
  have e2 : Builtin._codecs.encodeRoad "str.encode" (.str x t) x (Str.ofString "ascii") none = (do mkBytes (← Builtin._codecs.encodeNarrow "str.encode" Builtin._codecs.asciiCodec none (.str x t) x)) := by
    unfold Builtin._codecs.encodeRoad
    rw [show (Builtin._codecs.normalName (Str.ofString "ascii")).toString = "ascii" by kernel_rfl]
    first | rfl | simp only
  rw [e, e2, encodeNarrow_ascii _ _ _ h0 h hz]
  rfl

theorem spec_fdd (g : Gr w G) {k : Nat} (hr : Room (k + 1) A) (x : Str) (h0 : x.cps.size ≠ 0) (h : ∀ c ∈ x.cps.toList, c < 128) (hz : x.cps.size ≤ sizeLine) : CallOk prog w A G O (.ref 50) [.str x] (.bytes (x.cps.map fun c => c.toUInt8)) := by
  refine callOk_of fun s vs gi hO hR => ?_
  obtain ⟨v, rfl, h1⟩ := reps1 hR
  refine g.enter (f := 50) (binds := [(Str.ofString "s", v)]) (ρ := [(Str.ofString "s", .str x)]) hr rfl rfl rfl (by dsimp only) (by kernel_rfl) rfl rfl rfl rfl rfl rfl gi hO (wpAny_pure ⟨rfl, rfl⟩) (.cons h1 .nil) (by kernel_rfl) ?_
  intro fd L s₁ hn I
  refine x_if I (Tr.plain (Ev.callBlt (by walk_at "gl") (by walk_at "evs") call_isinst_str) truth_bool) (fun hb s₃ I₃ => ?_) (fun hb => absurd hb (by decide))
  refine x_try ?_
  refine x_ret I₃ (Ev.meth (by walk_at "ev") (str_meth PySem.F.slot_str_encode PySem.F.type_str_encode) (by walk_at "evs") (call_encode h0 h hz)) fun s' v I' r => ⟨v, rfl, I'.step, r⟩

noncomputable def chInts (x : Str) : List Int := (x.cps.map fun c => c.toUInt8).toList.map fun c => (c.toNat : Int)
theorem spec_dec (g : Gr w G) {k : Nat} (hr : Room (k + 3) A) (x : Str) (h0 : x.cps.size ≠ 0) (h : ∀ c ∈ x.cps.toList, c < 128) (hz : x.cps.size ≤ 1000)
    (hfin : (decFold (chInts x)).2.1 ≠ 1 ∧ ((decFold (chInts x)).2.1 = 0 ∨ 4 ≤ (decFold (chInts x)).2.1 + (decFold (chInts x)).2.2.2)) : CallOk prog w A G O (.ref 123) [.str x] (.bytes (byteArr (decFold (chInts x)).1)) := by
  refine callOk_of fun s vs gi hO hR => ?_
  obtain ⟨v, rfl, h1⟩ := reps1 hR
  refine g.enter (f := 123) (binds := [(Str.ofString "s", v), (Str.ofString "altchars", .none), (Str.ofString "validate", .bool false)]) (ρ := [(Str.ofString "s", .str x), (Str.ofString "altchars", .none), (Str.ofString "validate", .bool false)]) hr rfl rfl rfl (by dsimp only) (by kernel_rfl) rfl rfl rfl rfl rfl rfl gi hO
    ((BindsTo.of_defaults rfl (gi.keep _ _ (g.kin _ _ rfl)) rfl rfl rfl) _ _ _ _ ⟨rfl, rfl⟩) (.cons h1 (.cons rep_none (.cons rep_bool .nil))) (by kernel_rfl) ?_
  intro fd L s₁ hn I
  have hr' : Room (k + 2) (A.deeper (callEnvC fd L 123)) := hr.deeper
  generalize hA : A.deeper (callEnvC fd L 123) = A' at hr' ⊢
  refine x_assign I (Ev.callDef (by walk_at "gl") (g.kin _ _ rfl) rfl (by walk_at "evs") (spec_fdd g hr' x h0 h (by size_fits))) (put_of (s := s) hn (by kernel_rfl)) (by walk_at "put") fun s₂ I₂ => ?_
  refine x_if I₂ (by walk_at "tr") (fun hb => absurd hb (by decide)) (fun hb s₃ I₃ => ?_)
  refine x_nil ?_
  refine x_ret I₃ (Ev.callKw (dk := .bool false) (by walk_at "gl") (g.kin _ _ rfl) rfl (by walk_at "evs") (by walk_at "ev") (fun s vs kv gi ho r rk => by
    rw [Rep] at rk; subst rk
    exact spec_a2b g hr' _ (by simpa using hz) hfin s vs gi ho r)) fun s' v I' r => ⟨v, rfl, I'.step, r⟩
end
end
local macro_rules | `(tactic| walk_at "meth") => `(tactic| ((with_reducible refine' Ev.meth ?h1 ?h2 ?h3 ?h4 ?h5 ?h6 ?h7); (case h5 => first | with_unfolding_all rfl | rfl); (case h1 => walk_at "ev"); (case h3 => walk_at "evs"); (case h6 => first | rfl | with_unfolding_all rfl); (case h7 => first | rfl | with_unfolding_all rfl); (case h2 => with_reducible first | exact m_format | exact m_encode | exact m_split | exact m_endswith | exact m_join)))
local macro_rules | `(tactic| walk_at "asgC") => `(tactic| ((case hclos => with_unfolding_all rfl); (case hln => rfl); (case hnm => decide); (case hcell => decide); (case hkind => rfl); (case hnames => decide); (case hs => intro _; with_unfolding_all rfl); (case hk => exact kind_of (by assumption) (by kernel_rfl))))
local macro_rules | `(tactic| walk_at "sub") => `(tactic| first | ((with_reducible refine' sub_list ?h1 ?h2 ?h3); (case h1 => decide); (case h2 => decide); (case h3 => rfl)) | ((with_reducible refine' sub_tuple ?h1 ?h2 ?h3); (case h1 => decide); (case h2 => decide); (case h3 => rfl)))
local macro_rules | `(tactic| walk_at "blt") => `(tactic| first | ((with_reducible refine' call_len ?h1); (case h1 => first | decide | (simp only [List.length_map, List.length_cons, List.length_nil]; omega) | omega)))
local macro_rules | `(tactic| walk_at "ev") => `(tactic| first
  | ((with_reducible refine' Ev.sub ?h1 ?h2 ?h3); (case h1 => walk_at "ev"); (case h2 => walk_at "ev"); (case h3 => walk_at "sub"))
  | ((with_reducible refine' Ev.callBlt ?h1 ?h2 ?h3 ?h4 ?h5 ?h6); (case h1 => walk_at "gl"); (case h2 => walk_at "evs"); (case h3 => walk_at "blt"); (case h4 => first | rfl | with_unfolding_all rfl); (case h5 => first | rfl | with_unfolding_all rfl); (case h6 => first | rfl | with_unfolding_all rfl)))
section
section
variable {prog : Program} {w : World} {A : Around} {G : GData} {s : Shared} {O : List Addr}

theorem call_fmt1 {n : Int} (h0 : 0 ≤ n) (h1 : n ≤ 1000) : CallOk prog w A G O (.builtin "str.format") [.str (Str.ofString "{}"), .int n] (.str (Str.ofString (toString n))) := fun s vs g ho r => by
  obtain ⟨v, u, rfl, r1, r2⟩ := reps2 r
  rw [Rep] at r1
  rw [Rep] at r2
  obtain ⟨t, rfl⟩ := r1
  obtain ⟨t', rfl⟩ := r2
  refine KFm.call_k (T := Str.ofString (toString n)) (by kfm_eq) (by kfm_args) (by kfm_run) fun t' k => ⟨Step.toks, rep_str⟩

theorem call_fmt2 {n m : Int} (h0 : 0 ≤ n) (h1 : n ≤ 1000) (h2 : 0 ≤ m) (h3 : m ≤ 1000) : CallOk prog w A G O (.builtin "str.format") [.str (Str.ofString "{},{}"), .int n, .int m] (.str (Str.ofString (toString n) ++ ⟨#[44]⟩ ++ Str.ofString (toString m))) := fun s vs g ho r => by
  obtain ⟨v, u, u', rfl, r1, r2, r3⟩ := reps3 r
  rw [Rep] at r1
  rw [Rep] at r2 r3
  obtain ⟨t, rfl⟩ := r1
  obtain ⟨t', rfl⟩ := r2
  obtain ⟨t'', rfl⟩ := r3
  refine KFm.call_k (T := _) (by kfm_eq) (KFm.args_3 _ _ _) (by kfm_run) fun t' k => ⟨Step.toks, rep_str⟩

@[irreducible] noncomputable def num (n : Int) : Str := Str.ofString (toString n)
@[irreducible] noncomputable def comma : Str := ⟨#[44]⟩
theorem call_num1 (n : Int) (h0 : 0 ≤ n) (h1 : n ≤ 1000) : CallOk prog w A G O (.builtin "str.format") [.str (Str.ofString "{}"), .int n] (.str (num n)) := by unfold num; exact call_fmt1 h0 h1
theorem call_num2 (n m : Int) (h0 : 0 ≤ n) (h1 : n ≤ 1000) (h2 : 0 ≤ m) (h3 : m ≤ 1000) : CallOk prog w A G O (.builtin "str.format") [.str (Str.ofString "{},{}"), .int n, .int m] (.str (num n ++ comma ++ num m)) := by unfold num comma; exact call_fmt2 h0 h1 h2 h3
noncomputable def uniText (a b : Int) : Str := if b - a = 1 then num (a + 1) else if b - a = 0 then num (a + 1 - 1) ++ comma ++ num (b - a) else num (a + 1) ++ comma ++ num (b - a)
noncomputable def ctxText (a b : Int) : Str := if b - a = 0 then num (a + 1 - 1) else if b - a = 1 then num (a + 1) else num (a + 1) ++ comma ++ num (a + 1 + (b - a) - 1)

theorem spec_uni (g : Gr w G) {k : Nat} (hr : Room (k + 1) A) (a b : Int) (ha : 0 ≤ a) (hab : a ≤ b) (hb : b ≤ 900) : CallOk prog w A G O (.ref 28) [.int a, .int b] (.str (uniText a b)) := by
  refine callOk_of fun s vs gi hO hR => ?_
  obtain ⟨v, u, rfl, h1, h2⟩ := reps2 hR
  refine g.enter (f := 28) (binds := [(Str.ofString "start", v), (Str.ofString "stop", u)]) (ρ := [(Str.ofString "start", .int a), (Str.ofString "stop", .int b)]) hr rfl rfl rfl (by dsimp only) (by kernel_rfl) rfl rfl rfl rfl rfl rfl gi hO (wpAny_pure ⟨rfl, rfl⟩) (.cons h1 (.cons h2 .nil)) (by kernel_rfl) ?_
  intro fd L s₁ hn I
  refine x_assign I (by walk_at "ev") (put_of (s := s) hn (by kernel_rfl)) (by walk_at "put") fun s₂ I₂ => ?_
  refine x_assign I₂ (by walk_at "ev") (put_of (s := s) hn (by kernel_rfl)) (by walk_at "put") fun s₃ I₃ => ?_
  unfold uniText
  refine x_if I₃ (by walk_at "tr") (fun hb s₄ I₄ => ?_) (fun hb s₄ I₄ => ?_)
  · have hb' : b - a = 1 := by simpa using hb
    rw [if_pos hb']
    exact x_ret I₄ (by walk_at "meth"; exact call_num1 (a + 1) (by omega) (by omega)) fun s' v I' r => ⟨v, rfl, I'.step, r⟩
  · have hb' : b - a ≠ 1 := by simpa using hb
    rw [if_neg hb']
    refine x_nil ?_
    refine x_if I₄ (by walk_at "tr") (fun hb2 s₅ I₅ => ?_) (fun hb2 s₅ I₅ => ?_)
    · have hb2' : b - a = 0 := by simpa using hb2
      rw [if_pos hb2']
      refine x_aug I₅ (by walk_at "mem") (by walk_at "ev") op_isub (put_of (s := s) hn (by kernel_rfl)) (by walk_at "put") fun s₆ I₆ => ?_
      refine x_nil ?_
      exact x_ret I₆ (by walk_at "meth"; exact call_num2 (a + 1 - 1) (b - a) (by omega) (by omega) (by omega) (by omega)) fun s' v I' r => ⟨v, rfl, I'.step, r⟩
    · have hb2' : b - a ≠ 0 := by simpa using hb2
      rw [if_neg hb2']
      refine x_nil ?_
      exact x_ret I₅ (by walk_at "meth"; exact call_num2 (a + 1) (b - a) (by omega) (by omega) (by omega) (by omega)) fun s' v I' r => ⟨v, rfl, I'.step, r⟩

theorem spec_ctx (g : Gr w G) {k : Nat} (hr : Room (k + 1) A) (a b : Int) (ha : 0 ≤ a) (hab : a ≤ b) (hb : b ≤ 900) : CallOk prog w A G O (.ref 35) [.int a, .int b] (.str (ctxText a b)) := by
  refine callOk_of fun s vs gi hO hR => ?_
  obtain ⟨v, u, rfl, h1, h2⟩ := reps2 hR
  refine g.enter (f := 35) (binds := [(Str.ofString "start", v), (Str.ofString "stop", u)]) (ρ := [(Str.ofString "start", .int a), (Str.ofString "stop", .int b)]) hr rfl rfl rfl (by dsimp only) (by kernel_rfl) rfl rfl rfl rfl rfl rfl gi hO (wpAny_pure ⟨rfl, rfl⟩) (.cons h1 (.cons h2 .nil)) (by kernel_rfl) ?_
  intro fd L s₁ hn I
  refine x_assign I (by walk_at "ev") (put_of (s := s) hn (by kernel_rfl)) (by walk_at "put") fun s₂ I₂ => ?_
  refine x_assign I₂ (by walk_at "ev") (put_of (s := s) hn (by kernel_rfl)) (by walk_at "put") fun s₃ I₃ => ?_
  unfold ctxText
  refine x_if I₃ (by walk_at "tr") (fun hb s₄ I₄ => ?_) (fun hb s₄ I₄ => ?_)
  · have hb' : b - a = 0 := by simpa using hb
    rw [if_pos hb']
    refine x_aug I₄ (by walk_at "mem") (by walk_at "ev") op_isub (put_of (s := s) hn (by kernel_rfl)) (by walk_at "put") fun s₆ I₆ => ?_
    refine x_nil ?_
    refine x_if I₆ (by walk_at "tr") (fun hb2 s₅ I₅ => ?_) (fun hb2 => absurd hb2 (by simp; omega))
    exact x_ret I₅ (by walk_at "meth"; exact call_num1 (a + 1 - 1) (by omega) (by omega)) fun s' v I' r => ⟨v, rfl, I'.step, r⟩
  · have hb' : b - a ≠ 0 := by simpa using hb
    rw [if_neg hb']
    refine x_nil ?_
    refine x_if I₄ (by walk_at "tr") (fun hb2 s₅ I₅ => ?_) (fun hb2 s₅ I₅ => ?_)
    · have hb2' : b - a ≤ 1 := by simpa using hb2
      rw [if_pos (by omega)]
      exact x_ret I₅ (by walk_at "meth"; exact call_num1 (a + 1) (by omega) (by omega)) fun s' v I' r => ⟨v, rfl, I'.step, r⟩
    · have hb2' : ¬ b - a ≤ 1 := by simpa using hb2
      rw [if_neg (by omega)]
      refine x_nil ?_
      exact x_ret I₅ (by walk_at "meth"; exact call_num2 (a + 1) (a + 1 + (b - a) - 1) (by omega) (by omega) (by omega) (by omega)) fun s' v I' r => ⟨v, rfl, I'.step, r⟩
end
end
section
open PySem.Builtin.Str
section
/-! what the two texts of a range read as -/
noncomputable def cmm : Str := Str.ofString ","
noncomputable def okParts (x : Str) (ns : List Int) : Bool := (Txt.split x cmm).map PySem.intText? == ns.map some && (Txt.split x cmm).all fun p => decide (p.length ≤ 640)
noncomputable def uniInts (a b : Int) : List Int := if b - a = 1 then [a + 1] else if b - a = 0 then [a, 0] else [a + 1, b - a]
noncomputable def ctxInts (a b : Int) : List Int := if b - a = 0 then [a] else if b - a = 1 then [a + 1] else [a + 1, b]
noncomputable def chkR (a b : Nat) : Bool := decide (b < a) || (okParts (uniText a b) (uniInts a b) && okParts (ctxText a b) (ctxInts a b) && !(0 + (Str.ofString ",1").length ≤ (uniText a b).length && Builtin.Str.subAt (uniText a b) (Str.ofString ",1") ((uniText a b).length - (Str.ofString ",1").length)) && decide ((uniText a b).length ≤ 640) && decide ((ctxText a b).length ≤ 640))
theorem chkR_all : ((List.range 26).all fun a => (List.range 26).all fun b => chkR a b) = true := by kernel_rfl
theorem chkR_of {a b : Nat} (ha : a ≤ 25) (hb : b ≤ 25) : chkR a b = true := by
  have := chkR_all
  rw [List.all_eq_true] at this
  have := this a (List.mem_range.mpr (by (first | lia | omega)))
  rw [List.all_eq_true] at this
  exact this b (List.mem_range.mpr (by (first | lia | omega)))
noncomputable def endsOne (x : Str) : Bool := (0 + (Str.ofString ",1").length ≤ x.length && Builtin.Str.subAt x (Str.ofString ",1") (x.length - (Str.ofString ",1").length))
theorem range_facts {a b : Nat} (hab : a ≤ b) (hb : b ≤ 25) : okParts (uniText a b) (uniInts a b) = true ∧ okParts (ctxText a b) (ctxInts a b) = true ∧ endsOne (uniText a b) = false ∧ (uniText a b).length ≤ 640 ∧ (ctxText a b).length ≤ 640 := by
  have hc := chkR_of (a := a) (b := b) (by (first | lia | omega)) hb
  unfold chkR at hc
  rw [Bool.or_eq_true] at hc
  have hc := hc.resolve_left (by simp; (first | lia | omega))
  rw [Bool.and_eq_true, Bool.and_eq_true, Bool.and_eq_true, Bool.and_eq_true] at hc
  obtain ⟨⟨⟨⟨c1, c2⟩, c3⟩, c4⟩, c5⟩ := hc
  refine ⟨c1, c2, ?_, of_decide_eq_true c4, of_decide_eq_true c5⟩
  cases e : endsOne (uniText a b) with
  | false => rfl
  | true => unfold endsOne at e; rw [e] at c3; cases c3
end
section
variable {prog : Program} {w : World} {A : Around} {G : GData} {s : Shared} {O : List Addr}

theorem reps_strs {h : Heap} : ∀ l : List (Str × Tok), Reps O h ((l.map (·.1)).map .str) (strValues l)
  | [] => Reps.nil
  | p :: l => Reps.cons rep_str (reps_strs l)
theorem call_split {x y : Str} (hy : (y.length == 0) = false) (hsz : x.length + 2 ≤ sizeLine) : CallOk prog w A G O (.builtin "str.split") [.str x, .str y] (.list ((Txt.split x y).map .str)) := fun s vs g ho r => by
  obtain ⟨v, u, rfl, r1, r2⟩ := reps2 r
  rw [Rep] at r1 r2
  obtain ⟨t, rfl⟩ := r1
  obtain ⟨u, rfl⟩ := r2
  have fin : ∀ (l : List (Str × Tok)) (tk : Nat), l.map (·.1) = Txt.split x y → Step s { s with heap := s.heap.push { cls := .type "list", data := .seq (strValues l).toArray }, toks := tk } ∧ Rep O (s.heap.push { cls := .type "list", data := .seq (strValues l).toArray }) (.list ((Txt.split x y).map .str)) (.ref s.heap.objs.size) := fun l tk e => by
    have := newList_rep ho (reps_strs (O := O) (h := s.heap) l)
    refine ⟨Step.of_keeps fun _ _ e => Heap.get?_push_of_some _ e, ?_⟩
    rw [← e]; exact this.2
  have hn : (partsBetween x (occurrences x y 0 x.length (x.length + 1)) y.length).length ≤ sizeLine := by
    have e1 := StrLaws.occ_length_le x y 0 x.length (x.length + 1)
    rw [length_partsBetween]; (first | lia | omega)
  cases h1 : (decide (x.length < y.length) || decide (strKind x < strKind y))
  · cases hf : (occurrences x y 0 x.length (x.length + 1)).isEmpty
    · refine call_meets PySem.F.slot_str_split (typeIs_str _ _ _) PySem.F.entry_str_split (PySem.F.args_str_split_2 _ _) (meets_str_split_sep x y t u h1 hy hf (by (first | lia | omega)) hn) ?_
      have := fin (numbered s.toks _) (s.toks + (partsBetween x (occurrences x y 0 x.length (x.length + 1)) y.length).length) ((numbered_texts _ (partsBetween x (occurrences x y 0 x.length (x.length + 1)) y.length)).trans ((if_neg (ne_true_of_eq_false h1)).trans (if_neg (ne_true_of_eq_false hf))).symm)
      rw [← strsFrom_eq] at this
      exact this
    · exact call_meets PySem.F.slot_str_split (typeIs_str _ _ _) PySem.F.entry_str_split (PySem.F.args_str_split_2 _ _) (meets_str_split_not_found x y t u h1 hy hf) (fin [(x, t)] s.toks ((if_neg (ne_true_of_eq_false h1)).trans (if_pos hf)).symm)
  · exact call_meets PySem.F.slot_str_split (typeIs_str _ _ _) PySem.F.entry_str_split (PySem.F.args_str_split_2 _ _) (meets_str_split_cannot_occur x y t u h1) (fin [(x, t)] s.toks (if_pos h1).symm)
end
end
section
section
variable {prog : Program} {w : World} {A : Around} {G : GData} {s : Shared} {O : List Addr}

noncomputable def toI (p : Str) : D := .int ((PySem.intText? p).getD 0)
theorem okParts_ints {x : Str} {ns : List Int} (h : okParts x ns = true) : (Txt.split x cmm).map toI = ns.map .int ∧ (∀ p ∈ Txt.split x cmm, ∃ n, PySem.intText? p = some n ∧ p.length ≤ 640) ∧ (Txt.split x cmm).length = ns.length := by
  unfold okParts at h
  rw [Bool.and_eq_true, beq_iff_eq, List.all_eq_true] at h
  obtain ⟨h1, h2⟩ := h
  refine ⟨?_, fun p hp => ?_, ?_⟩
  · have : (Txt.split x cmm).map toI = ((Txt.split x cmm).map PySem.intText?).map fun o => D.int (o.getD 0) := by rw [List.map_map]; rfl
    rw [this, h1, List.map_map]; rfl
  · have hm : PySem.intText? p ∈ (Txt.split x cmm).map PySem.intText? := List.mem_map_of_mem hp
    rw [h1] at hm
    obtain ⟨n, _, e⟩ := List.mem_map.mp hm
    exact ⟨n, e.symm, by simpa using h2 p hp⟩
  · have := congrArg List.length h1
    simpa using this

theorem Ev.as {F : Fm} {ρ : List (Str × D)} {C : List (Addr × List D)} {e : Expr} {d d' : D} (h : Ev prog w A G F ρ C e d) (hd : d = d') : Ev prog w A G F ρ C e d' := hd ▸ h
theorem call_endswith {x : Str} : CallOk prog w A G O (.builtin "str.endswith") [.str x, .str (Str.ofString ",1")] (.bool (endsOne x)) := fun s vs g ho r => by
  obtain ⟨v, u, rfl, r1, r2⟩ := reps2 r
  rw [Rep] at r1 r2
  obtain ⟨t, rfl⟩ := r1
  obtain ⟨u, rfl⟩ := r2
  exact call_gives PySem.F.slot_str_endswith (typeIs_str _ _ _) PySem.F.entry_str_endswith (PySem.F.args_str_endswith_2 _ _) (gives_str_endswith x _ t u) ⟨Step.refl s, rep_bool⟩
theorem x_parts {fd : FuncData} {f L : Addr} {ρ : List (Str × D)} {names : List (Str × NameKind)} (g : Gr w G) (hh : A.handled = none) (hn : fd.scope.names = names) : True := trivial

theorem spec_lu (g : Gr w G) {k : Nat} (hr : Room (k + 1) A) (a b : Nat) (hab : a ≤ b) (hb : b ≤ 25) : CallOk prog w A G O (.ref 163) [.str (uniText a b)] (.list [.int a, .int b]) := by
  refine callOk_of fun s vs gi hO hR => ?_
  obtain ⟨v, rfl, h1⟩ := reps1 hR
  obtain ⟨c1, -, c3, c4, -⟩ := range_facts hab hb
  obtain ⟨p1, p2, p3⟩ := okParts_ints c1
  have hl : (uniInts (a : Int) b).length ≤ 2 := by unfold uniInts; split; · simp
                                                   split <;> simp
  generalize uniText a b = x at *
  refine g.enter (f := 163) (binds := [(Str.ofString "text", v)]) (ρ := [(Str.ofString "text", .str x)]) hr rfl rfl rfl (by dsimp only) (by kernel_rfl) rfl rfl rfl rfl rfl rfl gi hO (wpAny_pure ⟨rfl, rfl⟩) (.cons h1 .nil) (by kernel_rfl) ?_
  intro fd L s₁ hn I
  have hr' : Room k (A.deeper (callEnvC fd L 163)) := hr.deeper
  have hh : (A.deeper (callEnvC fd L 163)).handled = none := hr'.1
  generalize hA : A.deeper (callEnvC fd L 163) = A' at hr' hh ⊢
  with_reducible refine' x_assignC (Txt.split x cmm) .str toI [] (fun p => [(Str.ofString "part", .str p)]) [] (ρ' := [(Str.ofString "text", .str x), (Str.ofString "parts", .list ((Txt.split x cmm).map toI))]) I (fun _ => trivial) ?hi Sees.nil ?hclos ?hap ?htgt ?hsub ?helt ?hk ?P (fun s₂ I₂ => ?next) ?hz ?hln ?hnm ?hcell ?hkind ?hnames ?hs
  walk_at "asgC"
  case hi => exact (IterE.of (d := .list ((Txt.split x cmm).map .str)) (by walk_at "meth"; exact call_split (by decide) (by size_fits)) (iters_list hh))
  case hap => exact List.Pairwise.nil
  case hsub => exact fun _ _ => List.nil_sublist _
  case P => walk_at "put"
  case hz => size_fits
  case htgt => exact fun p hp L Dd b kp ok => Tgt.name (.inl (by with_unfolding_all rfl)) PutTo.nil
  case helt =>
    intro p hp L Dd b kp ok C'
    obtain ⟨n, e1, e2⟩ := p2 p hp
    have : toI p = .int n := by unfold toI; rw [e1]; rfl
    rw [this]
    exact Ev.callTyp (by walk_at "gl") (by walk_at "evs") (call_intS e1 e2)
  case next =>
    rw [p1] at I₂
    have hends : ∀ {F : Fm} {ρ : List (Str × D)} {C : List (Addr × List D)}, CallOk prog w A' G F.O (.builtin "str.endswith") [.str x, .str (Str.ofString ",1")] (.bool (endsOne x)) := fun {F ρ C} => call_endswith
    rw [c3] at hends
    by_cases e1 : (b : Int) - a = 1
    · have hu : uniInts (a : Int) b = [(a : Int) + 1] := by unfold uniInts; rw [if_pos e1]
      rw [hu] at I₂
      simp only [List.map_cons, List.map_nil] at I₂
      refine x_assign I₂ (Ev.ite (d := .int 1) (by walk_at "tr") (fun h => absurd h (by simp)) (fun h => by walk_at "ev")) (put_of (s := s) hn (by kernel_rfl)) (by walk_at "put") fun s₃ I₃ => ?_
      refine x_if I₃ (Tr.plain (by walk_at "meth"; exact hends (F := fnFm fd 163 L O s) (ρ := []) (C := [])) truth_bool) (fun h => absurd h (by decide)) fun _ s₄ I₄ => ?_
      refine x_nil ?_
      exact x_ret I₄ (Ev.ite (d := .list [.int a, .int b]) (by walk_at "tr") (fun h => absurd h (by decide)) (fun h => Ev.as (by walk_at "ev") (by simp; (first | lia | omega)))) fun s' v I' r => ⟨v, rfl, I'.step, r⟩
    · by_cases e2 : (b : Int) - a = 0
      · have hu : uniInts (a : Int) b = [(a : Int), 0] := by unfold uniInts; rw [if_neg e1, if_pos e2]
        rw [hu] at I₂
        simp only [List.map_cons, List.map_nil] at I₂
        refine x_assign I₂ (Ev.ite (d := .int 0) (by walk_at "tr") (fun h => by walk_at "ev") (fun h => absurd h (by simp))) (put_of (s := s) hn (by kernel_rfl)) (by walk_at "put") fun s₃ I₃ => ?_
        refine x_if I₃ (Tr.plain (by walk_at "meth"; exact hends (F := fnFm fd 163 L O s) (ρ := []) (C := [])) truth_bool) (fun h => absurd h (by decide)) fun _ s₄ I₄ => ?_
        refine x_nil ?_
        exact x_ret I₄ (Ev.ite (d := .list [.int a, .int b]) (by walk_at "tr") (fun h => Ev.as (by walk_at "ev") (by simp; (first | lia | omega))) (fun h => absurd h (by decide))) fun s' v I' r => ⟨v, rfl, I'.step, r⟩
      · have hu : uniInts (a : Int) b = [(a : Int) + 1, (b : Int) - a] := by unfold uniInts; rw [if_neg e1, if_neg e2]
        rw [hu] at I₂
        simp only [List.map_cons, List.map_nil] at I₂
        refine x_assign I₂ (Ev.ite (d := .int ((b : Int) - a)) (by walk_at "tr") (fun h => by walk_at "ev") (fun h => absurd h (by simp))) (put_of (s := s) hn (by kernel_rfl)) (by walk_at "put") fun s₃ I₃ => ?_
        refine x_if I₃ (Tr.plain (by walk_at "meth"; exact hends (F := fnFm fd 163 L O s) (ρ := []) (C := [])) truth_bool) (fun h => absurd h (by decide)) fun _ s₄ I₄ => ?_
        refine x_nil ?_
        exact x_ret I₄ (Ev.ite (d := .list [.int a, .int b]) (by walk_at "tr") (fun h => absurd h (by simpa using e2)) (fun h => Ev.as (by walk_at "ev") (by simp; (first | lia | omega)))) fun s' v I' r => ⟨v, rfl, I'.step, r⟩

theorem spec_lc (g : Gr w G) {k : Nat} (hr : Room (k + 1) A) (a b : Nat) (hab : a ≤ b) (hb : b ≤ 25) : CallOk prog w A G O (.ref 168) [.str (ctxText a b), .int ((b : Int) - a)] (.list [.int a, .int b]) := by
  refine callOk_of fun s vs gi hO hR => ?_
  obtain ⟨v, u, rfl, h1, h2⟩ := reps2 hR
  obtain ⟨-, c1, -, -, c4⟩ := range_facts hab hb
  obtain ⟨p1, p2, p3⟩ := okParts_ints c1
  have hl : (ctxInts (a : Int) b).length ≤ 2 := by unfold ctxInts; split; · simp
                                                   split <;> simp
  generalize ctxText a b = x at *
  refine g.enter (f := 168) (binds := [(Str.ofString "text", v), (Str.ofString "many", u)]) (ρ := [(Str.ofString "text", .str x), (Str.ofString "many", .int ((b : Int) - a))]) hr rfl rfl rfl (by dsimp only) (by kernel_rfl) rfl rfl rfl rfl rfl rfl gi hO (wpAny_pure ⟨rfl, rfl⟩) (.cons h1 (.cons h2 .nil)) (by kernel_rfl) ?_
  intro fd L s₁ hn I
  have hr' : Room k (A.deeper (callEnvC fd L 168)) := hr.deeper
  have hh : (A.deeper (callEnvC fd L 168)).handled = none := hr'.1
  generalize hA : A.deeper (callEnvC fd L 168) = A' at hr' hh ⊢
  with_reducible refine' x_assignC (Txt.split x cmm) .str toI [] (fun p => [(Str.ofString "part", .str p)]) [] (ρ' := [(Str.ofString "text", .str x), (Str.ofString "many", .int ((b : Int) - a)), (Str.ofString "parts", .list ((Txt.split x cmm).map toI))]) I (fun _ => trivial) ?hi Sees.nil ?hclos ?hap ?htgt ?hsub ?helt ?hk ?P (fun s₂ I₂ => ?next) ?hz ?hln ?hnm ?hcell ?hkind ?hnames ?hs
  walk_at "asgC"
  case hi => exact (IterE.of (d := .list ((Txt.split x cmm).map .str)) (by walk_at "meth"; exact call_split (by decide) (by size_fits)) (iters_list hh))
  case hap => exact List.Pairwise.nil
  case hsub => exact fun _ _ => List.nil_sublist _
  case P => walk_at "put"
  case hz => size_fits
  case htgt => exact fun p hp L Dd b kp ok => Tgt.name (.inl (by with_unfolding_all rfl)) PutTo.nil
  case helt =>
    intro p hp L Dd b kp ok C'
    obtain ⟨n, e1, e2⟩ := p2 p hp
    have : toI p = .int n := by unfold toI; rw [e1]; rfl
    rw [this]
    exact Ev.callTyp (by walk_at "gl") (by walk_at "evs") (call_intS e1 e2)
  case next =>
    rw [p1] at I₂
    by_cases e2 : (b : Int) - a = 0
    · have hu : ctxInts (a : Int) b = [(a : Int)] := by unfold ctxInts; rw [if_pos e2]
      rw [hu] at I₂
      simp only [List.map_cons, List.map_nil] at I₂
      refine x_if I₂ (by walk_at "tr") (fun _ s₃ I₃ => ?_) (fun h => absurd h (by simp))
      exact x_ret I₃ (Ev.ite (d := .list [.int a, .int b]) (by walk_at "tr") (fun h => Ev.as (by walk_at "ev") (by simp; (first | lia | omega))) (fun h => absurd h (by simpa using e2))) fun s' v I' r => ⟨v, rfl, I'.step, r⟩
    · by_cases e1 : (b : Int) - a = 1
      · have hu : ctxInts (a : Int) b = [(a : Int) + 1] := by unfold ctxInts; rw [if_neg e2, if_pos e1]
        rw [hu] at I₂
        simp only [List.map_cons, List.map_nil] at I₂
        refine x_if I₂ (by walk_at "tr") (fun _ s₃ I₃ => ?_) (fun h => absurd h (by simp))
        exact x_ret I₃ (Ev.ite (d := .list [.int a, .int b]) (by walk_at "tr") (fun h => absurd h (by simpa using e2)) (fun h => Ev.as (by walk_at "ev") (by simp; (first | lia | omega)))) fun s' v I' r => ⟨v, rfl, I'.step, r⟩
      · have hu : ctxInts (a : Int) b = [(a : Int) + 1, (b : Int)] := by unfold ctxInts; rw [if_neg e2, if_neg e1]
        rw [hu] at I₂
        simp only [List.map_cons, List.map_nil] at I₂
        refine x_if I₂ (by walk_at "tr") (fun h => absurd h (by simp)) (fun _ s₃ I₃ => ?_)
        refine x_nil ?_
        exact x_ret I₃ (Ev.ite (d := .list [.int a, .int b]) (by walk_at "tr") (fun h => Ev.as (by walk_at "ev") (by simp)) (fun h => absurd h (by simp; (first | lia | omega)))) fun s' v I' r => ⟨v, rfl, I'.step, r⟩
end
end
section
set_option Elab.async false
set_option maxRecDepth 100000
set_option linter.unusedVariables false

open PySem.Calls

/-! a comprehension over a generator: while it is drawn from, the list of generators holds one that is not at its end -/

structure StepH (s s' : Shared) : Prop where
  keep : ∀ b o, b ∉ tabs → s.heap.get? b = some o → s'.heap.get? b = some o
  tab : TabOk s.heap → TabOk s'.heap
  os : s'.os = s.os
theorem Step.h {s s' : Shared} (x : Step s s') : StepH s s' := ⟨x.keep, x.tab, x.os⟩
theorem StepH.trans {a b c : Shared} (x : StepH a b) (y : StepH b c) : StepH a c := ⟨fun q o hq e => y.keep q o hq (x.keep q o hq e), fun t => y.tab (x.tab t), y.os.trans x.os⟩
theorem StepH.full {s s' : Shared} (x : StepH s s') (g : ∃ l : List GenState, s'.gens = s.gens ++ l.toArray ∧ ∀ g ∈ l, g.bare = true) : Step s s' := ⟨x.keep, x.tab, x.os, g⟩
noncomputable abbrev reb (b s : Shared) : Shared := { b with gens := s.gens }
theorem StepH.reb {b s : Shared} (x : StepH b s) : Step (reb b s) s := ⟨x.keep, x.tab, x.os, [], by simp, by simp⟩
theorem StepH.reb' {b s : Shared} {h : Heap} {tk : Nat} (x : StepH b { s with heap := h, toks := tk }) : Step (Mine.reb b s) { s with heap := h, toks := tk } := ⟨x.keep, x.tab, x.os, [], by simp, by simp⟩

structure NxH (z : Addr) (b₀ s s' : Shared) : Prop where
  step : ∀ base, StepH base b₀ → StepH base s'
  keep : ∀ b o, b ∉ tabs → (∀ vs, o.data ≠ .fields vs) → (∀ es ep, o.data = .dict es ep → b ≠ z) → s.heap.get? b = some o → s'.heap.get? b = some o

section
variable {prog : Program} {w : World} {A : Around} {G : GData} {F : Fm} {ρ ρ' ρf : List (Str × D)} {C C' : List (Addr × List D)} {s s' : Shared} {O : List Addr}

theorem Inv.rebase {b' : Shared} (I : Inv G F ρ C s) (hb : b'.heap = F.base.heap) (hs : s'.heap = s.heap) (st : Step b' s') (hkp : F.kp s') : Inv G { F with base := b' } ρ C s' where
  step := st
  gb := ⟨fun b o e => by show b'.heap.get? b = _; rw [hb]; exact I.gb.keep b o e, by show TabOk b'.heap; rw [hb]; exact I.gb.tab⟩
  okO := by rw [hs]; exact I.okO
  kind := I.kind
  glob := I.glob
  blt := I.blt
  ns := by rw [hs]; exact I.ns
  new := by show b'.heap.get? _ = _; rw [hb]; exact I.new
  offTab := I.offTab
  nd := I.nd
  vars := by rw [hs]; exact I.vars
  W := by
    intro p hp
    have := I.W p hp
    show _ ∧ _ ∧ (∃ v, s'.heap.IsCell p.2 v) ∧ b'.heap.get? _ = _ ∧ _
    rw [hs, hb]; exact this
  apart := I.apart
  own := by
    intro p hp
    have := I.own p hp
    show _ ∧ b'.heap.get? _ = _ ∧ _ ∧ ∃ vs, s'.heap.PlainList _ _ ∧ Reps _ s'.heap _ _
    rw [hs, hb]; exact this
  ownNd := I.ownNd
  kpGo := I.kpGo
  kpBut := I.kpBut
  kp := hkp
  okL := I.okL
  okW := I.okW
  okOwn := I.okOwn
theorem Inv.loose (I : Inv G F ρ C s) : Inv G { F with kp := fun _ => True } ρ C s :=
  { step := I.step, gb := I.gb, okO := I.okO, kind := I.kind, glob := I.glob, blt := I.blt, ns := I.ns, new := I.new, offTab := I.offTab, nd := I.nd, vars := I.vars, W := I.W, apart := I.apart, own := I.own, ownNd := I.ownNd,
    kpGo := fun _ _ _ _ => trivial, kpBut := fun _ _ _ _ _ _ _ => trivial, kp := trivial, okL := I.okL, okW := I.okW, okOwn := I.okOwn }
theorem Inv.goH (I : Inv G F ρ C s) (st : StepH s s') : Inv G { F with base := reb F.base s', kp := fun _ => True } ρ C s' := by
  have st0 : Step (reb F.base s') { s with gens := s'.gens } := ⟨I.step.keep, I.step.tab, I.step.os, [], by simp, by simp⟩
  have J := (I.loose).rebase (b' := reb F.base s') (s' := { s with gens := s'.gens }) rfl rfl st0 trivial
  exact J.go ⟨st.keep, st.tab, st.os, [], by simp, by simp⟩
theorem NxH.rep {z : Addr} {b₀ s s' : Shared} {O : List Addr} {d : D} {v : Value} (x : NxH z b₀ s s') (ho : ∀ a ∈ tabs, a ∈ O) (r : Rep O s.heap d v) : Rep O s'.heap d v :=
  Rep.mono (fun b o xs n hb hd e => x.keep b o (fun q => hb (ho b q)) (fun vs q => by rw [hd] at q; cases q) (fun es ep q => by rw [hd] at q; cases q) e) (fun _ ha => .inl ha) d v r
theorem NxH.reps {z : Addr} {b₀ s s' : Shared} {O : List Addr} {d : List D} {v : List Value} (x : NxH z b₀ s s') (ho : ∀ a ∈ tabs, a ∈ O) (r : Reps O s.heap d v) : Reps O s'.heap d v :=
  Reps.mono (fun b o xs n hb hd e => x.keep b o (fun q => hb (ho b q)) (fun vs q => by rw [hd] at q; cases q) (fun es ep q => by rw [hd] at q; cases q) e) (fun _ ha => .inl ha) d v r
theorem Inv.nxH {z : Addr} {b₀ : Shared} (I : Inv G F ρ C s) (hb : StepH F.base b₀) (x : NxH z b₀ s s') (hz : F.env.locals ≠ z) (hkp : F.kp s') : Inv G { F with base := reb F.base s' } ρ C s' := by
  have st : StepH F.base s' := x.step _ hb
  have gi' : GI G s' := ⟨fun b o e => st.keep b o (fun q => by rw [G.notab b q] at e; cases e) (I.gb.keep b o e), st.tab I.gb.tab⟩
  refine { step := st.reb, gb := ⟨I.gb.keep, I.gb.tab⟩, okO := ⟨I.okO.tabs, gi'.tab.there, fun a ha z => let ⟨o, xs, n, e, hd⟩ := I.okO.live a ha z; ⟨o, xs, n, x.keep a o z (fun vs q => by rw [hd] at q; cases q) (fun es ep q => by rw [hd] at q; cases q) e, hd⟩⟩, kind := I.kind, glob := I.glob, blt := I.blt, ns := ?_, new := I.new, offTab := I.offTab, nd := I.nd, vars := fun p hp => ?_, W := fun p hp => ?_, apart := I.apart, own := fun p hp => ?_, ownNd := I.ownNd, kpGo := I.kpGo, kpBut := I.kpBut, kp := hkp, okL := I.okL, okW := I.okW, okOwn := I.okOwn }
  · obtain ⟨m, o, es, ep, h1, h2, h3⟩ := I.ns
    exact ⟨m, o, es, ep, x.keep _ _ I.offTab (fun vs q => by rw [h2] at q; cases q) (fun _ _ _ => hz) h1, h2, h3⟩
  · obtain ⟨v, h1, h2⟩ := I.vars p hp
    obtain ⟨m, hn⟩ := I.ns
    refine ⟨v, h1.keeps (fun o e => ?_) (fun c w _ q => ?_), x.rep I.okO.tabs h2⟩
    · obtain ⟨es, ep, h3⟩ := ns_data hn o e
      exact x.keep _ _ I.offTab (fun vs q => by rw [h3] at q; cases q) (fun _ _ _ => hz) e
    · have := cell_offTab I.gi.tab q
      obtain ⟨o, e, r⟩ := q
      exact ⟨o, x.keep _ _ this (fun vs q => by rw [r] at q; cases q) (fun _ _ q => by rw [r] at q; cases q) e, r⟩
  · obtain ⟨h1, h2, ⟨v, q⟩, h4, h5⟩ := I.W p hp
    refine ⟨h1, h2, ?_, h4, h5⟩
    obtain ⟨o, e, r⟩ := q
    exact ⟨v, o, x.keep _ _ h5 (fun vs q => by rw [r] at q; cases q) (fun _ _ q => by rw [r] at q; cases q) e, r⟩
  · obtain ⟨h1, h2, h3, vs, h4, h5⟩ := I.own p hp
    refine ⟨h1, h2, h3, vs, ?_, x.reps I.okO.tabs h5⟩
    obtain ⟨n, e⟩ := h4
    exact ⟨n, x.keep _ _ h3 (fun vs q => by cases q) (fun _ _ q => by cases q) e⟩

structure ItG (prog : Program) (w : World) (A : Around) (G : GData) (O : List Addr) (b₀ b₁ : Shared) (it : Value) (ds : List D) (z L Dd : Addr) (St : Nat → Shared → Prop) : Prop where
  go : ∀ i s s', St i s → Step s s' → St i s'
  but : ∀ i (s : Shared) a h' tk, St i s → Heap.SameBut a s.heap h' → (a = L ∨ a = Dd) → KindOk (Dd :: O) a s.heap → SeqStays a s.heap h' → St i { s with heap := h', toks := tk }
  item : ∀ i (s : Shared) d, ds[i]? = some d → St i s → GI G s → OkO O s.heap → wpAny (model prog w) A (pyNext it) (fun r s' => ∃ v, r = some v ∧ NxH z b₀ s s' ∧ St (i + 1) s' ∧ ∀ O', (∀ a ∈ O', a ∈ O ∨ b₁.heap.get? a = none) → Rep O' s'.heap d v) noE s
  done : ∀ (s : Shared), St ds.length s → GI G s → OkO O s.heap → wpAny (model prog w) A (pyNext it) (fun r s' => r = none ∧ NxH z b₀ s s' ∧ ∃ l : List GenState, s'.gens = b₀.gens ++ l.toArray ∧ ∀ g ∈ l, g.bare = true) noE s
  self : ∀ i (s : Shared), St i s → wpAny (model prog w) A (pyIter it) (fun v s' => v = it ∧ s' = s) noE s
  owned : ∀ i (s : Shared) target v, St i s → wpAny (model prog w) A (letOwnedTupleGo target it v) (fun _ s' => s' = s) noE s

noncomputable def IterG (prog : Program) (w : World) (A : Around) (G : GData) (F : Fm) (ρ : List (Str × D)) (C : List (Addr × List D)) (e : Expr) (ds : List D) : Prop :=
  ∀ s, Inv G F ρ C s → wpAny (model prog w) A (eval e F.env) (fun v s₁ => wpAny (model prog w) A (pyIter v) (fun it s₂ => StepH s s₂ ∧ ∃ z, (∃ o, s₂.heap.get? z = some o) ∧ ∀ L Dd (h₁ : Heap) tk, (∀ b o, s₂.heap.get? b = some o → h₁.get? b = some o) → s₂.heap.get? L = none → s₂.heap.get? Dd = none →
    h₁.PlainList Dd (List.toArray []) → (∃ m, h₁.Ns L m) → ∃ St, ItG prog w A G F.O s s₂ it ds z L Dd St ∧ St 0 { s₂ with heap := h₁, toks := tk }) noE s₁) noE s

theorem comp_coreG {α : Type} {xs : List α} {g r : α → D} {ρt : α → List (Str × D)} {elt target iter : Expr} {scope : Scope} {cl : List (Str × Addr)} {pos ipos : Pos} {use : Option (Value → Sem Unit)} {Q : Value → Shared → Prop}
    (I : Inv G F ρ C s) (hi : IterG prog w A G F ρ C iter (xs.map g)) (hsee : Sees F scope cl ρ ρf) (hclos : closureFor scope F.env = pure cl) (hap : cl.Pairwise fun x y => x.2 ≠ y.2)
    (htgt : ∀ x ∈ xs, ∀ L Dd b kp ok, Tgt prog w A G (compFm F scope cl L Dd b kp ok) target (g x) ρf (ρt x))
    (hsub : ∀ x ∈ xs, ρf.Sublist (ρt x))
    (helt : ∀ x ∈ xs, ∀ L Dd b kp ok C', Ev prog w A G (compFm F scope cl L Dd b kp ok) (ρt x) C' elt (r x))
    (hQ : ∀ s' v C₀, Step s s' → Rep F.O s'.heap (.list (xs.map r)) v → s.heap.get? C₀ = none → C₀ ∉ tabs → (∃ m, s'.heap.Ns C₀ m) → compPost (model prog w) A noE use Q v C₀ (.ok .next) s')
    (hcell : ∀ y ∈ scope.names, y.2 ≠ .cell) (hkind : scope.kind = .function) (hnames : ∀ y ∈ scope.names, y.2 = .local → scope.names.lookup y.1 = some .local)
    (hz : xs.length ≤ sizeLine) (hs : ∀ x, foldedSetIterable iter F.env x = pure x) :
    wpAny (model prog w) A (comprehension (.ListComp elt [⟨target, iter, [], 0⟩] scope pos) scope F.env ipos (newList []) false (eval iter F.env) use) Q noE s := by
  refine wpAny_comprehension_free (g := ⟨target, iter, [], 0⟩) (gs := []) rfl hs hclos hkind hnames (wpAny_mono (hi s I) (fun v s₁ y => wpAny_mono y (fun it s₂ z => ?_) fun _ _ e => e) fun _ _ e => e)
  obtain ⟨st₂, z, ⟨oz, hoz⟩, mk⟩ := z
  have I₂ := I.goH st₂
  refine wpAny_newObj_type (wpAny_newFunctionEnv hcell (by intro y hy; simp at hy) (fun h₁ hns₁ hsb₁ => ?_) hkind)
  dsimp only at hns₁ hsb₁ ⊢
  generalize hH2 : s₂.heap.push { cls := .type "list", dict := none, data := .seq ([] : List Value).toArray } = H2 at hns₁ hsb₁ ⊢
  have hC : H2.objs.size = s₂.heap.objs.size + 1 := by rw [← hH2, Heap.size_push]
  have hDn : s₂.heap.get? s₂.heap.objs.size = none := get?_size _
  have hLn : s₂.heap.get? H2.objs.size = none := by
    cases e : s₂.heap.get? H2.objs.size with
    | none => rfl
    | some o => have := Heap.lt_size e; rw [hC] at this; exact absurd this (Nat.not_lt.mpr (Nat.le_succ _))
  have hDC : s₂.heap.objs.size ≠ H2.objs.size := by rw [hC]; exact Nat.ne_of_lt (Nat.lt_succ_self _)
  have old : ∀ b o, s₂.heap.get? b = some o → h₁.get? b = some o := fun b o e =>
    hsb₁.extBut b o (fun q => by rw [q, hLn] at e; cases e) (Heap.get?_push_of_some _ (hH2 ▸ Heap.get?_push_of_some _ e))
  have hacc : h₁.PlainList s₂.heap.objs.size (List.toArray []) := by
    refine ⟨_, hsb₁.extBut _ _ hDC (Heap.get?_push_of_some _ (hH2 ▸ Heap.get?_push_size _ rfl))⟩
  generalize hDd : s₂.heap.objs.size = Dd at *
  generalize hLL : H2.objs.size = L at *
  have hDt : Dd ∉ tabs := fresh_offTab I₂.gi.tab hDn
  have hLt : L ∉ tabs := fresh_offTab I₂.gi.tab hLn
  have none₀ : ∀ a, a ∉ tabs → s₂.heap.get? a = none → s.heap.get? a = none := fun a ha e => by
    cases q : s.heap.get? a with
    | none => rfl
    | some o => have := st₂.keep a o ha q; rw [e] at this; cases this
  have hLn₀ := none₀ L hLt hLn
  have hDn₀ := none₀ Dd hDt hDn
  let F₀ : Shared → Fm := fun b => compFm F scope cl L Dd b (fun _ => True) (fun a => a = L ∨ a = Dd)
  have st₃ : Step s₂ { s₂ with heap := h₁, toks := s₂.toks + ([] : List (Str × Value)).length } := Step.of_keeps old
  have stH : StepH s { s₂ with heap := h₁, toks := s₂.toks + ([] : List (Str × Value)).length } := st₂.trans st₃.h
  have I₃ : Inv G (F₀ (reb s s₂)) ρf [(Dd, [])] { s₂ with heap := h₁, toks := s₂.toks + ([] : List (Str × Value)).length } := by
    refine { step := stH.reb', gb := ⟨I.gi.keep, I.gi.tab⟩, okO := ⟨fun a ha => .tail _ (I₂.okO.tabs a ha), ((I₂.go st₃).gi).tab.there, fun a ha z => ?_⟩, kind := hkind, glob := I.glob, blt := I.blt, ns := ⟨_, hns₁⟩, new := hLn₀, offTab := hLt, nd := hsee.1, vars := fun p hp => ?_, W := by simp [F₀], apart := hap, own := fun p hp => ?_, ownNd := by simp, kpGo := fun _ _ _ _ => trivial, kpBut := fun _ _ _ _ _ _ _ => trivial, kp := trivial, okL := .inl rfl, okW := by simp [F₀], okOwn := fun p hp => ?_ }
    · rcases List.mem_cons.mp ha with rfl | q
      · obtain ⟨o, e, _, n, hd⟩ := hacc.isList; exact ⟨o, _, n, e, hd⟩
      · exact (I₂.go st₃).okO.live a q z
    · obtain ⟨h1, h2, h3, h4⟩ := hsee.2 p hp
      obtain ⟨v, k1, k2⟩ := (I₂.go st₃).vars p h1
      refine ⟨v, .inr ⟨h2, ?_⟩, ?_⟩
      · rcases k1 with ⟨k, _⟩ | ⟨_, c, e, q⟩
        · exact absurd k h4
        · exact ⟨c, h3.trans e, q⟩
      · obtain ⟨v', k1', k2'⟩ := I₂.vars p h1
        have e : v' = v := by
          rcases k1' with ⟨k, _⟩ | ⟨_, c, e, q⟩
          · exact absurd k h4
          · rcases k1 with ⟨k, _⟩ | ⟨_, c', e', q'⟩
            · exact absurd k h4
            · rw [e] at e'; cases e'
              obtain ⟨o, g1, g2⟩ := q
              obtain ⟨o', g1', g2'⟩ := q'
              rw [show h₁.get? c = some o from old _ _ g1] at g1'; cases g1'
              rw [g2] at g2'; cases g2'; rfl
        subst e
        exact Rep.mono (fun b o _ _ _ _ e => old b o e) (fun a ha => by
          rcases List.mem_cons.mp ha with rfl | q
          · exact .inr hDn
          · exact .inl q) _ _ k2'
    · simp only [List.mem_singleton] at hp; subst hp
      exact ⟨.head _, hDn₀, hDt, [], hacc, Reps.nil⟩
    · simp only [List.mem_singleton] at hp; subst hp; exact .inr rfl
  obtain ⟨St, ok, hst₃⟩ := mk L Dd h₁ (s₂.toks + ([] : List (Str × Value)).length) old hLn hDn hacc ⟨_, hns₁⟩
  have loop : codeAny (model prog w) A (.compLoop (.ListComp elt [⟨target, iter, [], 0⟩] scope pos) 0 it (.ref Dd) (compEnvC scope cl L F.env)) (compPost (model prog w) A noE use Q (.ref Dd) L) { s₂ with heap := h₁, toks := s₂.toks + ([] : List (Str × Value)).length } := by
    refine codeAny_compLoop_any (fun n s' => ∃ i b, i ≤ xs.length ∧ n = xs.length - i ∧ b.heap = s.heap ∧ b.os = s.os ∧ Inv G (F₀ b) ρf [(Dd, (xs.take i).map r)] s' ∧ St i s') ?_ xs.length ⟨0, reb s s₂, Nat.zero_le _, rfl, rfl, rfl, I₃, hst₃⟩
    rintro n s' ⟨i, b, hle, rfl, hbh, hbo, I', hSt⟩
    have hsb : StepH b s := ⟨fun c o _ e => by rw [hbh] at e; exact e, fun t => by rw [hbh] at t; exact t, hbo.symm⟩
    have hokO : OkO F.O s'.heap := ⟨I.okO.tabs, I'.okO.there, fun a ha z => I'.okO.live a (.tail _ ha) z⟩
    by_cases hlt : i < xs.length
    · have hmem : xs[i] ∈ xs := List.getElem_mem hlt
      have hd : (xs.map g)[i]? = some (g xs[i]) := by simp [hlt]
      refine wpAny_mono (ok.item i s' _ hd hSt I'.gi hokO) (fun rr s₄ q => ?_) fun _ _ e => e
      obtain ⟨v', rfl, nx, hSt', hR⟩ := q
      have I₄ : Inv G (F₀ (reb b s₄)) ρf [(Dd, (xs.take i).map r)] s₄ := I'.nxH hsb nx (fun q : L = z => by rw [q, hoz] at hLn; cases hLn) trivial
      have I₅ : Inv G ((F₀ (reb b s₄)).with (St (i + 1))) ρf [(Dd, (xs.take i).map r)] s₄ := I₄.keeping hSt' (ok.go (i + 1)) (fun s a h' tk p hs ho k st => ok.but (i + 1) s a h' tk p hs (by
        rcases ho with rfl | rfl
        · exact .inl rfl
        · exact .inr rfl) k st)
      refine wpAny_mono (ok.owned (i + 1) s₄ target v' hSt') (fun _ s₅ e => ?_) fun _ _ e => e
      subst e
      have hR' : Rep (Dd :: F.O) s₅.heap (g xs[i]) v' := hR _ fun a ha => by
        rcases List.mem_cons.mp ha with rfl | q
        · exact .inr hDn
        · exact .inl q
      refine htgt _ hmem L Dd (reb b s₅) _ _ _ _ v' _ I₅ hR' fun s₆ I₆ => ?_
      refine wpAny_mono (helt _ hmem L Dd (reb b s₅) _ _ _ s₆ I₆) (fun x s₇ z => ?_) fun _ _ e => e
      have I₇ := I₆.go z.1
      obtain ⟨k1, k2, k3, us, k4, k5⟩ := I₇.own _ (.head _)
      dsimp only at k1 k2 k3 k4 k5
      refine wpAny_list_append_plain k4 (fun h' hl hsb => ?_) ?_
      · have I₈ := I₇.setOwn (vs' := us ++ [x]) (ds' := (xs.take i).map r ++ [r xs[i]]) (by simpa using hl) hsb (k5.append (Reps.cons z.2 Reps.nil))
        refine ⟨xs.length - (i + 1), by (first | lia | omega), i + 1, reb b s₅, by (first | lia | omega), rfl, hbh, hbo, ?_, I₈.kp.2⟩
        have e : (xs.take (i + 1)).map r = (xs.take i).map r ++ [r xs[i]] := by
          rw [List.take_succ_eq_append_getElem hlt, List.map_append]; rfl
        rw [e]
        exact (I₈.less (hsub _ hmem)).forget (fun _ _ _ _ => trivial) (fun _ _ _ _ _ _ _ => trivial)
      · have := k5.length
        simp only [List.length_map, List.length_take] at this
        simp only [List.size_toArray]
        (first | lia | omega)
    · have : i = xs.length := by (first | lia | omega)
      subst this
      refine wpAny_mono (ok.done s' (by simpa using hSt) I'.gi hokO) (fun rr s₄ q => ?_) fun _ _ e => e
      obtain ⟨rfl, nx, hgens⟩ := q
      have I₄ : Inv G (F₀ (reb b s₄)) ρf [(Dd, (xs.take xs.length).map r)] s₄ := I'.nxH hsb nx (fun q : L = z => by rw [q, hoz] at hLn; cases hLn) trivial
      have stF : Step s s₄ := StepH.full (StepH.trans ⟨fun c o _ e => by rw [← hbh] at e; exact e, fun t => by rw [← hbh] at t; exact t, hbo⟩ (show StepH b s₄ from ⟨I₄.step.keep, I₄.step.tab, I₄.step.os⟩)) hgens
      rw [List.take_length] at I₄
      obtain ⟨k1, k2, k3, us, k4, k5⟩ := I₄.own _ (.head _)
      dsimp only at k1 k2 k3 k4 k5
      refine hQ s₄ _ L stF ?_ hLn₀ hLt I₄.ns
      rw [Rep]
      exact ⟨Dd, us, rfl, (fun q => I₂.okO.fresh hDn q), k4.isList, Reps.mono (fun b o _ _ _ _ e => e) (fun a ha => .inl (.tail _ ha)) _ _ k5⟩
  exact codeAny_compStart_list loop (wpAny_mono (ok.self 0 _ hst₃) (fun it' s' e => by obtain ⟨rfl, rfl⟩ := e; exact loop) fun _ _ e => e.elim)

theorem Ev.compG {α : Type} (xs : List α) (g r : α → D) (ρf : List (Str × D)) (ρt : α → List (Str × D)) (cl : List (Str × Addr)) {elt target iter : Expr} {scope : Scope} {pos : Pos}
    (hi : IterG prog w A G F ρ C iter (xs.map g)) (hsee : Sees F scope cl ρ ρf) (hclos : closureFor scope F.env = pure cl) (hap : cl.Pairwise fun x y => x.2 ≠ y.2)
    (htgt : ∀ x ∈ xs, ∀ L Dd b kp ok, Tgt prog w A G (compFm F scope cl L Dd b kp ok) target (g x) ρf (ρt x))
    (hsub : ∀ x ∈ xs, ρf.Sublist (ρt x))
    (helt : ∀ x ∈ xs, ∀ L Dd b kp ok C', Ev prog w A G (compFm F scope cl L Dd b kp ok) (ρt x) C' elt (r x))
    (hz : xs.length ≤ sizeLine)
    (hcell : ∀ y ∈ scope.names, y.2 ≠ .cell := by decide) (hkind : scope.kind = .function := by rfl) (hnames : ∀ y ∈ scope.names, y.2 = .local → scope.names.lookup y.1 = some .local := by decide)
    (hs : ∀ x, foldedSetIterable iter F.env x = pure x := by intro _; with_unfolding_all rfl) :
    Ev prog w A G F ρ C (.ListComp elt [⟨target, iter, [], 0⟩] scope pos) (.list (xs.map r)) := fun s I => by
  rw [eval_ListComp]
  refine comp_coreG (use := Option.none) I hi hsee hclos hap htgt hsub helt (fun s' v C₀ st hR hn ht hns => ?_) hcell hkind hnames hz hs
  obtain ⟨m, hns⟩ := hns
  refine ⟨m, hns, fun h' hsb => ⟨?_, ?_⟩⟩
  · refine step_sameBut (tk := s'.toks) st (I.gi.step st).tab hn ht (fun o e vs q => ?_) hsb
    obtain ⟨es, ep, h3⟩ := ns_data hns o e; rw [q] at h3; cases h3
  · refine hR.but hsb fun o xs n e q => ?_
    obtain ⟨es, ep, h3⟩ := ns_data hns o e; rw [q] at h3; cases h3

end
end
section
set_option Elab.async false
set_option maxRecDepth 100000
set_option linter.unusedVariables false

open PySem.Calls

/-! the statements of a generator's body -/
section
variable {M : Model} {A : Around} {R : GenEnd} {Y : Protocol} {n : Nat} {s₀ : Shared} {c : Code} {fs : List Frame} {s : Shared} {env : Env}

theorem wrap_bind {α β γ : Type} (m : Sem α) (f : α → Sem β) (K : β → Sem γ) (H : Value → Sem γ) (gd lv) : (m >>= f).wrap K H gd lv = m.wrap (fun a => (f a).wrap K H gd lv) H gd lv := by
  rw [Sem.bind_eq_wrap', Sem.wrap_wrap]; rfl
theorem seg_bw {α β : Type} {m : Sem α} {f : α → Sem β} {K : β → Sem Fin} {H : Value → Sem Fin} {gd lv} (h : wpAny M (A.over c fs) m (fun a s' => Seg M A R Y n s₀ c ((f a).wrap K H gd lv) fs s') noE s) :
    Seg M A R Y n s₀ c ((m >>= f).wrap K H gd lv) fs s := by
  rw [wrap_bind]
  exact seg_wrap (wpAny_mono h (fun _ _ x => x) fun _ _ e => e.elim)
theorem seg_w {β : Type} {m : Sem β} {K : β → Sem Fin} {H : Value → Sem Fin} {gd lv} (h : wpAny M (A.over c fs) m (fun a s' => Seg M A R Y n s₀ c (K a) fs s') noE s) :
    Seg M A R Y n s₀ c (m.wrap K H gd lv) fs s := seg_wrap (wpAny_mono h (fun _ _ x => x) fun _ _ e => e.elim)

theorem seg_If {K : Flow → Sem Fin} {H : Value → Sem Fin} {gd lv} {test : Expr} {body orelse : List Stmt} {pos : Pos}
    (h : wpAny M (A.over c fs) (isTrue test env (eval test env)) (fun b s' => Seg M A R Y n s₀ c ((execs (if b = true then body else orelse) env).wrap K H gd lv) fs s') noE s) :
    Seg M A R Y n s₀ c ((exec (.If test body orelse pos) env).wrap K H gd lv) fs s := by
  rw [exec_If]
  refine seg_bw (wpAny_standAt (seg_bw (wpAny_mono h (fun b s' h' => ?_) fun _ _ e => e)))
  cases b <;> exact h'

theorem seg_For {K : Flow → Sem Fin} {H : Value → Sem Fin} {gd lv} {target iter : Expr} {body orelse : List Stmt} {pos : Pos}
    (h : wpAny M (A.over c fs) (eval iter env) (fun x s₁ => wpAny M (A.over c fs) (pyIter x) (fun it s₂ => ∀ p, Seg M A R Y n s₀ (.forLoop target it body orelse env) (M.den (.forLoop target it body orelse env))
      (.ret (fun r => ((match r with | .ok f => (.pure f : Sem Flow) | .error e => .raise e).onRaise fun (x : Value) => do
        if (← field x 1) == Value.none then unsupported "frame.own-activation:exception-without-traceback"
        setFlight x env.frame).wrap K H gd lv) none (gd false) (lv []) c p [] :: fs) s₂) noE s₁) noE s)
    (hs : ∀ x, foldedSetIterable iter env x = pure x) :
    Seg M A R Y n s₀ c ((exec (.For target iter body orelse pos) env).wrap K H gd lv) fs s := by
  rw [exec_For]
  refine seg_bw (wpAny_standAt (seg_bw (wpAny_mono h (fun v s₁ h₁ => ?_) fun _ _ e => e)))
  refine seg_bw (wpAny_of_eq (hs v) (seg_bw (wpAny_standAt (seg_bw (wpAny_holding (wpAny_mono h₁ (fun it s₂ h₂ => ?_) fun _ _ e => e))))))
  exact seg_call h₂
end

section
variable {prog : Program} {w : World} {A : Around} {R : GenEnd} {Y : Protocol} {n : Nat} {s₀ : Shared} {fs : List Frame} {s : Shared} {env : Env}

theorem seg_forLoop {target : Expr} {it : Value} {body : List Stmt} {k : Result → Sem Fin} {hh g l c₁ p₁ kp}
    (h : wpAny (model prog w) (A.over (.forLoop target it body [] env) (.ret k hh g l c₁ p₁ kp :: fs)) (pyNext it) (fun r s₁ => match r with
      | none => Seg (model prog w) A R Y n s₀ c₁ (k (.ok .next)) fs s₁
      | some v => wpAny (model prog w) (A.over (.forLoop target it body [] env) (.ret k hh g l c₁ p₁ kp :: fs)) (letOwnedTupleGo target it v) (fun _ s₂ => wpAny (model prog w) (A.over (.forLoop target it body [] env) (.ret k hh g l c₁ p₁ kp :: fs)) (assign target env v) (fun _ s₃ =>
          ∀ H, Seg (model prog w) A R Y n s₀ (.forLoop target it body [] env) ((execs body env).wrap (fun f => (match f with
            | .next | .cont => again (.forLoop target it body [] env)
            | .brk => pure (.done .next)
            | .ret v => pure (.done (.ret v)) : Sem Fin).wrap .pure H id id) H id id) (.ret k hh g l c₁ p₁ kp :: fs) s₃) noE s₂) noE s₁) noE s) :
    Seg (model prog w) A R Y n s₀ (.forLoop target it body [] env) ((model prog w).den (.forLoop target it body [] env)) (.ret k hh g l c₁ p₁ kp :: fs) s := by
  show Seg _ A R Y n s₀ _ ((forTurn target it body [] env).onRaise (fun x => do noteFrame x env; theTreesLotGoes x)) _ s
  rw [Sem.onRaise_eq_wrap]
  unfold forTurn
  refine seg_bw (wpAny_standAt (seg_bw (wpAny_onRaise (wpAny_mono h (fun r s₁ h₁ => ?_) fun _ _ e => e.elim))))
  cases r with
  | none =>
    show Seg _ A R Y n s₀ _ (.pure (.again (.block [] env))) _ s₁
    refine seg_again rfl ?_
    exact seg_leaf (.ok .next) h₁
  | some v =>
    exact seg_bw (wpAny_mono h₁ (fun _ s₂ h₂ => seg_bw (wpAny_mono h₂ (fun _ s₃ h₃ => by rw [wrap_bind]; exact h₃ _) fun _ _ e => e)) fun _ _ e => e)
end
end
section
set_option Elab.async false
set_option maxRecDepth 100000
set_option linter.unusedVariables false

open PySem.Calls

section
variable {prog : Program} {w : World} {A : Around} {G : GData} {F : Fm} {ρ ρ' ρf : List (Str × D)} {C C' : List (Addr × List D)} {s s' : Shared} {O : List Addr}

theorem exec_of_execs {M : Model} {st : Stmt} {env : Env} {P : Shared → Prop} (h : wpAny M A (execs [st] env) (fun f s' => f = .next ∧ P s') noE s) : wpAny M A (exec st env) (fun f s' => f = .next ∧ P s') noE s := fun Γ p hΓ => by
  have := h Γ p hΓ
  rw [execs_cons, Sem.wp_bind'] at this
  refine Sem.wp_mono M Γ _ (fun f p' s' h' => ?_) (fun _ _ _ h' => h') _ _ this
  cases f with
  | next => exact h'
  | _ => cases h'.1

theorem Inv.rekp (kp' : Shared → Prop) (ok' : Addr → Prop) (I : Inv G F ρ C s) (go : ∀ s s', kp' s → Step s s' → kp' s') (but : ∀ (s : Shared) a h' tk, kp' s → Heap.SameBut a s.heap h' → Own { F with kp := kp', ok := ok' } a s.heap h' → kp' { s with heap := h', toks := tk }) (h : kp' s)
    (okL : ok' F.env.locals) (okW : ∀ p ∈ F.W, ok' p.2) (okOwn : ∀ p ∈ C, ok' p.1) : Inv G { F with kp := kp', ok := ok' } ρ C s :=
  { step := I.step, gb := I.gb, okO := I.okO, kind := I.kind, glob := I.glob, blt := I.blt, ns := I.ns, new := I.new, offTab := I.offTab, nd := I.nd, vars := I.vars, W := I.W, apart := I.apart, own := I.own, ownNd := I.ownNd,
    kpGo := go, kpBut := but, kp := h, okL := okL, okW := okW, okOwn := okOwn }

/-- something else is written -/
theorem Inv.other {a : Addr} {h' : Heap} {tk : Nat} (I : Inv G F ρ [] s) (hs : Heap.SameBut a s.heap h') (hL : F.env.locals ≠ a) (ht : a ∉ tabs) (hb : F.base.heap.get? a = none) (hc : F.env.cells = []) (hW : F.W = [])
    (hk : KindOk F.O a s.heap) (hst : SeqStays a s.heap h') (hkp : F.kp { s with heap := h', toks := tk }) : Inv G F ρ [] { s with heap := h', toks := tk } := by
  have st : Step F.base { s with heap := h', toks := tk } := by
    refine ⟨fun b o hq e => ?_, fun t => ?_, I.step.os, I.step.gens⟩
    · have e2 := I.step.keep b o hq e
      exact (hs.2 b fun q => by rw [q, hb] at e; cases e).trans e2
    · exact (I.step.tab t).of_kept (fun P hP o e => (hs.2 P fun q => ht (q ▸ hP)).trans e) fun b o vs e hd _ => (hs.2 b fun q => (hk o (q ▸ e)).1 _ hd).trans e
  have rb : ∀ {d : D} {v : Value}, Rep F.O s.heap d v → Rep F.O h' d v := fun {d v} r => Rep.mono (fun b o xs n hb' hd e => (hs.2 b fun q => (hk o (q ▸ e)).2 (q ▸ hb') xs n hd).trans e) (fun _ ha => .inl ha) d v r
  obtain ⟨m, hn⟩ := I.ns
  refine { step := st, gb := I.gb, okO := ⟨I.okO.tabs, (I.gb.step st).tab.there, fun b hb' z => ?_⟩, kind := I.kind, glob := I.glob, blt := I.blt, ns := ⟨m, hn.sameBut hs hL⟩, new := I.new, offTab := I.offTab, nd := I.nd, vars := fun p hp => ?_, W := fun p hp => by rw [hW] at hp; simp at hp, apart := I.apart, own := by simp, ownNd := by simp, kpGo := I.kpGo, kpBut := I.kpBut, kp := hkp, okL := I.okL, okW := I.okW, okOwn := by simp }
  · obtain ⟨o, xs, n, e, hd⟩ := I.okO.live b hb' z
    by_cases q : b = a
    · subst q; exact hst o xs n e hd
    · exact ⟨o, xs, n, (hs.2 b q).trans e, hd⟩
  · obtain ⟨v, h1, h2⟩ := I.vars p hp
    refine ⟨v, ?_, rb h2⟩
    rcases h1 with ⟨k, m', n', e⟩ | ⟨k, c₁, e, q⟩
    · exact .inl ⟨k, _, n'.sameBut hs hL, e⟩
    · rw [hc] at e; cases e
end
end
section
set_option Elab.async false
set_option maxRecDepth 100000
set_option linter.unusedVariables false

open PySem.Calls

noncomputable abbrev genFm (fd : FuncData) (f z : Addr) (O : List Addr) (b : Shared) (kp : Shared → Prop) : Fm := { env := callEnvC fd z f, O := O, W := [], base := b, kp := kp, ok := fun a => a = z }

section
variable {prog : Program} {w : World} {A : Around} {G : GData} {s : Shared} {O : List Addr}

theorem Gr.enterG (g : Gr w G) {k : Nat} {f : Addr} {o : Obj} {fd : FuncData} {body : List Stmt} {args : Args} {binds : List (Str × Value)} {ρ : List (Str × D)} {names : List (Str × NameKind)} {R : Result → Shared → Prop} (hroom : Room k A)
    (hf : (Kf w).lookup f = some o) (hd : o.data = .func fd) (hbody : fd.body = .stmts body) (hn : fd.scope.names = names) (hcd : codeIn (Kf w) fd.code fd.qualname = true) (hclo : fd.closure = []) (hgl : fd.globals = mainGlobals) (hbl : fd.builtins = builtinsNs)
    (hco : fd.scope.isCoroutine = false) (hgen : fd.scope.isGenerator = true) (hk : fd.scope.kind = .function)
    (gi : GI G s) (hO : OkO O s.heap)
    (hbind : wpAny (model prog w) A.in1 (bindArgs fd args) (fun bs s₁ => bs = binds ∧ s₁ = s) noE s) (hb : BindsOk O s.heap binds ρ)
    (hchk : chk names (ρ.map (·.1)) = true) (hcn : ∀ x ∈ names, x.2 ≠ .cell)
    (h : ∀ (fd : FuncData) z a (s₃ : Shared), fd.scope.names = names → fd.scope.isCoroutine = false → fd.scope.kind = .function → (callEnvC fd z f).cells = [] → Step s s₃ → s₃.heap.IsGen a s.gens.size → s₃.gens = s.gens.push (.fresh (.func body (callEnvC fd z f))) → s.heap.get? z = none → z ∉ tabs → a ≠ z →
      Inv G (genFm fd f z O { s₃ with heap := hideAll s₃.heap [z] } (fun _ => True)) ρ [] s₃ → R (.ok (.ret (.ref a))) s₃) :
    codeAny (model prog w) A (.call (.ref f) args) R s := by
  subst hn
  simp only [chk, Bool.and_eq_true, decide_eq_true_eq, List.all_eq_true, Bool.or_eq_true, beq_iff_eq] at hchk
  obtain ⟨⟨⟨c1, c2⟩, c3⟩, c4⟩ := hchk
  have hks : ∀ b o, G.h.get? b = some o → s.heap.get? b = some o := gi.keep
  have hcells : ∀ n, cellsFrom n fd.scope.names [] = [] := fun n => by
    cases e : cellsFrom n fd.scope.names [] with
    | nil => rfl
    | cons p r =>
      have : p.1 ∈ (cellsFrom n fd.scope.names []).map (·.1) := by rw [e]; simp
      rw [cellsFrom_names] at this
      simp only [List.map_nil, List.append_nil, List.mem_reverse, cellNames, List.mem_map, List.mem_filter] at this
      obtain ⟨q, ⟨hq, hq2⟩, _⟩ := this
      exact absurd (by simpa using hq2) (hcn q hq)
  have hloc : ∀ x ∈ ρ, fd.scope.names.lookup x.1 = some .local := fun x hx => by
    rcases c2 x.1 (List.mem_map_of_mem hx) with q | q
    · exact q
    · exfalso
      have := cellsFrom_some fd.scope.names (s.heap.objs.size + 1) [] (.inl q)
      rw [hcells] at this
      simp at this
  refine codeAny_call_generator hroom.depth (hks _ _ (g.kin _ _ hf)) hd hco hgen hbody ((codeRec_of g.kin hcd).keeps hks) (wpAny_mono hbind (fun bs s₁ e => ?_) fun _ _ e => e.elim)
  obtain ⟨rfl, rfl⟩ := e
  rw [hclo]
  have hkeys := hb.keys
  refine wpAny_newFunctionEnv_cells hk (fun x hx => ?_) fun env he s' x => ?_
  · have hx' : x.1 ∈ ρ.map (·.1) := by rw [← hkeys]; exact List.mem_map_of_mem hx
    obtain ⟨p, hp, e⟩ := List.mem_map.mp hx'
    exact .inl (by rw [← e]; exact hloc p hp)
  · subst he
    have hkeep := x.toInCall.keep
    have hns := x.toInCall.ns
    obtain ⟨h', tk, rfl⟩ := x.toInCall.same
    refine ⟨(G.nolimit.keeps hks).keeps hkeep, ?_⟩
    dsimp only at hkeep hns ⊢
    have hfresh : s₁.heap.get? s₁.heap.objs.size = none := get?_size _
    have hLt := fresh_offTab gi.tab hfresh
    have hzlt : s₁.heap.objs.size < h'.objs.size := by
      obtain ⟨o, _, _, e, _⟩ := hns
      exact Heap.lt_size (show h'.get? s₁.heap.objs.size = some o from e)
    generalize hgo : ({ cls := .type "generator", data := .fields #[.int s₁.gens.size 0, .str fd.name tk, .str fd.qualname (tk + 1)] } : Obj) = go
    have hkeep₃ : ∀ b o, s₁.heap.get? b = some o → (h'.push go).get? b = some o := fun b o e => Heap.get?_push_of_some _ (hkeep b o e)
    have hkeepH : ∀ b o, s₁.heap.get? b = some o → (hideAll (h'.push go) [s₁.heap.objs.size]).get? b = some o := fun b o e => hideAll_get _ (hkeep₃ b o e) (by
      intro q
      rw [List.mem_singleton.mp q, hfresh] at e; cases e)
    have hst : Step s₁ { s₁ with heap := h'.push go, toks := tk + 1 + 1, gens := s₁.gens.push (.fresh (.func body (callEnvC fd s₁.heap.objs.size f))) } :=
      ⟨fun b o _ e => hkeep₃ b o e, fun t => t.keeps hkeep₃, rfl, [.fresh (.func body (callEnvC fd s₁.heap.objs.size f))], by simp, by intro q hq; rw [List.mem_singleton.mp hq]; rfl⟩
    refine h fd s₁.heap.objs.size h'.objs.size _ rfl hco hk (hcells _) hst ⟨go, _, _, Heap.get?_push_size _ (by rw [← hgo]; rfl), by rw [← hgo], by rw [← hgo], by rw [← hgo]⟩ rfl hfresh hLt (Nat.ne_of_gt hzlt) ?_
    have hb0 : GI G { s₁ with heap := hideAll (h'.push go) [s₁.heap.objs.size], toks := tk + 1 + 1, gens := s₁.gens.push (.fresh (.func body (callEnvC fd s₁.heap.objs.size f))) } :=
      ⟨fun b o e => hkeepH b o (hks b o e), gi.tab.keeps hkeepH⟩
    refine { step := ⟨fun b o _ e => of_hideAll _ e, fun t => t.keeps fun b o e => of_hideAll _ e, rfl, [], by simp, by simp⟩, gb := hb0, okO := hO.step gi hst, kind := hk, glob := hgl, blt := hbl, ns := ⟨_, hns.push _⟩, new := hideAll_none _ (.head _), offTab := hLt, nd := c1, vars := fun p hp => ?_, W := by simp, apart := by rw [show (callEnvC fd s₁.heap.objs.size f).cells = [] from hcells _]; exact List.Pairwise.nil, own := by simp, ownNd := by simp, kpGo := fun _ _ _ _ => trivial, kpBut := fun _ _ _ _ _ _ _ => trivial, kp := trivial, okL := rfl, okW := by simp, okOwn := by simp }
    obtain ⟨v, h1, h2⟩ := hb.mem p hp
    refine ⟨v, ?_, h2.step hO hst⟩
    have hbn : (bs.map (·.1)).Nodup := by rw [hkeys]; exact c1
    exact .inl ⟨hloc p hp, _, hns.push _, bindL_mem h1 hbn (hloc p hp)⟩
end
end
section
section
noncomputable abbrev B4 := Nat × Nat × Nat × Nat
noncomputable def tx (b : B4) : Str := ⟨#[b.1, b.2.1, b.2.2.1, b.2.2.2]⟩
noncomputable def lnS (p : Nat × B4) : Str := ⟨#[p.1, 32, p.2.1, p.2.2.1, p.2.2.2.1, p.2.2.2.2]⟩
noncomputable def tg (t : Nat) : Str := ⟨#[t, 32]⟩
noncomputable def tagOf (side : Bool) : Nat := if side then 43 else 45

theorem slice_hd (p : Nat × B4) (t u : Tok) : sliceMade (lnS p) t none (some (2, u)) none = .str (tg p.1) := rfl
theorem slice_tl (p : Nat × B4) (t u : Tok) : sliceMade (lnS p) t (some (2, u)) none none = .str (tx p.2) := by with_unfolding_all rfl

variable {prog : Program} {w : World} {A : Around} {G : GData} {s : Shared} {O : List Addr} {F : Fm} {ρ : List (Str × D)} {C : List (Addr × List D)}

theorem Ev.sliceHd {value : Expr} {p q pos : Pos} {k : Nat} {l : Nat × B4} (hv : Ev prog w A G F ρ C value (.str (lnS l))) :
    Ev prog w A G F ρ C (.Subscript value (.Slice Option.none (Option.some (.Constant (.int 2) k q)) Option.none p) pos) (.str (tg l.1)) := fun s I => by
  refine Subscript_ (wpAny_mono (hv s I) (fun v s₁ x₁ => ?_) fun _ _ e => e)
  have I₁ := I.go x₁.1
  refine wpAny_Slice (wpAny_mono (EvP.none s₁ I₁) (fun vl s₂ x₂ => ?_) fun _ _ e => e)
  have I₂ := I₁.go x₂.1
  refine wpAny_mono (EvP.some Ev.int s₂ I₂) (fun vu s₃ x₃ => ?_) fun _ _ e => e
  have I₃ := I₂.go x₃.1
  rw [evalPart_none]
  refine wpAny_pure ?_
  have r := x₁.2
  rw [Rep] at r
  obtain ⟨t, rfl⟩ := r
  have r2 := x₂.2
  unfold part? at r2
  rw [Rep] at r2; subst r2
  have r3 := x₃.2
  unfold part? at r3
  rw [Rep] at r3
  obtain ⟨u, rfl⟩ := r3
  refine sub_tail (typeIs_str _ _ _) PySem.F.slot_str_getitem.lookup (wpAny_getItem_str_slice (l := Option.none) (u := Option.some (2, u)) (st := Option.none) ⟨_, Heap.get?_push_size _ rfl, rfl, rfl⟩ rfl ?_)
  rw [slice_hd]
  refine ⟨by show 2 ≤ sizeLine; decide, ((x₁.1.trans x₂.1).trans x₃.1).trans (Step.of_keeps fun _ _ e => Heap.get?_push_of_some _ e), rep_str⟩
theorem Ev.sliceTl {value : Expr} {p q pos : Pos} {k : Nat} {l : Nat × B4} (hv : Ev prog w A G F ρ C value (.str (lnS l))) :
    Ev prog w A G F ρ C (.Subscript value (.Slice (Option.some (.Constant (.int 2) k q)) Option.none Option.none p) pos) (.str (tx l.2)) := fun s I => by
  refine Subscript_ (wpAny_mono (hv s I) (fun v s₁ x₁ => ?_) fun _ _ e => e)
  have I₁ := I.go x₁.1
  refine wpAny_Slice (wpAny_mono (EvP.some Ev.int s₁ I₁) (fun vl s₂ x₂ => ?_) fun _ _ e => e)
  have I₂ := I₁.go x₂.1
  refine wpAny_mono (EvP.none s₂ I₂) (fun vu s₃ x₃ => ?_) fun _ _ e => e
  have I₃ := I₂.go x₃.1
  rw [evalPart_none]
  refine wpAny_pure ?_
  have r := x₁.2
  rw [Rep] at r
  obtain ⟨t, rfl⟩ := r
  have r2 := x₃.2
  unfold part? at r2
  rw [Rep] at r2; subst r2
  have r3 := x₂.2
  unfold part? at r3
  rw [Rep] at r3
  obtain ⟨u, rfl⟩ := r3
  refine sub_tail (typeIs_str _ _ _) PySem.F.slot_str_getitem.lookup (wpAny_getItem_str_slice (l := Option.some (2, u)) (u := Option.none) (st := Option.none) ⟨_, Heap.get?_push_size _ rfl, rfl, rfl⟩ rfl ?_)
  rw [slice_tl]
  refine ⟨by show 4 ≤ sizeLine; decide, ((x₁.1.trans x₂.1).trans x₃.1).trans (Step.of_keeps fun _ _ e => Heap.get?_push_of_some _ e), rep_str⟩

theorem op_in2 {x a b : Str} : Op2 prog w A G O (compareOp .In) (.str x) (.tuple [.str a, .str b]) (.bool (a == x || b == x)) := fun s v₁ v₂ g ho r₁ r₂ => by
  rw [Rep] at r₁
  rw [Rep] at r₂
  obtain ⟨t, rfl⟩ := r₁
  obtain ⟨l, vs, rfl, _, hl, hr⟩ := r₂
  obtain ⟨u₁, u₂, rfl, q1, q2⟩ := reps2 hr
  rw [Rep] at q1 q2
  obtain ⟨t₁, rfl⟩ := q1
  obtain ⟨t₂, rfl⟩ := q2
  refine SeqAt.in_tupleAt (fun y => match y with | .str z _ => z == x | _ => false) hl (fun y hy => ?_) ⟨Step.refl s, ?_⟩
  · simp only [List.mem_toArray, List.mem_cons, List.not_mem_nil, or_false] at hy
    rcases hy with rfl | rfl
    · exact SeqAt.EqAt.str_str _ _ _ _
    · exact SeqAt.EqAt.str_str _ _ _ _
  · rw [Rep]; simp

theorem Ev.tag {k1 k2 k3 k4 : Nat} {p1 p2 p3 p4 dp pos : Pos} {e : Expr} {side : Bool} (he : Ev prog w A G F ρ C e (.int (if side then 2 else 1))) :
    Ev prog w A G F ρ C (.Subscript (.Dict [some (.Constant (.int 1) k1 p1), some (.Constant (.int 2) k2 p2)] [.Constant (.str (Str.ofString "- ")) k3 p3, .Constant (.str (Str.ofString "+ ")) k4 p4] dp) e pos) (.str (tg (tagOf side))) := fun s I => by
  with_reducible refine' Subscript_ (Dict_lits_int (D := [(.int 1, .str (Str.ofString "- ")), (.int 2, .str (Str.ofString "+ "))]) ?hD ?h1 ?h2 ?h3 ?h4 ?h5 ?h6 fun a o h₁ tk ha ho T hk => ?_)
  case hD => with_unfolding_all rfl
  case h1 => rfl
  case h2 => decide
  case h3 => rfl
  case h4 => rfl
  case h5 => simp
  case h6 => exact Nat.le_of_ble_eq_true rfl
  have st : Step s { s with heap := h₁, toks := tk } := Step.of_keeps hk
  refine wpAny_mono (he _ (I.go st)) (fun v s₂ x => ?_) fun _ _ e => e
  obtain ⟨st₂, r⟩ := x
  rw [Rep] at r
  obtain ⟨t, rfl⟩ := r
  obtain ⟨kvs, hd, hf⟩ := T
  have hat : a ∉ tabs := fresh_offTab I.gi.tab (by
    cases e : s.heap.get? a with
    | none => rfl
    | some o => exact absurd (Heap.lt_size e) (Nat.not_lt.mpr ha))
  have ho₂ : s₂.heap.get? a = some o := st₂.keep _ _ hat ho
  have hlo : (a == sysModules) = false := by
    obtain ⟨o', _, _, e', _⟩ := G.g
    have h3 := Heap.lt_size (I.gi.keep _ _ e')
    have e3 : mainGlobals = 3 := rfl
    have e1 : sysModules = 1 := rfl
    rw [e3] at h3
    rw [e1]
    simp only [beq_eq_false_iff_ne, ne_eq]
    have ha' : s.heap.objs.size ≤ a := ha
    intro q
    have ha2 : s.heap.objs.size ≤ (1 : Nat) := by rw [← q]; exact ha'
    have h3' : (3 : Nat) < s.heap.objs.size := h3
    omega
  have hT : PyProof.Rows.TabAt (intKind prog w) PyData.int s₂.heap a [(.int 1, .str (Str.ofString "- ")), (.int 2, .str (Str.ofString "+ "))] := PyProof.Rows.TabAt.ofObj hlo ho₂ hd hf
  refine sub_tail (T := "dict") ?_ PySem.F.slot_dict_getitem.lookup (getItem_tab (dv := .str (tg (tagOf side))) PyProof.V.same_int (intKind_is _ _ _ _) hT (by cases side <;> rfl) fun v hv => ?_)
  · obtain ⟨_, _, hx, _⟩ := hd
    exact ⟨o, ho₂, hx.1⟩
  · obtain ⟨t', rfl⟩ := hv.str_inv
    exact ⟨(st.trans st₂).trans Step.toks, rep_str⟩
end
end
section
section
variable {prog : Program} {w : World} {A : Around} {G : GData} {s : Shared} {O : List Addr} {ρ : List (Str × D)}

theorem iters_listA {ds : List D} (s : Shared) (v : Value) (g : GI G s) (ho : OkO O s.heap) (r : Rep O s.heap (.list ds) v) : wpAny (model prog w) A (pyIter v) (fun it s' => Step s s' ∧ ∃ It St, s.heap.get? It = none ∧ (∀ (A' : Around) (b₀ : Shared), A'.handled = none → b₀.heap.get? It = none → ItOk prog w A' G O b₀ s' it ds St True) ∧ St 0 s') noE s := by
  rw [Rep] at r
  obtain ⟨a, vs, rfl, haO, hl, hr⟩ := r
  refine wpAny_pyIter_list hl ?_
  have hfr : s.heap.get? s.heap.objs.size = none := get?_size _
  have hIt := fresh_offTab g.tab hfr
  have hIO := ho.fresh hfr
  have hat : a ∉ tabs := fun q => haO (ho.tabs a q)
  have hl₁ : (s.heap.push { cls := .type "list_iterator", data := .fields #[.ref a, .int 0 0] }).IsList a (List.toArray vs) := hl.push _
  have hr₁ : Reps O (s.heap.push { cls := .type "list_iterator", data := .fields #[.ref a, .int 0 0] }) ds vs := Reps.step (s' := { s with heap := s.heap.push _ }) hr ho Step.push
  have hI₁ : (s.heap.push { cls := .type "list_iterator", data := .fields #[.ref a, .int 0 0] }).IsListIter s.heap.objs.size a 0 := ⟨_, Heap.get?_push_size _ rfl, rfl, rfl⟩
  generalize hH : s.heap.push { cls := .type "list_iterator", data := .fields #[.ref a, .int 0 0] } = H at hl₁ hr₁ hI₁ ⊢
  have hst : Step s { s with heap := H } := by rw [← hH]; exact Step.push
  refine ⟨hst, s.heap.objs.size, fun i s' => s'.heap.IsListIter s.heap.objs.size a i ∧ ∀ b o xs n, b ∉ O → H.get? b = some o → o.data = .seq xs n → s'.heap.get? b = some o, hfr, fun A' b₀ hh hfr' => ?_, hI₁, fun _ _ _ _ _ e _ => e⟩
  have lst : ∀ {s₁ : Shared}, (∀ b o xs n, b ∉ O → H.get? b = some o → o.data = .seq xs n → s₁.heap.get? b = some o) → s₁.heap.IsList a (List.toArray vs) := fun {s₁} k => by
    obtain ⟨o, e, hc, n, hd⟩ := hl₁
    exact ⟨o, k _ _ _ _ haO e hd, hc, n, hd⟩
  constructor
  · rintro i s₁ s₂ ⟨h1, h2⟩ st
    exact ⟨h1.at fun o e => st.keep _ _ hIt e, fun b o xs n hb e hd => st.keep b o (fun q => hb (ho.tabs b q)) (h2 b o xs n hb e hd)⟩
  · rintro i s₁ b h' tk ⟨h1, h2⟩ hs hk
    have n1 : s.heap.objs.size ≠ b := fun q => by
      rcases hk with ⟨_, hk⟩ | hk
      · obtain ⟨o, e, _, hd⟩ := h1
        exact (hk o (q ▸ e)).1 _ hd
      · obtain ⟨o, e, _⟩ := hI₁
        rw [q] at e; rw [show H.get? b = none from hk] at e; cases e
    refine ⟨h1.at fun o e => (hs.2 _ n1).trans e, fun c o xs n hc e hd => (hs.2 c fun q => ?_).trans (h2 c o xs n hc e hd)⟩
    rcases hk with ⟨_, hk⟩ | hk
    · exact (hk o (q ▸ h2 c o xs n hc e hd)).2 (q ▸ hc) xs n hd
    · rw [q] at e; rw [show H.get? b = none from hk] at e; cases e
  · rintro i s₁ d hd ⟨h1, h2⟩ g₁ o₁
    obtain ⟨x, hx, hR⟩ := hr₁.get hd
    refine wpAny_pyNext_list_item h1 (lst h2) (x := x) (by simpa using hx) fun h' hit hs => ?_
    have nx : Nx b₀ s₁ { s₁ with heap := h' } := nx_extBut (tk := s₁.toks) g₁.tab hfr' hIt
      (fun o e => by obtain ⟨o', e', c', q⟩ := h1; rw [e] at e'; cases e'; exact ⟨⟨_, q⟩, by rw [c']; nofun⟩)
      (fun o e us hu q t => by
        obtain ⟨o', e', _, hd'⟩ := h1; rw [e] at e'; cases e'; rw [hu] at hd'; cases hd'; simp) hs.extBut
    have h2' : ∀ b o xs n, b ∉ O → H.get? b = some o → o.data = .seq xs n → h'.get? b = some o := fun b o xs n hb e hd => nx.keep b o (fun q => hb (ho.tabs b q)) (fun vs q => by rw [hd] at q; cases q) (h2 b o xs n hb e hd)
    refine ⟨x, rfl, nx, ⟨hit, h2'⟩, fun O' hO' => ?_⟩
    exact Rep.mono (fun b o xs n hb hd e => h2' b o xs n hb e hd) hO' _ _ hR
  · rintro s₁ ⟨h1, h2⟩ g₁ o₁
    refine wpAny_pyNext_list_end hh h1 (lst h2) (by simp [hr.length]) fun h' hs => ?_
    exact ⟨rfl, nx_extBut (tk := s₁.toks) g₁.tab hfr' hIt (fun o e => by obtain ⟨o', e', c', q⟩ := h1; rw [e] at e'; cases e'; exact ⟨⟨_, q⟩, by rw [c']; nofun⟩)
      (fun o e us hu q t => by
        obtain ⟨o', e', _, hd'⟩ := h1; rw [e] at e'; cases e'; rw [hu] at hd'; cases hd'; simp) hs⟩
  · rintro i s₁ ⟨h1, _⟩
    exact wpAny_pyIter_listiter h1 ⟨rfl, rfl⟩
  · rintro i s₁ target v ⟨⟨o, e, hc, _⟩, _⟩
    exact owned_any e hc (by decide)
  · exact fun _ _ _ h => h


noncomputable def KPz (z : Addr) (s₀ s : Shared) : Prop := ∀ b o, b ∉ tabs → (∀ vs, o.data ≠ .fields vs) → b ≠ z → s₀.heap.get? b = some o → s.heap.get? b = some o
noncomputable abbrev gF (fd : FuncData) (z : Addr) (O : List Addr) (B s₀ : Shared) : Fm := genFm fd 42 z O { B with gens := s₀.gens } (KPz z s₀)

theorem gF_at {fd : FuncData} {z : Addr} {B : Shared} {gs : Array GenState} {kp : Shared → Prop} (I : Inv G (genFm fd 42 z O { B with gens := gs } kp) ρ [] s) : Inv G (gF fd z O B s) ρ [] s := by
  have J := I.rebase (b' := { B with gens := s.gens }) (s' := s) rfl rfl ⟨I.step.keep, I.step.tab, I.step.os, [], by simp, by simp⟩ I.kp
  refine J.rekp (KPz z s) (fun a => a = z) (fun s₁ s₂ h st b o hb hf hz e => st.keep b o hb (h b o hb hf hz e)) (fun s₁ a h' tk h hs ho b o hb hf hz e => ?_) (fun _ _ _ _ _ e => e) rfl (by simp) (by simp)
  have ha : a = z := ho.1
  exact (hs.2 b (by rw [ha]; exact hz)).trans (h b o hb hf hz e)

structure Closed (L Dd : Addr) (O : List Addr) (J : Shared → Prop) : Prop where
  go : ∀ s s', J s → Step s s' → J s'
  but : ∀ (s : Shared) a h' tk, J s → Heap.SameBut a s.heap h' → (a = L ∨ a = Dd) → KindOk (Dd :: O) a s.heap → SeqStays a s.heap h' → J { s with heap := h', toks := tk }
  gens : ∀ (s : Shared) gs, J s → J { s with gens := gs }

theorem Closed.inv {fd : FuncData} {z L Dd : Addr} {B : Shared} {P : Shared → Prop} (hc : (callEnvC fd z 42).cells = []) (hL : L ≠ z) (hD : Dd ≠ z) (hLt : L ∉ tabs) (hDt : Dd ∉ tabs) (hLB : B.heap.get? L = none) (hDB : B.heap.get? Dd = none) (cP : Closed L Dd O P) :
    Closed L Dd O fun s => Inv G (gF fd z (Dd :: O) B s) ρ [] s ∧ P s where
  go := fun s s' h st => ⟨gF_at (gs := s.gens) (h.1.go st), cP.go s s' h.2 st⟩
  but := fun s a h' tk h hs ha hk hst => by
    refine ⟨?_, cP.but s a h' tk h.2 hs ha hk hst⟩
    have ⟨h1, h2, h3⟩ : z ≠ a ∧ a ∉ tabs ∧ B.heap.get? a = none := by
      rcases ha with rfl | rfl
      · exact ⟨hL.symm, hLt, hLB⟩
      · exact ⟨hD.symm, hDt, hDB⟩
    have J : Inv G (genFm fd 42 z (Dd :: O) { B with gens := s.gens } fun _ => True) ρ [] { s with heap := h', toks := tk } := Inv.other (F := genFm fd 42 z (Dd :: O) { B with gens := s.gens } fun _ => True) h.1.loose hs h1 h2 h3 hc rfl hk hst trivial
    exact gF_at J
  gens := fun s gs h => by
    refine ⟨?_, cP.gens s gs h.2⟩
    have J := h.1.loose.rebase (b' := { B with gens := gs }) (s' := { s with gens := gs }) rfl rfl ⟨h.1.step.keep, h.1.step.tab, h.1.step.os, [], by simp, by simp⟩ trivial
    exact gF_at (gs := gs) J
theorem Closed.iter {L Dd : Addr} {A' : Around} {b₀ b₁ : Shared} {it : Value} {ds : List D} {St : Nat → Shared → Prop} (ok : ItOk prog w A' G (Dd :: O) b₀ b₁ it ds St True) (i : Nat) : Closed L Dd O (St i) where
  go := ok.go i
  but := fun s a h' tk h hs _ hk _ => ok.but i s a h' tk h hs (.inl ⟨trivial, hk⟩)
  gens := fun s gs h => ok.gens i s gs h
end
end
section
section
variable {prog : Program} {w : World} {A : Around} {G : GData} {s : Shared} {O : List Addr} {ρ : List (Str × D)}

noncomputable def outsOf (side : Bool) (lns : List (Nat × B4)) : List B4 := (lns.filter fun p => p.1 == tagOf side).map (·.2)
noncomputable def GensGo (s₀ s' : Shared) : Prop := ∃ l : List GenState, s'.gens = s₀.gens ++ l.toArray ∧ ∀ x ∈ l, x.bare = true
noncomputable def gY (outs : List B4) (z : Addr) (b₀ : Shared) (L Dd : Addr) (O : List Addr) (a : Addr) (g : Nat) : Protocol := fun m s₀ v s' kap =>
  (∃ b, outs[outs.length - 1 - m]? = some b ∧ ∃ t, v = .str (tx b) t) ∧ NxH z b₀ s₀ s' ∧ GensGo s₀ s' ∧ ∃ J, Closed L Dd O J ∧ (∀ s, J s → s.heap.IsGen a g) ∧ J s' ∧ ∀ s'', J s'' → kap (.send .none) s''
noncomputable def gR (z : Addr) (b₀ : Shared) : Nat → Shared → Shared → Prop := fun n s₀ s₁ => n = 0 ∧ NxH z b₀ s₀ s₁ ∧ GensGo s₀ s₁

theorem nxH_of {fd : FuncData} {z : Addr} {B b₀ s₀ s' : Shared} (I : Inv G (gF fd z O B s₀) ρ [] s') (hB : StepH b₀ B) (hz : ∃ m, s₀.heap.Ns z m) : NxH z b₀ s₀ s' where
  step := fun base h => h.trans (hB.trans ⟨I.step.keep, I.step.tab, I.step.os⟩)
  keep := fun b o hb hf hd e => by
    by_cases q : b = z
    · subst q
      obtain ⟨m, hn⟩ := hz
      obtain ⟨es, ep, h3⟩ := ns_data hn o e
      exact absurd rfl (hd es ep h3)
    · exact I.kp b o hb hf q e
theorem gensGo_of {fd : FuncData} {z : Addr} {B s₀ s' : Shared} (I : Inv G (gF fd z O B s₀) ρ [] s') : GensGo s₀ s' := I.step.gens

noncomputable abbrev lnTl (lns : List (Nat × B4)) : Nat → List (Str × D)
  | 0 => []
  | i + 1 => [(Str.ofString "line", .str (lnS (lns.getD i (0, 0, 0, 0, 0))))]
noncomputable abbrev lpRho (side : Bool) (tl : List (Str × D)) : List (Str × D) := (Str.ofString "prefixes", .tuple [.str (Str.ofString "  "), .str (tg (tagOf side))]) :: tl

theorem seg_lines {fd : FuncData} {z L Dd a It : Addr} {gn : Nat} {B b₀ b₁ : Shared} {lns : List (Nat × B4)} {side : Bool} {it : Value} {St : Nat → Shared → Prop} {outs : List B4} {px ip yp ep : Pos} {test ye : Expr} {k : Result → Sem Fin} {g l c₁ p₁ kp}
    (hh : A.handled = none) (hc : (callEnvC fd z 42).cells = []) (hco : fd.scope.isCoroutine = false) (hfk : fd.scope.kind = .function) (hline : fd.scope.names.lookup (Str.ofString "line") = some .local)
    (hL : L ≠ z) (hD : Dd ≠ z) (hLt : L ∉ tabs) (hDt : Dd ∉ tabs) (hLB : B.heap.get? L = none) (hDB : B.heap.get? Dd = none) (hIt : B.heap.get? It = none) (hB : StepH b₀ B) (hgen : B.heap.IsGen a gn) (hat : a ∉ tabs)
    (ok : ∀ (A' : Around) (b : Shared), A'.handled = none → b.heap.get? It = none → ItOk prog w A' G (Dd :: O) b b₁ it (lns.map fun p => D.str (lnS p)) St True)
    (hlns : ∀ p ∈ lns, p.1 = 45 ∨ p.1 = 43)
    (htest : ∀ (A' : Around) (F : Fm) p, F.env = callEnvC fd z 42 → Tr prog w A' G F (lpRho side [(Str.ofString "line", .str (lnS p))]) [] test (Str.ofString "  " == tg p.1 || tg (tagOf side) == tg p.1))
    (hye : ∀ (A' : Around) (F : Fm) p, F.env = callEnvC fd z 42 → Ev prog w A' G F (lpRho side [(Str.ofString "line", .str (lnS p))]) [] ye (.str (tx p.2)))
    (hk : k (.ok .next) = leafOf (.ok (.ret .none))) (hg : g = false) :
    ∀ q i, lns.length - i = q → i ≤ lns.length → ∀ n s₀ s, n = (outsOf side (lns.drop i)).length → (∃ pre, outs = pre ++ outsOf side (lns.drop i)) → Inv G (gF fd z (Dd :: O) B s₀) (lpRho side (lnTl lns i)) [] s → St i s → (∃ m, s₀.heap.Ns z m) →
      Seg (model prog w) A (fun n s₀ r s₁ => r = .ok (.ret .none) ∧ gR z b₀ n s₀ s₁) (gY outs z b₀ L Dd O a gn) n s₀ (.forLoop (.Name (Str.ofString "line") px) it [.If test [.Expr (.Yield (some ye) yp) ep] [] ip] [] (callEnvC fd z 42)) ((model prog w).den (.forLoop (.Name (Str.ofString "line") px) it [.If test [.Expr (.Yield (some ye) yp) ep] [] ip] [] (callEnvC fd z 42))) [.ret k none g l c₁ p₁ kp] s := by
  intro q
  induction q with
  | zero =>
    intro i hq hle n s₀ s hn ⟨pre, hpre⟩ I hSt hz
    have hi : i = lns.length := by omega
    subst hi
    refine seg_forLoop ?_
    have hh' : (A.over (.forLoop (.Name (Str.ofString "line") px) it [.If test [.Expr (.Yield (some ye) yp) ep] [] ip] [] (callEnvC fd z 42)) [.ret k none g l c₁ p₁ kp]).handled = none := hh
    have o := ok _ ({ B with gens := s₀.gens } : Shared) hh' hIt
    refine wpAny_mono (o.done s (by simpa using hSt) I.gi I.okO) (fun r s₁ x => ?_) fun _ _ e => e
    obtain ⟨rfl, nx⟩ := x
    have I₁ : Inv G (gF fd z (Dd :: O) B s₀) (lpRho side (lnTl lns lns.length)) [] s₁ := I.nx (Step.refl _) nx (fun b o hb hf hz e => nx.keep b o hb hf (I.kp b o hb hf hz e))
    show Seg _ _ _ _ n s₀ c₁ (k (.ok .next)) [] s₁
    rw [hk]
    refine seg_end (.ok (.ret .none)) ⟨rfl, ?_, nxH_of I₁ hB hz, gensGo_of I₁⟩
    rw [hn, List.drop_length]; rfl
  | succ q ih =>
    intro i hq hle n s₀ s hn ⟨pre, hpre⟩ I hSt hz
    have hi : i < lns.length := by omega
    refine seg_forLoop ?_
    have hh' : (A.over (.forLoop (.Name (Str.ofString "line") px) it [.If test [.Expr (.Yield (some ye) yp) ep] [] ip] [] (callEnvC fd z 42)) [.ret k none g l c₁ p₁ kp]).handled = none := hh
    have o := ok _ ({ B with gens := s₀.gens } : Shared) hh' hIt
    have hd : (lns.map fun p => D.str (lnS p))[i]? = some (.str (lnS lns[i])) := by simp [hi]
    refine wpAny_mono (o.item i s _ hd hSt I.gi I.okO) (fun r s₁ x => ?_) fun _ _ e => e
    obtain ⟨v, rfl, nx, hSt₁, hR⟩ := x
    have I₁ : Inv G (gF fd z (Dd :: O) B s₀) (lpRho side (lnTl lns i)) [] s₁ := I.nx (Step.refl _) nx (fun b o hb hf hz e => nx.keep b o hb hf (I.kp b o hb hf hz e))
    have J₁ : Inv G ((gF fd z (Dd :: O) B s₀).with (St (i + 1))) (lpRho side (lnTl lns i)) [] s₁ := I₁.keeping hSt₁ (o.go (i + 1)) (fun s a h' tk p hs _ k _ => o.but (i + 1) s a h' tk p hs (.inl ⟨trivial, k⟩))
    refine wpAny_mono (o.owned (i + 1) s₁ _ v hSt₁) (fun _ s₂ e => ?_) fun _ _ e => e
    subst e
    have hget : lns.getD i (0, 0, 0, 0, 0) = lns[i] := by rw [List.getD_eq_getElem?_getD, List.getElem?_eq_getElem hi]; rfl
    have hput : PutTo (Str.ofString "line") (.str (lnS lns[i])) (lpRho side (lnTl lns i)) (lpRho side [(Str.ofString "line", .str (lnS lns[i]))]) := by
      cases i with
      | zero => exact PutTo.next (by decide) PutTo.nil
      | succ i => exact PutTo.next (by decide) PutTo.here
    refine wpAny_assign_Name (J₁.store (F := (gF fd z (Dd :: O) B s₀).with (St (i + 1))) (.inl hline) hput (hR _ fun _ h => .inl h) fun s₃ J₃ => ?_)
    intro H
    have hdrop : lns.drop i = lns[i] :: lns.drop (i + 1) := List.drop_eq_getElem_cons hi
    have hrho : lpRho side (lnTl lns (i + 1)) = lpRho side [(Str.ofString "line", .str (lnS lns[i]))] := by show lpRho side [(_, .str (lnS (lns.getD i (0, 0, 0, 0, 0))))] = _; rw [hget]
    have hmem : lns[i] ∈ lns := List.getElem_mem hi
    refine seg_execs_cons (seg_If ?_)
    refine wpAny_mono (htest _ _ lns[i] rfl s₃ J₃) (fun b s₄ x => ?_) fun _ _ e => e
    obtain ⟨st, hb⟩ := x
    have J₄ := J₃.go st
    have I₄ : Inv G (gF fd z (Dd :: O) B s₀) (lpRho side [(Str.ofString "line", .str (lnS lns[i]))]) [] s₄ := J₄.forget (fun s s' h st b o hb hf hz e => st.keep b o hb (h b o hb hf hz e)) (fun s₁ a h' tk h hs ho b o hb hf hz e => (hs.2 b (by rw [show a = z from ho.1]; exact hz)).trans (h b o hb hf hz e))
    have hSt₄ : St (i + 1) s₄ := J₄.kp.2
    have htag : b = (lns[i].1 == tagOf side) := by
      rw [hb]
      rcases hlns _ hmem with e | e <;> rw [e] <;> cases side <;> decide
    cases hbt : (lns[i].1 == tagOf side) with
    | false =>
      rw [hbt] at htag; subst htag
      have hout : outsOf side (lns.drop i) = outsOf side (lns.drop (i + 1)) := by rw [hdrop]; unfold outsOf; rw [List.filter_cons_of_neg (by simpa using hbt)]
      show Seg _ _ _ _ n s₀ _ ((execs [] _).wrap _ _ _ _) _ s₄
      refine seg_execs_nil ?_
      show Seg _ _ _ _ n s₀ _ (.pure (.again _)) _ s₄
      refine seg_again rfl ?_
      exact ih (i + 1) (by omega) hi n s₀ s₄ (by rw [hn, hout]) ⟨pre, by rw [hpre, hout]⟩ (by rw [hrho]; exact I₄) hSt₄ hz
    | true =>
      rw [hbt] at htag; subst htag
      have hout : outsOf side (lns.drop i) = lns[i].2 :: outsOf side (lns.drop (i + 1)) := by rw [hdrop]; unfold outsOf; rw [List.filter_cons_of_pos (by simpa using hbt)]; rfl
      obtain ⟨m, rfl⟩ : ∃ m, n = m + 1 := ⟨n - 1, by rw [hn, hout]; simp⟩
      have hm : m = (outsOf side (lns.drop (i + 1))).length := by rw [hout] at hn; simpa using hn
      show Seg _ _ _ _ (m + 1) s₀ _ ((execs [.Expr (.Yield (some ye) yp) ep] _).wrap _ _ _ _) _ s₄
      refine seg_execs_cons (seg_Expr_Yield rfl rfl (by rw [hg]; rfl) ?_ hco (by unfold interactive; rw [show (callEnvC fd z 42).scope.kind = .function from hfk]; rfl))
      refine wpAny_mono (hye _ _ lns[i] rfl s₄ I₄) (fun v s₅ x => ?_) fun _ _ e => e.elim
      obtain ⟨st₅, hv⟩ := x
      rw [Rep] at hv
      obtain ⟨t, rfl⟩ := hv
      have I₅ := I₄.go st₅
      intro kap hkap
      refine ⟨⟨lns[i].2, ?_, t, rfl⟩, nxH_of I₅ hB hz, gensGo_of I₅, fun s => Inv G (gF fd z (Dd :: O) B s) (lpRho side (lnTl lns (i + 1))) [] s ∧ St (i + 1) s, Closed.inv hc hL hD hLt hDt hLB hDB (Closed.iter o (i + 1)), fun s h => ?_, ⟨by rw [hrho]; exact gF_at (gs := s₀.gens) I₅, o.go _ _ _ hSt₄ st₅⟩, fun s'' h => ?_⟩
      · rw [hpre, hout, hm, List.length_append, List.length_cons, List.getElem?_append_right (by omega)]
        rw [show pre.length + ((outsOf side (lns.drop (i + 1))).length + 1) - 1 - (outsOf side (lns.drop (i + 1))).length - pre.length = 0 by omega]
        rfl
      · obtain ⟨og, nm, qn, e1, e2⟩ := hgen
        exact ⟨og, nm, qn, h.1.step.keep a og hat e1, e2⟩
      · refine hkap .none s'' ?_
        show Seg _ _ _ _ m s'' _ ((execs [] _).wrap _ _ _ _) _ s''
        refine seg_execs_nil ?_
        show Seg _ _ _ _ m s'' _ (.pure (.again _)) _ s''
        refine seg_again rfl ?_
        exact ih (i + 1) (by omega) hi m s'' s'' hm ⟨pre ++ [lns[i].2], by rw [hpre, hout]; simp⟩ h.1 h.2 h.1.ns
end
end
section
section
variable {prog : Program} {w : World} {A : Around} {G : GData} {s : Shared} {O : List Addr} {F : Fm} {ρ : List (Str × D)} {C : List (Addr × List D)}

structure GB (gn : Nat) (s₀ s : Shared) : Prop where
  le : s₀.gens.size ≤ gn
  sz : s₀.gens.size ≤ s.gens.size
  same : ∀ j, j < s₀.gens.size → s.gens[j]? = s₀.gens[j]?
  bare : ∀ j x, s₀.gens.size ≤ j → j ≠ gn → s.gens[j]? = some x → x.bare = true
theorem GB.go {gn : Nat} {s₀ s s' : Shared} (x : GB gn s₀ s) (h : GensGo s s') : GB gn s₀ s' := by
  obtain ⟨l, e, hl⟩ := h
  refine ⟨x.le, by rw [e]; simp; have := x.sz; (first | lia | omega), fun j hj => ?_, fun j y hj hne he => ?_⟩
  · rw [e, Array.getElem?_append_left (by have := x.sz; (first | lia | omega))]; exact x.same j hj
  · rw [e] at he
    by_cases hlt : j < s.gens.size
    · rw [Array.getElem?_append_left hlt] at he; exact x.bare j y hj hne he
    · rw [Array.getElem?_append_right (by (first | lia | omega))] at he
      exact hl y (by simpa using List.mem_of_getElem? (by simpa using he))
theorem GB.set {gn : Nat} {s₀ s : Shared} (x : GB gn s₀ s) (y : GenState) : GB gn s₀ (s.setGen gn y) := by
  refine ⟨x.le, by simpa [Shared.setGen] using x.sz, fun j hj => ?_, fun j q hj hne he => ?_⟩
  · have : gn ≠ j := by have := x.le; (first | lia | omega)
    simp only [Shared.setGen, Array.getElem?_setIfInBounds_ne this]; exact x.same j hj
  · simp only [Shared.setGen, Array.getElem?_setIfInBounds_ne (Ne.symm hne)] at he; exact x.bare j q hj hne he
theorem GB.fin {gn : Nat} {s₀ s : Shared} (x : GB gn s₀ s) (h : ∀ y, s.gens[gn]? = some y → y.bare = true) : GensGo s₀ s := by
  refine ⟨s.gens.toList.drop s₀.gens.size, ?_, fun y hy => ?_⟩
  · apply Array.ext'
    simp only [Array.toList_append]
    have : s₀.gens.toList = s.gens.toList.take s₀.gens.size := by
      apply List.ext_getElem?
      intro j
      by_cases hj : j < s₀.gens.size
      · rw [List.getElem?_take_of_lt hj]
        have := x.same j hj
        simpa using this.symm
      · rw [List.getElem?_eq_none (by simp; (first | lia | omega)), List.getElem?_eq_none (by simp; (first | lia | omega))]
    rw [this, List.take_append_drop]
  · obtain ⟨j, hj⟩ := List.mem_iff_getElem?.mp hy
    rw [List.getElem?_drop] at hj
    have hj' : s.gens[s₀.gens.size + j]? = some y := by simpa using hj
    by_cases e : s₀.gens.size + j = gn
    · rw [e] at hj'; exact h y hj'
    · exact x.bare _ y (Nat.le_add_right _ _) e hj'

theorem Inv.noOwn (I : Inv G F ρ C s) : Inv G F ρ [] s :=
  { step := I.step, gb := I.gb, okO := I.okO, kind := I.kind, glob := I.glob, blt := I.blt, ns := I.ns, new := I.new, offTab := I.offTab, nd := I.nd, vars := I.vars, W := I.W, apart := I.apart, own := by simp, ownNd := by simp,
    kpGo := I.kpGo, kpBut := I.kpBut, kp := I.kp, okL := I.okL, okW := I.okW, okOwn := by simp }

theorem gen_ready {fd : FuncData} {z Dd : Addr} {B s₃ : Shared} {h₁ : Heap} {tk : Nat} (I : Inv G (genFm fd 42 z O B fun _ => True) ρ [] s₃) (hBg : B.gens = s₃.gens) (hDn : s₃.heap.get? Dd = none) (old : ∀ b o, s₃.heap.get? b = some o → h₁.get? b = some o) (hacc : h₁.PlainList Dd (List.toArray [])) :
    Inv G (gF fd z (Dd :: O) B { s₃ with heap := h₁, toks := tk }) ρ [] { s₃ with heap := h₁, toks := tk } := by
  have I1 := I.rekp (fun _ => True) (fun _ => True) (fun _ _ _ _ => trivial) (fun _ _ _ _ _ _ _ => trivial) trivial trivial (by simp) (by simp)
  have I2 := I1.newOwn (tk := tk) hDn (fresh_offTab I.gi.tab hDn) old hacc trivial (fun _ _ _ _ _ _ _ => trivial)
  have I3 := I2.noOwn.rekp (fun _ => True) (fun a => a = z) (fun _ _ _ _ => trivial) (fun _ _ _ _ _ _ _ => trivial) trivial rfl (by simp) (by simp)
  have I4 : Inv G (genFm fd 42 z (Dd :: O) { B with gens := B.gens } fun _ => True) ρ [] { s₃ with heap := h₁, toks := tk } := I3
  exact gF_at I4

end
end
section
section
variable {prog : Program} {w : World} {A : Around} {G : GData} {s : Shared} {O : List Addr} {F : Fm} {ρ : List (Str × D)} {C : List (Addr × List D)}

theorem call_defQ {f : Addr} {o : Obj} {fd : FuncData} {fe e : Expr} {es : List Expr} {ds : List D} {pos : Pos} {Q : Value → Shared → Prop} (I : Inv G F ρ C s) (hf : Ev prog w A G F ρ C fe (.raw (.ref f))) (ho : G.h.get? f = some o) (hd : o.data = .func fd)
    (ha : Evs prog w A G F ρ C (e :: es) ds) (h : ∀ s' vs, Step s s' → Inv G F ρ C s' → Reps F.O s'.heap ds vs → wpAny (model prog w) A (call (.ref f) vs) Q noE s')
    (hc : eval (.Call fe (e :: es) [] pos) F.env = (do callWith pos (← eval fe F.env) [] (backTo pos (starEach (e :: es) F.env)) (backToKw pos (keywordEach [] F.env))))
    (he : starEach (e :: es) F.env = (false, eval e F.env) :: starEach es F.env) : wpAny (model prog w) A (eval (.Call fe (e :: es) [] pos) F.env) Q noE s :=
  Call_ (wpAny_mono (hf s I) (fun fv s₁ x => by
    obtain ⟨st, r⟩ := x
    rw [Rep] at r; subst r
    refine callWith_def hd (wpAny_mono (ha s₁ pos (I.go st)) (fun vs s₂ y => ?_) fun _ _ e => e) he
    have I₂ := (I.go st).go y.1
    exact ⟨I₂.gi.keep _ _ ho, h s₂ vs (st.trans y.1) I₂ y.2⟩) fun _ _ e => e) hc

theorem iter_restore (g : Gr w G) {k : Nat} (hr : Room (k + 1) A) (lns : List (Nat × B4)) (hlns : ∀ p ∈ lns, p.1 = 45 ∨ p.1 = 43) (side : Bool) {fe e1 e2 : Expr} {pos : Pos} (hf : Ev prog w A G F ρ C fe (.raw (.ref 42)))
    (ha : Evs prog w A G F ρ C [e1, e2] [.list (lns.map fun p => .str (lnS p)), .int (if side then 2 else 1)])
    (hc : eval (.Call fe [e1, e2] [] pos) F.env = (do callWith pos (← eval fe F.env) [] (backTo pos (starEach [e1, e2] F.env)) (backToKw pos (keywordEach [] F.env))) := by first | rfl | with_unfolding_all rfl)
    (he : starEach [e1, e2] F.env = (false, eval e1 F.env) :: starEach [e2] F.env := by first | rfl | with_unfolding_all rfl) :
    IterG prog w A G F ρ C (.Call fe [e1, e2] [] pos) ((outsOf side lns).map fun b => .str (tx b)) := fun s I => by
  refine call_defQ I hf (g.kin 42 _ rfl) rfl ha (fun s₂ vs st₂ I₂ r => ?_) hc he
  obtain ⟨v, u, rfl, r1, r2⟩ := reps2 r
  refine wpAny_call (g.enterG (f := 42) (O := F.O) (binds := [(Str.ofString "delta", v), (Str.ofString "which", u)]) (ρ := [(Str.ofString "delta", .list (lns.map fun p => .str (lnS p))), (Str.ofString "which", .int (if side then 2 else 1))]) hr rfl rfl rfl (by dsimp only) (by kernel_rfl) rfl rfl rfl rfl rfl rfl I₂.gi I₂.okO (wpAny_pure ⟨rfl, rfl⟩) (.cons r1 (.cons r2 .nil)) (by kernel_rfl) (by decide) ?_)
  intro fd z a s₃ hn hco hfk hcells st₃ gen hgens hz hzt haz I₃
  refine wpAny_pyIter_gen gen ⟨(st₂.trans st₃).h, z, (let ⟨m, o, _, _, e, _⟩ := I₃.ns; ⟨o, e⟩), fun L Dd h₁ tk old hLn hDn hacc hnsL => ?_⟩
  generalize hB : ({ s₃ with heap := hideAll s₃.heap [z] } : Shared) = B at I₃
  have hBh : B.heap = hideAll s₃.heap [z] := by rw [← hB]
  have hBo : B.os = s₃.os := by rw [← hB]
  have hBg : B.gens = s₃.gens := by rw [← hB]
  have noneB : ∀ b, s₃.heap.get? b = none → B.heap.get? b = none := fun b e => by
    cases q : B.heap.get? b with
    | none => rfl
    | some o => rw [hBh] at q; have := of_hideAll _ q; rw [e] at this; cases this
  have hzn : ∃ o, s₃.heap.get? z = some o := let ⟨m, o, _, _, e, _⟩ := I₃.ns; ⟨o, e⟩
  have hLz : L ≠ z := fun q => by obtain ⟨o, e⟩ := hzn; rw [← q, hLn] at e; cases e
  have hDz : Dd ≠ z := fun q => by obtain ⟨o, e⟩ := hzn; rw [← q, hDn] at e; cases e
  have hst3 : StepH s B := by
    refine ⟨fun b o hb e => ?_, fun t => ?_, by rw [hBo]; exact (st₂.trans st₃).os⟩
    · rw [hBh]
      refine hideAll_get _ ((st₂.trans st₃).keep b o hb e) fun q => ?_
      rw [List.mem_singleton.mp q] at e hb
      have := st₂.keep z o hzt e
      rw [hz] at this; cases this
    · exact I₃.gb.tab
  have hgenB : B.heap.IsGen a s₂.gens.size := by
    obtain ⟨o, nm, qn, e1, e2⟩ := gen
    exact ⟨o, nm, qn, by rw [hBh]; exact hideAll_get _ e1 (by simpa using haz), e2⟩
  have hat : a ∉ tabs := fun q => by
    obtain ⟨o, nm, qn, e1, e2, e3, e4⟩ := gen
    obtain ⟨ps, h1, _⟩ := (I₃.gi.tab) a q
    rw [e1] at h1; cases h1; cases e2
  have hLt := fresh_offTab I₃.gi.tab hLn
  have hDt := fresh_offTab I₃.gi.tab hDn
  have hh : A.handled = none := hr.1
  generalize hY : gY (outsOf side lns) z s L Dd F.O a s₂.gens.size = Y
  let R : GenEnd := fun n s₀ r s₁ => r = .ok (.ret .none) ∧ gR z s n s₀ s₁
  let St : Nat → Shared → Prop := fun i s' => ∃ gs, s'.gens[s₂.gens.size]? = some gs ∧ GB s₂.gens.size s s' ∧ ∃ J, Closed L Dd F.O J ∧ (∀ t, J t → t.heap.IsGen a s₂.gens.size) ∧ J s' ∧ ∀ s'', J s'' → gs.Goes (model prog w) A.in1 R Y ((outsOf side lns).length - i) (.send .none) s''
  have hlt : ∀ i s', St i s' → s₂.gens.size < s'.gens.size := fun i s' ⟨gs, h1, _⟩ => by
    rcases Nat.lt_or_ge s₂.gens.size s'.gens.size with h' | h'
    · exact h'
    · rw [Array.getElem?_eq_none h'] at h1; cases h1
  refine ⟨St, ?_, ?_⟩
  · have mono : ∀ i s₄ s₅, St i s₄ → Step s₄ s₅ → St i s₅ := fun i s₄ s₅ h st => by
      have hl := hlt i s₄ h
      obtain ⟨gs, h1, h2, J, c, ci, hJ, hg⟩ := h
      refine ⟨gs, ?_, h2.go st.gens, J, c, ci, c.go _ _ hJ st, hg⟩
      obtain ⟨l, e, _⟩ := st.gens
      rw [e, Array.getElem?_append_left hl]; exact h1
    have hroom : A.depth < recursionLimit := hr.depth
    refine ⟨mono, ?_, ?_, ?_, ?_, ?_⟩
    · rintro i s₄ b h' tk' ⟨gs, h1, h2, J, c, ci, hJ, hg⟩ hs hb hk hstay
      exact ⟨gs, h1, ⟨h2.le, h2.sz, h2.same, h2.bare⟩, J, c, ci, c.but _ _ _ _ hJ hs hb hk hstay, hg⟩
    · rintro i s₄ d hd ⟨gs, h1, h2, J, c, ci, hJ, hg⟩ g₄ o₄
      have hi : i < (outsOf side lns).length := by
        rcases Nat.lt_or_ge i (outsOf side lns).length with h | h
        · exact h
        · rw [List.getElem?_eq_none (by simpa using h)] at hd; cases hd
      obtain ⟨m, hm⟩ : ∃ m, (outsOf side lns).length - i = m + 1 := ⟨(outsOf side lns).length - i - 1, by (first | lia | omega)⟩
      rw [hm] at hg
      refine wpAny_pyNext_gen (P := gR z s) hh (G.nolimit.keeps g₄.keep) hroom (ci _ hJ) h1 (hg _ (c.gens _ _ hJ)) (fun v s₅ gs' hv => ?_) (fun s₅ hp h' hk => absurd hp.1 (Nat.succ_ne_zero m))
      rw [← hY] at hv
      obtain ⟨⟨b, hb, t, rfl⟩, nx, gg, J', c', ci', hJ', hk'⟩ := hv
      have hidx : (outsOf side lns).length - 1 - (m + 1 - 1) = i := by (first | lia | omega)
      rw [hidx] at hb
      have hde : d = .str (tx b) := by
        rw [List.getElem?_map, hb] at hd; simpa using hd.symm
      subst hde
      refine ⟨_, rfl, ⟨fun base hb => ⟨(nx.step base hb).keep, (nx.step base hb).tab, (nx.step base hb).os⟩, nx.keep⟩, ⟨gs', ?_, ((h2.set _).go gg).set _, J', c', ci', c'.gens _ _ hJ', fun s'' h => ?_⟩, fun _ _ => rep_str⟩
      · refine setGen_self (gs := .running) ?_
        obtain ⟨l, e, _⟩ := gg
        rw [e, Array.getElem?_append_left (by simpa [Shared.setGen] using hlt i s₄ ⟨gs, h1, h2, J, c, ci, hJ, by rw [hm]; exact hg⟩)]
        exact setGen_self h1
      · rw [show (outsOf side lns).length - (i + 1) = m by (first | lia | omega), ← hY]
        exact hk' s'' h
    · rintro s₄ ⟨gs, h1, h2, J, c, ci, hJ, hg⟩ g₄ o₄
      rw [List.length_map, Nat.sub_self] at hg
      refine wpAny_pyNext_gen (P := gR z s) hh (G.nolimit.keeps g₄.keep) hroom (ci _ hJ) h1 (hg _ (c.gens _ _ hJ)) (fun v s₅ gs' hv => ?_) (fun s₅ hp h' hk => ?_)
      · rw [← hY] at hv
        obtain ⟨_, _, _, J', c', _, hJ', hk'⟩ := hv
        exact (hk' _ hJ').elim
      · obtain ⟨_, nx, gg⟩ := hp
        refine ⟨rfl, ⟨fun base hb => (nx.step base hb).trans ⟨fun b o _ e => hk b o e, fun t => t.keeps hk, rfl⟩, fun b o hb hf hd e => hk b o (nx.keep b o hb hf hd e)⟩, ?_⟩
        have h5 := (((h2.set .running).go gg).set .finished).fin (fun y hy => by
          obtain ⟨l, e, _⟩ := gg
          have : (s₅.setGen s₂.gens.size .finished).gens[s₂.gens.size]? = some .finished := setGen_self (gs := .running) (by
            rw [e, Array.getElem?_append_left (by
              have : s₂.gens.size < s₄.gens.size := by
                rcases Nat.lt_or_ge s₂.gens.size s₄.gens.size with h' | h'
                · exact h'
                · rw [Array.getElem?_eq_none h'] at h1; cases h1
              simpa [Shared.setGen] using this)]
            exact setGen_self h1)
          rw [this] at hy; cases hy; rfl)
        exact h5
    · rintro i s₄ ⟨gs, h1, h2, J, c, ci, hJ, hg⟩
      exact wpAny_pyIter_gen (ci _ hJ) ⟨rfl, rfl⟩
    · rintro i s₄ target v' ⟨gs, h1, h2, J, c, ci, hJ, hg⟩
      obtain ⟨o, nm, qn, e1, e2, _⟩ := ci _ hJ
      exact owned_any e1 e2 (by decide)
  · have hgs := congrArg (fun x : Array GenState => x[s₂.gens.size]?) hgens
    simp only [Array.getElem?_push_size] at hgs
    have gb : GB s₂.gens.size s s₃ := by
      obtain ⟨l, e, hl⟩ := st₂.gens
      have h0 : GB s₂.gens.size s s := ⟨by rw [e]; simp, Nat.le_refl _, fun _ _ => rfl, fun j x hj _ he => by rw [Array.getElem?_eq_none hj] at he; cases he⟩
      exact h0.go (st₂.trans st₃).gens
    refine ⟨_, hgs, ⟨gb.le, gb.sz, gb.same, gb.bare⟩, fun t => Inv G (gF fd z (Dd :: F.O) B t) _ [] t ∧ True, Closed.inv hcells hLz hDz hLt hDt (noneB _ hLn) (noneB _ hDn) ⟨fun _ _ _ _ => trivial, fun _ _ _ _ _ _ _ _ _ => trivial, fun _ _ _ => trivial⟩, fun t h => ?_, ⟨gen_ready I₃ hBg hDn old hacc, trivial⟩, fun s'' h => ⟨rfl, ?_⟩⟩
    · obtain ⟨og, nm, qn, e1, e2⟩ := hgenB
      exact ⟨og, nm, qn, h.1.step.keep a og hat e1, e2⟩
    have I₅ := h.1
    have hz5 := I₅.ns
    refine seg_func ?_
    with_reducible refine seg_execs_cons ?_
    with_reducible refine seg_w ?_
    with_reducible refine (wpAny_mono (exec_of_execs (P := fun s' => Inv G (gF fd z (Dd :: F.O) B s'') [(Str.ofString "delta", .list (lns.map fun p => .str (lnS p))), (Str.ofString "which", .int (if side then 2 else 1)), (Str.ofString "tag", .str (tg (tagOf side)))] [] s') ?_) (fun f s₆ x => ?_) fun _ _ e => e)
    · refine x_try (F := gF fd z (Dd :: F.O) B s'') ?_
      (with_reducible refine' x_assign (F := gF fd z (Dd :: F.O) B s'') I₅ ?he ?hp ?hP (fun s₆ I₆ => ?_) ?hs)
      case hs => with_unfolding_all rfl
      case he => (with_reducible refine' Ev.tag ?ht); (case ht => exact Ev.callTyp (by walk_at "gl") (by walk_at "evs") call_intI)
      case hp => exact .inl (kind_of hn (by kernel_rfl))
      case hP => walk_at "put"
      exact x_nil (x_nil (x_nil ⟨rfl, I₆⟩))
    obtain ⟨rfl, I₆⟩ := x
    with_reducible refine seg_execs_cons ?_
    with_reducible refine seg_w ?_
    with_reducible refine (wpAny_mono (exec_of_execs (P := fun s' => Inv G (gF fd z (Dd :: F.O) B s'') [(Str.ofString "delta", .list (lns.map fun p => .str (lnS p))), (Str.ofString "which", .int (if side then 2 else 1)), (Str.ofString "tag", .str (tg (tagOf side))), (Str.ofString "prefixes", .tuple [.str (Str.ofString "  "), .str (tg (tagOf side))])] [] s') ?_) (fun f s₇ x => ?_) fun _ _ e => e)
    · refine x_assign (F := gF fd z (Dd :: F.O) B s'') I₆ (by walk_at "ev") (.inl (kind_of hn (by kernel_rfl))) (by walk_at "put") fun s₆ I₆ => ?_
      exact x_nil ⟨rfl, I₆⟩
    obtain ⟨rfl, I₇⟩ := x
    with_reducible refine seg_execs_cons ?_
    with_reducible refine' seg_For ?_ ?hfs
    case hfs => intro _; with_unfolding_all rfl
    refine wpAny_mono (Ev.name (F := gF fd z (Dd :: F.O) B s'') (.head _) rfl s₇ I₇) (fun v s₈ x => ?_) fun _ _ e => e
    have I₈ := I₇.go x.1
    refine wpAny_mono (iters_listA s₈ v I₈.gi I₈.okO x.2) (fun it s₉ y => ?_) fun _ _ e => e
    obtain ⟨st₉, It, St', hItn, ok, hSt0⟩ := y
    have I₉ := I₈.go st₉
    have hItB : B.heap.get? It = none := by
      cases q : B.heap.get? It with
      | none => rfl
      | some o =>
        have := I₈.step.keep It o (fresh_offTab I₈.gi.tab hItn) q
        rw [hItn] at this; cases this
    intro p
    rw [← hY, show (outsOf side lns).length - 0 = (outsOf side (lns.drop 0)).length from rfl]
    refine seg_lines (A := A.in1) (outs := outsOf side lns) (It := It) (St := St') (lns := lns) (side := side) hh hcells hco hfk (by rw [hn]; kernel_rfl) hLz hDz hLt hDt (noneB _ hLn) (noneB _ hDn) hItB hst3 hgenB hat ok hlns ?_ ?_ ?hk ?hg _ 0 rfl (Nat.zero_le _) _ s'' s₉ rfl ⟨[], rfl⟩ (I₉.less ?_) hSt0 hz5
    case hk => rfl
    case hg => rfl
    · intro A' F' q hF'
      exact Tr.cmp (Ev.sliceHd (by walk_at "ev")) (by walk_at "ev") op_in2
    · intro A' F' q hF'
      exact Ev.sliceTl (by walk_at "ev")
    · exact List.Sublist.cons _ (List.Sublist.cons _ (List.Sublist.cons _ (List.Sublist.refl _)))
end
end
section
set_option Elab.async false
set_option maxRecDepth 100000
set_option linter.unusedVariables false

open PySem.Calls

/-! unpacking -/
section
variable {prog : Program} {w : World} {A : Around} {G : GData} {F : Fm} {ρ ρ' : List (Str × D)} {C : List (Addr × List D)} {s : Shared} {O : List Addr} {Q : Flow → Shared → Prop} {rest : List Stmt}

noncomputable def UnpOk (prog : Program) (w : World) (A : Around) (G : GData) (O : List Addr) (d : D) (ds : List D) : Prop :=
  ∀ s v, GI G s → OkO O s.heap → Rep O s.heap d v → wpAny (model prog w) A (unpackItems v ds.length none) (fun vs s' => Step s s' ∧ Reps O s'.heap ds vs) noE s

theorem step_ext {h' : Heap} (he : Heap.ExtBut s.heap.objs.size s.heap h') : Step s { s with heap := h' } :=
  Step.of_keeps (tk := s.toks) fun b o e => he b o (Nat.ne_of_lt (Heap.lt_size e)) e

theorem unp_tuple (hh : A.handled = none) {ds : List D} : UnpOk prog w A G O (.tuple ds) ds := fun s v g ho r => by
  rw [Rep] at r
  obtain ⟨a, vs, rfl, haO, hl, hr⟩ := r
  have hn : ds.length = vs.toArray.size := by simp [hr.length]
  rw [hn]
  refine wpAny_unpackItems_tuple hh hl fun h' he => ⟨step_ext he, ?_⟩
  have := hr.step ho (step_ext he)
  simpa using this

theorem wpAny_draw_list {it t : Addr} {items : Array Value} (hne : t ≠ it) : ∀ (n i : Nat) (s : Shared) (Q : List Value → Shared → Prop), s.heap.IsListIter it t i → s.heap.IsList t items → i + n ≤ items.size →
    (∀ h', h'.IsListIter it t (i + n) → Heap.SameBut it s.heap h' → Q ((items.toList.drop i).take n) { s with heap := h' }) → wpAny (model prog w) A (draw (.ref it) n) Q noE s
  | 0, i, s, Q, hit, _, _, hQ => by
    show wpAny _ _ (pure []) Q _ s
    exact wpAny_pure (by simpa using hQ s.heap hit (Heap.SameBut.refl ..))
  | n + 1, i, s, Q, hit, ht, hle, hQ => by
    have hlt : i < items.size := by omega
    show wpAny _ _ (pyNext (.ref it) >>= _) Q _ s
    refine wpAny_bind (wpAny_pyNext_list_item hit ht (x := items[i]) (by simp [hlt]) fun h₁ hit₁ hs₁ => ?_)
    refine wpAny_bind (wpAny_holding (wpAny_draw_list hne n (i + 1) _ _ hit₁ (ht.at fun o e => (hs₁.2 _ hne).trans e) (by omega) fun h₂ hit₂ hs₂ => wpAny_pure ?_))
    have hd : items.toList.drop i = items[i] :: items.toList.drop (i + 1) := by simp [List.drop_eq_getElem_cons, hlt]
    have := hQ h₂ (by rw [show i + (n + 1) = i + 1 + n by omega]; exact hit₂) (hs₁.trans hs₂)
    rw [hd, List.take_succ_cons] at this
    exact this

theorem unp_list (hh : A.handled = none) {ds : List D} : UnpOk prog w A G O (.list ds) ds := fun s v g ho r => by
  rw [Rep] at r
  obtain ⟨t, vs, rfl, haO, ht, hr⟩ := r
  have hlt : t ≠ s.heap.objs.size := by obtain ⟨o, ho, _⟩ := ht; exact Nat.ne_of_lt (Heap.lt_size ho)
  have hn : ds.length = vs.toArray.size := by simp [hr.length]
  rw [hn]
  unfold unpackItems
  refine wpAny_bind ?_
  unfold notIterableAtAll
  refine wpAny_bind (wpAny_specialOf ht.typeIs PySem.F.slot_list_iter.lookup ?_)
  refine wpAny_pure ?_
  simp only [Bool.false_eq_true, if_false]
  refine wpAny_bind (wpAny_holding (wpAny_pyIter_list ht ?_))
  have hlP : (s.heap.push { cls := .type "list_iterator", data := .fields #[.ref t, .int 0 0] }).IsList t vs.toArray := ht.push _
  refine wpAny_bind (wpAny_holding (wpAny_draw_list hlt vs.toArray.size 0 _ _ ⟨_, Heap.get?_push_size _ rfl, rfl, rfl⟩ hlP (by omega) fun h₁ hit₁ hs₁ => ?_))
  have hall : List.take vs.toArray.size (List.drop 0 vs.toArray.toList) = vs := by
    rw [List.drop_zero]; exact List.take_of_length_le (by simp)
  rw [hall]
  rw [if_neg (by simp)]
  have ht₁ : h₁.IsList t vs.toArray := hlP.at fun o e => (hs₁.2 _ hlt).trans e
  refine wpAny_bind (wpAny_holding (wpAny_pyNext_list_end hh hit₁ ht₁ (by simp) fun h₂ he₂ => ?_))
  simp only [Option.isSome_none, Bool.false_eq_true, if_false]
  have he : Heap.ExtBut s.heap.objs.size s.heap h₂ := fun b o hb e => he₂ b o hb (hs₁.extBut b o hb (Heap.get?_push_of_some _ e))
  exact wpAny_pure ⟨step_ext he, hr.step ho (step_ext he)⟩

/-- names at their places -/
theorem storesP {M : Model} {Q : Unit → Shared → Prop} : ∀ {ts : List (Str × Pos × D)} {vs : List Value} {ρ ρ' : List (Str × D)} {s : Shared}, PutAll (ts.map fun t => (t.1, t.2.2)) ρ ρ' → (∀ p ∈ ts, MayPut F p.1) → Inv G F ρ C s → Reps F.O s.heap (ts.map (·.2.2)) vs →
      (∀ s', Inv G F ρ' C s' → Q () s') → wpAny M A (assignInOrder (ts.map fun t => assign (.Name t.1 t.2.1) F.env) vs) Q noE s
  | [], vs, ρ, ρ', s, P, hp, I, r, h => by
    cases P
    exact assignInOrder_nil (h s I)
  | (x, px, d) :: xs, vs, ρ, ρ', s, P, hp, I, r, h => by
    rw [List.map_cons, Reps] at r
    obtain ⟨v, t, rfl, h1, h2⟩ := r
    cases P with
    | cons P1 P2 =>
      refine assignInOrder_cons (wpAny_assign_Name ?_)
      rcases hp (x, px, d) (.head _) with hk | ⟨c, hc⟩
      · obtain ⟨m, hn⟩ := I.ns
        refine wpAny_storeName_local hk hn (fun h' hn' hs => ?_) (by rw [I.kind]; rfl)
        refine storesP P2 (fun p hq => hp p (.tail _ hq)) (I.putLocal hk P1 h1 hn hn' hs) (h2.but hs fun o xs n e q => ?_) h
        obtain ⟨es, ep, h3⟩ := ns_data hn o e; rw [q] at h3; cases h3
      · obtain ⟨k1, k2, ⟨u, k3⟩, k4, k5⟩ := I.W _ hc
        refine wpAny_storeName_cell I.kind k1 k2 k3 fun h' hc' hs => ?_
        refine storesP P2 (fun p hq => hp p (.tail _ hq)) (I.putCell hc P1 h1 hc' hs) (h2.but hs fun o xs n e q => ?_) h
        obtain ⟨o', e', hd⟩ := k3
        dsimp only at e'
        rw [e] at e'; cases e'; rw [q] at hd; cases hd

/-- a target of several names -/
theorem Tgt.unp {ts : List (Str × Pos × D)} {d : D} {elts : List Expr} {k : Nat} {pos : Pos} (hu : UnpOk prog w A G F.O d (ts.map (·.2.2))) (hp : ∀ p ∈ ts, MayPut F p.1) (P : PutAll (ts.map fun t => (t.1, t.2.2)) ρ ρ')
    (he : assignEach elts F.env = ts.map fun t => (false, assign (.Name t.1 t.2.1) F.env)) : Tgt prog w A G F (.Tuple elts k pos) d ρ ρ' := fun C s v Q I r h => by
  show wpAny _ _ (do standAt pos; unpack v (assignEach elts F.env)) _ _ _
  refine wpAny_bind (wpAny_standAt ?_)
  unfold unpack
  rw [he]
  have hstar : (ts.map fun t => (false, assign (.Name t.1 t.2.1) F.env)).findIdx? (fun (p : Bool × (Value → Sem Unit)) => p.1) = none := by
    rw [List.findIdx?_eq_none_iff]; intro x hx; obtain ⟨t, _, rfl⟩ := List.mem_map.mp hx; rfl
  have hlen : (ts.map fun t => ((false, assign (.Name t.1 t.2.1) F.env) : Bool × (Value → Sem Unit))).length = (ts.map (·.2.2)).length := by simp
  refine wpAny_bind (wpAny_holding ?_)
  rw [hstar, hlen]
  refine wpAny_mono (hu s v I.gi I.okO r) (fun vs s' x => ?_) fun _ _ e => e
  have e2 : (ts.map fun t => ((false, assign (.Name t.1 t.2.1) F.env) : Bool × (Value → Sem Unit))).map (·.2) = ts.map fun t => assign (.Name t.1 t.2.1) F.env := by rw [List.map_map]; rfl
  rw [e2]
  exact storesP P hp (I.go x.1) x.2 h

theorem pos_nm (x : Str) (p : Pos) : (Expr.Name x p).pos = p := rfl
theorem swapped2 {env : Env} {x1 x2 : Str} {p1 p2 tp vp : Pos} {k k' : Nat} {e1 e2 : Expr} (hb : env.scope.kind = .function) (h1 : env.kindOf x1 = some .local) (h2 : env.kindOf x2 = some .local) (hl : (p2.line == p1.line) = true) (hne : (x1 == x2) = false)
    (hs1 : ∀ v p, e1 ≠ .Starred v p) (hs2 : ∀ v p, e2 ≠ .Starred v p) (hf : [e1, e2].all (foldedForSure 8) = false) (hc : [e1, e2].all (constantsAlone 8) = false) :
    swappedStores [.Tuple [.Name x1 p1, .Name x2 p2] k tp] (.Tuple [e1, e2] k' vp) env = pure (some [x1, x2]) := by
  have hbk := blockKind_fn hb
  have hl' : p2.line = p1.line := by simpa using hl
  have hne' : x2 ≠ x1 := fun q => by rw [q] at hne; simp at hne
  have hb2 : (x2 == x1) = false := by simpa using hne'
  unfold swappedStores
  simp only [hbk, hf, hc]
  simp [h1, h2, hl', pos_nm, List.eraseDups_cons, List.filter, hb2]

/-- two names, the stores exchanged -/
theorem x_asg2 {x1 x2 : Str} {d1 d2 : D} {p1 p2 tp vp pos : Pos} {k k' : Nat} {e1 e2 : Expr} (hh : A.handled = none) (I : Inv G F ρ C s) (he : Ev prog w A G F ρ C (.Tuple [e1, e2] k' vp) (.tuple [d1, d2])) (h1 : F.env.kindOf x1 = some .local) (h2 : F.env.kindOf x2 = some .local)
    (P : PutAll [(x2, d2), (x1, d1)] ρ ρ') (h : ∀ s', Inv G F ρ' C s' → wpAny (model prog w) A (execs rest F.env) Q noE s')
    (hl : (p2.line == p1.line) = true) (hne : (x1 == x2) = false) (hs1 : ∀ v p, e1 ≠ .Starred v p) (hs2 : ∀ v p, e2 ≠ .Starred v p)
    (hf : [e1, e2].all (foldedForSure 8) = false) (hc : [e1, e2].all (constantsAlone 8) = false) :
    wpAny (model prog w) A (execs (.Assign [.Tuple [.Name x1 p1, .Name x2 p2] k tp] (.Tuple [e1, e2] k' vp) pos :: rest) F.env) Q noE s := by
  have heI := he s I
  with_reducible refine' wpAny_execs_cons (PyProof.Rows.Assign_Tuple_swapped (names := [x1, x2]) (wpAny_mono heI (fun v s₁ x => ?_) fun _ _ e => e) ?hsw (swapped2 I.kind h1 h2 hl hne hs1 hs2 hf hc))
  case hsw => with_unfolding_all rfl
  have I₁ := I.go x.1
  have hu := unp_tuple (prog := prog) (w := w) hh s₁ v I₁.gi I₁.okO x.2
  replace hu : wpAny (model prog w) A (unpackItems v 2 none) (fun vs s' => Step s₁ s' ∧ Reps F.O s'.heap [d1, d2] vs) noE s₁ := hu
  show wpAny (model prog w) A (unpackItems v 2 none) _ _ _
  refine wpAny_mono hu (fun vs s₂ y => ?_) fun _ _ e => e
  have I₂ := I₁.go y.1
  obtain ⟨u1, u2, rfl, r1, r2⟩ : ∃ v u, vs = [v, u] ∧ Rep F.O s₂.heap d1 v ∧ Rep F.O s₂.heap d2 u := by
    have r := y.2
    rw [Reps] at r
    obtain ⟨v, t, rfl, h1, h2⟩ := r
    rw [Reps] at h2
    obtain ⟨u, t', rfl, h3, h4⟩ := h2
    rw [Reps] at h4; subst h4
    exact ⟨v, u, rfl, h1, h3⟩
  show wpAny (model prog w) A (assignInOrder [fun v => bindName F.env x2 v, fun v => bindName F.env x1 v] [u2, u1]) _ _ _
  exact stores (xs := [(x2, d2), (x1, d1)]) (fun x v => bindName F.env x v) (fun x v s Q hq => wpAny_bindName hq) P (fun p hp => by
    rcases List.mem_cons.mp hp with rfl | hp
    · exact .inl h2
    · rcases List.mem_cons.mp hp with rfl | hp
      · exact .inl h1
      · cases hp) I₂ (Reps.cons r2 (Reps.cons r1 Reps.nil)) fun s' I' => h s' I'

/-- several names, in their order -/
theorem x_asgN {ts : List (Str × Pos × D)} {d : D} {elts : List Expr} {k : Nat} {tp pos : Pos} {value : Expr} (I : Inv G F ρ C s) (he : Ev prog w A G F ρ C value d) (hu : UnpOk prog w A G F.O d (ts.map (·.2.2))) (hp : ∀ p ∈ ts, MayPut F p.1) (P : PutAll (ts.map fun t => (t.1, t.2.2)) ρ ρ')
    (h : ∀ s', Inv G F ρ' C s' → wpAny (model prog w) A (execs rest F.env) Q noE s')
    (hel : assignEach elts F.env = ts.map fun t => (false, assign (.Name t.1 t.2.1) F.env))
    (hs : swapsWithSole [.Tuple elts k tp] value pos.line F.env = pure false) (hw : swappedStores [.Tuple elts k tp] value F.env = pure none) :
    wpAny (model prog w) A (execs (.Assign [.Tuple elts k tp] value pos :: rest) F.env) Q noE s :=
  wpAny_execs_cons (PyProof.Rows.Assign_Tuple (wpAny_mono (he s I) (fun v s₁ x => Tgt.unp hu hp P hel C s₁ v _ (I.go x.1) x.2 fun s' I' => h s' I') fun _ _ e => e) hs hw)
end
end
section
set_option Elab.async false
set_option maxRecDepth 100000
set_option linter.unusedVariables false

open PySem.Calls
section
variable {prog : Program} {w : World} {A : Around} {G : GData} {F : Fm} {ρ ρ' : List (Str × D)} {C : List (Addr × List D)} {s : Shared} {O : List Addr} {Q : Flow → Shared → Prop} {rest : List Stmt}

/-- two names, the stores exchanged, the first a list of one's own -/
theorem x_own2 {x1 x2 : Str} {d2 : D} {p1 p2 tp vp lp pos : Pos} {k k' : Nat} {e2 : Expr} (ρ' : Addr → List (Str × D)) (hh : A.handled = none) (I : Inv G F ρ C s) (hfree : Free F) (hok : ∀ a, F.ok a) (h1 : F.env.kindOf x1 = some .local) (h2 : F.env.kindOf x2 = some .local)
    (he : ∀ a, Ev prog w A G { F with O := a :: F.O } ρ ((a, []) :: C) e2 d2)
    (P : ∀ a, PutAll [(x2, d2), (x1, .raw (.ref a))] ρ (ρ' a)) (h : ∀ a s', a ∉ F.O → Inv G { F with O := a :: F.O } (ρ' a) ((a, []) :: C) s' → wpAny (model prog w) A (execs rest F.env) Q noE s')
    (hl : (p2.line == p1.line) = true) (hne : (x1 == x2) = false) (hs2 : ∀ v p, e2 ≠ .Starred v p)
    (hst : starEach [.List [] lp, e2] F.env = (false, eval (.List [] lp) F.env) :: starEach [e2] F.env) (hst2 : starEach [e2] F.env = (false, eval e2 F.env) :: starEach [] F.env) :
    wpAny (model prog w) A (execs (.Assign [.Tuple [.Name x1 p1, .Name x2 p2] k tp] (.Tuple [.List [] lp, e2] k' vp) pos :: rest) F.env) Q noE s := by
  have q1 : ∀ v p, (Expr.List [] lp) ≠ .Starred v p := by intro _ _ q; cases q
  have q2 : [Expr.List [] lp, e2].all (foldedForSure 8) = false := by with_unfolding_all rfl
  have q3 : [Expr.List [] lp, e2].all (constantsAlone 8) = false := by with_unfolding_all rfl
  have hsw := swapped2 (k := k) (tp := tp) (k' := k') (vp := vp) I.kind h1 h2 hl hne q1 hs2 q2 q3
  with_reducible refine' wpAny_execs_cons (PyProof.Rows.Assign_Tuple_swapped (names := [x1, x2]) ?hv ?hsw hsw)
  case hsw => with_unfolding_all rfl
  case hv =>
    have hn : s.heap.get? s.heap.objs.size = none := get?_size _
    have J := I.newOwn (tk := s.toks) hn (fresh_offTab I.gi.tab hn) (fun b o e => Heap.get?_push_of_some { cls := .type "list", data := .seq ([] : List Value).toArray } e) ⟨_, Heap.get?_push_size _ rfl⟩ (hok _) (fun _ _ _ _ _ _ _ => hfree _)
    have hev := he s.heap.objs.size _ J
    refine Tuple_ (args_cons (List_ (args_nil (wpAny_newObj_type ?_))) hst)
    refine args_cons (wpAny_mono hev (fun v s₂ x => args_nil ?_) fun _ _ e => e) hst2
    have J₂ := J.go x.1
    have hR : Reps (s.heap.objs.size :: F.O) s₂.heap [.raw (.ref s.heap.objs.size), d2] [.ref s.heap.objs.size, v] := Reps.cons (by rw [Rep]) (Reps.cons x.2 Reps.nil)
    refine wpAny_newObj_type ?_ (by show 2 ≤ sizeLine; decide)
    have key := newTuple_rep J₂.okO hR
    have J₃ := J₂.go key.1
    have hu := unp_tuple (prog := prog) (w := w) hh _ _ J₃.gi J₃.okO key.2
    replace hu : wpAny (model prog w) A (unpackItems (.ref s₂.heap.objs.size) 2 none) (fun vs s' => Step _ s' ∧ Reps (s.heap.objs.size :: F.O) s'.heap [.raw (.ref s.heap.objs.size), d2] vs) noE _ := hu
    show wpAny (model prog w) A (unpackItems _ 2 none) _ _ _
    refine wpAny_mono hu (fun vs s₄ y => ?_) fun _ _ e => e
    have J₄ := J₃.go y.1
    obtain ⟨u1, u2, rfl, r1, r2⟩ := reps2 y.2
    show wpAny (model prog w) A (assignInOrder [fun v => bindName F.env x2 v, fun v => bindName F.env x1 v] [u2, u1]) _ _ _
    exact stores (F := { F with O := s.heap.objs.size :: F.O }) (xs := [(x2, d2), (x1, .raw (.ref s.heap.objs.size))]) (fun x v => bindName F.env x v) (fun x v s Q hq => wpAny_bindName hq) (P _) (fun p hp => by
      rcases List.mem_cons.mp hp with rfl | hp
      · exact .inl h2
      · rcases List.mem_cons.mp hp with rfl | hp
        · exact .inl h1
        · cases hp) J₄ (Reps.cons r2 (Reps.cons r1 Reps.nil)) fun s' I' => h _ s' (I.okO.fresh hn) I'
end
end
section
section
/-! the two texts -/
noncomputable def oct1 (x : Int) : Int := (x.fdiv 4).fmod 256
noncomputable def oct2 (x : Int) : Int := (x.fdiv 1024).fmod 256
noncomputable def row2 (x : Int) : Array UInt8 := byteArr [oct1 x, oct2 x]
noncomputable def row3 (x : Int) : Array UInt8 := byteArr [oct2 x, oct1 x, x.fmod 2]
noncomputable def newOf (x : Int) : List (Array UInt8) := (if x.fmod 2 = 0 then [row2 x] else []) ++ (if (x.fdiv 2).fmod 2 = 1 then [row3 x] else [])
noncomputable def oldText (xs : List Int) : List (Array UInt8) := xs.map row2
noncomputable def newText (xs : List Int) : List (Array UInt8) := xs.flatMap newOf
theorem oct_range (x : Int) : (0 ≤ oct1 x ∧ oct1 x < 256) ∧ (0 ≤ oct2 x ∧ oct2 x < 256) ∧ 0 ≤ x.fmod 2 ∧ x.fmod 2 < 256 := by
  unfold oct1 oct2
  rw [Int.fmod_eq_emod_of_nonneg _ (by decide), Int.fmod_eq_emod_of_nonneg _ (by decide), Int.fmod_eq_emod_of_nonneg _ (by decide)]
  (first | lia | omega)

variable {prog : Program} {w : World} {A : Around} {G : GData} {s : Shared} {O : List Addr}

noncomputable abbrev textRho (xs : List Int) (a : Addr) (nw : List (Array UInt8)) (tl : List (Str × D)) : List (Str × D) :=
  (Str.ofString "numbers", .list (xs.map .int)) :: (Str.ofString "new", .list (nw.map .bytes)) :: (Str.ofString "old", .raw (.ref a)) :: tl
noncomputable abbrev textTl (xs : List Int) : Nat → List (Str × D)
  | 0 => []
  | i + 1 => [(Str.ofString "x", .int (xs.getD i 0)), (Str.ofString "octets", .list [.int (oct1 (xs.getD i 0)), .int (oct2 (xs.getD i 0))])]

theorem spec_texts (g : Gr w G) {k : Nat} (hr : Room (k + 1) A) (xs : List Int) (hl : xs.length ≤ 100) : CallOk prog w A G O (.ref 153) [.list (xs.map .int)] (.tuple [.list ((oldText xs).map .bytes), .list ((newText xs).map .bytes)]) := by
  refine callOk_of fun s vs gi hO hR => ?_
  obtain ⟨v, rfl, h1⟩ := reps1 hR
  refine g.enter (f := 153) (binds := [(Str.ofString "numbers", v)]) (ρ := [(Str.ofString "numbers", .list (xs.map .int))]) hr rfl rfl rfl (by dsimp only) (by kernel_rfl) rfl rfl rfl rfl rfl rfl gi hO (wpAny_pure ⟨rfl, rfl⟩) (.cons h1 .nil) (by kernel_rfl) ?_
  intro fd L s₁ hn I
  have hr' : Room k (A.deeper (callEnvC fd L 153)) := hr.deeper
  have hh : (A.deeper (callEnvC fd L 153)).handled = none := hr'.1
  generalize hA : A.deeper (callEnvC fd L 153) = A' at hr' hh ⊢
  (with_reducible refine' x_own2 (d2 := .list []) (fun a => textRho xs a [] []) hh I ?hfree ?hok ?h1 ?h2 ?he ?P (fun a s₂ haO I₂ => ?next) ?hl ?hne ?hs2 ?hst ?hst2)
  case hfree => exact fun _ => trivial
  case hok => exact fun _ => trivial
  case h1 => exact kind_of hn (by kernel_rfl)
  case h2 => exact kind_of hn (by kernel_rfl)
  case he => exact fun a => Ev.list Evs.nil (by decide)
  case P =>
    intro a
    show PutAll _ _ [(Str.ofString "numbers", .list (xs.map .int)), (Str.ofString "new", .list []), (Str.ofString "old", .raw (.ref a))]
    exact .cons (by walk_at "put") (.cons (by walk_at "put") .nil)
  case hl => rfl
  case hne => decide
  case hs2 => intro _ _ q; cases q
  case hst => with_unfolding_all rfl
  case hst2 => with_unfolding_all rfl
  case next =>
    replace I₂ : Inv G (outFm fd 153 L a O s) (textRho xs a [] []) [(a, [])] s₂ := I₂
    let st : Nat → List (Array UInt8) := fun i => newText (xs.take i)
    have hsucc : ∀ i x, xs[i]? = some x → st (i + 1) = st i ++ newOf x ∧ oldText (xs.take (i + 1)) = oldText (xs.take i) ++ [row2 x] := fun i x hx => by
      constructor
      · show newText (xs.take (i + 1)) = _
        unfold newText
        rw [List.take_add_one, hx, List.flatMap_append]; simp [st, newText]
      · unfold oldText
        rw [List.take_add_one, hx, List.map_append]; rfl
    have hst : ∀ i, i ≤ xs.length → (st i).length ≤ 2 * i := fun i => by
      induction i with
      | zero => intro _; simp [st, newText]
      | succ i ih =>
        intro hi
        have hx : xs[i]? = some xs[i] := by simp [show i < xs.length by (first | lia | omega)]
        rw [(hsucc i _ hx).1]
        have : (newOf xs[i]).length ≤ 2 := by unfold newOf; split <;> split <;> simp
        have := ih (by (first | lia | omega))
        simp; (first | lia | omega)
    replace I₂ : Inv G (outFm fd 153 L a O s) (textRho xs a (st 0) (textTl xs 0)) [(a, (oldText (xs.take 0)).map .bytes)] s₂ := I₂
    (with_reducible refine' x_forN (F := outFm fd 153 L a O s) (ds := xs.map .int) (fun i => textRho xs a (st i) (textTl xs i)) (fun i => textRho xs a (st i) ((Str.ofString "x", .int (xs.getD i 0)) :: (textTl xs i).drop 1)) (fun i => [(a, (oldText (xs.take i)).map .bytes)]) I₂ ?hfree2 ?hi ?hp ?hputs ?turn ?rest ?hs)
    case hfree2 => exact fun _ => trivial
    case hs => intro _; with_unfolding_all rfl
    case hi => exact IterE.of (by walk_at "ev") (iters_list hh)
    case hp => exact put_of (s := s) hn (by kernel_rfl)
    case hputs =>
      intro i d hd
      have e : d = .int (xs.getD i 0) := by
        rw [List.getElem?_map, Option.map_eq_some_iff] at hd
        obtain ⟨c, hc, rfl⟩ := hd
        rw [List.getD_eq_getElem?_getD, hc]; rfl
      subst e
      cases i with
      | zero => show PutTo _ _ (textRho xs a (st 0) []) (textRho xs a (st 0) [_]); walk_at "put"
      | succ i => show PutTo _ _ (textRho xs a (st (i + 1)) [(Str.ofString "x", _), _]) (textRho xs a (st (i + 1)) [(Str.ofString "x", _), _]); walk_at "put"
    case turn =>
      intro P i d s₃ hd I₃
      obtain ⟨x, hx, rfl⟩ : ∃ x, xs[i]? = some x ∧ D.int x = d := by
        rw [List.getElem?_map, Option.map_eq_some_iff] at hd; exact hd
      have hg : xs.getD i 0 = x := by
        rw [List.getD_eq_getElem?_getD, hx]; rfl
      have hi : i < xs.length := by
        cases Nat.lt_or_ge i xs.length with
        | inl h => exact h
        | inr h => rw [List.getElem?_eq_none h] at hx; cases hx
      show wpAny _ _ _ (fun (f : Flow) s₃ => (f = .next ∨ f = .cont) ∧ Inv G _ (textRho xs a (st (i + 1)) [(Str.ofString "x", .int (xs.getD i 0)), (Str.ofString "octets", .list [.int (oct1 (xs.getD i 0)), .int (oct2 (xs.getD i 0))])]) _ s₃) _ _
      rw [(hsucc i x hx).1, (hsucc i x hx).2, hg]
      rw [hg] at I₃
      have hlen := hst i (by (first | lia | omega))
      generalize st i = nw at *
      have ⟨o1, o2, o3⟩ := oct_range x
      have hol : (oldText (xs.take i)).length ≤ 100 := by unfold oldText; simp; (first | lia | omega)
      replace I₃ : Inv G ((outFm fd 153 L a O s).with P) (textRho xs a nw [(Str.ofString "x", .int x)]) [(a, (oldText (xs.take i)).map .bytes)] s₃ := I₃.less (List.Sublist.cons₂ _ (List.Sublist.cons₂ _ (List.Sublist.cons₂ _ (List.Sublist.cons₂ _ (List.nil_sublist _)))))
      (with_reducible refine' x_assign (F := (outFm fd 153 L a O s).with P) (d := .list [.int (oct1 x), .int (oct2 x)]) I₃ ?a1 ?a2 ?a3 (fun s₄ I₄ => ?a4) ?a5)
      case a1 => exact Ev.list (Evs.cons (Ev.bin (Ev.bin (by walk_at "ev") (by walk_at "ev") (op_div (by decide) (by decide))) (by walk_at "ev") (op_mod (by decide))) (Evs.cons (Ev.bin (Ev.bin (by walk_at "ev") (by walk_at "ev") (op_div (by decide) (by decide))) (by walk_at "ev") (op_mod (by decide))) Evs.nil)) (by show 2 ≤ sizeLine; decide)
      case a2 => exact put_of (s := s) hn (by kernel_rfl)
      case a3 => walk_at "put"
      case a5 => with_unfolding_all rfl
      case a4 =>
      have hb2 : CallOk prog w A' G (a :: O) (.type "bytes") [.list [.int (oct1 x), .int (oct2 x)]] (.bytes (row2 x)) := call_bytes (ns := [oct1 x, oct2 x]) (by intro n hn; simp at hn; rcases hn with rfl | rfl <;> assumption) (by show 2 ≤ sizeLine; decide) hh
      have hb3 : CallOk prog w A' G (a :: O) (.type "bytes") [.list [.int (oct2 x), .int (oct1 x), .int (x.fmod 2)]] (.bytes (row3 x)) := call_bytes (ns := [oct2 x, oct1 x, x.fmod 2]) (by intro n hn; simp at hn; rcases hn with rfl | rfl | rfl <;> assumption) (by show 3 ≤ sizeLine; decide) hh
      refine x_append (F := (outFm fd 153 L a O s).with P) I₄ (by walk_at "mem") (Ev.callTyp (by walk_at "gl") (by walk_at "evs") hb2) (by simp; size_fits) fun s₅ I₅ => ?_
      (with_reducible refine' x_assign (F := (outFm fd 153 L a O s).with P) (d := .list ((nw ++ (if x.fmod 2 = 0 then [row2 x] else [])).map .bytes)) I₅ ?b1 ?b2 ?b3 (fun s₆ I₆ => ?b4) ?b5)
      case b1 =>
        refine Ev.as (Ev.bin (by walk_at "ev") (Ev.ite (d := .list ((if x.fmod 2 = 0 then [row2 x] else []).map .bytes)) (by walk_at "tr") (fun h => ?_) (fun h => ?_)) (op_addL ?_)) ?_
        · have : x.fmod 2 = 0 := by simpa using h
          rw [if_pos this]
          exact Ev.list (Evs.cons (Ev.callTyp (by walk_at "gl") (by walk_at "evs") hb2) Evs.nil) (by show 1 ≤ sizeLine; decide)
        · have : ¬ x.fmod 2 = 0 := by simpa using h
          rw [if_neg this]
          exact Ev.list Evs.nil (by decide)
        · split <;> simp <;> size_fits
        · rw [List.map_append]
      case b2 => exact put_of (s := s) hn (by kernel_rfl)
      case b3 => walk_at "put"
      case b5 => with_unfolding_all rfl
      case b4 =>
      (with_reducible refine' x_assign (F := (outFm fd 153 L a O s).with P) (d := .list ((nw ++ newOf x).map .bytes)) I₆ ?c1 ?c2 ?c3 (fun s₇ I₇ => ?c4) ?c5)
      case c1 =>
        refine Ev.as (Ev.bin (by walk_at "ev") (Ev.ite (d := .list ((if (x.fdiv 2).fmod 2 = 1 then [row3 x] else []).map .bytes)) (by walk_at "tr") (fun h => ?_) (fun h => ?_)) (op_addL ?_)) ?_
        · have : (x.fdiv 2).fmod 2 = 1 := by simpa using h
          rw [if_pos this]
          exact Ev.list (Evs.cons (Ev.callTyp (by walk_at "gl") (Evs.cons (by walk_at "ev") Evs.nil) hb3) Evs.nil) (by show 1 ≤ sizeLine; decide)
        · have : ¬ (x.fdiv 2).fmod 2 = 1 := by simpa using h
          rw [if_neg this]
          exact Ev.list Evs.nil (by decide)
        · split <;> split <;> simp <;> size_fits
        · unfold newOf; simp
      case c2 => exact put_of (s := s) hn (by kernel_rfl)
      case c3 => walk_at "put"
      case c5 => with_unfolding_all rfl
      case c4 =>
      refine x_nil ⟨.inl rfl, ?_⟩
      rw [List.map_append]
      exact I₇
    case rest =>
      intro s₃ I₃
      have hlen' : (xs.map D.int).length = xs.length := by simp
      rw [hlen'] at I₃
      have e1 : st xs.length = newText xs := by show newText (xs.take xs.length) = _; rw [List.take_length]
      have e2 : oldText (xs.take xs.length) = oldText xs := by rw [List.take_length]
      rw [e1, e2] at I₃
      have I₄ := I₃.reveal (F := fnFm fd 153 L O s) (O := O) (x := Str.ofString "old") (by walk_at "mem") (by walk_at "put") haO hO.tabs (by simp) (fun _ _ _ _ _ _ _ => trivial)
      replace I₄ : Inv G (fnFm fd 153 L O s) _ _ s₃ := I₄
      exact x_ret (F := fnFm fd 153 L O s) I₄ (by walk_at "ev") fun s' v I' r => ⟨v, rfl, I'.step, r⟩
end
end
section
set_option Elab.async false
set_option maxRecDepth 100000
set_option linter.unusedVariables false

open PySem.Calls PySem.SeqAt
section
variable {prog : Program} {w : World} {A : Around} {G : GData} {F : Fm} {ρ ρ' : List (Str × D)} {C : List (Addr × List D)} {s : Shared} {O : List Addr}

theorem EqAt.of_rc {a b : Value} (h : RcAt A s a b true) (hf : ∀ x t y u, ¬ (a = .float x t ∧ b = .float y u)) : EqAt A s a b true := fun prog w E Q hq => by
  unfold eqBool
  refine wpAny_holding ?_
  refine wpAny_ite_split (fun hab => ?_) (fun _ => ?_)
  · exact wpAny_bind (wpAny_rule (wpAny_pure hq))
  · cases a <;> first
      | exact wpAny_bind (h prog w E _ (wpAny_truthy_bool hq))
      | (cases b <;> first | exact wpAny_bind (h prog w E _ (wpAny_truthy_bool hq)) | exact absurd ⟨rfl, rfl⟩ (hf _ _ _ _))
end

mutual
noncomputable def dep : D → Nat
  | .list ds => deps ds + 1
  | .tuple ds => deps ds + 1
  | _ => 0
noncomputable def deps : List D → Nat
  | [] => 0
  | d :: ds => max (dep d) (deps ds)
end
mutual
noncomputable def eqOk : D → Bool
  | .raw _ => false
  | .list ds => eqOks ds
  | .tuple ds => eqOks ds
  | _ => true
noncomputable def eqOks : List D → Bool
  | [] => true
  | d :: ds => eqOk d && eqOks ds
end

section
variable {s : Shared} {O : List Addr}
theorem all_range_true {n : Nat} : (List.range n).all (fun _ => true) = true := by simp
mutual
theorem eqAt_same : ∀ (d : D) (A : Around) (v v' : Value), eqOk d = true → A.units + dep d < cLine → Rep O s.heap d v → Rep O s.heap d v' → RcAt A s v v' true ∧ EqAt A s v v' true
  | .none, A, v, v', ho, hu, r, r' => by
    rw [Rep] at r r'; subst r r'
    exact ⟨RcAt.none_none, EqAt.of_rc RcAt.none_none (by rintro _ _ _ _ ⟨h, _⟩; cases h)⟩
  | .bool b, A, v, v', ho, hu, r, r' => by
    rw [Rep] at r r'; subst r r'
    have := RcAt.bool_bool (A := A) (s := s) b b
    rw [beq_self_eq_true] at this
    exact ⟨this, EqAt.of_rc this (by rintro _ _ _ _ ⟨h, _⟩; cases h)⟩
  | .int i, A, v, v', ho, hu, r, r' => by
    rw [Rep] at r r'
    obtain ⟨t, rfl⟩ := r
    obtain ⟨t', rfl⟩ := r'
    have := RcAt.int_int (A := A) (s := s) i t i t'
    rw [beq_self_eq_true] at this
    exact ⟨this, EqAt.of_rc this (by rintro _ _ _ _ ⟨h, _⟩; cases h)⟩
  | .str i, A, v, v', ho, hu, r, r' => by
    rw [Rep] at r r'
    obtain ⟨t, rfl⟩ := r
    obtain ⟨t', rfl⟩ := r'
    have := RcAt.str_str (A := A) (s := s) i t i t'
    rw [beq_self_eq_true] at this
    exact ⟨this, EqAt.of_rc this (by rintro _ _ _ _ ⟨h, _⟩; cases h)⟩
  | .bytes b, A, v, v', ho, hu, r, r' => by
    rw [Rep] at r r'
    obtain ⟨t, rfl⟩ := r
    obtain ⟨t', rfl⟩ := r'
    have : RcAt A s (.bytes b t) (.bytes b t') true := fun prog w E Q h => eq_bytes (by rw [beq_self_eq_true]; exact h)
    exact ⟨this, EqAt.of_rc this (by rintro _ _ _ _ ⟨h, _⟩; cases h)⟩
  | .raw x, A, v, v', ho, hu, r, r' => by simp [eqOk] at ho
  | .list ds, A, v, v', ho, hu, r, r' => by
    rw [Rep] at r r'
    obtain ⟨a, vs, rfl, _, hl, hr⟩ := r
    obtain ⟨a', vs', rfl, _, hl', hr'⟩ := r'
    rw [eqOk] at ho
    rw [dep] at hu
    have he := eqAt_sames ds A.in1 vs vs' ho (by show A.units + 1 + deps ds < cLine; (first | lia | omega)) hr hr'
    have := RcAt.lists (A := A) hl hl' (by simp [hr.length, hr'.length]) (by (first | lia | omega)) (e := fun _ => true) (fun j h1 h2 => he j (by simpa using h1) (by simpa using h2))
    rw [all_range_true] at this
    exact ⟨this, EqAt.of_rc this (by rintro _ _ _ _ ⟨h, _⟩; cases h)⟩
  | .tuple ds, A, v, v', ho, hu, r, r' => by
    rw [Rep] at r r'
    obtain ⟨a, vs, rfl, _, hl, hr⟩ := r
    obtain ⟨a', vs', rfl, _, hl', hr'⟩ := r'
    rw [eqOk] at ho
    rw [dep] at hu
    have he := eqAt_sames ds A.in1 vs vs' ho (by show A.units + 1 + deps ds < cLine; (first | lia | omega)) hr hr'
    have := RcAt.tuples (A := A) hl hl' (by (first | lia | omega)) (e := fun _ => true) (fun j h1 h2 => he j (by simpa using h1) (by simpa using h2))
    rw [all_range_true, show (vs.toArray.size == vs'.toArray.size) = true by simp [hr.length, hr'.length]] at this
    exact ⟨this, EqAt.of_rc this (by rintro _ _ _ _ ⟨h, _⟩; cases h)⟩
theorem eqAt_sames : ∀ (ds : List D) (A : Around) (vs vs' : List Value), eqOks ds = true → A.units + deps ds < cLine → Reps O s.heap ds vs → Reps O s.heap ds vs' → ∀ j (h1 : j < vs.length) (h2 : j < vs'.length), EqAt A s vs[j] vs'[j] true
  | [], A, vs, vs', ho, hu, r, r' => by
    rw [Reps] at r; subst r
    intro j h1; simp at h1
  | d :: ds, A, vs, vs', ho, hu, r, r' => by
    rw [Reps] at r r'
    obtain ⟨v, t, rfl, h1, h2⟩ := r
    obtain ⟨v', t', rfl, h1', h2'⟩ := r'
    rw [eqOks, Bool.and_eq_true] at ho
    rw [deps] at hu
    intro j hj hj'
    cases j with
    | zero => exact (eqAt_same d A v v' ho.1 (by (first | lia | omega)) h1 h1').2
    | succ j => exact eqAt_sames ds A t t' ho.2 (by (first | lia | omega)) h2 h2' j (by simpa using hj) (by simpa using hj')
end
end
section
variable {prog : Program} {w : World} {A : Around} {G : GData} {O : List Addr}
theorem cmp_same {d : D} (ho : eqOk d = true) (hu : A.units + dep d < cLine) : Op2 prog w A G O (compareOp .Eq) d d (.bool true) := fun s v₁ v₂ g hO r₁ r₂ =>
  (eqAt_same d A v₁ v₂ ho hu r₁ r₂).1 prog w noE _ ⟨Step.refl s, rep_bool⟩
theorem cmpne_same {ds : List D} (ho : eqOks ds = true) (hu : A.units + deps ds + 1 < cLine) : Op2 prog w A G O (compareOp .NotEq) (.list ds) (.list ds) (.bool false) := fun s v₁ v₂ g hO r₁ r₂ => by
  rw [Rep] at r₁ r₂
  obtain ⟨a, vs, rfl, _, hl, hr⟩ := r₁
  obtain ⟨a', vs', rfl, _, hl', hr'⟩ := r₂
  have he := eqAt_sames ds A.in1 vs vs' ho (by show A.units + 1 + deps ds < cLine; (first | lia | omega)) hr hr'
  have := RcNeAt.lists (A := A) hl hl' (by simp [hr.length, hr'.length]) (by (first | lia | omega)) (e := fun _ => true) (fun j h1 h2 => he j (by simpa using h1) (by simpa using h2))
  rw [all_range_true] at this
  exact this prog w noE _ ⟨Step.refl s, rep_bool⟩
theorem cmpne_len {ds es : List D} (hn : ds.length ≠ es.length) (hu : A.units < cLine) : Op2 prog w A G O (compareOp .NotEq) (.list ds) (.list es) (.bool true) := fun s v₁ v₂ g hO r₁ r₂ => by
  rw [Rep] at r₁ r₂
  obtain ⟨a, vs, rfl, _, hl, hr⟩ := r₁
  obtain ⟨a', vs', rfl, _, hl', hr'⟩ := r₂
  exact RcNeAt.lists_lengths (A := A) hl hl' (by simp [hr.length, hr'.length, hn]) hu prog w noE _ ⟨Step.refl s, rep_bool⟩
end
end
section
section
/-! the runs -/
structure Rn where
  i0 : Int
  i1 : Int
  j0 : Int
  j1 : Int
  ls : List (Bool × Array UInt8)
noncomputable def tgS (b : Bool) : Str := if b then Str.ofString "+ " else Str.ofString "- "
noncomputable def lnD (p : Bool × Array UInt8) : D := .list [.str (tgS p.1), .bytes p.2]
noncomputable def Rn.dat (r : Rn) : List D := [.list [.int r.i0, .int r.i1], .list [.int r.j0, .int r.j1], .list (r.ls.map lnD)]
noncomputable def curD : Option Rn → List D
  | none => []
  | some r => r.dat
noncomputable def curL : Option Rn → List D
  | none => []
  | some r => [.list r.dat]
structure RSt where
  runs : List Rn
  cur : Option Rn
  i : Int
  j : Int
noncomputable def goes (x : Int) : Int := x.fmod 2
noncomputable def comes (x : Int) : Bool := (x.fdiv 2).fmod 2 == 1
noncomputable def cut0 (t : RSt) (x : Int) : RSt := if goes x = 0 then (match t.cur with | none => t | some r => { t with runs := t.runs ++ [r], cur := none }) else t
noncomputable def go1 (t : RSt) (x : Int) : RSt := if goes x = 1 then (let r := t.cur.getD ⟨t.i, t.i, t.j, t.j, []⟩; { t with cur := some { r with i1 := t.i + 1, ls := r.ls ++ [(false, row2 x)] } }) else t
noncomputable def adv (t : RSt) (x : Int) : RSt := { t with i := t.i + 1, j := t.j + 1 - goes x }
noncomputable def come (t : RSt) (x : Int) : RSt := if comes x then (let r := t.cur.getD ⟨t.i, t.i, t.j, t.j, []⟩; { t with cur := some { r with j1 := t.j + 1, ls := r.ls ++ [(true, row3 x)] }, j := t.j + 1 }) else t
noncomputable def runStep (t : RSt) (x : Int) : RSt := come (adv (go1 (cut0 t x) x) x) x
noncomputable def runFold (xs : List Int) : RSt := xs.foldl runStep ⟨[], none, 0, 0⟩
noncomputable def runsOf (xs : List Int) : List Rn := (runFold xs).runs ++ (match (runFold xs).cur with | none => [] | some r => [r])

variable {prog : Program} {w : World} {A : Around} {G : GData} {s : Shared} {O : List Addr}
noncomputable abbrev runRho (xs : List Int) (t : RSt) (tl : List (Str × D)) : List (Str × D) :=
  (Str.ofString "numbers", .list (xs.map .int)) :: (Str.ofString "runs", .list (t.runs.map fun r => .list r.dat)) :: (Str.ofString "run", .list (curD t.cur)) :: (Str.ofString "i", .int t.i) :: (Str.ofString "j", .int t.j) :: tl
noncomputable abbrev runTl (xs : List Int) : Nat → List (Str × D)
  | 0 => []
  | i + 1 => [(Str.ofString "x", .int (xs.getD i 0))]

noncomputable abbrev tl3 (x : Int) : List (Str × D) := [(Str.ofString "x", .int x), (Str.ofString "goes", .int (goes x)), (Str.ofString "octets", .list [.int (oct1 x), .int (oct2 x)])]
noncomputable def RB (n : Nat) (t : RSt) : Prop := t.runs.length ≤ n ∧ ∀ r, t.cur = some r → r.ls.length ≤ 2 * n
theorem goes_or (x : Int) : goes x = 0 ∨ goes x = 1 := by
  unfold goes
  rw [Int.fmod_eq_emod_of_nonneg _ (by decide)]
  (first | lia | omega)
theorem step_g0 {R : List Rn} {cur : Option Rn} {i j y : Int} (g : goes y = 0) : runStep ⟨R, cur, i, j⟩ y = come ⟨R ++ cur.toList, none, i + 1, j + 1⟩ y := by
  have e : go1 (cut0 ⟨R, cur, i, j⟩ y) y = ⟨R ++ cur.toList, none, i, j⟩ := by
    unfold go1 cut0
    rw [if_neg (by rw [g]; decide), if_pos g]
    cases cur with
    | none => rw [Option.toList_none, List.append_nil]
    | some r => rfl
  unfold runStep adv
  rw [e, g, Int.sub_zero]
theorem step_g1 {R : List Rn} {cur : Option Rn} {i j y : Int} (g : goes y = 1) : runStep ⟨R, cur, i, j⟩ y = come ⟨R, some { cur.getD ⟨i, i, j, j, []⟩ with i1 := i + 1, ls := (cur.getD ⟨i, i, j, j, []⟩).ls ++ [(false, row2 y)] }, i + 1, j⟩ y := by
  have e : go1 (cut0 ⟨R, cur, i, j⟩ y) y = ⟨R, some { cur.getD ⟨i, i, j, j, []⟩ with i1 := i + 1, ls := (cur.getD ⟨i, i, j, j, []⟩).ls ++ [(false, row2 y)] }, i, j⟩ := by
    unfold go1 cut0
    rw [if_pos g, if_neg (by rw [g]; decide)]
  unfold runStep adv
  rw [e, g, Int.add_sub_cancel]
theorem come_t {R : List Rn} {cur : Option Rn} {i j y : Int} (c : comes y = true) : come ⟨R, cur, i, j⟩ y = ⟨R, some { cur.getD ⟨i, i, j, j, []⟩ with j1 := j + 1, ls := (cur.getD ⟨i, i, j, j, []⟩).ls ++ [(true, row3 y)] }, i, j + 1⟩ := by
  unfold come; rw [if_pos c]
theorem come_f {t : RSt} {y : Int} (c : ¬ comes y = true) : come t y = t := if_neg c
theorem runStep_RB {n : Nat} {t : RSt} {x : Int} (h : RB n t) : RB (n + 1) (runStep t x) := by
  obtain ⟨runs, cur, i, j⟩ := t
  obtain ⟨h1, h2⟩ := h
  have h1 : runs.length ≤ n := h1
  have hl : (cur.getD ⟨i, i, j, j, []⟩).ls.length ≤ 2 * n := by
    cases cur with
    | none => exact Nat.zero_le _
    | some r => exact h2 r rfl
  rcases goes_or x with g | g
  · rw [step_g0 g]
    have h3 : (runs ++ cur.toList).length ≤ n + 1 := by
      rw [List.length_append]
      cases cur with
      | none => exact Nat.le_succ_of_le h1
      | some r => exact Nat.succ_le_succ h1
    by_cases c : comes x = true
    · rw [come_t c]; exact ⟨h3, fun r q => by cases q; exact Nat.le_trans (Nat.le_succ 1) (Nat.mul_le_mul_left 2 (Nat.le_add_left 1 n))⟩
    · rw [come_f c]; exact ⟨h3, fun r q => by cases q⟩
  · rw [step_g1 g]
    by_cases c : comes x = true
    · rw [come_t c]; exact ⟨Nat.le_succ_of_le h1, fun r q => by cases q; rw [List.length_append, Option.getD_some, List.length_append]; exact Nat.add_le_add_right hl 2⟩
    · rw [come_f c]; exact ⟨Nat.le_succ_of_le h1, fun r q => by cases q; rw [List.length_append]; exact Nat.le_succ_of_le (Nat.add_le_add_right hl 1)⟩
theorem cut0_RB {n : Nat} {t : RSt} {x : Int} (h : RB n t) : RB (n + 1) (cut0 t x) := by
  obtain ⟨runs, cur, i, j⟩ := t
  obtain ⟨h1, h2⟩ := h
  simp only at h1 h2
  cases cur with
  | none => by_cases g : goes x = 0 <;> simp [RB, cut0, g] <;> (first | lia | omega)
  | some r =>
    have := h2 r rfl
    by_cases g : goes x = 0 <;> simp [RB, cut0, g] <;> (first | lia | omega)
theorem go1_RB {n : Nat} {t : RSt} {x : Int} (h : RB n t) : RB (n + 1) (go1 t x) := by
  obtain ⟨runs, cur, i, j⟩ := t
  obtain ⟨h1, h2⟩ := h
  simp only at h1 h2
  cases cur with
  | none => by_cases g : goes x = 1 <;> simp [RB, go1, g] <;> (first | lia | omega)
  | some r =>
    have := h2 r rfl
    by_cases g : goes x = 1 <;> simp [RB, go1, g] <;> (first | lia | omega)
theorem runFold_succ (xs : List Int) (i : Nat) (x : Int) (hx : xs[i]? = some x) : runFold (xs.take (i + 1)) = runStep (runFold (xs.take i)) x := by
  show List.foldl _ _ (xs.take (i + 1)) = _
  rw [List.take_add_one, hx, List.foldl_append]; rfl
theorem runFold_RB (xs : List Int) : ∀ i, i ≤ xs.length → RB i (runFold (xs.take i))
  | 0, _ => by simp [RB, runFold]
  | i + 1, h => by
    rw [runFold_succ xs i xs[i] (by simp [show i < xs.length by (first | lia | omega)])]
    exact runStep_RB (runFold_RB xs i (by (first | lia | omega)))
theorem spec_runs (g : Gr w G) {k : Nat} (hr : Room (k + 1) A) (xs : List Int) (hl : xs.length ≤ 100) : CallOk prog w A G O (.ref 146) [.list (xs.map .int)] (.list ((runsOf xs).map fun r => .list r.dat)) := by
  refine callOk_of fun s vs gi hO hR => ?_
  obtain ⟨v, rfl, h1⟩ := reps1 hR
  refine g.enter (f := 146) (binds := [(Str.ofString "numbers", v)]) (ρ := [(Str.ofString "numbers", .list (xs.map .int))]) hr rfl rfl rfl (by dsimp only) (by kernel_rfl) rfl rfl rfl rfl rfl rfl gi hO (wpAny_pure ⟨rfl, rfl⟩) (.cons h1 .nil) (by kernel_rfl) ?_
  intro fd L s₁ hn I
  have hr' : Room k (A.deeper (callEnvC fd L 146)) := hr.deeper
  have hh : (A.deeper (callEnvC fd L 146)).handled = none := hr'.1
  generalize hA : A.deeper (callEnvC fd L 146) = A' at hr' hh ⊢
  (with_reducible refine' x_asgN (F := fnFm fd 146 L O s) (ts := [(Str.ofString "runs", _, .list []), (Str.ofString "run", _, .list []), (Str.ofString "i", _, .int 0), (Str.ofString "j", _, .int 0)]) (d := .tuple [.list [], .list [], .int 0, .int 0]) I ?he ?hu ?hp ?P (fun s₂ I₂ => ?next) ?hel ?hs ?hw)
  case hel => with_unfolding_all rfl
  case hs => with_unfolding_all rfl
  case hw => with_unfolding_all rfl
  case he => walk_at "ev"
  case hu => exact unp_tuple hh
  case hp =>
    intro p hp
    simp only [List.mem_cons, List.not_mem_nil, or_false] at hp
    rcases hp with rfl | rfl | rfl | rfl <;> exact put_of (s := s) hn (by kernel_rfl)
  case P => exact .cons (by walk_at "put") (.cons (by walk_at "put") (.cons (by walk_at "put") (.cons (by walk_at "put") .nil)))
  case next =>
    replace I₂ : Inv G (fnFm fd 146 L O s) (runRho xs (runFold (xs.take 0)) (runTl xs 0)) [] s₂ := I₂
    let st : Nat → RSt := fun i => runFold (xs.take i)
    have hsucc : ∀ i x, xs[i]? = some x → st (i + 1) = runStep (st i) x := fun i x hx => by
      show List.foldl _ _ (xs.take (i + 1)) = _
      rw [List.take_add_one, hx, List.foldl_append]; rfl
    have hst : ∀ i, i ≤ xs.length → RB i (st i) := fun i hi => runFold_RB xs i hi
    (with_reducible refine' x_forN (F := fnFm fd 146 L O s) (ds := xs.map .int) (fun i => runRho xs (st i) (runTl xs i)) (fun i => runRho xs (st i) [(Str.ofString "x", .int (xs.getD i 0))]) (fun i => []) I₂ ?hfree2 ?hi ?hp ?hputs ?turn ?rest ?hs)
    case hfree2 => exact fun _ => trivial
    case hs => intro _; with_unfolding_all rfl
    case hi => exact IterE.of (by walk_at "ev") (iters_list hh)
    case hp => exact put_of (s := s) hn (by kernel_rfl)
    case hputs =>
      intro i d hd
      have e : d = .int (xs.getD i 0) := by
        rw [List.getElem?_map, Option.map_eq_some_iff] at hd
        obtain ⟨c, hc, rfl⟩ := hd
        rw [List.getD_eq_getElem?_getD, hc]; rfl
      subst e
      cases i with
      | zero => show PutTo _ _ (runRho xs (st 0) []) (runRho xs (st 0) [_]); walk_at "put"
      | succ i => show PutTo _ _ (runRho xs (st (i + 1)) [(Str.ofString "x", _)]) (runRho xs (st (i + 1)) [(Str.ofString "x", _)]); walk_at "put"
    case turn =>
      intro P i d s₃ hd I₃
      obtain ⟨x, hx, rfl⟩ : ∃ x, xs[i]? = some x ∧ D.int x = d := by
        rw [List.getElem?_map, Option.map_eq_some_iff] at hd; exact hd
      have hg : xs.getD i 0 = x := by
        rw [List.getD_eq_getElem?_getD, hx]; rfl
      have hi : i < xs.length := by
        cases Nat.lt_or_ge i xs.length with
        | inl h => exact h
        | inr h => rw [List.getElem?_eq_none h] at hx; cases hx
      show wpAny _ _ _ (fun (f : Flow) s₃ => (f = .next ∨ f = .cont) ∧ Inv G _ (runRho xs (st (i + 1)) [(Str.ofString "x", .int (xs.getD i 0))]) [] s₃) _ _
      rw [hsucc i x hx, show runStep (st i) x = come (adv (go1 (cut0 (st i) x) x) x) x from rfl, hg]
      rw [hg] at I₃
      have hb := hst i (by (first | lia | omega))
      generalize st i = t at *
      have hu : A'.units + 10 < cLine := by have := hr'.2.2; unfold cLine; (first | lia | omega)
      have ⟨o1, o2, o3⟩ := oct_range x
      have hb2 : CallOk prog w A' G O (.type "bytes") [.list [.int (oct1 x), .int (oct2 x)]] (.bytes (row2 x)) := call_bytes (ns := [oct1 x, oct2 x]) (by intro n hn; simp at hn; rcases hn with rfl | rfl <;> assumption) (by show 2 ≤ sizeLine; decide) hh
      have hb3 : CallOk prog w A' G O (.type "bytes") [.list [.int (oct2 x), .int (oct1 x), .int (goes x)]] (.bytes (row3 x)) := call_bytes (ns := [oct2 x, oct1 x, x.fmod 2]) (by intro n hn; simp at hn; rcases hn with rfl | rfl | rfl <;> assumption) (by show 3 ≤ sizeLine; decide) hh
      (with_reducible refine' x_asg2 (F := (fnFm fd 146 L O s).with P) (d1 := .list [.int (oct1 x), .int (oct2 x)]) (d2 := .int (goes x)) (ρ' := runRho xs t (tl3 x)) hh I₃ ?a1 ?a2 ?a3 ?a4 (fun s₄ I₄ => ?a5) ?a6 ?a7 ?a8 ?a9 ?a10 ?a11)
      case a1 => exact Ev.tuple (Evs.cons (Ev.list (Evs.cons (Ev.bin (Ev.bin (by walk_at "ev") (by walk_at "ev") (op_div (by decide) (by decide))) (by walk_at "ev") (op_mod (by decide))) (Evs.cons (Ev.bin (Ev.bin (by walk_at "ev") (by walk_at "ev") (op_div (by decide) (by decide))) (by walk_at "ev") (op_mod (by decide))) Evs.nil)) (by show 2 ≤ sizeLine; decide)) (Evs.cons (Ev.bin (by walk_at "ev") (by walk_at "ev") (op_mod (by decide))) Evs.nil)) (by show 2 ≤ sizeLine; decide)
      case a2 => exact kind_of hn (by kernel_rfl)
      case a3 => exact kind_of hn (by kernel_rfl)
      case a4 => exact .cons (by walk_at "put") (.cons (by walk_at "put") .nil)
      case a6 => rfl
      case a7 => decide
      case a8 => intro _ _ q; cases q
      case a9 => intro _ _ q; cases q
      case a10 => with_unfolding_all rfl
      case a11 => with_unfolding_all rfl
      case a5 =>
      have hne : ∀ (c : Option Rn), Op2 prog w A' G O (compareOp .NotEq) (.list (curD c)) (.list []) (.bool c.isSome) := fun c => by
        cases c with
        | none => exact cmpne_same rfl (by show A'.units + 0 + 1 < cLine; (first | lia | omega))
        | some r => exact cmpne_len (by show (3 : Nat) ≠ 0; decide) (by (first | lia | omega))
      refine x_ifJ (F := (fnFm fd 146 L O s).with P) (runRho xs (cut0 t x) (tl3 x)) [] (b := (goes x == 0 && (t.cur.isSome && true))) I₄ (Tr.and (by walk_at "tr") fun _ => Tr.and (Tr.cmp (by walk_at "ev") (by walk_at "ev") (hne t.cur)) fun _ => Tr.andNil) (fun h s₅ I₅ => ?_) (fun h s₅ I₅ => ?_) (fun s₅ I₅ => ?_)
      · obtain ⟨runs, cur, ti, tj⟩ := t
        obtain ⟨g0, hc⟩ : goes x = 0 ∧ cur.isSome = true := by simpa using h
        obtain ⟨r, rfl⟩ := Option.isSome_iff_exists.mp hc
        have hcut : cut0 ⟨runs, some r, ti, tj⟩ x = ⟨runs ++ [r], none, ti, tj⟩ := by unfold cut0; rw [if_pos g0]
        rw [hcut]
        (with_reducible refine' x_asg2 (F := (fnFm fd 146 L O s).with P) (d1 := .list ((runs ++ [r]).map fun r => .list r.dat)) (d2 := .list []) (ρ' := (Str.ofString "numbers", .list (xs.map .int)) :: (Str.ofString "runs", .list ((runs ++ [r]).map fun r => .list r.dat)) :: (Str.ofString "run", .list []) :: (Str.ofString "i", .int ti) :: (Str.ofString "j", .int tj) :: tl3 x) hh I₅ ?b1 ?b2 ?b3 ?b4 (fun s₆ I₆ => ?b5) ?b6 ?b7 ?b8 ?b9 ?b10 ?b11)
        case b1 => exact Ev.tuple (Evs.cons (Ev.as (Ev.bin (by walk_at "ev") (by walk_at "ev") (op_addL (by have := hb.1; simp at this ⊢; size_fits))) (by simp [curD])) (Evs.cons (by walk_at "ev") Evs.nil)) (by show 2 ≤ sizeLine; decide)
        case b2 => exact kind_of hn (by kernel_rfl)
        case b3 => exact kind_of hn (by kernel_rfl)
        case b4 => exact .cons (by walk_at "put") (.cons (by walk_at "put") .nil)
        case b6 => rfl
        case b7 => decide
        case b8 => intro _ _ q; cases q
        case b9 => intro _ _ q; cases q
        case b10 => with_unfolding_all rfl
        case b11 => with_unfolding_all rfl
        case b5 => exact x_nil ⟨rfl, I₆⟩
      · have hcut : cut0 t x = t := by
          unfold cut0
          split
          · rename_i g0
            cases hc : t.cur with
            | none => rfl
            | some r => rw [hc, g0] at h; simp at h
          · rfl
        rw [hcut]
        exact x_nil ⟨rfl, I₅⟩
      have hb1 : RB (i + 1) (cut0 t x) := cut0_RB hb
      generalize cut0 t x = t1 at *
      refine x_ifJ (F := (fnFm fd 146 L O s).with P) (runRho xs (go1 t1 x) (tl3 x)) [] (b := (goes x == 1)) I₅ (by walk_at "tr") (fun h s₆ I₆ => ?_) (fun h s₆ I₆ => ?_) (fun s₆ I₆ => ?_)
      · have g1 : goes x = 1 := by simpa using h
        obtain ⟨runs, cur, ti, tj⟩ := t1
        have hls : (cur.getD ⟨ti, ti, tj, tj, []⟩).ls.length ≤ 2 * (i + 1) := by
          cases cur with
          | none => simp
          | some r => exact hb1.2 r rfl
        (with_reducible refine' x_assign (F := (fnFm fd 146 L O s).with P) (d := .list (cur.getD ⟨ti, ti, tj, tj, []⟩).dat) I₆ ?c1 ?c2 ?c3 (fun s₇ I₇ => ?c4) ?c5)
        case c1 =>
          refine Ev.ite (c := cur.isSome) (Tr.cmp (by walk_at "ev") (by walk_at "ev") (hne cur)) (fun h => ?_) (fun h => ?_)
          · obtain ⟨r, rfl⟩ := Option.isSome_iff_exists.mp h
            exact Ev.as (d := .list (curD (some r))) (by walk_at "ev") rfl
          · have : cur = none := by simpa using h
            subst this
            exact Ev.as (d := .list [.list [.int ti, .int ti], .list [.int tj, .int tj], .list []]) (by walk_at "ev") rfl
        case c2 => exact put_of (s := s) hn (by kernel_rfl)
        case c3 => walk_at "put"
        case c5 => with_unfolding_all rfl
        case c4 =>
        have hgo : go1 ⟨runs, cur, ti, tj⟩ x = ⟨runs, some { (cur.getD ⟨ti, ti, tj, tj, []⟩) with i1 := ti + 1, ls := (cur.getD ⟨ti, ti, tj, tj, []⟩).ls ++ [(false, row2 x)] }, ti, tj⟩ := by unfold go1; rw [if_pos g1]
        rw [hgo]
        generalize cur.getD ⟨ti, ti, tj, tj, []⟩ = r at *
        (with_reducible refine' x_assign (F := (fnFm fd 146 L O s).with P) (d := .list [.list [.int r.i0, .int (ti + 1)], .list [.int r.j0, .int r.j1], .list (r.ls.map lnD ++ [.list [.str (Str.ofString "- "), .bytes (row2 x)]])]) I₇ ?d1 ?d2 ?d3 (fun s₈ I₈ => ?d4) ?d5)
        case d1 =>
          exact Ev.list (Evs.cons (Ev.list (Evs.cons (by walk_at "ev") (Evs.cons (by walk_at "ev") Evs.nil)) (by show 2 ≤ sizeLine; decide)) (Evs.cons (by walk_at "ev") (Evs.cons (Ev.bin (by walk_at "ev") (Ev.list (Evs.cons (Ev.list (Evs.cons (by walk_at "ev") (Evs.cons (Ev.callTyp (by walk_at "gl") (by walk_at "evs") hb2) Evs.nil)) (by show 2 ≤ sizeLine; decide)) Evs.nil) (by show 1 ≤ sizeLine; decide)) (op_addL (by simp; size_fits))) Evs.nil))) (by show 3 ≤ sizeLine; decide)
        case d2 => exact put_of (s := s) hn (by kernel_rfl)
        case d3 => walk_at "put"
        case d5 => with_unfolding_all rfl
        case d4 =>
        refine x_nil ⟨rfl, ?_⟩
        have e : (r.ls ++ [(false, row2 x)]).map lnD = r.ls.map lnD ++ [.list [.str (Str.ofString "- "), .bytes (row2 x)]] := by rw [List.map_append]; rfl
        show Inv G _ ((Str.ofString "numbers", _) :: (Str.ofString "runs", _) :: (Str.ofString "run", D.list [.list [.int r.i0, .int (ti + 1)], .list [.int r.j0, .int r.j1], .list ((r.ls ++ [(false, row2 x)]).map lnD)]) :: _) _ _
        rw [e]
        exact I₈
      · have hgo : go1 t1 x = t1 := by
          unfold go1
          rw [if_neg (by simpa using h)]
        rw [hgo]
        exact x_nil ⟨rfl, I₆⟩
      have hb2' : RB (i + 2) (go1 t1 x) := go1_RB hb1
      generalize go1 t1 x = t2 at *
      (with_reducible refine' x_asg2 (F := (fnFm fd 146 L O s).with P) (d1 := .int (t2.i + 1)) (d2 := .int (t2.j + 1 - goes x)) (ρ' := (Str.ofString "numbers", .list (xs.map .int)) :: (Str.ofString "runs", .list (t2.runs.map fun r => .list r.dat)) :: (Str.ofString "run", .list (curD t2.cur)) :: (Str.ofString "i", .int (t2.i + 1)) :: (Str.ofString "j", .int (t2.j + 1 - goes x)) :: tl3 x) hh I₆ ?e1 ?e2 ?e3 ?e4 (fun s₇ I₇ => ?e5) ?e6 ?e7 ?e8 ?e9 ?e10 ?e11)
      case e1 => exact Ev.tuple (by walk_at "evs") (by show 2 ≤ sizeLine; decide)
      case e2 => exact kind_of hn (by kernel_rfl)
      case e3 => exact kind_of hn (by kernel_rfl)
      case e4 => exact .cons (by walk_at "put") (.cons (by walk_at "put") .nil)
      case e6 => rfl
      case e7 => decide
      case e8 => intro _ _ q; cases q
      case e9 => intro _ _ q; cases q
      case e10 => with_unfolding_all rfl
      case e11 => with_unfolding_all rfl
      case e5 =>
      replace I₇ : Inv G ((fnFm fd 146 L O s).with P) (runRho xs (adv t2 x) (tl3 x)) [] s₇ := I₇
      have hb3' : RB (i + 2) (adv t2 x) := hb2'
      generalize adv t2 x = t3 at *
      refine x_ifJ (F := (fnFm fd 146 L O s).with P) (runRho xs (come t3 x) (tl3 x)) [] (b := comes x) I₇ (Tr.cmp (by walk_at "ev") (by walk_at "ev") cmp_eq) (fun h s₈ I₈ => ?_) (fun h s₈ I₈ => ?_) (fun s₈ I₈ => ?_)
      · obtain ⟨runs, cur, ti, tj⟩ := t3
        have hls : (cur.getD ⟨ti, ti, tj, tj, []⟩).ls.length ≤ 2 * (i + 2) := by
          cases cur with
          | none => simp
          | some r => exact hb3'.2 r rfl
        (with_reducible refine' x_assign (F := (fnFm fd 146 L O s).with P) (d := .list (cur.getD ⟨ti, ti, tj, tj, []⟩).dat) I₈ ?c1 ?c2 ?c3 (fun s₇ I₇ => ?c4) ?c5)
        case c1 =>
          refine Ev.ite (c := cur.isSome) (Tr.cmp (by walk_at "ev") (by walk_at "ev") (hne cur)) (fun h => ?_) (fun h => ?_)
          · obtain ⟨r, rfl⟩ := Option.isSome_iff_exists.mp h
            exact Ev.as (d := .list (curD (some r))) (by walk_at "ev") rfl
          · have : cur = none := by simpa using h
            subst this
            exact Ev.as (d := .list [.list [.int ti, .int ti], .list [.int tj, .int tj], .list []]) (by walk_at "ev") rfl
        case c2 => exact put_of (s := s) hn (by kernel_rfl)
        case c3 => walk_at "put"
        case c5 => with_unfolding_all rfl
        case c4 =>
        have hgo : come ⟨runs, cur, ti, tj⟩ x = ⟨runs, some { (cur.getD ⟨ti, ti, tj, tj, []⟩) with j1 := tj + 1, ls := (cur.getD ⟨ti, ti, tj, tj, []⟩).ls ++ [(true, row3 x)] }, ti, tj + 1⟩ := by unfold come; rw [if_pos h]
        rw [hgo]
        generalize cur.getD ⟨ti, ti, tj, tj, []⟩ = r at *
        (with_reducible refine' x_assign (F := (fnFm fd 146 L O s).with P) (d := .list [.list [.int r.i0, .int r.i1], .list [.int r.j0, .int (tj + 1)], .list (r.ls.map lnD ++ [.list [.str (Str.ofString "+ "), .bytes (row3 x)]])]) I₇ ?d1 ?d2 ?d3 (fun s₈ I₈ => ?d4) ?d5)
        case d1 =>
          exact Ev.list (Evs.cons (by walk_at "ev") (Evs.cons (Ev.list (Evs.cons (by walk_at "ev") (Evs.cons (by walk_at "ev") Evs.nil)) (by show 2 ≤ sizeLine; decide)) (Evs.cons (Ev.bin (by walk_at "ev") (Ev.list (Evs.cons (Ev.list (Evs.cons (by walk_at "ev") (Evs.cons (Ev.callTyp (by walk_at "gl") (Evs.cons (Ev.list (by walk_at "evs") (by show 3 ≤ sizeLine; decide)) Evs.nil) hb3) Evs.nil)) (by show 2 ≤ sizeLine; decide)) Evs.nil) (by show 1 ≤ sizeLine; decide)) (op_addL (by simp; size_fits))) Evs.nil))) (by show 3 ≤ sizeLine; decide)
        case d2 => exact put_of (s := s) hn (by kernel_rfl)
        case d3 => walk_at "put"
        case d5 => with_unfolding_all rfl
        case d4 =>
        (with_reducible refine' x_assign (F := (fnFm fd 146 L O s).with P) (d := .int (tj + 1)) I₈ ?f1 ?f2 ?f3 (fun s₉ I₉ => ?f4) ?f5)
        case f1 => walk_at "ev"
        case f2 => exact put_of (s := s) hn (by kernel_rfl)
        case f3 => walk_at "put"
        case f5 => with_unfolding_all rfl
        case f4 =>
        refine x_nil ⟨rfl, ?_⟩
        have e : (r.ls ++ [(true, row3 x)]).map lnD = r.ls.map lnD ++ [.list [.str (Str.ofString "+ "), .bytes (row3 x)]] := by rw [List.map_append]; rfl
        show Inv G _ ((Str.ofString "numbers", _) :: (Str.ofString "runs", _) :: (Str.ofString "run", D.list [.list [.int r.i0, .int r.i1], .list [.int r.j0, .int (tj + 1)], .list ((r.ls ++ [(true, row3 x)]).map lnD)]) :: _) _ _
        rw [e]
        exact I₉
      · have hgo : come t3 x = t3 := by
          unfold come
          rw [if_neg (by simp [h])]
        rw [hgo]
        exact x_nil ⟨rfl, I₈⟩
      exact x_nil ⟨.inl rfl, I₈.less (List.Sublist.cons_cons _ (List.Sublist.cons_cons _ (List.Sublist.cons_cons _ (List.Sublist.cons_cons _ (List.Sublist.cons_cons _ (List.Sublist.cons_cons _ (List.nil_sublist _)))))))⟩
    case rest =>
      intro s₃ I₃
      have hlen' : (xs.map D.int).length = xs.length := by simp
      rw [hlen'] at I₃
      have e1 : st xs.length = runFold xs := by show runFold (xs.take xs.length) = _; rw [List.take_length]
      have hbe := hst xs.length (Nat.le_refl _)
      rw [e1] at I₃ hbe
      have hu : A'.units + 10 < cLine := by have := hr'.2.2; unfold cLine; (first | lia | omega)
      have hne : ∀ (c : Option Rn), Op2 prog w A' G O (compareOp .NotEq) (.list (curD c)) (.list []) (.bool c.isSome) := fun c => by
        cases c with
        | none => exact cmpne_same rfl (by show A'.units + 0 + 1 < cLine; (first | lia | omega))
        | some r => exact cmpne_len (by show (3 : Nat) ≠ 0; decide) (by (first | lia | omega))
      have hro : (D.list ((runsOf xs).map fun r => .list r.dat)) = .list (((runFold xs).runs.map fun r => .list r.dat) ++ (curL (runFold xs).cur)) := by
        unfold runsOf
        cases (runFold xs).cur <;> simp [curL]
      rw [hro]
      generalize runFold xs = t at *
      obtain ⟨runs, cur, ti, tj⟩ := t
      refine x_ret (F := fnFm fd 146 L O s) I₃ (Ev.bin (by walk_at "ev") (Ev.ite (d := .list (curL cur)) (c := cur.isSome) (Tr.cmp (by walk_at "ev") (by walk_at "ev") (hne cur)) (fun h => ?_) (fun h => ?_)) (op_addL ?_)) fun s' v I' r => ⟨v, rfl, I'.step, r⟩
      · obtain ⟨r, rfl⟩ := Option.isSome_iff_exists.mp h
        exact Ev.as (d := .list [.list (curD (some r))]) (by walk_at "ev") rfl
      · have : cur = none := by simpa using h
        subst this
        exact Ev.as (d := .list []) (by walk_at "ev") rfl
      · have := hbe.1
        simp only at this
        cases cur <;> simp [curL] <;> size_fits
end
end
section
section
/-! the patch -/
noncomputable def closGo (cells : List (Str × Addr)) : List (Str × NameKind) → List (Str × Addr) → List (Str × Addr)
  | [], cs => cs
  | (n, k) :: r, cs => if (k == .free) = true then closGo cells r ((n, (cells.lookup n).getD 0) :: cs) else closGo cells r cs
theorem closureFor_of {scope : Scope} {env : Env} (h : ∀ p ∈ scope.names, p.2 = .free → (env.cells.lookup p.1).isSome = true) : closureFor scope env = pure (closGo env.cells scope.names []) := by
  unfold closureFor
  have key : ∀ (names : List (Str × NameKind)) (cs : List (Str × Addr)), (∀ p ∈ names, p.2 = .free → (env.cells.lookup p.1).isSome = true) →
      (forIn (m := Sem) names cs fun x cs => match x with
        | (name, kind) => if (kind == .free) = true then do let a ← cellOf env name; pure (ForInStep.yield ((name, a) :: cs)) else pure (ForInStep.yield cs)) = pure (closGo env.cells names cs) := by
    intro names
    induction names with
    | nil => intro cs _; rfl
    | cons p r ih =>
      intro cs hp
      obtain ⟨n, k⟩ := p
      rw [List.forIn_cons]
      by_cases hk : (k == NameKind.free) = true
      · have hs := hp (n, k) (.head _) (by simpa using hk)
        obtain ⟨a, ha⟩ := Option.isSome_iff_exists.mp hs
        dsimp only at ha
        have e := ih ((n, a) :: cs) fun q hq => hp q (.tail _ hq)
        unfold closGo
        rw [if_pos hk, ha]
        dsimp only
        rw [if_pos hk]
        unfold cellOf
        rw [ha]
        exact e
      · have e := ih cs fun q hq => hp q (.tail _ hq)
        unfold closGo
        rw [if_neg hk]
        dsimp only
        rw [if_neg hk]
        exact e
  have := key scope.names [] h
  show (forIn (m := Sem) scope.names [] _ >>= fun cs => pure cs) = _
  rw [this]
  rfl
theorem clos_of {scope : Scope} {env : Env} {cells cl : List (Str × Addr)} (hc : env.cells = cells) (h : (scope.names.all fun p => p.2 != .free || (cells.lookup p.1).isSome) = true) (e : closGo cells scope.names [] = cl) : closureFor scope env = pure cl := by
  rw [closureFor_of (fun p hp hk => ?_), hc, e]
  rw [hc]
  have := List.all_eq_true.mp h p hp
  rw [hk] at this
  simpa using this
theorem relabel_cell {env : Env} {x : Str} (hk : env.scope.kind = .function) (hc : env.kindOf x = some .cell) : ∀ {names : List (Str × NameKind)}, names.lookup x = some .free →
    (names.map fun (n, k) => if (k == NameKind.free && env.scope.kind == .function && env.kindOf n == some .cell) then (n, NameKind.cell) else (n, k)).lookup x = some .cell
  | [], h => by simp at h
  | (n, k) :: r, h => by
    show List.lookup x ((if (k == NameKind.free && env.scope.kind == .function && env.kindOf n == some .cell) = true then (n, NameKind.cell) else (n, k)) :: _) = _
    cases hx : x == n with
    | true =>
      have e : x = n := by simpa using hx
      subst e
      simp only [List.lookup_cons, hx] at h
      cases h
      rw [hk, hc]
      simp
    | false =>
      simp only [List.lookup_cons, hx] at h
      have ih := relabel_cell hk hc (names := r) h
      split <;> simp only [List.lookup_cons, hx] <;> exact ih

variable {prog : Program} {w : World} {A : Around} {G : GData} {s : Shared} {O : List Addr}

theorem x_insert {F : Fm} {ρ : List (Str × D)} {C : List (Addr × List D)} {Q : Flow → Shared → Prop} {rest : List Stmt} {a : Addr} {ds : List D} {x : Str} {d : D} {k : Int} {e₁ e₂ : Expr} {px ap pos spos : Pos} {pl : Sem Bool} (I : Inv G F ρ ((a, ds) :: C) s) (hx : (x, D.raw (.ref a)) ∈ ρ) (he₁ : Ev prog w A G F ρ ((a, ds) :: C) e₁ (.int k)) (he₂ : Ev prog w A G F ρ ((a, ds) :: C) e₂ d) (h0 : 0 ≤ k) (hk : k ≤ ds.length) (hz : ds.length ≤ sizeLine)
    (h : ∀ s', Inv G F ρ ((a, ds.take k.toNat ++ d :: ds.drop k.toNat) :: C) s' → wpAny (model prog w) A (execs rest F.env) Q noE s') (hdb : (x == ("__debug__" : Str)) = false := by decide)
    (hc : eval (.Call (.Attribute (.Name x px) "insert" ap) [e₁, e₂] [] pos) F.env = (do
      let ov ← eval (.Name x px) F.env
      standAt ap.atName
      let (f, first) ← holding [ov] (getMethod ov "insert" pl)
      callWith pos f first (backTo pos (starEach [e₁, e₂] F.env)) []) := by first | rfl | with_unfolding_all rfl)
    (hse : starEach [e₁, e₂] F.env = (false, eval e₁ F.env) :: starEach [e₂] F.env := by first | rfl | with_unfolding_all rfl)
    (hse2 : starEach [e₂] F.env = (false, eval e₂ F.env) :: starEach [] F.env := by first | rfl | with_unfolding_all rfl)
    (hplain : (backTo pos (starEach [e₂] F.env)).any (·.1) = false := by first | rfl | with_unfolding_all rfl)
    (hsw : swapsWith (.Call (.Attribute (.Name x px) "insert" ap) [e₁, e₂] [] pos) none spos.line F.env = pure false := by first | rfl | with_unfolding_all rfl) :
    wpAny (model prog w) A (execs (.Expr (.Call (.Attribute (.Name x px) "insert" ap) [e₁, e₂] [] pos) spos :: rest) F.env) Q noE s := by
  have hi : interactive F.env = false := by unfold interactive; rw [I.kind]; rfl
  refine wpAny_execs_cons (wpAny_Expr (MethodCall_ (pl := pl) (wpAny_Name (I.load hx fun v r => ?_) hdb) hc) hi hsw)
  rw [Rep] at r; subst r
  obtain ⟨k1, k2, k3, vs, k4, k5⟩ := I.own _ (.head _)
  dsimp only at k1 k2 k3 k4 k5
  refine meth_list PySem.F.slot_list_insert PySem.F.type_list_insert k4 ?_
  refine callWith_method1 (rest := [e₂]) (wpAny_mono (Evs.cons he₁ (Evs.cons he₂ Evs.nil hse2) hse s pos I) (fun us s₂ y => ?_) fun _ _ e => e) hse hplain
  obtain ⟨u, u', rfl, hu, hu'⟩ := reps2 y.2
  rw [Rep] at hu
  obtain ⟨tu, rfl⟩ := hu
  have I₂ := I.go y.1
  obtain ⟨_, _, _, vs₂, k4', k5'⟩ := I₂.own _ (.head _)
  dsimp only at k4' k5'
  have hl := k5'.length
  refine call_insert k4' h0 (by omega) (by omega) (fun h' hl' hsb => ?_)
  exact h _ (I₂.setOwn hl' hsb ((k5'.take _).append (Reps.cons hu' (k5'.drop _))))

noncomputable def encL (b : Array UInt8) : List Nat := (encB b).toList.map (·.toNat)
noncomputable def qd (b : Array UInt8) : B4 := ((encL b).getD 0 0, (encL b).getD 1 0, (encL b).getD 2 0, (encL b).getD 3 0)
theorem encL_four {b : Array UInt8} (h : (encL b).length = 4) : encL b = [(qd b).1, (qd b).2.1, (qd b).2.2.1, (qd b).2.2.2] := by
  unfold qd
  generalize encL b = l at *
  match l, h with
  | [a, b, c, d], _ => rfl
theorem call_join {xs : List Str} (hok : JoinOk (Str.ofString "") xs = true) : CallOk prog w A G O (.builtin "str.join") [.str (Str.ofString ""), .list (xs.map .str)] (.str (Txt.join (Str.ofString "") xs)) := fun s vs g ho r => by
  obtain ⟨v, u, rfl, r1, r2⟩ := reps2 r
  rw [Rep] at r1
  rw [Rep] at r2
  obtain ⟨t, rfl⟩ := r1
  obtain ⟨l, us, rfl, _, hl, hr⟩ := r2
  have key : ∀ (xs : List Str) (us : List Value), Reps O s.heap (xs.map .str) us → ∃ l : List (Str × Tok), us = strValues l ∧ l.map (·.1) = xs := by
    intro xs
    induction xs with
    | nil => intro us r; rw [List.map_nil, Reps] at r; subst r; exact ⟨[], rfl, rfl⟩
    | cons x xs ih =>
      intro us r
      rw [List.map_cons, Reps] at r
      obtain ⟨v, t, rfl, h1, h2⟩ := r
      rw [Rep] at h1
      obtain ⟨tk, rfl⟩ := h1
      obtain ⟨l, rfl, e⟩ := ih t h2
      exact ⟨(x, tk) :: l, rfl, by rw [List.map_cons, e]⟩
  obtain ⟨l', rfl, e⟩ := key xs us hr
  exact SC.join hl e hok fun t' k => ⟨Step.toks, rep_str⟩

structure RnOk (r : Rn) : Prop where
  i : 0 ≤ r.i0 ∧ r.i0 ≤ r.i1 ∧ r.i1 ≤ 900
  j : 0 ≤ r.j0 ∧ r.j0 ≤ r.j1 ∧ r.j1 ≤ 900
  ls : r.ls.length ≤ 1000
  row : ∀ p ∈ r.ls, p.2.size ≤ 1000 ∧ (encL p.2).length = 4
noncomputable def lnT (p : Bool × Array UInt8) : Str := lnS (tagOf p.1, qd p.2)
noncomputable def Rn.ent (r : Rn) : D := .list [.list [.str (uniText r.i0 r.i1), .str (uniText r.j0 r.j1)], .list [.str (ctxText r.i0 r.i1), .str (ctxText r.j0 r.j1)], .list (r.ls.map fun p => .str (lnT p))]
noncomputable def ins {α : Type} (l : List α) (k : Nat) (x : α) : List α := l.take k ++ x :: l.drop k
noncomputable def spot (xs : List Int) (k : Nat) : Nat := (((xs.getD k 0).fdiv 5).fmod ((k : Int) + 1)).toNat
noncomputable def rn0 : Rn := ⟨0, 0, 0, 0, []⟩
noncomputable def patchTo (xs : List Int) (rs : List Rn) : Nat → List Rn
  | 0 => []
  | k + 1 => ins (patchTo xs rs k) (spot xs k) (rs.getD k rn0)
theorem patchTo_len (xs : List Int) (rs : List Rn) : ∀ k, (patchTo xs rs k).length = k
  | 0 => rfl
  | k + 1 => by
    have := patchTo_len xs rs k
    simp only [patchTo, ins, List.length_append, List.length_cons, List.length_take, List.length_drop]
    omega
theorem spot_le (xs : List Int) (k : Nat) : 0 ≤ ((xs.getD k 0).fdiv 5).fmod ((k : Int) + 1) ∧ ((xs.getD k 0).fdiv 5).fmod ((k : Int) + 1) ≤ k := by
  rw [Int.fmod_eq_emod_of_nonneg _ (by omega)]
  have h1 := Int.emod_nonneg ((xs.getD k 0).fdiv 5) (show (k : Int) + 1 ≠ 0 by omega)
  have h2 := Int.emod_lt_of_pos ((xs.getD k 0).fdiv 5) (show (0 : Int) < (k : Int) + 1 by omega)
  omega
theorem ins_map {α β : Type} (f : α → β) (l : List α) (k : Nat) (x : α) : (ins l k x).map f = (l.map f).take k ++ f x :: (l.map f).drop k := by simp [ins]
theorem line_join {p : Bool × Array UInt8} (h : (encL p.2).length = 4) : tgS p.1 ++ Txt.join (Str.ofString "") ((encL p.2).map fun c => (⟨#[c]⟩ : Str)) = lnT p := by
  rw [encL_four h]
  unfold lnT
  generalize qd p.2 = q
  obtain ⟨a, b, c, d⟩ := q
  cases p.1 <;> rfl
end
end
section
section
variable {prog : Program} {w : World} {A : Around} {G : GData} {s : Shared} {O : List Addr}

theorem rel_lookup {fd : FuncData} {L f : Addr} {scope : Scope} {x : Str} {names : List (Str × NameKind)} (hn : fd.scope.names = names) (hf : fd.scope.kind = .function) (hc : names.lookup x = some .cell) (h : scope.names.lookup x = some .free) :
    (relabel scope (callEnvC fd L f)).names.lookup x = some .cell := relabel_cell (env := callEnvC fd L f) hf (kind_of hn hc) h

noncomputable abbrev patRho (xs : List Int) (rs : List Rn) (a : Addr) (tl : List (Str × D)) : List (Str × D) :=
  (Str.ofString "numbers", .list (xs.map .int)) :: (Str.ofString "runs", .list (rs.map fun r => .list r.dat)) :: (Str.ofString "patch", .raw (.ref a)) :: tl
noncomputable def headD (r : Rn) (b : Bool) : D := .list [.str (if b then ctxText r.i0 r.i1 else uniText r.i0 r.i1), .str (if b then ctxText r.j0 r.j1 else uniText r.j0 r.j1)]
noncomputable abbrev patVars (r : Rn) : List (Str × D) := [(Str.ofString "one", .list [.int r.i0, .int r.i1]), (Str.ofString "two", .list [.int r.j0, .int r.j1]), (Str.ofString "lines", .list (r.ls.map lnD)), (Str.ofString "heads", .list ([false, true].map (headD r))), (Str.ofString "delta", .list (r.ls.map fun p => .str (lnT p)))]
noncomputable abbrev patTl (rs : List Rn) : Nat → List (Str × D)
  | 0 => []
  | i + 1 => (Str.ofString "k", .int i) :: patVars (rs.getD i rn0)

theorem spec_patch (g : Gr w G) {k : Nat} (hr : Room (k + 4) A) (xs : List Int) (rs : List Rn) (hl : xs.length ≤ 100) (hrl : rs.length ≤ xs.length) (hok : ∀ r ∈ rs, RnOk r) : CallOk prog w A G O (.ref 158) [.list (xs.map .int), .list (rs.map fun r => .list r.dat)] (.list ((patchTo xs rs rs.length).map Rn.ent)) := by
  refine callOk_of fun s vs gi hO hR => ?_
  obtain ⟨v, u, rfl, h1, h2⟩ := reps2 hR
  refine g.enter (f := 158) (binds := [(Str.ofString "numbers", v), (Str.ofString "runs", u)]) (ρ := [(Str.ofString "numbers", .list (xs.map .int)), (Str.ofString "runs", .list (rs.map fun r => .list r.dat))]) hr rfl rfl rfl (by dsimp only) (by kernel_rfl) rfl rfl rfl rfl rfl rfl gi hO (wpAny_pure ⟨rfl, rfl⟩) (.cons h1 (.cons h2 .nil)) (by kernel_rfl) ?_
  intro fd L s₁ hn I
  have hr' : Room (k + 3) (A.deeper (callEnvC fd L 158)) := hr.deeper
  have hh : (A.deeper (callEnvC fd L 158)).handled = none := hr'.1
  generalize hA : A.deeper (callEnvC fd L 158) = A' at hr' hh ⊢
  have hfk : fd.scope.kind = .function := I.kind
  have hcells : cellsFrom (L + 1) fd.scope.names [] = [(Str.ofString "two", L + 2), (Str.ofString "one", L + 1)] := by rw [hn]; rfl
  (with_reducible refine' x_own (F := fnFm fd 158 L O s) (fun a => patRho xs rs a []) I ?hp ?hfree ?hok ?hput (fun a s₂ haO I₂ => ?next))
  case hp => exact put_of (s := s) hn (by kernel_rfl)
  case hfree => exact fun _ => trivial
  case hok => exact fun _ => trivial
  case hput => intro a; walk_at "put"
  case next =>
    replace I₂ : Inv G (outFm fd 158 L a O s) (patRho xs rs a (patTl rs 0)) [(a, (patchTo xs rs 0).map Rn.ent)] s₂ := I₂
    have hm1 : (Str.ofString "one", L + 1) ∈ (outFm fd 158 L a O s).W := by show _ ∈ cellsFrom (L + 1) fd.scope.names []; rw [hcells]; simp
    have hm2 : (Str.ofString "two", L + 2) ∈ (outFm fd 158 L a O s).W := by show _ ∈ cellsFrom (L + 1) fd.scope.names []; rw [hcells]; simp
    (with_reducible refine' x_forN (F := outFm fd 158 L a O s) (ds := (List.range (rs.length : Int).toNat).map fun (i : Nat) => D.int (i : Int)) (fun i => patRho xs rs a (patTl rs i)) (fun i => patRho xs rs a ((Str.ofString "k", .int i) :: (patTl rs i).drop 1)) (fun i => [(a, (patchTo xs rs i).map Rn.ent)]) I₂ ?hfree2 ?hi ?hp ?hputs ?turn ?rest ?hs)
    case hfree2 => exact fun _ => trivial
    case hs => intro _; with_unfolding_all rfl
    case hi =>
      (with_reducible refine' iter_range hh ?r1 ?r2 ?r3 ?r4 ?r5 ?r6)
      case r1 => walk_at "gl"
      case r2 => exact Ev.as (Ev.callBlt (by walk_at "gl") (by walk_at "evs") (call_len (by simp; (first | lia | omega)))) (by simp)
      case r3 => (first | lia | omega)
      case r4 => (first | lia | omega)
      case r5 => with_unfolding_all rfl
      case r6 => with_unfolding_all rfl
    case hp => exact put_of (s := s) hn (by kernel_rfl)
    case hputs =>
      intro i d hd
      rw [List.getElem?_map, Option.map_eq_some_iff] at hd
      obtain ⟨j, hj, rfl⟩ := hd
      obtain ⟨hlt, rfl⟩ := List.getElem?_eq_some_iff.mp hj
      simp only [Int.toNat_natCast, List.length_range, List.getElem_range] at hlt ⊢
      cases i with
      | zero => show PutTo _ _ (patRho xs rs a []) (patRho xs rs a [_]); walk_at "put"
      | succ i => show PutTo _ _ (patRho xs rs a ((Str.ofString "k", .int i) :: patVars (rs.getD i rn0))) (patRho xs rs a ((Str.ofString "k", .int ((i + 1 : Nat) : Int)) :: patVars (rs.getD i rn0))); walk_at "put"
    case turn =>
      intro P i d s₃ hd I₃
      rw [List.getElem?_map, Option.map_eq_some_iff] at hd
      obtain ⟨j, hj, rfl⟩ := hd
      obtain ⟨hlt, rfl⟩ := List.getElem?_eq_some_iff.mp hj
      simp only [Int.toNat_natCast, List.length_range, List.getElem_range] at hlt
      obtain ⟨r, hri⟩ : ∃ r, rs[i]? = some r := ⟨rs[i], by simp [hlt]⟩
      have hrg : rs.getD i rn0 = r := by rw [List.getD_eq_getElem?_getD, hri]; rfl
      have hro : RnOk r := hok r (List.mem_of_getElem? hri)
      have hrd : (rs.map fun r => D.list r.dat)[((i : Int)).toNat]? = some (.list r.dat) := by rw [Int.toNat_natCast, List.getElem?_map, hri]; rfl
      have hxd : (xs.map D.int)[((i : Int)).toNat]? = some (.int (xs.getD i 0)) := by
        rw [Int.toNat_natCast, List.getElem?_map, List.getD_eq_getElem?_getD]
        rw [List.getElem?_eq_getElem (show i < xs.length by (first | lia | omega))]; rfl
      have ⟨q1, q2⟩ := spot_le xs i
      have hpl : ((patchTo xs rs i).map Rn.ent).length = i := by rw [List.length_map, patchTo_len]
      show wpAny _ _ _ (fun (f : Flow) s₃ => (f = .next ∨ f = .cont) ∧ Inv G _ (patRho xs rs a ((Str.ofString "k", .int i) :: patVars (rs.getD i rn0))) [(a, (ins (patchTo xs rs i) (spot xs i) (rs.getD i rn0)).map Rn.ent)] s₃) _ _
      rw [hrg, ins_map]
      replace I₃ : Inv G ((outFm fd 158 L a O s).with P) (patRho xs rs a [(Str.ofString "k", .int i)]) [(a, (patchTo xs rs i).map Rn.ent)] s₃ := I₃.less (List.Sublist.cons_cons _ (List.Sublist.cons_cons _ (List.Sublist.cons_cons _ (List.Sublist.cons_cons _ (List.nil_sublist _)))))
      generalize (patchTo xs rs i).map Rn.ent = done at *
      (with_reducible refine' x_asgN (F := (outFm fd 158 L a O s).with P) (ts := [(Str.ofString "one", _, .list [.int r.i0, .int r.i1]), (Str.ofString "two", _, .list [.int r.j0, .int r.j1]), (Str.ofString "lines", _, .list (r.ls.map lnD))]) (d := .list r.dat) I₃ ?he ?hu ?hp ?P (fun s₄ I₄ => ?next) ?hel ?hs ?hw)
      case hel => with_unfolding_all rfl
      case hs => with_unfolding_all rfl
      case hw => with_unfolding_all rfl
      case he => exact Ev.sub (by walk_at "ev") (by walk_at "ev") (sub_list (by (first | lia | omega)) (by (first | lia | omega)) hrd)
      case hu => exact unp_list hh
      case hp =>
        intro p hp
        simp only [List.mem_cons, List.not_mem_nil, or_false] at hp
        rcases hp with rfl | rfl | rfl
        · exact .inr ⟨_, hm1⟩
        · exact .inr ⟨_, hm2⟩
        · exact put_of (s := s) hn (by kernel_rfl)
      case P =>
        show PutAll [(Str.ofString "one", .list [.int r.i0, .int r.i1]), (Str.ofString "two", .list [.int r.j0, .int r.j1]), (Str.ofString "lines", .list (r.ls.map lnD))] _ _
        exact .cons (by walk_at "put") (.cons (by walk_at "put") (.cons (by walk_at "put") .nil))
      case next =>
      have hc1 : (callEnvC fd L 158).cells.lookup (Str.ofString "one") = some (L + 1) := by show (cellsFrom (L + 1) fd.scope.names []).lookup _ = _; rw [hcells]; rfl
      have hc2 : (callEnvC fd L 158).cells.lookup (Str.ofString "two") = some (L + 2) := by show (cellsFrom (L + 1) fd.scope.names []).lookup _ = _; rw [hcells]; rfl
      with_reducible refine' x_assignC (F := (outFm fd 158 L a O s).with P) [false, true] (fun b => D.raw (.ref (if b then 35 else 28))) (headD r) [(Str.ofString "one", .list [.int r.i0, .int r.i1]), (Str.ofString "two", .list [.int r.j0, .int r.j1])] (fun b => [(Str.ofString "one", .list [.int r.i0, .int r.i1]), (Str.ofString "two", .list [.int r.j0, .int r.j1]), (Str.ofString "form", D.raw (.ref (if b then 35 else 28)))]) [(Str.ofString "two", L + 2), (Str.ofString "one", L + 1)] I₄ ?hok ?hi ?hsee ?hclos ?hap ?htgt ?hsub ?helt ?hk ?P (fun s₅ I₅ => ?next) ?hz ?hln ?hnm ?hcell ?hkind ?hnames ?hs
      case hln => rfl
      case hnm => decide
      case hcell => decide
      case hkind => rfl
      case hnames => decide
      case hs => intro _; with_unfolding_all rfl
      case hk => exact kind_of hn (by kernel_rfl)
      case hok => exact fun _ => trivial
      case hi => exact IterE.of (d := .list [.raw (.ref 28), .raw (.ref 35)]) (by walk_at "ev") (iters_list hh)
      case hsee =>
        refine Sees.cons (Sees.cons Sees.nil (by walk_at "mem") (by decide) (rel_lookup hn hfk (by rfl) (by rfl)) hc2.symm (kind_of hn (by kernel_rfl))) (by walk_at "mem") (by simp only [List.map_cons, List.map_nil, List.mem_singleton]; decide) (rel_lookup hn hfk (by rfl) (by rfl)) hc1.symm (kind_of hn (by kernel_rfl))
      case hclos => exact clos_of hcells rfl rfl
      case hap => simp
      case hz => decide
      case hsub => exact fun b _ => List.Sublist.cons_cons _ (List.Sublist.cons_cons _ (List.nil_sublist _))
      case P => walk_at "put"
      case htgt => exact fun b hb L Dd bs kp ok => Tgt.name (.inl (by with_unfolding_all rfl)) (by walk_at "put")
      case helt =>
        intro b hb L₂ Dd bs kp ok C'
        have hfm : CallOk prog w A' G (Dd :: a :: O) (.ref (if b then 35 else 28)) [.int r.i0, .int r.i1] (.str (if b then ctxText r.i0 r.i1 else uniText r.i0 r.i1)) := by
          cases b with
          | true => exact spec_ctx (k := k) g (hr'.le (by (first | lia | omega))) _ _ hro.i.1 hro.i.2.1 hro.i.2.2
          | false => exact spec_uni (k := k) g (hr'.le (by (first | lia | omega))) _ _ hro.i.1 hro.i.2.1 hro.i.2.2
        have hfm2 : CallOk prog w A' G (Dd :: a :: O) (.ref (if b then 35 else 28)) [.int r.j0, .int r.j1] (.str (if b then ctxText r.j0 r.j1 else uniText r.j0 r.j1)) := by
          cases b with
          | true => exact spec_ctx (k := k) g (hr'.le (by (first | lia | omega))) _ _ hro.j.1 hro.j.2.1 hro.j.2.2
          | false => exact spec_uni (k := k) g (hr'.le (by (first | lia | omega))) _ _ hro.j.1 hro.j.2.1 hro.j.2.2
        have hgf : ∃ o fd, G.h.get? (if b then 35 else 28) = some o ∧ o.data = .func fd := by
          cases b with
          | true => exact ⟨_, _, g.kin 35 _ rfl, rfl⟩
          | false => exact ⟨_, _, g.kin 28 _ rfl, rfl⟩
        obtain ⟨fo, ffd, hfo, hfd⟩ := hgf
        unfold headD
        generalize (if b then 35 else 28 : Addr) = fa at *
        exact Ev.list (Evs.cons (Ev.callDef (by walk_at "ev") hfo hfd (by walk_at "evs") hfm) (Evs.cons (Ev.callDef (by walk_at "ev") hfo hfd (by walk_at "evs") hfm2) Evs.nil)) (by show 2 ≤ sizeLine; decide)
      case next =>
      (with_reducible refine' x_assignC (F := (outFm fd 158 L a O s).with P) r.ls lnD (fun p => .str (lnT p)) [] (fun p => [(Str.ofString "tag", .str (tgS p.1)), (Str.ofString "row", .bytes p.2)]) [] I₅ ?hok ?hi Sees.nil ?hclos ?hap ?htgt ?hsub ?helt ?hk ?P (fun s₆ I₆ => ?next) ?hz ?hln ?hnm ?hcell ?hkind ?hnames ?hs)
      walk_at "asgC"
      case hok => exact fun _ => trivial
      case hi => exact IterE.of (d := .list (r.ls.map lnD)) (by walk_at "ev") (iters_list hh)
      case hap => exact List.Pairwise.nil
      case hsub => exact fun _ _ => List.nil_sublist _
      case P => walk_at "put"
      case hz => have := hro.ls; size_fits
      case htgt =>
        intro p hp L₂ Dd bs kp ok
        refine Tgt.unp (ts := [(Str.ofString "tag", _, .str (tgS p.1)), (Str.ofString "row", _, .bytes p.2)]) (unp_list hh) ?_ ?_ (by with_unfolding_all rfl)
        · intro q hq
          simp only [List.mem_cons, List.not_mem_nil, or_false] at hq
          rcases hq with rfl | rfl <;> exact .inl (by with_unfolding_all rfl)
        · show PutAll [(Str.ofString "tag", .str (tgS p.1)), (Str.ofString "row", .bytes p.2)] _ _
          exact .cons (by walk_at "put") (.cons (by walk_at "put") .nil)
      case helt =>
        intro p hp L₂ Dd bs kp ok C'
        have hp2 := hro.row p hp
        refine Ev.as (Ev.bin (d := .str (tgS p.1 ++ Txt.join (Str.ofString "") ((encL p.2).map fun c => (⟨#[c]⟩ : Str)))) (by walk_at "ev") (d₂ := .str (Txt.join (Str.ofString "") ((encL p.2).map fun c => (⟨#[c]⟩ : Str)))) ?_ (op_addS ?_)) (by rw [line_join hp2.2])
        · (with_reducible refine' Ev.meth (d₀ := .str (Str.ofString "")) (ds := [.list (((encL p.2).map fun c => (⟨#[c]⟩ : Str)).map .str)]) ?m1 ?m2 ?m3 ?m4 ?m5 ?m6 ?m7)
          case m5 => with_unfolding_all rfl
          case m1 => walk_at "ev"
          case m2 => exact str_meth PySem.F.slot_str_join PySem.F.type_str_join
          case m6 => with_unfolding_all rfl
          case m7 => with_unfolding_all rfl
          case m4 => exact call_join (by rw [encL_four hp2.2]; rfl)
          case m3 =>
            refine Evs.cons (Ev.as (d := .list ((encB p.2).toList.map fun c => .str ⟨#[c.toNat]⟩)) ?_ (by unfold encL; rw [List.map_map, List.map_map]; rfl)) Evs.nil
            (with_reducible refine' Ev.comp (encB p.2).toList (fun c => D.int (c.toNat : Int)) (fun c => D.str ⟨#[c.toNat]⟩) [] (fun c => [(Str.ofString "sign", D.int (c.toNat : Int))]) [] ?hi Sees.nil ?hclos ?hap ?htgt ?hsub ?helt ?hz ?hcell ?hkind ?hnames ?hs)
            case hclos => with_unfolding_all rfl
            case hcell => decide
            case hkind => rfl
            case hnames => decide
            case hs => intro _; with_unfolding_all rfl
            case hap => exact List.Pairwise.nil
            case hsub => exact fun _ _ => List.nil_sublist _
            case htgt => exact fun c hc L Dd bs kp ok => Tgt.name (.inl (by with_unfolding_all rfl)) PutTo.nil
            case hz => have := hp2.2; unfold encL at this; simp only [List.length_map] at this; rw [this]; decide
            case hi => exact IterE.of (Ev.callDef (by walk_at "gl") (g.kin _ _ rfl) rfl (by walk_at "evs") (spec_enc (k := k) g hr' p.2 hp2.1)) (iters_bytes hh)
            case helt =>
              intro c hc L Dd bs kp ok C'
              have : c.toNat < 256 := c.toNat_lt
              exact Ev.as (Ev.callBlt (by walk_at "gl") (by walk_at "evs") (call_chr (by (first | lia | omega)) (by (first | lia | omega)))) (by rw [Int.toNat_natCast])
        · rw [encL_four hp2.2]
          cases p.1 <;> (show (2 : Nat) + 4 ≤ sizeLine; decide)
      case next =>
      refine x_insert (F := (outFm fd 158 L a O s).with P) I₆ (by walk_at "mem") (Ev.bin (Ev.bin (Ev.sub (by walk_at "ev") (by walk_at "ev") (sub_list (by (first | lia | omega)) (by (first | lia | omega)) hxd)) (by walk_at "ev") (op_div (by decide) (by decide))) (by walk_at "ev") (op_mod (by (first | lia | omega)))) (Ev.bin (by walk_at "ev") (by walk_at "ev") (op_addL (by show 2 + 1 ≤ sizeLine; decide))) q1 (by (first | lia | omega)) (by size_fits) fun s₇ I₇ => ?_
      exact x_nil ⟨.inl rfl, I₇⟩
    case rest =>
      intro s₃ I₃
      have hlen' : ((List.range (rs.length : Int).toNat).map fun (i : Nat) => D.int (i : Int)).length = rs.length := by simp
      rw [hlen'] at I₃
      have I₄ := I₃.reveal (F := fnFm fd 158 L O s) (O := O) (x := Str.ofString "patch") (by walk_at "mem") (by walk_at "put") haO hO.tabs (by simp) (fun _ _ _ _ _ _ _ => trivial)
      replace I₄ : Inv G (fnFm fd 158 L O s) _ _ s₃ := I₄
      exact x_ret (F := fnFm fd 158 L O s) I₄ (by walk_at "ev") fun s' v I' r => ⟨v, rfl, I'.step, r⟩
end
end
section
section
/-! reading an entry -/
noncomputable def DecOk (b : Array UInt8) : Prop := (∀ c ∈ (tx (qd b)).cps.toList, c < 128) ∧ ((decFold (chInts (tx (qd b)))).2.1 ≠ 1 ∧ ((decFold (chInts (tx (qd b)))).2.1 = 0 ∨ 4 ≤ (decFold (chInts (tx (qd b)))).2.1 + (decFold (chInts (tx (qd b)))).2.2.2)) ∧ byteArr (decFold (chInts (tx (qd b)))).1 = b
noncomputable def rowsOf (r : Rn) (b : Bool) : List (Array UInt8) := (r.ls.filter fun p => p.1 == b).map (·.2)
noncomputable def lo (r : Rn) (b : Bool) : Int := if b then r.j0 else r.i0
noncomputable def hi (r : Rn) (b : Bool) : Int := if b then r.j1 else r.i1
noncomputable def sideD (r : Rn) (b : Bool) : D := .list [.int (lo r b), .int (hi r b)]
noncomputable def rngD (r : Rn) : D := .list ([false, true].map (sideD r))
noncomputable def rowsD (r : Rn) : D := .list ([false, true].map fun b => .list ((rowsOf r b).map .bytes))
noncomputable abbrev entX (r : Rn) : D := .list [.list [.str (uniText r.i0 r.i1), .str (uniText r.j0 r.j1)], .list [.str (ctxText r.i0 r.i1), .str (ctxText r.j0 r.j1)], .list (r.ls.map fun p => .str (lnT p))]
noncomputable def Rn.rd (r : Rn) : D := .tuple [rngD r, rngD r, rowsD r]
structure RdOk (r : Rn) : Prop where
  rng : ∀ b, 0 ≤ lo r b ∧ lo r b ≤ hi r b ∧ hi r b ≤ 25
  cnt : ∀ b, ((rowsOf r b).length : Int) = hi r b - lo r b
  dec : ∀ p ∈ r.ls, DecOk p.2
  ls : r.ls.length ≤ 1000

theorem outs_rows (r : Rn) (b : Bool) : (outsOf b (r.ls.map fun p => (tagOf p.1, qd p.2))).map (fun q => D.str (tx q)) = (rowsOf r b).map fun x => D.str (tx (qd x)) := by
  unfold outsOf rowsOf
  rw [List.filter_map, List.map_map, List.map_map, List.map_map]
  have : ((fun p : Nat × B4 => p.1 == tagOf b) ∘ fun p : Bool × Array UInt8 => (tagOf p.1, qd p.2)) = fun p => p.1 == b := by
    funext p
    show (tagOf p.1 == tagOf b) = (p.1 == b)
    cases p.1 <;> cases b <;> rfl
  rw [this]
  rfl

variable {prog : Program} {w : World} {A : Around} {G : GData} {s : Shared} {O : List Addr}

theorem spec_read (g : Gr w G) {k : Nat} (hr : Room (k + 4) A) (r : Rn) (hok : RdOk r) : CallOk prog w A G O (.ref 173) [r.ent] r.rd := by
  refine callOk_of fun s vs gi hO hR => ?_
  obtain ⟨v, rfl, h1⟩ := reps1 hR
  refine g.enter (f := 173) (binds := [(Str.ofString "entry", v)]) (ρ := [(Str.ofString "entry", r.ent)]) hr rfl rfl rfl (by dsimp only) (by kernel_rfl) rfl rfl rfl rfl rfl rfl gi hO (wpAny_pure ⟨rfl, rfl⟩) (.cons h1 .nil) (by kernel_rfl) ?_
  intro fd L s₁ hn I
  have hr' : Room (k + 3) (A.deeper (callEnvC fd L 173)) := hr.deeper
  have hh : (A.deeper (callEnvC fd L 173)).handled = none := hr'.1
  generalize hA : A.deeper (callEnvC fd L 173) = A' at hr' hh ⊢
  have hfk : fd.scope.kind = .function := I.kind
  have hcells : cellsFrom (L + 1) fd.scope.names [] = [(Str.ofString "rows", L + 2), (Str.ofString "entry", L + 1)] := by rw [hn]; rfl
  have hm2 : (Str.ofString "rows", L + 2) ∈ (fnFm fd 173 L O s).W := by show _ ∈ cellsFrom (L + 1) fd.scope.names []; rw [hcells]; simp
  have hc1 : (callEnvC fd L 173).cells.lookup (Str.ofString "entry") = some (L + 1) := by show (cellsFrom (L + 1) fd.scope.names []).lookup _ = _; rw [hcells]; rfl
  have hc2 : (callEnvC fd L 173).cells.lookup (Str.ofString "rows") = some (L + 2) := by show (cellsFrom (L + 1) fd.scope.names []).lookup _ = _; rw [hcells]; rfl
  have hent : r.ent = entX r := rfl
  rw [hent] at I
  (with_reducible refine' x_assign (F := fnFm fd 173 L O s) (d := rowsD r) I ?a1 ?a2 ?a3 (fun s₂ I₂ => ?a4) ?a5)
  case a2 => exact .inr ⟨_, hm2⟩
  case a3 => walk_at "put"
  case a5 => exact swaps_cell hfk (kind_of (k := .cell) hn (by kernel_rfl)) (by decide)
  case a1 =>
    unfold rowsD
    (with_reducible refine' Ev.comp [false, true] (fun b => D.int (if b then 2 else 1)) (fun b => .list ((rowsOf r b).map .bytes)) [(Str.ofString "entry", entX r)] (fun b => [(Str.ofString "entry", entX r), (Str.ofString "side", D.int (if b then 2 else 1))]) [(Str.ofString "entry", L + 1)] ?hi ?hsee ?hclos ?hap ?htgt ?hsub ?helt ?hz ?hcell ?hkind ?hnames ?hs)
    case hcell => decide
    case hkind => rfl
    case hnames => decide
    case hs => intro _; with_unfolding_all rfl
    case hz => decide
    case hi => exact IterE.of (d := .list [.int 1, .int 2]) (by walk_at "ev") (iters_list hh)
    case hsee => exact Sees.cons Sees.nil (by walk_at "mem") (by simp) (rel_lookup hn hfk (by rfl) (by rfl)) hc1.symm (kind_of hn (by kernel_rfl))
    case hclos => exact clos_of hcells rfl rfl
    case hap => simp
    case hsub => exact fun b _ => List.Sublist.cons_cons _ (List.nil_sublist _)
    case htgt => exact fun b hb L Dd bs kp ok => Tgt.name (.inl (by with_unfolding_all rfl)) (by walk_at "put")
    case helt =>
      intro b hb L₂ Dd bs kp ok C'
      (with_reducible refine' Ev.compG (rowsOf r b) (fun x => D.str (tx (qd x))) D.bytes [] (fun x => [(Str.ofString "text", D.str (tx (qd x)))]) [] ?hi Sees.nil ?hclos ?hap ?htgt ?hsub ?helt ?hz ?hcell ?hkind ?hnames ?hs)
      case hcell => decide
      case hkind => rfl
      case hnames => decide
      case hs => intro _; with_unfolding_all rfl
      case hclos => with_unfolding_all rfl
      case hap => exact List.Pairwise.nil
      case hsub => exact fun _ _ => List.nil_sublist _
      case htgt => exact fun c hc L Dd bs kp ok => Tgt.name (.inl (by with_unfolding_all rfl)) PutTo.nil
      case hz =>
        have h1 := List.length_filter_le (fun p : Bool × Array UInt8 => p.1 == b) r.ls
        have := hok.ls
        unfold rowsOf
        rw [List.length_map]
        size_fits
      case hi =>
        rw [← outs_rows]
        (with_reducible refine' iter_restore (k := k) g (hr'.le (by (first | lia | omega))) (r.ls.map fun p => (tagOf p.1, qd p.2)) ?r1 b ?r2 ?r3 ?r4 ?r5)
        case r1 =>
          intro p hp
          obtain ⟨q, hq, rfl⟩ := List.mem_map.mp hp
          show tagOf q.1 = 45 ∨ tagOf q.1 = 43
          cases q.1 <;> simp [tagOf]
        case r2 => walk_at "gl"
        case r4 => with_unfolding_all rfl
        case r5 => with_unfolding_all rfl
        case r3 =>
          refine Evs.cons (Ev.as (d := .list (r.ls.map fun p => .str (lnT p))) (by walk_at "ev") ?_) (by walk_at "evs")
          rw [List.map_map]; rfl
      case helt =>
        intro x hx L Dd bs kp ok C'
        unfold rowsOf at hx
        obtain ⟨p, hp, rfl⟩ := List.mem_map.mp hx
        have hp' := (List.mem_filter.mp hp).1
        obtain ⟨d1, d2, d3⟩ := hok.dec p hp'
        refine Ev.as (Ev.callDef (by walk_at "gl") (g.kin 123 _ rfl) rfl (by walk_at "evs") (spec_dec (k := k) g hr' _ (by simp [tx]) d1 (by simp [tx]) d2)) (by rw [d3])
  case a4 =>
  have hA : ∀ b, ∃ m n : Nat, lo r b = m ∧ hi r b = n ∧ m ≤ n ∧ n ≤ 25 := fun b => by
    obtain ⟨h1, h2, h3⟩ := hok.rng b
    exact ⟨(lo r b).toNat, (hi r b).toNat, by (first | lia | omega), by (first | lia | omega), by (first | lia | omega), by (first | lia | omega)⟩
  have hlu : ∀ (O : List Addr) b, CallOk prog w A' G O (.ref 163) [.str (uniText (lo r b) (hi r b))] (sideD r b) := fun O b => by
    obtain ⟨m, n, e1, e2, hmn, hn'⟩ := hA b
    unfold sideD
    rw [e1, e2]
    exact spec_lu (k := k) g (hr'.le (by (first | lia | omega))) m n hmn hn'
  have hlc : ∀ (O : List Addr) b, CallOk prog w A' G O (.ref 168) [.str (ctxText (lo r b) (hi r b)), .int ((rowsOf r b).length : Int)] (sideD r b) := fun O b => by
    rw [hok.cnt b]
    obtain ⟨m, n, e1, e2, hmn, hn'⟩ := hA b
    unfold sideD
    rw [e1, e2]
    exact spec_lc (k := k) g (hr'.le (by (first | lia | omega))) m n hmn hn'
  (with_reducible refine' x_assignC (F := fnFm fd 173 L O s) [false, true] (fun b => .str (uniText (lo r b) (hi r b))) (sideD r) [] (fun b => [(Str.ofString "text", .str (uniText (lo r b) (hi r b)))]) [] I₂ ?hok ?hi Sees.nil ?hclos ?hap ?htgt ?hsub ?helt ?hk ?P (fun s₃ I₃ => ?next) ?hz ?hln ?hnm ?hcell ?hkind ?hnames ?hs)
  walk_at "asgC"
  case hok => exact fun _ => trivial
  case hi => exact IterE.of (d := .list [.str (uniText r.i0 r.i1), .str (uniText r.j0 r.j1)]) (by walk_at "ev") (iters_list hh)
  case hap => exact List.Pairwise.nil
  case hsub => exact fun _ _ => List.nil_sublist _
  case P => walk_at "put"
  case hz => decide
  case htgt => exact fun c hc L Dd bs kp ok => Tgt.name (.inl (by with_unfolding_all rfl)) PutTo.nil
  case helt => exact fun b hb L Dd bs kp ok C' => Ev.callDef (by walk_at "gl") (g.kin 163 _ rfl) rfl (by walk_at "evs") (hlu _ b)
  case next =>
  (with_reducible refine' x_assignC (F := fnFm fd 173 L O s) [false, true] (fun b => .int (if b then 1 else 0)) (sideD r) [(Str.ofString "entry", entX r), (Str.ofString "rows", rowsD r)] (fun b => [(Str.ofString "entry", entX r), (Str.ofString "rows", rowsD r), (Str.ofString "k", D.int (if b then 1 else 0))]) [(Str.ofString "rows", L + 2), (Str.ofString "entry", L + 1)] I₃ ?hok ?hi ?hsee ?hclos ?hap ?htgt ?hsub ?helt ?hk ?P (fun s₄ I₄ => ?next) ?hz ?hln ?hnm ?hcell ?hkind ?hnames ?hs)
  case hln => rfl
  case hnm => decide
  case hcell => decide
  case hkind => rfl
  case hnames => decide
  case hs => intro _; with_unfolding_all rfl
  case hk => exact kind_of hn (by kernel_rfl)
  case hok => exact fun _ => trivial
  case hi => exact IterE.of (d := .list [.int 0, .int 1]) (by walk_at "ev") (iters_list hh)
  case hsee => exact Sees.cons (Sees.cons Sees.nil (by walk_at "mem") (by simp) (rel_lookup hn hfk (by rfl) (by rfl)) hc2.symm (kind_of hn (by kernel_rfl))) (by walk_at "mem") (by simp only [List.map_cons, List.map_nil, List.mem_singleton]; decide) (rel_lookup hn hfk (by rfl) (by rfl)) hc1.symm (kind_of hn (by kernel_rfl))
  case hclos => exact clos_of hcells rfl rfl
  case hap => simp
  case hz => decide
  case hsub => exact fun b _ => List.Sublist.cons_cons _ (List.Sublist.cons_cons _ (List.nil_sublist _))
  case P => walk_at "put"
  case htgt => exact fun b hb L Dd bs kp ok => Tgt.name (.inl (by with_unfolding_all rfl)) (by walk_at "put")
  case helt =>
    intro b hb L₂ Dd bs kp ok C'
    have hlen : (rowsOf r b).length < 2 ^ 62 := by
      have h1 := List.length_filter_le (fun p : Bool × Array UInt8 => p.1 == b) r.ls
      have := hok.ls
      unfold rowsOf
      rw [List.length_map]
      (first | lia | omega)
    (with_reducible refine' Ev.callDef (d := sideD r b) (ds := [.str (ctxText (lo r b) (hi r b)), .int ((rowsOf r b).length : Int)]) ?q1 ?q5 ?q6 ?q2 (hlc _ b) ?q3 ?q4)
    case q5 => exact g.kin 168 _ rfl
    case q6 => rfl
    case q1 => walk_at "gl"
    case q3 => with_unfolding_all rfl
    case q4 => with_unfolding_all rfl
    case q2 =>
      (with_reducible refine' Evs.cons ?z1 (Evs.cons ?z2 Evs.nil ?z3) ?z4)
      case z3 => with_unfolding_all rfl
      case z4 => with_unfolding_all rfl
      case z1 =>
        (with_reducible refine' Ev.sub (d₁ := .list [.str (ctxText r.i0 r.i1), .str (ctxText r.j0 r.j1)]) (d₂ := .int (if b then 1 else 0)) ?y1 ?y2 ?y3)
        case y1 => walk_at "ev"
        case y2 => walk_at "ev"
        case y3 => cases b <;> exact sub_list (by decide) (by decide) rfl
      case z2 =>
        refine Ev.as (d := .int ((((rowsOf r b).map D.bytes).length : Nat) : Int)) ?_ (by rw [List.length_map])
        (with_reducible refine' Ev.callBlt (ds := [.list ((rowsOf r b).map .bytes)]) ?x1 ?x2 ?x3 ?x4 ?x5 ?x6)
        case x1 => walk_at "gl"
        case x3 => exact call_len (by rw [List.length_map]; exact hlen)
        case x4 => with_unfolding_all rfl
        case x5 => with_unfolding_all rfl
        case x6 => with_unfolding_all rfl
        case x2 =>
          (with_reducible refine' Evs.cons ?v1 Evs.nil ?v2)
          case v2 => with_unfolding_all rfl
          case v1 =>
            (with_reducible refine' Ev.sub (d₁ := rowsD r) (d₂ := .int (if b then 1 else 0)) ?y1 ?y2 ?y3)
            case y1 => walk_at "ev"
            case y2 => walk_at "ev"
            case y3 => cases b <;> exact sub_list (by decide) (by decide) rfl
  case next =>
  exact x_ret (F := fnFm fd 173 L O s) I₄ (Ev.as (d := .tuple [.list ([false, true].map (sideD r)), .list ([false, true].map (sideD r)), rowsD r]) (by walk_at "ev") rfl) fun s' v I' r => ⟨v, rfl, I'.step, r⟩
end
end
section
set_option Elab.async false
set_option maxRecDepth 100000
set_option linter.unusedVariables false
set_option maxHeartbeats 1000000
open PySem.Calls

theorem enterR {f : Addr} {o : Obj} {fd : FuncData} {body : List Stmt} {args : Args} {binds : List (Str × Value)} {ρ : List (Str × D)} {prog : Program} {w : World} {A : Around} {G : GData} {s : Shared} {O : List Addr} {R : Result → Shared → Prop} (hroom : A.depth < recursionLimit)
    (hf : G.h.get? f = some o) (hd : o.data = .func fd) (hcd : G.h.CodeRec fd.code fd.qualname) (hbody : fd.body = .stmts body) (hclo : fd.closure = []) (hgl : fd.globals = mainGlobals) (hbl : fd.builtins = builtinsNs)
    (g : GI G s) (hO : OkO O s.heap)
    (hbind : wpAny (model prog w) A.in1 (bindArgs fd args) (fun bs s₁ => bs = binds ∧ s₁ = s) noE s) (hb : BindsOk O s.heap binds ρ)
    (hnd : (ρ.map (·.1)).Nodup)
    (hkind : ∀ x ∈ ρ, fd.scope.names.lookup x.1 = some .local ∨ (fd.scope.names.lookup x.1 = some .cell ∧ ((cellsFrom (s.heap.objs.size + 1) fd.scope.names []).lookup x.1).isSome = true))
    (hcells : ∀ p ∈ cellsFrom (s.heap.objs.size + 1) fd.scope.names [], fd.scope.names.lookup p.1 = some .cell) (hcnd : ((cellsFrom (s.heap.objs.size + 1) fd.scope.names []).map (·.1)).Nodup)
    (h : ∀ s₁, Inv G (fnFm fd f s.heap.objs.size O s) ρ [] s₁ → wpAny (model prog w) (A.deeper (callEnvC fd s.heap.objs.size f)) (execs body (callEnvC fd s.heap.objs.size f)) (fun fl s' => R (.ok (.ret (match fl with | .ret v => v | _ => .none))) s') noE s₁)
    (hco : fd.scope.isCoroutine = false) (hgen : fd.scope.isGenerator = false) (hk : fd.scope.kind = .function) :
    codeAny (model prog w) A (.call (.ref f) args) R s := by
  have hks : ∀ b o, G.h.get? b = some o → s.heap.get? b = some o := g.keep
  refine codeAny_call_function hroom (hks _ _ hf) hd hco hgen hbody (hcd.keeps hks) (wpAny_mono hbind (fun bs s₁ e => ?_) fun _ _ e => e.elim)
  obtain ⟨rfl, rfl⟩ := e
  rw [hclo]
  have hkeys := hb.keys
  refine wpAny_newFunctionEnv_cells hk (fun x hx => ?_) fun env he s' x => ?_
  · have hx' : x.1 ∈ ρ.map (·.1) := by rw [← hkeys]; exact List.mem_map_of_mem hx
    obtain ⟨p, hp, e⟩ := List.mem_map.mp hx'
    have := hkind p hp
    rw [e] at this; exact this
  · subst he
    refine ⟨(G.nolimit.keeps hks).keeps x.toInCall.keep, codeAny_func ?_⟩
    have hst : Step s₁ s' := by
      obtain ⟨h', tk, rfl⟩ := x.toInCall.same
      exact Step.of_keeps x.toInCall.keep
    have hfresh : s₁.heap.get? s₁.heap.objs.size = none := get?_size _
    have hLt := fresh_offTab g.tab hfresh
    have hcn : ∀ p ∈ cellsFrom (s₁.heap.objs.size + 1) fd.scope.names [], s₁.heap.get? p.2 = none := fun p hp => by
      have := x.above p.1 p.2 hp
      cases e : s₁.heap.get? p.2 with
      | none => rfl
      | some o => exact absurd (Heap.lt_size e) (Nat.not_lt.mpr (Nat.le_of_lt this))
    have I : Inv G (fnFm fd f s₁.heap.objs.size O s₁) ρ [] s' := by
      refine { step := hst, gb := g, okO := hO.step g hst, kind := hk, glob := hgl, blt := hbl, ns := ⟨_, x.toInCall.ns⟩, new := hfresh, offTab := hLt, nd := hnd, vars := fun p hp => ?_, W := fun p hp => ?_, apart := x.apart, own := by simp, ownNd := by simp, kpGo := fun _ _ _ _ => trivial, kpBut := fun _ _ _ _ _ _ _ => trivial, kp := trivial, okL := trivial, okW := fun _ _ => trivial, okOwn := by simp }
      · obtain ⟨v, h1, h2⟩ := hb.mem p hp
        refine ⟨v, ?_, h2.step hO hst⟩
        have hbn : (bs.map (·.1)).Nodup := by rw [hkeys]; exact hnd
        rcases hkind p hp with hl | ⟨hl, hc⟩
        · exact .inl ⟨hl, _, x.toInCall.ns, bindL_mem h1 hbn hl⟩
        · obtain ⟨c, hc⟩ := Option.isSome_iff_exists.mp hc
          refine .inr ⟨.inl hl, c, hc, ?_⟩
          have := x.cell p.1 c hc
          rw [bindC_mem h1 hbn (by
            intro q
            have q' : fd.scope.names.lookup p.1 = some .local := q
            rw [hl] at q'; cases q')] at this
          exact this
      · have hlk := lookup_some_of_mem x.apart hcnd hp
        refine ⟨hcells p hp, hlk, ⟨_, x.cell p.1 p.2 hlk⟩, hcn p hp, fresh_offTab g.tab (hcn p hp)⟩
    exact wpAny_mono (h s' I) (fun fl s'' q => q) fun _ _ e => e.elim

section
variable {prog : Program} {w : World} {A : Around} {G : GData} {s : Shared} {O : List Addr}
theorem Gr.enterR (g : Gr w G) {k : Nat} {f c0 : Addr} {o : Obj} {fd : FuncData} {body : List Stmt} {args : Args} {binds : List (Str × Value)} {ρ : List (Str × D)} {names : List (Str × NameKind)} {qn : Str} {R : Result → Shared → Prop} (hroom : Room k A)
    (hf : (Kf w).lookup f = some o) (hd : o.data = .func fd) (hbody : fd.body = .stmts body) (hn : fd.scope.names = names) (hqn : fd.qualname = qn) (hcode : fd.code = .ref c0) (hcd : codeIn (Kf w) fd.code fd.qualname = true) (hclo : fd.closure = []) (hgl : fd.globals = mainGlobals) (hbl : fd.builtins = builtinsNs)
    (hco : fd.scope.isCoroutine = false) (hgen : fd.scope.isGenerator = false) (hk : fd.scope.kind = .function)
    (gi : GI G s) (hO : OkO O s.heap)
    (hbind : wpAny (model prog w) A.in1 (bindArgs fd args) (fun bs s₁ => bs = binds ∧ s₁ = s) noE s) (hb : BindsOk O s.heap binds ρ)
    (hchk : chk names (ρ.map (·.1)) = true)
    (h : ∀ (fd : FuncData) L s₁, fd.scope.names = names → fd.qualname = qn → fd.code = .ref c0 → Inv G (fnFm fd f L O s) ρ [] s₁ → wpAny (model prog w) (A.deeper (callEnvC fd L f)) (execs body (callEnvC fd L f)) (fun fl s' => R (.ok (.ret (match fl with | .ret v => v | _ => .none))) s') noE s₁) :
    codeAny (model prog w) A (.call (.ref f) args) R s := by
  subst hn
  simp only [chk, Bool.and_eq_true, decide_eq_true_eq, List.all_eq_true, Bool.or_eq_true, beq_iff_eq] at hchk
  obtain ⟨⟨⟨c1, c2⟩, c3⟩, c4⟩ := hchk
  refine Mine.enterR hroom.depth (g.kin _ _ hf) hd (codeRec_of g.kin hcd) hbody hclo hgl hbl gi hO hbind hb c1 (fun x hx => ?_) (fun p hp => ?_) ?_ (fun s₁ I => h fd _ s₁ rfl hqn hcode I) hco hgen hk
  · rcases c2 x.1 (List.mem_map_of_mem hx) with q | q
    · exact .inl q
    · exact .inr ⟨q, cellsFrom_some _ _ _ (.inl q)⟩
  · have : p.1 ∈ (cellsFrom (s.heap.objs.size + 1) fd.scope.names []).map (·.1) := List.mem_map_of_mem hp
    rw [cellsFrom_names] at this
    simp only [List.map_nil, List.append_nil, List.mem_reverse] at this
    exact c4 _ this
  · rw [cellsFrom_names]
    simp only [List.map_nil, List.append_nil]
    unfold List.Nodup at c3 ⊢
    rw [List.pairwise_reverse]
    exact c3.imp fun h => h.symm

/-- a class statement, its one base a name -/
theorem x_class {F : Fm} {ρ : List (Str × D)} {Cs : List (Addr × List D)} {name bind on : Str} {op pos : Pos} {body : List Stmt} {scope : Scope} {x1 : Option Scope} {statics : List Str} {Q : Flow → Shared → Prop} {rest : List Stmt} {vb : Value} (I : Inv G F ρ Cs s)
    (hb : G.mb (S "__build_class__") = some (.builtin "__build_class__")) (hbase : Ev prog w A G F ρ Cs (.Name on op) (.raw vb))
    (h : ∀ s', Inv G F ρ Cs s' → wpAny (model prog w) A (buildClass name (qualnameIn F.env name bind) [vb] [] body scope statics pos.line F.env pos none) (fun c s'' => wpAny (model prog w) A (storeName F.env bind c) (fun _ s3 => wpAny (model prog w) A (execs rest F.env) Q noE s3) noE s'') noE s') :
    wpAny (model prog w) A (execs (.ClassDef name [.Name on op] [] body [] [] scope x1 bind statics pos :: rest) F.env) Q noE s := by
  refine wpAny_execs_cons ?_
  rw [arm_exec_ClassDef]
  refine wpAny_bind (wpAny_pure (wpAny_bind (wpAny_standAt (wpAny_bind ?_))))
  unfold buildClassGuard
  rw [I.blt]
  refine wpAny_bind (wpAny_nsGet (G.b.keeps I.gi.keep) ?_)
  rw [show G.mb "__build_class__" = _ from hb]
  refine wpAny_pure (wpAny_bind (wpAny_holding (wpAny_bind ?_)))
  have ev : Evs prog w A G F ρ Cs [.Name on op] [.raw vb] := Evs.cons hbase Evs.nil
  refine evalArgs_plain (wpAny_mono (ev s pos I) (fun vs s₂ q => ?_) fun _ _ e => e)
  obtain ⟨st, r⟩ := q
  obtain ⟨v, rfl, r'⟩ := reps1 r
  have r' : Rep F.O s₂.heap (.raw vb) v := r'
  rw [Rep] at r'; subst r'
  refine wpAny_bind (wpAny_standAt (wpAny_holding (wpAny_mono (h s₂ (I.go st)) (fun c s₃ q => ?_) fun _ _ e => e)))
  refine wpAny_bind (wpAny_pure (wpAny_bind (wpAny_standAt (wpAny_bind (wpAny_bindName (wpAny_mono q (fun _ s₄ q => wpAny_pure q) fun _ _ e => e))))))
end
end
section
set_option Elab.async false
set_option maxRecDepth 100000
set_option linter.unusedVariables false
set_option maxHeartbeats 4000000
open PySem.Calls

theorem lookup_off {a : Addr} : ∀ {K : Frag}, (∀ p ∈ K, (a == p.1) = false) → K.lookup a = none
  | [], _ => rfl
  | p :: K, h => by
    rw [List.lookup_cons, h p (.head _)]
    exact lookup_off fun q hq => h q (.tail _ hq)
theorem lookup_in {h : Heap} : ∀ {K : Frag}, (∀ p ∈ K, h.get? p.1 = some p.2) → K.In h ∧ ∀ p ∈ K, K.lookup p.1 = some p.2
  | [], _ => ⟨fun a o e => by simp at e, fun p hp => by simp at hp⟩
  | (a, o) :: K, hK => by
    obtain ⟨i1, i2⟩ := lookup_in (K := K) fun p hp => hK p (.tail _ hp)
    refine ⟨fun b x e => ?_, fun p hp => ?_⟩
    · rw [List.lookup_cons] at e
      cases q : b == a with
      | true => rw [q] at e; cases e; rw [beq_iff_eq.mp q]; exact hK (a, _) (.head _)
      | false => rw [q] at e; exact i1 b x e
    · rw [List.lookup_cons]
      cases q : p.1 == a with
      | true =>
        have e := hK p hp
        have e' := hK (a, o) (.head _)
        rw [beq_iff_eq.mp q] at e
        exact (e'.symm.trans e)
      | false =>
        rcases List.mem_cons.mp hp with rfl | hp
        · simp at q
        · exact i2 p hp

/-- the class and what its two methods do -/
structure KMade (prog : Program) (w : World) (G : GData) (N : Addr → Prop) (h : Heap) (fm C : Addr) : Prop where
  has : ∃ K DD f1 f2 o1 o2 fd1 fd2 cm, KHas h K C DD f1 f2 ∧ h.get? f1 = some o1 ∧ o1.data = .func fd1 ∧ h.CodeRec fd1.code fd1.qualname ∧ InitOk prog w G fd1 ∧
    h.get? f2 = some o2 ∧ o2.data = .func fd2 ∧ h.CodeRec fd2.code fd2.qualname ∧ LtOk prog w G cm fd2 ∧ h.IsCell cm (some (.ref fm)) ∧ ∀ a, N a → K.lookup a = none

theorem codeRec_step {s s' : Shared} (t : TabOk s.heap) (st : Step s s') {v : Value} {q : Str} (x : s.heap.CodeRec v q) : s'.heap.CodeRec v q := by
  obtain ⟨c, o, vs, tt, e1, e2, e3, e4⟩ := x
  refine ⟨c, o, vs, tt, e1, st.keep _ _ (fun z => ?_) e2, e3, e4⟩
  obtain ⟨ps, k1, k2, _⟩ := t c z
  rw [e2] at k1; cases k1; cases e3
  exact TriplesOk_one k2 e4
theorem func_step {s s' : Shared} (t : TabOk s.heap) (st : Step s s') {f : Addr} {o : Obj} {fd : FuncData} (e : s.heap.get? f = some o) (d : o.data = .func fd) : s'.heap.get? f = some o :=
  st.keep _ _ (fun z => by obtain ⟨ps, k1, k2, _⟩ := t f z; rw [e] at k1; cases k1; cases d) e
theorem cell_step {s s' : Shared} (t : TabOk s.heap) (st : Step s s') {c : Addr} {v : Option Value} (e : s.heap.IsCell c v) : s'.heap.IsCell c v := by
  have := cell_offTab t e
  obtain ⟨o, e1, e2⟩ := e
  exact ⟨o, st.keep _ _ this e1, e2⟩
theorem KMade.step {prog : Program} {w : World} {G : GData} {N : Addr → Prop} {s s' : Shared} {fm C : Addr} (k : KMade prog w G N s.heap fm C) (t : TabOk s.heap) (st : Step s s') : KMade prog w G N s'.heap fm C := by
  obtain ⟨K, DD, f1, f2, o1, o2, fd1, fd2, cm, a1, a2, a3, a4, a5, a6, a7, a8, a9, a10, a11⟩ := k.has
  exact ⟨K, DD, f1, f2, o1, o2, fd1, fd2, cm, a1.step st, func_step t st a2 a3, a3, codeRec_step t st a4, a5, func_step t st a6 a7, a7, codeRec_step t st a8, a9, cell_step t st a10, a11⟩

theorem kmade_but {prog : Program} {w : World} {G : GData} {N : Addr → Prop} {h h' : Heap} {a fm C : Addr} {oa : Obj} {K : Frag} {DD f1 f2 : Addr} {o1 o2 : Obj} {fd1 fd2 : FuncData} {cm : Addr} (X : KHas h K C DD f1 f2) (ha : K.lookup a = none) (e : h.get? a = some oa) (hd : ∃ es ep, oa.data = .dict es ep) (hs : Heap.SameBut a h h')
    (e1 : h.get? f1 = some o1) (d1 : o1.data = .func fd1) (c1 : h.CodeRec fd1.code fd1.qualname) (i1 : InitOk prog w G fd1) (e2 : h.get? f2 = some o2) (d2 : o2.data = .func fd2) (c2 : h.CodeRec fd2.code fd2.qualname) (i2 : LtOk prog w G cm fd2) (ec : h.IsCell cm (some (.ref fm))) (hN : ∀ a, N a → K.lookup a = none) : KMade prog w G N h' fm C := by
  obtain ⟨es, ep, hd⟩ := hd
  have ne : ∀ {b : Addr} {o : Obj}, h.get? b = some o → (∀ es ep, o.data ≠ .dict es ep) → h'.get? b = some o := fun {b o} q z => (hs.2 b fun y => by rw [y, e] at q; cases q; exact z _ _ hd).trans q
  have rc : ∀ {v q}, h.CodeRec v q → h'.CodeRec v q := fun {v q} x => by
    obtain ⟨c, o, vs, t, x1, x2, x3, x4⟩ := x
    exact ⟨c, o, vs, t, x1, ne x2 (by rw [x3]; nofun), x3, x4⟩
  obtain ⟨oc, k1, k2⟩ := ec
  exact ⟨K, DD, f1, f2, o1, o2, fd1, fd2, cm, ⟨fun b o q => (hs.2 b fun y => by rw [y, ha] at q; cases q).trans (X.inn b o q), X.k, X.off⟩, ne e1 (by rw [d1]; nofun), d1, rc c1, i1, ne e2 (by rw [d2]; nofun), d2, rc c2, i2, ⟨oc, ne k1 (by rw [k2]; nofun), k2⟩, hN⟩

theorem KAt.has {h H : Heap} {q125 : Array Value} {P1 P2 : FuncData → Prop} {C : Addr} (t : ∀ a ∈ tabs, ∃ ps, H.get? a = some (tabObj ps)) (k : KAt h q125 P1 P2 C H) :
    ∃ K DD f1 f2 o1 o2 fd1 fd2, KHas H K C DD f1 f2 ∧ H.get? f1 = some o1 ∧ o1.data = .func fd1 ∧ H.CodeRec fd1.code fd1.qualname ∧ P1 fd1 ∧ H.get? f2 = some o2 ∧ o2.data = .func fd2 ∧ H.CodeRec fd2.code fd2.qualname ∧ P2 fd2 ∧ ∀ a o es ep, a ≠ 125 → h.get? a = some o → o.data = .dict es ep → K.lookup a = none := by
  obtain ⟨NS, DD, slots, td, kvs, f1, f2, o1, o2, fd1, fd2, a1, a2, ⟨es, ep, a3, a3'⟩, a4, a5, a6, a7, a8, a9, a10, a11, a12, a13, a14, a15, a16, a17, a18, b1, b2, b3⟩ := k.cls
  have hK : ∀ p ∈ [(C, (⟨.type "type", none, .cls { name := S "K", bases := [.type "object"], mro := [.ref C, .type "object"], ns := NS, qualname := kQ, hasDict := false, slotNames := [S "obj"] }, slots⟩ : Obj)), (NS, ⟨.type "dict", none, .dict (List.toArray es) ep, #[]⟩), (DD, ⟨.type "member_descriptor", none, .fields #[.str (S "obj") td, .ref C, .builtin "proto.slot", .builtin "proto.slot#set", .int 0 0], #[]⟩), (f1, o1), (f2, o2)], H.get? p.1 = some p.2 :=
    List.forall_mem_cons.mpr ⟨a1, List.forall_mem_cons.mpr ⟨a3, List.forall_mem_cons.mpr ⟨a8, List.forall_mem_cons.mpr ⟨a9, List.forall_mem_cons.mpr ⟨a14, fun _ h => nomatch h⟩⟩⟩⟩⟩
  obtain ⟨i1, i2⟩ := lookup_in hK
  refine ⟨_, DD, f1, f2, o1, o2, fd1, fd2, ⟨i1, ⟨⟨NS, slots, es, ep, kvs, i2 (C, _) (.head _), a2, i2 (NS, _) (.tail _ (.head _)), a3', a4, a5, a6, a7⟩, ⟨td, i2 (DD, _) (.tail _ (.tail _ (.head _)))⟩, ⟨o1, i2 (f1, o1) (.tail _ (.tail _ (.tail _ (.head _)))), a10⟩, ⟨o2, i2 (f2, o2) (.tail _ (.tail _ (.tail _ (.tail _ (.head _))))), a15⟩⟩, fun a ha => ?_⟩, a9, a11, a13, a12, a14, a16, a18, a17, fun a o es' ep' h5 ea hc => ?_⟩
  · obtain ⟨ps, e⟩ := t a ha
    have ne : ∀ {b : Addr} {o : Obj}, H.get? b = some o → o.cls ≠ .none → (a == b) = false := fun {b o} e' hc => by
      cases q : a == b with
      | false => rfl
      | true => rw [beq_iff_eq.mp q, e'] at e; cases e; exact absurd rfl hc
    exact lookup_off (List.forall_mem_cons.mpr ⟨ne a1 (by nofun), List.forall_mem_cons.mpr ⟨ne a3 (by nofun), List.forall_mem_cons.mpr ⟨ne a8 (by nofun), List.forall_mem_cons.mpr ⟨ne a9 (by rw [a10]; nofun), List.forall_mem_cons.mpr ⟨ne a14 (by rw [a15]; nofun), fun _ h => nomatch h⟩⟩⟩⟩⟩)
  · have n1 : ∀ {b : Addr}, h.get? b = none → (a == b) = false := fun {b} e => by
      cases q : a == b with
      | false => rfl
      | true => rw [beq_iff_eq.mp q, e] at ea; cases ea
    have n2 : ∀ {b : Addr} {o' : Obj} {fd : FuncData}, H.get? b = some o' → o'.data = .func fd → (a == b) = false := fun {b o' fd} e e' => by
      cases q : a == b with
      | false => rfl
      | true =>
        have z := k.keep a o h5 ea
        rw [beq_iff_eq.mp q, e] at z; cases z; rw [e'] at hc; cases hc
    exact lookup_off (List.forall_mem_cons.mpr ⟨n1 b1, List.forall_mem_cons.mpr ⟨n1 b2, List.forall_mem_cons.mpr ⟨n1 b3, List.forall_mem_cons.mpr ⟨n2 a9 a11, List.forall_mem_cons.mpr ⟨n2 a14 a16, fun _ h => nomatch h⟩⟩⟩⟩⟩)
end
section
set_option Elab.async false
set_option maxRecDepth 100000
set_option linter.unusedVariables false
set_option maxHeartbeats 8000000
open PySem.Calls

theorem codeRec_but {h h' : Heap} {p : Array Value} (e5 : h.get? 125 = some (tabObj p)) (t : TriplesOk p.toList) (k : ∀ b o, b ≠ 125 → h.get? b = some o → h'.get? b = some o) {v : Value} {q : Str} (x : h.CodeRec v q) : h'.CodeRec v q := by
  obtain ⟨c, o, vs, tt, e1, e2, e3, e4⟩ := x
  refine ⟨c, o, vs, tt, e1, k _ _ (fun z => ?_) e2, e3, e4⟩
  rw [z, e5] at e2; cases e2; cases e3
  exact TriplesOk_one t e4
theorem clsCode_but {h h' : Heap} {p : Array Value} (e5 : h.get? 125 = some (tabObj p)) (t : TriplesOk p.toList) (k : ∀ b o, b ≠ 125 → h.get? b = some o → h'.get? b = some o) {v : Value} (x : ClsCode h v) : ClsCode h' v := by
  obtain ⟨c, P', ps', rfl, k1, k2, k3, k4, k4', k5, k6⟩ := x
  refine ⟨c, P', ps', rfl, ?_, k _ _ k4 k2, k3, k4, k4', codeRec_but e5 t k k5, fun p hp => let ⟨cv, a, b⟩ := k6 p hp; ⟨cv, a, codeRec_but e5 t k b⟩⟩
  obtain ⟨o, vs, file, tf, flags, tg, inF, text, tt, e1, e2, e3, r⟩ := k1
  obtain ⟨c₂, o₂, vs₂, t₂, a1, a2, a3, a4⟩ := k5
  cases a1
  rw [e1] at a2; cases a2
  rw [e3] at a3; cases a3
  refine ⟨o, vs, file, tf, flags, tg, inF, text, tt, k _ _ (fun z => ?_) e1, e2, e3, r⟩
  rw [z, e5] at e1; cases e1; cases e3
  exact TriplesOk_one t a4

theorem KAt.step {s : Shared} {q125 : Array Value} {P1 P2 : FuncData → Prop} {C : Addr} {H : Heap} {tk : Nat} (t : TabOk s.heap) (e5 : s.heap.get? 125 = some (tabObj q125)) (k : KAt s.heap q125 P1 P2 C H) : Step s { s with heap := H, toks := tk } := by
  refine ⟨fun b o hb e => k.keep b o (fun z => hb (by rw [z]; exact .head _)) e, fun _ => ?_, rfl, [], by simp, by simp⟩
  have t5 : TriplesOk q125.toList := by
    obtain ⟨ps, e, t1, _⟩ := t 125 (.head _)
    rw [e5] at e; cases e; exact t1
  intro P hP
  simp only [tabs, List.mem_cons, List.not_mem_nil, or_false] at hP
  rcases hP with rfl | rfl
  · obtain ⟨p125, h1, h2, h3⟩ := k.tab
    obtain ⟨ps, e, t1, t2⟩ := t 125 (.head _)
    rw [e5] at e; cases e
    refine ⟨p125, h1, h2, fun pos v e => ?_⟩
    rcases h3 pos v e with q | ⟨q1, q2⟩
    · obtain ⟨z1, z2⟩ := t2 pos v q
      exact ⟨codeRec_but e5 t5 k.keep z1, fun _ => clsCode_but e5 t5 k.keep (z2 rfl)⟩
    · exact ⟨q1, fun _ => q2⟩
  · obtain ⟨ps, e, t1, t2⟩ := t 175 (.tail _ (.head _))
    exact ⟨ps, k.keep _ _ (by decide) e, t1, fun pos v e => ⟨codeRec_but e5 t5 k.keep (t2 pos v e).1, fun z => absurd z (by decide)⟩⟩

section
variable {prog : Program} {w : World} {A : Around} {G : GData} {s : Shared} {O : List Addr}
theorem Gr.b_object (g : Gr w G) : G.mb (Str.ofString "object") = some (.type "object") := g.bl (by kernel_rfl) (by decide)
theorem Gr.n_object (g : Gr w G) : G.mg (Str.ofString "object") = none := g.mgn (by kernel_rfl)
theorem Gr.b_bc (g : Gr w G) : G.mb (Str.ofString "__build_class__") = some (.builtin "__build_class__") := g.bl (by kernel_rfl) (by decide)
theorem Gr.hd125 (g : Gr w G) : CodeHd G.h 129 125 := codeHd_of_K g.kin (by kernel_rfl)
theorem Gr.hd175 (g : Gr w G) : CodeHd G.h 179 175 := codeHd_of_K g.kin (by kernel_rfl)
theorem Gr.name (g : Gr w G) : ∃ v, G.mg (Str.ofString "__name__") = some v := ⟨.str (Str.ofString "law_qh0019_01") 364, g.mg (by kernel_rfl)⟩
theorem Gr.opq (g : Gr w G) : nsIn (Kf w) cStatics "thirdparty.any" = some none := by kernel_rfl
end
/-- the ground, the module of the builtins told too -/
structure Gx (w : World) (G : GData) : Prop extends Gr w G where
  bmod : ∃ bm o, G.mg "__builtins__" = some (.ref bm) ∧ bm ≠ builtinsNs ∧ G.h.get? bm = some o ∧ o.cls = .type "module" ∧ o.dict = some builtinsNs ∧ o.data = .plain
theorem Gx.builtinsAt {w : World} {G : GData} (g : Gx w G) {h : Heap} {P : Addr} {ps : Array Value} (k : ∀ b o, G.h.get? b = some o → h.get? b = some o) (e : h.get? P = some (tabObj ps)) : h.BuiltinsAt G.mg P := by
  obtain ⟨bm, o, h0, h00, h1, h2, h3, h4⟩ := g.bmod
  refine ⟨bm, o, h0, h00, fun z => ?_, fun z => ?_, k _ _ h1, h2, h3, h4⟩
  · obtain ⟨o', es, ep, e1, e2, _⟩ := G.g
    rw [z, e1] at h1; cases h1; rw [h4] at e2; cases e2
  · rw [← z, k _ _ h1] at e; cases e; cases h2
end
section
set_option Elab.async false
set_option maxRecDepth 100000
set_option linter.unusedVariables false
set_option maxHeartbeats 8000000
open PySem.Calls
noncomputable def sel6 {α : Type} (a b c d e f : α) : Nat → α
  | 1 => a
  | 2 => b
  | 3 => c
  | 4 => d
  | 5 => e
  | _ => f
theorem bodyEnd_of {h h'' : Heap} {nsA c P : Addr} {tm tq tf to : Tok} {sl a1 a2 a3 a4 a5 a6 : Addr} {kvs : List (Str × Value)} {dn : List (Pos × Str)} {news news' : List (Addr × Obj)} {recs recs' : List (Value × Str)} {P1 P2 : FuncData → Prop}
    (B : CB h nsA c P kvs dn [] news' recs' h'') (hk : kvs = kvsF tm tq tf sl a1 a2 a3 a4 a5 a6) (hd : dn = kCodes.reverse) (old : ∀ p ∈ news, p ∈ news') (oldR : ∀ p ∈ recs, p ∈ recs') (hsl : (sl, (⟨.type "list", none, .seq #[.str (S "obj") to] 0, #[]⟩ : Obj)) ∈ news')
    (h1 : ∃ o fd, (a1, o) ∈ news' ∧ o.cls = .type "function" ∧ o.data = .func fd ∧ P1 fd ∧ (fd.code, fd.qualname) ∈ recs') (h2 : ∃ o fd, (a2, o) ∈ news' ∧ o.cls = .type "function" ∧ o.data = .func fd ∧ P2 fd ∧ (fd.code, fd.qualname) ∈ recs')
    (h3 : ∃ o, (a3, o) ∈ news' ∧ o.cls = .type "function") (h4 : ∃ o, (a4, o) ∈ news' ∧ o.cls = .type "function") (h5 : ∃ o, (a5, o) ∈ news' ∧ o.cls = .type "function") (h6 : ∃ o, (a6, o) ∈ news' ∧ o.cls = .type "function") :
    ∃ f o, BodyEnd h nsA c P tq tf news recs P1 P2 tm sl to 0 f o dn news' recs' h'' := by
  obtain ⟨o1, fd1, m1, c1, d1, p1, r1⟩ := h1
  obtain ⟨o2, fd2, m2, c2, d2, p2, r2⟩ := h2
  obtain ⟨o3, m3, c3⟩ := h3
  obtain ⟨o4, m4, c4⟩ := h4
  obtain ⟨o5, m5, c5⟩ := h5
  obtain ⟨o6, m6, c6⟩ := h6
  subst hk
  refine ⟨sel6 a1 a2 a3 a4 a5 a6, sel6 o1 o2 o3 o4 o5 o6, B, fun p hp => by rw [hd]; exact List.mem_reverse.mpr hp, old, oldR, hsl, fun i hi hi' => ?_, ⟨fd1, d1, p1, r1⟩, ⟨fd2, d2, p2, r2⟩⟩
  match i, hi, hi' with
  | 1, _, _ => exact ⟨m1, c1⟩
  | 2, _, _ => exact ⟨m2, c2⟩
  | 3, _, _ => exact ⟨m3, c3⟩
  | 4, _, _ => exact ⟨m4, c4⟩
  | 5, _, _ => exact ⟨m5, c5⟩
  | 6, _, _ => exact ⟨m6, c6⟩
section
variable {prog : Program} {w : World} {A : Around} {G : GData} {s : Shared} {O : List Addr}

theorem spec_ctk (g : Gx w G) {k : Nat} (hr : Room (k + 3) A) {fm : Addr} (gi : GI G s) (hO : OkO O s.heap) :
    codeAny (model prog w) A (.call (.ref 130) ⟨[.ref fm], []⟩) (fun r s' => ∃ C, r = .ok (.ret (.ref C)) ∧ Step s s' ∧ KMade prog w G (fun a => ∃ o es ep, s.heap.get? a = some o ∧ o.data = .dict es ep) s'.heap fm C) s := by
  refine g.toGr.enterR (f := 130) (binds := [(Str.ofString "mycmp", .ref fm)]) (ρ := [(Str.ofString "mycmp", .raw (.ref fm))]) hr rfl rfl rfl (by dsimp only) rfl rfl (by kernel_rfl) rfl rfl rfl rfl rfl rfl gi hO (wpAny_pure ⟨rfl, rfl⟩) (.cons (by rw [Rep]) .nil) (by kernel_rfl) ?_
  intro fd L s₁ hn hq hc I
  have hr' := hr.deeper (env := callEnvC fd L 130)
  refine x_class I g.b_bc (Ev.blt g.n_object g.b_object (kind_of hn (by kernel_rfl)) (by decide)) fun s₂ I₂ => ?_
  have hqual : qualnameIn (callEnvC fd L 130) (S "K") (S "K") = kQ := by
    unfold qualnameIn
    rw [show (callEnvC fd L 130).kindOf (S "K") = some .local from kind_of hn (by kernel_rfl)]
    show (fd.qualname ++ ".<locals>.") ++ S "K" = kQ
    rw [hq]; kernel_rfl
  obtain ⟨vv, hv1, hv2⟩ := I₂.vars (Str.ofString "mycmp", .raw (.ref fm)) (by simp)
  rw [Rep] at hv2; subst hv2
  have hkc : (callEnvC fd L 130).kindOf (Str.ofString "mycmp") = some .cell := kind_of hn (by kernel_rfl)
  obtain ⟨cm, hcm1, hcm2⟩ : ∃ cm, (callEnvC fd L 130).cells.lookup (Str.ofString "mycmp") = some cm ∧ s₂.heap.IsCell cm (some (.ref fm)) := by
    rcases hv1 with ⟨k1, _⟩ | ⟨_, c, e1, e2⟩
    · rw [show (callEnvC fd L 130).kindOf (Str.ofString "mycmp") = some .local from k1] at hkc; cases hkc
    · exact ⟨c, e1, e2⟩
  have hqual' : qualnameIn (fnFm fd 130 L O s).env (Str.ofString "K") (Str.ofString "K") = kQ := hqual
  rw [hqual']
  have hcells : cellsFrom (L + 1) fd.scope.names [] = [(Str.ofString "mycmp", L + 1)] := by rw [hn]; rfl
  have hcm : cm = L + 1 := by
    have e : (cellsFrom (L + 1) fd.scope.names []).lookup (Str.ofString "mycmp") = some cm := hcm1
    rw [hcells] at e
    exact (Option.some.inj e).symm
  subst hcm
  obtain ⟨hh, gg, dd, tt, oo⟩ := s₂
  have gi₂ := I₂.gi
  obtain ⟨ps, t1, t2, t3⟩ := gi₂.tab 125 (.head _)
  obtain ⟨ps', t1', _⟩ := gi₂.tab 175 (.tail _ (.head _))
  dsimp only at t1 t3 t1' hcm2
  obtain ⟨vn, hvn⟩ := g.toGr.name
  have hgk : ∀ h' : Heap, (∀ b o, b ≠ 125 → hh.get? b = some o → h'.get? b = some o) → ∀ b o, G.h.get? b = some o → h'.get? b = some o := fun h' k b o e =>
    k b o (fun z => by rw [z, G.notab 125 (.head _)] at e; cases e) (gi₂.keep b o e)
  refine bc (c0 := 129) (q125 := ps) (mg := G.mg) (vn := vn) (P1 := InitOk prog w G) (P2 := LtOk prog w G (L + 1)) (clos := [(Str.ofString "mycmp", L + 1)]) I₂.glob hc (g.toGr.hd125.keeps gi₂.keep) t1 t2 ⟨_, t1'⟩ ?hcase (fun h' k => ⟨G.g.keeps (hgk h' k), G.nolimit.keeps (hgk h' k), fun P ps e => g.builtinsAt (hgk h' k) e⟩) hvn ?hcl rfl ⟨by kernel_rfl, by kernel_rfl, by kernel_rfl, by kernel_rfl, by kernel_rfl, by kernel_rfl, by kernel_rfl⟩ hr'.depth ?h4 rfl ?hop rfl rfl ?hbody ?hq
  case hcase =>
    cases e : codeAmong _ ps.toList with
    | none => exact .inl rfl
    | some cv => exact .inr ⟨cv, rfl, (t3 _ _ e).2 rfl⟩
  case hcl => exact clos_of hcells rfl rfl
  case h4 => exact Nat.lt_of_lt_of_le (by decide) (Nat.le_of_lt (Heap.lt_size t1))
  case hop => exact fun H k C => looks_opaque (K := Kf w) (fun b o e => hgk H k b o (g.kin b o e)) g.toGr.opq
  case hbody =>
    intro nsA c P fr h' tk vm tq tf news recs B
    have hP0 : ∀ h'' : Heap, (∀ b o, b ≠ 125 → hh.get? b = some o → h''.get? b = some o) → h''.Ns mainGlobals G.mg ∧ (P ≠ mainGlobals) ∧ h''.BuiltinsAt G.mg P := fun h'' k => by
      refine ⟨G.g.keeps (hgk h'' k), fun z => ?_, ?_⟩
      · obtain ⟨ps1, e, _⟩ := B.tab
        obtain ⟨o, es, ep, e1, e2, _⟩ := G.g
        rw [z, hgk h' B.keep _ _ e1] at e; cases e; cases e2
      · obtain ⟨ps1, e, _⟩ := B.tab
        obtain ⟨bm, o, b1, b2, b3, b4, b5, b6, b7, b8⟩ := g.builtinsAt (hgk h' B.keep) e
        obtain ⟨bm', o', c1, c2, c3, c4, c5, c6⟩ := g.bmod
        rw [c1] at b1; cases b1
        exact ⟨bm, o', c1, b2, b3, b4, hgk h'' k _ _ c3, c4, c5, c6⟩
    refine wpAny_execs_cons (wpAny_Assign_Name (wpAny_Constant_str ?_))
    refine cb_store B rfl rfl (.inl (by kernel_rfl)) fun h1 tk1 B1 => ?_
    refine wpAny_execs_cons (wpAny_Assign_Name (List_ (args_cons (wpAny_Constant_str (args_nil ?_)) rfl)))
    refine wpAny_newObj_type ?_ (by size_fits)
    have B2 := B1.push ({ cls := .type "list", data := .seq (List.toArray [Value.str (S "obj") tk1]) } : Obj) rfl
    refine cb_store B2 rfl rfl (.inl (by kernel_rfl)) fun h3 tk3 B3 => ?_
    refine wpAny_execs_cons (cb_def B3 rfl rfl rfl rfl (by kernel_rfl) (by kernel_rfl) (clos_of rfl rfl rfl) rfl rfl rfl (by kernel_rfl) (by kernel_rfl) hP0 fun f1 cv1 ctv1 doc1 h4 tk4 B4 => ?_)
    refine wpAny_execs_cons (cb_def B4 rfl rfl rfl rfl (by kernel_rfl) (by kernel_rfl) (clos_of rfl rfl rfl) rfl rfl rfl (by kernel_rfl) (by kernel_rfl) hP0 fun f2 cv2 ctv2 doc2 h5 tk5 B5 => ?_)
    refine wpAny_execs_cons (cb_def B5 rfl rfl rfl rfl (by kernel_rfl) (by kernel_rfl) (clos_of rfl rfl rfl) rfl rfl rfl (by kernel_rfl) (by kernel_rfl) hP0 fun f3 cv3 ctv3 doc3 h6 tk6 B6 => ?_)
    refine wpAny_execs_cons (cb_def B6 rfl rfl rfl rfl (by kernel_rfl) (by kernel_rfl) (clos_of rfl rfl rfl) rfl rfl rfl (by kernel_rfl) (by kernel_rfl) hP0 fun f4 cv4 ctv4 doc4 h7 tk7 B7 => ?_)
    refine wpAny_execs_cons (cb_def B7 rfl rfl rfl rfl (by kernel_rfl) (by kernel_rfl) (clos_of rfl rfl rfl) rfl rfl rfl (by kernel_rfl) (by kernel_rfl) hP0 fun f5 cv5 ctv5 doc5 h8 tk8 B8 => ?_)
    refine wpAny_execs_cons (cb_def B8 rfl rfl rfl rfl (by kernel_rfl) (by kernel_rfl) (clos_of rfl rfl rfl) rfl rfl rfl (by kernel_rfl) (by kernel_rfl) hP0 fun f6 cv6 ctv6 doc6 h9 tk9 B9 => ?_)
    refine wpAny_execs_cons (wpAny_Assign_Name (wpAny_Constant_none ?_))
    refine cb_store B9 rfl rfl (.inl (by kernel_rfl)) fun h10 tk10 B10 => ?_
    refine wpAny_execs_nil ⟨rfl, ?_⟩
    obtain ⟨f, o, E⟩ := bodyEnd_of (P1 := InitOk prog w G) (P2 := LtOk prog w G (L + 1)) (news := news) (recs := recs) (tm := tk) (tq := tq) (tf := tf) (sl := h1.objs.size) (a1 := f1) (a2 := f2) (a3 := f3) (a4 := f4) (a5 := f5) (a6 := f6) (to := tk1) B10 (by kernel_rfl) (by kernel_rfl) (fun p hp => .tail _ (.tail _ (.tail _ (.tail _ (.tail _ (.tail _ (.tail _ hp))))))) (fun p hp => .tail _ (.tail _ (.tail _ (.tail _ (.tail _ (.tail _ hp)))))) (.tail _ (.tail _ (.tail _ (.tail _ (.tail _ (.tail _ (.head _)))))))
      ⟨_, _, .tail _ (.tail _ (.tail _ (.tail _ (.tail _ (.head _))))), rfl, rfl, initOk rfl (fun _ _ => rfl) rfl rfl rfl rfl rfl (by decide) rfl rfl rfl rfl (by decide) (by decide), .tail _ (.tail _ (.tail _ (.tail _ (.tail _ (.head _)))))⟩
      ⟨_, _, .tail _ (.tail _ (.tail _ (.tail _ (.head _)))), rfl, rfl, ltOk rfl (fun _ _ => rfl) rfl rfl rfl rfl rfl rfl (by decide) rfl rfl rfl rfl (by decide) (by decide) (by decide) (by decide), .tail _ (.tail _ (.tail _ (.tail _ (.head _))))⟩
      ⟨_, .tail _ (.tail _ (.tail _ (.head _))), rfl⟩ ⟨_, .tail _ (.tail _ (.head _)), rfl⟩ ⟨_, .tail _ (.head _), rfl⟩ ⟨_, .head _, rfl⟩
    exact ⟨h10, tk10, _, _, _, 0, f, o, _, _, _, rfl, E⟩
  case hq =>
    intro C H tk K
    have st : Step ⟨hh, gg, dd, tt, oo⟩ ⟨H, gg, dd, tk, oo⟩ := K.step (s := ⟨hh, gg, dd, tt, oo⟩) gi₂.tab t1
    have I₃ := I₂.go st
    obtain ⟨K', DD, f1, f2, o1, o2, fd1, fd2, z1, z2, z3, z4, z5, z6, z7, z8, z9, z10⟩ := K.has (fun a ha => let ⟨q, e, _⟩ := I₃.gi.tab a ha; ⟨q, e⟩)
    have hkl : (fnFm fd 130 L O s).env.kindOf (Str.ofString "K") = some .local := kind_of hn (by kernel_rfl)
    obtain ⟨m, hnL⟩ := I₃.ns
    obtain ⟨m₂, hnL₂⟩ := I₂.ns
    refine wpAny_storeName_local hkl hnL (fun h' hn' hs' => ?_) (by rw [I₃.kind]; rfl)
    have I₄ := I₃.putLocal (tk := tk + 1) hkl (d := .raw (.ref C)) (v := .ref C) (PutTo.next (by decide) PutTo.nil) (by rw [Rep]) hnL hn' hs'
    have M : KMade prog w G (fun a => ∃ o es ep, s.heap.get? a = some o ∧ o.data = .dict es ep) h' fm C := by
      obtain ⟨oL, es, ep, e1, e2, e3⟩ := hnL₂
      have hL5 : (fnFm fd 130 L O s).env.locals ≠ 125 := fun q => I₂.offTab (by rw [q]; exact .head _)
      have e1' : H.get? (fnFm fd 130 L O s).env.locals = some oL := K.keep _ _ hL5 e1
      refine kmade_but z1 (z10 _ oL _ _ hL5 e1 e2) e1' ⟨es, ep, e2⟩ hs' z2 z3 z4 z5 z6 z7 z8 z9 (cell_step gi₂.tab st hcm2) fun b hb => ?_
      obtain ⟨ob, eb, epb, b1, b2⟩ := hb
      have bt : b ∉ tabs := fun q => by obtain ⟨_, e, _⟩ := gi.tab b q; rw [b1] at e; cases e; cases b2
      exact z10 b ob _ _ (fun q => bt (by rw [q]; exact .head _)) (I₂.step.keep b ob bt b1) b2
    refine wpAny_execs_cons (wpAny_Return_some (wpAny_Name (I₄.load (x := Str.ofString "K") (d := .raw (.ref C)) (.tail _ (.head _)) fun u r => ?_) (by decide)))
    rw [Rep] at r; subst r
    exact ⟨C, rfl, I₄.step, M⟩
end
end
section
set_option Elab.async false
set_option maxRecDepth 100000
set_option linter.unusedVariables false
set_option maxHeartbeats 1000000
open PySem.Calls
theorem Room.under {k : Nat} {A : Around} {c : Code} (r : Room (k + 1) A) (hw : c.weight ≤ 1) (hu : c.cUnits ≤ 20) : Room k (A.under c) := by
  obtain ⟨h1, h2, h3⟩ := r
  refine ⟨h1, ?_, ?_⟩
  · show A.depth + c.weight + k < 990; omega
  · show A.units + c.cUnits + 20 * k < 9800; omega
section
variable {prog : Program} {w : World} {A : Around} {G : GData} {s : Shared} {O : List Addr}
theorem type_isType : isSubtype (.type "type") (.type "object") = pure true := by rw [isSubtype_type]; kernel_rfl

/-- an object of the class, made -/
theorem make_inst {N : Addr → Prop} {fm C : Addr} {v : Value} {k : Nat} (hr : Room (k + 4) A) (gi : GI G s) (hO : OkO O s.heap) (K : KMade prog w G N s.heap fm C) :
    codeAny (model prog w) A (.call (.ref C) ⟨[v], []⟩) (fun r s' => ∃ x dx, r = .ok (.ret (.ref x)) ∧ Step s s' ∧ InstK s'.heap x C dx v) s := by
  obtain ⟨K', DD, f1, f2, o1, o2, fd1, fd2, cm, X, e1, d1, c1, i1, e2, d2, c2, i2, ec, _⟩ := K.has
  obtain ⟨hh, g, d, t, os⟩ := s
  refine make_core (makes_of X.inn X.k.makes) (looks_findIn X.inn X.k.init) (fun self => bind_fn X.inn self X.k.typ1) (.inl rfl) ?_
  have k0 : ∀ b o, hh.get? b = some o → ((hh.push emptyDict).push (instObj C hh.objs.size)).get? b = some o := fun b o e => Heap.get?_push_of_some _ (Heap.get?_push_of_some _ e)
  have st : Step ⟨hh, g, d, t, os⟩ ⟨(hh.push emptyDict).push (instObj C hh.objs.size), g, d, t, os⟩ := Step.of_keeps (s := ⟨hh, g, d, t, os⟩) (tk := t) k0
  have hx : ((hh.push emptyDict).push (instObj C hh.objs.size)).get? (hh.objs.size + 1) = some (instObj C hh.objs.size) := by heap_get
  have hdx : ((hh.push emptyDict).push (instObj C hh.objs.size)).get? hh.objs.size = some emptyDict := by heap_get
  have hr1 : Room (k + 2) (A.under (.builtin "type.__call__" ⟨[.ref C, v], []⟩)) := (hr.le (Nat.le_succ (k + 3))).under (Nat.le_of_ble_eq_true (by kernel_rfl)) (Nat.le_of_ble_eq_true (by kernel_rfl))
  refine codeAny_mono (i1 _ O ⟨(hh.push emptyDict).push (instObj C hh.objs.size), g, d, t, os⟩ f1 o1 K' C DD f1 f2 (hh.objs.size + 1) hh.objs.size v k hr1 (gi.step st) (hO.step gi st) (k0 _ _ e1) d1 (c1.keeps k0) (X.step st) hx hdx) fun r s' q => ?_
  obtain ⟨rfl, h', tk, rfl, hx', hk'⟩ := q
  refine ⟨rfl, hh.objs.size + 1, hh.objs.size, rfl, ?_, hx', hk' _ _ (Nat.ne_of_lt (Nat.lt_succ_self _)) hdx⟩
  exact Step.of_keeps (s := ⟨hh, g, d, t, os⟩) fun b o e => hk' b o (fun z => by have := Heap.lt_size e; rw [z] at this; exact absurd this (Nat.not_lt.mpr (Nat.le_succ _))) (k0 b o e)

/-- two objects of the class, compared by the sort -/
theorem lt_inst {N : Addr → Prop} {fm C x dx y dy : Addr} {v1 v2 : Value} {om : Obj} {fdm : FuncData} {b : Bool} {k : Nat} {Q : Bool → Shared → Prop} {E : Value → Shared → Prop} (hr : Room (k + 3) A) (gi : GI G s) (hO : OkO O s.heap) (K : KMade prog w G N s.heap fm C) (hx : InstK s.heap x C dx v1) (hy : InstK s.heap y C dy v2)
    (h1 : handedIn v1 = true) (h2 : handedIn v2 = true) (hfm : s.heap.get? fm = some om) (hdm : om.data = .func fdm)
    (hcall : ∀ A' s', Room k A' → Step s s' → codeAny (model prog w) A' (.call (.ref fm) ⟨[v1, v2], []⟩) (fun r s'' => ∃ i t, r = .ok (.ret (.int i t)) ∧ decide (i < 0) = b ∧ Step s' s'') s')
    (h : ∀ s', Step s s' → Q b s') : wpAny (model prog w) A (keyLt' oneType' (.ref x) (.ref y)) Q E s := by
  obtain ⟨K', DD, f1, f2, o1, o2, fd1, fd2, cm, X, e1, d1, c1, i1, e2, d2, c2, i2, ec, _⟩ := K.has
  rw [keyLt'_oneType, oneLt'_eq]
  simp only [if_true]
  refine wpAny_bind (wpAny_cRoomFor hr.units ?_)
  refine wpAny_bind (ifBound_K X.inn hx.at X.k.lt (by unfold isFn; rw [X.k.typ2]; rfl) (wpAny_call (codeAny_mono (i2 A O s f2 o2 K' C DD f1 f2 x dx y dy v1 v2 fm om fdm b k (hr.le (Nat.le_succ _)) gi hO e2 d2 c2 X hx hy h1 h2 ec hfm hdm hcall) fun r s' q => ?_)))
  obtain ⟨rfl, st⟩ := q
  exact wpAny_truthy_bool (h s' st)
end
end
section
set_option Elab.async false
set_option maxRecDepth 100000
set_option linter.unusedVariables false

/-! the sort as a tree of questions, and what it answers -/
noncomputable def sat (N : Nat) (lt : Nat → Nat → Bool) {α : Type} : KasT α → (α → Prop) → Prop
  | .ret a, Q => Q a
  | .ask i j k, Q => i < N ∧ j < N ∧ i ≠ j ∧ sat N lt (k (lt i j)) Q
section
variable {N : Nat} {lq : Nat → Nat → Bool}
theorem sat_bind {α β : Type} {f : α → KasT β} {Q : β → Prop} : ∀ {t : KasT α}, sat N lq t (fun a => sat N lq (f a) Q) → sat N lq (t.bind f) Q
  | .ret a, h => h
  | .ask i j k, h => ⟨h.1, h.2.1, h.2.2.1, sat_bind h.2.2.2⟩
theorem sat_mono {α : Type} {Q Q' : α → Prop} (hq : ∀ a, Q a → Q' a) : ∀ {t : KasT α}, sat N lq t Q → sat N lq t Q'
  | .ret a, h => hq a h
  | .ask i j k, h => ⟨h.1, h.2.1, h.2.2.1, sat_mono hq h.2.2.2⟩
theorem sat_wp {α : Type} {cmp : Nat → Nat → (Bool → Shared → Prop) → Shared → Prop} {P : Shared → Prop} {Q : α → Shared → Prop} {Q' : α → Prop}
    (hc : ∀ i j s C, i < N → j < N → i ≠ j → P s → (∀ s', P s' → C (lq i j) s') → cmp i j C s) (hq : ∀ a s, Q' a → P s → Q a s) : ∀ (t : KasT α) (s : Shared), sat N lq t Q' → P s → t.kasWp cmp Q s
  | .ret a, s, h, p => hq a s h p
  | .ask i j k, s, h, p => hc i j s _ h.1 h.2.1 h.2.2.1 p fun s' p' => sat_wp hc hq _ s' h.2.2.2 p'

theorem sat_yes {α : Type} {i j : Nat} {X Y : KasT α} {Q : α → Prop} (hi : i < N) (hj : j < N) (hij : i ≠ j) (c : lq i j = true) (h : sat N lq X Q) : sat N lq (.ask i j fun c => if c = true then X else Y) Q := ⟨hi, hj, hij, by rw [c]; exact h⟩
theorem sat_no {α : Type} {i j : Nat} {X Y : KasT α} {Q : α → Prop} (hi : i < N) (hj : j < N) (hij : i ≠ j) (c : lq i j = false) (h : sat N lq Y Q) : sat N lq (.ask i j fun c => if c = true then X else Y) Q := ⟨hi, hj, hij, by rw [c]; exact h⟩
variable {key : Nat → Int}
noncomputable abbrev ltK (key : Nat → Int) (i j : Nat) : Bool := decide (key i < key j)
structure Good (N : Nat) (p : Array Nat) : Prop where
  perm : p.toList.Perm (List.range N)
theorem Good.size {p : Array Nat} (g : Good N p) : p.size = N := by
  have := g.perm.length_eq
  rwa [Array.length_toList, List.length_range] at this
theorem Good.lt {p : Array Nat} (g : Good N p) {i : Nat} (hi : i < N) : p.getD i 0 < N := by
  have hs := g.size
  have hi' : i < p.size := by (first | lia | omega)
  have e : p.getD i 0 = p[i] := by simp [Array.getD, hi']
  rw [e]
  have : p[i] ∈ p.toList := by simp
  exact List.mem_range.mp (g.perm.mem_iff.mp this)
theorem Good.ne {p : Array Nat} (g : Good N p) {i j : Nat} (hij : i ≠ j) (hi : i < N) (hj : j < N) : p.getD i 0 ≠ p.getD j 0 := by
  have hs := g.size
  have hi' : i < p.size := by (first | lia | omega)
  have hj' : j < p.size := by (first | lia | omega)
  have e : p.getD i 0 = p[i] := by simp [Array.getD, hi']
  have e' : p.getD j 0 = p[j] := by simp [Array.getD, hj']
  rw [e, e']
  have nd : p.toList.Nodup := g.perm.nodup_iff.mpr List.nodup_range
  intro q
  have := (List.getElem_inj (h₀ := by rw [Array.length_toList]; exact hi') (h₁ := by rw [Array.length_toList]; exact hj') nd).mp (by simpa using q)
  exact hij this
theorem Good.rev {p : Array Nat} (g : Good N p) (i j : Nat) : Good N (kas_rev p i j) := ⟨(Array.Perm.toList (mirror_perm p i j _)).trans g.perm⟩
theorem Good.bub {p : Array Nat} (g : Good N p) (i j : Nat) : Good N (bubble p i j) := ⟨(Array.Perm.toList (bubble_perm p i j)).trans g.perm⟩

noncomputable def Up (key : Nat → Int) (p : Array Nat) (m : Nat) : Prop := ∀ a b, a < b → b < m → key (p.getD a 0) < key (p.getD b 0)
noncomputable def Dn (key : Nat → Int) (p : Array Nat) (m : Nat) : Prop := ∀ a b, a < b → b < m → key (p.getD b 0) < key (p.getD a 0)
variable (hk : ∀ i j, i < N → j < N → i ≠ j → key i ≠ key j)
include hk
theorem Good.kne {p : Array Nat} (g : Good N p) {i j : Nat} (hij : i ≠ j) (hi : i < N) (hj : j < N) : key (p.getD i 0) ≠ key (p.getD j 0) := hk _ _ (g.lt hi) (g.lt hj) (g.ne hij hi hj)

omit hk in
theorem Up.succ {p : Array Nat} {n : Nat} (u : Up key p n) (h1 : 1 ≤ n) (h : key (p.getD (n - 1) 0) < key (p.getD n 0)) : Up key p (n + 1) := fun a b hab hb => by
  rcases Nat.lt_or_ge b n with q | q
  · exact u a b hab q
  · have : b = n := by (first | lia | omega)
    subst this
    rcases Nat.lt_or_ge a (b - 1) with z | z
    · exact Int.lt_trans (u a (b - 1) z (by (first | lia | omega))) h
    · have : a = b - 1 := by (first | lia | omega)
      subst this; exact h
omit hk in
theorem Dn.succ {p : Array Nat} {n : Nat} (u : Dn key p n) (h1 : 1 ≤ n) (h : key (p.getD n 0) < key (p.getD (n - 1) 0)) : Dn key p (n + 1) := fun a b hab hb => by
  rcases Nat.lt_or_ge b n with q | q
  · exact u a b hab q
  · have : b = n := by (first | lia | omega)
    subst this
    rcases Nat.lt_or_ge a (b - 1) with z | z
    · exact Int.lt_trans h (u a (b - 1) z (by (first | lia | omega)))
    · have : a = b - 1 := by (first | lia | omega)
      subst this; exact h

theorem sat_asc {p : Array Nat} (g : Good N p) : ∀ (f n : Nat), 1 ≤ n → n + f ≤ N → Up key p n → sat N (ltK key) (kas_asc p f n) fun m => n ≤ m ∧ m ≤ n + f ∧ Up key p m ∧ (m = n + f ∨ key (p.getD m 0) < key (p.getD (m - 1) 0))
  | 0, n, h1, hn, u => ⟨Nat.le_refl _, Nat.le_refl _, u, .inl rfl⟩
  | f + 1, n, h1, hn, u => by
    by_cases c : key (p.getD n 0) < key (p.getD (n - 1) 0)
    · refine sat_yes (g.lt (by (first | lia | omega))) (g.lt (by (first | lia | omega))) (g.ne (by (first | lia | omega)) (by (first | lia | omega)) (by (first | lia | omega))) (decide_eq_true c) ?_
      exact ⟨Nat.le_refl _, by (first | lia | omega), u, .inr c⟩
    · refine sat_no (g.lt (by (first | lia | omega))) (g.lt (by (first | lia | omega))) (g.ne (by (first | lia | omega)) (by (first | lia | omega)) (by (first | lia | omega))) (decide_eq_false c) ?_
      have ne := g.kne hk (i := n) (j := n - 1) (by (first | lia | omega)) (by (first | lia | omega)) (by (first | lia | omega))
      refine sat_mono (fun m q => ⟨by (first | lia | omega), by (first | lia | omega), q.2.2.1, by (first | lia | omega)⟩) (sat_asc g f (n + 1) (by (first | lia | omega)) (by (first | lia | omega)) (u.succ h1 (by (first | lia | omega))))
theorem sat_desc {p : Array Nat} (g : Good N p) : ∀ (f n : Nat), 2 ≤ n → n + f ≤ N → Dn key p n → sat N (ltK key) (kas_desc f p n 0) fun r => r.1 = p ∧ n ≤ r.2.1 ∧ r.2.1 ≤ n + f ∧ Dn key p r.2.1 ∧ r.2.2 = 0
  | 0, n, h1, hn, u => ⟨rfl, Nat.le_refl _, Nat.le_refl _, u, rfl⟩
  | f + 1, n, h1, hn, u => by
    by_cases c : key (p.getD n 0) < key (p.getD (n - 1) 0)
    · refine sat_yes (g.lt (by (first | lia | omega))) (g.lt (by (first | lia | omega))) (g.ne (by (first | lia | omega)) (by (first | lia | omega)) (by (first | lia | omega))) (decide_eq_true c) ?_
      rw [if_neg (by decide)]
      exact sat_mono (fun r q => ⟨q.1, by (first | lia | omega), by (first | lia | omega), q.2.2.2.1, q.2.2.2.2⟩) (sat_desc g f (n + 1) (by (first | lia | omega)) (by (first | lia | omega)) (u.succ (by (first | lia | omega)) c))
    · refine sat_no (g.lt (by (first | lia | omega))) (g.lt (by (first | lia | omega))) (g.ne (by (first | lia | omega)) (by (first | lia | omega)) (by (first | lia | omega))) (decide_eq_false c) ?_
      have ne := g.kne hk (i := n) (j := n - 1) (by (first | lia | omega)) (by (first | lia | omega)) (by (first | lia | omega))
      refine sat_yes (g.lt (by (first | lia | omega))) (g.lt (by (first | lia | omega))) (g.ne (by (first | lia | omega)) (by (first | lia | omega)) (by (first | lia | omega))) (decide_eq_true (by (first | lia | omega))) ?_
      exact ⟨rfl, Nat.le_refl _, (by (first | lia | omega) : n ≤ n + (f + 1)), u, rfl⟩
omit hk in
theorem up_rev {p : Array Nat} {n : Nat} (hn : n ≤ p.size) (d : Dn key p n) : Up key (kas_rev p 0 n) n := fun a b hab hb => by
  have e : ∀ k, k < n → (kas_rev p 0 n).getD k 0 = p.getD (n - 1 - k) 0 := fun k hk => by
    rw [Array.getD_eq_getD_getElem?, Array.getD_eq_getD_getElem?]
    unfold kas_rev
    rw [getElem?_mirror_all hn, if_pos ⟨Nat.zero_le _, hk⟩]
    congr 2; (first | lia | omega)
  rw [e a (by (first | lia | omega)), e b hb]
  exact d _ _ (by (first | lia | omega)) (by (first | lia | omega))
theorem sat_count {p : Array Nat} (g : Good N p) (h2 : 2 ≤ N) : sat N (ltK key) (kas_count N p) fun r => Good N r.2 ∧ 1 ≤ r.1 ∧ r.1 ≤ N ∧ Up key r.2 r.1 := by
  refine sat_bind (sat_mono (fun n q => ?_) (sat_asc hk g (N - 1) 1 (Nat.le_refl _) (by (first | lia | omega)) fun a b h1 h2 => by (first | lia | omega)))
  obtain ⟨q1, q2, q3, q4⟩ := q
  by_cases e : n = N
  · rw [if_pos (by simpa using e)]
    exact ⟨g, q1, by (first | lia | omega), q3⟩
  · rw [if_neg (by simpa using e)]
    by_cases e1 : n > 1
    · rw [if_pos e1]
      refine sat_yes (g.lt (by (first | lia | omega))) (g.lt (by (first | lia | omega))) (g.ne (by (first | lia | omega)) (by (first | lia | omega)) (by (first | lia | omega))) (decide_eq_true (q3 0 (n - 1) (by (first | lia | omega)) (by (first | lia | omega)))) ?_
      exact ⟨g, q1, by (first | lia | omega), q3⟩
    · rw [if_neg e1]
      have e2 : n = 1 := by (first | lia | omega)
      subst e2
      have hlt : key (p.getD 1 0) < key (p.getD 0 0) := by
        rcases q4 with q | q
        · (first | lia | omega)
        · exact q
      unfold kas_descPart
      refine sat_bind (sat_mono (fun r q => ?_) (sat_desc hk g (N - (1 + 1)) (1 + 1) (by (first | lia | omega)) (by (first | lia | omega)) fun a b h1 h2 => ?_))
      · obtain ⟨r1, r2, r3, r4, r5⟩ := q
        rw [if_neg (by (first | lia | omega)), r1]
        unfold kas_tail3
        have hs := g.size
        have u := up_rev (key := key) (p := p) (n := r.2.1) (by (first | lia | omega)) r4
        refine sat_bind (sat_mono (fun m q => ?_) (sat_asc hk (g.rev 0 r.2.1) (N - r.2.1) r.2.1 (by (first | lia | omega)) (by (first | lia | omega)) u))
        exact ⟨g.rev _ _, by show 1 ≤ m; (first | lia | omega), by show m ≤ N; (first | lia | omega), q.2.2.1⟩
      · have : a = 0 := by (first | lia | omega)
        have : b = 1 := by (first | lia | omega)
        subst a b
        exact hlt
theorem sat_place {p : Array Nat} (g : Good N p) {k : Nat} (hkN : k < N) (u : Up key p k) : ∀ (f l r : Nat), l ≤ r → r ≤ k → r - l ≤ f → (∀ a, a < l → key (p.getD a 0) < key (p.getD k 0)) → (∀ a, r ≤ a → a < k → key (p.getD k 0) < key (p.getD a 0)) →
    sat N (ltK key) (kas_place p k f l r) fun m => m ≤ k ∧ (∀ a, a < m → key (p.getD a 0) < key (p.getD k 0)) ∧ ∀ a, m ≤ a → a < k → key (p.getD k 0) < key (p.getD a 0)
  | 0, l, r, h1, h2, h3, h4, h5 => ⟨by (first | lia | omega), h4, fun a ha hb => h5 a (by (first | lia | omega)) hb⟩
  | f + 1, l, r, h1, h2, h3, h4, h5 => by
    unfold kas_place
    by_cases e : l ≥ r
    · rw [if_pos e]; exact ⟨by (first | lia | omega), h4, fun a ha hb => h5 a (by (first | lia | omega)) hb⟩
    · rw [if_neg e]
      have hm : (l + r) / 2 < r := by (first | lia | omega)
      have hm' : l ≤ (l + r) / 2 := by (first | lia | omega)
      by_cases c : key (p.getD k 0) < key (p.getD ((l + r) / 2) 0)
      · refine sat_yes (g.lt hkN) (g.lt (by (first | lia | omega))) (g.ne (by (first | lia | omega)) hkN (by (first | lia | omega))) (decide_eq_true c) ?_
        refine sat_place g hkN u f l _ hm' (by (first | lia | omega)) (by (first | lia | omega)) h4 fun a ha hb => ?_
        rcases Nat.lt_or_ge ((l + r) / 2) a with z | z
        · exact Int.lt_trans c (u _ _ z hb)
        · have : a = (l + r) / 2 := by (first | lia | omega)
          rw [this]; exact c
      · refine sat_no (g.lt hkN) (g.lt (by (first | lia | omega))) (g.ne (by (first | lia | omega)) hkN (by (first | lia | omega))) (decide_eq_false c) ?_
        have ne := g.kne hk (i := k) (j := (l + r) / 2) (by (first | lia | omega)) hkN (by (first | lia | omega))
        have c' : key (p.getD ((l + r) / 2) 0) < key (p.getD k 0) := by (first | lia | omega)
        refine sat_place g hkN u f _ r (by (first | lia | omega)) h2 (by (first | lia | omega)) (fun a ha => ?_) h5
        rcases Nat.lt_or_ge a ((l + r) / 2) with z | z
        · exact Int.lt_trans (u _ _ z (by (first | lia | omega))) c'
        · have : a = (l + r) / 2 := by (first | lia | omega)
          rw [this]; exact c'
theorem sat_bin : ∀ (f : Nat) {p : Array Nat} (g : Good N p) (k : Nat), k + f = N → Up key p k → sat N (ltK key) (kas_bin f p k) fun r => Good N r ∧ Up key r N
  | 0, p, g, k, h, u => ⟨g, by rw [show N = k by (first | lia | omega)]; exact u⟩
  | f + 1, p, g, k, h, u => by
    refine sat_bind (sat_mono (fun l q => ?_) (sat_place hk g (by (first | lia | omega)) u k 0 k (Nat.zero_le _) (Nat.le_refl _) (by (first | lia | omega)) (fun a ha => by (first | lia | omega)) fun a ha hb => by (first | lia | omega)))
    obtain ⟨q1, q2, q3⟩ := q
    refine sat_bin f (g.bub _ _) (k + 1) (by (first | lia | omega)) fun a b hab hb => ?_
    have hs := g.size
    have e : ∀ x, (bubble p k (k - l)).getD x 0 = if x = l then p.getD k 0 else if l < x ∧ x ≤ k then p.getD (x - 1) 0 else p.getD x 0 := fun x => by
      rw [Array.getD_eq_getD_getElem?, getElem?_bubble (by (first | lia | omega)) (k - l) (by (first | lia | omega)), show k - (k - l) = l by (first | lia | omega)]
      repeat' split
      all_goals rw [Array.getD_eq_getD_getElem?]
    rw [e a, e b]
    by_cases a1 : a = l
    · subst a1
      rw [if_pos rfl, if_neg (by (first | lia | omega)), if_pos (by (first | lia | omega))]
      exact q3 _ (by (first | lia | omega)) (by (first | lia | omega))
    · rw [if_neg a1]
      by_cases b1 : b = l
      · subst b1
        rw [if_neg (by (first | lia | omega)), if_pos rfl]
        exact q2 _ (by (first | lia | omega))
      · rw [if_neg b1]
        by_cases a2 : l < a
        · rw [if_pos (by (first | lia | omega)), if_pos (by (first | lia | omega))]
          exact u _ _ (by (first | lia | omega)) (by (first | lia | omega))
        · rw [if_neg (by (first | lia | omega))]
          by_cases b2 : l < b
          · rw [if_pos (by (first | lia | omega))]
            exact u _ _ (by (first | lia | omega)) (by (first | lia | omega))
          · rw [if_neg (by (first | lia | omega))]
            exact u _ _ (by (first | lia | omega)) (by (first | lia | omega))
theorem sat_sort (h2 : 2 ≤ N) : sat N (ltK key) (kas_sort N) fun p => Good N p ∧ Up key p N := by
  have g : Good N (List.toArray (List.range N)) := ⟨by simp⟩
  refine sat_bind (sat_mono (fun r q => ?_) (sat_count hk g h2))
  obtain ⟨q1, q2, q3, q4⟩ := q
  by_cases e : r.1 < N
  · rw [if_pos e]
    rw [show max r.1 1 = r.1 by (first | lia | omega)]
    exact sat_bin hk (N - r.1) q1 r.1 (by (first | lia | omega)) q4
  · rw [if_neg e]
    exact ⟨q1, by rw [show N = r.1 by (first | lia | omega)]; exact q4⟩
end
end
section
set_option Elab.async false
set_option maxRecDepth 100000
set_option linter.unusedVariables false
set_option maxHeartbeats 2000000
open PySem.Calls
section
variable {prog : Program} {w : World} {A : Around} {G : GData} {s : Shared} {E : Value → Shared → Prop}

/-- one owned list rewritten, all else as it stood -/
theorem step_own {s₀ s : Shared} {a : Addr} {h' : Heap} {tk : Nat} {xs : Array Value} {n : Nat} {c : String} (st : Step s₀ s) (t : TabOk s₀.heap) (h0 : s₀.heap.get? a = none) (e : s.heap.get? a = some (seqObj c xs n)) (hs : Heap.SameBut a s.heap h') : Step s₀ { s with heap := h', toks := tk } :=
  step_sameBut st (st.tab t) h0 (fun q => by obtain ⟨ps, e', _⟩ := t a q; rw [h0] at e'; cases e') (fun o e' vs hd => by rw [e] at e'; cases e'; cases hd) hs

theorem vals_good {N : Nat} {p : Array Nat} (g : Good N p) (vs : List Value) : (p.toList.map fun i => vs.getD i Value.none).length = N := by
  rw [List.length_map, Array.length_toList, g.size]

/-- `list.sort` without a key -/
theorem lsort_own {a : Addr} {vs : List Value} {n : Nat} {T : Value} {key : Nat → Int} {P : PySem.Fin → Shared → Prop} {s₀ : Shared} (st0 : Step s₀ s) (t0 : TabOk s₀.heap) (ha0 : s₀.heap.get? a = none) (ho : s.heap.get? a = some (seqObj "list" vs.toArray n)) (h2 : 2 ≤ vs.length) (h64 : vs.length < 64)
    (hT : ∀ s', Step s₀ s' → ∀ v ∈ vs, Looks (model prog w) s'.heap (typeOf v) T) (hT1 : (T != Value.type "tuple") = true) (hT2 : (T == T) = true)
    (hk : ∀ i j, i < vs.length → j < vs.length → i ≠ j → key i ≠ key j)
    (hlt : ∀ i j s' C, i < vs.length → j < vs.length → i ≠ j → Step s₀ s' → (∀ s'', Step s' s'' → C (ltK key i j) s'') → wpAny (model prog w) A (keyLt' oneType' (vs.getD i Value.none) (vs.getD j Value.none)) C (fun _ _ => False) s')
    (h : ∀ p s', Good vs.length p → Up key p vs.length → Step s₀ s' → s'.heap.IsList a (List.toArray (p.toList.map fun i => vs.getD i Value.none)) → P (.done (.ret .none)) s') :
    wpAny (model prog w) A (Builtin.«list.sort» ⟨[.ref a], []⟩) P E s := by
  have ha : a < s.heap.objs.size := Heap.lt_size ho
  obtain ⟨e1, ho1⟩ : ∃ e1, (s.heap.update a (Obj.mapSeq fun _ => (#[] : Array Value))).get? a = some (seqObj "list" #[] e1) := ⟨_, get?_update_seq ho fun _ => #[]⟩
  have st1 : Step s₀ { s with heap := s.heap.update a (Obj.mapSeq fun _ => (#[] : Array Value)) } := step_own (tk := s.toks) st0 t0 ha0 ho (Heap.SameBut.update ..)
  have st2 : Step s₀ { s with heap := ((s.heap.update a (Obj.mapSeq fun _ => (#[] : Array Value))).push (seqObj "tuple" vs.toArray 0)).push (seqObj "list" #[] 0) } := (st1.trans Step.push).trans Step.push
  have ho2 : (((s.heap.update a (Obj.mapSeq fun _ => (#[] : Array Value))).push (seqObj "tuple" vs.toArray 0)).push (seqObj "list" #[] 0)).get? a = some (seqObj "list" #[] e1) := Heap.get?_push_of_some _ (Heap.get?_push_of_some _ ho1)
  rw [list_sort_plain]
  refine wpAny_bind (listItems_at ho rfl ?_)
  refine wpAny_bind (listUpdate_at ho rfl ?_ (by rw [List.size_toArray, sizeLine_eq]; (first | lia | omega)) (Nat.zero_le _))
  refine wpAny_bind (seqEpoch_at ho1 rfl ?_)
  refine wpAny_bind (wpAny_newTuple ?_ (by show vs.length ≤ _; rw [sizeLine_eq]; (first | lia | omega)))
  refine wpAny_bind (wpAny_newList ?_ (Nat.zero_le _))
  refine wpAny_holding ?_
  show wpAny (model prog w) A _ P E { s with heap := ((s.heap.update a (Obj.mapSeq fun _ => (#[] : Array Value))).push (seqObj "tuple" vs.toArray 0)).push (seqObj "list" #[] 0) }
  generalize hs1 : ({ s with heap := ((s.heap.update a (Obj.mapSeq fun _ => (#[] : Array Value))).push (seqObj "tuple" vs.toArray 0)).push (seqObj "list" #[] 0) } : Shared) = s1 at st2
  have ho3 : s1.heap.get? a = some (seqObj "list" #[] e1) := by rw [← hs1]; exact ho2
  dsimp only
  have hn2 : ¬ vs.toArray.size < 2 := by rw [List.size_toArray]; (first | lia | omega)
  rw [if_neg hn2, if_neg hn2]
  refine wpAny_bind (kas_kind h2 (hT s1 st2) hT1 hT2 ?_)
  have hat : a ∉ tabs := fun q => by obtain ⟨ps, e', _⟩ := t0 a q; rw [ha0] at e'; cases e'
  refine wpAny_bind (wpAny_mono (kat_run (ks := vs) (vs := vs) (κ := oneType') (Q := fun st' s' => ∃ p : Array Nat, arrOf st' = p.map (kas_item (vs.toArray.zip vs.toArray)) ∧ failedOf st' = none ∧ Good vs.length p ∧ Up key p vs.length ∧ Step s1 s')
    rfl h2 h64 (G := fun p s' => Good vs.length p ∧ Up key p vs.length ∧ Step s1 s') (fun p' st' s' a1 a2 a3 a4 => ⟨p', a2, a3, a4⟩) ?_) ?_ fun _ _ e => e)
  · refine sat_wp (P := fun s' => Step s1 s') (Q' := fun p => Good vs.length p ∧ Up key p vs.length) (lq := ltK key) (fun i j s' C hi hj hij hst hC => ?_) (fun p s' q hst => ⟨q.1, q.2, hst⟩) _ s1 (sat_sort hk h2) (Step.refl _)
    exact hlt i j s' C hi hj hij (st2.trans hst) fun s'' h'' => hC s'' (hst.trans h'')
  · rintro ⟨⟨⟩, st'⟩ s' ⟨p, har, hf, hg, hu, hst⟩
    dsimp only
    have na : s'.heap.get? a = some (seqObj "list" #[] e1) := hst.keep a _ hat ho3
    have hout := kat_snds (ks := vs) (vs := vs) rfl har
    rw [hout]
    have hsz : (List.toArray (p.toList.map fun i => vs.getD i Value.none)).size = vs.length := by rw [List.size_toArray]; exact vals_good hg vs
    obtain ⟨c2, hc2⟩ : ∃ c2, (s'.heap.update a (Obj.mapSeq fun _ => List.toArray (p.toList.map fun i => vs.getD i Value.none))).get? a = some (seqObj "list" (List.toArray (p.toList.map fun i => vs.getD i Value.none)) c2) := ⟨_, get?_update_seq na fun _ => List.toArray (p.toList.map fun i => vs.getD i Value.none)⟩
    refine wpAny_bind (seqEpoch_at na rfl ?_)
    refine wpAny_bind (listUpdate_at na rfl ?_ (Nat.zero_le _) (Nat.le_trans (Nat.le_of_eq hsz) (by rw [sizeLine_eq]; (first | lia | omega))))
    rw [hf]
    simp only [bne_self_eq_false, Bool.false_eq_true, if_false]
    exact wpAny_pure (h p _ hg hu (step_own (tk := s'.toks) (st2.trans hst) t0 ha0 na (Heap.SameBut.update ..)) ⟨_, hc2, rfl, _, rfl⟩)

/-- `sorted`: the entries are laid in a list of its own, and that one is sorted -/
theorem sorted_shell {l : Addr} {vs : List Value} {kw : List (Str × Value)} {Q : Value → Shared → Prop} (hl : s.heap.IsList l vs.toArray) (h64 : vs.length < 64) (h1 : argsOk "sorted" ⟨[.ref l], kw⟩) (h2 : ∀ x, argsOk "list.sort" ⟨[.ref x], kw⟩)
    (body : ∀ D s₁ (P : PySem.Fin → Shared → Prop), Step s s₁ → s.heap.get? D = none → s₁.heap.get? D = some (seqObj "list" vs.toArray 0) → (∀ s₂, Q (.ref D) s₂ → P (.done (.ret .none)) s₂) →
      wpAny (model prog w) A.in1.in1 (Builtin.«list.sort» ⟨[.ref D], kw⟩) P E s₁) :
    wpAny (model prog w) A (call (.builtin "sorted") [.ref l] kw) Q E s := by
  have hz : vs.length ≤ sizeLine := by rw [sizeLine_eq]; (first | lia | omega)
  refine call_function_entry_kw kind_sorted plain_sorted entry_sorted h1 ?_
  unfold Builtin.«sorted»
  refine wpAny_bind (m := checkCount "sorted" 1 1 _) (wpAny_pure (wpAny_bind (collect_list hl ?_ hz)))
  have sub : ∀ b o, s.heap.get? b = some o → ((s.heap.push (seqObj "list" #[] 0)).update s.heap.objs.size (Obj.mapSeq (· ++ vs.toArray))).get? b = some o :=
    fun b o e => ((Heap.SameBut.update ..).2 b (Nat.ne_of_lt (Heap.lt_size e))).trans (Heap.get?_push_of_some _ e)
  have far : s.heap.get? ((s.heap.push (seqObj "list" #[] 0)).update s.heap.objs.size (Obj.mapSeq (· ++ vs.toArray))).objs.size = none :=
    Heap.get?_none_of_le (by rw [Heap.size_update, size_push']; exact Nat.le_succ _)
  revert sub far
  generalize (s.heap.push (seqObj "list" #[] 0)).update s.heap.objs.size (Obj.mapSeq (· ++ vs.toArray)) = H
  intro sub far
  refine wpAny_bind (wpAny_newList (wpAny_bind (wpAny_holding (wpAny_call_entry_kw slot_list_sort ⟨_, Heap.get?_push_size _ rfl, rfl⟩ entry_list_sort ?_ (h2 _)))) hz)
  exact body _ _ _ (Step.of_keeps (tk := s.toks) fun b o e => Heap.get?_push_of_some _ (sub b o e)) far (Heap.get?_push_size _ rfl) fun s₂ q => ⟨_, rfl, wpAny_pure ⟨_, rfl, q⟩⟩

theorem sorted_own {l : Addr} {vs : List Value} {T : Value} {key : Nat → Int} {Q : Value → Shared → Prop} (t0 : TabOk s.heap) (hl : s.heap.IsList l vs.toArray) (h2 : 2 ≤ vs.length) (h64 : vs.length < 64)
    (hT : ∀ s', Step s s' → ∀ v ∈ vs, Looks (model prog w) s'.heap (typeOf v) T) (hT1 : (T != Value.type "tuple") = true) (hT2 : (T == T) = true)
    (hk : ∀ i j, i < vs.length → j < vs.length → i ≠ j → key i ≠ key j)
    (hlt : ∀ i j s' C, i < vs.length → j < vs.length → i ≠ j → Step s s' → (∀ s'', Step s' s'' → C (ltK key i j) s'') → wpAny (model prog w) A.in1.in1 (keyLt' oneType' (vs.getD i Value.none) (vs.getD j Value.none)) C (fun _ _ => False) s')
    (h : ∀ D p s', Good vs.length p → Up key p vs.length → Step s s' → s.heap.get? D = none → s'.heap.IsList D (List.toArray (p.toList.map fun i => vs.getD i Value.none)) → Q (.ref D) s') :
    wpAny (model prog w) A (call (.builtin "sorted") [.ref l]) Q E s :=
  sorted_shell hl h64 (args_sorted1 _) (fun _ => args_list_sort _) fun D s₁ P st hD ho fin => lsort_own (s := s₁) (s₀ := s) st t0 hD ho h2 h64 hT hT1 hT2 hk hlt fun p s' hg hu hst hL => fin _ (h _ p s' hg hu hst hD hL)
end
end
section
set_option Elab.async false
set_option maxRecDepth 100000
set_option linter.unusedVariables false
set_option maxHeartbeats 2000000
open PySem.Calls
section
variable {prog : Program} {w : World} {A : Around} {G : GData} {s : Shared} {E : Value → Shared → Prop} {O : List Addr}
theorem InstK.but {h h' : Heap} {x C dx a : Addr} {v : Value} {c : String} {xs : Array Value} {n : Nat} (i : InstK h x C dx v) (e : h.get? a = some (seqObj c xs n)) (hs : Heap.SameBut a h h') : InstK h' x C dx v :=
  ⟨(hs.2 _ fun q => by have := i.x; rw [q, e] at this; cases this).trans i.x, (hs.2 _ fun q => by have := i.d; rw [q, e] at this; cases this).trans i.d⟩

/-- the state of the loop that makes the keys -/
structure Keys (s₀ : Shared) (a kS C : Addr) (e1 : Nat) (vs : List Value) (j : Nat) (s : Shared) : Prop where
  st : Step s₀ s
  a : s.heap.get? a = some (seqObj "list" #[] e1)
  k : ∃ ks c, s.heap.get? kS = some (seqObj "list" (List.toArray ks) c) ∧ ks.length = j ∧ ∀ i, i < j → ∃ x dx, ks.getD i Value.none = .ref x ∧ InstK s.heap x C dx (vs.getD i Value.none)

theorem tail_own {a kS : Addr} {s₀ : Shared} {st : SortSt} {e e1 : Nat} {ks out : List Value} {P : PySem.Fin → Shared → Prop} (t0 : TabOk s₀.heap) (hst : Step s₀ s) (ha0 : s₀.heap.get? a = none) (hk0 : s₀.heap.get? kS = none) (hne : a ≠ kS) (hout : (arrOf st).map (·.2) = List.toArray out) (hz : out.length < 64) (hkz : ks.length < 64) (hf : failedOf st = none)
    (na : s.heap.get? a = some (seqObj "list" #[] e1)) (nk : s.heap.get? kS = some (seqObj "list" (List.toArray ks) e))
    (h : ∀ s', Step s₀ s' → s'.heap.IsList a (List.toArray out) → P (.done (.ret .none)) s') : wpAny (model prog w) A (ksk_tail a false e1 (.ref kS) st) P E s := by
  obtain ⟨ck, hck⟩ : ∃ ck, (s.heap.update kS (Obj.mapSeq fun _ => (#[] : Array Value))).get? kS = some (seqObj "list" #[] ck) := ⟨_, get?_update_seq nk fun _ => #[]⟩
  have st1 := step_own (tk := s.toks) hst t0 hk0 nk (Heap.SameBut.update s.heap kS (Obj.mapSeq fun _ => (#[] : Array Value)))
  have na1 : (s.heap.update kS (Obj.mapSeq fun _ => (#[] : Array Value))).get? a = some (seqObj "list" #[] e1) := (Heap.get?_update_ne _ _ _ _ hne).trans na
  obtain ⟨c2, hc2⟩ : ∃ c2, ((s.heap.update kS (Obj.mapSeq fun _ => (#[] : Array Value))).update a (Obj.mapSeq fun _ => List.toArray out)).get? a = some (seqObj "list" (List.toArray out) c2) := ⟨_, get?_update_seq na1 fun _ => List.toArray out⟩
  unfold ksk_tail
  dsimp only
  rw [hout]
  refine wpAny_bind (listUpdate_at nk rfl ?_ (by rw [List.size_toArray, sizeLine_eq]; (first | lia | omega)) (Nat.zero_le _))
  refine wpAny_bind (wpAny_letGo ?_)
  refine wpAny_bind (seqEpoch_at na1 rfl ?_)
  simp only [Bool.false_eq_true, if_false]
  refine wpAny_bind (listUpdate_at na1 rfl ?_ (Nat.zero_le _) (by rw [List.size_toArray, sizeLine_eq]; (first | lia | omega)))
  rw [hf]
  simp only [bne_self_eq_false, Bool.false_eq_true, if_false]
  exact wpAny_pure (h _ (step_own (s := { s with heap := s.heap.update kS (Obj.mapSeq fun _ => (#[] : Array Value)) }) (tk := s.toks) st1 t0 ha0 na1 (Heap.SameBut.update ..)) ⟨_, hc2, rfl, _, rfl⟩)

theorem keyed_own {N : Addr → Prop} {a C fm : Addr} {om : Obj} {fdm : FuncData} {vs : List Value} {n k : Nat} {key : Nat → Int} {P : PySem.Fin → Shared → Prop} {s₀ : Shared} (hr : Room (k + 4) A) (gi : GI G s₀) (hO : OkO O s₀.heap) (K : KMade prog w G N s₀.heap fm C) (hfm : s₀.heap.get? fm = some om) (hdm : om.data = .func fdm)
    (hv : ∀ v ∈ vs, handedIn v = true) (st0 : Step s₀ s) (ha0 : s₀.heap.get? a = none) (ho : s.heap.get? a = some (seqObj "list" vs.toArray n)) (h2 : 2 ≤ vs.length) (h64 : vs.length < 64)
    (hk : ∀ i j, i < vs.length → j < vs.length → i ≠ j → key i ≠ key j)
    (hcall : ∀ i j A' s', i < vs.length → j < vs.length → Room (k + 1) A' → Step s₀ s' → codeAny (model prog w) A' (.call (.ref fm) ⟨[vs.getD i Value.none, vs.getD j Value.none], []⟩) (fun r s'' => ∃ z t, r = .ok (.ret (.int z t)) ∧ decide (z < 0) = ltK key i j ∧ Step s' s'') s')
    (h : ∀ p s', Good vs.length p → Up key p vs.length → Step s₀ s' → s'.heap.IsList a (List.toArray (p.toList.map fun i => vs.getD i Value.none)) → P (.done (.ret .none)) s') :
    wpAny (model prog w) A (ksk_tree a (.ref C) false) P E s := by
  have ha : a < s.heap.objs.size := Heap.lt_size ho
  have t0 := gi.tab
  have hat : a ∉ tabs := fun q => by obtain ⟨ps, e', _⟩ := t0 a q; rw [ha0] at e'; cases e'
  obtain ⟨e1, ho1⟩ : ∃ e1, (s.heap.update a (Obj.mapSeq fun _ => (#[] : Array Value))).get? a = some (seqObj "list" #[] e1) := ⟨_, get?_update_seq ho fun _ => #[]⟩
  have st1 : Step s₀ { s with heap := s.heap.update a (Obj.mapSeq fun _ => (#[] : Array Value)) } := step_own (tk := s.toks) st0 t0 ha0 ho (Heap.SameBut.update ..)
  have st1' : Step s₀ { s with heap := (s.heap.update a (Obj.mapSeq fun _ => (#[] : Array Value))).push (seqObj "tuple" vs.toArray 0) } := st1.trans Step.push
  have st2 : Step s₀ { s with heap := ((s.heap.update a (Obj.mapSeq fun _ => (#[] : Array Value))).push (seqObj "tuple" vs.toArray 0)).push (seqObj "list" #[] 0) } := st1'.trans Step.push
  have ho2 : (((s.heap.update a (Obj.mapSeq fun _ => (#[] : Array Value))).push (seqObj "tuple" vs.toArray 0)).push (seqObj "list" #[] 0)).get? a = some (seqObj "list" #[] e1) := Heap.get?_push_of_some _ (Heap.get?_push_of_some _ ho1)
  unfold ksk_tree
  refine wpAny_bind (listItems_at ho rfl ?_)
  refine wpAny_bind (listUpdate_at ho rfl ?_ (by rw [List.size_toArray, sizeLine_eq]; (first | lia | omega)) (Nat.zero_le _))
  refine wpAny_bind (seqEpoch_at ho1 rfl ?_)
  refine wpAny_bind (wpAny_newTuple ?_ (by show vs.length ≤ _; rw [sizeLine_eq]; (first | lia | omega)))
  refine wpAny_bind (wpAny_newList ?_ (Nat.zero_le _))
  refine wpAny_holding ?_
  have hsz : ((s.heap.update a (Obj.mapSeq fun _ => (#[] : Array Value))).push (seqObj "tuple" vs.toArray 0)).objs.size = s.heap.objs.size + 1 := by rw [size_push', Heap.size_update]
  have hkn : ((s.heap.update a (Obj.mapSeq fun _ => (#[] : Array Value))).push (seqObj "tuple" vs.toArray 0)).get? (s.heap.objs.size + 1) = none := by rw [← hsz]; exact get?_size _
  have hk2 : (((s.heap.update a (Obj.mapSeq fun _ => (#[] : Array Value))).push (seqObj "tuple" vs.toArray 0)).push (seqObj "list" #[] 0)).get? (s.heap.objs.size + 1) = some (seqObj "list" (List.toArray []) 0) := by rw [← hsz]; exact Heap.get?_push_size _ rfl
  show wpAny (model prog w) A (ksk_rest a (.ref C) false vs.toArray e1 (.ref ((s.heap.update a (Obj.mapSeq fun _ => (#[] : Array Value))).push (seqObj "tuple" vs.toArray 0)).objs.size)) P E { s with heap := ((s.heap.update a (Obj.mapSeq fun _ => (#[] : Array Value))).push (seqObj "tuple" vs.toArray 0)).push (seqObj "list" #[] 0) }
  rw [hsz]
  have hne : a ≠ s.heap.objs.size + 1 := Nat.ne_of_lt (Nat.lt_succ_of_lt ha)
  have hk0 : s₀.heap.get? (s.heap.objs.size + 1) = none := by
    cases e : s₀.heap.get? (s.heap.objs.size + 1) with
    | none => rfl
    | some o =>
      by_cases q : s.heap.objs.size + 1 ∈ tabs
      · have hh := st1'.keep
        obtain ⟨ps, e', _⟩ := (st1'.tab t0) _ q
        rw [hkn] at e'; cases e'
      · have := st1'.keep _ o q e
        rw [hkn] at this; cases this
  have I0 : Keys s₀ a (s.heap.objs.size + 1) C e1 vs 0 { s with heap := ((s.heap.update a (Obj.mapSeq fun _ => (#[] : Array Value))).push (seqObj "tuple" vs.toArray 0)).push (seqObj "list" #[] 0) } := ⟨st2, ho2, [], 0, hk2, rfl, fun i hi => absurd hi (Nat.not_lt_zero _)⟩
  generalize s.heap.objs.size + 1 = kS at hne hk0 I0 ⊢
  generalize ({ s with heap := ((s.heap.update a (Obj.mapSeq fun _ => (#[] : Array Value))).push (seqObj "tuple" vs.toArray 0)).push (seqObj "list" #[] 0) } : Shared) = s1 at I0 ⊢
  have hkt : kS ∉ tabs := fun q => by obtain ⟨ps, e', _⟩ := t0 kS q; rw [hk0] at e'; cases e'
  unfold ksk_rest
  refine wpAny_bind (wpAny_rule ?_)
  rw [List.forIn_toArray]
  refine wpAny_bind (ksk_fold (fun j s' => Keys s₀ a kS C e1 vs j s') vs 0 s1 I0 (fun j x s' hx I => ?_) (fun sK I => ?_))
  · rw [Nat.zero_add] at I ⊢
    have hj : j < vs.length := (List.getElem?_eq_some_iff.mp hx).1
    have hxd : vs.getD j Value.none = x := by rw [List.getD_eq_getElem?_getD, hx]; rfl
    obtain ⟨st, na, ks, c, nk, hlen, hks⟩ := I
    have gi' := gi.step st
    refine wpAny_bind (wpAny_attempt (wpAny_call (codeAny_mono (make_inst (O := O) hr gi' (hO.step gi st) (K.step t0 st)) fun r s'' q => ?_)))
    obtain ⟨y, dy, rfl, sty, Iy⟩ := q
    have na' := sty.keep _ _ hat na
    have nk' := sty.keep _ _ hkt nk
    have ea : (List.toArray ks).push (Value.ref y) = List.toArray (ks ++ [Value.ref y]) := by simp
    obtain ⟨c2, hc2⟩ : ∃ c2, (s''.heap.update kS (Obj.mapSeq (·.push (Value.ref y)))).get? kS = some (seqObj "list" (List.toArray (ks ++ [Value.ref y])) c2) := ⟨_, by rw [← ea]; exact get?_update_seq nk' (·.push (Value.ref y))⟩
    have hs := Heap.SameBut.update s''.heap kS (Obj.mapSeq (·.push (Value.ref y)))
    show wpAny _ _ (Builtin.List.listUpdate (.ref kS) (·.push (Value.ref y)) >>= fun _ => pure (ForInStep.yield PUnit.unit)) _ _ _
    refine wpAny_bind (listUpdate_at nk' rfl ?_ (by rw [List.size_toArray, sizeLine_eq]; (first | lia | omega)) (Nat.le_trans (Nat.le_of_eq (Array.size_push ..)) (by rw [List.size_toArray, sizeLine_eq]; (first | lia | omega))))
    refine wpAny_pure ⟨rfl, step_own (tk := s''.toks) (st.trans sty) t0 hk0 nk' hs, (hs.2 _ hne).trans na', _, c2, hc2, by rw [List.length_append, hlen]; rfl, fun i hi => ?_⟩
    rcases Nat.lt_or_ge i j with q | q
    · obtain ⟨x', dx', e1', e2'⟩ := hks i q
      refine ⟨x', dx', ?_, (e2'.step gi'.tab sty).but nk' hs⟩
      rw [List.getD_eq_getElem?_getD, List.getElem?_append_left (by (first | lia | omega)), ← List.getD_eq_getElem?_getD]; exact e1'
    · have : i = j := by (first | lia | omega)
      subst this
      refine ⟨y, dy, ?_, ?_⟩
      · rw [List.getD_eq_getElem?_getD, List.getElem?_append_right (by (first | lia | omega)), hlen]; simp
      · rw [hxd]; exact Iy.but nk' hs
  · rw [Nat.zero_add] at I
    obtain ⟨st, na, ks, c, nk, hlen, hks⟩ := I
    refine wpAny_bind (listItems_at nk rfl ?_)
    unfold ksk_end
    dsimp only
    simp only [Bool.false_eq_true, if_false]
    have hn2 : ¬ vs.toArray.size < 2 := by rw [List.size_toArray]; (first | lia | omega)
    rw [if_neg hn2, if_neg hn2]
    have gi' := gi.step st
    refine wpAny_bind (kas_kind (T := .ref C) (by (first | lia | omega)) (fun v hv => ?_) (by rfl) (by simp) ?_)
    · obtain ⟨i, hi, rfl⟩ := List.getElem_of_mem hv
      obtain ⟨x', dx', e1', e2'⟩ := hks i (by (first | lia | omega))
      rw [List.getD_eq_getElem?_getD, List.getElem?_eq_getElem hi] at e1'
      rw [show ks[i] = .ref x' from e1']
      exact e2'.at.type
    refine wpAny_bind (wpAny_mono (kat_run (ks := ks) (vs := vs) (κ := oneType') (Q := fun st' s' => ∃ p : Array Nat, arrOf st' = p.map (kas_item ((List.toArray ks).zip vs.toArray)) ∧ failedOf st' = none ∧ Good vs.length p ∧ Up key p vs.length ∧ Step sK s')
      hlen h2 h64 (G := fun p s' => Good vs.length p ∧ Up key p vs.length ∧ Step sK s') (fun p' st' s' a1 a2 a3 a4 => ⟨p', a2, a3, a4.1, a4.2.1, a4.2.2⟩) ?_) ?_ fun _ _ e => e)
    · refine sat_wp (P := fun s'' => Step sK s'') (Q' := fun p => Good vs.length p ∧ Up key p vs.length) (lq := ltK key) (fun i j s'' C' hi hj hij hst hC => ?_) (fun p s'' q hst => ⟨q.1, q.2, hst⟩) _ sK (sat_sort hk h2) (Step.refl _)
      obtain ⟨x1, dx1, q1, i1⟩ := hks i hi
      obtain ⟨x2, dx2, q2, i2⟩ := hks j hj
      have gg := gi'.step hst
      have stt := st.trans hst
      have hv' : ∀ i, i < vs.length → handedIn (vs.getD i Value.none) = true := fun i hi => by
        rw [List.getD_eq_getElem?_getD, List.getElem?_eq_getElem hi]
        exact hv _ (List.getElem_mem hi)
      unfold kas_ask
      rw [q1, q2]
      exact lt_inst (O := O) (b := ltK key i j) (k := k + 1) hr gg (hO.step gi stt) (K.step t0 stt) (i1.step gi'.tab hst) (i2.step gi'.tab hst) (hv' i hi) (hv' j hj) (func_step t0 stt hfm hdm) hdm
        (fun A' s3 hr' h3 => hcall i j A' s3 hi hj hr' (stt.trans h3)) fun s3 h3 => hC s3 (hst.trans h3)
    · rintro ⟨⟨⟩, st'⟩ s'' ⟨p, har, hf, hg, hu, hst⟩
      dsimp only
      exact tail_own t0 (st.trans hst) ha0 hk0 hne (kat_snds hlen har) (by rw [vals_good hg vs]; exact h64) (by (first | lia | omega)) hf (hst.keep _ _ hat na) (hst.keep _ _ hkt nk) fun s3 h3 hL => h p s3 hg hu h3 hL
end
end
section
set_option Elab.async false
set_option maxRecDepth 100000
set_option linter.unusedVariables false
set_option maxHeartbeats 2000000
open PySem.Calls
section
variable {prog : Program} {w : World} {A : Around} {G : GData} {s : Shared} {E : Value → Shared → Prop} {O : List Addr}
theorem sortedK_own {N : Addr → Prop} {l C fm : Addr} {om : Obj} {fdm : FuncData} {vs : List Value} {k : Nat} {key : Nat → Int} {Q : Value → Shared → Prop} (hr : Room (k + 6) A) (gi : GI G s) (hO : OkO O s.heap) (K : KMade prog w G N s.heap fm C) (hfm : s.heap.get? fm = some om) (hdm : om.data = .func fdm)
    (hv : ∀ v ∈ vs, handedIn v = true) (hl : s.heap.IsList l vs.toArray) (h2 : 2 ≤ vs.length) (h64 : vs.length < 64)
    (hk : ∀ i j, i < vs.length → j < vs.length → i ≠ j → key i ≠ key j)
    (hcall : ∀ i j A' s', i < vs.length → j < vs.length → Room (k + 1) A' → Step s s' → codeAny (model prog w) A' (.call (.ref fm) ⟨[vs.getD i Value.none, vs.getD j Value.none], []⟩) (fun r s'' => ∃ z t, r = .ok (.ret (.int z t)) ∧ decide (z < 0) = ltK key i j ∧ Step s' s'') s')
    (h : ∀ D p s', Good vs.length p → Up key p vs.length → Step s s' → s.heap.get? D = none → s'.heap.IsList D (List.toArray (p.toList.map fun i => vs.getD i Value.none)) → Q (.ref D) s') :
    wpAny (model prog w) A (call (.builtin "sorted") [.ref l] [(Str.ofString "key", .ref C)]) Q E s := by
  refine sorted_shell hl h64 (ksk_s1 _ _) (fun _ => ksk_l1 _ _) fun D s₁ P st hD ho fin => ?_
  rw [ksk_t1]
  exact keyed_own (O := O) (s₀ := s) (k := k) hr.in1.in1 gi hO K hfm hdm hv st hD ho h2 h64 hk hcall fun p s' hg hu hst hL => fin _ (h _ p s' hg hu hst hD hL)
end
end
section
set_option Elab.async false
set_option maxRecDepth 100000
set_option linter.unusedVariables false
set_option maxHeartbeats 2000000
open PySem.Calls PySem.SeqAt
open AutoSeq1 (wpAny_loadPart')
open MeetsSeq MeetsSeq2 MeetsSeq3 SeqRoads2

/-- the smaller of two lists, where their first entries differ -/
noncomputable def LtAt (A : Around) (s : Shared) (y x : Value) (b : Bool) : Prop :=
  ∀ (prog : Program) (w : World) (E : Value → Shared → Prop) (Q : Value → Shared → Prop), Q (.bool b) s → wpAny (model prog w) A (richCompare .Lt y x) Q E s

theorem lt_loopAt (l b : Addr) (x y : Value) (xs ys : Array Value) (n n2 : Nat) (dd dd2 : Option Addr) (sl sl2 : Array (Option Value)) (r : Bool) (hx : xs[0]? = some x) (hy : ys[0]? = some y) :
    Meets (Builtin.«list.__eq__.loop» ⟨[.ref l, .ref b, rawInt 0, rawInt 0], []⟩)
      (fun A R s => s.heap.get? l = some { cls := .type "list", dict := dd, data := .seq xs n, slots := sl } ∧ s.heap.get? b = some { cls := .type "list", dict := dd2, data := .seq ys n2, slots := sl2 } ∧
        EqAt A.in1 s x y false ∧ LtAt A.in1 s x y r ∧ R (.ok (.ret (.bool r))) s) := by
  intro prog w A R s h
  obtain ⟨hp, g, d, tk, os⟩ := s; obtain ⟨hl, hb, he, hlt, h⟩ := h
  wp_walk using wpAny_loadPart' hl, wpAny_loadPart' hb
  have hi1 : xs[((0 : Nat) : Int).toNat]? = some x := hx
  have hi2 : ys[((0 : Nat) : Int).toNat]? = some y := hy
  have hi1' : xs[(0 : Int).toNat]? = some x := hx
  have hi2' : ys[(0 : Int).toNat]? = some y := hy
  rw [hi1', hi2']
  refine wpAny_bind (he prog w _ _ ?_)
  wp_walk using wpAny_loadPart' hl, wpAny_loadPart' hb
  rw [hi1', hi2']
  refine wpAny_bind (hlt prog w _ _ ?_)
  wp_walk
  exact h

theorem list_ltAt (l b : Addr) (x y : Value) (xs ys : Array Value) (n n2 : Nat) (dd dd2 : Option Addr) (sl sl2 : Array (Option Value)) (r : Bool) (hx : xs[0]? = some x) (hy : ys[0]? = some y) :
    Meets (Builtin.«list.__lt__» ⟨[.ref l, .ref b], []⟩)
      (fun A R s => s.heap.get? l = some { cls := .type "list", dict := dd, data := .seq xs n, slots := sl } ∧ s.heap.get? b = some { cls := .type "list", dict := dd2, data := .seq ys n2, slots := sl2 } ∧
        EqAt A.in1 s x y false ∧ LtAt A.in1 s x y r ∧ R (.ok (.ret (.bool r))) s) := by
  intro prog w A R s h
  obtain ⟨hp, g, d, tk, os⟩ := s; obtain ⟨hl, hb, he, hlt, h⟩ := h
  have f3 := AutoSeq1.sub_list_list
  wp_walk using wpAny_loadPart' hl, wpAny_loadPart' hb
  exact ⟨plainId_quiet plain_eq_loop _, codeAny_builtin entry_eq_loop (by
    rw [Around.under_plainId plain_eq_loop _]
    exact lt_loopAt l b x y xs ys n n2 dd dd2 sl sl2 r hx hy prog w A R _ ⟨hl, hb, he, hlt, h⟩)⟩

section
variable {A : Around} {s : Shared}
theorem LtAt.int {i j : Int} {t u : Tok} : LtAt A s (.int i t) (.int j u) (decide (i < j)) := fun prog w E Q h =>
  show wpAny (model prog w) A (compareOp .Lt (.int i t) (.int j u)) Q E s from PyProof.Rows.lt_int h
theorem EqAt.int {i j : Int} {t u : Tok} : EqAt A s (.int i t) (.int j u) (i == j) := fun prog w E Q h => wpAny_eqBool_int h
theorem LtAt.lists {l b : Addr} {xs ys : Array Value} {x y : Value} {r : Bool} (hl : s.heap.IsList l xs) (hb : s.heap.IsList b ys) (hx : xs[0]? = some x) (hy : ys[0]? = some y) (hu : A.units < cLine) (he : EqAt A.in1 s x y false) (hlt : LtAt A.in1 s x y r) :
    LtAt A s (.ref l) (.ref b) r := fun prog w E Q h => by
  obtain ⟨⟨cls, dd, data, sl⟩, ho, hc, n, hd⟩ := id hl
  obtain ⟨⟨cls2, dd2, data2, sl2⟩, ho2, hc2, n2, hd2⟩ := id hb
  simp only at hc hd hc2 hd2
  subst hc hd hc2 hd2
  exact richCompare_meets_room (op := .Lt) ⟨_, ho, rfl⟩ ⟨_, ho2, rfl⟩ F.slot_list_lt F.entry_list_lt (F.args_list_lt_2 _ _) (list_ltAt l b x y xs ys n n2 dd dd2 sl sl2 r hx hy)
    ⟨ho, ho2, he, hlt, show Value.bool r ≠ Value.notImplemented ∧ Q (.bool r) s from ⟨(fun x => nomatch x), h⟩⟩ hu
/-- the sort's own question -/
theorem keyLt_lists {prog : Program} {w : World} {l b : Addr} {xs ys : Array Value} {x y : Value} {r : Bool} {Q : Bool → Shared → Prop} {E : Value → Shared → Prop} (hl : s.heap.IsList l xs) (hb : s.heap.IsList b ys) (hx : xs[0]? = some x) (hy : ys[0]? = some y) (hu : A.units < cLine) (he : EqAt A.in1 s x y false) (hlt : LtAt A.in1 s x y r)
    (h : Q r s) : wpAny (model prog w) A (keyLt' oneType' (.ref l) (.ref b)) Q E s := by
  obtain ⟨⟨cls, dd, data, sl⟩, ho, hc, n, hd⟩ := id hl
  obtain ⟨⟨cls2, dd2, data2, sl2⟩, ho2, hc2, n2, hd2⟩ := id hb
  simp only at hc hd hc2 hd2
  subst hc hd hc2 hd2
  rw [keyLt'_oneType, oneLt'_eq]
  simp only [if_true]
  refine wpAny_bind (wpAny_cRoomFor hu ?_)
  refine wpAny_bind (wpAny_callSpecialIfBound?_slot ⟨_, ho, rfl⟩ F.slot_list_lt (call_meets F.slot_list_lt ⟨_, ho, rfl⟩ F.entry_list_lt (F.args_list_lt_2 _ _) (list_ltAt l b x y xs ys n n2 dd dd2 sl sl2 r hx hy) ⟨ho, ho2, he, hlt, ?_⟩))
  exact wpAny_truthy_bool h

/-- two pairs, their first numbers apart -/
theorem keyLt_pairs {prog : Program} {w : World} {O : List Addr} {va vb : Value} {a1 b1 : Int} {ra rb ta tb : List D} {Q : Bool → Shared → Prop} {E : Value → Shared → Prop} (hlen : ra.length = rb.length) (hu : A.units + 5 < cLine) (ha : Rep O s.heap (.list (.list (.int a1 :: ra) :: ta)) va) (hb : Rep O s.heap (.list (.list (.int b1 :: rb) :: tb)) vb) (hne : a1 ≠ b1)
    (hra : ∀ d ∈ ra, ∃ i, d = .int i) (hrb : ∀ d ∈ rb, ∃ i, d = .int i)
    (h : Q (decide (a1 < b1)) s) : wpAny (model prog w) A (keyLt' oneType' va vb) Q E s := by
  rw [Rep] at ha hb
  obtain ⟨l, vs, rfl, _, hl, hr⟩ := ha
  obtain ⟨l', vs', rfl, _, hl', hr'⟩ := hb
  rw [Reps] at hr hr'
  obtain ⟨x, xs, rfl, hx, _⟩ := hr
  obtain ⟨y, ys, rfl, hy, _⟩ := hr'
  rw [Rep] at hx hy
  obtain ⟨p, us, rfl, _, hp, hru⟩ := hx
  obtain ⟨q, us', rfl, _, hq, hru'⟩ := hy
  have hln := hru.length
  have hln' := hru'.length
  rw [Reps] at hru hru'
  obtain ⟨i, is, rfl, hi, his⟩ := hru
  obtain ⟨j, js, rfl, hj, hjs⟩ := hru'
  rw [Rep] at hi hj
  obtain ⟨t, rfl⟩ := hi
  obtain ⟨t', rfl⟩ := hj
  have hpq : p ≠ q := fun z => by
    subst z
    obtain ⟨o, e, _, n, d1⟩ := hp
    obtain ⟨o', e', _, n', d2⟩ := hq
    rw [e] at e'; cases e'
    rw [d1] at d2; cases d2
    exact hne rfl
  have hnts : ∀ {ds : List D} {vs : List Value}, (∀ d ∈ ds, ∃ i, d = .int i) → Reps O s.heap ds vs → ∀ k (hk : k < vs.length), ∃ i t, vs[k] = .int i t := fun {ds} => by
    induction ds with
    | nil => intro vs _ r k hk; rw [Reps] at r; subst r; simp at hk
    | cons d ds ih =>
      intro vs hd r k hk
      rw [Reps] at r
      obtain ⟨v, t, rfl, h1, h2⟩ := r
      cases k with
      | zero =>
        obtain ⟨i, rfl⟩ := hd d (.head _)
        rw [Rep] at h1
        obtain ⟨t, rfl⟩ := h1
        exact ⟨i, t, rfl⟩
      | succ k => exact ih (fun d hd' => hd d (.tail _ hd')) h2 k (by simpa using hk)
  have eqs : ∃ e : Nat → Bool, e 0 = false ∧ ∀ k (h1 : k < (Value.int a1 t :: is).length) (h2 : k < (Value.int b1 t' :: js).length), EqAt A.in1.in1 s (Value.int a1 t :: is)[k] (Value.int b1 t' :: js)[k] (e k) := by
    refine ⟨fun k => match k with | 0 => false | k + 1 => if h : k < is.length ∧ k < js.length then (match is[k]'h.1, js[k]'h.2 with | .int a _, .int b _ => a == b | _, _ => false) else false, rfl, fun k h1 h2 => ?_⟩
    cases k with
    | zero =>
      have := EqAt.int (A := A.in1.in1) (s := s) (i := a1) (j := b1) (t := t) (u := t')
      rw [show (a1 == b1) = false by simpa using hne] at this
      exact this
    | succ k =>
      have k1 : k < is.length := by simpa using h1
      have k2 : k < js.length := by simpa using h2
      obtain ⟨i', t1, e1⟩ := hnts hra his k k1
      obtain ⟨j', t2, e2⟩ := hnts hrb hjs k k2
      dsimp only
      rw [dif_pos ⟨k1, k2⟩]
      simp only [List.getElem_cons_succ, e1, e2]
      exact EqAt.int
  obtain ⟨e, e0, he⟩ := eqs
  refine keyLt_lists hl hl' rfl rfl (by omega) (EqAt.of_refs hpq ?_) (LtAt.lists hp hq rfl rfl (by show A.units + 1 < cLine; omega) ?_ LtAt.int) h
  · have hsz : (Value.int a1 t :: is).toArray.size = (Value.int b1 t' :: js).toArray.size := by
      simp only [List.size_toArray]; rw [hln, hln']; simp [hlen]
    have := RcAt.lists (A := A.in1) (e := e) hp hq hsz (by show A.units + 1 < cLine; omega) (fun k h1 h2 => he k (by simpa using h1) (by simpa using h2))
    have z : (List.range (Value.int a1 t :: is).toArray.size).all e = false := by
      rw [List.all_eq_false]
      exact ⟨0, by simp, by simp [e0]⟩
    rw [z] at this
    exact this
  · have := EqAt.int (A := A.in1.in1) (s := s) (i := a1) (j := b1) (t := t) (u := t')
    rw [show (a1 == b1) = false by simpa using hne] at this
    exact this
end
end
section
section
variable {F : Fm} {ρ : List (Str × D)} {Cs : List (Addr × List D)}
/-- a call of a function that is a variable -/
theorem Ev.callFn {f : Addr} {o : Obj} {fd : FuncData} {n : Str} {np pos : Pos} {e : Expr} {es : List Expr} {ds : List D} {d : D} (hf : Ev prog w A G F ρ Cs (.Name n np) (.raw (.ref f))) (ho : F.base.heap.get? f = some o) (hd : o.data = .func fd)
    (ha : Evs prog w A G F ρ Cs (e :: es) ds) (h : ∀ s vs, GI G s → OkO F.O s.heap → Step F.base s → Reps F.O s.heap ds vs → codeAny (model prog w) A (.call (.ref f) ⟨vs, []⟩) (Back F.O s d) s)
    (hc : eval (.Call (.Name n np) (e :: es) [] pos) F.env = (do callWith pos (← eval (.Name n np) F.env) [] (backTo pos (starEach (e :: es) F.env)) (backToKw pos (keywordEach [] F.env))) := by first | rfl | with_unfolding_all rfl)
    (he : starEach (e :: es) F.env = (false, eval e F.env) :: starEach es F.env := by first | rfl | with_unfolding_all rfl) : Ev prog w A G F ρ Cs (.Call (.Name n np) (e :: es) [] pos) d := fun s I =>
  Call_ (wpAny_mono (hf s I) (fun fv s₁ x => by
    obtain ⟨st, r⟩ := x
    rw [Rep] at r; subst r
    refine callWith_def hd (wpAny_mono (ha s₁ pos (I.go st)) (fun vs s₂ y => ?_) fun _ _ e => e) he
    have I₂ := (I.go st).go y.1
    exact ⟨func_step I.gb.tab I₂.step ho hd, wpAny_call (codeAny_mono (h s₂ vs I₂.gi I₂.okO I₂.step y.2) fun r s' q => by obtain ⟨v, rfl, st', rr⟩ := q; exact ⟨(st.trans y.1).trans st', rr⟩)⟩) fun _ _ e => e) hc

/-- a for over an iterator that is a variable -/
theorem x_forI (ρs ρt : Nat → List (Str × D)) {it : Value} {ds : List D} {x : Str} {px : Pos} {iter : Expr} {body : List Stmt} {pos : Pos} {b₀ b₁ : Shared} {St : Nat → Shared → Prop} {rest : List Stmt} {Q : Flow → Shared → Prop} (I : Inv G F (ρs 0) [] s) (hfree : Free F)
    (hb : Step F.base b₀) (ok : ItOk prog w A G F.O b₀ b₁ it ds St True) (h0 : St 0 s) (hi : wpAny (model prog w) A (eval iter F.env) (fun v s' => v = it ∧ s' = s) noE s)
    (hp : MayPut F x) (hput : ∀ i d, ds[i]? = some d → PutTo x d (ρs i) (ρt i))
    (turn : ∀ P i d s, ds[i]? = some d → Inv G (F.with P) (ρt i) [] s → wpAny (model prog w) A (execs body F.env) (fun f s₃ => (f = .next ∨ f = .cont) ∧ Inv G (F.with P) (ρs (i + 1)) [] s₃) noE s)
    (h : ∀ s', Inv G F (ρs ds.length) [] s' → wpAny (model prog w) A (execs rest F.env) Q noE s')
    (hs : ∀ x, foldedSetIterable iter F.env x = pure x := by intro _; first | rfl | with_unfolding_all rfl) :
    wpAny (model prog w) A (execs (.For (.Name x px) iter body [] pos :: rest) F.env) Q noE s := by
  refine wpAny_execs_cons (wpAny_For (wpAny_mono hi (fun v s₁ y => ?_) fun _ _ e => e) hs)
  obtain ⟨rfl, rfl⟩ := y
  refine wpAny_mono (ok.self 0 s₁ h0) (fun it s₂ z => ?_) fun _ _ e => e.elim
  obtain ⟨rfl, rfl⟩ := z
  refine codeAny_forLoop_any (fun n s' => ∃ i, i ≤ ds.length ∧ n = ds.length - i ∧ Inv G F (ρs i) [] s' ∧ St i s') ?_ ds.length ⟨0, Nat.zero_le _, rfl, I, h0⟩
  rintro n s' ⟨i, hi', rfl, I', hSt⟩
  have kf : ∀ s, F.kp s := hfree
  by_cases hlt : i < ds.length
  · have hd : ds[i]? = some ds[i] := by simp [hlt]
    refine wpAny_mono (ok.item i s' _ hd hSt I'.gi I'.okO) (fun r s₃ q => ?_) fun _ _ e => e.elim
    obtain ⟨v', rfl, nx, hSt', hR⟩ := q
    have I₃ : Inv G F (ρs i) [] s₃ := I'.nx hb nx (kf _)
    have I₄ : Inv G (F.with (St (i + 1))) (ρs i) [] s₃ := I₃.keeping hSt' (ok.go (i + 1)) (fun s a h' tk p hs _ k _ => ok.but (i + 1) s a h' tk p hs (.inl ⟨trivial, k⟩))
    refine wpAny_mono (ok.owned (i + 1) s₃ (.Name x px) v' hSt') (fun _ s₄ e => ?_) fun _ _ e => e.elim
    subst e
    refine wpAny_assign_Name (I₄.store (F := F.with (St (i + 1))) hp (hput i _ hd) (hR _ fun _ h => .inl h) fun s₅ I₅ => wpAny_mono (turn (St (i + 1)) i _ s₅ hd I₅) (fun f s₆ z => ?_) fun _ _ e => e.elim)
    obtain ⟨hf, I₆⟩ := z
    have key : ∃ m, m < ds.length - i ∧ ∃ j, j ≤ ds.length ∧ m = ds.length - j ∧ Inv G F (ρs j) [] s₆ ∧ St j s₆ :=
      ⟨ds.length - (i + 1), by omega, i + 1, by omega, rfl, I₆.forget (fun _ _ _ _ => kf _) (fun _ _ _ _ _ _ _ => kf _), I₆.kp.2⟩
    rcases hf with rfl | rfl <;> exact key
  · have : i = ds.length := by omega
    subst this
    refine wpAny_mono (ok.done s' hSt I'.gi I'.okO) (fun r s₃ q => ?_) fun _ _ e => e.elim
    obtain ⟨rfl, nx⟩ := q
    exact wpAny_execs_nil (h s₃ (I'.nx hb nx (kf _)))
end

theorem call_iter {v : Value} {Q : Value → Shared → Prop} {E : Value → Shared → Prop} (h : wpAny (model prog w) A.in1 (pyIter v) Q E s) : wpAny (model prog w) A (call (.builtin "iter") [v]) Q E s := by
  refine call_function_entry (by decide +kernel) (by decide +kernel) kdk_entry_iter (kdk_args_iter _) ?_
  unfold Builtin.«iter»
  refine wpAny_bind (m := someArgs "iter" 1 2 _) (wpAny_of_eq (a := [v]) (by first | rfl | kernel_rfl!) ?_)
  show wpAny _ _ (pyIter v >>= _) _ _ _
  exact wpAny_bind (wpAny_mono h (fun it s' q => wpAny_pure ⟨_, rfl, q⟩) fun _ _ e => e)

theorem Gr.im (g : Gr w G) : ∃ o, G.h.get? 131 = some o ∧ ∀ xs n, o.data ≠ .seq xs n := ⟨_, g.kin _ _ rfl, nofun⟩
theorem is_im (g : Gr w G) {ds : List D} : Op2 prog w A G O (compareOp .Is) (.list ds) (.raw (.ref 131)) (.bool false) := fun s v₁ v₂ gi _ r₁ r₂ => by
  rw [Rep] at r₁
  have r₂ : v₂ = .ref 131 := by simpa [Rep] using r₂
  obtain ⟨a, vs, rfl, _, ⟨o, e, hc, n, hd⟩, _⟩ := r₁
  subst r₂
  obtain ⟨o', e', h'⟩ := g.im
  have ne : a ≠ 131 := fun z => by rw [z, gi.keep _ _ e'] at e; cases e; exact h' _ _ hd
  show wpAny _ _ (do return Value.bool (← isSame (.ref a) (.ref 131))) _ _ _
  exact wpAny_bind (wpAny_isSame_ref_other ne e (gi.keep _ _ e') (by rw [hc]; decide) (wpAny_pure ⟨Step.refl s, rep_bool⟩))
end
section
theorem ItOk.of_in1 {b₀ b₁ : Shared} {it : Value} {ds : List D} {St : Nat → Shared → Prop} {fl : Prop} (x : ItOk prog w A.in1 G O b₀ b₁ it ds St fl) : ItOk prog w A G O b₀ b₁ it ds St fl where
  go := x.go
  but := x.but
  item := fun i s d h1 h2 h3 h4 => wpAny_of_in1 (x.item i s d h1 h2 h3 h4)
  done := fun s h1 h2 h3 => wpAny_of_in1 (x.done s h1 h2 h3)
  self := fun i s h => wpAny_of_in1 (x.self i s h)
  owned := fun i s t v h => wpAny_of_in1 (x.owned i s t v h)
  gens := x.gens
theorem spec_reduce (g : Gr w G) {k : Nat} (hr : Room (k + 2) A) {f : Addr} {o : Obj} {fd : FuncData} {ds es : List D} {acc : Nat → D} (ha0 : acc 0 = .list es) (hf : s.heap.get? f = some o) (hfd : o.data = .func fd) (gi : GI G s) (hO : OkO O s.heap) {vs : List Value} (hv : Reps O s.heap [.raw (.ref f), .list ds, acc 0] vs)
    (hstep : ∀ i d s' A' vs, ds[i]? = some d → Room k A' → GI G s' → OkO O s'.heap → Step s s' → Reps O s'.heap [acc i, d] vs → codeAny (model prog w) A' (.call (.ref f) ⟨vs, []⟩) (Back O s' (acc (i + 1))) s') :
    codeAny (model prog w) A (.call (.ref 139) ⟨vs, []⟩) (Back O s (acc ds.length)) s := by
  obtain ⟨v1, v2, v3, rfl, r1, r2, r3⟩ : ∃ v1 v2 v3, vs = [v1, v2, v3] ∧ Rep O s.heap (.raw (.ref f)) v1 ∧ Rep O s.heap (.list ds) v2 ∧ Rep O s.heap (acc 0) v3 := by
    rw [Reps] at hv
    obtain ⟨v1, t, rfl, h1, h2⟩ := hv
    obtain ⟨v2, v3, rfl, h3, h4⟩ := reps2 h2
    exact ⟨v1, v2, v3, rfl, h1, h3, h4⟩
  refine g.enter (f := 139) (binds := [(Str.ofString "function", v1), (Str.ofString "sequence", v2), (Str.ofString "initial", v3)]) (ρ := [(Str.ofString "function", .raw (.ref f)), (Str.ofString "sequence", .list ds), (Str.ofString "initial", acc 0)]) hr rfl rfl rfl (by dsimp only) (by kernel_rfl) rfl rfl rfl rfl rfl rfl gi hO
    ((BindsTo.of_defaults rfl (gi.keep _ _ (g.kin _ _ rfl)) rfl rfl rfl) _ _ _ _ ⟨rfl, rfl⟩) (.cons r1 (.cons r2 (.cons r3 .nil))) (by kernel_rfl) ?_
  intro fd' L s₁ hn I
  have hr' := hr.deeper (env := callEnvC fd' L 139)
  have hbase : Step s s₁ := I.step
  refine wpAny_execs_cons (wpAny_Assign_Name (Call_ (wpAny_mono (Gr.e_iter (F := fnFm fd' 139 L O s) (ρ := [(Str.ofString "function", .raw (.ref f)), (Str.ofString "sequence", .list ds), (Str.ofString "initial", acc 0)]) (C := []) g (kind_of hn (by kernel_rfl)) s₁ I) (fun fv s₂ x => ?_) fun _ _ e => e) (by with_unfolding_all rfl)))
  obtain ⟨st, r⟩ := x
  rw [Rep] at r; subst r
  have I₂ := I.go st
  refine callWith_builtin1 (wpAny_mono ((Evs.cons (Ev.name (x := Str.ofString "sequence") (d := .list ds) (F := fnFm fd' 139 L O s) (ρ := [(Str.ofString "function", .raw (.ref f)), (Str.ofString "sequence", .list ds), (Str.ofString "initial", acc 0)]) (C := []) (by walk_at "mem") (by decide)) Evs.nil) s₂ _ I₂) (fun vs s₃ y => ?_) fun _ _ e => e) (by with_unfolding_all rfl) (by with_unfolding_all rfl)
  obtain ⟨st₃, r⟩ := y
  obtain ⟨vq, rfl, rq⟩ := reps1 r
  have I₃ := I₂.go st₃
  refine call_iter (wpAny_mono (iters_list (A := (A.deeper (callEnvC fd' L 139)).in1) hr'.1 s₃ vq I₃.gi I₃.okO rq) (fun it s₄ z => ?_) fun _ _ e => e)
  obtain ⟨st₄, St, ok, h0⟩ := z
  replace ok := ok.of_in1
  have I₄ := I₃.go st₄
  have I₄' : Inv G ((fnFm fd' 139 L O s).with (St 0)) [(Str.ofString "function", .raw (.ref f)), (Str.ofString "sequence", .list ds), (Str.ofString "initial", acc 0)] [] s₄ := I₄.keeping h0 (ok.go 0) (fun s a h' tk p hs _ k _ => ok.but 0 s a h' tk p hs (.inl ⟨trivial, k⟩))
  refine I₄'.store (F := (fnFm fd' 139 L O s).with (St 0)) (d := .raw it) (ρ' := [(Str.ofString "function", .raw (.ref f)), (Str.ofString "sequence", .list ds), (Str.ofString "initial", acc 0), (Str.ofString "it", .raw it)]) (put_of (s := s) hn (by kernel_rfl)) (by walk_at "put") (by rw [Rep]) fun s₅ I₅ => ?_
  rw [ha0] at I₅
  refine x_if (F := (fnFm fd' 139 L O s).with (St 0)) (b := false) I₅ (Tr.cmp (by walk_at "ev") (by walk_at "gl") (is_im g)) (fun hb => absurd hb (by decide)) (fun _ s₆ I₆ => ?_)
  refine x_assign (F := (fnFm fd' 139 L O s).with (St 0)) (ρ' := [(Str.ofString "function", .raw (.ref f)), (Str.ofString "sequence", .list ds), (Str.ofString "initial", .list es), (Str.ofString "it", .raw it), (Str.ofString "value", .list es)]) I₆ (Ev.name (d := .list es) (by walk_at "mem") (by decide)) (put_of (s := s) hn (by kernel_rfl)) (by walk_at "put") fun s₇ I₇ => ?_
  refine x_nil ?_
  have h7 := I₇.kp.2
  have I₈ := I₇.forget (F := fnFm fd' 139 L O s) (fun _ _ _ _ => trivial) (fun _ _ _ _ _ _ _ => trivial)
  refine x_forI (F := fnFm fd' 139 L O s) (fun i => [(Str.ofString "function", .raw (.ref f)), (Str.ofString "sequence", .list ds), (Str.ofString "initial", .list es), (Str.ofString "it", .raw it), (Str.ofString "value", acc i)])
    (fun i => [(Str.ofString "function", .raw (.ref f)), (Str.ofString "sequence", .list ds), (Str.ofString "initial", .list es), (Str.ofString "it", .raw it), (Str.ofString "value", acc i), (Str.ofString "element", (ds[i]?).getD .none)])
    (by rw [ha0]; exact I₈) (fun _ => trivial) (hbase.trans (st.trans st₃)) ok h7 ?hi (put_of (s := s) hn (by kernel_rfl)) (fun i d hd => by simp only [hd, Option.getD_some]; walk_at "put") ?turn ?fin9
  case hi =>
    refine wpAny_Name (I₈.load (x := Str.ofString "it") (d := .raw it) (by walk_at "mem") fun v r => ?_) (by decide)
    rw [Rep] at r; exact ⟨r, rfl⟩
  case turn =>
    intro P i d s₈ hd J
    simp only [hd, Option.getD_some] at J
    refine x_assign (F := (fnFm fd' 139 L O s).with P) (ρ' := [(Str.ofString "function", .raw (.ref f)), (Str.ofString "sequence", .list ds), (Str.ofString "initial", .list es), (Str.ofString "it", .raw it), (Str.ofString "value", acc (i + 1)), (Str.ofString "element", d)]) J
      (Ev.callFn (F := (fnFm fd' 139 L O s).with P) (d := acc (i + 1)) (by walk_at "ev") hf hfd (by walk_at "evs") fun s₉ vs g₉ o₉ h₉ r₉ => hstep i d s₉ _ vs hd (hr'.le (Nat.le_succ k)) g₉ o₉ h₉ r₉) (put_of (s := s) hn (by kernel_rfl)) (by walk_at "put") fun s₉ J₉ => ?_
    refine x_nil ⟨.inl rfl, J₉.less ?_⟩
    exact .cons_cons _ (.cons_cons _ (.cons_cons _ (.cons_cons _ (.cons_cons _ (.cons _ .slnil)))))
  case fin9 =>
    intro s₈ J
    exact x_ret J (Ev.name (d := acc ds.length) (by walk_at "mem") (by decide)) fun s' v I' r => ⟨v, rfl, I'.step, r⟩
end
section
theorem codeRec_ext {h h' : Heap} {P : Addr} {p : Array Value} (e5 : h.get? P = some (tabObj p)) (t : TriplesOk p.toList) (k : Heap.ExtBut P h h') {v : Value} {q : Str} (x : h.CodeRec v q) : h'.CodeRec v q := by
  obtain ⟨c, o, vs, tt, e1, e2, e3, e4⟩ := x
  refine ⟨c, o, vs, tt, e1, k _ _ (fun z => ?_) e2, e3, e4⟩
  rw [z, e5] at e2; cases e2; cases e3
  exact TriplesOk_one t e4
theorem codeHd_ext {h h' : Heap} {P c P' : Addr} {p : Array Value} {q : Str} (e5 : h.get? P = some (tabObj p)) (t : TriplesOk p.toList) (k : Heap.ExtBut P h h') (x : CodeHd h c P') (r : h.CodeRec (.ref c) q) : CodeHd h' c P' := by
  obtain ⟨o, vs, file, tf, flags, tg, inF, text, tt, e1, e2, e3, rr⟩ := x
  obtain ⟨c₂, o₂, vs₂, t₂, a1, a2, a3, a4⟩ := r
  cases a1
  rw [e1] at a2; cases a2
  rw [e3] at a3; cases a3
  refine ⟨o, vs, file, tf, flags, tg, inF, text, tt, k _ _ (fun z => ?_) e1, e2, e3, rr⟩
  rw [z, e5] at e1; cases e1; cases e3
  exact TriplesOk_one t a4

/-- the table of the lambdas, grown by one -/
theorem step_tab175 {s : Shared} {h' : Heap} {tk : Nat} {ps : Array Value} {pos : Pos} {c' : Addr} (t : TabOk s.heap) (e : s.heap.get? 175 = some (tabObj ps)) (hnf : codeAmong pos ps.toList = none) (hx : Heap.ExtBut 175 s.heap h') (hrec : h'.CodeRec (.ref c') (tabQual 175)) (htb : h'.get? 175 = some (tabObj (ps ++ #[rawInt pos.line, rawInt pos.col, .ref c']))) :
    Step s { s with heap := h', toks := tk } := by
  obtain ⟨ps', e', t1, t2⟩ := t 175 (.tail _ (.head _))
  rw [e] at e'; cases e'
  refine ⟨fun b o hb q => hx b o (fun z => hb (by rw [z]; exact .tail _ (.head _))) q, fun _ => ?_, rfl, [], by simp, by simp⟩
  have hl : (ps ++ #[rawInt pos.line, rawInt pos.col, Value.ref c']).toList = ps.toList ++ [rawInt pos.line, rawInt pos.col, .ref c'] := by simp
  intro P hP
  simp only [tabs, List.mem_cons, List.not_mem_nil, or_false] at hP
  rcases hP with rfl | rfl
  · obtain ⟨p1, q1, q2, q3⟩ := t 125 (.head _)
    refine ⟨p1, hx _ _ (by decide) q1, q2, fun p v hv => ⟨codeRec_ext e t1 hx (q3 p v hv).1, fun z => ?_⟩⟩
    obtain ⟨c, P', ps'', rfl, k1, k2, k3, k4, k4', k5, k6⟩ := (q3 p v hv).2 z
    exact ⟨c, P', ps'', rfl, codeHd_ext e t1 hx k1 k5, hx _ _ k4' k2, k3, k4, k4', codeRec_ext e t1 hx k5, fun p hp => let ⟨cv, a, b⟩ := k6 p hp; ⟨cv, a, codeRec_ext e t1 hx b⟩⟩
  · refine ⟨_, htb, by rw [hl]; exact TriplesOk_snoc _ _ _ _ t1, fun p v hv => ⟨?_, fun z => absurd z (by decide)⟩⟩
    by_cases hne : ((pos.line : Int) == p.line && (pos.col : Int) == p.col) = true
    · have hpp : codeAmong p (ps ++ #[rawInt pos.line, rawInt pos.col, Value.ref c']).toList = codeAmong pos (ps ++ #[rawInt pos.line, rawInt pos.col, Value.ref c']).toList := by
        have key : ∀ l : List Value, codeAmong p l = codeAmong pos l := by
          intro l
          simp only [Bool.and_eq_true, beq_iff_eq] at hne
          fun_induction codeAmong p l with
          | case1 line _ col _ c rest hh => rw [codeAmong, if_pos (by rw [hne.1, hne.2]; exact hh)]
          | case2 line _ col _ c rest hh ih => rw [codeAmong, if_neg (by rw [hne.1, hne.2]; exact hh), ih]
          | case3 l hl =>
            unfold codeAmong
            split
            · rename_i a b c d e f; exact absurd rfl (hl a b c d e f)
            · rfl
        exact key _
      rw [hpp, hl, codeAmong_snoc _ t1 hnf] at hv
      rw [← (Option.some.inj hv)]; exact hrec
    · rw [hl, codeAmong_snoc_ne hne _ t1] at hv
      exact codeRec_ext e t1 hx (t2 p v hv).1

/-- a lambda, made -/
theorem ev_lambda (g : Gx w G) {F : Fm} {ρ : List (Str × D)} {Cs : List (Addr × List D)} {params : Arguments} {body : Expr} {scope : Scope} {pos : Pos} {clos : List (Str × Addr)} (I : Inv G F ρ Cs s) (hcode : F.env.code = .ref 179) (hq : F.env.qual ++ "<lambda>" = tabQual 175) (hclos : closureFor scope F.env = pure clos)
    (hdef : defaultsOf params F.env = ([], [])) :
    wpAny (model prog w) A (eval (.Lambda params body scope pos) F.env) (fun v s' => ∃ f o pm cdv ctv, v = .ref f ∧ Step s s' ∧ s'.heap.get? f = some o ∧ o.data = .func (kla_fn "<lambda>" (tabQual 175) params body scope clos pm cdv ctv) ∧ s'.heap.CodeRec cdv (tabQual 175)) noE s := by
  have gi := I.gi
  obtain ⟨ps, e, t1, t2⟩ := gi.tab 175 (.tail _ (.head _))
  refine kla_eval hdef ?_
  rw [hq]
  cases hc : codeAmong pos ps.toList with
  | none =>
    refine kla_makeFunction hclos I.glob (G.g.keeps gi.keep) hcode (g.toGr.hd175.keeps gi.keep) e t1 hc (by decide) (g.builtinsAt gi.keep e) fun c' ctv h' tk hx _ _ hrec htb => ?_
    have st := step_tab175 (tk := tk) gi.tab e hc hx hrec htb
    have kp : ∀ b o, h'.get? b = some o → (h'.push (kla_obj "<lambda>" (tabQual 175) params body scope clos ((G.mg "__name__").getD .none) c' ctv)).get? b = some o := fun b o q => Heap.get?_push_of_some _ q
    exact ⟨_, _, _, _, _, rfl, st.trans (Step.of_keeps (s := { s with heap := h', toks := tk }) (tk := tk) kp), Heap.get?_push_size _ rfl, rfl, hrec.keeps kp⟩
  | some cv =>
    refine kla_makeFunctionHit hclos I.glob (G.g.keeps gi.keep) hcode (g.toGr.hd175.keeps gi.keep) e t1 hc (g.builtinsAt gi.keep e) fun ctv h' tk hk _ => ?_
    have kp : ∀ b o, s.heap.get? b = some o → (h'.push { cls := .type "function", data := .func (kla_fn "<lambda>" (tabQual 175) params body scope clos ((G.mg "__name__").getD .none) cv ctv) }).get? b = some o := fun b o q => Heap.get?_push_of_some _ (hk b o q)
    exact ⟨_, _, _, _, _, rfl, Step.of_keeps kp, Heap.get?_push_size _ rfl, rfl, (t2 _ _ hc).1.keeps kp⟩
end
section
theorem KMade.but {N : Addr → Prop} {h h' : Heap} {a fm C : Addr} {oa : Obj} (k : KMade prog w G N h fm C) (ha : N a) (e : h.get? a = some oa) (hd : ∃ es ep, oa.data = .dict es ep) (hs : Heap.SameBut a h h') : KMade prog w G N h' fm C := by
  obtain ⟨K, DD, f1, f2, o1, o2, fd1, fd2, cm, a1, a2, a3, a4, a5, a6, a7, a8, a9, a10, a11⟩ := k.has
  exact kmade_but a1 (a11 a ha) e hd hs a2 a3 a4 a5 a6 a7 a8 a9 a10 a11

theorem lam_call {f : Addr} {o : Obj} {fd : FuncData} {body : Expr} {vs : List Value} {binds : List (Str × Value)} {ρ ρc : List (Str × D)} {d : D} {k : Nat} (hr : Room (k + 1) A)
    (hf : s.heap.get? f = some o) (hd : o.data = .func fd) (hcd : s.heap.CodeRec fd.code fd.qualname) (hbody : fd.body = .expr body) (hgl : fd.globals = mainGlobals) (hbl : fd.builtins = builtinsNs)
    (gi : GI G s) (hO : OkO O s.heap) (hbind : wpAny (model prog w) A.in1 (bindArgs fd ⟨vs, []⟩) (fun bs s₁ => bs = binds ∧ s₁ = s) noE s)
    (hb : BindsOk O s.heap binds ρ) (hc : ClosOk fd O s.heap ρc) (hnd : ((ρ ++ ρc).map (·.1)).Nodup) (hkind : (ρ.all fun x => fd.scope.names.lookup x.1 == some .local) = true) (hcell : (fd.scope.names.all fun p => p.2 != .cell) = true)
    (hap : fd.closure.Pairwise fun x y => x.2 ≠ y.2) (hk : fd.scope.kind = .function) (hco : fd.scope.isCoroutine = false) (hgen : fd.scope.isGenerator = false)
    (he : ∀ A', Room k A' → Ev prog w A' G (closFm fd f s.heap.objs.size O s) (ρ ++ ρc) [] body d) : codeAny (model prog w) A (.call (.ref f) ⟨vs, []⟩) (Back O s d) s := by
  refine enterE (O := O) hr.depth hf hd hcd hbody hgl hbl gi hO hbind hb hc hnd (fun x hx => by simpa using List.all_eq_true.mp hkind x hx) (fun x hx => by simpa using List.all_eq_true.mp hcell x hx) hap hk hco hgen fun s₁ old I => ?_
  exact wpAny_mono (he _ hr.deeper s₁ I) (fun v s' q => ⟨v, rfl, I.step.trans q.1, q.2⟩) fun _ _ e => e.elim

theorem reps_getD {h : Heap} : ∀ {ds : List D} {vs : List Value} {i : Nat}, Reps O h ds vs → i < ds.length → Rep O h (ds.getD i .none) (vs.getD i Value.none) := fun {ds vs i} r hi => by
  obtain ⟨v, e, hv⟩ := r.get (i := i) (d := ds[i]) (by simp [hi])
  rw [List.getD_eq_getElem?_getD, List.getD_eq_getElem?_getD, e, List.getElem?_eq_getElem hi]
  exact hv
theorem reps_map {h : Heap} {ds : List D} {vs : List Value} (r : Reps O h ds vs) : ∀ {l : List Nat}, (∀ i ∈ l, i < ds.length) → Reps O h (l.map fun i => ds.getD i .none) (l.map fun i => vs.getD i Value.none)
  | [], _ => Reps.nil
  | i :: l, hl => Reps.cons (reps_getD r (hl i (.head _))) (reps_map r fun j hj => hl j (.tail _ hj))

theorem good_mem {N : Nat} {p : Array Nat} (g : Good N p) : ∀ i ∈ p.toList, i < N := fun i hi => List.mem_range.mp (g.perm.mem_iff.mp hi)
theorem range_getD {α : Type} (xs : List α) (df : α) : (List.range xs.length).map (fun i => xs.getD i df) = xs := by
  apply List.ext_getElem
  · simp
  · intro i h1 h2
    simp only [List.getElem_map, List.getElem_range]
    rw [List.getD_eq_getElem?_getD, List.getElem?_eq_getElem h2]; rfl
theorem good_perm {α : Type} {xs : List α} {p : Array Nat} (g : Good xs.length p) (df : α) : (p.toList.map fun i => xs.getD i df).Perm xs := by
  have := g.perm.map (fun i => xs.getD i df)
  rwa [range_getD] at this
theorem up_pairwise {N : Nat} {key : Nat → Int} {p : Array Nat} (g : Good N p) (u : Up key p N) : p.toList.Pairwise fun i j => key i < key j := by
  rw [List.pairwise_iff_getElem]
  intro i j hi hj hij
  have hs := g.size
  have := u i j hij (by rw [← hs]; simpa using hj)
  have hi' : i < p.size := by simpa using hi
  have hj' : j < p.size := by simpa using hj
  simpa [Array.getD, hi', hj'] using this
theorem sorted_eq {α : Type} (m : α → Int) : ∀ {l₁ l₂ : List α}, l₁.Perm l₂ → l₁.Pairwise (fun a b => m a < m b) → l₂.Pairwise (fun a b => m a < m b) → l₁ = l₂
  | [], l₂, h, _, _ => by simpa using h.symm
  | a :: l₁, [], h, _, _ => by simpa using h
  | a :: l₁, b :: l₂, h, h1, h2 => by
    have ha := List.pairwise_cons.mp h1
    have hb := List.pairwise_cons.mp h2
    have e : a = b := by
      have m1 : a ∈ b :: l₂ := h.mem_iff.mp (.head _)
      have m2 : b ∈ a :: l₁ := h.mem_iff.mpr (.head _)
      rcases List.mem_cons.mp m1 with q | q
      · exact q
      · rcases List.mem_cons.mp m2 with q' | q'
        · exact q'.symm
        · have := hb.1 a q
          have := ha.1 b q'
          omega
    subst e
    rw [sorted_eq m (List.Perm.cons_inv h) ha.2 hb.2]
end
section
noncomputable def ledStep (b : Bool) (R : List D) (r : Rn) : List D := cut R none (some (lo r b)) ++ (rowsOf r (!b)).map .bytes ++ cut R (some (hi r b)) none
noncomputable def sdI (b : Bool) : Int := if b then 1 else 0
theorem cut_len {α : Type} (xs : List α) (a b : Option Int) : (cut xs a b).length ≤ xs.length := by
  unfold cut; rw [List.length_take, List.length_drop]; omega
noncomputable abbrev rn00 : Rn := ⟨0, 0, 0, 0, []⟩
noncomputable abbrev rdX (r : Rn) : D := .tuple [.list [.list [.int (lo r false), .int (hi r false)], .list [.int (lo r true), .int (hi r true)]], .list [.list [.int (lo r false), .int (hi r false)], .list [.int (lo r true), .int (hi r true)]], .list [.list ((rowsOf r false).map .bytes), .list ((rowsOf r true).map .bytes)]]
theorem rd_getD {rs : List Rn} {i : Nat} (h : i < rs.length) : (rs.map Rn.rd).getD i .none = rdX (rs.getD i rn00) := by
  rw [List.getD_eq_getElem?_getD, List.getElem?_map, List.getElem?_eq_getElem h, List.getD_eq_getElem?_getD, List.getElem?_eq_getElem h]
  rfl
theorem Gr.fn130 (g : Gr w G) : ∃ o fd, G.h.get? 130 = some o ∧ o.data = .func fd := ⟨_, _, g.kin _ _ rfl, rfl⟩
theorem Gr.fn139 (g : Gr w G) : ∃ o fd, G.h.get? 139 = some o ∧ o.data = .func fd := ⟨_, _, g.kin _ _ rfl, rfl⟩
theorem spec_led (g : Gx w G) (b : Bool) {k : Nat} {rs ts : List Rn} {R : List D} (hr : Room (k + 10) A) (h2 : 2 ≤ rs.length) (h64 : rs.length < 64) (hperm : ts.Perm rs) (hts : ts.Pairwise fun r r' => lo r' b < lo r b) (hnn : ∀ r ∈ rs, 0 ≤ lo r b ∧ 0 ≤ hi r b)
    (hz : ∀ i, i ≤ ts.length → ((ts.take i).foldl (ledStep b) R).length ≤ 1000) (hzr : ∀ r ∈ rs, (rowsOf r (!b)).length ≤ 1000) : CallOk prog w A G O (.ref 180) [.list R, .list (rs.map Rn.rd), .int (sdI b)] (.list (ts.foldl (ledStep b) R)) := by
  refine callOk_of fun s vs gi hO hR => ?_
  obtain ⟨v1, v2, v3, rfl, r1, r2, r3⟩ : ∃ v1 v2 v3, vs = [v1, v2, v3] ∧ Rep O s.heap (.list R) v1 ∧ Rep O s.heap (.list (rs.map Rn.rd)) v2 ∧ Rep O s.heap (.int (sdI b)) v3 := by
    rw [Reps] at hR
    obtain ⟨v1, t, rfl, h1, h2⟩ := hR
    obtain ⟨v2, v3, rfl, h3, h4⟩ := reps2 h2
    exact ⟨v1, v2, v3, rfl, h1, h3, h4⟩
  refine g.toGr.enterR (f := 180) (binds := [(Str.ofString "text", v1), (Str.ofString "read", v2), (Str.ofString "side", v3)]) (ρ := [(Str.ofString "text", .list R), (Str.ofString "read", .list (rs.map Rn.rd)), (Str.ofString "side", .int (sdI b))]) hr rfl rfl rfl (by dsimp only) rfl rfl (by kernel_rfl) rfl rfl rfl rfl rfl rfl gi hO (wpAny_pure ⟨rfl, rfl⟩) (.cons r1 (.cons r2 (.cons r3 .nil))) (by kernel_rfl) ?_
  intro fd L s₁ hn hq hc I
  have hr' := hr.deeper (env := callEnvC fd L 180)
  have hcells : cellsFrom (L + 1) fd.scope.names [] = [(Str.ofString "side", L + 1)] := by rw [hn]; rfl
  have hq' : (fnFm fd 180 L O s).env.qual ++ "<lambda>" = tabQual 175 := by
    show (fd.qualname ++ ".<locals>.") ++ "<lambda>" = tabQual 175
    rw [hq]; kernel_rfl
  refine wpAny_execs_cons (wpAny_Assign_Name (Call_ (wpAny_mono (Ev.glob (F := fnFm fd 180 L O s) (ρ := [(Str.ofString "text", .list R), (Str.ofString "read", .list (rs.map Rn.rd)), (Str.ofString "side", .int (sdI b))]) (C := []) g.toGr.g_ctk (kind_of hn (by kernel_rfl)) (by decide) s₁ I) (fun fv s₂ x => ?_) fun _ _ e => e) (by with_unfolding_all rfl)))
  obtain ⟨st, r⟩ := x
  rw [Rep] at r; subst r
  have I₂ := I.go st
  obtain ⟨oc, fdc, hoc, hdc⟩ := g.toGr.fn130
  refine callWith_def hdc (args_cons (wpAny_mono (ev_lambda g I₂ hc hq' (clos_of hcells rfl rfl) rfl) (fun v s₃ y => args_nil ?_) fun _ _ e => e) (by with_unfolding_all rfl)) (by with_unfolding_all rfl)
  obtain ⟨f, o, pm, cdv, ctv, rfl, st₃, ho, hfd, hrec⟩ := y
  have I₃ := I₂.go st₃
  refine ⟨I₃.gi.keep _ _ hoc, ?_⟩
  refine wpAny_call (codeAny_mono (spec_ctk g (O := O) (hr'.le (Nat.le_add_left 3 (k + 6))) I₃.gi I₃.okO) fun r s₄ q => ?_)
  obtain ⟨C, rfl, st₄, K⟩ := q
  have I₄ := I₃.go st₄
  obtain ⟨m₃, oL, esL, epL, eL, dL, _⟩ := I₃.ns
  have hNL : (∃ o es ep, s₃.heap.get? (fnFm fd 180 L O s).env.locals = some o ∧ o.data = .dict es ep) := ⟨oL, esL, epL, eL, dL⟩
  have eL₄ : s₄.heap.get? (fnFm fd 180 L O s).env.locals = some oL := st₄.keep _ _ I₃.offTab eL
  have hkl : (fnFm fd 180 L O s).env.kindOf (Str.ofString "last") = some .local := kind_of hn (by kernel_rfl)
  obtain ⟨m, hnL⟩ := I₄.ns
  refine wpAny_storeName_local hkl hnL (fun h₅ hn₅ hs₅ => ?_) (by rw [I₄.kind]; rfl)
  have I₅ := I₄.putLocal (tk := s₄.toks + 1) hkl (d := .raw (.ref C)) (v := .ref C) (ρ' := [(Str.ofString "text", .list R), (Str.ofString "read", .list (rs.map Rn.rd)), (Str.ofString "side", .int (sdI b)), (Str.ofString "last", .raw (.ref C))]) (by walk_at "put") (by rw [Rep]) hnL hn₅ hs₅
  have K₅ := K.but hNL eL₄ ⟨esL, epL, dL⟩ hs₅
  have ho₄ := func_step I₃.gi.tab st₄ ho hfd
  have ho₅ : h₅.get? f = some o := (hs₅.2 f fun z => by rw [z, eL₄] at ho₄; cases ho₄; rw [hfd] at dL; cases dL).trans ho₄
  have hrec₅ : h₅.CodeRec cdv (tabQual 175) := by
    obtain ⟨c, oc', vs', tt, e1, e2, e3, e4⟩ := codeRec_step I₃.gi.tab st₄ hrec
    exact ⟨c, oc', vs', tt, e1, (hs₅.2 c fun z => by rw [z, eL₄] at e2; cases e2; rw [e3] at dL; cases dL).trans e2, e3, e4⟩
  obtain ⟨vs₅, hv₅, hr₅⟩ := I₅.vars (Str.ofString "side", .int (sdI b)) (by walk_at "mem")
  generalize hS : ({ s₄ with heap := h₅, toks := s₄.toks + 1 } : Shared) = s₅ at I₅
  obtain ⟨N₀, K₅'⟩ : ∃ N, KMade prog w G N s₅.heap f C := ⟨_, by rw [← hS]; exact K₅⟩
  have ho₅' : s₅.heap.get? f = some o := by rw [← hS]; exact ho₅
  have hrec₅' : s₅.heap.CodeRec cdv (tabQual 175) := by rw [← hS]; exact hrec₅
  clear K₅ ho₅ hrec₅ hv₅ hr₅
  refine wpAny_execs_cons (wpAny_Assign_Name (wpAny_Call_Name_kw (wpAny_mono (Gr.e_sorted (F := fnFm fd 180 L O s) (ρ := [(Str.ofString "text", .list R), (Str.ofString "read", .list (rs.map Rn.rd)), (Str.ofString "side", .int (sdI b)), (Str.ofString "last", .raw (.ref C))]) (C := []) g.toGr (kind_of hn (by kernel_rfl)) s₅ I₅) (fun fv s₆ x => ?_) fun _ _ e => e)))
  obtain ⟨st₆, r⟩ := x
  rw [Rep] at r; subst r
  have I₆ := I₅.go st₆
  refine callWith_kw (wpAny_mono ((Evs.cons (Ev.name (x := Str.ofString "read") (d := .list (rs.map Rn.rd)) (F := fnFm fd 180 L O s) (ρ := [(Str.ofString "text", .list R), (Str.ofString "read", .list (rs.map Rn.rd)), (Str.ofString "side", .int (sdI b)), (Str.ofString "last", .raw (.ref C))]) (C := []) (by walk_at "mem") (by decide)) Evs.nil) s₆ _ I₆) (fun vs s₇ y => ?_) fun _ _ e => e) (by with_unfolding_all rfl) (by with_unfolding_all rfl) (by with_unfolding_all rfl) (by with_unfolding_all rfl)
  obtain ⟨st₇, r⟩ := y
  obtain ⟨vq, rfl, rq⟩ := reps1 r
  have I₇ := I₆.go st₇
  refine kws_cons (wpAny_mono (Ev.name (x := Str.ofString "last") (d := .raw (.ref C)) (F := fnFm fd 180 L O s) (ρ := [(Str.ofString "text", .list R), (Str.ofString "read", .list (rs.map Rn.rd)), (Str.ofString "side", .int (sdI b)), (Str.ofString "last", .raw (.ref C))]) (C := []) (by walk_at "mem") (by decide) s₇ I₇) (fun kv s₈ z => kws_nil ?_) fun _ _ e => e)
  obtain ⟨st₈, r8⟩ := z
  rw [Rep] at r8; subst r8
  have I₈ := I₇.go st₈
  have st58 := (st₆.trans st₇).trans st₈
  have K₈ := K₅'.step I₅.gi.tab st58
  have ho₈ := func_step I₅.gi.tab st58 ho₅' hfd
  have hrec₈ := codeRec_step I₅.gi.tab st58 hrec₅'
  have rq' := rq.step I₇.okO st₈
  rw [Rep] at rq'
  obtain ⟨l, us, rfl, hlO, hl, hru⟩ := rq'
  have hlen : us.length = rs.length := by rw [hru.length, List.length_map]
  show wpAny _ _ (call (.builtin "sorted") [.ref l] [(Str.ofString "key", .ref C)]) _ _ _
  obtain ⟨vsd, hv8, hr8⟩ := I₈.vars (Str.ofString "side", .int (sdI b)) (by walk_at "mem")
  have hcs : s₈.heap.IsCell (L + 1) (some vsd) := by
    have hkc : (callEnvC fd L 180).kindOf (Str.ofString "side") = some .cell := kind_of hn (by kernel_rfl)
    rcases hv8 with ⟨k1, _⟩ | ⟨_, c, e1, e2⟩
    · rw [show (callEnvC fd L 180).kindOf (Str.ofString "side") = some .local from k1] at hkc; cases hkc
    · have e : (cellsFrom (L + 1) fd.scope.names []).lookup (Str.ofString "side") = some c := e1
      rw [hcells] at e
      rw [Option.some.inj e]; exact e2
  have hdis : ∀ i j, i < us.length → j < us.length → i ≠ j → -(lo (rs.getD i rn00) b) ≠ -(lo (rs.getD j rn00) b) := fun i j hi hj hij => by
    have hp : rs.Pairwise fun r r' => lo r b ≠ lo r' b := (hperm.pairwise_iff (fun h q => h q.symm)).mp (hts.imp fun h => by omega)
    have hi' : i < rs.length := by omega
    have hj' : j < rs.length := by omega
    rw [List.getD_eq_getElem?_getD, List.getElem?_eq_getElem hi', List.getD_eq_getElem?_getD, List.getElem?_eq_getElem hj']
    simp only [Option.getD_some]
    rcases Nat.lt_or_gt_of_ne hij with q | q
    · have := List.pairwise_iff_getElem.mp hp i j hi' hj' q; omega
    · have := List.pairwise_iff_getElem.mp hp j i hj' hi' q; omega
  refine sortedK_own (O := O) (k := k + 3) (key := fun i => -(lo (rs.getD i rn00) b)) (hr'.le (by omega)) I₈.gi I₈.okO K₈ ho₈ hfd (fun v hv => ?hh) hl (by omega) (by omega) hdis (fun i j A' s' hi hj hrA hst => ?hcall) (fun D p s₉ hg hu st₉ hD hL => ?hsorted)
  case hh =>
    obtain ⟨i, hi, rfl⟩ := List.getElem_of_mem hv
    have := reps_getD hru (i := i) (by rw [List.length_map]; omega)
    rw [rd_getD (by omega), Rep] at this
    obtain ⟨a, xs, e, _⟩ := this
    rw [List.getD_eq_getElem?_getD, List.getElem?_eq_getElem hi] at e
    rw [show us[i] = .ref a from e]; rfl
  case hcall =>
    have gi' := I₈.gi.step hst
    have r1 := (reps_getD hru (i := i) (by rw [List.length_map]; omega)).step I₈.okO hst
    have r2 := (reps_getD hru (i := j) (by rw [List.length_map]; omega)).step I₈.okO hst
    rw [rd_getD (by omega)] at r1 r2
    refine codeAny_mono (lam_call (O := O) (d := .int (lo (rs.getD j rn00) b - lo (rs.getD i rn00) b)) (ρ := [(Str.ofString "one", rdX (rs.getD i rn00)), (Str.ofString "two", rdX (rs.getD j rn00))]) (ρc := [(Str.ofString "side", .int (sdI b))]) hrA (func_step I₈.gi.tab hst ho₈ hfd) hfd (codeRec_step I₈.gi.tab hst hrec₈) rfl rfl rfl gi' (I₈.okO.step I₈.gi hst) (wpAny_pure ⟨rfl, rfl⟩) (.cons r1 (.cons r2 .nil)) ?clos (by show ([Str.ofString "one", Str.ofString "two", Str.ofString "side"] : List Str).Nodup; decide) rfl rfl ?apart rfl rfl rfl (fun A'' hr'' => ?ev)) fun r s'' q => ?_
    case clos =>
      intro p hp
      simp only [List.mem_cons, List.not_mem_nil, or_false] at hp
      subst hp
      exact ⟨rfl, (by show (Str.ofString "side" == Str.ofString "__classdict__") = false; decide), L + 1, vsd, rfl, cell_step I₈.gi.tab hst hcs, hr8.step I₈.okO hst⟩
    case apart => exact List.pairwise_singleton ..
    case ev =>
      show Ev prog w A'' G _ [(Str.ofString "one", rdX (rs.getD i rn00)), (Str.ofString "two", rdX (rs.getD j rn00)), (Str.ofString "side", .int (sdI b))] [] _ _
      cases b
      · exact Ev.as (d := .int (lo (rs.getD j rn00) false - lo (rs.getD i rn00) false)) (by walk_at "ev") rfl
      · exact Ev.as (d := .int (lo (rs.getD j rn00) true - lo (rs.getD i rn00) true)) (by walk_at "ev") rfl
    obtain ⟨v, rfl, st'', rv⟩ := q
    rw [Rep] at rv
    obtain ⟨t, rfl⟩ := rv
    refine ⟨_, t, rfl, ?_, st''⟩
    show decide _ = decide _
    congr 1
    simp only [eq_iff_iff]
    constructor <;> intro h <;> omega
  case hsorted =>
    have I₉ := I₈.go st₉
    have hN : us.length = (rs.map Rn.rd).length := by rw [List.length_map]; exact hlen
    have hidx : ∀ i ∈ p.toList, i < rs.length := fun i hi => by have := good_mem hg i hi; omega
    have hreps := reps_map (hru.step I₈.okO st₉) (l := p.toList) fun i hi => by rw [List.length_map]; exact hidx i hi
    have hts' : (p.toList.map fun i => rs.getD i rn00) = ts := by
      rw [hlen] at hg hu
      refine sorted_eq (fun r => -(lo r b)) ((good_perm hg rn00).trans hperm.symm) ?_ (hts.imp fun h => by omega)
      rw [List.pairwise_map]
      exact up_pairwise hg hu
    have hmap : (p.toList.map fun i => (rs.map Rn.rd).getD i .none) = ts.map Rn.rd := by
      rw [← hts', List.map_map]
      exact List.map_congr_left fun i hi => rd_getD (hidx i hi)
    rw [hmap] at hreps
    have hRep : Rep O s₉.heap (.list (ts.map Rn.rd)) (.ref D) := by
      rw [Rep]; exact ⟨D, _, rfl, I₈.okO.fresh hD, hL, hreps⟩
    refine I₉.store (F := fnFm fd 180 L O s) (ρ' := [(Str.ofString "text", .list R), (Str.ofString "read", .list (rs.map Rn.rd)), (Str.ofString "side", .int (sdI b)), (Str.ofString "last", .raw (.ref C)), (Str.ofString "laid", .list (ts.map Rn.rd))]) (put_of (s := s) hn (by kernel_rfl)) (by walk_at "put") hRep fun s₁₀ J => ?_
    refine wpAny_execs_cons (wpAny_Return_some (Call_ (wpAny_mono (Ev.glob (F := fnFm fd 180 L O s) (C := []) g.toGr.g_reduce (kind_of hn (by kernel_rfl)) (by decide) s₁₀ J) (fun fv s₁₁ x => ?_) fun _ _ e => e) (by with_unfolding_all rfl)))
    obtain ⟨t1, r⟩ := x
    rw [Rep] at r; subst r
    have J₁ := J.go t1
    obtain ⟨oc', fdc', hoc', hdc'⟩ := g.toGr.fn139
    refine callWith_def hdc' (args_cons (wpAny_mono (ev_lambda g J₁ hc hq' (clos_of hcells rfl rfl) rfl) (fun v s₁₂ y => ?_) fun _ _ e => e) (by with_unfolding_all rfl)) (by with_unfolding_all rfl)
    obtain ⟨f2, o2, pm2, cdv2, ctv2, rfl, t2, ho2, hfd2, hrec2⟩ := y
    have J₂ := J₁.go t2
    have ev2 : ∀ p1 p2, Evs prog w (A.deeper (callEnvC fd L 180)) G (fnFm fd 180 L O s) [(Str.ofString "text", .list R), (Str.ofString "read", .list (rs.map Rn.rd)), (Str.ofString "side", .int (sdI b)), (Str.ofString "last", .raw (.ref C)), (Str.ofString "laid", .list (ts.map Rn.rd))] [] [.Name (Str.ofString "laid") p1, .Name (Str.ofString "text") p2] [.list (ts.map Rn.rd), .list R] := fun p1 p2 => Evs.cons (Ev.name (x := Str.ofString "laid") (by walk_at "mem") (by decide)) (Evs.cons (Ev.name (x := Str.ofString "text") (by walk_at "mem") (by decide)) Evs.nil)
    refine wpAny_mono (ev2 _ _ s₁₂ _ J₂) (fun ws s₁₃ y => ?_) fun _ _ e => e
    obtain ⟨t3, rws⟩ := y
    have J₃ := J₂.go t3
    refine ⟨J₃.gi.keep _ _ hoc', wpAny_call (codeAny_mono (spec_reduce g.toGr (O := O) (k := k + 7) (acc := fun i => .list ((ts.take i).foldl (ledStep b) R)) (ds := ts.map Rn.rd) (es := R) hr' rfl (func_step J₂.gi.tab t3 ho2 hfd2) hfd2 J₃.gi J₃.okO (Reps.cons (by rw [Rep]) rws) (fun i d s' A' xs hd hrA gi' hO' hst rx => ?hstep)) fun r s' q => ?_)⟩
    case hstep =>
      obtain ⟨r, hri, rfl⟩ : ∃ r, ts[i]? = some r ∧ rdX r = d := by
        rw [List.getElem?_map] at hd
        cases e : ts[i]? with
        | none => rw [e] at hd; cases hd
        | some r => rw [e] at hd; exact ⟨r, rfl, Option.some.inj hd⟩
      have hmem : r ∈ rs := hperm.mem_iff.mp (List.mem_of_getElem? hri)
      have hilt : i < ts.length := (List.getElem?_eq_some_iff.mp hri).1
      have hacc : (ts.take (i + 1)).foldl (ledStep b) R = ledStep b ((ts.take i).foldl (ledStep b) R) r := by
        rw [List.take_add_one, hri, Option.toList_some, List.foldl_append]; rfl
      obtain ⟨u1, u2, rfl, q1, q2⟩ := reps2 rx
      obtain ⟨vsd', hv13, hr13⟩ := J₃.vars (Str.ofString "side", .int (sdI b)) (by walk_at "mem")
      have hcs' : s₁₃.heap.IsCell (L + 1) (some vsd') := by
        have hkc : (callEnvC fd L 180).kindOf (Str.ofString "side") = some .cell := kind_of hn (by kernel_rfl)
        rcases hv13 with ⟨k1, _⟩ | ⟨_, c, e1, e2⟩
        · rw [show (callEnvC fd L 180).kindOf (Str.ofString "side") = some .local from k1] at hkc; cases hkc
        · have e : (cellsFrom (L + 1) fd.scope.names []).lookup (Str.ofString "side") = some c := e1
          rw [hcells] at e
          rw [Option.some.inj e]; exact e2
      have hX := hz i (Nat.le_of_lt hilt)
      obtain ⟨n1, n2⟩ := hnn r hmem
      have nR := hzr r hmem
      rw [hacc]
      generalize (ts.take i).foldl (ledStep b) R = X at hX q1
      refine lam_call (O := O) (k := k + 6) (d := .list (ledStep b X r)) (ρ := [(Str.ofString "rows", .list X), (Str.ofString "run", rdX r)]) (ρc := [(Str.ofString "side", .int (sdI b))]) hrA (func_step J₃.gi.tab hst (func_step J₂.gi.tab t3 ho2 hfd2) hfd2) hfd2 (codeRec_step J₃.gi.tab hst (codeRec_step J₂.gi.tab t3 hrec2)) rfl rfl rfl gi' hO' (wpAny_pure ⟨rfl, rfl⟩) (.cons q1 (.cons q2 .nil)) ?clos2 (by show ([Str.ofString "rows", Str.ofString "run", Str.ofString "side"] : List Str).Nodup; decide) rfl rfl ?apart2 rfl rfl rfl (fun A'' hr'' => ?ev3)
      case clos2 =>
        intro p hp
        simp only [List.mem_cons, List.not_mem_nil, or_false] at hp
        subst hp
        exact ⟨rfl, (by show (Str.ofString "side" == Str.ofString "__classdict__") = false; decide), L + 1, vsd', rfl, cell_step J₃.gi.tab hst hcs', hr13.step J₃.okO hst⟩
      case apart2 => exact List.pairwise_singleton ..
      case ev3 =>
        show Ev prog w A'' G _ [(Str.ofString "rows", .list X), (Str.ofString "run", rdX r), (Str.ofString "side", .int (sdI b))] [] _ _
        have c1 := cut_len X none (some (lo r b))
        have c2 := cut_len X (some (hi r b)) none
        have hz1 : X.length ≤ sizeLine := by rw [sizeLine_eq]; omega
        have hz2 : (cut X none (some (lo r b))).length + ((rowsOf r (!b)).map Mine.D.bytes).length ≤ sizeLine := by rw [sizeLine_eq, List.length_map]; omega
        have hz3 : (cut X none (some (lo r b)) ++ (rowsOf r (!b)).map Mine.D.bytes).length + (cut X (some (hi r b)) none).length ≤ sizeLine := by rw [sizeLine_eq, List.length_append, List.length_map]; omega
        unfold ledStep
        refine Ev.bin (Ev.bin (Ev.sliceL (ds := X) (lo := none) (hi := some (lo r b)) (by walk_at "ev") EvP.none (EvP.some ?e1) (fun _ h => by cases h) (fun _ h => by cases h; exact n1) hz1) ?e2 (op_addL hz2)) (Ev.sliceL (ds := X) (lo := some (hi r b)) (hi := none) (by walk_at "ev") (EvP.some ?e3) EvP.none (fun _ h => by cases h; exact n2) (fun _ h => by cases h) hz1) (op_addL hz3)
        case e1 =>
          cases b
          · exact Ev.as (d := .int (lo r false)) (by walk_at "ev") rfl
          · exact Ev.as (d := .int (lo r true)) (by walk_at "ev") rfl
        case e3 =>
          cases b
          · exact Ev.as (d := .int (hi r false)) (by walk_at "ev") rfl
          · exact Ev.as (d := .int (hi r true)) (by walk_at "ev") rfl
        case e2 =>
          cases b
          · exact Ev.as (d := .list ((rowsOf r true).map .bytes)) (by walk_at "ev") rfl
          · exact Ev.as (d := .list ((rowsOf r false).map .bytes)) (by walk_at "ev") rfl
    obtain ⟨v, rfl, stF, rv⟩ := q
    refine ⟨v, rfl, J₃.step.trans stF, ?_⟩
    rw [List.length_map, List.take_length] at rv
    exact rv
end
section
theorem rng_getD {rs : List Rn} {i : Nat} (h : i < rs.length) : (rs.map rngD).getD i .none = .list [.list [.int (lo (rs.getD i rn00) false), .int (hi (rs.getD i rn00) false)], .list [.int (lo (rs.getD i rn00) true), .int (hi (rs.getD i rn00) true)]] := by
  rw [List.getD_eq_getElem?_getD, List.getElem?_map, List.getElem?_eq_getElem h, List.getD_eq_getElem?_getD, List.getElem?_eq_getElem h]
  rfl
theorem call_sorted {k : Nat} {rs ts : List Rn} (hr : Room (k + 6) A) (h2 : 2 ≤ rs.length) (h64 : rs.length < 64) (hperm : ts.Perm rs) (hts : ts.Pairwise fun r r' => lo r false < lo r' false) : CallOk prog w A G O (.builtin "sorted") [.list (rs.map rngD)] (.list (ts.map rngD)) := fun s vs gi hO hR => by
  obtain ⟨vq, rfl, rq⟩ := reps1 hR
  rw [Rep] at rq
  obtain ⟨l, us, rfl, hlO, hl, hru⟩ := rq
  have hlen : us.length = rs.length := by rw [hru.length, List.length_map]
  have hdis : ∀ i j, i < us.length → j < us.length → i ≠ j → lo (rs.getD i rn00) false ≠ lo (rs.getD j rn00) false := fun i j hi hj hij => by
    have hp : rs.Pairwise fun r r' => lo r false ≠ lo r' false := (hperm.pairwise_iff (fun h q => h q.symm)).mp (hts.imp fun h => by (first | lia | omega))
    have hi' : i < rs.length := by (first | lia | omega)
    have hj' : j < rs.length := by (first | lia | omega)
    rw [List.getD_eq_getElem?_getD, List.getElem?_eq_getElem hi', List.getD_eq_getElem?_getD, List.getElem?_eq_getElem hj']
    simp only [Option.getD_some]
    rcases Nat.lt_or_gt_of_ne hij with q | q
    · exact List.pairwise_iff_getElem.mp hp i j hi' hj' q
    · exact fun z => List.pairwise_iff_getElem.mp hp j i hj' hi' q z.symm
  have rep : ∀ {s' : Shared} {i : Nat}, Step s s' → i < us.length → Rep O s'.heap (.list [.list [.int (lo (rs.getD i rn00) false), .int (hi (rs.getD i rn00) false)], .list [.int (lo (rs.getD i rn00) true), .int (hi (rs.getD i rn00) true)]]) (us.getD i Value.none) := fun {s' i} st hi => by
    have := (reps_getD hru (i := i) (by rw [List.length_map]; (first | lia | omega))).step hO st
    rwa [rng_getD (by (first | lia | omega))] at this
  refine sorted_own (T := .type "list") (key := fun i => lo (rs.getD i rn00) false) gi.tab hl (by (first | lia | omega)) (by (first | lia | omega)) (fun s' st v hv => ?_) (by rfl) (by simp) hdis (fun i j s' C hi hj hij st hC => ?_) (fun D p s₉ hg hu st₉ hD hL => ?_)
  · obtain ⟨i, hi, rfl⟩ := List.getElem_of_mem hv
    have := rep st hi
    rw [Rep] at this
    obtain ⟨a, xs, e, _, ⟨o, ho, hc, _⟩, _⟩ := this
    rw [List.getD_eq_getElem?_getD, List.getElem?_eq_getElem hi] at e
    rw [show us[i] = .ref a from e, ← hc]
    exact (Looks.ld ho).andThen .now
  · exact keyLt_pairs (O := O) (a1 := lo (rs.getD i rn00) false) (b1 := lo (rs.getD j rn00) false) (ra := [.int (Mine.hi (rs.getD i rn00) false)]) (rb := [.int (Mine.hi (rs.getD j rn00) false)]) rfl (by have := hr.2.2; show A.units + 1 + 1 + 5 < cLine; unfold cLine; (first | lia | omega)) (rep st hi) (rep st hj) (hdis i j hi hj hij) (fun d hd => ⟨_, List.mem_singleton.mp hd⟩) (fun d hd => ⟨_, List.mem_singleton.mp hd⟩) (hC s' (Step.refl _))
  · have hidx : ∀ i ∈ p.toList, i < rs.length := fun i hi => by have := good_mem hg i hi; (first | lia | omega)
    have hreps := reps_map (hru.step hO st₉) (l := p.toList) fun i hi => by rw [List.length_map]; exact hidx i hi
    have hts' : (p.toList.map fun i => rs.getD i rn00) = ts := by
      rw [hlen] at hg hu
      refine sorted_eq (fun r => lo r false) ((good_perm hg rn00).trans hperm.symm) ?_ hts
      rw [List.pairwise_map]
      exact up_pairwise hg hu
    have hmap : (p.toList.map fun i => (rs.map rngD).getD i .none) = ts.map rngD := by
      rw [← hts', List.map_map]
      exact List.map_congr_left fun i hi => rng_getD (hidx i hi)
    rw [hmap] at hreps
    refine ⟨st₉, ?_⟩
    rw [Rep]; exact ⟨D, _, rfl, hO.fresh hD, hL, hreps⟩
end
section
set_option Elab.async false
set_option maxRecDepth 100000
set_option linter.unusedVariables false
set_option maxHeartbeats 1000000
open PySem.Calls

theorem has_int {R : WRecords} {d : WData} (h : WShape.has R d .int = true) : ∃ i, d = .int i := by
  cases d
  case int i => exact ⟨i, rfl⟩
  all_goals exact absurd (show false = true from h) Bool.false_ne_true
theorem items_ints {R : WRecords} : ∀ {ds : List WData}, WShape.hasItems R ds .int = true → ∃ xs : List Int, ds = xs.map .int
  | [], _ => ⟨[], rfl⟩
  | d :: ds, h => by
    have h2 : (WShape.has R d .int && WShape.hasItems R ds .int) = true := h
    obtain ⟨h3, h4⟩ := Bool.and_eq_true_iff.mp h2
    obtain ⟨xs, rfl⟩ := items_ints h4
    obtain ⟨i, rfl⟩ := has_int h3
    exact ⟨i :: xs, rfl⟩
theorem has_ints {R : WRecords} {d : WData} (h : WShape.has R d (.list .int) = true) : ∃ xs : List Int, d = .list (xs.map .int) := by
  cases d
  case list ds =>
    have h2 : (WShape.hasItems R ds .int || false) = true := h
    rw [Bool.or_false] at h2
    obtain ⟨xs, rfl⟩ := items_ints h2
    exact ⟨xs, rfl⟩
  all_goals exact absurd (show false = true from h) Bool.false_ne_true
theorem args_ints {R : WRecords} {args : List WData} (h : WShape.hasAll R args [.list .int] = true) : ∃ xs : List Int, args = [.list (xs.map .int)] := by
  cases args with
  | nil => exact absurd (show false = true from h) Bool.false_ne_true
  | cons d r =>
    have h2 : (WShape.has R d (.list .int) && WShape.hasAll R r []) = true := h
    obtain ⟨h3, h4⟩ := Bool.and_eq_true_iff.mp h2
    obtain ⟨xs, rfl⟩ := has_ints h3
    cases r with
    | nil => exact ⟨xs, rfl⟩
    | cons e r => exact absurd (show false = true from h4) Bool.false_ne_true
theorem reads_ints {R : WRecords} {cl : Str → Option Addr} {h : Heap} : ∀ {xs : List Int} {vs : List Value} {as : List Addr}, ReadsAllW R cl h vs (xs.map .int) as → Reps O h (xs.map .int) vs
  | [], _, _, .nil => Reps.nil
  | x :: xs, _, _, .cons r1 r2 => by
    cases r1
    exact Reps.cons ⟨_, rfl⟩ (reads_ints r2)
end
section
/-! the law's own walk -/
noncomputable def own8 : List Int := [1030, 4096, 2051, 517, 8192, 77, 308, 9999]
noncomputable def NUM (xs : List Int) : List Int := xs.take 4 ++ own8
noncomputable def oldD (xs : List Int) : List D := (oldText xs).map .bytes
noncomputable def newD (xs : List Int) : List D := (newText xs).map .bytes

/-- what the plain law says of the numbers -/
structure LawOk (ns : List Int) : Prop where
  len : ns.length ≤ 12
  rl : (runsOf ns).length ≤ ns.length
  rn : ∀ r ∈ runsOf ns, RnOk r
  rd : ∀ r ∈ runsOf ns, RdOk r
  perm : (patchTo ns (runsOf ns) (runsOf ns).length).Perm (runsOf ns)
  two : 2 ≤ (runsOf ns).length
  up : ∀ b, (runsOf ns).Pairwise fun r r' => lo r b < lo r' b
  rows : ∀ r ∈ runsOf ns, ∀ b, rowsOf r b = cut (if b then newText ns else oldText ns) (some (lo r b)) (some (hi r b))
  led0 : (runsOf ns).reverse.foldl (ledStep false) (oldD ns) = newD ns
  led1 : (runsOf ns).reverse.foldl (ledStep true) (newD ns) = oldD ns
  hz0 : ∀ i, i ≤ (runsOf ns).reverse.length → (((runsOf ns).reverse.take i).foldl (ledStep false) (oldD ns)).length ≤ 1000
  hz1 : ∀ i, i ≤ (runsOf ns).reverse.length → (((runsOf ns).reverse.take i).foldl (ledStep true) (newD ns)).length ≤ 1000
  sz : (oldText ns).length ≤ 100 ∧ (newText ns).length ≤ 100
  szr : ∀ r ∈ runsOf ns, ∀ b, (rowsOf r b).length ≤ 100

theorem rng_ok : ∀ (rs : List Rn), eqOks (rs.map rngD) = true
  | [] => rfl
  | r :: rs => by rw [List.map_cons, eqOks, rng_ok rs]; rfl
theorem rng_dep : ∀ (rs : List Rn), deps (rs.map rngD) ≤ 2
  | [] => Nat.zero_le _
  | r :: rs => by
    rw [List.map_cons, deps]
    have h1 : dep (rngD r) = 2 := rfl
    have := rng_dep rs
    omega
theorem byt_ok : ∀ (xs : List (Array UInt8)), eqOks (xs.map .bytes) = true
  | [] => rfl
  | x :: xs => by rw [List.map_cons, eqOks, byt_ok xs]; rfl
theorem byt_dep : ∀ (xs : List (Array UInt8)), deps (xs.map .bytes) = 0
  | [] => rfl
  | x :: xs => by rw [List.map_cons, deps, byt_dep xs]; rfl
theorem cut_map {α β : Type} (f : α → β) (xs : List α) (a b : Option Int) : (cut xs a b).map f = cut (xs.map f) a b := by
  unfold cut
  rw [List.map_take, List.map_drop, List.length_map]
theorem enterN {k : Nat} {f : Addr} {o : Obj} {fd : FuncData} {body : List Stmt} {args : Args} {binds : List (Str × Value)} {ρ : List (Str × D)} {names : List (Str × NameKind)} {d : D} (hroom : Room k A)
    (hf : G.h.get? f = some o) (hd : o.data = .func fd) (hbody : fd.body = .stmts body) (hn : fd.scope.names = names) (hcd : G.h.CodeRec fd.code fd.qualname) (hclo : fd.closure = []) (hgl : fd.globals = mainGlobals) (hbl : fd.builtins = builtinsNs)
    (hco : fd.scope.isCoroutine = false) (hgen : fd.scope.isGenerator = false) (hk : fd.scope.kind = .function)
    (gi : GI G s) (hO : OkO O s.heap)
    (hbind : wpAny (model prog w) A.in1 (bindArgs fd args) (fun bs s₁ => bs = binds ∧ s₁ = s) noE s) (hb : BindsOk O s.heap binds ρ)
    (hchk : chk names (ρ.map (·.1)) = true)
    (h : ∀ (fd : FuncData) L s₁, fd.scope.names = names → Inv G (fnFm fd f L O s) ρ [] s₁ → wpAny (model prog w) (A.deeper (callEnvC fd L f)) (execs body (callEnvC fd L f)) (Done O s d) noE s₁) :
    codeAny (model prog w) A (.call (.ref f) args) (Back O s d) s := by
  subst hn
  simp only [chk, Bool.and_eq_true, decide_eq_true_eq, List.all_eq_true, Bool.or_eq_true, beq_iff_eq] at hchk
  obtain ⟨⟨⟨c1, c2⟩, c3⟩, c4⟩ := hchk
  refine Mine.enter hroom.depth hf hd hcd hbody hclo hgl hbl gi hO hbind hb c1 (fun x hx => ?_) (fun p hp => ?_) ?_ (fun s₁ I => h fd _ s₁ rfl I) hco hgen hk
  · rcases c2 x.1 (List.mem_map_of_mem hx) with q | q
    · exact .inl q
    · exact .inr ⟨q, cellsFrom_some _ _ _ (.inl q)⟩
  · have : p.1 ∈ (cellsFrom (s.heap.objs.size + 1) fd.scope.names []).map (·.1) := List.mem_map_of_mem hp
    rw [cellsFrom_names] at this
    simp only [List.map_nil, List.append_nil, List.mem_reverse] at this
    exact c4 _ this
  · rw [cellsFrom_names]
    simp only [List.map_nil, List.append_nil]
    unfold List.Nodup at c3 ⊢
    rw [List.pairwise_reverse]
    exact c3.imp fun h => h.symm
end
section
set_option Elab.async false
set_option maxRecDepth 100000
set_option linter.unusedVariables false
set_option linter.unusedSimpArgs false

/-! the plain law: the runs as segments of the two texts -/
noncomputable def textB (b : Bool) (ys : List Int) : List (Array UInt8) := if b then newText ys else oldText ys
noncomputable def runsFrom (cur : Option Rn) (i j : Int) : List Int → List Rn
  | [] => cur.toList
  | y :: ys => (runStep ⟨[], cur, i, j⟩ y).runs ++ runsFrom (runStep ⟨[], cur, i, j⟩ y).cur (runStep ⟨[], cur, i, j⟩ y).i (runStep ⟨[], cur, i, j⟩ y).j ys

theorem runStep_pre (R rs : List Rn) (cur : Option Rn) (i j : Int) (y : Int) : runStep ⟨R ++ rs, cur, i, j⟩ y = { runStep ⟨rs, cur, i, j⟩ y with runs := R ++ (runStep ⟨rs, cur, i, j⟩ y).runs } := by
  rcases goes_or y with g | g
  · rw [step_g0 g, step_g0 g]
    by_cases c : comes y = true
    · rw [come_t c, come_t c, List.append_assoc]
    · rw [come_f c, come_f c, List.append_assoc]
  · rw [step_g1 g, step_g1 g]
    by_cases c : comes y = true
    · rw [come_t c, come_t c]
    · rw [come_f c, come_f c]
theorem foldl_runs : ∀ (ys : List Int) (t : RSt), (ys.foldl runStep t).runs ++ (ys.foldl runStep t).cur.toList = t.runs ++ runsFrom t.cur t.i t.j ys
  | [], t => rfl
  | y :: ys, ⟨R, cur, i, j⟩ => by
    rw [List.foldl_cons, foldl_runs ys]
    have := runStep_pre R [] cur i j y
    rw [List.append_nil] at this
    rw [this]
    simp [runsFrom]
theorem runsOf_from (xs : List Int) : runsOf xs = runsFrom none 0 0 xs := by
  have := foldl_runs xs ⟨[], none, 0, 0⟩
  unfold runsOf runFold
  rw [← List.nil_append (runsFrom none 0 0 xs), ← this]
  cases (xs.foldl runStep ⟨[], none, 0, 0⟩).cur <;> rfl

inductive Seg : Bool → (Bool → Int) → List Rn → (Bool → List (Array UInt8)) → Prop
  | nil {s : Bool} {p : Bool → Int} {g : List (Array UInt8)} {T : Bool → List (Array UInt8)} (hT : ∀ b, T b = g) : Seg s p [] T
  | cons {s : Bool} {p : Bool → Int} {g : List (Array UInt8)} {r : Rn} {rs : List Rn} {T T' : Bool → List (Array UInt8)} (hg : s = true → g ≠ []) (hlo : ∀ b, lo r b = p b + g.length) (hhi : ∀ b, hi r b = lo r b + (rowsOf r b).length)
    (hs : Seg true (hi r) rs T) (hT : ∀ b, T' b = g ++ (rowsOf r b ++ T b)) : Seg s p (r :: rs) T'

theorem rowsOf_eq (r r' : Rn) (h : r.ls = r'.ls) (b : Bool) : rowsOf r b = rowsOf r' b := by unfold rowsOf; rw [h]
theorem text_cons (b : Bool) (y : Int) (ys : List Int) : textB b (y :: ys) = (if b then newOf y else [row2 y]) ++ textB b ys := by
  cases b <;> simp [textB, oldText, newText]

theorem newOf_eq (y : Int) : newOf y = (if goes y = 0 then [row2 y] else []) ++ (if comes y = true then [row3 y] else []) := by
  unfold newOf goes comes
  simp
theorem Seg.cT {s : Bool} {p : Bool → Int} {rs : List Rn} {T T' : Bool → List (Array UInt8)} (h : Seg s p rs T) (e : ∀ b, T b = T' b) : Seg s p rs T' := by
  have : T = T' := funext e
  rw [← this]; exact h

theorem seg_from : ∀ (ys : List Int),
    (∀ (s : Bool) (p : Bool → Int) (g : List (Array UInt8)) (i j : Int), (s = true → g ≠ []) → i = p false + g.length → j = p true + g.length → Seg s p (runsFrom none i j ys) fun b => g ++ textB b ys) ∧
    (∀ (s : Bool) (p : Bool → Int) (g : List (Array UInt8)) (r : Rn) (i j : Int), (s = true → g ≠ []) → (∀ b, lo r b = p b + g.length) → (∀ b, hi r b = lo r b + (rowsOf r b).length) → i = hi r false → j = hi r true → Seg s p (runsFrom (some r) i j ys) fun b => g ++ (rowsOf r b ++ textB b ys))
  | [] => by
    refine ⟨fun s p g i j hg h1 h2 => Seg.nil (g := g) fun b => by cases b <;> simp [textB, oldText, newText], fun s p g r i j hg h1 h2 h3 h4 => ?_⟩
    exact Seg.cons (g := g) (T := fun _ => []) hg h1 h2 (Seg.nil (g := []) fun _ => rfl) fun b => by cases b <;> simp [textB, oldText, newText]
  | y :: ys => by
    obtain ⟨ihA, ihB⟩ := seg_from ys
    have A0 : ∀ (s : Bool) (p : Bool → Int) (g : List (Array UInt8)) (i j : Int), goes y = 0 → i = p false + g.length → j = p true + g.length → Seg s p (runsFrom none i j (y :: ys)) fun b => g ++ textB b (y :: ys) := fun s p g i j g0 hi' hj' => by
      have hg' : g ++ [row2 y] ≠ [] := by simp
      by_cases c : comes y = true
      · have e : runsFrom none i j (y :: ys) = runsFrom (some ⟨i + 1, i + 1, j + 1, j + 1 + 1, [(true, row3 y)]⟩) (i + 1) (j + 1 + 1) ys := by
          rw [runsFrom, step_g0 g0, come_t c]; rfl
        rw [e]
        refine (ihB s p (g ++ [row2 y]) ⟨i + 1, i + 1, j + 1, j + 1 + 1, [(true, row3 y)]⟩ _ _ (fun _ => hg') (fun b => by cases b <;> simp [lo] <;> (first | lia | omega)) (fun b => by cases b <;> simp [lo, Mine.hi, rowsOf]) (by simp [Mine.hi]) (by simp [Mine.hi])).cT fun b => ?_
        rw [text_cons, newOf_eq]
        cases b <;> simp [rowsOf, g0, c]
      · have e : runsFrom none i j (y :: ys) = runsFrom none (i + 1) (j + 1) ys := by
          rw [runsFrom, step_g0 g0, come_f c]; rfl
        rw [e]
        refine (ihA s p (g ++ [row2 y]) _ _ (fun _ => hg') (by simp; (first | lia | omega)) (by simp; (first | lia | omega))).cT fun b => ?_
        rw [text_cons, newOf_eq]
        cases b <;> simp [g0, c]
    refine ⟨fun s p g i j hg hi' hj' => ?_, fun s p g r i j hg h1 h2 hi' hj' => ?_⟩
    · rcases goes_or y with g0 | g1
      · exact A0 s p g i j g0 hi' hj'
      · by_cases c : comes y = true
        · have e : runsFrom none i j (y :: ys) = runsFrom (some ⟨i, i + 1, j, j + 1, [(false, row2 y), (true, row3 y)]⟩) (i + 1) (j + 1) ys := by
            rw [runsFrom, step_g1 g1, come_t c]; rfl
          rw [e]
          refine (ihB s p g ⟨i, i + 1, j, j + 1, [(false, row2 y), (true, row3 y)]⟩ _ _ hg (fun b => by cases b <;> simp [lo] <;> (first | lia | omega)) (fun b => by cases b <;> simp [lo, Mine.hi, rowsOf]) (by simp [Mine.hi]) (by simp [Mine.hi])).cT fun b => ?_
          rw [text_cons, newOf_eq]
          cases b <;> simp [rowsOf, g1, c]
        · have e : runsFrom none i j (y :: ys) = runsFrom (some ⟨i, i + 1, j, j, [(false, row2 y)]⟩) (i + 1) j ys := by
            rw [runsFrom, step_g1 g1, come_f c]; rfl
          rw [e]
          refine (ihB s p g ⟨i, i + 1, j, j, [(false, row2 y)]⟩ _ _ hg (fun b => by cases b <;> simp [lo] <;> (first | lia | omega)) (fun b => by cases b <;> simp [lo, Mine.hi, rowsOf]) (by simp [Mine.hi]) (by simp [Mine.hi])).cT fun b => ?_
          rw [text_cons, newOf_eq]
          cases b <;> simp [rowsOf, g1, c]
    · rcases goes_or y with g0 | g1
      · have e : runsFrom (some r) i j (y :: ys) = r :: runsFrom none i j (y :: ys) := by
          rw [runsFrom, runsFrom, step_g0 g0, step_g0 g0]
          by_cases c : comes y = true
          · rw [come_t c, come_t c]; rfl
          · rw [come_f c, come_f c]; rfl
        rw [e]
        have A1 : Seg true (hi r) (runsFrom none i j (y :: ys)) fun b => textB b (y :: ys) := by
          exact (A0 true (hi r) [] i j g0 (by simpa using hi') (by simpa using hj')).cT fun b => List.nil_append _
        exact Seg.cons (g := g) hg h1 h2 A1 fun b => rfl
      · obtain ⟨i0, i1, j0, j1, ls⟩ := r
        have hF := h2 false
        have hT := h2 true
        simp only [lo, Mine.hi, Bool.false_eq_true, if_false, if_true] at hF hT hi' hj'
        by_cases c : comes y = true
        · have e : runsFrom (some ⟨i0, i1, j0, j1, ls⟩) i j (y :: ys) = runsFrom (some ⟨i0, i + 1, j0, j + 1, ls ++ [(false, row2 y)] ++ [(true, row3 y)]⟩) (i + 1) (j + 1) ys := by
            rw [runsFrom, step_g1 g1, come_t c]; rfl
          rw [e]
          have hr : ∀ b, rowsOf ⟨i0, i + 1, j0, j + 1, ls ++ [(false, row2 y)] ++ [(true, row3 y)]⟩ b = rowsOf ⟨i0, i1, j0, j1, ls⟩ b ++ (if b then [row3 y] else [row2 y]) := fun b => by
            unfold rowsOf
            cases b <;> simp
          refine (ihB s p g ⟨i0, i + 1, j0, j + 1, ls ++ [(false, row2 y)] ++ [(true, row3 y)]⟩ _ _ hg (fun b => by have := h1 b; cases b <;> simpa [lo] using this) (fun b => by rw [hr]; cases b <;> simp [lo, Mine.hi] <;> (first | lia | omega)) (by simp [Mine.hi]) (by simp [Mine.hi])).cT fun b => ?_
          rw [text_cons, newOf_eq, hr]
          cases b <;> simp [g1, c]
        · have e : runsFrom (some ⟨i0, i1, j0, j1, ls⟩) i j (y :: ys) = runsFrom (some ⟨i0, i + 1, j0, j1, ls ++ [(false, row2 y)]⟩) (i + 1) j ys := by
            rw [runsFrom, step_g1 g1, come_f c]; rfl
          rw [e]
          have hr : ∀ b, rowsOf ⟨i0, i + 1, j0, j1, ls ++ [(false, row2 y)]⟩ b = rowsOf ⟨i0, i1, j0, j1, ls⟩ b ++ (if b then [] else [row2 y]) := fun b => by
            unfold rowsOf
            cases b <;> simp
          refine (ihB s p g ⟨i0, i + 1, j0, j1, ls ++ [(false, row2 y)]⟩ _ _ hg (fun b => by have := h1 b; cases b <;> simpa [lo] using this) (fun b => by rw [hr]; cases b <;> simp [lo, Mine.hi] <;> (first | lia | omega)) (by simp [Mine.hi]) (by simp [Mine.hi]; (first | lia | omega))).cT fun b => ?_
          rw [text_cons, newOf_eq, hr]
          cases b <;> simp [g1, c]
theorem seg_of (ns : List Int) : Seg false (fun _ => 0) (runsOf ns) fun b => textB b ns := by
  rw [runsOf_from]
  exact ((seg_from ns).1 false (fun _ => 0) [] 0 0 (fun h => by cases h) rfl rfl).cT fun b => rfl
end
section
set_option Elab.async false
set_option maxRecDepth 100000
set_option linter.unusedVariables false
set_option linter.unusedSimpArgs false

theorem cut_mid {α : Type} (a m c : List α) (x y : Int) (hx : x = a.length) (hy : y = a.length + m.length) : cut (a ++ (m ++ c)) (some x) (some y) = m := by
  subst hx hy
  unfold cut
  simp only [Option.getD_some, Int.toNat_natCast]
  rw [List.drop_left]
  have : (((a.length : Int) + (m.length : Int)).toNat - a.length) = m.length := by (first | lia | omega)
  rw [this, List.take_left]
theorem cut_hd {α : Type} (a c : List α) (x : Int) (hx : x = a.length) : cut (a ++ c) none (some x) = a := by
  subst hx
  unfold cut
  simp
theorem cut_tl {α : Type} (a c : List α) (x : Int) (hx : x = a.length) : cut (a ++ c) (some x) none = c := by
  subst hx
  unfold cut
  simp only [Option.getD_some, Int.toNat_natCast]
  rw [List.drop_left]
  exact List.take_of_length_le (by rw [List.length_append]; (first | lia | omega))

/-- rows, and where they stand -/
theorem seg_rows {s : Bool} {p : Bool → Int} {rs : List Rn} {T : Bool → List (Array UInt8)} (h : Seg s p rs T) : ∀ b, ∀ (P : List (Array UInt8)), p b = P.length → ∀ r ∈ rs, rowsOf r b = cut (P ++ T b) (some (lo r b)) (some (hi r b)) := by
  induction h with
  | nil hT => intro b P hP r hr; simp at hr
  | @cons s p g r rs T T' hg hlo hhi hs hT ih =>
    intro b P hP r' hr'
    rcases List.mem_cons.mp hr' with rfl | hr'
    · rw [hT, ← List.append_assoc]
      exact (cut_mid (P ++ g) (rowsOf r' b) (T b) _ _ (by rw [hlo, hP, List.length_append]; (first | lia | omega)) (by rw [hhi, hlo, hP, List.length_append]; (first | lia | omega))).symm
    · rw [hT]
      have := ih b (P ++ g ++ rowsOf r b) (by rw [hhi, hlo, hP]; simp [List.length_append]; (first | lia | omega)) r' hr'
      rw [this]
      simp [List.append_assoc]
theorem seg_bd {s : Bool} {p : Bool → Int} {rs : List Rn} {T : Bool → List (Array UInt8)} (h : Seg s p rs T) : ∀ b, ∀ r ∈ rs, p b ≤ lo r b ∧ (s = true → p b < lo r b) ∧ hi r b = lo r b + (rowsOf r b).length ∧ hi r b ≤ p b + (T b).length := by
  induction h with
  | nil hT => intro b r hr; simp at hr
  | @cons s p g r rs T T' hg hlo hhi hs hT ih =>
    intro b r' hr'
    have hl : (T' b).length = g.length + ((rowsOf r b).length + (T b).length) := by rw [hT]; simp
    rcases List.mem_cons.mp hr' with rfl | hr'
    · have h1 := hlo b
      have h2 := hhi b
      refine ⟨by (first | lia | omega), fun hs' => ?_, h2, by (first | lia | omega)⟩
      have := List.length_pos_iff.mpr (hg hs')
      (first | lia | omega)
    · obtain ⟨q1, q2, q3, q4⟩ := ih b r' hr'
      have h1 := hlo b
      have h2 := hhi b
      refine ⟨by (first | lia | omega), fun _ => ?_, q3, by (first | lia | omega)⟩
      have := q2 rfl
      (first | lia | omega)
theorem seg_up {s : Bool} {p : Bool → Int} {rs : List Rn} {T : Bool → List (Array UInt8)} (h : Seg s p rs T) : ∀ b, rs.Pairwise fun r r' => lo r b < lo r' b := by
  induction h with
  | nil hT => intro b; exact .nil
  | @cons s p g r rs T T' hg hlo hhi hs hT ih =>
    intro b
    refine List.pairwise_cons.mpr ⟨fun r' hr' => ?_, ih b⟩
    obtain ⟨q1, q2, q3, q4⟩ := seg_bd hs b r' hr'
    have := hhi b
    have := q2 rfl
    (first | lia | omega)
theorem seg_mem {s : Bool} {p : Bool → Int} {rs : List Rn} {T : Bool → List (Array UInt8)} (h : Seg s p rs T) : ∀ b, ∀ r ∈ rs, ∀ x ∈ rowsOf r b, x ∈ T b := by
  induction h with
  | nil hT => intro b r hr; simp at hr
  | @cons s p g r rs T T' hg hlo hhi hs hT ih =>
    intro b r' hr' x hx
    rw [hT]
    rcases List.mem_cons.mp hr' with rfl | hr'
    · simp [hx]
    · have := ih b r' hr' x hx
      simp [this]
theorem seg_led {s : Bool} {p : Bool → Int} {rs : List Rn} {T : Bool → List (Array UInt8)} (h : Seg s p rs T) : ∀ b, ∀ (P : List (Array UInt8)), p b = P.length → rs.reverse.foldl (ledStep b) ((P ++ T b).map D.bytes) = (P ++ T (!b)).map D.bytes := by
  induction h with
  | nil hT => intro b P hP; rw [hT b, hT (!b)]; rfl
  | @cons s p g r rs T T' hg hlo hhi hs hT ih =>
    intro b P hP
    rw [List.reverse_cons, List.foldl_append, hT b, hT (!b)]
    have e := ih b (P ++ g ++ rowsOf r b) (by rw [hhi, hlo, hP]; simp [List.length_append]; (first | lia | omega))
    rw [show P ++ (g ++ (rowsOf r b ++ T b)) = (P ++ g ++ rowsOf r b) ++ T b by simp [List.append_assoc], e]
    show ledStep b _ r = _
    unfold ledStep
    have h1 := hlo b
    have h2 := hhi b
    have c1 : cut ((P ++ g ++ rowsOf r b ++ T (!b)).map D.bytes) none (some (lo r b)) = (P ++ g).map D.bytes := by
      rw [show P ++ g ++ rowsOf r b ++ T (!b) = (P ++ g) ++ (rowsOf r b ++ T (!b)) by simp, List.map_append]
      exact cut_hd _ _ _ (by rw [List.length_map, List.length_append]; (first | lia | omega))
    have c2 : cut ((P ++ g ++ rowsOf r b ++ T (!b)).map D.bytes) (some (hi r b)) none = (T (!b)).map D.bytes := by
      rw [List.map_append]
      exact cut_tl _ _ _ (by rw [List.length_map, List.length_append, List.length_append]; (first | lia | omega))
    rw [c1, c2]
    simp [List.append_assoc]
theorem led_len (b : Bool) : ∀ (rs : List Rn) (X : List D), (∀ r ∈ rs, lo r b ≤ 25 ∧ (rowsOf r (!b)).length ≤ 24) → (rs.foldl (ledStep b) X).length ≤ X.length + 49 * rs.length
  | [], X, _ => by simp
  | r :: rs, X, h => by
    rw [List.foldl_cons]
    have ih := led_len b rs (ledStep b X r) fun r hr => h r (.tail _ hr)
    obtain ⟨h1, h2⟩ := h r (.head _)
    have h3 : (ledStep b X r).length ≤ X.length + 49 := by
      unfold ledStep
      rw [List.length_append, List.length_append, List.length_map]
      have c1 := cut_len X (some (hi r b)) none
      have c2 : (cut X none (some (lo r b))).length ≤ 25 := by
        unfold cut
        rw [List.length_take]
        simp only [Option.getD_none]
        (first | lia | omega)
      (first | lia | omega)
    rw [List.length_cons]
    (first | lia | omega)

theorem from_len : ∀ (ys : List Int) (cur : Option Rn) (i j : Int), (runsFrom cur i j ys).length ≤ ys.length + (if cur.isSome then 1 else 0)
  | [], cur, i, j => by cases cur <;> simp [runsFrom]
  | y :: ys, cur, i, j => by
    unfold runsFrom
    have ih := from_len ys (runStep ⟨[], cur, i, j⟩ y).cur (runStep ⟨[], cur, i, j⟩ y).i (runStep ⟨[], cur, i, j⟩ y).j
    have key : (runStep ⟨[], cur, i, j⟩ y).runs.length + (if (runStep ⟨[], cur, i, j⟩ y).cur.isSome then 1 else 0) ≤ 1 + (if cur.isSome then 1 else 0) := by
      rcases goes_or y with g | g
      · rw [step_g0 g]
        by_cases c : comes y = true
        · rw [come_t c]; cases cur <;> exact Nat.le_refl _
        · rw [come_f c]; cases cur <;> exact Nat.le_succ _
      · rw [step_g1 g]
        by_cases c : comes y = true
        · rw [come_t c]; cases cur <;> first | exact Nat.le_refl _ | exact Nat.le_succ _
        · rw [come_f c]; cases cur <;> first | exact Nat.le_refl _ | exact Nat.le_succ _
    rw [List.length_append, List.length_cons]
    (first | lia | omega)
theorem from_app : ∀ (zs ws : List Int) (cur : Option Rn) (i j : Int), ∃ cur' i' j', (runsFrom cur' i' j' ws).length ≤ (runsFrom cur i j (zs ++ ws)).length
  | [], ws, cur, i, j => ⟨cur, i, j, Nat.le_refl _⟩
  | z :: zs, ws, cur, i, j => by
    obtain ⟨c, a, b, h⟩ := from_app zs ws (runStep ⟨[], cur, i, j⟩ z).cur (runStep ⟨[], cur, i, j⟩ z).i (runStep ⟨[], cur, i, j⟩ z).j
    refine ⟨c, a, b, Nat.le_trans h ?_⟩
    rw [List.cons_append]
    conv => rhs; unfold runsFrom
    rw [List.length_append]; (first | lia | omega)
theorem own_len (cur : Option Rn) (i j : Int) : 2 ≤ (runsFrom cur i j own8).length := by
  have s2 : ∀ r (i' j' : Int), (runsFrom (some r) i' j' [4096, 2051, 517, 8192, 77, 308, 9999]).length = (runsFrom (some ⟨0, 0, 0, 0, []⟩) 0 0 [4096, 2051, 517, 8192, 77, 308, 9999]).length := fun r i' j' => by kernel_rfl
  have s3 : 2 ≤ (runsFrom (some ⟨0, 0, 0, 0, []⟩) 0 0 [4096, 2051, 517, 8192, 77, 308, 9999]).length := by decide +kernel
  have s1 : ∃ l r i' j', runsFrom cur i j own8 = l ++ runsFrom (some r) i' j' [4096, 2051, 517, 8192, 77, 308, 9999] := by
    have h : ∃ r, (runStep ⟨[], cur, i, j⟩ 1030).cur = some r := by cases cur <;> exact ⟨_, rfl⟩
    obtain ⟨r, e⟩ := h
    exact ⟨(runStep ⟨[], cur, i, j⟩ 1030).runs, r, (runStep ⟨[], cur, i, j⟩ 1030).i, (runStep ⟨[], cur, i, j⟩ 1030).j, by rw [← e]; rfl⟩
  obtain ⟨l, r, i', j', e⟩ := s1
  rw [e, List.length_append, s2]
  exact Nat.le_trans s3 (Nat.le_add_left ..)
theorem patch_perm (xs : List Int) (rs : List Rn) : ∀ k, k ≤ rs.length → (patchTo xs rs k).Perm (rs.take k)
  | 0, _ => by simp [patchTo]
  | k + 1, h => by
    have ih := patch_perm xs rs k (by (first | lia | omega))
    have hk : k < rs.length := by (first | lia | omega)
    have e : rs.take (k + 1) = rs.take k ++ [rs[k]] := by rw [List.take_add_one, List.getElem?_eq_getElem hk]; rfl
    rw [e]
    unfold patchTo ins
    have hg : rs.getD k rn0 = rs[k] := by rw [List.getD_eq_getElem?_getD, List.getElem?_eq_getElem hk]; rfl
    rw [hg]
    refine (List.perm_middle).trans ?_
    rw [List.take_append_drop]
    refine (List.Perm.cons _ ih).trans ?_
    exact (List.perm_append_comm (l₁ := [rs[k]]) (l₂ := rs.take k))
end
section
set_option Elab.async false
set_option maxRecDepth 100000
set_option linter.unusedVariables false
set_option linter.unusedSimpArgs false
theorem tb_nat : ∀ i : Nat, i < 64 → val64 (((b64Tab.getD i 0).toNat : Int)) = i ∧ ((b64Tab.getD i 0).toNat : Int) ≠ 61 ∧ (b64Tab.getD i 0).toNat < 128 := by decide +kernel
theorem tb_ok {i : Int} (h0 : 0 ≤ i) (h1 : i < 64) : val64 (tb i) = i ∧ tb i ≠ 61 ∧ 0 ≤ tb i ∧ tb i < 128 := by
  obtain ⟨e1, e2, e3⟩ := tb_nat i.toNat (by omega)
  unfold tb
  refine ⟨by rw [e1]; omega, e2, by omega, by omega⟩
theorem enc_s0 (o : List Int) (l b : Int) : encStep (o, l, 0) b = (o ++ [tb ((l * 256 + b) % 65536 / 4 % 64)], (l * 256 + b) % 65536, 2) := rfl
theorem enc_s1 {a : Int} (ha : 0 ≤ a ∧ a < 256) : encStep ([], 0, 0) a = ([tb (a / 4)], a, 2) := by
  have h1 : (0 * 256 + a) % 65536 = a := by omega
  have h2 : a / 4 % 64 = a / 4 := by omega
  rw [enc_s0, h1, h2]; rfl
theorem enc_s2 (o : List Int) (l b : Int) : encStep (o, l, 2) b = (o ++ [tb ((l * 256 + b) % 65536 / 16 % 64)], (l * 256 + b) % 65536, 4) := rfl
theorem enc_s3 (o : List Int) (l b : Int) : encStep (o, l, 4) b = (o ++ [tb ((l * 256 + b) % 65536 / 64 % 64)] ++ [tb ((l * 256 + b) % 65536 % 64)], (l * 256 + b) % 65536, 0) := rfl
theorem enc_e4 (o : List Int) (l : Int) : encEnd (o, l, 4) = o ++ [tb (l % 16 * 4)] ++ [61] := rfl
theorem enc_e0 (o : List Int) (l : Int) : encEnd (o, l, 0) = o := rfl
theorem enc2 {a b : Int} (ha : 0 ≤ a ∧ a < 256) (hb : 0 ≤ b ∧ b < 256) : encode [a, b] = [tb (a / 4), tb ((a * 256 + b) / 16 % 64), tb ((a * 256 + b) % 16 * 4), 61] := by
  have h : (a * 256 + b) % 65536 = a * 256 + b := by omega
  rw [encode, List.foldl_cons, enc_s1 ha, List.foldl_cons, enc_s2, List.foldl_nil, enc_e4, h]; rfl
theorem enc3 {a b c : Int} (ha : 0 ≤ a ∧ a < 256) (hb : 0 ≤ b ∧ b < 256) (hc : 0 ≤ c ∧ c < 256) : encode [a, b, c] = [tb (a / 4), tb ((a * 256 + b) / 16 % 64), tb (((a * 256 + b) * 256 + c) % 65536 / 64 % 64), tb (((a * 256 + b) * 256 + c) % 65536 % 64)] := by
  have h : (a * 256 + b) % 65536 = a * 256 + b := by omega
  rw [encode, List.foldl_cons, enc_s1 ha, List.foldl_cons, enc_s2, List.foldl_cons, enc_s3, List.foldl_nil, enc_e0, h]; rfl

theorem dec_tb (st : DSt) {v : Int} (h0 : 0 ≤ v) (h1 : v < 64) : decStep st (tb v) = if st.2.1 = 0 then (st.1, 1, v, 0) else if st.2.1 = 1 then (st.1 ++ [st.2.2.1 * 4 + v / 16], 2, v % 16, 0) else if st.2.1 = 2 then (st.1 ++ [st.2.2.1 * 16 + v / 4], 3, v % 4, 0) else (st.1 ++ [st.2.2.1 * 64 + v], 0, 0, 0) := by
  obtain ⟨e1, e2, _⟩ := tb_ok h0 h1
  unfold decStep
  rw [if_neg e2, e1, if_neg (by omega)]
theorem dec_pad (st : DSt) : decStep st 61 = (st.1, st.2.1, st.2.2.1, st.2.2.2 + 1) := by
  unfold decStep; rw [if_pos rfl]
theorem dec_t0 (o : List Int) (l p : Int) {v : Int} (h0 : 0 ≤ v) (h1 : v < 64) : decStep (o, 0, l, p) (tb v) = (o, 1, v, 0) := by rw [dec_tb _ h0 h1]; rfl
theorem dec_t1 (o : List Int) (l p : Int) {v : Int} (h0 : 0 ≤ v) (h1 : v < 64) : decStep (o, 1, l, p) (tb v) = (o ++ [l * 4 + v / 16], 2, v % 16, 0) := by rw [dec_tb _ h0 h1]; rfl
theorem dec_t2 (o : List Int) (l p : Int) {v : Int} (h0 : 0 ≤ v) (h1 : v < 64) : decStep (o, 2, l, p) (tb v) = (o ++ [l * 16 + v / 4], 3, v % 4, 0) := by rw [dec_tb _ h0 h1]; rfl
theorem dec_t3 (o : List Int) (l p : Int) {v : Int} (h0 : 0 ≤ v) (h1 : v < 64) : decStep (o, 3, l, p) (tb v) = (o ++ [l * 64 + v], 0, 0, 0) := by rw [dec_tb _ h0 h1]; rfl
theorem dec2 {a b : Int} (ha : 0 ≤ a ∧ a < 256) (hb : 0 ≤ b ∧ b < 256) : ∃ l p, decFold (encode [a, b]) = ([a, b], 3, l, p) ∧ p = 1 := by
  rw [enc2 ha hb]
  unfold decFold
  rw [List.foldl_cons, dec_t0 _ _ _ (by omega) (by omega), List.foldl_cons, dec_t1 _ _ _ (by omega) (by omega), List.foldl_cons, dec_t2 _ _ _ (by omega) (by omega), List.foldl_cons, dec_pad, List.foldl_nil]
  have e1 : a / 4 * 4 + (a * 256 + b) / 16 % 64 / 16 = a := by omega
  have e2 : (a * 256 + b) / 16 % 64 % 16 * 16 + (a * 256 + b) % 16 * 4 / 4 = b := by omega
  rw [e1, e2]
  exact ⟨_, _, rfl, rfl⟩
theorem dec3 {a b c : Int} (ha : 0 ≤ a ∧ a < 256) (hb : 0 ≤ b ∧ b < 256) (hc : 0 ≤ c ∧ c < 256) : decFold (encode [a, b, c]) = ([a, b, c], 0, 0, 0) := by
  rw [enc3 ha hb hc]
  unfold decFold
  rw [List.foldl_cons, dec_t0 _ _ _ (by omega) (by omega), List.foldl_cons, dec_t1 _ _ _ (by omega) (by omega), List.foldl_cons, dec_t2 _ _ _ (by omega) (by omega), List.foldl_cons, dec_t3 _ _ _ (by omega) (by omega), List.foldl_nil]
  have e1 : a / 4 * 4 + (a * 256 + b) / 16 % 64 / 16 = a := by omega
  have e2 : (a * 256 + b) / 16 % 64 % 16 * 16 + ((a * 256 + b) * 256 + c) % 65536 / 64 % 64 / 4 = b := by omega
  have e3 : ((a * 256 + b) * 256 + c) % 65536 / 64 % 64 % 4 * 64 + ((a * 256 + b) * 256 + c) % 65536 % 64 = c := by omega
  rw [e1, e2, e3]; rfl

theorem byte_int {n : Int} (h : 0 ≤ n ∧ n < 256) : ((n.toNat.toUInt8).toNat : Int) = n := by
  have : n.toNat.toUInt8.toNat = n.toNat := by simp [Nat.toUInt8]; omega
  rw [this]; omega
theorem byteArr_ints {ns : List Int} (h : ∀ n ∈ ns, 0 ≤ n ∧ n < 256) : ((byteArr ns).toList.map fun c => (c.toNat : Int)) = ns := by
  unfold byteArr
  rw [List.map_map]
  conv => rhs; rw [← List.map_id ns]
  exact List.map_congr_left fun n hn => byte_int (h n hn)
theorem byteArr_nats {ns : List Int} (h : ∀ n ∈ ns, 0 ≤ n ∧ n < 256) : (byteArr ns).toList.map (·.toNat) = ns.map (·.toNat) := by
  unfold byteArr
  rw [List.map_map]
  exact List.map_congr_left fun n hn => by
    have := byte_int (h n hn)
    show n.toNat.toUInt8.toNat = n.toNat
    omega
/-- four characters below 128 -/
theorem dec_of {bs : List Int} {c0 c1 c2 c3 : Int} {q l p : Int} (hb : ∀ n ∈ bs, 0 ≤ n ∧ n < 256) (e : encode bs = [c0, c1, c2, c3]) (h0 : 0 ≤ c0 ∧ c0 < 128) (h1 : 0 ≤ c1 ∧ c1 < 128) (h2 : 0 ≤ c2 ∧ c2 < 128) (h3 : 0 ≤ c3 ∧ c3 < 128)
    (hd : decFold (encode bs) = (bs, q, l, p)) (hq : q ≠ 1 ∧ (q = 0 ∨ 4 ≤ q + p)) : DecOk (byteArr bs) ∧ (encL (byteArr bs)).length = 4 := by
  have hE : encL (byteArr bs) = [c0.toNat, c1.toNat, c2.toNat, c3.toNat] := by
    unfold encL encB
    rw [byteArr_ints hb, e]
    rw [byteArr_nats (fun n hn => by simp at hn; omega)]
    rfl
  have hq4 : qd (byteArr bs) = (c0.toNat, c1.toNat, c2.toNat, c3.toNat) := by unfold qd; rw [hE]; rfl
  have hch : chInts (tx (qd (byteArr bs))) = [c0, c1, c2, c3] := by
    rw [hq4]
    have k : ∀ {c : Int}, 0 ≤ c ∧ c < 128 → ((c.toNat.toUInt8).toNat : Int) = c := fun h => byte_int ⟨h.1, by omega⟩
    unfold chInts
    rw [Array.toList_map]
    show [((c0.toNat.toUInt8).toNat : Int), ((c1.toNat.toUInt8).toNat : Int), ((c2.toNat.toUInt8).toNat : Int), ((c3.toNat.toUInt8).toNat : Int)] = _
    rw [k h0, k h1, k h2, k h3]
  refine ⟨⟨fun c hc => ?_, ?_, ?_⟩, by rw [hE]; rfl⟩
  · rw [hq4] at hc
    have hc' : c ∈ [c0.toNat, c1.toNat, c2.toNat, c3.toNat] := hc
    simp only [List.mem_cons, List.not_mem_nil, or_false] at hc'
    omega
  · rw [hch, ← e, hd]; exact hq
  · rw [hch, ← e, hd]
theorem row2_ok (x : Int) : DecOk (row2 x) ∧ (encL (row2 x)).length = 4 ∧ (row2 x).size ≤ 1000 := by
  obtain ⟨ha, hb, _⟩ := oct_range x
  obtain ⟨l, p, hd, hp⟩ := dec2 ha hb
  have t0 := tb_ok (i := oct1 x / 4) (by omega) (by omega)
  have t1 := tb_ok (i := (oct1 x * 256 + oct2 x) / 16 % 64) (by omega) (by omega)
  have t2 := tb_ok (i := (oct1 x * 256 + oct2 x) % 16 * 4) (by omega) (by omega)
  have := dec_of (bs := [oct1 x, oct2 x]) (by intro n hn; simp at hn; rcases hn with rfl | rfl <;> assumption) (enc2 ha hb) t0.2.2 t1.2.2 t2.2.2 ⟨by decide, by decide⟩ hd ⟨by decide, .inr (by omega)⟩
  exact ⟨this.1, this.2, by unfold row2; rw [byteArr_size]; show 2 ≤ 1000; decide⟩
theorem row3_ok (x : Int) : DecOk (row3 x) ∧ (encL (row3 x)).length = 4 ∧ (row3 x).size ≤ 1000 := by
  obtain ⟨hb, ha, hc⟩ := oct_range x
  have t0 := tb_ok (i := oct2 x / 4) (by omega) (by omega)
  have t1 := tb_ok (i := (oct2 x * 256 + oct1 x) / 16 % 64) (by omega) (by omega)
  have t2 := tb_ok (i := ((oct2 x * 256 + oct1 x) * 256 + x.fmod 2) % 65536 / 64 % 64) (by omega) (by omega)
  have t3 := tb_ok (i := ((oct2 x * 256 + oct1 x) * 256 + x.fmod 2) % 65536 % 64) (by omega) (by omega)
  have := dec_of (bs := [oct2 x, oct1 x, x.fmod 2]) (by intro n hn; simp at hn; rcases hn with rfl | rfl | rfl <;> assumption) (enc3 ha hb hc) t0.2.2 t1.2.2 t2.2.2 t3.2.2 (dec3 ha hb hc) ⟨by decide, .inl rfl⟩
  exact ⟨this.1, this.2, by unfold row3; rw [byteArr_size]; show 3 ≤ 1000; decide⟩
end
section
set_option Elab.async false
set_option maxRecDepth 100000
set_option linter.unusedVariables false
set_option linter.unusedSimpArgs false
theorem newOf_len (y : Int) : (newOf y).length ≤ 2 := by
  rw [newOf_eq]
  by_cases g : goes y = 0 <;> by_cases c : comes y = true <;> simp [g, c]
theorem new_len : ∀ ys : List Int, (newText ys).length ≤ 2 * ys.length
  | [] => by simp [newText]
  | y :: ys => by
    have ih := new_len ys
    have h := newOf_len y
    have e : newText (y :: ys) = newOf y ++ newText ys := by simp [newText]
    rw [e, List.length_append, List.length_cons]
    (first | lia | omega)
theorem old_len (ys : List Int) : (oldText ys).length = ys.length := by simp [oldText]
theorem text_row {b : Bool} {ys : List Int} {x : Array UInt8} (h : x ∈ textB b ys) : ∃ y, x = row2 y ∨ x = row3 y := by
  cases b with
  | false =>
    have h : x ∈ oldText ys := h
    unfold oldText at h
    obtain ⟨y, _, rfl⟩ := List.mem_map.mp h
    exact ⟨y, .inl rfl⟩
  | true =>
    have h : x ∈ newText ys := h
    unfold newText at h
    obtain ⟨y, _, hy⟩ := List.mem_flatMap.mp h
    rw [newOf_eq] at hy
    refine ⟨y, ?_⟩
    rcases List.mem_append.mp hy with q | q
    · split at q
      · exact .inl (by simpa using q)
      · simp at q
    · split at q
      · exact .inr (by simpa using q)
      · simp at q
theorem ls_len : ∀ (l : List (Bool × Array UInt8)), l.length = (l.filter fun p => p.1 == false).length + (l.filter fun p => p.1 == true).length
  | [] => rfl
  | p :: l => by
    have ih := ls_len l
    obtain ⟨b, x⟩ := p
    cases b <;> simp [List.filter_cons] <;> simp at ih <;> (first | lia | omega)
theorem row_mem {r : Rn} {p : Bool × Array UInt8} (h : p ∈ r.ls) : p.2 ∈ rowsOf r p.1 := by
  unfold rowsOf
  exact List.mem_map.mpr ⟨p, List.mem_filter.mpr ⟨h, by simp⟩, rfl⟩

theorem lawOk (xs : List Int) : LawOk (NUM xs) := by
  have hlen : (NUM xs).length ≤ 12 := by
    unfold NUM own8
    rw [List.length_append, List.length_take]
    simp only [List.length_cons, List.length_nil]
    (first | lia | omega)
  have seg := seg_of (NUM xs)
  have two : 2 ≤ (runsOf (NUM xs)).length := by
    rw [runsOf_from]
    obtain ⟨c, i, j, h⟩ := from_app (xs.take 4) own8 none 0 0
    exact Nat.le_trans (own_len c i j) h
  have rl : (runsOf (NUM xs)).length ≤ (NUM xs).length := by
    rw [runsOf_from]
    simpa using from_len (NUM xs) none 0 0
  generalize NUM xs = ns at *
  have hT : ∀ b, (textB b ns).length ≤ 24 := fun b => by
    cases b
    · show (oldText ns).length ≤ 24; rw [old_len]; (first | lia | omega)
    · show (newText ns).length ≤ 24; have := new_len ns; (first | lia | omega)
  have bd : ∀ b, ∀ r ∈ runsOf ns, 0 ≤ lo r b ∧ hi r b = lo r b + (rowsOf r b).length ∧ hi r b ≤ 24 := fun b r hr => by
    obtain ⟨q1, _, q3, q4⟩ := seg_bd seg b r hr
    have := hT b
    exact ⟨q1, q3, by (first | lia | omega)⟩
  have rl24 : ∀ b, ∀ r ∈ runsOf ns, (rowsOf r b).length ≤ 24 := fun b r hr => by
    obtain ⟨q1, q2, q3⟩ := bd b r hr; (first | lia | omega)
  have lsl : ∀ r ∈ runsOf ns, r.ls.length ≤ 48 := fun r hr => by
    have h0 := rl24 false r hr
    have h1 := rl24 true r hr
    unfold rowsOf at h0 h1
    rw [List.length_map] at h0 h1
    have := ls_len r.ls
    (first | lia | omega)
  have rows : ∀ r ∈ runsOf ns, ∀ p ∈ r.ls, ∃ y, p.2 = row2 y ∨ p.2 = row3 y := fun r hr p hp => text_row (seg_mem seg p.1 r hr p.2 (row_mem hp))
  refine { len := hlen, rl := rl, rn := fun r hr => ?_, rd := fun r hr => ?_, perm := ?_, two := two, up := seg_up seg, rows := fun r hr b => ?_, led0 := ?_, led1 := ?_, hz0 := fun i hi' => ?_, hz1 := fun i hi' => ?_, sz := ⟨by rw [old_len]; (first | lia | omega), by have := new_len ns; (first | lia | omega)⟩, szr := fun r hr b => Nat.le_trans (rl24 b r hr) (by decide) }
  · obtain ⟨a1, a2, a3⟩ := bd false r hr
    obtain ⟨b1, b2, b3⟩ := bd true r hr
    simp only [lo, Mine.hi, Bool.false_eq_true, if_false, if_true] at a1 a2 a3 b1 b2 b3
    refine ⟨⟨a1, by (first | lia | omega), by (first | lia | omega)⟩, ⟨b1, by (first | lia | omega), by (first | lia | omega)⟩, Nat.le_trans (lsl r hr) (by decide), fun p hp => ?_⟩
    obtain ⟨y, e | e⟩ := rows r hr p hp
    · rw [e]; exact ⟨(row2_ok y).2.2, (row2_ok y).2.1⟩
    · rw [e]; exact ⟨(row3_ok y).2.2, (row3_ok y).2.1⟩
  · refine ⟨fun b => ?_, fun b => ?_, fun p hp => ?_, Nat.le_trans (lsl r hr) (by decide)⟩
    · obtain ⟨a1, a2, a3⟩ := bd b r hr
      exact ⟨a1, by (first | lia | omega), by (first | lia | omega)⟩
    · obtain ⟨a1, a2, a3⟩ := bd b r hr
      (first | lia | omega)
    · obtain ⟨y, e | e⟩ := rows r hr p hp
      · rw [e]; exact (row2_ok y).1
      · rw [e]; exact (row3_ok y).1
  · have := patch_perm ns (runsOf ns) (runsOf ns).length (Nat.le_refl _)
    rwa [List.take_length] at this
  · have := seg_rows seg b [] rfl r hr
    rw [List.nil_append] at this
    exact this
  · exact seg_led seg false [] rfl
  · exact seg_led seg true [] rfl
  · have h := led_len false ((runsOf ns).reverse.take i) (oldD ns) fun r hr => by
      have hm := List.mem_reverse.mp (List.mem_of_mem_take hr)
      obtain ⟨a1, a2, a3⟩ := bd false r hm
      exact ⟨by (first | lia | omega), rl24 _ r hm⟩
    have e : (oldD ns).length = ns.length := by unfold oldD; rw [List.length_map, old_len]
    have e2 : ((runsOf ns).reverse.take i).length ≤ 12 := by rw [List.length_take, List.length_reverse]; (first | lia | omega)
    (first | lia | omega)
  · have h := led_len true ((runsOf ns).reverse.take i) (newD ns) fun r hr => by
      have hm := List.mem_reverse.mp (List.mem_of_mem_take hr)
      obtain ⟨a1, a2, a3⟩ := bd true r hm
      exact ⟨by (first | lia | omega), rl24 _ r hm⟩
    have e : (newD ns).length ≤ 24 := by unfold newD; rw [List.length_map]; exact hT true
    have e2 : ((runsOf ns).reverse.take i).length ≤ 12 := by rw [List.length_take, List.length_reverse]; (first | lia | omega)
    (first | lia | omega)
end
section
theorem codeHd_isTab {h : Heap} {c P : Addr} (x : CodeHd h c P) : isCodeTable h P := by
  obtain ⟨o, vs, file, tf, flags, tg, inF, text, tt, e1, e2, e3, e4, r⟩ := x
  exact ⟨c, o, vs, e1, e2, e3, e4⟩
theorem swappedN2 {env : Env} {x1 x2 : Str} {p1 p2 tp vp : Pos} {k k' : Nat} {e1 e2 : Expr} (hb : env.scope.kind = .function) (h2 : env.kindOf x2 = some .cell) :
    swappedStores [.Tuple [.Name x1 p1, .Name x2 p2] k tp] (.Tuple [e1, e2] k' vp) env = pure none := by
  have hbk := blockKind_fn hb
  unfold swappedStores
  simp only [hbk]
  by_cases hx : env.kindOf x1 = some .local
  · simp [h2, hx, pos_nm, List.filterMap_cons]
  · simp [h2, hx, pos_nm, List.filterMap_cons]
theorem join : PySem.Challenge.rw_qh0019_01.Holds := by
  refine hd ?_
  intro w s₀ s₁ mg mb Gd Y a o pm cd doc dV kV ho hdat hcd hdf hmg hgens args vals as hpre hlay hreads hwell hapart
  have kin := km_in_of Y
  have ktab := km_tabs_of Y
  have hpre1 : WShape.hasAll [] args [.list .int] = true := by
    have : (WShape.hasAll [] args [.list .int] && (PySem.Challenge.rw_qh0019_01.row.toRowW.pre).holds [] { args := args }) = true := hpre
    exact (Bool.and_eq_true _ _ ▸ this).1
  obtain ⟨xs, rfl⟩ := args_ints hpre1
  have hlen : xs.length ≤ 63 := by
    have : (WShape.hasAll [] [WData.list (xs.map .int)] [.list .int] && (PySem.Challenge.rw_qh0019_01.row.toRowW.pre).holds [] { args := [WData.list (xs.map .int)] }) = true := hpre
    have h2 := (Bool.and_eq_true _ _ ▸ this).2
    have h3 : (WTm.and (.not (.lt (.lit (.int ((63 : Nat) : Int))) (.len (.arg 0)))) (.lit (.bool true))).holds [] { args := [WData.list (xs.map .int)] } = true := h2
    have h4 := (holds_andW h3).1
    have e1 : (WTm.lt (.lit (.int ((63 : Nat) : Int))) (.len (.arg 0))).value [] { args := [WData.list (xs.map .int)] } = some (.bool (decide (((63 : Nat) : Int) < ((xs.map WData.int).length : Int)))) := w_lt (by simp [WTm.value]) (by simp [WTm.value])
    unfold WTm.holds at h4
    rw [WTm.value, e1] at h4
    by_cases q : xs.length ≤ 63
    · exact q
    · rw [decide_eq_true (by rw [List.length_map]; omega)] at h4
      simp at h4
  obtain ⟨v, as', hvals, hv⟩ : ∃ v as', vals = [v] ∧ ReadsW [] (classAt s₀.heap) s₁.heap v (.list (xs.map .int)) as' := by
    cases hreads with
    | cons r1 r2 => cases r2; exact ⟨_, _, rfl, r1⟩
  subst hvals
  have hnone : ∀ {b : Addr} {ob : Obj}, s₁.heap.get? b = some ob → ob.cls ≠ .none → b ∉ tabs := fun {b ob} e h q => by
    rw [ktab b q] at e; cases e; exact h rfl
  have hidek : ∀ b ob, b ∉ tabs → s₁.heap.get? b = some ob → (hideAll s₁.heap tabs).get? b = some ob := fun b ob n e => hideAll_get tabs e n
  have nsk : ∀ {b : Addr} {m : Str → Option Value}, b ∉ tabs → s₁.heap.Ns b m → (hideAll s₁.heap tabs).Ns b m := fun n x => let ⟨o, es, ep, e, r⟩ := x; ⟨o, es, ep, hidek _ _ n e, r⟩
  let G : GData := { h := hideAll s₁.heap tabs, mg := mg, mb := mb, g := nsk (by decide) Gd.T.g, b := nsk (by decide) Gd.T.b, nolimit := (let ⟨mc, h1, h2⟩ := Gd.T.nolimit; ⟨mc, nsk (by decide) h1, h2⟩), nodigits := (let ⟨mc, h1, h2⟩ := Gd.T.nodigits; ⟨mc, nsk (by decide) h1, h2⟩), notab := fun a ha => hideAll_none tabs ha }
  have hG : G.h = hideAll s₁.heap tabs := rfl
  have gx : Gx w G := by
    refine ⟨⟨fun b ob e => hidek b ob (fun q => ?_) (kin b ob e), Gd.T.builtins⟩, ?_⟩
    · have n1 : (Kf w).lookup 125 = none := by kernel_rfl
      have n2 : (Kf w).lookup 175 = none := by kernel_rfl
      simp only [tabs, List.mem_cons, List.not_mem_nil, or_false] at q
      rcases q with rfl | rfl
      · rw [n1] at e; cases e
      · rw [n2] at e; cases e
    · obtain ⟨bm, ob, b1, b2, b3, b4, b5, b6⟩ := Gd.T.bmain
      exact ⟨bm, ob, b1, b2, hidek _ _ (hnone b3 (by rw [b4]; nofun)) b3, b4, b5, b6⟩
  have tk : TabOk s₁.heap := fun P hP => ⟨#[], ktab P hP, trivial, fun pos v e => by cases e⟩
  have gi : GI G s₁ := ⟨fun b ob e => of_hideAll tabs e, tk⟩
  have hO : OkO tabs s₁.heap := ⟨fun _ h => h, tk.there, fun a h1 h2 => absurd h1 h2⟩
  have hrep : Rep tabs s₁.heap (.list (xs.map .int)) v := by
    cases hv with
    | @list a₁ o₁ vs₁ n₁ xs₁ as₁ e c d r =>
      rw [Rep]
      exact ⟨_, _, rfl, hnone e (by rw [c]; nofun), ⟨_, e, c, n₁, by rw [d, Array.toArray_toList]⟩, reads_ints r⟩
  have main : codeAny (model PySem.Challenge.rw_qh0019_01.row.toRowW.prog w) callerA (.call (.ref a) ⟨[v], []⟩) (Back tabs s₁ (.bool true)) s₁ := by
    have lk : LawOk (NUM xs) := lawOk xs
    have g : Gr w G := gx.toGr
    have hroom : Room 40 callerA := ⟨rfl, by decide, by decide⟩
    have hcd' : G.h.CodeRec cd (Str.ofString "law") := by
      obtain ⟨c, oc, vs, t, e1, e2, e3, e4⟩ := hcd
      refine ⟨c, oc, vs, t, e1, hidek _ _ (fun q => ?_) e2, e3, e4⟩
      rw [ktab c q] at e2; cases e2; cases e3; simp at e4
    have hdd : dV = .none ∧ kV = .none := by
      exact ⟨(hdf.pos.resolve_right fun h => h.1 rfl).2, (hdf.kw.resolve_right fun h => h.1 rfl).2⟩
    obtain ⟨rfl, rfl⟩ := hdd
    refine enterN (G := G) (O := tabs) (binds := [(Str.ofString "script", v)]) (ρ := [(Str.ofString "script", .list (xs.map .int))]) hroom (hidek _ _ (fun q => by rw [ktab a q] at ho; cases ho; cases hdat) ho) hdat rfl (by dsimp only [docDef]) hcd' rfl rfl rfl rfl rfl rfl gi hO (wpAny_pure ⟨rfl, rfl⟩) (.cons hrep .nil) (by kernel_rfl) ?_
    intro fd L s₂ hn I
    have hr := hroom.le (show 39 + 1 ≤ 40 by decide) |>.deeper (env := callEnvC fd L a)
    have hh : (callerA.deeper (callEnvC fd L a)).handled = none := hr.1
    generalize hA : callerA.deeper (callEnvC fd L a) = A' at hr hh ⊢
    have hfk : fd.scope.kind = .function := I.kind
    have hcells : cellsFrom (L + 1) fd.scope.names [] = [(Str.ofString "ranges", L + 2), (Str.ofString "texts", L + 1)] := by rw [hn]; rfl
    have hm1 : (Str.ofString "texts", L + 1) ∈ (fnFm fd a L tabs s₁).W := by show _ ∈ cellsFrom (L + 1) fd.scope.names []; rw [hcells]; simp
    have hm2 : (Str.ofString "ranges", L + 2) ∈ (fnFm fd a L tabs s₁).W := by show _ ∈ cellsFrom (L + 1) fd.scope.names []; rw [hcells]; simp
    have hc1 : (callEnvC fd L a).cells.lookup (Str.ofString "texts") = some (L + 1) := by show (cellsFrom (L + 1) fd.scope.names []).lookup _ = _; rw [hcells]; rfl
    have hc2 : (callEnvC fd L a).cells.lookup (Str.ofString "ranges") = some (L + 2) := by show (cellsFrom (L + 1) fd.scope.names []).lookup _ = _; rw [hcells]; rfl
    have hnum : cut (xs.map D.int) none (some 4) ++ [D.int 1030, D.int 4096, D.int 2051, D.int 517, D.int 8192, D.int 77, D.int 308, D.int 9999] = (NUM xs).map D.int := by
      unfold cut NUM own8
      simp [List.map_take]
    refine x_assign (F := fnFm fd a L tabs s₁) (d := .list ((NUM xs).map .int)) I (Ev.as (Ev.bin (Ev.sliceL (ds := xs.map .int) (lo := none) (hi := some 4) (by walk_at "ev") EvP.none (EvP.some Ev.int) (fun _ h => by cases h) (fun _ h => by cases h; decide) (by rw [sizeLine_eq, List.length_map]; omega)) (Ev.list (by walk_at "evs")) (op_addL (by have := cut_len (xs.map D.int) none (some 4); rw [List.length_map] at this; rw [sizeLine_eq]; simp only [List.length_cons, List.length_nil]; omega))) (by rw [← hnum])) (put_of (s := s₁) hn (by kernel_rfl)) (by walk_at "put") fun s₃ I₃ => ?_
    generalize hNs : NUM xs = ns at lk I₃
    have hns : ns.length ≤ 100 := Nat.le_trans lk.len (by decide)
    (with_reducible refine' x_asgN (F := fnFm fd a L tabs s₁) (ts := [(Str.ofString "runs", _, .list ((runsOf ns).map fun r => .list r.dat)), (Str.ofString "texts", _, .tuple [.list (oldD ns), .list (newD ns)])]) (d := .tuple [.list ((runsOf ns).map fun r => .list r.dat), .tuple [.list (oldD ns), .list (newD ns)]]) I₃ ?b1 ?b2 ?b3 ?b4 (fun s₄ I₄ => ?next) ?b5 ?b6 ?b7)
    case b1 => exact Ev.tuple (Evs.cons (Ev.callDef (by walk_at "gl") (gx.kin 146 _ rfl) rfl (by walk_at "evs") (spec_runs (k := 38) gx.toGr hr ns hns)) (Evs.cons (Ev.callDef (by walk_at "gl") (gx.kin 153 _ rfl) rfl (by walk_at "evs") (spec_texts (k := 38) gx.toGr hr ns hns)) Evs.nil)) (by show 2 ≤ sizeLine; decide)
    case b2 => exact unp_tuple hh
    case b3 =>
      intro p hp
      simp only [List.mem_cons, List.not_mem_nil, or_false] at hp
      rcases hp with rfl | rfl
      · exact .inl (kind_of hn (by kernel_rfl))
      · exact .inr ⟨_, hm1⟩
    case b4 =>
      show PutAll [(Str.ofString "runs", .list ((runsOf ns).map fun r => .list r.dat)), (Str.ofString "texts", .tuple [.list (oldD ns), .list (newD ns)])] _ _
      exact .cons (by walk_at "put") (.cons (by walk_at "put") .nil)
    case b5 => with_unfolding_all rfl
    case b6 => with_unfolding_all rfl
    case b7 => exact swappedN2 I.kind (kind_of hn (by kernel_rfl))
    case next =>
    have hrl := lk.rl
    have hrl12 := lk.len
    (with_reducible refine' x_assignC (F := fnFm fd a L tabs s₁) (patchTo ns (runsOf ns) (runsOf ns).length) Rn.ent Rn.rd [] (fun r => [(Str.ofString "entry", r.ent)]) [] I₄ ?hok ?hi Sees.nil ?hclos ?hap ?htgt ?hsub ?helt ?hk ?P (fun s₅ I₅ => ?next) ?hz ?hln ?hnm ?hcell ?hkind ?hnames ?hs)
    walk_at "asgC"
    case hok => exact fun _ => trivial
    case hi => exact IterE.of (Ev.callDef (by walk_at "gl") (gx.kin 158 _ rfl) rfl (by walk_at "evs") (spec_patch (k := 35) g hr ns (runsOf ns) hns hrl lk.rn)) (iters_list hh)
    case hap => exact List.Pairwise.nil
    case hsub => exact fun _ _ => List.nil_sublist _
    case P => walk_at "put"
    case hz => rw [lk.perm.length_eq, sizeLine_eq]; omega
    case htgt => exact fun c hc L Dd bs kp ok => Tgt.name (.inl (by with_unfolding_all rfl)) PutTo.nil
    case helt => exact fun r hr' L Dd bs kp ok C' => Ev.callDef (by walk_at "gl") (gx.kin 173 _ rfl) rfl (by walk_at "evs") (spec_read (k := 35) g hr r (lk.rd r (lk.perm.mem_iff.mp hr')))
    case next =>
    have hu : A'.units + 100 < cLine := by have := hr.2.2; unfold cLine; omega
    (with_reducible refine' x_if (F := fnFm fd a L tabs s₁) (b := false) I₅ ?tst (fun hb => absurd hb (by decide)) (fun _ s₆ I₆ => ?next))
    case tst =>
      (with_reducible refine' Tr.cmp (d₁ := .list ((runsOf ns).map rngD)) (d₂ := .list ((runsOf ns).map rngD)) ?l ?r (cmpne_same (rng_ok _) (by have := rng_dep (runsOf ns); omega)) ?m)
      case m => with_unfolding_all rfl
      case l =>
        (with_reducible refine' Ev.callBlt ?c1 ?c2 (call_sorted (k := 30) (rs := patchTo ns (runsOf ns) (runsOf ns).length) (hr.le (by decide)) (by rw [lk.perm.length_eq]; exact lk.two) (by rw [lk.perm.length_eq]; omega) lk.perm.symm (lk.up false)) ?c3 ?c4 ?c5)
        case c1 => walk_at "gl"
        case c3 => with_unfolding_all rfl
        case c4 => with_unfolding_all rfl
        case c5 => with_unfolding_all rfl
        case c2 =>
          refine Evs.cons ?cc Evs.nil
          (with_reducible refine' Ev.comp (patchTo ns (runsOf ns) (runsOf ns).length) Rn.rd rngD [] (fun r => [(Str.ofString "ranges", rngD r), (Str.ofString "others", rngD r), (Str.ofString "rows", rowsD r)]) [] ?hi Sees.nil ?hclos ?hap ?htgt ?hsub ?helt ?hz ?hcell ?hkind ?hnames ?hs)
          case hcell => decide
          case hkind => rfl
          case hnames => decide
          case hs => intro _; with_unfolding_all rfl
          case hclos => with_unfolding_all rfl
          case hap => exact List.Pairwise.nil
          case hsub => exact fun _ _ => List.nil_sublist _
          case hz => rw [lk.perm.length_eq, sizeLine_eq]; omega
          case hi => exact IterE.of (d := .list ((patchTo ns (runsOf ns) (runsOf ns).length).map Rn.rd)) (by walk_at "ev") (iters_list hh)
          case htgt =>
            intro r hr' L₂ Dd bs kp ok
            refine Tgt.unp (d := r.rd) (ts := [(Str.ofString "ranges", _, rngD r), (Str.ofString "others", _, rngD r), (Str.ofString "rows", _, rowsD r)]) (unp_tuple hh) ?_ ?_ (by with_unfolding_all rfl)
            · intro q hq
              simp only [List.mem_cons, List.not_mem_nil, or_false] at hq
              rcases hq with rfl | rfl | rfl <;> exact .inl (by with_unfolding_all rfl)
            · show PutAll [(Str.ofString "ranges", rngD r), (Str.ofString "others", rngD r), (Str.ofString "rows", rowsD r)] _ _
              exact .cons (by walk_at "put") (.cons (by walk_at "put") (.cons (by walk_at "put") .nil))
          case helt => exact fun r hr' L₂ Dd bs kp ok C' => Ev.name (by walk_at "mem") (by decide)
      case r =>
        (with_reducible refine' Ev.comp (runsOf ns) (fun r => D.list r.dat) rngD [] (fun r => [(Str.ofString "run", D.list r.dat)]) [] ?hi Sees.nil ?hclos ?hap ?htgt ?hsub ?helt ?hz ?hcell ?hkind ?hnames ?hs)
        case hcell => decide
        case hkind => rfl
        case hnames => decide
        case hs => intro _; with_unfolding_all rfl
        case hclos => with_unfolding_all rfl
        case hap => exact List.Pairwise.nil
        case hsub => exact fun _ _ => List.nil_sublist _
        case hz => rw [sizeLine_eq]; omega
        case hi => exact IterE.of (d := .list ((runsOf ns).map fun r => D.list r.dat)) (by walk_at "ev") (iters_list hh)
        case htgt => exact fun c hc L Dd bs kp ok => Tgt.name (.inl (by with_unfolding_all rfl)) PutTo.nil
        case helt => exact fun r hr' L₂ Dd bs kp ok C' => Ev.as (Ev.sliceL (ds := r.dat) (lo := none) (hi := some 2) (Ev.name (by walk_at "mem") (by decide)) EvP.none (EvP.some Ev.int) (fun _ h => by cases h) (fun _ h => by cases h; decide) (by show 3 ≤ sizeLine; decide)) rfl
    case next =>
    refine x_nil ?_
    refine x_for (F := fnFm fd a L tabs s₁) (ds := (patchTo ns (runsOf ns) (runsOf ns).length).map Rn.rd) (fun _ => [(Str.ofString "script", .list (xs.map .int)), (Str.ofString "numbers", .list (ns.map .int)), (Str.ofString "runs", .list ((runsOf ns).map fun r => .list r.dat)), (Str.ofString "texts", .tuple [.list (oldD ns), .list (newD ns)]), (Str.ofString "read", .list ((patchTo ns (runsOf ns) (runsOf ns).length).map Rn.rd))]) (fun _ => []) I₆ (fun _ => trivial) (IterE.of (Ev.name (by walk_at "mem") (by decide)) (iters_list hh)) (fun P i d s₇ v hd J hR => ?turn) (fun s₇ I₇ => ?next) (by intro _; with_unfolding_all rfl)
    case turn =>
      obtain ⟨r, hr', rfl⟩ : ∃ r ∈ patchTo ns (runsOf ns) (runsOf ns).length, Rn.rd r = d := by
        obtain ⟨r, h1, h2⟩ := List.mem_map.mp (List.mem_of_getElem? hd)
        exact ⟨r, h1, h2⟩
      have hrm : r ∈ runsOf ns := lk.perm.mem_iff.mp hr'
      refine (Tgt.unp (F := (fnFm fd a L tabs s₁).with P) (d := r.rd) (ts := [(Str.ofString "ranges", _, rngD r), (Str.ofString "others", _, rngD r), (Str.ofString "rows", _, rowsD r)]) (ρ' := [(Str.ofString "script", .list (xs.map .int)), (Str.ofString "numbers", .list (ns.map .int)), (Str.ofString "runs", .list ((runsOf ns).map fun r => .list r.dat)), (Str.ofString "texts", .tuple [.list (oldD ns), .list (newD ns)]), (Str.ofString "read", .list ((patchTo ns (runsOf ns) (runsOf ns).length).map Rn.rd)), (Str.ofString "ranges", rngD r), (Str.ofString "others", rngD r), (Str.ofString "rows", rowsD r)]) (unp_tuple hh) ?u1 ?u2 (by with_unfolding_all rfl)) [] s₇ v _ J hR (fun s₈ J₈ => ?body)
      case u1 =>
        intro q hq
        simp only [List.mem_cons, List.not_mem_nil, or_false] at hq
        rcases hq with rfl | rfl | rfl
        · exact .inr ⟨_, hm2⟩
        · exact .inl (kind_of hn (by kernel_rfl))
        · exact .inl (kind_of hn (by kernel_rfl))
      case u2 =>
        show PutAll [(Str.ofString "ranges", rngD r), (Str.ofString "others", rngD r), (Str.ofString "rows", rowsD r)] _ _
        exact .cons (by walk_at "put") (.cons (by walk_at "put") (.cons (by walk_at "put") .nil))
      case body =>
        (with_reducible refine' x_if (F := (fnFm fd a L tabs s₁).with P) (b := false) J₈ ?tst (fun hb => absurd hb (by decide)) (fun _ s₉ J₉ => ?nx))
        case tst =>
          have hrd : rngD r = .list [sideD r false, sideD r true] := rfl
          have t1 : Op2 PySem.Challenge.rw_qh0019_01.row.toRowW.prog w A' G ((fnFm fd a L tabs s₁).with P).O (compareOp .NotEq) (rngD r) (rngD r) (.bool false) := cmpne_same (ds := [sideD r false, sideD r true]) rfl (by have : deps [sideD r false, sideD r true] = 1 := rfl; omega)
          have t2 : Op2 PySem.Challenge.rw_qh0019_01.row.toRowW.prog w A' G ((fnFm fd a L tabs s₁).with P).O (compareOp .NotEq) (rowsD r) (rowsD r) (.bool false) := cmpne_same (ds := [.list ((rowsOf r false).map .bytes), .list ((rowsOf r true).map .bytes)]) (by rw [eqOks, eqOks, eqOks, eqOk, eqOk, byt_ok, byt_ok]; rfl) (by rw [deps, deps, deps, dep, dep, byt_dep, byt_dep]; omega)
          refine Tr.orF (Tr.cmp (Ev.name (d := rngD r) (by walk_at "mem") (by decide)) (Ev.name (d := rngD r) (by walk_at "mem") (by decide)) t1 (by with_unfolding_all rfl)) (Tr.orF (Tr.cmp (Ev.name (d := rowsD r) (by walk_at "mem") (by decide)) ?cmp2 t2 (by with_unfolding_all rfl)) Tr.orNil)
          case cmp2 =>
          unfold rowsD
          (with_reducible refine' Ev.comp [false, true] (fun b => D.int (if b then 1 else 0)) (fun b => .list ((rowsOf r b).map .bytes)) [(Str.ofString "texts", .tuple [.list (oldD ns), .list (newD ns)]), (Str.ofString "ranges", rngD r)] (fun b => [(Str.ofString "texts", .tuple [.list (oldD ns), .list (newD ns)]), (Str.ofString "ranges", rngD r), (Str.ofString "side", D.int (if b then 1 else 0))]) [(Str.ofString "texts", L + 1), (Str.ofString "ranges", L + 2)] ?hi ?hsee ?hclos ?hap ?htgt ?hsub ?helt ?hz ?hcell ?hkind ?hnames ?hs)
          case hcell => decide
          case hkind => rfl
          case hnames => decide
          case hs => intro _; with_unfolding_all rfl
          case hz => decide
          case hi => exact IterE.of (d := .list [.int 0, .int 1]) (by walk_at "ev") (iters_list hh)
          case hsee => exact Sees.cons (Sees.cons Sees.nil (by walk_at "mem") (by simp) (rel_lookup hn hfk (by rfl) (by rfl)) hc2.symm (kind_of hn (by kernel_rfl))) (by walk_at "mem") (by simp only [List.map_cons, List.map_nil, List.mem_singleton]; decide) (rel_lookup hn hfk (by rfl) (by rfl)) hc1.symm (kind_of hn (by kernel_rfl))
          case hclos => exact clos_of hcells rfl rfl
          case hap => simp
          case hsub => exact fun b _ => List.Sublist.cons_cons _ (List.Sublist.cons_cons _ (List.nil_sublist _))
          case htgt => exact fun b hb L Dd bs kp ok => Tgt.name (.inl (by with_unfolding_all rfl)) (by walk_at "put")
          case helt =>
            intro b hb L₂ Dd bs kp ok C'
            obtain ⟨q1, q2, q3⟩ := (lk.rd r hrm).rng b
            have hrow : (rowsOf r b).map D.bytes = cut (if b then newD ns else oldD ns) (some (lo r b)) (some (Mine.hi r b)) := by
              rw [lk.rows r hrm b, cut_map]
              cases b <;> rfl
            rw [hrow]
            obtain ⟨z1, z2⟩ := lk.sz
            cases b
            · exact Ev.sliceL (ds := oldD ns) (lo := some (lo r false)) (hi := some (Mine.hi r false)) (Ev.as (d := .list (oldD ns)) (by walk_at "ev") rfl) (EvP.some (Ev.as (d := .int (lo r false)) (Ev.sub (Ev.sub (d₁ := .list [sideD r false, sideD r true]) (Ev.as (d := rngD r) (Ev.name (by walk_at "mem") (by decide)) rfl) (Ev.name (by walk_at "mem") (by decide)) (d := sideD r false) (sub_list (by decide) (by decide) rfl)) Ev.int (d := .int (lo r false)) (sub_list (by decide) (by decide) rfl)) rfl)) (EvP.some (Ev.as (d := .int (Mine.hi r false)) (Ev.sub (Ev.sub (d₁ := .list [sideD r false, sideD r true]) (Ev.as (d := rngD r) (Ev.name (by walk_at "mem") (by decide)) rfl) (Ev.name (by walk_at "mem") (by decide)) (d := sideD r false) (sub_list (by decide) (by decide) rfl)) Ev.int (d := .int (Mine.hi r false)) (sub_list (by decide) (by decide) rfl)) rfl)) (fun _ h => by cases h; exact q1) (fun _ h => by cases h; omega) (by unfold oldD; rw [List.length_map, sizeLine_eq]; omega)
            · exact Ev.sliceL (ds := newD ns) (lo := some (lo r true)) (hi := some (Mine.hi r true)) (Ev.as (d := .list (newD ns)) (by walk_at "ev") rfl) (EvP.some (Ev.as (d := .int (lo r true)) (Ev.sub (Ev.sub (d₁ := .list [sideD r false, sideD r true]) (Ev.as (d := rngD r) (Ev.name (by walk_at "mem") (by decide)) rfl) (Ev.name (by walk_at "mem") (by decide)) (d := sideD r true) (sub_list (by decide) (by decide) rfl)) Ev.int (d := .int (lo r true)) (sub_list (by decide) (by decide) rfl)) rfl)) (EvP.some (Ev.as (d := .int (Mine.hi r true)) (Ev.sub (Ev.sub (d₁ := .list [sideD r false, sideD r true]) (Ev.as (d := rngD r) (Ev.name (by walk_at "mem") (by decide)) rfl) (Ev.name (by walk_at "mem") (by decide)) (d := sideD r true) (sub_list (by decide) (by decide) rfl)) Ev.int (d := .int (Mine.hi r true)) (sub_list (by decide) (by decide) rfl)) rfl)) (fun _ h => by cases h; exact q1) (fun _ h => by cases h; omega) (by unfold newD; rw [List.length_map, sizeLine_eq]; omega)
        case nx =>
          refine x_nil (x_nil ⟨.inl rfl, J₉.less ?_⟩)
          exact .cons_cons _ (.cons_cons _ (.cons_cons _ (.cons_cons _ (.cons_cons _ (List.nil_sublist _)))))
    case next =>
    have pm : (runsOf ns).reverse.Perm (patchTo ns (runsOf ns) (runsOf ns).length) := (List.reverse_perm _).trans lk.perm.symm
    have hpl := lk.perm.length_eq
    have hnn : ∀ b, ∀ r ∈ patchTo ns (runsOf ns) (runsOf ns).length, 0 ≤ lo r b ∧ 0 ≤ Mine.hi r b := fun b r hr' => by
      obtain ⟨q1, q2, q3⟩ := (lk.rd r (lk.perm.mem_iff.mp hr')).rng b
      exact ⟨q1, by omega⟩
    have hzr : ∀ b, ∀ r ∈ patchTo ns (runsOf ns) (runsOf ns).length, (rowsOf r (!b)).length ≤ 1000 := fun b r hr' => Nat.le_trans (lk.szr r (lk.perm.mem_iff.mp hr') _) (by decide)
    have led0 := spec_led (prog := PySem.Challenge.rw_qh0019_01.row.toRowW.prog) (A := A') (O := tabs) gx false (k := 29) (rs := patchTo ns (runsOf ns) (runsOf ns).length) (ts := (runsOf ns).reverse) (R := oldD ns) hr (by rw [hpl]; exact lk.two) (by rw [hpl]; omega) pm (List.pairwise_reverse.mpr (lk.up false)) (hnn false) lk.hz0 (hzr false)
    have led1 := spec_led (prog := PySem.Challenge.rw_qh0019_01.row.toRowW.prog) (A := A') (O := tabs) gx true (k := 29) (rs := patchTo ns (runsOf ns) (runsOf ns).length) (ts := (runsOf ns).reverse) (R := newD ns) hr (by rw [hpl]; exact lk.two) (by rw [hpl]; omega) pm (List.pairwise_reverse.mpr (lk.up true)) (hnn true) lk.hz1 (hzr true)
    rw [lk.led0] at led0
    rw [lk.led1] at led1
    have e0 : ∀ (xs : List (Array UInt8)), Op2 PySem.Challenge.rw_qh0019_01.row.toRowW.prog w A' G tabs (compareOp .Eq) (.list (xs.map .bytes)) (.list (xs.map .bytes)) (.bool true) := fun xs => cmp_same (by rw [eqOk, byt_ok]) (by rw [dep, byt_dep]; omega)
    refine x_ret I₇ (Ev.as (d := .bool (true && true)) (Ev.and2 (Ev.cmp (Ev.callDef (by walk_at "gl") (gx.kin 180 _ rfl) rfl (Evs.cons (Ev.as (d := .list (oldD ns)) (by walk_at "ev") rfl) (Evs.cons (Ev.name (by walk_at "mem") (by decide)) (Evs.cons (Ev.as (d := .int (sdI false)) Ev.int rfl) Evs.nil))) led0) (Ev.as (d := .list (newD ns)) (by walk_at "ev") rfl) (e0 (newText ns)) (by with_unfolding_all rfl)) (fun _ => Ev.cmp (Ev.callDef (by walk_at "gl") (gx.kin 180 _ rfl) rfl (Evs.cons (Ev.as (d := .list (newD ns)) (by walk_at "ev") rfl) (Evs.cons (Ev.name (by walk_at "mem") (by decide)) (Evs.cons (Ev.as (d := .int (sdI true)) Ev.int rfl) Evs.nil))) led1) (Ev.as (d := .list (oldD ns)) (by walk_at "ev") rfl) (e0 (oldText ns)) (by with_unfolding_all rfl))) rfl) fun s' v I' r => ⟨v, rfl, I'.step, r⟩
  refine wpAny_call (codeAny_mono main fun r s' q => ?_)
  obtain ⟨u, rfl, st, ru⟩ := q
  rw [Rep] at ru; subst ru
  refine ⟨.inl ⟨.bool true, .bool true, [], rfl, fun _ => rfl, .bool true, by kernel_rfl, fun _ => ⟨List.nodup_nil, fun _ h => by simp at h⟩⟩, ⟨fun b ob e => ?_, fun b ob e => ?_⟩, st.os, ?_⟩
  · by_cases q : b ∈ tabs
    · obtain ⟨ps, e', _⟩ := (st.tab tk) b q
      rw [ktab b q] at e; cases e
      refine .inr (.inl ⟨?_, rfl, #[], ps, rfl, by rw [e']; simp [tabObj]⟩)
      simp only [tabs, List.mem_cons, List.not_mem_nil, or_false] at q
      rcases q with rfl | rfl
      · exact codeHd_isTab (gx.toGr.hd125.keeps gi.keep)
      · exact codeHd_isTab (gx.toGr.hd175.keeps gi.keep)
    · exact .inl (st.keep b ob q e)
  · by_cases q : b ∈ tabs
    · obtain ⟨ps, e', _⟩ := (st.tab tk) b q; exact ⟨_, e'⟩
    · exact ⟨_, st.keep b ob q e⟩
  · obtain ⟨l, e, hl⟩ := st.gens
    rw [e, hgens]
    intro y hy
    exact hl y (by simpa using hy)
end
end Mine
set_option maxHeartbeats 8000000 in
theorem PySem.Challenge.cw_qh0019_01_holds : PySem.Challenge.rw_qh0019_01.Holds :=
  Mine.join
