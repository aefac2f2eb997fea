import PyProof.Rows.All
import Wide.All
import Open.Line
import OpenK.KMore
import OpenK.KOps
import OpenK.KMeth
import OpenK.KDict
import OpenK.KTop
import OpenK.KCell
import KE.LcSums
import Wide.FinOn
import PySem.Challenge.RW_im0118_01
set_option Elab.async false
namespace Mine
section
open PySem PySem.W PyProof.Rows PySem.Calls PySem.Spec
set_option Elab.async false
set_option autoImplicit false

/-! values without tokens -/
inductive V where
  | int (i : Int) | str (x : List Nat) | bool (b : Bool) | none | ref (a : Addr) | tup (a b : V)

noncomputable def Rep (h : Heap) : V → Value → Prop
  | .int i, c => ∃ t, c = .int i t
  | .str x, c => ∃ t, c = .str ⟨x.toArray⟩ t
  | .bool b, c => c = .bool b
  | .none, c => c = .none
  | .ref a, c => c = .ref a
  | .tup x y, c => ∃ b cx cy, c = .ref b ∧ h.IsTuple b #[cx, cy] ∧ Rep h x cx ∧ Rep h y cy

noncomputable def Reps (h : Heap) : List V → List Value → Prop
  | [], [] => True
  | v :: vs, c :: cs => Rep h v c ∧ Reps h vs cs
  | _, _ => False

noncomputable abbrev AH := Addr → Option (List V)
structure St where
  loc : List (Option V)
  H : AH
noncomputable def St.set (σ : St) (i : Nat) (v : V) : St := ⟨σ.loc.set i (some v), σ.H⟩
noncomputable def St.setH (σ : St) (a : Addr) (vs : List V) : St := ⟨σ.loc, fun b => if b = a then some vs else σ.H b⟩

structure Cx where
  A : Around
  name : Str
  scope : Scope
  L : Addr
  fa : Addr
  cd : Value
  h₀ : Heap
  s₀ : Shared
  names : List Str
  extra : List (Addr × Obj)
noncomputable abbrev Cx.env (cx : Cx) : Env := envOf cx.name cx.scope cx.L cx.fa cx.cd
structure Cx.Ok (cx : Cx) : Prop where
  handled : cx.A.handled = none
  kind : cx.scope.kind = .function
  loc : ∀ x ∈ cx.names, (cx.env).kindOf x = some .local
  nodup : cx.names.Nodup
  dbg : ∀ x ∈ cx.names, (x == ("__debug__" : Str)) = false

structure At (cx : Cx) (σ : St) (s : Shared) : Prop where
  sh : s = { cx.s₀ with heap := s.heap, toks := s.toks }
  fr : ∃ m, Fr cx.h₀ cx.L s.heap m ∧ ∀ (i : Nat) (x : Str) (v : V), cx.names[i]? = some x → σ.loc[i]? = some (some v) → ∃ c, m x = some c ∧ Rep s.heap v c
  hp : ∀ a vs, σ.H a = some vs → a ≠ cx.L ∧ cx.h₀.get? a = none ∧ ∃ cs : List Value, s.heap.PlainList a cs.toArray ∧ Reps s.heap vs cs
  ex : ∀ p ∈ cx.extra, s.heap.get? p.1 = some p.2 ∧ p.1 ≠ cx.L ∧ σ.H p.1 = none

noncomputable def Keep (cx : Cx) (σ : St) (s : Shared) (σ' : St) (s' : Shared) : Prop :=
  ∀ b o, s.heap.get? b = some o → b ≠ cx.L → σ.H b = none → s'.heap.get? b = some o ∧ σ'.H b = none

theorem Keep.refl {cx : Cx} {σ : St} {s : Shared} : Keep cx σ s σ s := fun _ _ h _ h2 => ⟨h, h2⟩
theorem Keep.trans {cx : Cx} {σ σ' σ'' : St} {s s' s'' : Shared} (h : Keep cx σ s σ' s') (k : Keep cx σ' s' σ'' s'') : Keep cx σ s σ'' s'' :=
  fun b o h1 h2 h3 => k b o (h b o h1 h2 h3).1 h2 (h b o h1 h2 h3).2
theorem Keep.heapEq {cx : Cx} {σ σ' : St} {s s' : Shared} (h : s'.heap = s.heap) (k : σ'.H = σ.H) : Keep cx σ s σ' s' :=
  fun b o h1 _ h3 => ⟨by rw [h]; exact h1, by rw [k]; exact h3⟩

theorem PlainList.notTuple {h : Heap} {a : Addr} {i j : Array Value} (x : h.PlainList a i) (y : h.IsTuple a j) : False := by
  obtain ⟨n, e⟩ := x
  obtain ⟨o, e', c, _⟩ := y
  rw [e] at e'; cases e'; simp at c
theorem At.tupleNe {cx : Cx} {σ : St} {s : Shared} (h : At cx σ s) {b : Addr} {i : Array Value} (t : s.heap.IsTuple b i) : b ≠ cx.L ∧ σ.H b = none := by
  constructor
  · rintro rfl
    obtain ⟨m, F, _⟩ := h.fr
    obtain ⟨o, es, ep, ho, hd, _⟩ := F.ns
    obtain ⟨o', e', c, n, d⟩ := t
    rw [ho] at e'; cases e'; rw [hd] at d; cases d
  · cases q : σ.H b with
    | none => rfl
    | some vs =>
      obtain ⟨_, _, cs, p, _⟩ := h.hp b vs q
      exact (PlainList.notTuple p t).elim

theorem Rep.mono {h h' : Heap} (k : ∀ b i, h.IsTuple b i → h'.IsTuple b i) : ∀ {v : V} {c : Value}, Rep h v c → Rep h' v c
  | .int _, _, r => r
  | .str _, _, r => r
  | .bool _, _, r => r
  | .none, _, r => r
  | .ref _, _, r => r
  | .tup _ _, _, ⟨b, cx, cy, e, t, rx, ry⟩ => ⟨b, cx, cy, e, k _ _ t, Rep.mono k rx, Rep.mono k ry⟩
theorem Reps.mono {h h' : Heap} (k : ∀ b i, h.IsTuple b i → h'.IsTuple b i) : ∀ {vs : List V} {cs : List Value}, Reps h vs cs → Reps h' vs cs
  | [], [], _ => trivial
  | _ :: _, _ :: _, r => ⟨r.1.mono k, Reps.mono k r.2⟩
theorem Keep.tuples {cx : Cx} {σ σ' : St} {s s' : Shared} (h : At cx σ s) (k : Keep cx σ s σ' s') : ∀ b i, s.heap.IsTuple b i → s'.heap.IsTuple b i := by
  intro b i t
  have n := h.tupleNe t
  obtain ⟨o, e, r⟩ := t
  exact ⟨o, (k b o e n.1 n.2).1, r⟩
theorem Rep.keep {cx : Cx} {σ σ' : St} {s s' : Shared} {v : V} {c : Value} (r : Rep s.heap v c) (h : At cx σ s) (k : Keep cx σ s σ' s') : Rep s'.heap v c := r.mono (k.tuples h)
theorem Reps.keep {cx : Cx} {σ σ' : St} {s s' : Shared} {v : List V} {c : List Value} (r : Reps s.heap v c) (h : At cx σ s) (k : Keep cx σ s σ' s') : Reps s'.heap v c := r.mono (k.tuples h)
theorem Reps.length {h : Heap} : ∀ {vs : List V} {cs : List Value}, Reps h vs cs → vs.length = cs.length
  | [], [], _ => rfl
  | _ :: _, _ :: _, r => by simp [Reps.length r.2]
theorem Reps.get {h : Heap} : ∀ {vs : List V} {cs : List Value} {i : Nat} {v : V}, Reps h vs cs → vs[i]? = some v → ∃ c, cs[i]? = some c ∧ Rep h v c
  | _ :: _, c :: _, 0, _, r, e => ⟨c, rfl, by cases e; exact r.1⟩
  | _ :: _, _ :: _, i + 1, v, r, e => by
    obtain ⟨c', h1, h2⟩ := Reps.get (i := i) (v := v) r.2 (by simpa using e)
    exact ⟨c', by simpa using h1, h2⟩
  | [], [], _, _, _, e => by cases e
theorem Reps.append {h : Heap} : ∀ {vs vs' : List V} {cs cs' : List Value}, Reps h vs cs → Reps h vs' cs' → Reps h (vs ++ vs') (cs ++ cs')
  | [], _, [], _, _, r => r
  | _ :: _, _, _ :: _, _, r, r' => ⟨r.1, Reps.append r.2 r'⟩
theorem Reps.take {h : Heap} : ∀ {vs : List V} {cs : List Value} (n : Nat), Reps h vs cs → Reps h (vs.take n) (cs.take n)
  | [], [], n, _ => by simp [Reps]
  | _ :: _, _ :: _, 0, _ => trivial
  | _ :: _, _ :: _, n + 1, r => ⟨r.1, Reps.take n r.2⟩
theorem Reps.drop {h : Heap} : ∀ {vs : List V} {cs : List Value} (n : Nat), Reps h vs cs → Reps h (vs.drop n) (cs.drop n)
  | [], [], n, _ => by simp [Reps]
  | _ :: _, _ :: _, 0, r => r
  | _ :: _, _ :: _, n + 1, r => Reps.drop n r.2
theorem Reps.set {h : Heap} {v : V} {c : Value} (rv : Rep h v c) : ∀ {vs : List V} {cs : List Value} (n : Nat), Reps h vs cs → Reps h (vs.set n v) (cs.set n c)
  | [], [], n, _ => by simp [Reps]
  | _ :: _, _ :: _, 0, r => ⟨rv, r.2⟩
  | _ :: _, _ :: _, n + 1, r => ⟨r.1, Reps.set rv n r.2⟩
theorem Reps.eraseIdx {h : Heap} : ∀ {vs : List V} {cs : List Value} (n : Nat), Reps h vs cs → Reps h (vs.eraseIdx n) (cs.eraseIdx n)
  | [], [], n, _ => by simp [Reps]
  | _ :: _, _ :: _, 0, r => r.2
  | _ :: _, _ :: _, n + 1, r => ⟨r.1, Reps.eraseIdx n r.2⟩

theorem reps0 {h : Heap} {cs : List Value} (r : Reps h [] cs) : cs = [] := by
  cases cs with
  | nil => rfl
  | cons _ _ => exact r.elim
theorem repsC {h : Heap} {v : V} {vs : List V} {cs : List Value} (r : Reps h (v :: vs) cs) : ∃ c ds, cs = c :: ds ∧ Rep h v c ∧ Reps h vs ds := by
  cases cs with
  | nil => exact r.elim
  | cons c ds => exact ⟨c, ds, rfl, r.1, r.2⟩
theorem reps1 {h : Heap} {v : V} {cs : List Value} (r : Reps h [v] cs) : ∃ c, cs = [c] ∧ Rep h v c := by
  obtain ⟨c, ds, rfl, r1, r⟩ := repsC r
  rw [reps0 r]; exact ⟨c, rfl, r1⟩
theorem reps2 {h : Heap} {v1 v2 : V} {cs : List Value} (r : Reps h [v1, v2] cs) : ∃ c1 c2, cs = [c1, c2] ∧ Rep h v1 c1 ∧ Rep h v2 c2 := by
  obtain ⟨c, ds, rfl, r1, r⟩ := repsC r
  obtain ⟨d, rfl, r2⟩ := reps1 r
  exact ⟨c, d, rfl, r1, r2⟩
theorem reps3 {h : Heap} {v1 v2 v3 : V} {cs : List Value} (r : Reps h [v1, v2, v3] cs) : ∃ c1 c2 c3, cs = [c1, c2, c3] ∧ Rep h v1 c1 ∧ Rep h v2 c2 ∧ Rep h v3 c3 := by
  obtain ⟨c, ds, rfl, r1, r⟩ := repsC r
  obtain ⟨d, e, rfl, r2⟩ := reps2 r
  exact ⟨c, d, e, rfl, r1, r2⟩
theorem reps4 {h : Heap} {v1 v2 v3 v4 : V} {cs : List Value} (r : Reps h [v1, v2, v3, v4] cs) : ∃ c1 c2 c3 c4, cs = [c1, c2, c3, c4] ∧ Rep h v1 c1 ∧ Rep h v2 c2 ∧ Rep h v3 c3 ∧ Rep h v4 c4 := by
  obtain ⟨c, ds, rfl, r1, r⟩ := repsC r
  obtain ⟨d, e, f, rfl, r2⟩ := reps3 r
  exact ⟨c, d, e, f, rfl, r1, r2⟩
theorem reps5 {h : Heap} {v1 v2 v3 v4 v5 : V} {cs : List Value} (r : Reps h [v1, v2, v3, v4, v5] cs) : ∃ c1 c2 c3 c4 c5, cs = [c1, c2, c3, c4, c5] ∧ Rep h v1 c1 ∧ Rep h v2 c2 ∧ Rep h v3 c3 ∧ Rep h v4 c4 ∧ Rep h v5 c5 := by
  obtain ⟨c, ds, rfl, r1, r⟩ := repsC r
  obtain ⟨d, e, f, g, rfl, r2⟩ := reps4 r
  exact ⟨c, d, e, f, g, rfl, r1, r2⟩
/-- the names and what they hold -/
noncomputable def Holds1 (h : Heap) (m : Str → Option Value) : List Str → List (Option V) → Prop
  | x :: xs, some v :: vs => (∃ c, m x = some c ∧ Rep h v c) ∧ Holds1 h m xs vs
  | _ :: xs, none :: vs => Holds1 h m xs vs
  | _, _ => True
theorem Holds1.get {h : Heap} {m : Str → Option Value} : ∀ {xs : List Str} {vs : List (Option V)}, Holds1 h m xs vs → ∀ (i : Nat) (x : Str) (v : V), xs[i]? = some x → vs[i]? = some (some v) → ∃ c, m x = some c ∧ Rep h v c := by
  intro xs
  induction xs with
  | nil => intro vs _ i x v e; cases e
  | cons y ys ih =>
    intro vs r i x v e1 e2
    cases vs with
    | nil => cases e2
    | cons o vs =>
      cases i with
      | zero =>
        cases e1
        have e2 : o = some v := Option.some.inj e2
        subst e2
        exact r.1
      | succ i =>
        cases o with
        | none => exact ih (vs := vs) r i x v e1 e2
        | some u => exact ih (vs := vs) r.2 i x v e1 e2

noncomputable def NoE : Value → Shared → Prop := fun _ _ => False
noncomputable def cpost (cx : Cx) (σ : St) (s : Shared) (P : V → St → Prop) (c : Value) (s' : Shared) : Prop :=
  ∃ v σ', Rep s'.heap v c ∧ At cx σ' s' ∧ Keep cx σ s σ' s' ∧ P v σ'
noncomputable def bpost (cx : Cx) (σ : St) (s : Shared) (P : Bool → St → Prop) (b : Bool) (s' : Shared) : Prop :=
  ∃ σ', At cx σ' s' ∧ Keep cx σ s σ' s' ∧ P b σ'
noncomputable def upost (cx : Cx) (σ : St) (s : Shared) (P : St → Prop) (s' : Shared) : Prop :=
  ∃ σ', At cx σ' s' ∧ Keep cx σ s σ' s' ∧ P σ'

section
variable {prog : Program} {w : World} {cx : Cx}

theorem cpost.trans {σ σ' : St} {s s' : Shared} {P : V → St → Prop} {c : Value} {s'' : Shared} (k : Keep cx σ s σ' s') (h : cpost cx σ' s' P c s'') : cpost cx σ s P c s'' :=
  let ⟨v, σ₂, r, a, k', p⟩ := h; ⟨v, σ₂, r, a, k.trans k', p⟩
theorem bpost.trans {σ σ' : St} {s s' : Shared} {P : Bool → St → Prop} {c : Bool} {s'' : Shared} (k : Keep cx σ s σ' s') (h : bpost cx σ' s' P c s'') : bpost cx σ s P c s'' :=
  let ⟨σ₂, a, k', p⟩ := h; ⟨σ₂, a, k.trans k', p⟩
theorem upost.trans {σ σ' : St} {s s' : Shared} {P : St → Prop} {s'' : Shared} (k : Keep cx σ s σ' s') (h : upost cx σ' s' P s'') : upost cx σ s P s'' :=
  let ⟨σ₂, a, k', p⟩ := h; ⟨σ₂, a, k.trans k', p⟩

/-- toks alone turned -/
theorem At.toks {σ : St} {s : Shared} (h : At cx σ s) (n : Nat) : At cx σ { s with toks := n } :=
  ⟨by have := h.sh; rw [this], h.fr, h.hp, h.ex⟩
theorem Keep.toks {σ : St} {s : Shared} (n : Nat) : Keep cx σ s σ { s with toks := n } := Keep.heapEq rfl rfl
theorem cpost.val {σ : St} {s : Shared} {P : V → St → Prop} {v : V} {c : Value} (a : At cx σ s) (n : Nat) (r : Rep s.heap v c) (p : P v σ) : cpost cx σ s P c { s with toks := n } :=
  ⟨v, σ, r, a.toks n, Keep.toks n, p⟩
theorem cpost.val0 {σ : St} {s : Shared} {P : V → St → Prop} {v : V} {c : Value} (a : At cx σ s) (r : Rep s.heap v c) (p : P v σ) : cpost cx σ s P c s :=
  ⟨v, σ, r, a, Keep.refl, p⟩

/-- an object laid anew that nothing names -/
theorem At.push {σ : St} {s : Shared} (h : At cx σ s) (o : Obj) : At cx σ { s with heap := s.heap.push o } := by
  refine ⟨by have := h.sh; rw [this], ?_, ?_, fun p hp => ⟨Heap.get?_push_of_some _ (h.ex p hp).1, (h.ex p hp).2⟩⟩
  · obtain ⟨m, F, r⟩ := h.fr
    refine ⟨m, F.push o, fun i x v e1 e2 => ?_⟩
    obtain ⟨c, e3, e4⟩ := r i x v e1 e2
    exact ⟨c, e3, e4.mono fun b i t => let ⟨o', e, q⟩ := t; ⟨o', Heap.get?_push_of_some _ e, q⟩⟩
  · intro a vs e
    obtain ⟨h1, h2, cs, p, r⟩ := h.hp a vs e
    exact ⟨h1, h2, cs, p.at fun o' e => Heap.get?_push_of_some _ e, r.mono fun b i t => let ⟨o', e, q⟩ := t; ⟨o', Heap.get?_push_of_some _ e, q⟩⟩
theorem Keep.push {σ : St} {s : Shared} (o : Obj) : Keep cx σ s σ { s with heap := s.heap.push o } :=
  fun _ _ h _ h2 => ⟨Heap.get?_push_of_some _ h, h2⟩
theorem At.newAddr {σ : St} {s : Shared} (h : At cx σ s) : σ.H s.heap.objs.size = none := by
  cases q : σ.H s.heap.objs.size with
  | none => rfl
  | some vs =>
    obtain ⟨_, _, cs, ⟨n, e⟩, _⟩ := h.hp _ vs q
    exact absurd (Heap.lt_size e) (Nat.lt_irrefl _)
theorem At.L_lt {σ : St} {s : Shared} (h : At cx σ s) : cx.L < s.heap.objs.size := let ⟨_, F, _⟩ := h.fr; F.ns.lt
/-- a new list -/
theorem At.newList {σ : St} {s : Shared} (h : At cx σ s) {vs : List V} {cs : List Value} (r : Reps s.heap vs cs) {n : Nat} :
    At cx (σ.setH s.heap.objs.size vs) { s with heap := s.heap.push (W.listOf cs.toArray n) } := by
  have h' := h.push (W.listOf cs.toArray n)
  refine ⟨h'.sh, h'.fr, fun a us e => ?_, fun p hp => ⟨(h'.ex p hp).1, (h'.ex p hp).2.1, by
    have : p.1 ≠ s.heap.objs.size := Nat.ne_of_lt (Heap.lt_size (h.ex p hp).1)
    simp [St.setH, this, (h.ex p hp).2.2]⟩⟩
  by_cases ha : a = s.heap.objs.size
  · subst ha
    have : some vs = some us := by simpa [St.setH] using e
    cases this
    refine ⟨Nat.ne_of_gt h.L_lt, ?_, cs, ⟨n, Heap.get?_push_size _ rfl⟩, r.mono fun b i t => let ⟨o', e, q⟩ := t; ⟨o', Heap.get?_push_of_some _ e, q⟩⟩
    obtain ⟨m, F, _⟩ := h.fr
    cases q : cx.h₀.get? s.heap.objs.size with
    | none => rfl
    | some o => exact absurd (Heap.lt_size (F.keep _ _ q)) (Nat.lt_irrefl _)
  · have : σ.H a = some us := by simpa [St.setH, ha] using e
    exact h'.hp a us this
theorem Keep.newList {σ : St} {s : Shared} {vs : List V} (o : Obj) : Keep cx σ s (σ.setH s.heap.objs.size vs) { s with heap := s.heap.push o } := by
  intro b o' e _ h2
  refine ⟨Heap.get?_push_of_some _ e, ?_⟩
  have : b ≠ s.heap.objs.size := Nat.ne_of_lt (Heap.lt_size e)
  simp [St.setH, this, h2]
/-- a list turned -/
theorem At.setList {σ : St} {s : Shared} (h : At cx σ s) {a : Addr} {vs us : List V} {cs : List Value} {h' : Heap} (ha : σ.H a = some us)
    (r : Reps s.heap vs cs) (p : h'.PlainList a cs.toArray) (sb : Heap.SameBut a s.heap h') : At cx (σ.setH a vs) { s with heap := h' } := by
  obtain ⟨n1, n2, cs₀, p₀, r₀⟩ := h.hp a us ha
  have tu : ∀ b i, s.heap.IsTuple b i → h'.IsTuple b i := fun b i t => by
    have : b ≠ a := fun e => PlainList.notTuple p₀ (e ▸ t)
    obtain ⟨o, e, q⟩ := t
    exact ⟨o, (sb.2 b this).trans e, q⟩
  refine ⟨by have := h.sh; rw [this], ?_, fun b ws e => ?_, fun p hp => by
    have hn : p.1 ≠ a := fun q => by have := (h.ex p hp).2.2; rw [q, ha] at this; cases this
    exact ⟨(sb.2 _ hn).trans (h.ex p hp).1, (h.ex p hp).2.1, by simp [St.setH, hn, (h.ex p hp).2.2]⟩⟩
  · obtain ⟨m, F, rr⟩ := h.fr
    refine ⟨m, ⟨F.ns.sameBut sb (Ne.symm n1), fun b o e => ?_, F.above⟩, fun i x v e1 e2 => ?_⟩
    · have : b ≠ a := fun q => by rw [q, n2] at e; cases e
      exact (sb.2 b this).trans (F.keep b o e)
    · obtain ⟨c, e3, e4⟩ := rr i x v e1 e2
      exact ⟨c, e3, e4.mono tu⟩
  · by_cases hb : b = a
    · subst hb
      have : some vs = some ws := by simpa [St.setH] using e
      cases this
      exact ⟨n1, n2, cs, p, r.mono tu⟩
    · have : σ.H b = some ws := by simpa [St.setH, hb] using e
      obtain ⟨m1, m2, cs', p', r'⟩ := h.hp b ws this
      exact ⟨m1, m2, cs', p'.at fun o e => (sb.2 b hb).trans e, r'.mono tu⟩
theorem Keep.setList {σ : St} {s : Shared} {a : Addr} {vs us : List V} {h' : Heap} (ha : σ.H a = some us) (sb : Heap.SameBut a s.heap h') :
    Keep cx σ s (σ.setH a vs) { s with heap := h' } := by
  intro b o e _ h2
  have : b ≠ a := fun q => by rw [q, ha] at h2; cases h2
  exact ⟨(sb.2 b this).trans e, by simp [St.setH, this, h2]⟩
/-- a name stored -/
theorem At.store {σ : St} {s : Shared} (h : At cx σ s) (ok : cx.Ok) {i : Nat} {x : Str} {v : V} {c : Value} (hx : cx.names[i]? = some x) (r : Rep s.heap v c)
    {Q : Unit → Shared → Prop} {M : Model} {A : Around} {E : Value → Shared → Prop}
    (hQ : ∀ s', At cx (σ.set i v) s' → Keep cx σ s (σ.set i v) s' → Q () s') : wpAny M A (storeName cx.env x c) Q E s := by
  obtain ⟨m, F, rr⟩ := h.fr
  refine wpAny_storeName_local (ok.loc x (List.mem_of_getElem? hx)) F.ns (fun h' hn hs => ?_) (by show (cx.scope.kind == .class || (cx.scope.kind == .module && _)) = false; rw [ok.kind]; rfl)
  have tu : ∀ b i, s.heap.IsTuple b i → h'.IsTuple b i := fun b i t => by
    have := (h.tupleNe t).1
    obtain ⟨o, e, q⟩ := t
    exact ⟨o, (hs.2 b this).trans e, q⟩
  refine hQ _ ⟨by have := h.sh; rw [this], ⟨_, F.set hn hs, fun j y u e1 e2 => ?_⟩, fun b ws e => ?_, fun p hp => ⟨(hs.2 _ (h.ex p hp).2.1).trans (h.ex p hp).1, (h.ex p hp).2⟩⟩ ?_
  · by_cases hj : j = i
    · subst hj
      rw [hx] at e1; cases e1
      have : some (some v) = some (some u) := by
        have hlt : j < σ.loc.length := by
          have := (List.getElem?_eq_some_iff.mp e2).1
          simpa [St.set] using this
        simpa [St.set, hlt] using e2
      cases this
      exact ⟨c, by simp, r.mono tu⟩
    · have hne : y ≠ x := by
        rintro rfl
        have hi := (List.getElem?_eq_some_iff.mp hx)
        have hj' := (List.getElem?_eq_some_iff.mp e1)
        exact hj ((List.getElem_inj ok.nodup).mp (hj'.2.trans hi.2.symm))
      have : σ.loc[j]? = some (some u) := by simpa [St.set, List.getElem?_set_ne (Ne.symm hj)] using e2
      obtain ⟨c', e3, e4⟩ := rr j y u e1 this
      exact ⟨c', by simp [hne, e3], e4.mono tu⟩
  · obtain ⟨m1, m2, cs', p', r'⟩ := h.hp b ws e
    exact ⟨m1, m2, cs', p'.at fun o e => (hs.2 b m1).trans e, r'.mono tu⟩
  · intro b o e h1 h2
    exact ⟨(hs.2 b h1).trans e, h2⟩
theorem At.load {σ : St} {s : Shared} (h : At cx σ s) (ok : cx.Ok) {i : Nat} {x : Str} {v : V} (hx : cx.names[i]? = some x) (hv : σ.loc[i]? = some (some v))
    {Q : Value → Shared → Prop} {M : Model} {A : Around} {E : Value → Shared → Prop} (hQ : ∀ c, Rep s.heap v c → Q c s) : wpAny M A (loadName cx.env x) Q E s := by
  obtain ⟨m, F, rr⟩ := h.fr
  obtain ⟨c, e3, e4⟩ := rr i x v hx hv
  exact ldn F e3 (hQ c e4) ok.kind (ok.loc x (List.mem_of_getElem? hx))

/-- all that stands beside the base and the frame -/
noncomputable def allNews (cx : Cx) (h : Heap) : List (Addr × Obj) :=
  (List.range h.objs.size).filterMap fun b => if b = cx.L ∨ (cx.h₀.get? b).isSome = true then none else (h.get? b).map fun o => (b, o)
theorem mem_allNews {h : Heap} {b : Addr} {o : Obj} (e : h.get? b = some o) (n : b ≠ cx.L) (k : cx.h₀.get? b = none) : (b, o) ∈ allNews cx h := by
  refine List.mem_filterMap.mpr ⟨b, List.mem_range.mpr (Heap.lt_size e), ?_⟩
  simp [n, k, e]
theorem allNews_ok {h : Heap} : News cx.h₀ cx.L h (allNews cx h) := by
  rintro ⟨b, o⟩ hp
  obtain ⟨c, _, e⟩ := List.mem_filterMap.mp hp
  split at e
  · cases e
  · rename_i hn
    cases q : h.get? c with
    | none => rw [q] at e; cases e
    | some o' =>
      rw [q] at e
      simp only [Option.map_some, Option.some.injEq, Prod.mk.injEq] at e
      obtain ⟨rfl, rfl⟩ := e
      refine ⟨q, fun x => hn (.inl x), ?_⟩
      cases q' : cx.h₀.get? c with
      | none => rfl
      | some _ => exact absurd (Or.inr (by simp [q'])) hn
theorem At.later {σ : St} {s : Shared} (a : At cx σ s) {m : Str → Option Value} (F : Fr cx.h₀ cx.L s.heap m)
    (r : ∀ (i : Nat) (x : Str) (v : V), cx.names[i]? = some x → σ.loc[i]? = some (some v) → ∃ c, m x = some c ∧ Rep s.heap v c) {h' : Heap}
    (F' : Fr cx.h₀ cx.L h' m) (N' : ∀ p ∈ allNews cx s.heap, h'.get? p.1 = some p.2) (n : Nat) :
    At cx σ { s with heap := h', toks := n } ∧ Keep cx σ s σ { s with heap := h', toks := n } := by
  have kp : ∀ b o, s.heap.get? b = some o → b ≠ cx.L → h'.get? b = some o := by
    intro b o e n
    cases q : cx.h₀.get? b with
    | none => exact N' (b, o) (mem_allNews e n q)
    | some o' =>
      have := F.keep b o' q
      rw [e] at this; cases this
      exact F'.keep b _ q
  have tu : ∀ b i, s.heap.IsTuple b i → h'.IsTuple b i := fun b i t => by
    have := (a.tupleNe t).1
    obtain ⟨o, e, q⟩ := t
    exact ⟨o, kp _ _ e this, q⟩
  refine ⟨⟨by have := a.sh; rw [this], ⟨m, F', fun i x v e1 e2 => ?_⟩, fun b ws e => ?_, fun p hp => ⟨kp _ _ (a.ex p hp).1 (a.ex p hp).2.1, (a.ex p hp).2⟩⟩, fun b o e n h2 => ⟨kp b o e n, h2⟩⟩
  · obtain ⟨c, e3, e4⟩ := r i x v e1 e2
    exact ⟨c, e3, e4.mono tu⟩
  · obtain ⟨m1, m2, cs', p', r'⟩ := a.hp b ws e
    exact ⟨m1, m2, cs', p'.at fun o e => kp b o e m1, r'.mono tu⟩
/-- behind a new list -/
theorem At.laterList {σ : St} {s : Shared} (a : At cx σ s) {m : Str → Option Value} (F : Fr cx.h₀ cx.L s.heap m)
    (r : ∀ (i : Nat) (x : Str) (v : V), cx.names[i]? = some x → σ.loc[i]? = some (some v) → ∃ c, m x = some c ∧ Rep s.heap v c) {h' : Heap}
    {l : Addr} {vs : List V} {cs : List Value} {k : Nat} (rs : Reps s.heap vs cs) (hl : s.heap.get? l = none) (hσ : σ.H l = none)
    (F' : Fr cx.h₀ cx.L h' m) (N' : News cx.h₀ cx.L h' ((l, W.listOf cs.toArray k) :: allNews cx s.heap)) (n : Nat) :
    At cx (σ.setH l vs) { s with heap := h', toks := n } ∧ Keep cx σ s (σ.setH l vs) { s with heap := h', toks := n } := by
  obtain ⟨a', k'⟩ := a.later F r F' (fun p hp => (N' p (.tail _ hp)).1) n
  have e := N' _ (.head _)
  refine ⟨⟨a'.sh, a'.fr, fun b ws q => ?_, fun p hp => ⟨(a'.ex p hp).1, (a'.ex p hp).2.1, by
    have hn : p.1 ≠ l := fun q => by have := (a.ex p hp).1; rw [q, hl] at this; cases this
    simp [St.setH, hn, (a.ex p hp).2.2]⟩⟩, fun b o e1 n1 h2 => ?_⟩
  · by_cases hb : b = l
    · subst hb
      have : some vs = some ws := by simpa [St.setH] using q
      cases this
      exact ⟨e.2.1, e.2.2, cs, ⟨k, e.1⟩, rs.keep a k'⟩
    · have : σ.H b = some ws := by simpa [St.setH, hb] using q
      exact a'.hp b ws this
  · refine ⟨(k' b o e1 n1 h2).1, ?_⟩
    have : b ≠ l := fun q => by rw [q, hl] at e1; cases e1
    simp [St.setH, this, h2]
theorem At.noObj {σ : St} {s : Shared} (_a : At cx σ s) : s.heap.get? s.heap.objs.size = none := by
  cases q : s.heap.get? s.heap.objs.size with
  | none => rfl
  | some o => exact absurd (Heap.lt_size q) (Nat.lt_irrefl _)
end
end
section
open PySem PySem.W PyProof.Rows PySem.Calls PySem.Spec
set_option Elab.async false
set_option autoImplicit false

set_option genSizeOf false in
set_option genInjectivity false in
inductive X where
  | var (i : Nat) | int (i : Int) | str (x : List Nat) | bool (b : Bool) | none
  | bin (op : Operator) (a b : X) | neg (a : X) | cmp (op : CmpOp) (a b : X)
  | len (a : X) | min2 (a b : X) | max2 (a b : X) | ife (op : CmpOp) (l r a b : X)
  | item (a i : X) | slice (a lo hi : X) | attr (k : Nat)
  | tup (a b : X) | list0 | list1 (a : X) | list2 (a b : X) | list3 (a b c : X)
  | find (a b : X) | endsw (a b : X) | startsw (a b : X) | append (a v : X) | pop (a : X) | join0 (a : X)
  | sem (f : St → (V → St → Prop) → Prop)
  | call1 (k : Nat) (a : X) | call2 (k : Nat) (a b : X) | call3 (k : Nat) (a b c : X) | call4 (k : Nat) (a b c d : X) | call5 (k : Nat) (a b c d e : X)
set_option genSizeOf false in
set_option genInjectivity false in
inductive T where
  | val (x : X) | cmp (op : CmpOp) (a b : X) | not (t : T) | and (a b : T) | or (a b : T) | tt | ff
set_option genSizeOf false in
inductive Fl where
  | next | brk | cont | ret (v : V)
set_option genSizeOf false in
set_option genInjectivity false in
inductive S where
  | skip | seq (a b : S) | bad
  | asg (i : Nat) (x : X) | aug (i : Nat) (op : Operator) (x : X) | asg2 (i j : Nat) (a b : X)
  | setItem (a i v : X) | setSlice (a lo hi v : X) | delItem (a i : X) | expr (x : X)
  | ite (t : T) (a b : S) | whil (t : T) (b : S) | forr (i : Nat) (lo hi : X) (step : Nat) (b : S) | forp (i j : Nat) (src : X) (b : S)
  | fors (i : Nat) (src : X) (b : S)
  | ret (x : X) | sem (f : St → (Fl → St → Prop) → Prop)
noncomputable def cl (n d : Nat) : Option Int → Nat
  | none => d
  | some i => if i < 0 then (i + n).toNat else min i.toNat n
noncomputable def pslice {α : Type} (x : List α) (lo hi : Option Int) : List α := (x.take (cl x.length x.length hi)).drop (cl x.length 0 lo)
noncomputable def idx (n : Nat) (i : Int) : Nat := if i < 0 then (i + n).toNat else i.toNat

noncomputable def vadd : V → V → St → (V → St → Prop) → Prop
  | .int a, .int b, σ, Q => Q (.int (a + b)) σ
  | .str x, .str y, σ, Q => x.length + y.length ≤ sizeLine ∧ Q (.str (x ++ y)) σ
  | .ref a, .ref b, σ, Q => match σ.H a, σ.H b with
    | some vs, some us => vs.length + us.length ≤ sizeLine ∧ ∀ l, σ.H l = none → Q (.ref l) (σ.setH l (vs ++ us))
    | _, _ => False
  | _, _, _, _ => False
noncomputable def vsub : V → V → St → (V → St → Prop) → Prop
  | .int a, .int b, σ, Q => Q (.int (a - b)) σ
  | _, _, _, _ => False
noncomputable def vmul : V → V → St → (V → St → Prop) → Prop
  | .int a, .int b, σ, Q => (-2 ^ 32 < a ∧ a < 2 ^ 32 ∧ -2 ^ 32 < b ∧ b < 2 ^ 32) ∧ Q (.int (a * b)) σ
  | .ref a, .int n, σ, Q => match σ.H a with
    | some [v] => 0 ≤ n ∧ n ≤ 2 ^ 20 ∧ ∀ l, σ.H l = none → Q (.ref l) (σ.setH l (List.replicate n.toNat v))
    | _ => False
  | _, _, _, _ => False
noncomputable def vfd : V → V → St → (V → St → Prop) → Prop
  | .int a, .int b, σ, Q => b ≠ 0 ∧ (-2 ^ 32 < a ∧ a < 2 ^ 32 ∧ -2 ^ 32 < b ∧ b < 2 ^ 32) ∧ Q (.int (a.fdiv b)) σ
  | _, _, _, _ => False
noncomputable def vmod : V → V → St → (V → St → Prop) → Prop
  | .int a, .int b, σ, Q => b ≠ 0 ∧ Q (.int (a.fmod b)) σ
  | _, _, _, _ => False
noncomputable def vbin (op : Operator) (u v : V) (σ : St) (Q : V → St → Prop) : Prop := match op with
  | .Add => vadd u v σ Q
  | .Sub => vsub u v σ Q
  | .Mult => vmul u v σ Q
  | .FloorDiv => vfd u v σ Q
  | .Mod => vmod u v σ Q
  | _ => False
noncomputable def vaad : V → V → St → (V → St → Prop) → Prop
  | .int a, .int b, σ, Q => Q (.int (a + b)) σ
  | .str x, .str y, σ, Q => x.length + y.length ≤ sizeLine ∧ Q (.str (x ++ y)) σ
  | _, _, _, _ => False
noncomputable def vaug (op : Operator) (u v : V) (σ : St) (Q : V → St → Prop) : Prop := match op with
  | .Add => vaad u v σ Q
  | .Sub => vsub u v σ Q
  | _ => False
noncomputable def icmp (op : CmpOp) (a b : Int) : Option Bool := match op with
  | .Eq => some (decide (a = b))
  | .NotEq => some (decide (a ≠ b))
  | .Lt => some (decide (a < b))
  | .LtE => some (decide (a ≤ b))
  | .Gt => some (decide (a > b))
  | .GtE => some (decide (a ≥ b))
  | _ => none
noncomputable def scmp (op : CmpOp) (a b : List Nat) : Option Bool := match op with
  | .Eq => some (decide (a = b))
  | .NotEq => some (decide (a ≠ b))
  | _ => none
noncomputable def ncmp (op : CmpOp) : Option Bool := match op with
  | .Eq => some false
  | _ => none
noncomputable def vcmp (op : CmpOp) : V → V → Option Bool
  | .int a, .int b => icmp op a b
  | .str a, .str b => scmp op a b
  | .str _, .none => ncmp op
  | _, _ => none

noncomputable def vlen : V → St → (V → St → Prop) → Prop
  | .str x, σ, Q => x.length ≤ 2 ^ 24 ∧ Q (.int x.length) σ
  | .ref a, σ, Q => match σ.H a with
    | some vs => vs.length ≤ 2 ^ 20 ∧ Q (.int vs.length) σ
    | none => False
  | _, _, _ => False

noncomputable def vtruth : V → Option Bool
  | .str x => some (!x.isEmpty)
  | .bool b => some b
  | .none => some false
  | _ => none

noncomputable def vsize : V → Prop
  | .str x => x.length ≤ 2 ^ 24
  | _ => True

noncomputable def vitem : V → V → St → (V → St → Prop) → Prop
  | .ref a, .int i, σ, Q => match σ.H a with
    | some vs => -(vs.length : Int) ≤ i ∧ vs.length ≤ 2 ^ 20 ∧ match vs[idx vs.length i]? with
      | some v => Q v σ
      | none => False
    | none => False
  | .str x, .int i, σ, Q => -(x.length : Int) ≤ i ∧ x.length ≤ 2 ^ 20 ∧ match x[idx x.length i]? with
      | some c => Q (.str [c]) σ
      | none => False
  | .tup a b, .int i, σ, Q => (i = 0 ∧ Q a σ) ∨ (i = 1 ∧ Q b σ)
  | _, _, _, _ => False

noncomputable def part : V → Option (Option Int)
  | .none => some none
  | .int i => some (some i)
  | _ => none

noncomputable def vslice : V → V → V → St → (V → St → Prop) → Prop
  | .str x, lo, hi, σ, Q => x.length ≤ sizeLine ∧ match part lo, part hi with
    | some l, some h => Q (.str (pslice x l h)) σ
    | _, _ => False
  | .ref a, lo, hi, σ, Q => match σ.H a, part lo, part hi with
    | some vs, some l, some h => vs.length ≤ sizeLine ∧ ∀ n, σ.H n = none → Q (.ref n) (σ.setH n (pslice vs l h))
    | _, _, _ => False
  | _, _, _, _, _ => False

noncomputable def vlist (vs : List V) (σ : St) (Q : V → St → Prop) : Prop := ∀ l, σ.H l = none → Q (.ref l) (σ.setH l vs)
noncomputable def St.delH (σ : St) (a : Addr) : St := ⟨σ.loc, fun b => if b = a then none else σ.H b⟩
noncomputable def strOf (x : List Nat) : Str := ⟨x.toArray⟩

noncomputable abbrev Calls := Nat → List V → AH → (V → AH → Prop) → Prop
structure Sp where
  Φ : Calls
  at' : Nat → V
  tool : Addr
noncomputable def selfOk (sp : Sp) (σ : St) : Prop := σ.loc[0]? = some (some (.ref sp.tool))

noncomputable def wpX (sp : Sp) : X → St → (V → St → Prop) → Prop
  | .var i, σ, Q => match σ.loc[i]? with
    | some (some v) => Q v σ
    | _ => False
  | .int i, σ, Q => Q (.int i) σ
  | .str x, σ, Q => Q (.str x) σ
  | .bool b, σ, Q => Q (.bool b) σ
  | .none, σ, Q => Q .none σ
  | .bin op a b, σ, Q => wpX sp a σ fun u σ₁ => wpX sp b σ₁ fun v σ₂ => vbin op u v σ₂ Q
  | .neg a, σ, Q => wpX sp a σ fun u σ₁ => match u with
    | .int i => Q (.int (-i)) σ₁
    | _ => False
  | .cmp op a b, σ, Q => wpX sp a σ fun u σ₁ => wpX sp b σ₁ fun v σ₂ => match vcmp op u v with
    | some c => Q (.bool c) σ₂
    | none => False
  | .ife op l r a b, σ, Q => wpX sp l σ fun u σ₁ => wpX sp r σ₁ fun v σ₂ => match vcmp op u v with
    | some c => if c = true then wpX sp a σ₂ Q else wpX sp b σ₂ Q
    | none => False
  | .len a, σ, Q => wpX sp a σ fun u σ₁ => vlen u σ₁ Q
  | .min2 a b, σ, Q => wpX sp a σ fun u σ₁ => wpX sp b σ₁ fun v σ₂ => match u, v with
    | .int i, .int j => Q (.int (min i j)) σ₂
    | _, _ => False
  | .max2 a b, σ, Q => wpX sp a σ fun u σ₁ => wpX sp b σ₁ fun v σ₂ => match u, v with
    | .int i, .int j => Q (.int (max i j)) σ₂
    | _, _ => False
  | .item a i, σ, Q => wpX sp a σ fun u σ₁ => wpX sp i σ₁ fun v σ₂ => vitem u v σ₂ Q
  | .slice a lo hi, σ, Q => wpX sp a σ fun u σ₁ => wpX sp lo σ₁ fun l σ₂ => wpX sp hi σ₂ fun h σ₃ => vslice u l h σ₃ Q
  | .attr k, σ, Q => selfOk sp σ ∧ Q (sp.at' k) σ
  | .tup a b, σ, Q => wpX sp a σ fun u σ₁ => wpX sp b σ₁ fun v σ₂ => Q (.tup u v) σ₂
  | .list0, σ, Q => vlist [] σ Q
  | .list1 a, σ, Q => wpX sp a σ fun u σ₁ => vlist [u] σ₁ Q
  | .list2 a b, σ, Q => wpX sp a σ fun u σ₁ => wpX sp b σ₁ fun v σ₂ => vlist [u, v] σ₂ Q
  | .list3 a b c, σ, Q => wpX sp a σ fun u σ₁ => wpX sp b σ₁ fun v σ₂ => wpX sp c σ₂ fun x σ₃ => vlist [u, v, x] σ₃ Q
  | .find a b, σ, Q => wpX sp a σ fun u σ₁ => match u with
    | .str x => wpX sp b σ₁ fun v σ₂ => match v with
      | .str y => Q (.int (Txt.find (strOf x) (strOf y))) σ₂
      | _ => False
    | _ => False
  | .endsw a b, σ, Q => wpX sp a σ fun u σ₁ => match u with
    | .str x => wpX sp b σ₁ fun v σ₂ => match v with
      | .str y => Q (.bool (Txt.endswith (strOf x) (strOf y))) σ₂
      | _ => False
    | _ => False
  | .startsw a b, σ, Q => wpX sp a σ fun u σ₁ => match u with
    | .str x => wpX sp b σ₁ fun v σ₂ => match v with
      | .str y => Q (.bool (Txt.startswith (strOf x) (strOf y))) σ₂
      | _ => False
    | _ => False
  | .append a x, σ, Q => wpX sp a σ fun u σ₁ => match u with
    | .ref l => (σ₁.H l).isSome = true ∧ wpX sp x σ₁ fun v σ₂ => match σ₂.H l with
      | some vs => vs.length + 1 ≤ 2 ^ 20 ∧ Q .none (σ₂.setH l (vs ++ [v]))
      | none => False
    | _ => False
  | .pop a, σ, Q => wpX sp a σ fun u σ₁ => match u with
    | .ref l => match σ₁.H l with
      | some vs => vs.length ≤ 2 ^ 20 ∧ match vs.getLast? with
        | some v => Q v (σ₁.setH l vs.dropLast)
        | none => False
      | none => False
    | _ => False
  | .join0 a, σ, Q => wpX sp a σ fun u σ₁ => match u with
    | .ref l => match σ₁.H l with
      | some vs => ∃ ts : List (List Nat), vs = ts.map .str ∧ (ts.map List.length).sum + ts.length ≤ 2 ^ 20 ∧ Q (.str ts.flatten) σ₁
      | none => False
    | _ => False
  | .sem f, σ, Q => f σ Q
  | .call1 k a, σ, Q => selfOk sp σ ∧ wpX sp a σ fun u σ₁ => sp.Φ k [u] σ₁.H fun r H => Q r ⟨σ₁.loc, H⟩
  | .call2 k a b, σ, Q => selfOk sp σ ∧ wpX sp a σ fun u σ₁ => wpX sp b σ₁ fun v σ₂ => sp.Φ k [u, v] σ₂.H fun r H => Q r ⟨σ₂.loc, H⟩
  | .call3 k a b c, σ, Q => selfOk sp σ ∧ wpX sp a σ fun u σ₁ => wpX sp b σ₁ fun v σ₂ => wpX sp c σ₂ fun x σ₃ => sp.Φ k [u, v, x] σ₃.H fun r H => Q r ⟨σ₃.loc, H⟩
  | .call4 k a b c d, σ, Q => selfOk sp σ ∧ wpX sp a σ fun u σ₁ => wpX sp b σ₁ fun v σ₂ => wpX sp c σ₂ fun x σ₃ => wpX sp d σ₃ fun y σ₄ => sp.Φ k [u, v, x, y] σ₄.H fun r H => Q r ⟨σ₄.loc, H⟩
  | .call5 k a b c d e, σ, Q => selfOk sp σ ∧ wpX sp a σ fun u σ₁ => wpX sp b σ₁ fun v σ₂ => wpX sp c σ₂ fun x σ₃ => wpX sp d σ₃ fun y σ₄ => wpX sp e σ₄ fun z σ₅ => sp.Φ k [u, v, x, y, z] σ₅.H fun r H => Q r ⟨σ₅.loc, H⟩

noncomputable def wpT (sp : Sp) : T → St → (Bool → St → Prop) → Prop
  | .val x, σ, Q => wpX sp x σ fun u σ₁ => vsize u ∧ match vtruth u with
    | some b => Q b σ₁
    | none => False
  | .cmp op a b, σ, Q => wpX sp a σ fun u σ₁ => wpX sp b σ₁ fun v σ₂ => match vcmp op u v with
    | some c => Q c σ₂
    | none => False
  | .not t, σ, Q => wpT sp t σ fun b σ₁ => Q (!b) σ₁
  | .and a b, σ, Q => wpT sp a σ fun c σ₁ => if c = true then wpT sp b σ₁ Q else Q false σ₁
  | .or a b, σ, Q => wpT sp a σ fun c σ₁ => if c = true then Q true σ₁ else wpT sp b σ₁ Q
  | .tt, σ, Q => Q true σ
  | .ff, σ, Q => Q false σ

noncomputable def loopQ (Q : Fl → St → Prop) (I : St → Prop) : Fl → St → Prop
  | .next, σ => I σ
  | .cont, σ => I σ
  | .brk, σ => Q .next σ
  | .ret v, σ => Q (.ret v) σ

noncomputable def wpS (sp : Sp) : S → St → (Fl → St → Prop) → Prop
  | .skip, σ, Q => Q .next σ
  | .bad, _, _ => False
  | .seq a b, σ, Q => wpS sp a σ fun f σ₁ => match f with
    | .next => wpS sp b σ₁ Q
    | f => Q f σ₁
  | .asg i x, σ, Q => wpX sp x σ fun v σ₁ => Q .next (σ₁.set i v)
  | .aug i op x, σ, Q => match σ.loc[i]? with
    | some (some u) => wpX sp x σ fun v σ₁ => vaug op u v σ₁ fun r σ₂ => Q .next (σ₂.set i r)
    | _ => False
  | .asg2 i j a b, σ, Q => wpX sp (.tup a b) σ fun v σ₁ => match v with
    | .tup u v => Q .next ((σ₁.set i u).set j v)
    | _ => False
  | .setItem a i x, σ, Q => wpX sp x σ fun v σ₁ => wpX sp a σ₁ fun u σ₂ => wpX sp i σ₂ fun k σ₃ => match u, k with
    | .ref l, .int n => match σ₃.H l with
      | some vs => (0 ≤ n ∧ n < vs.length ∧ vs.length ≤ 2 ^ 20) ∧ Q .next (σ₃.setH l (vs.set n.toNat v))
      | none => False
    | _, _ => False
  | .setSlice a lo hi x, σ, Q => wpX sp x σ fun v σ₁ => wpX sp a σ₁ fun u σ₂ => wpX sp lo σ₂ fun l σ₃ => wpX sp hi σ₃ fun h σ₄ => match u, v, part l, part h with
    | .ref p, .ref q, some lo, some hi => match σ₄.H p, σ₄.H q with
      | some vs, some us => (p ≠ q ∧ vs.length + us.length ≤ 2 ^ 20 ∧ cl vs.length 0 lo ≤ cl vs.length vs.length hi) ∧
          Q .next (σ₄.setH p (vs.take (cl vs.length 0 lo) ++ us ++ vs.drop (cl vs.length vs.length hi)))
      | _, _ => False
    | _, _, _, _ => False
  | .delItem a i, σ, Q => wpX sp a σ fun u σ₁ => wpX sp i σ₁ fun k σ₂ => match u, k with
    | .ref l, .int n => match σ₂.H l with
      | some vs => (0 ≤ n ∧ n < vs.length ∧ vs.length ≤ 2 ^ 20) ∧ Q .next (σ₂.setH l (vs.eraseIdx n.toNat))
      | none => False
    | _, _ => False
  | .expr x, σ, Q => wpX sp x σ fun _ σ₁ => Q .next σ₁
  | .ite t a b, σ, Q => wpT sp t σ fun c σ₁ => if c = true then wpS sp a σ₁ Q else wpS sp b σ₁ Q
  | .whil t b, σ, Q => ∃ (I : St → Prop) (μ : St → Nat), I σ ∧ ∀ σ', I σ' → wpT sp t σ' fun c σ₁ =>
      if c = true then wpS sp b σ₁ (loopQ Q fun σ₂ => I σ₂ ∧ μ σ₂ < μ σ') else Q .next σ₁
  | .forr i lo hi c b, σ, Q => wpX sp lo σ fun u σ₁ => wpX sp hi σ₁ fun v σ₂ => match u, v with
    | .int x, .int y => (-2 ^ 32 < x ∧ x < 2 ^ 32 ∧ -2 ^ 32 < y ∧ y < 2 ^ 32 ∧ 0 < c ∧ c < 2 ^ 20) ∧
        ∃ I : Nat → St → Prop, I 0 σ₂ ∧ (∀ k σ', k < ((y - x + c - 1) / c).toNat → I k σ' → wpS sp b (σ'.set i (.int (x + k * c))) (loopQ Q (I (k + 1)))) ∧
          ∀ σ', I ((y - x + c - 1) / c).toNat σ' → Q .next σ'
    | _, _ => False
  | .forp i j x b, σ, Q => wpX sp x σ fun u σ₁ => match u with
    | .ref l => match σ₁.H l with
      | some vs => vs.length ≤ 2 ^ 20 ∧ (∀ (k : Nat) (v : V), vs[k]? = some v → ∃ p q : V, v = V.tup p q) ∧ ∃ I : Nat → St → Prop, I 0 (σ₁.delH l) ∧
          (∀ (k : Nat) (p q : V) (σ' : St), vs[k]? = some (V.tup p q) → I k σ' → wpS sp b ((σ'.set i p).set j q) (loopQ (fun f σ₃ => Q f (σ₃.setH l vs)) (I (k + 1)))) ∧
          ∀ σ', I vs.length σ' → Q .next (σ'.setH l vs)
      | none => False
    | _ => False
  | .fors i x b, σ, Q => wpX sp x σ fun u σ₁ => match u with
    | .str y => y.length ≤ 2 ^ 20 ∧ ∃ I : Nat → St → Prop, I 0 σ₁ ∧ (∀ k c σ', y[k]? = some c → I k σ' → wpS sp b (σ'.set i (.str [c])) (loopQ Q (I (k + 1)))) ∧
          ∀ σ', I y.length σ' → Q .next σ'
    | _ => False
  | .ret x, σ, Q => wpX sp x σ fun v σ₁ => Q (.ret v) σ₁
  | .sem f, σ, Q => f σ Q
end
section
open PySem PySem.W PyProof.Rows PySem.Calls PySem.Spec
set_option Elab.async false
set_option autoImplicit false
-- diff_commonPrefix: 0 self, 1 text1, 2 text2, 3 pointermin, 4 pointermax, 5 pointermid, 6 pointerstart
noncomputable def nm_commonPrefix : List Str := [Str.ofString "self", Str.ofString "text1", Str.ofString "text2", Str.ofString "pointermin", Str.ofString "pointermax", Str.ofString "pointermid", Str.ofString "pointerstart"]
noncomputable def S_commonPrefix : S :=
  (.seq (.ite (.or (.not (.val (.var 1))) (.or (.not (.val (.var 2))) (.or (.cmp .NotEq (.item (.var 1) (.int 0)) (.item (.var 2) (.int 0))) .ff)))
  (.ret (.int 0))
  .skip)
  (.seq (.asg 3 (.int 0))
  (.seq (.asg 4 (.min2 (.len (.var 1)) (.len (.var 2))))
  (.seq (.asg 5 (.var 4))
  (.seq (.asg 6 (.int 0))
  (.seq (.whil (.cmp .Lt (.var 3) (.var 5))
  (.seq (.ite (.cmp .Eq (.slice (.var 1) (.var 6) (.var 5)) (.slice (.var 2) (.var 6) (.var 5)))
  (.seq (.asg 3 (.var 5))
  (.asg 6 (.var 3)))
  (.asg 4 (.var 5)))
  (.asg 5 (.bin .Add (.bin .FloorDiv (.bin .Sub (.var 4) (.var 3)) (.int 2)) (.var 3)))))
  (.ret (.var 5))))))))

-- diff_commonSuffix: 0 self, 1 text1, 2 text2, 3 pointermin, 4 pointermax, 5 pointermid, 6 pointerend
noncomputable def nm_commonSuffix : List Str := [Str.ofString "self", Str.ofString "text1", Str.ofString "text2", Str.ofString "pointermin", Str.ofString "pointermax", Str.ofString "pointermid", Str.ofString "pointerend"]
noncomputable def S_commonSuffix : S :=
  (.seq (.ite (.or (.not (.val (.var 1))) (.or (.not (.val (.var 2))) (.or (.cmp .NotEq (.item (.var 1) (.neg (.int 1))) (.item (.var 2) (.neg (.int 1)))) .ff)))
  (.ret (.int 0))
  .skip)
  (.seq (.asg 3 (.int 0))
  (.seq (.asg 4 (.min2 (.len (.var 1)) (.len (.var 2))))
  (.seq (.asg 5 (.var 4))
  (.seq (.asg 6 (.int 0))
  (.seq (.whil (.cmp .Lt (.var 3) (.var 5))
  (.seq (.ite (.cmp .Eq (.slice (.var 1) (.neg (.var 5)) (.bin .Sub (.len (.var 1)) (.var 6))) (.slice (.var 2) (.neg (.var 5)) (.bin .Sub (.len (.var 2)) (.var 6))))
  (.seq (.asg 3 (.var 5))
  (.asg 6 (.var 3)))
  (.asg 4 (.var 5)))
  (.asg 5 (.bin .Add (.bin .FloorDiv (.bin .Sub (.var 4) (.var 3)) (.int 2)) (.var 3)))))
  (.ret (.var 5))))))))

-- diff_bisectSplit: 0 self, 1 text1, 2 text2, 3 x, 4 y, 5 deadline, 6 text1a, 7 text2a, 8 text1b, 9 text2b, 10 diffs, 11 diffsb
noncomputable def nm_bisectSplit : List Str := [Str.ofString "self", Str.ofString "text1", Str.ofString "text2", Str.ofString "x", Str.ofString "y", Str.ofString "deadline", Str.ofString "text1a", Str.ofString "text2a", Str.ofString "text1b", Str.ofString "text2b", Str.ofString "diffs", Str.ofString "diffsb"]
noncomputable def S_bisectSplit : S :=
  (.seq (.asg 6 (.slice (.var 1) .none (.var 3)))
  (.seq (.asg 7 (.slice (.var 2) .none (.var 4)))
  (.seq (.asg 8 (.slice (.var 1) (.var 3) .none))
  (.seq (.asg 9 (.slice (.var 2) (.var 4) .none))
  (.seq (.asg 10 (.call4 0 (.var 6) (.var 7) (.bool false) (.var 5)))
  (.seq (.asg 11 (.call4 0 (.var 8) (.var 9) (.bool false) (.var 5)))
  (.ret (.bin .Add (.var 10) (.var 11)))))))))

-- diff_bisect: 0 self, 1 text1, 2 text2, 3 deadline, 4 text1_length, 5 text2_length, 6 max_d, 7 v_offset, 8 v_length, 9 v1, 10 v2, 11 delta, 12 front, 13 k1start, 14 k1end, 15 k2start, 16 k2end, 17 d, 18 k1, 19 k2, 20 k1_offset, 21 y1, 22 k2_offset, 23 y2, 24 x1, 25 x2
noncomputable def nm_bisect : List Str := [Str.ofString "self", Str.ofString "text1", Str.ofString "text2", Str.ofString "deadline", Str.ofString "text1_length", Str.ofString "text2_length", Str.ofString "max_d", Str.ofString "v_offset", Str.ofString "v_length", Str.ofString "v1", Str.ofString "v2", Str.ofString "delta", Str.ofString "front", Str.ofString "k1start", Str.ofString "k1end", Str.ofString "k2start", Str.ofString "k2end", Str.ofString "d", Str.ofString "k1", Str.ofString "k2", Str.ofString "k1_offset", Str.ofString "y1", Str.ofString "k2_offset", Str.ofString "y2", Str.ofString "x1", Str.ofString "x2"]
noncomputable def S_bisect : S :=
  (.seq (.asg 4 (.len (.var 1)))
  (.seq (.asg 5 (.len (.var 2)))
  (.seq (.asg 6 (.bin .FloorDiv (.bin .Add (.bin .Add (.var 4) (.var 5)) (.int 1)) (.int 2)))
  (.seq (.asg 7 (.var 6))
  (.seq (.asg 8 (.bin .Mult (.int 2) (.var 6)))
  (.seq (.asg 9 (.bin .Mult (.list1 (.neg (.int 1))) (.var 8)))
  (.seq (.setItem (.var 9) (.bin .Add (.var 7) (.int 1)) (.int 0))
  (.seq (.asg 10 (.slice (.var 9) .none .none))
  (.seq (.asg 11 (.bin .Sub (.var 4) (.var 5)))
  (.seq (.asg 12 (.cmp .NotEq (.bin .Mod (.var 11) (.int 2)) (.int 0)))
  (.seq (.asg 13 (.int 0))
  (.seq (.asg 14 (.int 0))
  (.seq (.asg 15 (.int 0))
  (.seq (.asg 16 (.int 0))
  (.seq (.forr 17 (.int 0) (.var 6) 1
  (.seq (.forr 18 (.bin .Add (.neg (.var 17)) (.var 13)) (.bin .Sub (.bin .Add (.var 17) (.int 1)) (.var 14)) 2
  (.seq (.asg 20 (.bin .Add (.var 7) (.var 18)))
  (.seq (.ite (.or (.cmp .Eq (.var 18) (.neg (.var 17))) (.or (.and (.cmp .NotEq (.var 18) (.var 17)) (.and (.cmp .Lt (.item (.var 9) (.bin .Sub (.var 20) (.int 1))) (.item (.var 9) (.bin .Add (.var 20) (.int 1)))) .tt)) .ff))
  (.asg 24 (.item (.var 9) (.bin .Add (.var 20) (.int 1))))
  (.asg 24 (.bin .Add (.item (.var 9) (.bin .Sub (.var 20) (.int 1))) (.int 1))))
  (.seq (.asg 21 (.bin .Sub (.var 24) (.var 18)))
  (.seq (.whil (.and (.cmp .Lt (.var 24) (.var 4)) (.and (.cmp .Lt (.var 21) (.var 5)) (.and (.cmp .Eq (.item (.var 1) (.var 24)) (.item (.var 2) (.var 21))) .tt)))
  (.seq (.aug 24 .Add (.int 1))
  (.aug 21 .Add (.int 1))))
  (.seq (.setItem (.var 9) (.var 20) (.var 24))
  (.ite (.cmp .Gt (.var 24) (.var 4))
  (.aug 14 .Add (.int 2))
  (.ite (.cmp .Gt (.var 21) (.var 5))
  (.aug 13 .Add (.int 2))
  (.ite (.val (.var 12))
  (.seq (.asg 22 (.bin .Sub (.bin .Add (.var 7) (.var 11)) (.var 18)))
  (.ite (.and (.cmp .GtE (.var 22) (.int 0)) (.and (.cmp .Lt (.var 22) (.var 8)) (.and (.cmp .NotEq (.item (.var 10) (.var 22)) (.neg (.int 1))) .tt)))
  (.seq (.asg 25 (.bin .Sub (.var 4) (.item (.var 10) (.var 22))))
  (.ite (.cmp .GtE (.var 24) (.var 25))
  (.ret (.call5 3 (.var 1) (.var 2) (.var 24) (.var 21) (.var 3)))
  .skip))
  .skip))
  .skip)))))))))
  (.forr 19 (.bin .Add (.neg (.var 17)) (.var 15)) (.bin .Sub (.bin .Add (.var 17) (.int 1)) (.var 16)) 2
  (.seq (.asg 22 (.bin .Add (.var 7) (.var 19)))
  (.seq (.ite (.or (.cmp .Eq (.var 19) (.neg (.var 17))) (.or (.and (.cmp .NotEq (.var 19) (.var 17)) (.and (.cmp .Lt (.item (.var 10) (.bin .Sub (.var 22) (.int 1))) (.item (.var 10) (.bin .Add (.var 22) (.int 1)))) .tt)) .ff))
  (.asg 25 (.item (.var 10) (.bin .Add (.var 22) (.int 1))))
  (.asg 25 (.bin .Add (.item (.var 10) (.bin .Sub (.var 22) (.int 1))) (.int 1))))
  (.seq (.asg 23 (.bin .Sub (.var 25) (.var 19)))
  (.seq (.whil (.and (.cmp .Lt (.var 25) (.var 4)) (.and (.cmp .Lt (.var 23) (.var 5)) (.and (.cmp .Eq (.item (.var 1) (.bin .Sub (.neg (.var 25)) (.int 1))) (.item (.var 2) (.bin .Sub (.neg (.var 23)) (.int 1)))) .tt)))
  (.seq (.aug 25 .Add (.int 1))
  (.aug 23 .Add (.int 1))))
  (.seq (.setItem (.var 10) (.var 22) (.var 25))
  (.ite (.cmp .Gt (.var 25) (.var 4))
  (.aug 16 .Add (.int 2))
  (.ite (.cmp .Gt (.var 23) (.var 5))
  (.aug 15 .Add (.int 2))
  (.ite (.not (.val (.var 12)))
  (.seq (.asg 20 (.bin .Sub (.bin .Add (.var 7) (.var 11)) (.var 19)))
  (.ite (.and (.cmp .GtE (.var 20) (.int 0)) (.and (.cmp .Lt (.var 20) (.var 8)) (.and (.cmp .NotEq (.item (.var 9) (.var 20)) (.neg (.int 1))) .tt)))
  (.seq (.asg 24 (.item (.var 9) (.var 20)))
  (.seq (.asg 21 (.bin .Sub (.bin .Add (.var 7) (.var 24)) (.var 20)))
  (.seq (.asg 25 (.bin .Sub (.var 4) (.var 25)))
  (.ite (.cmp .GtE (.var 24) (.var 25))
  (.ret (.call5 3 (.var 1) (.var 2) (.var 24) (.var 21) (.var 3)))
  .skip))))
  .skip))
  .skip)))))))))))
  (.ret (.list2 (.tup (.attr 0) (.var 1)) (.tup (.attr 1) (.var 2)))))))))))))))))))

-- diff_compute: 0 self, 1 text1, 2 text2, 3 checklines, 4 deadline, 5 i, 6 hm, 7 diffs, 8 diffs_a, 9 diffs_b, 10 longtext, 11 shorttext, 12 text1_a, 13 text1_b, 14 text2_a, 15 text2_b, 16 mid_common
noncomputable def nm_compute : List Str := [Str.ofString "self", Str.ofString "text1", Str.ofString "text2", Str.ofString "checklines", Str.ofString "deadline", Str.ofString "i", Str.ofString "hm", Str.ofString "diffs", Str.ofString "diffs_a", Str.ofString "diffs_b", Str.ofString "longtext", Str.ofString "shorttext", Str.ofString "text1_a", Str.ofString "text1_b", Str.ofString "text2_a", Str.ofString "text2_b", Str.ofString "mid_common"]
noncomputable def S_compute : S :=
  (.seq (.ite (.not (.val (.var 1)))
  (.ret (.list1 (.tup (.attr 1) (.var 2))))
  .skip)
  (.seq (.ite (.not (.val (.var 2)))
  (.ret (.list1 (.tup (.attr 0) (.var 1))))
  .skip)
  (.seq (.ite (.cmp .Gt (.len (.var 1)) (.len (.var 2)))
  (.asg2 10 11 (.var 1) (.var 2))
  (.asg2 11 10 (.var 1) (.var 2)))
  (.seq (.asg 5 (.find (.var 10) (.var 11)))
  (.seq (.ite (.cmp .NotEq (.var 5) (.neg (.int 1)))
  (.seq (.asg 7 (.list3 (.tup (.attr 1) (.slice (.var 10) .none (.var 5))) (.tup (.attr 2) (.var 11)) (.tup (.attr 1) (.slice (.var 10) (.bin .Add (.var 5) (.len (.var 11))) .none))))
  (.seq (.ite (.cmp .Gt (.len (.var 1)) (.len (.var 2)))
  (.seq (.setItem (.var 7) (.int 0) (.tup (.attr 0) (.item (.item (.var 7) (.int 0)) (.int 1))))
  (.setItem (.var 7) (.int 2) (.tup (.attr 0) (.item (.item (.var 7) (.int 2)) (.int 1)))))
  .skip)
  (.ret (.var 7))))
  .skip)
  (.seq (.ite (.cmp .Eq (.len (.var 11)) (.int 1))
  (.ret (.list2 (.tup (.attr 0) (.var 1)) (.tup (.attr 1) (.var 2))))
  .skip)
  (.seq (.asg 6 (.call2 6 (.var 1) (.var 2)))
  (.seq (.ite (.val (.var 6))
  .bad
  .skip)
  (.seq (.ite (.and (.val (.var 3)) (.and (.cmp .Gt (.len (.var 1)) (.int 100)) (.and (.cmp .Gt (.len (.var 2)) (.int 100)) .tt)))
  .bad
  .skip)
  (.ret (.call3 2 (.var 1) (.var 2) (.var 4))))))))))))

-- diff_main: 0 self, 1 text1, 2 text2, 3 checklines, 4 deadline, 5 commonlength, 6 commonprefix, 7 diffs, 8 commonsuffix
noncomputable def nm_main : List Str := [Str.ofString "self", Str.ofString "text1", Str.ofString "text2", Str.ofString "checklines", Str.ofString "deadline", Str.ofString "commonlength", Str.ofString "commonprefix", Str.ofString "diffs", Str.ofString "commonsuffix"]
noncomputable def S_main : S :=
  (.seq (.ite (.or (.cmp .Eq (.var 1) .none) (.or (.cmp .Eq (.var 2) .none) .ff))
  .bad
  .skip)
  (.seq (.ite (.cmp .Eq (.var 1) (.var 2))
  (.seq (.ite (.val (.var 1))
  (.ret (.list1 (.tup (.attr 2) (.var 1))))
  .skip)
  (.ret .list0))
  .skip)
  (.seq (.asg 5 (.call2 4 (.var 1) (.var 2)))
  (.seq (.asg 6 (.slice (.var 1) .none (.var 5)))
  (.seq (.asg 1 (.slice (.var 1) (.var 5) .none))
  (.seq (.asg 2 (.slice (.var 2) (.var 5) .none))
  (.seq (.asg 5 (.call2 5 (.var 1) (.var 2)))
  (.seq (.ite (.cmp .Eq (.var 5) (.int 0))
  (.asg 8 (.str []))
  (.seq (.asg 8 (.slice (.var 1) (.neg (.var 5)) .none))
  (.seq (.asg 1 (.slice (.var 1) .none (.neg (.var 5))))
  (.asg 2 (.slice (.var 2) .none (.neg (.var 5)))))))
  (.seq (.asg 7 (.call4 1 (.var 1) (.var 2) (.var 3) (.var 4)))
  (.seq (.ite (.val (.var 6))
  (.setSlice (.var 7) .none (.int 0) (.list1 (.tup (.attr 2) (.var 6))))
  .skip)
  (.seq (.ite (.val (.var 8))
  (.expr (.append (.var 7) (.tup (.attr 2) (.var 8))))
  .skip)
  (.seq (.expr (.call1 7 (.var 7)))
  (.ret (.var 7))))))))))))))

-- diff_cleanupMerge: 0 self, 1 diffs, 2 pointer, 3 count_delete, 4 count_insert, 5 text_delete, 6 text_insert, 7 changes, 8 new_ops, 9 commonlength, 10 x
noncomputable def nm_cleanupMerge : List Str := [Str.ofString "self", Str.ofString "diffs", Str.ofString "pointer", Str.ofString "count_delete", Str.ofString "count_insert", Str.ofString "text_delete", Str.ofString "text_insert", Str.ofString "changes", Str.ofString "new_ops", Str.ofString "commonlength", Str.ofString "x"]
noncomputable def S_cleanupMerge : S :=
  (.seq (.expr (.append (.var 1) (.tup (.attr 2) (.str []))))
  (.seq (.asg 2 (.int 0))
  (.seq (.asg 3 (.int 0))
  (.seq (.asg 4 (.int 0))
  (.seq (.asg 5 (.str []))
  (.seq (.asg 6 (.str []))
  (.seq (.whil (.cmp .Lt (.var 2) (.len (.var 1)))
  (.ite (.cmp .Eq (.item (.item (.var 1) (.var 2)) (.int 0)) (.attr 1))
  (.seq (.aug 4 .Add (.int 1))
  (.seq (.aug 6 .Add (.item (.item (.var 1) (.var 2)) (.int 1)))
  (.aug 2 .Add (.int 1))))
  (.ite (.cmp .Eq (.item (.item (.var 1) (.var 2)) (.int 0)) (.attr 0))
  (.seq (.aug 3 .Add (.int 1))
  (.seq (.aug 5 .Add (.item (.item (.var 1) (.var 2)) (.int 1)))
  (.aug 2 .Add (.int 1))))
  (.ite (.cmp .Eq (.item (.item (.var 1) (.var 2)) (.int 0)) (.attr 2))
  (.seq (.ite (.cmp .Gt (.bin .Add (.var 3) (.var 4)) (.int 1))
  (.seq (.ite (.and (.cmp .NotEq (.var 3) (.int 0)) (.and (.cmp .NotEq (.var 4) (.int 0)) .tt))
  (.seq (.asg 9 (.call2 4 (.var 6) (.var 5)))
  (.seq (.ite (.cmp .NotEq (.var 9) (.int 0))
  .bad
  .skip)
  (.seq (.asg 9 (.call2 5 (.var 6) (.var 5)))
  (.ite (.cmp .NotEq (.var 9) (.int 0))
  .bad
  .skip))))
  .skip)
  (.seq (.asg 8 .list0)
  (.seq (.ite (.cmp .NotEq (.len (.var 5)) (.int 0))
  (.expr (.append (.var 8) (.tup (.attr 0) (.var 5))))
  .skip)
  (.seq (.ite (.cmp .NotEq (.len (.var 6)) (.int 0))
  (.expr (.append (.var 8) (.tup (.attr 1) (.var 6))))
  .skip)
  (.seq (.aug 2 .Sub (.bin .Add (.var 3) (.var 4)))
  (.seq (.setSlice (.var 1) (.var 2) (.bin .Add (.bin .Add (.var 2) (.var 3)) (.var 4)) (.var 8))
  (.aug 2 .Add (.bin .Add (.len (.var 8)) (.int 1)))))))))
  (.ite (.and (.cmp .NotEq (.var 2) (.int 0)) (.and (.cmp .Eq (.item (.item (.var 1) (.bin .Sub (.var 2) (.int 1))) (.int 0)) (.attr 2)) .tt))
  (.seq (.setItem (.var 1) (.bin .Sub (.var 2) (.int 1)) (.tup (.item (.item (.var 1) (.bin .Sub (.var 2) (.int 1))) (.int 0)) (.bin .Add (.item (.item (.var 1) (.bin .Sub (.var 2) (.int 1))) (.int 1)) (.item (.item (.var 1) (.var 2)) (.int 1)))))
  (.delItem (.var 1) (.var 2)))
  (.aug 2 .Add (.int 1))))
  (.seq (.asg 4 (.int 0))
  (.seq (.asg 3 (.int 0))
  (.seq (.asg 5 (.str []))
  (.asg 6 (.str []))))))
  .skip))))
  (.seq (.ite (.cmp .Eq (.item (.item (.var 1) (.neg (.int 1))) (.int 1)) (.str []))
  (.expr (.pop (.var 1)))
  .skip)
  (.seq (.asg 7 (.bool false))
  (.seq (.asg 2 (.int 1))
  (.seq (.whil (.cmp .Lt (.var 2) (.bin .Sub (.len (.var 1)) (.int 1)))
  (.seq (.ite (.and (.cmp .Eq (.item (.item (.var 1) (.bin .Sub (.var 2) (.int 1))) (.int 0)) (.attr 2)) (.and (.cmp .Eq (.item (.item (.var 1) (.bin .Add (.var 2) (.int 1))) (.int 0)) (.attr 2)) .tt))
  (.ite (.val (.endsw (.item (.item (.var 1) (.var 2)) (.int 1)) (.item (.item (.var 1) (.bin .Sub (.var 2) (.int 1))) (.int 1))))
  (.seq (.ite (.cmp .NotEq (.item (.item (.var 1) (.bin .Sub (.var 2) (.int 1))) (.int 1)) (.str []))
  (.seq (.setItem (.var 1) (.var 2) (.tup (.item (.item (.var 1) (.var 2)) (.int 0)) (.bin .Add (.item (.item (.var 1) (.bin .Sub (.var 2) (.int 1))) (.int 1)) (.slice (.item (.item (.var 1) (.var 2)) (.int 1)) .none (.neg (.len (.item (.item (.var 1) (.bin .Sub (.var 2) (.int 1))) (.int 1))))))))
  (.setItem (.var 1) (.bin .Add (.var 2) (.int 1)) (.tup (.item (.item (.var 1) (.bin .Add (.var 2) (.int 1))) (.int 0)) (.bin .Add (.item (.item (.var 1) (.bin .Sub (.var 2) (.int 1))) (.int 1)) (.item (.item (.var 1) (.bin .Add (.var 2) (.int 1))) (.int 1))))))
  .skip)
  (.seq (.delItem (.var 1) (.bin .Sub (.var 2) (.int 1)))
  (.asg 7 (.bool true))))
  (.ite (.val (.startsw (.item (.item (.var 1) (.var 2)) (.int 1)) (.item (.item (.var 1) (.bin .Add (.var 2) (.int 1))) (.int 1))))
  (.seq (.setItem (.var 1) (.bin .Sub (.var 2) (.int 1)) (.tup (.item (.item (.var 1) (.bin .Sub (.var 2) (.int 1))) (.int 0)) (.bin .Add (.item (.item (.var 1) (.bin .Sub (.var 2) (.int 1))) (.int 1)) (.item (.item (.var 1) (.bin .Add (.var 2) (.int 1))) (.int 1)))))
  (.seq (.setItem (.var 1) (.var 2) (.tup (.item (.item (.var 1) (.var 2)) (.int 0)) (.bin .Add (.slice (.item (.item (.var 1) (.var 2)) (.int 1)) (.len (.item (.item (.var 1) (.bin .Add (.var 2) (.int 1))) (.int 1))) .none) (.item (.item (.var 1) (.bin .Add (.var 2) (.int 1))) (.int 1)))))
  (.seq (.delItem (.var 1) (.bin .Add (.var 2) (.int 1)))
  (.asg 7 (.bool true)))))
  .skip))
  .skip)
  (.aug 2 .Add (.int 1))))
  (.ite (.val (.var 7))
  (.expr (.call1 7 (.var 1)))
  .skip))))))))))))

-- diff_text1: 0 self, 1 diffs, 2 text, 3 op, 4 data
noncomputable def nm_text1 : List Str := [Str.ofString "self", Str.ofString "diffs", Str.ofString "text", Str.ofString "op", Str.ofString "data"]
noncomputable def S_text1 : S :=
  (.seq (.asg 2 .list0)
  (.seq (.forp 3 4 (.var 1)
  (.ite (.cmp .NotEq (.var 3) (.attr 1))
  (.expr (.append (.var 2) (.var 4)))
  .skip))
  (.ret (.join0 (.var 2)))))

-- diff_text2: 0 self, 1 diffs, 2 text, 3 op, 4 data
noncomputable def nm_text2 : List Str := [Str.ofString "self", Str.ofString "diffs", Str.ofString "text", Str.ofString "op", Str.ofString "data"]
noncomputable def S_text2 : S :=
  (.seq (.asg 2 .list0)
  (.seq (.forp 3 4 (.var 1)
  (.ite (.cmp .NotEq (.var 3) (.attr 0))
  (.expr (.append (.var 2) (.var 4)))
  .skip))
  (.ret (.join0 (.var 2)))))

end
section
open PySem PySem.W PyProof.Rows PySem.Calls PySem.Spec
set_option Elab.async false
set_option autoImplicit false

inductive FRep (h : Heap) : Fl → Flow → Prop
  | next : FRep h .next .next
  | brk : FRep h .brk .brk
  | cont : FRep h .cont .cont
  | ret {v : V} {c : Value} : Rep h v c → FRep h (.ret v) (.ret c)
noncomputable def fpost (cx : Cx) (σ : St) (s : Shared) (P : Fl → St → Prop) (f : Flow) (s' : Shared) : Prop :=
  ∃ g σ', FRep s'.heap g f ∧ At cx σ' s' ∧ Keep cx σ s σ' s' ∧ P g σ'

section
variable (prog : Program) (w : World) (cx : Cx) (sp : Sp)
noncomputable def SE (e : Expr) (x : X) : Prop := ∀ σ s P, At cx σ s → wpX sp x σ P → wpAny (model prog w) cx.A (eval e cx.env) (cpost cx σ s P) NoE s
noncomputable def SI (e : Expr) (t : T) : Prop := ∀ σ s P, At cx σ s → wpT sp t σ P → wpAny (model prog w) cx.A (PySem.isTrue e cx.env (eval e cx.env)) (bpost cx σ s P) NoE s
noncomputable def SAll (op : BoolOp) (es : List Expr) (t : T) : Prop := ∀ σ s P, At cx σ s → wpT sp t σ P → wpAny (model prog w) cx.A (allTrue op es cx.env) (bpost cx σ s P) NoE s
noncomputable def S1 (st : Stmt) (b : S) : Prop := ∀ σ s P, At cx σ s → wpS sp b σ P → wpAny (model prog w) cx.A (exec st cx.env) (fpost cx σ s P) NoE s
noncomputable def SS (st : List Stmt) (b : S) : Prop := ∀ σ s P, At cx σ s → wpS sp b σ P → wpAny (model prog w) cx.A (execs st cx.env) (fpost cx σ s P) NoE s
/-- the value forms: what an operation on values gives -/
noncomputable def OpOk (t : Value → Value → Sem Value) (f : V → V → St → (V → St → Prop) → Prop) : Prop :=
  ∀ σ s P u v c d, At cx σ s → Rep s.heap u c → Rep s.heap v d → f u v σ P → wpAny (model prog w) cx.A (t c d) (cpost cx σ s P) NoE s
end

section
variable {prog : Program} {w : World} {cx : Cx} {sp : Sp}
theorem fpost.trans {σ σ' : St} {s s' : Shared} {P : Fl → St → Prop} {c : Flow} {s'' : Shared} (k : Keep cx σ s σ' s') (h : fpost cx σ' s' P c s'') : fpost cx σ s P c s'' :=
  let ⟨v, σ₂, r, a, k', p⟩ := h; ⟨v, σ₂, r, a, k.trans k', p⟩
theorem noE {P : Value → Shared → Prop} : ∀ e s, NoE e s → P e s := fun _ _ h => False.elim h

/-- one value is reckoned, then the rest -/
theorem bindX {t : Sem Value} {R : Value → Shared → Prop} {σ : St} {s : Shared} {P : V → St → Prop}
    (h : wpAny (model prog w) cx.A t (cpost cx σ s P) NoE s)
    (hk : ∀ v c σ₁ s₁, Rep s₁.heap v c → At cx σ₁ s₁ → Keep cx σ s σ₁ s₁ → P v σ₁ → R c s₁) :
    wpAny (model prog w) cx.A t R NoE s :=
  wpAny_mono h (fun c s₁ ⟨v, σ₁, r, a, kk, p⟩ => hk v c σ₁ s₁ r a kk p) noE
theorem bindT {t : Sem Bool} {R : Bool → Shared → Prop} {σ : St} {s : Shared} {P : Bool → St → Prop}
    (h : wpAny (model prog w) cx.A t (bpost cx σ s P) NoE s)
    (hk : ∀ b σ₁ s₁, At cx σ₁ s₁ → Keep cx σ s σ₁ s₁ → P b σ₁ → R b s₁) :
    wpAny (model prog w) cx.A t R NoE s :=
  wpAny_mono h (fun c s₁ ⟨σ₁, a, kk, p⟩ => hk c σ₁ s₁ a kk p) noE
theorem bindF {t : Sem Flow} {R : Flow → Shared → Prop} {σ : St} {s : Shared} {P : Fl → St → Prop}
    (h : wpAny (model prog w) cx.A t (fpost cx σ s P) NoE s)
    (hk : ∀ g f σ₁ s₁, FRep s₁.heap g f → At cx σ₁ s₁ → Keep cx σ s σ₁ s₁ → P g σ₁ → R f s₁) :
    wpAny (model prog w) cx.A t R NoE s :=
  wpAny_mono h (fun c s₁ ⟨v, σ₁, r, a, kk, p⟩ => hk v c σ₁ s₁ r a kk p) noE

theorem SE.var (ok : cx.Ok) {x : Str} {pos : Pos} {i : Nat} (hx : cx.names[i]? = some x) : SE prog w cx sp (.Name x pos) (.var i) := by
  intro σ s P a h
  refine wpAny_Name ?_ (ok.dbg x (List.mem_of_getElem? hx))
  have h : (match σ.loc[i]? with | some (some v) => P v σ | _ => False) := h
  split at h
  · rename_i v hv
    exact a.load ok hx hv fun c r => cpost.val0 a r h
  · exact h.elim
theorem SE.int {i : Int} {k : Nat} {pos : Pos} : SE prog w cx sp (.Constant (.int i) k pos) (.int i) :=
  fun _ _ _ a h => wpAny_Constant_int (cpost.val (v := .int i) a _ ⟨_, rfl⟩ h)
theorem SE.str {x : Str} {l : List Nat} {k : Nat} {pos : Pos} (hx : x = strOf l) : SE prog w cx sp (.Constant (.str x) k pos) (.str l) := by
  subst hx
  intro σ s P a h
  exact Constant_str (cpost.val (v := .str l) a _ ⟨_, rfl⟩ h)
theorem SE.bool {b : Bool} {k : Nat} {pos : Pos} : SE prog w cx sp (.Constant (.bool b) k pos) (.bool b) :=
  fun _ _ _ a h => wpAny_Constant_bool (cpost.val0 (v := .bool b) a rfl h)
theorem SE.none {k : Nat} {pos : Pos} : SE prog w cx sp (.Constant .none k pos) .none :=
  fun _ _ _ a h => wpAny_Constant_none (cpost.val0 (v := .none) a rfl h)


theorem newSeq {σ : St} {s : Shared} {P : V → St → Prop} {vs : List V} {cs : List Value} {n : Nat} (a : At cx σ s) (r : Reps s.heap vs cs)
    (h : ∀ l, σ.H l = none → P (.ref l) (σ.setH l vs)) : cpost cx σ s P (.ref s.heap.objs.size) { s with heap := s.heap.push (W.listOf cs.toArray n) } :=
  ⟨.ref s.heap.objs.size, _, rfl, a.newList r, Keep.newList _, h _ a.newAddr⟩

theorem strOf_append (x y : List Nat) : strOf x ++ strOf y = strOf (x ++ y) := by
  show PySem.Str.append _ _ = _; simp [PySem.Str.append, strOf]
theorem ok_add : OpOk prog w cx (binaryOp .Add) (vbin .Add) := by
  intro σ s P u v c d a ru rv h
  cases u
  case int i =>
    cases v <;> first | exact (show False from h).elim | skip
    obtain ⟨t, rfl⟩ := ru; obtain ⟨t', rfl⟩ := rv
    exact add_int (cpost.val (v := .int _) a _ ⟨_, rfl⟩ h)
  case str x =>
    cases v <;> first | exact (show False from h).elim | skip
    rename_i y
    obtain ⟨t, rfl⟩ := ru; obtain ⟨t', rfl⟩ := rv
    refine add_str (fun t' tk => cpost.val (v := .str (x ++ y)) a _ ⟨t', ?_⟩ h.2) (by simpa [PySem.Str.length] using h.1)
    exact congrArg (Value.str · t') (strOf_append x y)
  case ref p =>
    cases v <;> first | exact (show False from h).elim | skip
    rename_i q
    cases ru; cases rv
    have h : (match σ.H p, σ.H q with
      | some vs, some us => vs.length + us.length ≤ sizeLine ∧ ∀ l, σ.H l = none → P (.ref l) (σ.setH l (vs ++ us))
      | _, _ => False) := h
    split at h <;> first | exact h.elim | skip
    rename_i vs us e1 e2
    obtain ⟨n1, m1, cs, p1, r1⟩ := a.hp _ _ e1
    obtain ⟨n2, m2, ds, p2, r2⟩ := a.hp _ _ e2
    obtain ⟨m, F, r⟩ := a.fr
    refine add_lists F allNews_ok p1.isList p2.isList (fun h' F' N' => ?_) (by rw [← r1.length, ← r2.length]; exact h.1)
    obtain ⟨a', k'⟩ := a.laterList F r (r1.append r2) a.noObj a.newAddr F' N' s.toks
    exact ⟨.ref _, _, rfl, a', k', h.2 _ a.newAddr⟩
  all_goals exact (show False from h).elim

theorem ok_sub : OpOk prog w cx (binaryOp .Sub) (vbin .Sub) := by
  intro σ s P u v c d a ru rv h
  cases u <;> first | exact (show False from h).elim | skip
  cases v <;> first | exact (show False from h).elim | skip
  rename_i i j
  · skip
    obtain ⟨t, rfl⟩ := ru; obtain ⟨t', rfl⟩ := rv
    exact sub_int (cpost.val (v := .int _) a _ ⟨_, rfl⟩ h)
theorem log_lt {b : Int} (h : -2 ^ 32 < b ∧ b < 2 ^ 32) : b.natAbs.log2 / 30 + 1 ≤ 2 := by
  have h1 : b.natAbs < 2 ^ 32 := by omega
  have : b.natAbs.log2 < 33 := by
    by_cases hz : b.natAbs = 0
    · rw [hz]; decide
    · have := (Nat.log2_lt hz).mpr (show b.natAbs < 2 ^ 33 by omega)
      exact this
  omega
theorem ok_fdiv : OpOk prog w cx (binaryOp .FloorDiv) (vbin .FloorDiv) := by
  intro σ s P u v c d a ru rv h
  cases u <;> first | exact (show False from h).elim | skip
  cases v <;> first | exact (show False from h).elim | skip
  rename_i i j
  · skip
    obtain ⟨t, rfl⟩ := ru; obtain ⟨t', rfl⟩ := rv
    obtain ⟨h0, ⟨b1, b2, b3, b4⟩, h⟩ := h
    refine floordiv_int h0 (cpost.val (v := .int _) a _ ⟨_, rfl⟩ h) (.inl ?_)
    have := log_lt ⟨b3, b4⟩
    simp only [Builtin.divisionGoesByPylong, Bool.and_eq_false_iff, decide_eq_false_iff_not]
    left
    split <;> omega
theorem ok_mod : OpOk prog w cx (binaryOp .Mod) (vbin .Mod) := by
  intro σ s P u v c d a ru rv h
  cases u <;> first | exact (show False from h).elim | skip
  cases v <;> first | exact (show False from h).elim | skip
  rename_i i j
  · skip
    obtain ⟨t, rfl⟩ := ru; obtain ⟨t', rfl⟩ := rv
    exact mod_int' h.1 (cpost.val (v := .int _) a _ ⟨_, rfl⟩ h.2)
theorem replicate_flat (n : Nat) (c : Value) : List.foldl (fun x1 x2 => x1 ++ x2) #[] (List.replicate n #[c]) = (List.replicate n c).toArray := by
  have : ∀ (n : Nat) (z : Array Value), List.foldl (fun x1 x2 => x1 ++ x2) z (List.replicate n #[c]) = z ++ (List.replicate n c).toArray := by
    intro n
    induction n with
    | zero => intro z; simp
    | succ n ih => intro z; rw [List.replicate_succ, List.foldl_cons, ih, List.replicate_succ]; apply Array.ext'; simp
  simpa using this n #[]
theorem Reps.replicate {h : Heap} {v : V} {c : Value} (r : Rep h v c) : ∀ n : Nat, Reps h (List.replicate n v) (List.replicate n c)
  | 0 => trivial
  | n + 1 => ⟨r, Reps.replicate r n⟩
theorem ok_mul : OpOk prog w cx (binaryOp .Mult) (vbin .Mult) := by
  intro σ s P u v c d a ru rv h
  cases u <;> first | exact (show False from h).elim | skip
  case int i =>
    cases v <;> first | exact (show False from h).elim | skip
    rename_i j
    obtain ⟨t, rfl⟩ := ru; obtain ⟨t', rfl⟩ := rv
    obtain ⟨⟨b1, b2, b3, b4⟩, h⟩ := h
    exact mul_int (cpost.val (v := .int _) a _ ⟨_, rfl⟩ h) (IntMulOk.of_left (intBits_le_64 (by omega) (by omega)))
  case ref p =>
    cases v <;> first | exact (show False from h).elim | skip
    rename_i n
    cases ru; obtain ⟨t', rfl⟩ := rv
    have h : (match σ.H p with
      | some [v] => 0 ≤ n ∧ n ≤ 2 ^ 20 ∧ ∀ l, σ.H l = none → P (.ref l) (σ.setH l (List.replicate n.toNat v))
      | _ => False) := h
    split at h <;> first | exact h.elim | skip
    rename_i v e1
    obtain ⟨h1, h2, h⟩ := h
    obtain ⟨n1, m1, cs, ⟨k, p1⟩, r1⟩ := a.hp _ _ e1
    obtain ⟨c, rfl, q1⟩ := reps1 r1
    · obtain ⟨m, F, r⟩ := a.fr
      refine mul_list F allNews_ok p1 (by omega) (by omega) ?_ (fun h' F' N' => ?_)
      · have : (n.toNat : Int) = n := Int.toNat_of_nonneg h1
        simp; omega
      · have e : List.foldl (fun x1 x2 => x1 ++ x2) #[] (List.replicate (if [c].toArray.isEmpty = true then 0 else n.toNat) [c].toArray) = (List.replicate n.toNat c).toArray := by
          simpa using replicate_flat n.toNat c
        rw [e] at N'
        obtain ⟨a', k'⟩ := a.laterList F r (Reps.replicate q1 n.toNat) a.noObj a.newAddr F' N' s.toks
        exact ⟨.ref _, _, rfl, a', k', h _ a.newAddr⟩

theorem SE.bin {l r : Expr} {x y : X} {op : Operator} {pos : Pos} (ho : OpOk prog w cx (binaryOp op) (vbin op)) (hl : SE prog w cx sp l x) (hr : SE prog w cx sp r y) :
    SE prog w cx sp (.BinOp l op r pos) (.bin op x y) := by
  intro σ s P a h
  refine wpAny_BinOp (bindX (hl σ s _ a h) fun u c σ₁ s₁ ru a₁ k₁ h₁ => bindX (hr σ₁ s₁ _ a₁ h₁) fun v d σ₂ s₂ rv a₂ k₂ h₂ => ?_)
  exact wpAny_mono (ho σ₂ s₂ P u v c d a₂ (ru.keep a₁ k₂) rv h₂) (fun _ _ z => z.trans (k₁.trans k₂)) noE
end
end
section
open PySem PySem.W PyProof.Rows PySem.Calls PySem.Spec
set_option Elab.async false
set_option autoImplicit false
section
variable {prog : Program} {w : World} {cx : Cx} {sp : Sp}

theorem SE.neg {e : Expr} {x : X} {pos : Pos} (he : SE prog w cx sp e x) : SE prog w cx sp (.UnaryOp .USub e pos) (.neg x) := by
  intro σ s P a h
  refine wpAny_UnaryOp (bindX (he σ s _ a h) fun u c σ₁ s₁ ru a₁ k₁ h₁ => ?_)
  cases u <;> first | exact (show False from h₁).elim | skip
  obtain ⟨t, rfl⟩ := ru
  exact neg_int (cpost.trans k₁ (cpost.val (v := .int _) a₁ _ ⟨_, rfl⟩ h₁))

theorem strOf_beq (x y : List Nat) : (strOf x == strOf y) = decide (x = y) := by
  by_cases h : x = y
  · subst h; simp
  · have : strOf x ≠ strOf y := fun e => h (by simpa [strOf] using e)
    simp [h, this]
/-- a comparison of values -/
theorem cmpOk {op : CmpOp} {σ : St} {s : Shared} {u v : V} {c d : Value} {b : Bool} {Q : Value → Shared → Prop} {A : Around} {E : Value → Shared → Prop}
    (ru : Rep s.heap u c) (rv : Rep s.heap v d) (e : vcmp op u v = some b) (h : Q (.bool b) s) : wpAny (model prog w) A (compareOp op c d) Q E s := by
  cases u <;> first | (cases e; done) | skip
  case int i =>
    cases v <;> first | (cases e; done) | skip
    rename_i j
    obtain ⟨t, rfl⟩ := ru; obtain ⟨t', rfl⟩ := rv
    cases op <;> first | (have e : (none : Option Bool) = some b := e; cases e; done) | skip
    · have e : decide (i = j) = b := Option.some.inj e
      exact eq_int (by rw [show (i == j) = decide (i = j) from by by_cases h : i = j <;> simp [h], e]; exact h)
    · have e : decide (i ≠ j) = b := Option.some.inj e
      exact ne_int (by rw [show (i != j) = decide (i ≠ j) from by by_cases h : i = j <;> simp [h], e]; exact h)
    · have e : decide (i < j) = b := Option.some.inj e
      subst e; exact lt_int h
    · have e : decide (i ≤ j) = b := Option.some.inj e
      subst e; exact le_int h
    · have e : decide (i > j) = b := Option.some.inj e
      subst e; exact gt_int h
    · have e : decide (i ≥ j) = b := Option.some.inj e
      subst e; exact ge_int h
  case str x =>
    cases v <;> first | (cases e; done) | skip
    case str y =>
      obtain ⟨t, rfl⟩ := ru; obtain ⟨t', rfl⟩ := rv
      cases op <;> first | (have e : (none : Option Bool) = some b := e; cases e; done) | skip
      · have e : decide (x = y) = b := Option.some.inj e
        refine PyProof.Rows.eq_str ?_
        rw [show ((⟨x.toArray⟩ : Str) == ⟨y.toArray⟩) = decide (x = y) from strOf_beq x y, e]; exact h
      · have e : decide (x ≠ y) = b := Option.some.inj e
        refine PyProof.Rows.ne_str ?_
        rw [show ((⟨x.toArray⟩ : Str) != ⟨y.toArray⟩) = decide (x ≠ y) from by
          have := strOf_beq x y
          simp only [strOf] at this
          simp [bne, this], e]; exact h
    case none =>
      obtain ⟨t, rfl⟩ := ru; cases rv
      cases op <;> first | (have e : (none : Option Bool) = some b := e; cases e; done) | skip
      have e : false = b := Option.some.inj e
      subst e
      exact EqNone.eq_str_none h

theorem SE.cmp {l r : Expr} {x y : X} {op : CmpOp} {pos : Pos} (hl : SE prog w cx sp l x) (hr : SE prog w cx sp r y) (hm : behindInMarks op r = false := by with_unfolding_all rfl) :
    SE prog w cx sp (.Compare l [op] [r] pos) (.cmp op x y) := by
  intro σ s P a h
  refine wpAny_Compare1 (bindX (hl σ s _ a h) fun u c σ₁ s₁ ru a₁ k₁ h₁ => bindX (hr σ₁ s₁ _ a₁ h₁) fun v d σ₂ s₂ rv a₂ k₂ h₂ => ?_) hm
  split at h₂ <;> first | exact h₂.elim | skip
  rename_i b e
  exact cmpOk (σ := σ) (ru.keep a₁ k₂) rv e (cpost.trans (k₁.trans k₂) (cpost.val0 (v := .bool b) a₂ rfl h₂))

/-! tests -/
theorem SI.cmp {l r : Expr} {x y : X} {op : CmpOp} {pos : Pos} (hl : SE prog w cx sp l x) (hr : SE prog w cx sp r y) (hm : behindInMarks op r = false := by with_unfolding_all rfl) :
    SI prog w cx sp (.Compare l [op] [r] pos) (.cmp op x y) := by
  intro σ s P a h
  refine wpAny_isTrue_Compare1 (bindX (hl σ s _ a h) fun u c σ₁ s₁ ru a₁ k₁ h₁ => bindX (hr σ₁ s₁ _ a₁ h₁) fun v d σ₂ s₂ rv a₂ k₂ h₂ => ?_) hm
  split at h₂ <;> first | exact h₂.elim | skip
  rename_i b e
  exact cmpOk (σ := σ) (ru.keep a₁ k₂) rv e (wpAny_truthy_bool ⟨σ₂, a₂, k₁.trans k₂, h₂⟩)

theorem truthOk {σ : St} {s : Shared} {u : V} {c : Value} {b : Bool} {P : Bool → St → Prop} {A : Around} {E : Value → Shared → Prop} (a : At cx σ s)
    (ru : Rep s.heap u c) (hz : vsize u) (e : vtruth u = some b) (h : P b σ) : wpAny (model prog w) A (truthy c) (bpost cx σ s P) E s := by
  cases u <;> simp only [vtruth, Option.some.injEq, reduceCtorEq] at e
  case str x =>
    obtain ⟨t, rfl⟩ := ru; subst e
    have hz : x.length ≤ 2 ^ 24 := hz
    have e0 : PySem.Str.length ⟨x.toArray⟩ = x.length := by simp [PySem.Str.length]
    refine PySem.P.truthy_str (by rw [e0]; omega) ?_
    rw [e0, show (((x.length : Int) != 0)) = !x.isEmpty from by cases x <;> simp <;> omega]
    exact ⟨σ, a.toks _, Keep.toks _, h⟩
  case bool b' => cases ru; subst e; exact wpAny_truthy_bool ⟨σ, a, Keep.refl, h⟩
  case none => cases ru; subst e; exact truthy_none ⟨σ, a, Keep.refl, h⟩

theorem SI.val {e : Expr} {x : X} (he : SE prog w cx sp e x) (hv : PySem.isTrue e cx.env (eval e cx.env) = (do let v ← eval e cx.env; standAt e.pos; holding [v] (truthy v)) := by rfl) :
    SI prog w cx sp e (.val x) := by
  intro σ s P a h
  refine wpAny_isTrue_value (bindX (he σ s _ a h) fun u c σ₁ s₁ ru a₁ k₁ h₁ => ?_) hv
  obtain ⟨hz, h₁⟩ := h₁
  split at h₁ <;> first | exact h₁.elim | skip
  rename_i b e'
  exact wpAny_mono (truthOk a₁ ru hz e' h₁) (fun _ _ z => z.trans k₁) noE
theorem SI.not {e : Expr} {t : T} {pos : Pos} (he : SI prog w cx sp e t) : SI prog w cx sp (.UnaryOp .Not e pos) (.not t) := by
  intro σ s P a h
  exact wpAny_isTrue_Not (bindT (he σ s _ a h) fun b σ₁ s₁ a₁ k₁ h₁ => ⟨σ₁, a₁, k₁, h₁⟩)
theorem SI.bool {op : BoolOp} {es : List Expr} {t : T} {pos : Pos} (he : SAll prog w cx sp op es t) : SI prog w cx sp (.BoolOp op es pos) t := by
  intro σ s P a h
  exact wpAny_isTrue_BoolOp (he σ s P a h)
theorem SAll.andNil : SAll prog w cx sp .And [] .tt := fun _ _ _ a h => wpAny_allTrue_And_nil ⟨_, a, Keep.refl, h⟩
theorem SAll.orNil : SAll prog w cx sp .Or [] .ff := fun _ _ _ a h => wpAny_allTrue_Or_nil ⟨_, a, Keep.refl, h⟩
theorem SAll.andCons {e : Expr} {es : List Expr} {t u : T} (he : SI prog w cx sp e t) (hs : SAll prog w cx sp .And es u) : SAll prog w cx sp .And (e :: es) (.and t u) := by
  intro σ s P a h
  refine wpAny_allTrue_And_cons (bindT (he σ s _ a h) fun b σ₁ s₁ a₁ k₁ h₁ => ?_)
  cases b
  · exact ⟨σ₁, a₁, k₁, h₁⟩
  · exact wpAny_mono (hs σ₁ s₁ P a₁ h₁) (fun _ _ z => z.trans k₁) noE
theorem SAll.orCons {e : Expr} {es : List Expr} {t u : T} (he : SI prog w cx sp e t) (hs : SAll prog w cx sp .Or es u) : SAll prog w cx sp .Or (e :: es) (.or t u) := by
  intro σ s P a h
  refine wpAny_allTrue_Or_cons (bindT (he σ s _ a h) fun b σ₁ s₁ a₁ k₁ h₁ => ?_)
  cases b
  · exact wpAny_mono (hs σ₁ s₁ P a₁ h₁) (fun _ _ z => z.trans k₁) noE
  · exact ⟨σ₁, a₁, k₁, h₁⟩

/-! statements -/
theorem SS.nil : SS prog w cx sp [] .skip := fun _ _ _ a h => wpAny_execs_nil ⟨.next, _, .next, a, Keep.refl, h⟩
theorem SS.cons {st : Stmt} {rest : List Stmt} {b c : S} (h1 : S1 prog w cx sp st b) (h2 : SS prog w cx sp rest c) : SS prog w cx sp (st :: rest) (.seq b c) := by
  intro σ s P a h
  refine wpAny_execs_cons (bindF (h1 σ s _ a h) fun g f σ₁ s₁ rf a₁ k₁ p₁ => ?_)
  cases rf with
  | next => exact wpAny_mono (h2 σ₁ s₁ P a₁ p₁) (fun _ _ z => z.trans k₁) noE
  | brk => exact ⟨.brk, σ₁, .brk, a₁, k₁, p₁⟩
  | cont => exact ⟨.cont, σ₁, .cont, a₁, k₁, p₁⟩
  | ret r => exact ⟨.ret _, σ₁, .ret r, a₁, k₁, p₁⟩
theorem SS.last {st : Stmt} {b : S} (h1 : S1 prog w cx sp st b) : SS prog w cx sp [st] b := by
  intro σ s P a h
  refine wpAny_execs_cons (bindF (h1 σ s _ a h) fun g f σ₁ s₁ rf a₁ k₁ p₁ => ?_)
  cases rf with
  | next => exact wpAny_execs_nil ⟨.next, σ₁, .next, a₁, k₁, p₁⟩
  | brk => exact ⟨.brk, σ₁, .brk, a₁, k₁, p₁⟩
  | cont => exact ⟨.cont, σ₁, .cont, a₁, k₁, p₁⟩
  | ret r => exact ⟨.ret _, σ₁, .ret r, a₁, k₁, p₁⟩
theorem S1.bad {st : Stmt} : S1 prog w cx sp st .bad := fun _ _ _ _ h => h.elim
theorem SS.bad {st : List Stmt} : SS prog w cx sp st .bad := fun _ _ _ _ h => h.elim
theorem S1.asg (ok : cx.Ok) {x : Str} {p pos : Pos} {i : Nat} {e : Expr} {y : X} (hx : cx.names[i]? = some x) (he : SE prog w cx sp e y)
    (hs : swapsWith e (some (.Name x p)) pos.line cx.env = pure false := by rfl) : S1 prog w cx sp (.Assign [.Name x p] e pos) (.asg i y) := by
  intro σ s P a h
  refine wpAny_Assign_Name (bindX (he σ s _ a h) fun u c σ₁ s₁ ru a₁ k₁ h₁ => ?_) hs
  exact a₁.store ok hx ru fun s' a' k' => ⟨.next, _, .next, a', k₁.trans k', h₁⟩
theorem S1.ite {e : Expr} {pos : Pos} {t : T} {b c : S} {bs cs : List Stmt} (he : SI prog w cx sp e t) (hb : SS prog w cx sp bs b) (hc : SS prog w cx sp cs c) :
    S1 prog w cx sp (.If e bs cs pos) (.ite t b c) := by
  intro σ s P a h
  refine wpAny_If (bindT (he σ s _ a h) fun v σ₁ s₁ a₁ k₁ h₁ => ?_)
  cases v
  · exact wpAny_mono (hc σ₁ s₁ P a₁ h₁) (fun _ _ z => z.trans k₁) noE
  · exact wpAny_mono (hb σ₁ s₁ P a₁ h₁) (fun _ _ z => z.trans k₁) noE
theorem S1.ret {e : Expr} {pos : Pos} {x : X} (he : SE prog w cx sp e x) : S1 prog w cx sp (.Return (some e) pos) (.ret x) := by
  intro σ s P a h
  exact wpAny_Return_some (bindX (he σ s _ a h) fun u c σ₁ s₁ ru a₁ k₁ h₁ => ⟨.ret u, σ₁, .ret ru, a₁, k₁, h₁⟩)
theorem S1.expr {e : Expr} {pos : Pos} {x : X} (he : SE prog w cx sp e x) (hi : interactive cx.env = false := by rfl) (hs : swapsWith e none pos.line cx.env = pure false := by rfl) :
    S1 prog w cx sp (.Expr e pos) (.expr x) := by
  intro σ s P a h
  exact wpAny_Expr_any (bindX (he σ s _ a h) fun u c σ₁ s₁ ru a₁ k₁ h₁ => ⟨.next, σ₁, .next, a₁, k₁, h₁⟩) hi hs
theorem S1.whil {e : Expr} {pos : Pos} {t : T} {b : S} {bs : List Stmt} (he : SI prog w cx sp e t) (hb : SS prog w cx sp bs b) :
    S1 prog w cx sp (.While e bs [] pos) (.whil t b) := by
  rintro σ s P a ⟨I, μ, h0, hI⟩
  refine wpAny_While (codeAny_whileLoop (fun n s' => ∃ σ', At cx σ' s' ∧ Keep cx σ s σ' s' ∧ I σ' ∧ μ σ' = n) ?_ (μ σ) ⟨σ, a, Keep.refl, h0, rfl⟩)
  rintro n s' ⟨σ', a', k', i', rfl⟩
  refine wpAny_mono (bindT (R := fun v s₁ => if v = true then _ else _) (he σ' s' _ a' (hI σ' i')) fun v σ₁ s₁ a₁ k₁ h₁ => ?_) (fun _ _ z => z) noE
  cases v
  · exact wpAny_execs_nil ⟨.next, σ₁, .next, a₁, k'.trans k₁, h₁⟩
  · refine wpAny_mono (bindF (hb σ₁ s₁ _ a₁ h₁) fun g f σ₂ s₂ rf a₂ k₂ p₂ => ?_) (fun _ _ z => z) noE
    cases rf with
    | next => exact ⟨_, p₂.2, σ₂, a₂, k'.trans (k₁.trans k₂), p₂.1, rfl⟩
    | cont => exact ⟨_, p₂.2, σ₂, a₂, k'.trans (k₁.trans k₂), p₂.1, rfl⟩
    | brk => exact ⟨.next, σ₂, .next, a₂, k'.trans (k₁.trans k₂), p₂⟩
    | ret r => exact ⟨.ret _, σ₂, .ret r, a₂, k'.trans (k₁.trans k₂), p₂⟩
end
end
section
open PySem PySem.W PyProof.Rows PySem.Calls PySem.Spec
set_option Elab.async false
set_option autoImplicit false
set_option linter.unusedVariables false
noncomputable def biTable : List (Str × Value) := [(Str.ofString "len", .builtin "len"), (Str.ofString "min", .builtin "min"), (Str.ofString "max", .builtin "max"), (Str.ofString "range", .type "range"), (Str.ofString "sum", .builtin "sum")]
theorem bi_len : (Str.ofString "len", Value.builtin "len") ∈ biTable := by simp [biTable]
theorem bi_min : (Str.ofString "min", Value.builtin "min") ∈ biTable := by simp [biTable]
theorem bi_max : (Str.ofString "max", Value.builtin "max") ∈ biTable := by simp [biTable]
theorem bi_range : (Str.ofString "range", Value.type "range") ∈ biTable := by simp [biTable]
theorem bi_sum : (Str.ofString "sum", Value.builtin "sum") ∈ biTable := by simp [biTable]
noncomputable def Globs (prog : Program) (w : World) (cx : Cx) : Prop :=
  ∀ (x : Str) (v : Value), (x, v) ∈ biTable → cx.env.kindOf x = some .globalImplicit → ∀ σ s (Q : Value → Shared → Prop), At cx σ s → Q v s → wpAny (model prog w) cx.A (loadName cx.env x) Q NoE s
section
variable {prog : Program} {w : World} {cx : Cx} {sp : Sp}

theorem bindX' {t : Sem Value} {R : Value → Shared → Prop} {σ : St} {s : Shared} {P : V → St → Prop}
    (h : wpAny (model prog w) cx.A t (cpost cx σ s P) NoE s)
    (hk : ∀ v c σ₁ s₁, Rep s₁.heap v c → At cx σ₁ s₁ → Keep cx σ s σ₁ s₁ → P v σ₁ → R c s₁) :
    wpAny (model prog w) cx.A t R NoE s := bindX h hk

theorem len_ok {σ : St} {s : Shared} {u : V} {c : Value} {P : V → St → Prop} (a : At cx σ s) (ru : Rep s.heap u c) (h : vlen u σ P) :
    wpAny (model prog w) cx.A (PySem.call (.builtin "len") [c]) (cpost cx σ s P) NoE s := by
  cases u <;> first | exact (show False from h).elim | skip
  case str x =>
    obtain ⟨t, rfl⟩ := ru
    obtain ⟨hz, h⟩ := h
    have e0 : PySem.Str.length ⟨x.toArray⟩ = x.length := by simp [PySem.Str.length]
    refine PySem.P.len_str (by rw [e0]; omega) ?_
    rw [e0]
    exact cpost.val (v := .int _) a _ ⟨_, rfl⟩ h
  case ref l =>
    cases ru
    have h : (match σ.H l with | some vs => vs.length ≤ 2 ^ 20 ∧ P (.int vs.length) σ | none => False) := h
    split at h <;> first | exact h.elim | skip
    rename_i vs e
    obtain ⟨_, _, cs, p, r⟩ := a.hp _ _ e
    refine call_len_list p.isList (by rw [List.size_toArray, ← r.length]; omega) ?_
    rw [List.size_toArray, ← r.length]
    exact cpost.val (v := .int _) a _ ⟨_, rfl⟩ h.2

theorem SE.len (G : Globs prog w cx) {e : Expr} {x : X} {p pos : Pos} (he : SE prog w cx sp e x)
    (hk : cx.env.kindOf (Str.ofString "len") = some .globalImplicit := by rfl)
    (hst : starEach [e] cx.env = (false, eval e cx.env) :: starEach [] cx.env := by rfl) :
    SE prog w cx sp (.Call (.Name (Str.ofString "len") p) [e] [] pos) (.len x) := by
  intro σ s P a h
  refine wpAny_Call_NameR (wpAny_Name (G _ _ bi_len hk σ s _ a ?_) (by decide))
  refine PyProof.Rows.callWith_builtin1 (spliced_more ?_ hst) hst rfl
  refine bindX (he σ s _ a h) fun u c σ₁ s₁ ru a₁ k₁ h₁ => spliced_none ?_
  exact wpAny_mono (len_ok a₁ ru h₁) (fun _ _ z => z.trans k₁) noE

theorem min_ok {σ : St} {s : Shared} {i j : Int} {c d : Value} {P : V → St → Prop} (ok : cx.Ok) (a : At cx σ s) (ru : Rep s.heap (.int i) c) (rv : Rep s.heap (.int j) d) (h : P (.int (min i j)) σ) :
    wpAny (model prog w) cx.A (PySem.call (.builtin "min") [c, d]) (cpost cx σ s P) NoE s := by
  obtain ⟨t, rfl⟩ := ru; obtain ⟨t', rfl⟩ := rv
  obtain ⟨m, F, r⟩ := a.fr
  refine min_two_N ok.handled F allNews_ok fun h' tk F' N' => ?_
  obtain ⟨a', k'⟩ := a.later F r F' (fun p hp => (N' p hp).1) tk
  refine ⟨.int (min i j), σ, ⟨if j < i then t' else t, ?_⟩, a', k', h⟩
  rw [show min i j = if j < i then j else i from by split <;> omega]
theorem max_ok {σ : St} {s : Shared} {i j : Int} {c d : Value} {P : V → St → Prop} (ok : cx.Ok) (a : At cx σ s) (ru : Rep s.heap (.int i) c) (rv : Rep s.heap (.int j) d) (h : P (.int (max i j)) σ) :
    wpAny (model prog w) cx.A (PySem.call (.builtin "max") [c, d]) (cpost cx σ s P) NoE s := by
  obtain ⟨t, rfl⟩ := ru; obtain ⟨t', rfl⟩ := rv
  obtain ⟨m, F, r⟩ := a.fr
  refine max_two_N ok.handled F allNews_ok fun h' tk F' N' => ?_
  obtain ⟨a', k'⟩ := a.later F r F' (fun p hp => (N' p hp).1) tk
  refine ⟨.int (max i j), σ, ⟨if j > i then t' else t, ?_⟩, a', k', h⟩
  rw [show max i j = if j > i then j else i from by split <;> omega]
theorem SE.min (ok : cx.Ok) (G : Globs prog w cx) {e f : Expr} {x y : X} {p pos : Pos} (he : SE prog w cx sp e x) (hf : SE prog w cx sp f y)
    (hk : cx.env.kindOf (Str.ofString "min") = some .globalImplicit := by rfl)
    (hst : starEach [e, f] cx.env = (false, eval e cx.env) :: starEach [f] cx.env := by rfl) (hst' : starEach [f] cx.env = (false, eval f cx.env) :: starEach [] cx.env := by rfl)
    (hp : (backTo pos (starEach [f] cx.env)).any (·.1) = false := by rfl) :
    SE prog w cx sp (.Call (.Name (Str.ofString "min") p) [e, f] [] pos) (.min2 x y) := by
  intro σ s P a h
  refine wpAny_Call_NameR (wpAny_Name (G _ _ bi_min hk σ s _ a ?_) (by decide))
  refine PyProof.Rows.callWith_builtin1 (spliced_more ?_ hst) hst hp
  refine bindX (he σ s _ a h) fun u c σ₁ s₁ ru a₁ k₁ h₁ => spliced_more (bindX (hf σ₁ s₁ _ a₁ h₁) fun v d σ₂ s₂ rv a₂ k₂ h₂ => spliced_none ?_) hst'
  cases u <;> cases v <;> first | exact (show False from h₂).elim | skip
  exact wpAny_mono (min_ok ok a₂ (ru.keep a₁ k₂) rv h₂) (fun _ _ z => z.trans (k₁.trans k₂)) noE
theorem SE.max (ok : cx.Ok) (G : Globs prog w cx) {e f : Expr} {x y : X} {p pos : Pos} (he : SE prog w cx sp e x) (hf : SE prog w cx sp f y)
    (hk : cx.env.kindOf (Str.ofString "max") = some .globalImplicit := by rfl)
    (hst : starEach [e, f] cx.env = (false, eval e cx.env) :: starEach [f] cx.env := by rfl) (hst' : starEach [f] cx.env = (false, eval f cx.env) :: starEach [] cx.env := by rfl)
    (hp : (backTo pos (starEach [f] cx.env)).any (·.1) = false := by rfl) :
    SE prog w cx sp (.Call (.Name (Str.ofString "max") p) [e, f] [] pos) (.max2 x y) := by
  intro σ s P a h
  refine wpAny_Call_NameR (wpAny_Name (G _ _ bi_max hk σ s _ a ?_) (by decide))
  refine PyProof.Rows.callWith_builtin1 (spliced_more ?_ hst) hst hp
  refine bindX (he σ s _ a h) fun u c σ₁ s₁ ru a₁ k₁ h₁ => spliced_more (bindX (hf σ₁ s₁ _ a₁ h₁) fun v d σ₂ s₂ rv a₂ k₂ h₂ => spliced_none ?_) hst'
  cases u <;> cases v <;> first | exact (show False from h₂).elim | skip
  exact wpAny_mono (max_ok ok a₂ (ru.keep a₁ k₂) rv h₂) (fun _ _ z => z.trans (k₁.trans k₂)) noE

theorem SE.ife {l r e f : Expr} {x y z t : X} {op : CmpOp} {p pos : Pos} (hl : SE prog w cx sp l x) (hr : SE prog w cx sp r y) (he : SE prog w cx sp e z) (hf : SE prog w cx sp f t)
    (hm : behindInMarks op r = false := by with_unfolding_all rfl) : SE prog w cx sp (.IfExp (.Compare l [op] [r] p) e f pos) (.ife op x y z t) := by
  intro σ s P a h
  refine wpAny_IfExp (wpAny_isTrue_Compare1 (bindX (hl σ s _ a h) fun u c σ₁ s₁ ru a₁ k₁ h₁ => bindX (hr σ₁ s₁ _ a₁ h₁) fun v d σ₂ s₂ rv a₂ k₂ h₂ => ?_) hm)
  split at h₂ <;> first | exact h₂.elim | skip
  rename_i b e
  refine cmpOk (σ := σ) (ru.keep a₁ k₂) rv e (wpAny_truthy_bool ?_)
  cases b
  · exact wpAny_mono (hf σ₂ s₂ P a₂ h₂) (fun _ _ z => z.trans (k₁.trans k₂)) noE
  · exact wpAny_mono (he σ₂ s₂ P a₂ h₂) (fun _ _ z => z.trans (k₁.trans k₂)) noE

/-! items -/
theorem seqIdx {n : Nat} {i : Int} (h : -(n : Int) ≤ i) (h' : i < n) : seqIndex? i n = some (idx n i) := by
  unfold seqIndex? idx
  simp only
  split <;> split <;> (try split) <;> simp_all <;> omega
theorem idx_lt {α : Type} {l : List α} {i : Int} {v : α} (h : -(l.length : Int) ≤ i) (e : l[idx l.length i]? = some v) : i < l.length := by
  have := (List.getElem?_eq_some_iff.mp e).1
  unfold idx at this
  split at this <;> omega
theorem item_ok {σ : St} {s : Shared} {u v : V} {c d : Value} {P : V → St → Prop} {value slice : Expr} (a : At cx σ s) (ru : Rep s.heap u c) (rv : Rep s.heap v d) (h : vitem u v σ P)
    (hs : ∀ c d, subscripted slice false c d = operate [c, d] (getItem c d)) :
    wpAny (model prog w) cx.A (subscriptTail value slice c d) (cpost cx σ s P) NoE s := by
  cases u <;> cases v <;> first | exact (show False from h).elim | skip
  case str.int x i =>
    obtain ⟨t, rfl⟩ := ru; obtain ⟨t', rfl⟩ := rv
    obtain ⟨h1, h2, h3⟩ := h
    split at h3 <;> first | exact h3.elim | skip
    rename_i ch e
    have e0 : PySem.Str.length ⟨x.toArray⟩ = x.length := by simp [PySem.Str.length]
    have hlt := idx_lt h1 e
    refine tail_any (typeIs_str _ _ _) F.slot_str_getitem.lookup (PySem.P.getItem_str (c := ch) ?_ ?_ (cpost.val (v := .str [ch]) a _ ⟨_, rfl⟩ h3)) (hs _ _)
    · simp only [Bool.or_eq_false_iff, decide_eq_false_iff_not]; omega
    · rw [e0, seqIdx h1 hlt]; simpa using e
  case ref.int l i =>
    cases ru; obtain ⟨t', rfl⟩ := rv
    have h : (match σ.H l with
      | some vs => -(vs.length : Int) ≤ i ∧ vs.length ≤ 2 ^ 20 ∧ (match vs[idx vs.length i]? with | some v => P v σ | none => False)
      | none => False) := h
    split at h <;> first | exact h.elim | skip
    rename_i vs e
    obtain ⟨h1, h2, h3⟩ := h
    split at h3 <;> first | exact h3.elim | skip
    rename_i v e2
    obtain ⟨_, _, cs, p, r⟩ := a.hp _ _ e
    obtain ⟨c, e3, rc⟩ := r.get e2
    have hlt := idx_lt h1 e2
    have hl := r.length
    refine tail_any p.isList.typeIs slot_list_getitem.lookup ?_ (hs _ _)
    by_cases hn : i < 0
    · refine wpAny_getItem_list_neg (x := c) p.isList hn (by simp; omega) (by omega) ?_ (cpost.val0 a rc h3)
      have : idx vs.length i = (i + vs.length).toNat := by simp [idx, hn]
      rw [this, hl] at e3
      simpa using e3
    · refine wpAny_getItem_list (x := c) p.isList (by omega) (by omega) ?_ (cpost.val0 a rc h3)
      have : idx vs.length i = i.toNat := by simp [idx, hn]
      rw [this] at e3
      simpa using e3
  case tup.int x y i =>
    obtain ⟨b, c1, c2, rfl, ht, r1, r2⟩ := ru; obtain ⟨t', rfl⟩ := rv
    have hh : ∃ (j : Nat) (v : V) (e : Value), i = (j : Int) ∧ j < 2 ∧ #[c1, c2][j]? = some e ∧ Rep s.heap v e ∧ P v σ := by
      rcases h with ⟨rfl, h⟩ | ⟨rfl, h⟩
      · exact ⟨0, x, c1, rfl, by omega, rfl, r1, h⟩
      · exact ⟨1, y, c2, rfl, by omega, rfl, r2, h⟩
    obtain ⟨j, v, e, rfl, hj, he, rv, hp⟩ := hh
    refine tail_any (T := "tuple") ?_ slot_tuple_getitem.lookup (getItem_tuple (j := j) (x := e) ht (by omega) (by omega) ?_ he (cpost.val0 a rv hp)) (hs _ _)
    · exact IsTup.typeIs ht
    · have := seqIdx (n := 2) (i := (j : Int)) (by omega) (by omega)
      rw [show idx 2 (j : Int) = j from by unfold idx; split <;> omega] at this
      exact this
theorem SE.item {e i : Expr} {x y : X} {pos : Pos} (he : SE prog w cx sp e x) (hi : SE prog w cx sp i y)
    (hs : ∀ c d, subscripted i false c d = operate [c, d] (getItem c d) := by intro _ _; rfl) : SE prog w cx sp (.Subscript e i pos) (.item x y) := by
  intro σ s P a h
  refine Subscript_ (bindX (he σ s _ a h) fun u c σ₁ s₁ ru a₁ k₁ h₁ => bindX (hi σ₁ s₁ _ a₁ h₁) fun v d σ₂ s₂ rv a₂ k₂ h₂ => ?_)
  exact wpAny_mono (item_ok a₂ (ru.keep a₁ k₂) rv h₂ hs) (fun _ _ z => z.trans (k₁.trans k₂)) noE
end
end
section
open PySem PySem.W PyProof.Rows PySem.Calls PySem.Spec PySem.Builtin.Str
set_option Elab.async false
set_option autoImplicit false
set_option linter.unusedVariables false
section
variable {prog : Program} {w : World} {cx : Cx} {sp : Sp}

theorem pick_run {α : Type} (x : List α) : ∀ (m a : Nat), ((List.range m).map fun k => a + k).filterMap (fun k => x[k]?) = (x.drop a).take m := by
  intro m
  induction m with
  | zero => intro a; simp
  | succ m ih =>
    intro a
    rw [List.range_succ, List.map_append, List.filterMap_append, ih a, List.take_add_one]
    simp only [List.getElem?_drop, List.map_cons, List.map_nil, List.filterMap_cons, List.filterMap_nil]
    cases x[a + m]? <;> rfl
theorem pick_eq {α : Type} (x : List α) (a b : Nat) : (sliceRange (a : Int) (b : Int) 1).filterMap (fun k => x[k]?) = (x.take b).drop a := by
  unfold sliceRange
  simp only [show (1 : Int) > 0 by decide, if_true]
  have e : (fun k : Nat => ((a : Int) + 1 * (k : Int)).toNat) = fun k => a + k := by funext k; omega
  rw [e]
  have e2 : (if (a : Int) < b then ((b : Int) - a + 1 - 1) / 1 else 0).toNat = b - a := by
    rw [Int.ediv_one]; split <;> omega
  rw [e2, pick_run, List.drop_take]
theorem clip_eq (n d : Nat) (o : Option Int) : (match o with | none => (d : Int) | some i => max 0 (min (if i < 0 then i + n else i) (n : Int))) = (cl n d o : Int) := by
  cases o with
  | none => rfl
  | some i =>
    simp only [cl]
    by_cases h : i < 0
    · rw [if_pos h, if_pos h, Int.min_eq_left (Int.le_trans (Int.add_le_add_right (Int.le_of_lt h) n) (Int.le_of_eq (Int.zero_add _))), Int.max_comm]
      exact (Int.toNat_eq_max (i + n)).symm
    · obtain ⟨i, rfl⟩ := Int.eq_ofNat_of_zero_le (Int.not_lt.mp h)
      rw [if_neg h, if_neg h, Int.toNat_natCast]
      clear h
      omega
theorem strSlice_eq (x : List Nat) (lo hi : Option Int) : (strSliceIndices lo hi 1 x.length).filterMap (fun k => x[k]?) = pslice x lo hi := by
  unfold strSliceIndices pslice
  simp only [show (1 : Int) > 0 by decide, if_true]
  have h1 := clip_eq x.length 0 lo
  have h2 := clip_eq x.length x.length hi
  rw [← pick_eq, ← h1, ← h2]
  rfl
theorem slicePick_eq (x : List Value) (lo hi : Option Int) : slicePick x.toArray lo hi none = (pslice x lo hi).toArray := by
  unfold slicePick sliceBounds pslice
  simp only [show (1 : Int) > 0 by decide, if_true, Option.getD_none, List.size_toArray]
  have h1 := clip_eq x.length 0 lo
  have h2 := clip_eq x.length x.length hi
  rw [← pick_eq, ← h1, ← h2]
  simp only [List.getElem?_toArray]
  rfl
theorem Reps.pslice {h : Heap} {vs : List V} {cs : List Value} (r : Reps h vs cs) (lo hi : Option Int) : Reps h (Mine.pslice vs lo hi) (Mine.pslice cs lo hi) := by
  unfold Mine.pslice
  rw [← r.length]
  exact (r.take _).drop _
theorem pslice_len {α : Type} (x : List α) (lo hi : Option Int) : (pslice x lo hi).length ≤ x.length := by
  unfold pslice; simp; omega

theorem part_isPart {s : Shared} {v : V} {c : Value} {o : Option Int} (r : Rep s.heap v c) (e : part v = some o) : IsPart c o := by
  cases v <;> simp only [part, Option.some.injEq, reduceCtorEq] at e <;> subst e
  · obtain ⟨t, rfl⟩ := r; exact .int _ _
  · cases r; exact .none
theorem part_value {s : Shared} {v : V} {c : Value} {o : Option Int} (r : Rep s.heap v c) (e : part v = some o) : ∃ p : Option (Int × Tok), c = partValue p ∧ p.map (·.1) = o := by
  cases v <;> simp only [part, Option.some.injEq, reduceCtorEq] at e <;> subst e
  · obtain ⟨t, rfl⟩ := r; exact ⟨some (_, t), rfl, rfl⟩
  · cases r; exact ⟨none, rfl, rfl⟩

noncomputable def SO (prog : Program) (w : World) (cx : Cx) (sp : Sp) (lo : Option Expr) (x : X) : Prop :=
  ∀ σ s P, At cx σ s → wpX sp x σ P → wpAny (model prog w) cx.A (evalPart lo cx.env) (cpost cx σ s P) NoE s
theorem SO.no : SO prog w cx sp Option.none .none := fun _ _ _ a hw => wpAny_evalPart_none (cpost.val0 (v := .none) a rfl hw)
theorem SO.yes {e : Expr} {x : X} (h : SE prog w cx sp e x) : SO prog w cx sp (some e) x := fun σ s P a hw => wpAny_evalPart_some (h σ s P a hw)
theorem cl_le (n d : Nat) (o : Option Int) (h : d ≤ n) : cl n d o ≤ n := by
  unfold cl; split
  · exact h
  · split <;> omega
theorem picked_len (a b : Nat) : (sliceRange (a : Int) (b : Int) 1).length = b - a := by
  unfold sliceRange
  simp only [show (1 : Int) > 0 by decide, if_true, List.length_map, List.length_range]
  rw [Int.ediv_one]; split <;> omega
theorem strSlice_whole (x : List Nat) (lo hi : Option Int) (h : (strSliceIndices lo hi 1 x.length).length = x.length) : pslice x lo hi = x := by
  have h1 := clip_eq x.length 0 lo
  have h2 := clip_eq x.length x.length hi
  have e : strSliceIndices lo hi 1 x.length = sliceRange (cl x.length 0 lo : Int) (cl x.length x.length hi : Int) 1 := by
    unfold strSliceIndices
    simp only [show (1 : Int) > 0 by decide, if_true]
    rw [← h1, ← h2]; rfl
  rw [e, picked_len] at h
  have := cl_le x.length x.length hi (Nat.le_refl _)
  unfold pslice
  by_cases hn : x.length = 0
  · have : x = [] := List.length_eq_zero_iff.mp hn
    subst this; simp
  · rw [show cl x.length x.length hi = x.length from by omega, show cl x.length 0 lo = 0 from by omega]; simp

theorem slice_ok {σ : St} {s : Shared} {u l h : V} {c cl ch : Value} {P : V → St → Prop} {value slice : Expr} (a : At cx σ s) (ru : Rep s.heap u c) (rl : Rep s.heap l cl) (rh : Rep s.heap h ch) (hv : vslice u l h σ P)
    (hs : ∀ o i, subscripted slice false o i = operate [i, o] (getItem o i)) :
    wpAny (model prog w) cx.A (subscriptTail value slice c (.ref s.heap.objs.size)) (cpost cx σ s P) NoE { s with heap := s.heap.push { cls := .type "slice", data := .fields #[cl, ch, .none] } } := by
  cases u <;> first | exact (show False from hv).elim | skip
  case str x =>
    obtain ⟨t, rfl⟩ := ru
    obtain ⟨hz, hv⟩ := hv
    split at hv <;> first | exact hv.elim | skip
    rename_i lo hi e1 e2
    obtain ⟨p1, rfl, q1⟩ := part_value rl e1
    obtain ⟨p2, rfl, q2⟩ := part_value rh e2
    refine tail_any (typeIs_str _ _ _) F.slot_str_getitem.lookup (wpAny_getItem_str_slice (l := p1) (u := p2) (st := none) ⟨_, Heap.get?_push_size _ rfl, rfl, rfl⟩ rfl ?_) (hs _ _)
    have e0 : PySem.Str.length ⟨x.toArray⟩ = x.length := by simp [PySem.Str.length]
    have key : (slicePicked ⟨x.toArray⟩ p1 p2 none).filterMap (fun k => (⟨x.toArray⟩ : Str).cps[k]?) = pslice x lo hi := by
      have := strSlice_eq x lo hi
      simp only [slicePicked, q1, q2, e0, List.getElem?_toArray]
      exact this
    have a' := a.push { cls := .type "slice", data := .fields #[partValue p1, partValue p2, .none] }
    unfold sliceMade
    split
    · rename_i hc
      simp only [Made.post]
      have h1 : pslice x lo hi = x := strSlice_whole x lo hi (by
        simp only [Option.map_none, Option.getD_none, BEq.rfl, Bool.true_and, beq_iff_eq, e0, slicePicked, q1, q2] at hc; exact hc)
      rw [h1] at hv
      exact cpost.trans (Keep.push _) (cpost.val0 (v := .str x) a' ⟨_, rfl⟩ hv)
    · simp only [Made.post]
      rw [key]
      refine ⟨?_, cpost.trans (Keep.push _) (cpost.val (v := .str _) a' _ ⟨_, rfl⟩ hv)⟩
      have := pslice_len x lo hi
      simp only [PySem.Str.length, List.size_toArray]
      omega
  case ref p =>
    cases ru
    have hv : (match σ.H p, part l, part h with
      | some vs, some l, some h => vs.length ≤ sizeLine ∧ ∀ n, σ.H n = none → P (.ref n) (σ.setH n (pslice vs l h))
      | _, _, _ => False) := hv
    split at hv <;> first | exact hv.elim | skip
    rename_i vs lo hi e0 e1 e2
    obtain ⟨_, _, cs, pl, r⟩ := a.hp _ _ e0
    have a' := a.push { cls := .type "slice", data := .fields #[cl, ch, .none] }
    have hp : ({ s with heap := s.heap.push { cls := .type "slice", data := .fields #[cl, ch, .none] } } : Shared).heap.IsList p cs.toArray := (pl.at fun o e => Heap.get?_push_of_some _ e).isList
    refine tail_any hp.typeIs slot_list_getitem.lookup (wpAny_getItem_list_slice hp (.new _ _ _ _) (part_isPart rl e1) (part_isPart rh e2) .none (by simp) ?_ (by rw [List.size_toArray, ← r.length]; exact hv.1)) (hs _ _)
    rw [slicePick_eq]
    exact cpost.trans (Keep.push _) (newSeq a' ((r.mono fun b i t => let ⟨o', e, q⟩ := t; ⟨o', Heap.get?_push_of_some _ e, q⟩).pslice lo hi) hv.2)
theorem SE.slice {e : Expr} {lo hi : Option Expr} {x y z : X} {p pos : Pos} (he : SE prog w cx sp e x) (hlo : SO prog w cx sp lo y) (hhi : SO prog w cx sp hi z)
    (hs : ∀ o i, subscripted (.Slice lo hi Option.none p) false o i = operate [i, o] (getItem o i) := by intro _ _; rfl) : SE prog w cx sp (.Subscript e (.Slice lo hi Option.none p) pos) (.slice x y z) := by
  intro σ s P a h
  refine Subscript_ (bindX (he σ s _ a h) fun u c σ₁ s₁ ru a₁ k₁ h₁ => wpAny_Slice (bindX (hlo σ₁ s₁ _ a₁ h₁) fun l cl σ₂ s₂ rl a₂ k₂ h₂ => bindX (hhi σ₂ s₂ _ a₂ h₂) fun h ch σ₃ s₃ rh a₃ k₃ h₃ => ?_))
  refine wpAny_evalPart_none ?_
  exact wpAny_mono (slice_ok a₃ (ru.keep a₁ (k₂.trans k₃)) (rl.keep a₂ k₃) rh h₃ hs) (fun _ _ z => z.trans (k₁.trans (k₂.trans k₃))) noE
end
end
section
open PySem PySem.W PyProof.Rows PySem.Calls PySem.Spec
set_option Elab.async false
set_option maxRecDepth 100000
set_option autoImplicit false
set_option linter.unusedVariables false
section
variable {prog : Program} {w : World} {cx : Cx} {sp : Sp}
theorem szl {n : Nat} (h : n ≤ 2 ^ 24) : n ≤ sizeLine := h
theorem tup_ok {σ : St} {s : Shared} {u v : V} {c d : Value} {P : V → St → Prop} (a : At cx σ s) (ru : Rep s.heap u c) (rv : Rep s.heap v d) (h : P (.tup u v) σ) :
    cpost cx σ s P (.ref s.heap.objs.size) { s with heap := s.heap.push { cls := .type "tuple", data := .seq [c, d].toArray } } := by
  have tu : ∀ b i, s.heap.IsTuple b i → (s.heap.push { cls := .type "tuple", data := .seq [c, d].toArray }).IsTuple b i := fun b i t => let ⟨o', e, q⟩ := t; ⟨o', Heap.get?_push_of_some _ e, q⟩
  refine ⟨.tup u v, σ, ?_, a.push _, Keep.push _, h⟩
  exact ⟨_, c, d, rfl, ⟨_, Heap.get?_push_size _ rfl, rfl, 0, rfl⟩, ru.mono tu, rv.mono tu⟩
theorem SE.tup {e f : Expr} {x y : X} {k : Nat} {pos : Pos} (he : SE prog w cx sp e x) (hf : SE prog w cx sp f y)
    (hst : starEach [e, f] cx.env = (false, eval e cx.env) :: starEach [f] cx.env := by rfl) (hst' : starEach [f] cx.env = (false, eval f cx.env) :: starEach [] cx.env := by rfl) :
    SE prog w cx sp (.Tuple [e, f] k pos) (.tup x y) := by
  intro σ s P a h
  refine wpAny_Tuple (spliced_more (bindX (he σ s _ a h) fun u c σ₁ s₁ ru a₁ k₁ h₁ => spliced_more (bindX (hf σ₁ s₁ _ a₁ h₁) fun v d σ₂ s₂ rv a₂ k₂ h₂ => spliced_none ⟨szl (by simp), ?_⟩) hst') hst)
  exact cpost.trans (k₁.trans k₂) (tup_ok a₂ (ru.keep a₁ k₂) rv h₂)

theorem SE.list0 {pos : Pos} : SE prog w cx sp (.List [] pos) .list0 := by
  intro σ s P a h
  refine wpAny_List (spliced_none ⟨szl (by simp), ?_⟩)
  exact newSeq (vs := []) (cs := []) a trivial h
theorem SE.list1 {e : Expr} {x : X} {pos : Pos} (he : SE prog w cx sp e x) (hst : starEach [e] cx.env = (false, eval e cx.env) :: starEach [] cx.env := by rfl) :
    SE prog w cx sp (.List [e] pos) (.list1 x) := by
  intro σ s P a h
  refine wpAny_List (spliced_more (bindX (he σ s _ a h) fun u c σ₁ s₁ ru a₁ k₁ h₁ => spliced_none ⟨szl (by simp), ?_⟩) hst)
  exact cpost.trans k₁ (newSeq (vs := [u]) (cs := [c]) a₁ ⟨ru, trivial⟩ h₁)
theorem SE.list2 {e f : Expr} {x y : X} {pos : Pos} (he : SE prog w cx sp e x) (hf : SE prog w cx sp f y)
    (hst : starEach [e, f] cx.env = (false, eval e cx.env) :: starEach [f] cx.env := by rfl) (hst' : starEach [f] cx.env = (false, eval f cx.env) :: starEach [] cx.env := by rfl) :
    SE prog w cx sp (.List [e, f] pos) (.list2 x y) := by
  intro σ s P a h
  refine wpAny_List (spliced_more (bindX (he σ s _ a h) fun u c σ₁ s₁ ru a₁ k₁ h₁ => spliced_more (bindX (hf σ₁ s₁ _ a₁ h₁) fun v d σ₂ s₂ rv a₂ k₂ h₂ => spliced_none ⟨szl (by simp), ?_⟩) hst') hst)
  exact cpost.trans (k₁.trans k₂) (newSeq (vs := [u, v]) (cs := [c, d]) a₂ ⟨ru.keep a₁ k₂, rv, trivial⟩ h₂)
theorem SE.list3 {e f g : Expr} {x y z : X} {pos : Pos} (he : SE prog w cx sp e x) (hf : SE prog w cx sp f y) (hg : SE prog w cx sp g z)
    (hst : starEach [e, f, g] cx.env = (false, eval e cx.env) :: starEach [f, g] cx.env := by rfl) (hst' : starEach [f, g] cx.env = (false, eval f cx.env) :: starEach [g] cx.env := by rfl)
    (hst'' : starEach [g] cx.env = (false, eval g cx.env) :: starEach [] cx.env := by rfl) :
    SE prog w cx sp (.List [e, f, g] pos) (.list3 x y z) := by
  intro σ s P a h
  refine wpAny_List (spliced_more (bindX (he σ s _ a h) fun u c σ₁ s₁ ru a₁ k₁ h₁ => spliced_more (bindX (hf σ₁ s₁ _ a₁ h₁) fun v d σ₂ s₂ rv a₂ k₂ h₂ =>
    spliced_more (bindX (hg σ₂ s₂ _ a₂ h₂) fun v' d' σ₃ s₃ rv' a₃ k₃ h₃ => spliced_none ⟨szl (by simp), ?_⟩) hst'') hst') hst)
  exact cpost.trans (k₁.trans (k₂.trans k₃)) (newSeq (vs := [u, v, v']) (cs := [c, d, d']) a₃ ⟨ru.keep a₁ (k₂.trans k₃), rv.keep a₂ k₃, rv', trivial⟩ h₃)

/-! methods of texts and lists -/
noncomputable abbrev MC (env : Env) (o : Expr) (name : Str) (apos pos : Pos) (args : List Expr) (pl : Sem Bool) : Prop :=
  eval ((o.Attribute name apos).Call args [] pos) env = (do
    let ov ← eval o env
    standAt apos.atName
    let __x ← holding [ov] (getMethod ov name pl)
    match __x with
    | (f, first) => callWith pos f first (backTo pos (starEach args env)) [])
theorem SE.find {o e : Expr} {x y : X} {apos pos : Pos} {pl : Sem Bool} (ho : SE prog w cx sp o x) (he : SE prog w cx sp e y)
    (hm : MC cx.env o (Str.ofString "find") apos pos [e] pl := by with_unfolding_all rfl) (hst : starEach [e] cx.env = (false, eval e cx.env) :: starEach [] cx.env := by rfl) :
    SE prog w cx sp (.Call (.Attribute o (Str.ofString "find") apos) [e] [] pos) (.find x y) := by
  intro σ s P a h
  refine MethodCall_ (bindX (ho σ s _ a h) fun u c σ₁ s₁ ru a₁ k₁ h₁ => ?_) hm
  cases u <;> first | exact (show False from h₁).elim | skip
  obtain ⟨t, rfl⟩ := ru
  refine GM.find (callWith_method1 (spliced_more (bindX (he σ₁ s₁ _ a₁ h₁) fun v d σ₂ s₂ rv a₂ k₂ h₂ => spliced_none ?_) hst) hst rfl)
  cases v <;> first | exact (show False from h₂).elim | skip
  obtain ⟨t, rfl⟩ := rv
  exact SC.find (cpost.trans (k₁.trans k₂) (cpost.val (v := .int _) a₂ _ ⟨_, rfl⟩ h₂))
theorem SE.endsw {o e : Expr} {x y : X} {apos pos : Pos} {pl : Sem Bool} (ho : SE prog w cx sp o x) (he : SE prog w cx sp e y)
    (hm : MC cx.env o (Str.ofString "endswith") apos pos [e] pl := by with_unfolding_all rfl) (hst : starEach [e] cx.env = (false, eval e cx.env) :: starEach [] cx.env := by rfl) :
    SE prog w cx sp (.Call (.Attribute o (Str.ofString "endswith") apos) [e] [] pos) (.endsw x y) := by
  intro σ s P a h
  refine MethodCall_ (bindX (ho σ s _ a h) fun u c σ₁ s₁ ru a₁ k₁ h₁ => ?_) hm
  cases u <;> first | exact (show False from h₁).elim | skip
  obtain ⟨t, rfl⟩ := ru
  refine GM.endswith (callWith_method1 (spliced_more (bindX (he σ₁ s₁ _ a₁ h₁) fun v d σ₂ s₂ rv a₂ k₂ h₂ => spliced_none ?_) hst) hst rfl)
  cases v <;> first | exact (show False from h₂).elim | skip
  obtain ⟨t, rfl⟩ := rv
  exact SC.endswith (cpost.trans (k₁.trans k₂) (cpost.val0 (v := .bool _) a₂ rfl h₂))
theorem SE.startsw {o e : Expr} {x y : X} {apos pos : Pos} {pl : Sem Bool} (ho : SE prog w cx sp o x) (he : SE prog w cx sp e y)
    (hm : MC cx.env o (Str.ofString "startswith") apos pos [e] pl := by with_unfolding_all rfl) (hst : starEach [e] cx.env = (false, eval e cx.env) :: starEach [] cx.env := by rfl) :
    SE prog w cx sp (.Call (.Attribute o (Str.ofString "startswith") apos) [e] [] pos) (.startsw x y) := by
  intro σ s P a h
  refine MethodCall_ (bindX (ho σ s _ a h) fun u c σ₁ s₁ ru a₁ k₁ h₁ => ?_) hm
  cases u <;> first | exact (show False from h₁).elim | skip
  obtain ⟨t, rfl⟩ := ru
  refine GM.startswith (callWith_method1 (spliced_more (bindX (he σ₁ s₁ _ a₁ h₁) fun v d σ₂ s₂ rv a₂ k₂ h₂ => spliced_none ?_) hst) hst rfl)
  cases v <;> first | exact (show False from h₂).elim | skip
  obtain ⟨t, rfl⟩ := rv
  exact SC.startswith (cpost.trans (k₁.trans k₂) (cpost.val0 (v := .bool _) a₂ rfl h₂))
theorem SE.append {o e : Expr} {x y : X} {apos pos : Pos} {pl : Sem Bool} (ho : SE prog w cx sp o x) (he : SE prog w cx sp e y)
    (hm : MC cx.env o (Str.ofString "append") apos pos [e] pl := by with_unfolding_all rfl) (hst : starEach [e] cx.env = (false, eval e cx.env) :: starEach [] cx.env := by rfl) :
    SE prog w cx sp (.Call (.Attribute o (Str.ofString "append") apos) [e] [] pos) (.append x y) := by
  intro σ s P a h
  refine MethodCall_ (bindX (ho σ s _ a h) fun u c σ₁ s₁ ru a₁ k₁ h₁ => ?_) hm
  cases u <;> first | exact (show False from h₁).elim | skip
  cases ru
  rename_i l
  obtain ⟨hl, h₁⟩ := h₁
  obtain ⟨vs, hvs⟩ := Option.isSome_iff_exists.mp hl
  obtain ⟨_, _, cs, ⟨n, p⟩, r⟩ := a₁.hp _ _ hvs
  refine getMethod_list_append p rfl rfl (callWith_method1 (spliced_more (bindX (he σ₁ s₁ _ a₁ h₁) fun v d σ₂ s₂ rv a₂ k₂ h₂ => spliced_none ?_) hst) hst rfl)
  split at h₂ <;> first | exact h₂.elim | skip
  rename_i vs2 e2
  obtain ⟨_, _, cs2, p2, r2⟩ := a₂.hp _ _ e2
  refine wpAny_list_append_plain p2 (fun h' p' sb => ?_) (szl (by rw [List.size_toArray, ← r2.length]; omega))
  have p'' : h'.PlainList l (cs2 ++ [d]).toArray := by simpa using p'
  exact ⟨.none, _, rfl, a₂.setList e2 (r2.append (vs' := [v]) (cs' := [d]) ⟨rv, trivial⟩) p'' sb, (k₁.trans k₂).trans (Keep.setList e2 sb), h₂.2⟩
theorem eraseIf_list (cs : List Value) (k : Nat) : cs.toArray.eraseIdxIfInBounds k = (cs.eraseIdx k).toArray := by
  unfold Array.eraseIdxIfInBounds
  split
  · simp
  · rename_i h
    rw [List.eraseIdx_of_length_le (by simpa using h)]
theorem SE.pop {o : Expr} {x : X} {apos pos : Pos} {pl : Sem Bool} (ho : SE prog w cx sp o x)
    (hm : MC cx.env o (Str.ofString "pop") apos pos [] pl := by with_unfolding_all rfl) :
    SE prog w cx sp (.Call (.Attribute o (Str.ofString "pop") apos) [] [] pos) (.pop x) := by
  intro σ s P a h
  refine MethodCall_ (bindX (ho σ s _ a h) fun u c σ₁ s₁ ru a₁ k₁ h₁ => ?_) hm
  cases u <;> first | exact (show False from h₁).elim | skip
  cases ru
  rename_i l
  simp only at h₁
  split at h₁ <;> first | exact h₁.elim | skip
  rename_i vs e
  obtain ⟨hz, h₁⟩ := h₁
  split at h₁ <;> first | exact h₁.elim | skip
  rename_i v e2
  obtain ⟨_, _, cs, ⟨n, p⟩, r⟩ := a₁.hp _ _ e
  refine getMethod_list_of F.slot_list_pop F.type_list_pop ⟨_, p, rfl, n, rfl⟩ ⟨_, p, rfl⟩ (callWith_method0 ?_)
  have hl := r.length
  have hy : cs.toArray[cs.toArray.size - 1]? = cs.getLast? := by simp [List.getLast?_eq_getElem?]
  have hpos : vs ≠ [] := by intro q; subst q; simp at e2
  obtain ⟨c, hc, rc⟩ : ∃ c, cs.getLast? = some c ∧ Rep s₁.heap v c := by
    rw [List.getLast?_eq_getElem?] at e2 ⊢
    rw [← hl]; exact r.get e2
  rw [hc] at hy
  have hsz : cs.toArray.size ≤ sizeLine := szl (by rw [List.size_toArray, ← hl]; omega)
  refine call_meets F.slot_list_pop ⟨_, p, rfl⟩ F.entry_list_pop (F.args_list_pop_1 _) (MeetsSeq.list_pop_last l cs.toArray n c hy hsz) ⟨p, ?_⟩
  have p' : (s₁.heap.update l (Obj.mapSeq fun xs => xs.eraseIdxIfInBounds (cs.toArray.size - 1))).PlainList l cs.dropLast.toArray := by
    have ee : cs.toArray.eraseIdxIfInBounds (cs.toArray.size - 1) = cs.dropLast.toArray := by
      rw [eraseIf_list, List.size_toArray, List.eraseIdx_eq_take_drop_succ, List.dropLast_eq_take, List.drop_eq_nil_of_le (by omega), List.append_nil]
    have q := PySem.IsL.update (n := n) p (fun xs => xs.eraseIdxIfInBounds (cs.toArray.size - 1))
    rw [ee] at q
    exact ⟨_, q⟩
  have rr : Reps s₁.heap vs.dropLast cs.dropLast := by
    rw [List.dropLast_eq_take, List.dropLast_eq_take, ← hl]; exact r.take _
  exact ⟨v, _, rc.keep a₁ (Keep.setList (vs := vs.dropLast) e (Heap.SameBut.update ..)), a₁.setList e rr p' (Heap.SameBut.update ..), k₁.trans (Keep.setList e (Heap.SameBut.update ..)), h₁⟩
end
end
section
open PySem PySem.W PyProof.Rows PySem.Calls PySem.Spec
set_option Elab.async false
set_option maxRecDepth 100000
set_option autoImplicit false
set_option linter.unusedVariables false
section
variable {prog : Program} {w : World} {cx : Cx} {sp : Sp}
theorem aug_ok {op : Operator} : OpOk prog w cx (inplaceOp op) (vaug op) := by
  intro σ s P u v c d a ru rv h
  cases op <;> first | exact (show False from h).elim | skip
  case Add =>
    cases u <;> first | exact (show False from h).elim | skip
    case int i =>
      cases v <;> first | exact (show False from h).elim | skip
      obtain ⟨t, rfl⟩ := ru; obtain ⟨t', rfl⟩ := rv
      exact iadd_int (cpost.val (v := .int _) a _ ⟨_, rfl⟩ h)
    case str x =>
      cases v <;> first | exact (show False from h).elim | skip
      rename_i y
      obtain ⟨t, rfl⟩ := ru; obtain ⟨t', rfl⟩ := rv
      refine PyProof.Rows.iadd_str (fun t' tk => cpost.val (v := .str (x ++ y)) a _ ⟨t', ?_⟩ h.2) (by simpa [PySem.Str.length] using h.1)
      exact congrArg (Value.str · t') (strOf_append x y)
  case Sub =>
    cases u <;> first | exact (show False from h).elim | skip
    cases v <;> first | exact (show False from h).elim | skip
    obtain ⟨t, rfl⟩ := ru; obtain ⟨t', rfl⟩ := rv
    exact isub_int (cpost.val (v := .int _) a _ ⟨_, rfl⟩ h)
theorem S1.aug (ok : cx.Ok) {x : Str} {p pos : Pos} {i : Nat} {e : Expr} {op : Operator} {y : X} (hx : cx.names[i]? = some x) (he : SE prog w cx sp e y) :
    S1 prog w cx sp (.AugAssign (.Name x p) op e pos) (.aug i op y) := by
  intro σ s P a h
  have h : (match σ.loc[i]? with
    | some (some u) => wpX sp y σ fun v σ₁ => vaug op u v σ₁ fun r σ₂ => P .next (σ₂.set i r)
    | _ => False) := h
  split at h <;> first | exact h.elim | skip
  rename_i u hu
  refine wpAny_AugAssign_Name (a.load ok hx hu fun c rc => bindX (he σ s _ a h) fun v d σ₁ s₁ rv a₁ k₁ h₁ => ?_)
  refine bindX (aug_ok σ₁ s₁ _ u v c d a₁ (rc.keep a k₁) rv h₁) fun r f σ₂ s₂ rr a₂ k₂ h₂ => ?_
  exact a₂.store ok hx rr fun s' a' k' => ⟨.next, _, .next, a', k₁.trans (k₂.trans k'), h₂⟩

section
variable {A : Around} {E : Value → Shared → Prop} {s : Shared}
/-- an item or a part of a list is set: the list's own method does it -/
theorem list_set_door {l : Addr} {items : Array Value} {k v : Value} {Q : Unit → Shared → Prop} (hl : s.heap.IsList l items)
    (h : wpAny (model prog w) A.in1 (Builtin.«list.__setitem__» { pos := [.ref l, k, v] }) (fun fin s' => ∃ r, fin = Fin.done (Flow.ret r) ∧ Q () s') E s) : wpAny (model prog w) A (setItem (.ref l) k v) Q E s := by
  unfold setItem
  refine wpAny_holding ?_
  refine wpAny_bind (wpAny_sequenceKey hl.typeIs (by decide) ?_)
  refine wpAny_bind (wpAny_callSpecial?_slot (name := Str.ofString "__setitem__") hl.typeIs slot_list_setitem ?_)
  refine wpAny_call_entry slot_list_setitem hl.typeIs entry_list_setitem ?_ (args_list_setitem _ _ _)
  exact wpAny_mono h (fun fin s' ⟨r, e, q⟩ => ⟨r, e, wpAny_pure q⟩) fun _ _ e => e
/-- a new list object in the old one's place -/
theorem plain_new {l : Addr} {items new : List Value} {n : Nat} (f : Array Value → Array Value) (ho : s.heap.get? l = some { cls := .type "list", data := .seq items.toArray n }) (hf : f items.toArray = new.toArray) :
    (s.heap.update l (Obj.mapSeq f)).PlainList l new.toArray := by
  have q := PySem.IsL.update ho f
  rw [hf] at q
  exact ⟨_, q⟩
theorem list_put {l : Addr} {items : List Value} {n : Nat} {k : Int} {t : Tok} {v : Value} {Q : Shared → Prop} (ho : s.heap.get? l = some { cls := .type "list", data := .seq items.toArray n }) (h0 : 0 ≤ k) (hk : k < items.length) (hz : items.length ≤ 2 ^ 20)
    (hQ : Q { s with heap := s.heap.update l (Obj.mapSeq (·.setIfInBounds k.toNat v)) }) :
    wpAny (model prog w) A (Builtin.«list.__setitem__» { pos := [.ref l, .int k t, v] }) (fun fin s' => ∃ r, fin = Fin.done (Flow.ret r) ∧ Q s') E s := by
  have fit : Builtin.List.listFitsIndex k = true := fitsIndex_of h0 (by omega)
  show wpAny _ _ (Builtin.List.listSubscript? (.int k t) >>= _) _ _ s
  refine wpAny_bind (wpAny_listSubscript_int fit ?_)
  clear fit
  obtain ⟨j, rfl⟩ := Int.eq_ofNat_of_zero_le h0
  have hj : j < items.length := Int.ofNat_lt.mp hk
  show wpAny _ _ ((seqItemAt l j >>= fun r => pure (r.map fun x => (j, x))) >>= _) _ _ s
  have there : wpAny (model prog w) A (seqItemAt l j >>= fun r => pure (r.map fun x => (j, x))) (fun r s' => s' = s ∧ r = some (j, items[j])) (fun e s' => E e s') s :=
    wpAny_bind (wpAny_seqItemAt ho rfl (wpAny_pure ⟨rfl, by rw [List.getElem?_toArray, List.getElem?_eq_getElem hj]; rfl⟩))
  refine wpAny_bind (wpAny_mono there (fun r s' q => ?_) fun _ _ e => e)
  obtain ⟨rfl, rfl⟩ := q
  show wpAny _ _ (setSeqItemAt l j v >>= _) _ _ s'
  refine wpAny_bind (wpAny_setSeqItemAt ho rfl ?_)
  first | exact wpAny_pure ⟨_, rfl, hQ⟩ | exact wpAny_bind (wpAny_pure (wpAny_pure ⟨_, rfl, hQ⟩))
theorem wpAny_setItem_plain {l : Addr} {items : List Value} {k : Int} {t : Tok} {v : Value} {Q : Unit → Shared → Prop} (hl : s.heap.PlainList l items.toArray)
    (h0 : 0 ≤ k) (hn : k < items.length) (hz : items.length ≤ 2 ^ 20)
    (hQ : ∀ h', h'.PlainList l (items.set k.toNat v).toArray → Heap.SameBut l s.heap h' → Q () { s with heap := h' }) :
    wpAny (model prog w) A (setItem (.ref l) (.int k t) v) Q E s := by
  obtain ⟨n, ho⟩ := id hl
  exact list_set_door hl.isList (list_put (Q := Q ()) ho h0 hn hz (hQ _ (plain_new _ ho (List.setIfInBounds_toArray ..)) (Heap.SameBut.update ..)))
end
theorem S1.setItem {o i e : Expr} {x y z : X} {p pos : Pos} (ho : SE prog w cx sp o x) (hi : SE prog w cx sp i y) (he : SE prog w cx sp e z)
    (hs : swapsWith e (some (o.Subscript i p)) pos.line cx.env = pure false := by rfl) : S1 prog w cx sp (.Assign [o.Subscript i p] e pos) (.setItem x y z) := by
  intro σ s P a h
  refine wpAny_Assign_Subscript (bindX (he σ s _ a h) fun v d σ₁ s₁ rv a₁ k₁ h₁ => bindX (ho σ₁ s₁ _ a₁ h₁) fun u c σ₂ s₂ ru a₂ k₂ h₂ => bindX (hi σ₂ s₂ _ a₂ h₂) fun k f σ₃ s₃ rk a₃ k₃ h₃ => ?_) hs
  cases u <;> cases k <;> first | exact (show False from h₃).elim | skip
  cases ru; obtain ⟨t, rfl⟩ := rk
  simp only at h₃
  split at h₃ <;> first | exact h₃.elim | skip
  rename_i vs e1
  obtain ⟨_, _, cs, pl, r⟩ := a₃.hp _ _ e1
  have hl := r.length
  obtain ⟨⟨b1, b2, b3⟩, h₃⟩ := h₃
  have rv' := rv.keep a₁ (k₂.trans k₃)
  refine wpAny_setItem_plain pl b1 (by omega) (by omega) fun h' p' sb => ?_
  exact ⟨.next, _, .next, a₃.setList e1 (r.set rv' _) p' sb, (k₁.trans (k₂.trans k₃)).trans (Keep.setList e1 sb), h₃⟩

section
variable {A : Around} {E : Value → Shared → Prop} {s : Shared}
theorem slice_key {sl : Addr} {Q : Option Int → Shared → Prop} (ht : s.TypeIs (.ref sl) "slice") (h : Q none s) : wpAny (model prog w) A (Builtin.List.listSubscript? (.ref sl)) Q E s := by
  unfold Builtin.List.listSubscript?
  exact wpAny_bind (wpAny_specialOf ht slice_no_index (wpAny_pure h))
theorem slice_parts {sl : Addr} {vl vu : Value} {lo hi : Option Int} {Q : Value × Value × Value → Shared → Prop} (hs : s.heap.IsSliceOf sl vl vu .none) (pl : IsPart vl lo) (pu : IsPart vu hi) (h : Q (rawPart lo, rawPart hi, rawPart none) s) :
    wpAny (model prog w) A (Builtin.List.listSliceParts (.ref sl)) Q E s := by
  obtain ⟨o, e, _, d⟩ := hs
  rw [listSliceParts_eq]
  refine wpAny_bind (wpAny_field e d (x := .none) rfl (wpAny_bind (wpAny_listPart .none ?_)))
  rw [if_neg (show ¬ (rawPart none == rawInt 0) = true from by decide)]
  refine wpAny_bind (wpAny_field e d (x := vl) rfl (wpAny_bind (wpAny_listPart pl ?_)))
  exact wpAny_bind (wpAny_field e d (x := vu) rfl (wpAny_bind (wpAny_listPart pu (wpAny_pure h))))
theorem whole_list {q : Addr} {ws : Array Value} {n : Nat} {Q : Array Value → Shared → Prop} (hq : s.heap.get? q = some { cls := .type "list", data := .seq ws n }) (h : Q ws s) : wpAny (model prog w) A (Builtin.List.listItems (.ref q)) Q E s := by
  unfold Builtin.List.listItems
  exact wpAny_bind (wpAny_seqItems hq rfl (wpAny_pure h))
theorem given_list {q : Addr} {ws : Array Value} {n : Nat} {m : String} {Q : Array Value → Shared → Prop} (hq : s.heap.get? q = some { cls := .type "list", data := .seq ws n }) (h : Q ws s) : wpAny (model prog w) A (Builtin.List.listAllItems (.ref q) m) Q E s := by
  unfold Builtin.List.listAllItems
  refine wpAny_bind (wpAny_typeOf (T := "list") ⟨_, hq, rfl⟩ ?_)
  rw [if_pos (by decide)]
  exact whole_list hq h
end
theorem wpAny_setItem_slice {A : Around} {E : Value → Shared → Prop} {s : Shared} {l sl q : Addr} {items ws : List Value} {vl vu : Value} {lo hi : Option Int} {Q : Unit → Shared → Prop} (hl : s.heap.PlainList l items.toArray)
    (hq : s.heap.PlainList q ws.toArray) (hne : l ≠ q)
    (hs : s.heap.IsSliceOf sl vl vu .none) (pl : IsPart vl lo) (pu : IsPart vu hi) (hab : cl items.length 0 lo ≤ cl items.length items.length hi) (hz : items.length + ws.length ≤ 2 ^ 20)
    (hQ : ∀ h', h'.PlainList l (items.take (cl items.length 0 lo) ++ ws ++ items.drop (cl items.length items.length hi)).toArray → Heap.SameBut l s.heap h' → Q () { s with heap := h' }) :
    wpAny (model prog w) A (setItem (.ref l) (.ref sl) (.ref q)) Q E s := by
  obtain ⟨n, ho⟩ := id hl
  obtain ⟨n2, hq2⟩ := hq
  have ht : s.TypeIs (.ref sl) "slice" := let ⟨o, e, c, _⟩ := hs; ⟨o, e, c⟩
  refine list_set_door hl.isList ?_
  refine wpAny_bind (m := Builtin.List.listSubscript? (.ref sl)) (slice_key ht ?_)
  refine wpAny_bind (m := typeOf (.ref sl)) (wpAny_typeOf ht ?_)
  rw [if_neg (by decide)]
  refine wpAny_bind (slice_parts hs pl pu ?_)
  dsimp only
  rw [if_neg (by rw [show Builtin.List.listSameRef (.ref l) (.ref q) = false from beq_eq_false_iff_ne.mpr hne]; exact Bool.false_ne_true)]
  refine wpAny_bind (m := Builtin.List.listAllItems (.ref q) _) (given_list hq2 ?_)
  refine wpAny_bind (whole_list ho ?_)
  refine wpAny_bind (wpAny_of_eq (sliceIndices_raw lo hi none items.toArray.size (by simp)) ?_)
  have hsz : items.toArray.size = items.length := by simp
  have b1 : (sliceBounds lo hi none items.toArray.size).1 = (cl items.length 0 lo : Int) := by
    rw [hsz]; exact clip_eq items.length 0 lo
  have b2 : (sliceBounds lo hi none items.toArray.size).2.1 = (cl items.length items.length hi : Int) := by
    rw [hsz]; exact clip_eq items.length items.length hi
  have b3 : (sliceBounds lo hi none items.toArray.size).2.2 = 1 := rfl
  generalize hb : sliceBounds lo hi none items.toArray.size = B at b1 b2 b3
  obtain ⟨x1, x2, x3⟩ := B
  simp only at b1 b2 b3
  subst b1 b2 b3
  have c1 := cl_le items.length items.length hi (Nat.le_refl _)
  refine wpAny_bind (wpAny_rule ?_)
  rw [if_neg (by simp [Builtin.List.listTooLong]; exact szl (by omega))]
  dsimp only
  rw [show max (cl items.length 0 lo : Int) (cl items.length items.length hi : Int) = (cl items.length items.length hi : Int) from by omega]
  simp only [Int.toNat_natCast]
  have ee : (items.toArray.extract 0 (cl items.length 0 lo) ++ ws.toArray ++ items.toArray.extract (cl items.length items.length hi)) =
      (items.take (cl items.length 0 lo) ++ ws ++ items.drop (cl items.length items.length hi)).toArray := by
    apply Array.ext'
    simp
    rw [List.take_of_length_le (by simp)]
  have q := PySem.IsL.update (n := n) ho (fun xs => xs.extract 0 (cl items.length 0 lo) ++ ws.toArray ++ xs.extract (cl items.length items.length hi))
  rw [ee] at q
  refine wpAny_bind (show wpAny _ _ (updateSeq l _) _ _ s from wpAny_updateSeq ho rfl ?_ (szl (by rw [hsz]; omega)) ?_)
  · exact wpAny_bind (wpAny_letGo (wpAny_pure ⟨.none, rfl, hQ _ ⟨_, q⟩ (Heap.SameBut.update ..)⟩))
  · rw [ee]
    simp only [List.size_toArray, List.length_append, List.length_take, List.length_drop]
    have := szl (n := items.length + ws.length) (by omega)
    omega
theorem S1.setSlice {o e : Expr} {lo hi : Option Expr} {x y z v : X} {p pp pos : Pos} (ho : SE prog w cx sp o x) (hlo : SO prog w cx sp lo y) (hhi : SO prog w cx sp hi z) (he : SE prog w cx sp e v)
    (hs : swapsWith e (some (o.Subscript (.Slice lo hi none pp) p)) pos.line cx.env = pure false := by rfl) : S1 prog w cx sp (.Assign [o.Subscript (.Slice lo hi none pp) p] e pos) (.setSlice x y z v) := by
  intro σ s P a h
  refine wpAny_Assign_Subscript (bindX (he σ s _ a h) fun v d σ₁ s₁ rv a₁ k₁ h₁ => bindX (ho σ₁ s₁ _ a₁ h₁) fun u c σ₂ s₂ ru a₂ k₂ h₂ =>
    wpAny_Slice (bindX (hlo σ₂ s₂ _ a₂ h₂) fun l cl σ₃ s₃ rl a₃ k₃ h₃ => bindX (hhi σ₃ s₃ _ a₃ h₃) fun h ch σ₄ s₄ rh a₄ k₄ h₄ => wpAny_evalPart_none ?_)) hs
  split at h₄ <;> first | exact h₄.elim | skip
  rename_i u v p q lo hi e1 e2
  cases ru
  split at h₄ <;> first | exact h₄.elim | skip
  rename_i vs us e3 e4
  obtain ⟨⟨hpq, hz, hab⟩, h₄⟩ := h₄
  have rv' := rv.keep a₁ (k₂.trans (k₃.trans k₄))
  cases rv'
  have a₅ := a₄.push { cls := .type "slice", data := .fields #[cl, ch, .none] }
  have k₅ := Keep.push (cx := cx) (σ := σ₄) (s := s₄) { cls := .type "slice", data := .fields #[cl, ch, .none] }
  obtain ⟨_, _, cs, pl, r⟩ := a₅.hp _ _ e3
  obtain ⟨_, _, ds, pq, rq⟩ := a₅.hp _ _ e4
  have hl := r.length
  have hl2 := rq.length
  refine wpAny_setItem_slice pl pq hpq (.new _ _ _ _) (part_isPart (rl.keep a₃ k₄) e1) (part_isPart rh e2) (by rw [← hl]; exact hab) (by omega) fun h' p' sb => ?_
  have rr := (r.take (Mine.cl vs.length 0 lo)).append rq |>.append (r.drop (Mine.cl vs.length vs.length hi))
  rw [← hl] at p'
  exact ⟨.next, _, .next, a₅.setList e3 rr p' sb, (k₁.trans (k₂.trans (k₃.trans (k₄.trans k₅)))).trans (Keep.setList e3 sb), h₄⟩

theorem S1.delItem {o i : Expr} {x y : X} {p pos : Pos} (ho : SE prog w cx sp o x) (hi : SE prog w cx sp i y) : S1 prog w cx sp (.Delete [o.Subscript i p] pos) (.delItem x y) := by
  intro σ s P a h
  refine wpAny_Delete (wpAny_deleteEach_cons (wpAny_delete_Subscript (bindX (ho σ s _ a h) fun u c σ₁ s₁ ru a₁ k₁ h₁ => bindX (hi σ₁ s₁ _ a₁ h₁) fun k d σ₂ s₂ rk a₂ k₂ h₂ => ?_)))
  cases u <;> cases k <;> first | exact (show False from h₂).elim | skip
  cases ru; obtain ⟨t, rfl⟩ := rk
  simp only at h₂
  split at h₂ <;> first | exact h₂.elim | skip
  rename_i l n _ vs e1
  obtain ⟨⟨b1, b2, b3⟩, h₂⟩ := h₂
  obtain ⟨_, _, cs, pl, r⟩ := a₂.hp _ _ e1
  have hl := r.length
  have hk : seqIndex? n cs.toArray.size = some n.toNat := by
    have := seqIdx (n := vs.length) (i := n) (by omega) b2
    rw [List.size_toArray, ← hl, this]
    simp [idx]; omega
  refine wpAny_delItem_plain pl (fitsIndex_of b1 (by omega)) hk (fun h' p' sb => wpAny_deleteEach_nil ?_) (szl (by rw [List.size_toArray, ← hl]; omega))
  rw [eraseIf_list] at p'
  exact ⟨.next, _, .next, a₂.setList e1 (r.eraseIdx _) p' sb, (k₁.trans k₂).trans (Keep.setList e1 sb), h₂⟩
end
end
section
open PySem PySem.W PyProof.Rows PySem.Calls PySem.Spec
set_option Elab.async false
set_option maxRecDepth 100000
set_option autoImplicit false
set_option linter.unusedVariables false
section
variable {prog : Program} {w : World} {cx : Cx} {sp : Sp}
theorem At.but {σ : St} {s : Shared} (a : At cx σ s) {b₀ : Addr} (hL : b₀ ≠ cx.L) (h0 : cx.h₀.get? b₀ = none) (hσ : σ.H b₀ = none) (nt : ∀ i, ¬ s.heap.IsTuple b₀ i) (nx : ∀ p ∈ cx.extra, p.1 ≠ b₀) {h' : Heap}
    (kp : ∀ b o, b ≠ b₀ → s.heap.get? b = some o → h'.get? b = some o) (n : Nat) : At cx σ { s with heap := h', toks := n } := by
  have tu : ∀ b i, s.heap.IsTuple b i → h'.IsTuple b i := fun b i t => by
    have : b ≠ b₀ := fun e => nt i (e ▸ t)
    obtain ⟨o, e, q⟩ := t
    exact ⟨o, kp _ _ this e, q⟩
  refine ⟨by have := a.sh; rw [this], ?_, fun b ws e => ?_, fun p hp => ⟨kp _ _ (nx p hp) (a.ex p hp).1, (a.ex p hp).2⟩⟩
  · obtain ⟨m, F, rr⟩ := a.fr
    obtain ⟨oL, es, ep, ho, r⟩ := F.ns
    refine ⟨m, ⟨⟨oL, es, ep, kp _ _ (Ne.symm hL) ho, r⟩, fun b o e => ?_, F.above⟩, fun i x v e1 e2 => ?_⟩
    · have : b ≠ b₀ := fun q => by rw [q, h0] at e; cases e
      exact kp _ _ this (F.keep b o e)
    · obtain ⟨c, e3, e4⟩ := rr i x v e1 e2
      exact ⟨c, e3, e4.mono tu⟩
  · obtain ⟨m1, m2, cs', p', r'⟩ := a.hp b ws e
    have : b ≠ b₀ := fun q => by rw [q, hσ] at e; cases e
    exact ⟨m1, m2, cs', p'.at fun o e => kp _ _ this e, r'.mono tu⟩

noncomputable def KeepX (cx : Cx) (it : Addr) (σ : St) (s : Shared) (σ' : St) (s' : Shared) : Prop :=
  ∀ b o, b ≠ it → s.heap.get? b = some o → b ≠ cx.L → σ.H b = none → s'.heap.get? b = some o ∧ σ'.H b = none
theorem KeepX.trans {it : Addr} {σ σ' σ'' : St} {s s' s'' : Shared} (h : KeepX cx it σ s σ' s') (k : KeepX cx it σ' s' σ'' s'') : KeepX cx it σ s σ'' s'' :=
  fun b o h0 h1 h2 h3 => k b o h0 (h b o h0 h1 h2 h3).1 h2 (h b o h0 h1 h2 h3).2
theorem Keep.x {it : Addr} {σ σ' : St} {s s' : Shared} (h : Keep cx σ s σ' s') : KeepX cx it σ s σ' s' := fun b o _ h1 h2 h3 => h b o h1 h2 h3
/-- a loop over what an iterator hands out -/
theorem loopWalk {x : Expr} {bs : List Stmt} {b : S} (hb : SS prog w cx sp bs b) {it : Addr} {fp : List Addr} {n : Nat} {Pv : Nat → Value → Prop} {Sw : Nat → Heap → Prop} {el : Nat → V} {tg : St → V → St}
    (W : Walks prog w cx.A it fp [it] n Pv Sw)
    (hex : ∀ k h, Sw k h → (∃ o, h.get? it = some o ∧ o.cls ≠ .type "tuple") ∧ ∀ c ∈ fp, ∃ o, h.get? c = some o)
    {σ₀ : St} {s₀ : Shared} (hel : ∀ k v, k < n → Pv k v → Rep s₀.heap (el k) v)
    (htg : ∀ σ s k c (Q : Unit → Shared → Prop), k < n → At cx σ s → Rep s.heap (el k) c → Sw (k + 1) s.heap → (∀ s', At cx (tg σ (el k)) s' → Keep cx σ s (tg σ (el k)) s' → Q () s') →
      wpAny (model prog w) cx.A (letOwnedTupleGo x (.ref it) c) (fun _ s' => wpAny (model prog w) cx.A (assign x cx.env c) Q NoE s') NoE s)
    (I : Nat → St → Prop) (Q : Fl → St → Prop) (a₀ : At cx σ₀ s₀) (h0 : cx.h₀.get? it = none) (nx : ∀ p ∈ cx.extra, p.1 ≠ it) (hit : it ∈ fp) (hσ : ∀ c ∈ fp, c ≠ cx.L ∧ σ₀.H c = none) (hS : Sw 0 s₀.heap) (hI : I 0 σ₀)
    (turn : ∀ k σ', k < n → I k σ' → wpS sp b (tg σ' (el k)) (loopQ Q (I (k + 1)))) (done : ∀ σ', I n σ' → Q .next σ') {R : Result → Shared → Prop}
    (hR : ∀ g f σ' s', FRep s'.heap g f → At cx σ' s' → KeepX cx it σ₀ s₀ σ' s' → Q g σ' → R (.ok f) s') :
    codeAny (model prog w) cx.A (.forLoop x (.ref it) bs [] cx.env) R s₀ := by
  have tup : ∀ σ' s', KeepX cx it σ₀ s₀ σ' s' → ∀ b i, s₀.heap.IsTuple b i → s'.heap.IsTuple b i := by
    intro σ' s' k b i t
    have n1 := a₀.tupleNe t
    obtain ⟨o, e, r⟩ := t
    have n2 : b ≠ it := by
      rintro rfl
      obtain ⟨o', e', c⟩ := (hex 0 _ hS).1
      rw [e] at e'; cases e'
      exact c r.1
    exact ⟨o, (k b o n2 e n1.1 n1.2).1, r⟩
  refine codeAny_forLoop_any (fun m s' => ∃ k σ', m = n - k ∧ k ≤ n ∧ At cx σ' s' ∧ KeepX cx it σ₀ s₀ σ' s' ∧ Sw k s'.heap ∧ (∀ c ∈ fp, σ'.H c = none) ∧ I k σ') ?_ n
    ⟨0, σ₀, rfl, Nat.zero_le _, a₀, fun _ _ _ h _ h2 => ⟨h, h2⟩, hS, fun c hc => (hσ c hc).2, hI⟩
  rintro m s' ⟨k, σ', rfl, hk, a', k', st, hH, hIk⟩
  by_cases hkn : k = n
  · subst hkn
    refine W.done s' _ _ st fun h' tk kp => ?_
    refine wpAny_execs_nil ?_
    have nt : ∀ i, ¬ s'.heap.IsTuple it i := fun i ⟨o', e', r⟩ => by
      obtain ⟨o, e, c⟩ := (hex _ _ st).1
      rw [e'] at e; cases e; exact c r.1
    have a'' := a'.but (hσ it hit).1 h0 (hH it hit) nt nx (fun b o hb e => kp b o (by simpa using hb) e) tk
    exact hR .next .next σ' _ .next a'' (k'.trans fun b o hb e _ h2 => ⟨kp b o (by simpa using hb) e, h2⟩) (done σ' hIk)
  · have hlt : k < n := by omega
    refine W.item k s' _ _ hlt st fun v h' tk hP st' kp => ?_
    have nt : ∀ i, ¬ s'.heap.IsTuple it i := fun i ⟨o', e', r⟩ => by
      obtain ⟨o, e, c⟩ := (hex _ _ st).1
      rw [e'] at e; cases e; exact c r.1
    have a'' := a'.but (hσ it hit).1 h0 (hH it hit) nt nx (fun b o hb e => kp b o (by simpa using hb) e) tk
    have k'' : KeepX cx it σ₀ s₀ σ' { s' with heap := h', toks := tk } := k'.trans fun b o hb e _ h2 => ⟨kp b o (by simpa using hb) e, h2⟩
    have rv : Rep h' (el k) v := (hel k v hlt hP).mono (tup σ' _ k'')
    refine wpAny_mono (htg σ' { s' with heap := h', toks := tk } k v (fun _ s₂ => At cx (tg σ' (el k)) s₂ ∧ Keep cx σ' { s' with heap := h', toks := tk } (tg σ' (el k)) s₂) hlt a'' rv st' (fun s₂ a₂ k₂ => ⟨a₂, k₂⟩)) ?_ noE
    intro _ s₁ h₁
    refine wpAny_mono h₁ ?_ noE
    rintro _ s₂ ⟨a₂, k₂⟩
    have fpk : ∀ c ∈ fp, ∀ o, h'.get? c = some o → s₂.heap.get? c = some o ∧ (tg σ' (el k)).H c = none := fun c hc o e => k₂ c o e (hσ c hc).1 (hH c hc)
    have st2 : Sw (k + 1) s₂.heap := W.frame _ _ _ st' fun c hc o e => (fpk c hc o e).1
    refine wpAny_mono (bindF (hb _ s₂ _ a₂ (turn k σ' hlt hIk)) fun g f σ₃ s₃ rf a₃ k₃ p₃ => ?_) (fun _ _ z => z) noE
    have fp3 : ∀ c ∈ fp, ∀ o, s₂.heap.get? c = some o → s₃.heap.get? c = some o ∧ σ₃.H c = none := fun c hc o e => by
      obtain ⟨o', e'⟩ := (hex _ _ st').2 c hc
      exact k₃ c o e (hσ c hc).1 (fpk c hc o' e').2
    have kk : KeepX cx it σ₀ s₀ σ₃ s₃ := k''.trans (k₂.trans k₃).x
    have again : I (k + 1) σ₃ → ∃ m, m < n - k ∧ ∃ k_1 σ', m = n - k_1 ∧ k_1 ≤ n ∧ At cx σ' s₃ ∧ KeepX cx it σ₀ s₀ σ' s₃ ∧ Sw k_1 s₃.heap ∧ (∀ c ∈ fp, σ'.H c = none) ∧ I k_1 σ' := by
      intro hi
      refine ⟨n - (k + 1), by omega, k + 1, σ₃, rfl, by omega, a₃, kk, W.frame _ _ _ st2 fun c hc o e => (fp3 c hc o e).1, fun c hc => ?_, hi⟩
      obtain ⟨o, e⟩ := (hex _ _ st2).2 c hc
      exact (fp3 c hc o e).2
    cases rf with
    | next => exact again p₃
    | cont => exact again p₃
    | brk => exact hR .next .next σ₃ s₃ .next a₃ kk p₃
    | ret r => exact hR _ _ σ₃ s₃ (.ret r) a₃ kk p₃
end
end
section
open PySem PySem.W PyProof.Rows PySem.Calls PySem.Spec
set_option Elab.async false
set_option maxRecDepth 100000
set_option autoImplicit false
set_option linter.unusedVariables false
section
variable {prog : Program} {w : World} {cx : Cx} {sp : Sp}

theorem At.ext {σ : St} {s : Shared} (a : At cx σ s) {h' : Heap} (kp : ∀ b o, s.heap.get? b = some o → h'.get? b = some o) : At cx σ { s with heap := h' } ∧ Keep cx σ s σ { s with heap := h' } := by
  obtain ⟨m, F, r⟩ := a.fr
  obtain ⟨oL, es, ep, ho, q⟩ := F.ns
  have := a.later F r (h' := h') ⟨⟨oL, es, ep, kp _ _ ho, q⟩, fun b o e => kp _ _ (F.keep b o e), F.above⟩ (fun p hp => kp _ _ (allNews_ok p hp).1) s.toks
  exact this
theorem extBut_all {h h' : Heap} (x : Heap.ExtBut h.objs.size h h') : ∀ b o, h.get? b = some o → h'.get? b = some o :=
  fun b o e => x b o (Nat.ne_of_lt (Heap.lt_size e)) e

theorem S1.asg2 (ok : cx.Ok) {x y : Str} {px py p pos pe : Pos} {k k' : Nat} {i j : Nat} {e f : Expr} {a b : X} (hx : cx.names[i]? = some x) (hy : cx.names[j]? = some y) (hij : i ≠ j)
    (he : SE prog w cx sp e a) (hf : SE prog w cx sp f b)
    (hs : swapsWithSole [.Tuple [.Name x px, .Name y py] k p] (.Tuple [e, f] k' pe) pos.line cx.env = pure false := by rfl)
    (hw : swappedStores [.Tuple [.Name x px, .Name y py] k p] (.Tuple [e, f] k' pe) cx.env = pure (some [x, y]) := by rfl)
    (hst : starEach [e, f] cx.env = (false, eval e cx.env) :: starEach [f] cx.env := by rfl) (hst' : starEach [f] cx.env = (false, eval f cx.env) :: starEach [] cx.env := by rfl) :
    S1 prog w cx sp (.Assign [.Tuple [.Name x px, .Name y py] k p] (.Tuple [e, f] k' pe) pos) (.asg2 i j a b) := by
  intro σ s P at0 h
  have hb : SE prog w cx sp (.Tuple [e, f] k' pe) (.tup a b) := SE.tup he hf hst hst'
  refine Assign_Tuple_swapped (names := [x, y]) ?_ hs hw
  refine bindX (hb σ s _ at0 h) fun v c σ₁ s₁ rv a₁ k₁ h₁ => ?_
  cases v <;> first | exact (show False from h₁).elim | skip
  rename_i u v
  obtain ⟨t, cu, cv, rfl, ht, r1, r2⟩ := rv
  have hu : unpackItems (.ref t) [x, y].length Option.none = unpackItems (.ref t) (#[cu, cv] : Array Value).size Option.none := rfl
  rw [hu]
  refine wpAny_unpackItems_tuple ok.handled ht fun h' hx' => ?_
  obtain ⟨a₂, k₂⟩ := a₁.ext (extBut_all hx')
  show wpAny _ _ (assignInOrder [fun v => bindName cx.env y v, fun v => bindName cx.env x v] [cv, cu]) _ _ _
  have r1' := r1.keep a₁ k₂
  have r2' := r2.keep a₁ k₂
  have comm : ((σ₁.set j v).set i u) = ((σ₁.set i u).set j v) := by
    simp only [St.set, St.mk.injEq, and_true]
    exact List.set_comm _ _ (Ne.symm hij)
  refine wpAny_assignInOrder_more (wpAny_bindName (a₂.store ok hy r2' fun s₃ a₃ k₃ => wpAny_assignInOrder_more (wpAny_bindName (a₃.store ok hx (r1'.keep a₂ k₃) fun s₄ a₄ k₄ => wpAny_assignInOrder_none ?_))))
  rw [comm] at a₄ k₄
  exact ⟨.next, _, .next, a₄, k₁.trans (k₂.trans (k₃.trans k₄)), h₁⟩


/-- for over a range, from the range object on -/
theorem range_size (lo hi : Int) {c : Nat} (h : 0 < c) : Builtin.Range.rangeSize lo hi c = (((hi - lo + c - 1) / c).toNat : Int) := by
  have h' : (0 : Int) < c := Int.ofNat_lt.mpr h
  clear h
  generalize (c : Int) = c at h'
  unfold Builtin.Range.rangeSize
  rw [if_pos h']
  split
  · rename_i h
    have e : hi - lo + c - 1 = (hi - lo - 1) + c * 1 := by omega
    rw [e, Int.add_mul_ediv_left _ _ (Int.ne_of_gt h')]
    have : 0 ≤ (hi - lo - 1) / c := Int.ediv_nonneg (by omega) (Int.le_of_lt h')
    rw [Int.toNat_of_nonneg (Int.add_nonneg this (by decide))]
    try rfl
  · rename_i h
    have : (hi - lo + c - 1) / c < 1 := Int.ediv_lt_of_lt_mul h' (by omega)
    rw [Int.toNat_of_nonpos (Int.lt_add_one_iff.mp this)]
    try rfl
theorem range_len {lo hi : Int} {c : Nat} (b1 : -2 ^ 32 < lo) (b4 : hi < 2 ^ 32) (b5 : 0 < c) (b6 : c < 2 ^ 20) : (((hi - lo + c - 1) / c).toNat : Int) < 2 ^ 34 := by
  have h' : (0 : Int) < c := Int.ofNat_lt.mpr b5
  have b6' : (c : Int) < 2 ^ 20 := Int.ofNat_lt.mpr b6
  have : (hi - lo + (c : Int) - 1) / c < 2 ^ 34 := Int.ediv_lt_of_lt_mul h' (Int.lt_of_lt_of_le (by clear b5 b6; omega) (Int.mul_le_mul_of_nonneg_left h' (show (0 : Int) ≤ 2 ^ 34 by decide)))
  rw [Int.toNat_eq_max]
  exact Int.max_lt.mpr ⟨this, by decide⟩
theorem range_loop (ok : cx.Ok) {x : Str} {px : Pos} {i : Nat} {bs : List Stmt} {b : S} (hx : cx.names[i]? = some x) (hb : SS prog w cx sp bs b) {lo hi : Int} {c : Nat} {r : Addr} {t u v : Tok} {σ : St} {s : Shared} {Q : Fl → St → Prop}
    (a : At cx σ s) (hr : IsRange s.heap r lo hi c t u v) (hbd : -2 ^ 32 < lo ∧ lo < 2 ^ 32 ∧ -2 ^ 32 < hi ∧ hi < 2 ^ 32 ∧ 0 < c ∧ c < 2 ^ 20)
    (I : Nat → St → Prop) (hI : I 0 σ) (turn : ∀ k σ', k < ((hi - lo + c - 1) / c).toNat → I k σ' → wpS sp b (σ'.set i (.int (lo + k * c))) (loopQ Q (I (k + 1))))
    (done : ∀ σ', I ((hi - lo + c - 1) / c).toNat σ' → Q .next σ') {R : Flow → Shared → Prop} {E : Value → Shared → Prop}
    (hR : ∀ g f σ' s', FRep s'.heap g f → At cx σ' s' → Keep cx σ s σ' s' → Q g σ' → R f s') :
    wpAny (model prog w) cx.A (pyIter (.ref r)) (fun it s₂ => codeAny (model prog w) cx.A (.forLoop (.Name x px) it bs [] cx.env) (fun r s' => match r with | .ok f => R f s' | .error e => E e s') s₂) NoE s := by
  obtain ⟨b1, b2, b3, b4, b5, b6⟩ := hbd
  have hn := range_size lo hi b5
  have hlen := range_len b1 b4 b5 b6
  have hsm : Builtin.Range.small lo hi c = true := by
    unfold Builtin.Range.small
    rw [hn]
    simp only [Builtin.Range.rangeFitsLong, Bool.and_eq_true, Bool.or_eq_true, decide_eq_true_eq]
    refine ⟨?_, .inr ?_⟩
    · omega
    · rw [if_pos (by omega)]; simp only [Bool.and_eq_true, decide_eq_true_eq]; omega
  refine wpAny_pyIter_range hr hsm ?_
  rw [hn]
  have a₁ := a.push { cls := .type "range_iterator", data := .fields #[rawInt lo, rawInt (((hi - lo + c - 1) / c).toNat : Int), rawInt c] }
  have k₁ := Keep.push (cx := cx) (σ := σ) (s := s) { cls := .type "range_iterator", data := .fields #[rawInt lo, rawInt (((hi - lo + c - 1) / c).toNat : Int), rawInt c] }
  refine loopWalk (el := fun k => .int (lo + k * c)) (tg := fun σ v => σ.set i v) hb (Walks.range ok.handled _ lo c _) (fun k h st => ⟨⟨_, st, by simp⟩, fun d hd => by rw [List.mem_singleton.mp hd]; exact ⟨_, st⟩⟩) (fun k v _ hv => hv) ?_ I Q a₁ ?_ (fun p hp => Nat.ne_of_lt (Heap.lt_size (a.ex p hp).1)) (by simp) ?_ ?_ hI turn done ?_
  · intro σ s k c Q hk a' rc _ hQ
    exact wpAny_pure (PySem.wpAny_assign_Name (a'.store ok hx rc hQ))
  · obtain ⟨m, F, _⟩ := a.fr
    cases q : cx.h₀.get? s.heap.objs.size with
    | none => rfl
    | some o => exact absurd (Heap.lt_size (F.keep _ _ q)) (Nat.lt_irrefl _)
  · intro d hd
    rw [List.mem_singleton.mp hd]
    exact ⟨Nat.ne_of_gt a.L_lt, a.newAddr⟩
  · show Heap.get? _ _ = _
    simpa using Heap.get?_push_size s.heap rfl
  · intro g f σ' s' rf a' k' q
    refine hR g f σ' s' rf a' (fun b o e n h2 => k' b o (fun q => ?_) (Heap.get?_push_of_some _ e) n h2) q
    rw [q] at e
    exact absurd (Heap.lt_size e) (Nat.lt_irrefl _)

/-- the range's own call -/
theorem S1.forr1 (ok : cx.Ok) (G : Globs prog w cx) {x : Str} {px p pp pos : Pos} {i : Nat} {e : Expr} {y : X} {bs : List Stmt} {b : S} (hx : cx.names[i]? = some x) (he : SE prog w cx sp e y) (hb : SS prog w cx sp bs b)
    (hk : cx.env.kindOf (Str.ofString "range") = some .globalImplicit := by rfl)
    (hst : starEach [e] cx.env = (false, eval e cx.env) :: starEach [] cx.env := by rfl)
    (hs : ∀ x, foldedSetIterable (.Call (.Name (Str.ofString "range") p) [e] [] pp) cx.env x = pure x := by intro _; rfl) :
    S1 prog w cx sp (.For (.Name x px) (.Call (.Name (Str.ofString "range") p) [e] [] pp) bs [] pos) (.forr i (.int 0) y 1 b) := by
  intro σ s P a h
  refine wpAny_For (wpAny_Call_NameR (wpAny_Name (G _ _ bi_range hk σ s _ a ?_) (by decide))) hs
  refine PyProof.Rows.callWith_type1 (spliced_more (bindX (he σ s _ a h) fun v d σ₁ s₁ rv a₁ k₁ h₁ => spliced_none ?_) hst) hst rfl
  cases v <;> first | exact (show False from h₁).elim | skip
  obtain ⟨t, rfl⟩ := rv
  obtain ⟨hbd, I, hI, turn, done⟩ := h₁
  refine call_range_1 ?_
  rename_i n
  have a₂ := (a₁.push { cls := .type "range", data := .fields #[.int 0 s₁.toks, .int n t, .int 1 (s₁.toks + 1)] }).toks (s₁.toks + 1 + 1)
  refine range_loop ok hx hb a₂ (lo := 0) (c := 1) (IsRange.new _ _ _ _ _ _ _) hbd I hI turn done fun g f σ' s' rf a' k' q => ?_
  exact ⟨g, σ', rf, a', k₁.trans ((Keep.push _).trans ((Keep.toks _).trans k')), q⟩
theorem S1.forr3 (ok : cx.Ok) (G : Globs prog w cx) {x : Str} {px p pp pos pk : Pos} {i : Nat} {e f : Expr} {y z : X} {c kk : Nat} {bs : List Stmt} {b : S} (hx : cx.names[i]? = some x) (he : SE prog w cx sp e y) (hf : SE prog w cx sp f z) (hb : SS prog w cx sp bs b)
    (hc : 0 < c ∧ c < 2 ^ 20)
    (hk : cx.env.kindOf (Str.ofString "range") = some .globalImplicit := by rfl)
    (hst : starEach [e, f, .Constant (.int c) kk pk] cx.env = (false, eval e cx.env) :: starEach [f, .Constant (.int c) kk pk] cx.env := by rfl)
    (hst' : starEach [f, .Constant (.int c) kk pk] cx.env = (false, eval f cx.env) :: starEach [.Constant (.int c) kk pk] cx.env := by rfl)
    (hpl : (backTo pp (starEach [f, .Constant (.int c) kk pk] cx.env)).any (·.1) = false := by rfl)
    (hs : ∀ x, foldedSetIterable (.Call (.Name (Str.ofString "range") p) [e, f, .Constant (.int c) kk pk] [] pp) cx.env x = pure x := by intro _; rfl) :
    S1 prog w cx sp (.For (.Name x px) (.Call (.Name (Str.ofString "range") p) [e, f, .Constant (.int c) kk pk] [] pp) bs [] pos) (.forr i y z c b) := by
  intro σ s P a h
  refine wpAny_For (wpAny_Call_NameR (wpAny_Name (G _ _ bi_range hk σ s _ a ?_) (by decide))) hs
  refine PyProof.Rows.callWith_type1 (spliced_more (bindX (he σ s _ a h) fun u d σ₁ s₁ ru a₁ k₁ h₁ => spliced_more (bindX (hf σ₁ s₁ _ a₁ h₁) fun v d' σ₂ s₂ rv a₂ k₂ h₂ => spliced_more (wpAny_Constant_int (spliced_none ?_)) rfl) hst') hst) hst hpl
  cases u <;> cases v <;> first | exact (show False from h₂).elim | skip
  have ru := ru.keep a₁ k₂
  obtain ⟨t, rfl⟩ := ru; obtain ⟨t', rfl⟩ := rv
  obtain ⟨hbd, I, hI, turn, done⟩ := h₂
  refine call_range_3 (by omega) ?_ (Or.inl (PyProof.noPylong_small (by omega)))
  rename_i lo hi
  have a₃ := (a₂.toks (s₂.toks + 1)).push { cls := .type "range", data := .fields #[.int lo t, .int hi t', .int c s₂.toks] }
  refine range_loop ok hx hb a₃ (lo := lo) (c := c) (IsRange.new _ _ _ _ _ _ _) hbd I hI turn done fun g f σ' s' rf a' k' q => ?_
  exact ⟨g, σ', rf, a', k₁.trans (k₂.trans ((Keep.toks _).trans ((Keep.push _).trans k'))), q⟩
end
end
section
open PySem PySem.W PyProof.Rows PySem.Calls PySem.Spec
set_option Elab.async false
set_option maxRecDepth 100000
set_option autoImplicit false
set_option linter.unusedVariables false
section
variable {prog : Program} {w : World} {cx : Cx} {sp : Sp}
theorem At.delH {σ : St} {s : Shared} (a : At cx σ s) (l : Addr) : At cx (σ.delH l) s :=
  ⟨a.sh, a.fr, fun b vs e => a.hp b vs (by
    simp only [St.delH] at e
    split at e
    · cases e
    · exact e), fun p hp => ⟨(a.ex p hp).1, (a.ex p hp).2.1, by simp [St.delH, (a.ex p hp).2.2]⟩⟩
/-- a list taken away comes back -/
theorem At.undel {σ σ' : St} {s s' : Shared} (a : At cx σ s) {l : Addr} {vs : List V} (e : σ.H l = some vs) (a' : At cx σ' s') (k : Keep cx (σ.delH l) s σ' s') :
    At cx (σ'.setH l vs) s' ∧ Keep cx σ s (σ'.setH l vs) s' := by
  obtain ⟨n1, n2, cs, ⟨n, p⟩, r⟩ := a.hp l vs e
  have kl := k l _ p n1 (by simp [St.delH])
  constructor
  · refine ⟨a'.sh, a'.fr, fun b ws q => ?_, fun p hp => ⟨(a'.ex p hp).1, (a'.ex p hp).2.1, by
      have hn : p.1 ≠ l := fun q => by have := (a.ex p hp).2.2; rw [q, e] at this; cases this
      simp [St.setH, hn, (a'.ex p hp).2.2]⟩⟩
    by_cases hb : b = l
    · subst hb
      have : some vs = some ws := by simpa [St.setH] using q
      cases this
      exact ⟨n1, n2, cs, ⟨n, kl.1⟩, r.mono (k.tuples (a.delH b))⟩
    · have : σ'.H b = some ws := by simpa [St.setH, hb] using q
      exact a'.hp b ws this
  · intro b o e1 h1 h2
    have hb : b ≠ l := fun q => by rw [q, e] at h2; cases h2
    have := k b o e1 h1 (by simp [St.delH, hb, h2])
    exact ⟨this.1, by simp [St.setH, hb, this.2]⟩
noncomputable def tg2 (i j : Nat) (σ : St) : V → St
  | .tup p q => (σ.set i p).set j q
  | _ => σ
theorem forp_loop (ok : cx.Ok) {x y : Str} {px py p : Pos} {kk : Nat} {i j : Nat} {bs : List Stmt} {b : S} (hx : cx.names[i]? = some x) (hy : cx.names[j]? = some y) (hb : SS prog w cx sp bs b) {l : Addr} {vs : List V} {σ : St} {s : Shared} {Q : Fl → St → Prop}
    (a : At cx σ s) (e : σ.H l = some vs) (htup : ∀ (k : Nat) (v : V), vs[k]? = some v → ∃ p q : V, v = V.tup p q)
    (I : Nat → St → Prop) (hI : I 0 (σ.delH l)) (turn : ∀ (k : Nat) (p q : V) (σ' : St), vs[k]? = some (V.tup p q) → I k σ' → wpS sp b ((σ'.set i p).set j q) (loopQ (fun f σ₃ => Q f (σ₃.setH l vs)) (I (k + 1))))
    (done : ∀ σ', I vs.length σ' → Q .next (σ'.setH l vs)) {R : Flow → Shared → Prop} {E : Value → Shared → Prop}
    (hR : ∀ g f σ' s', FRep s'.heap g f → At cx σ' s' → Keep cx σ s σ' s' → Q g σ' → R f s') :
    wpAny (model prog w) cx.A (pyIter (.ref l)) (fun it s₂ => codeAny (model prog w) cx.A (.forLoop (.Tuple [.Name x px, .Name y py] kk p) it bs [] cx.env) (fun r s' => match r with | .ok f => R f s' | .error e => E e s') s₂) NoE s := by
  obtain ⟨n1, n2, cs, pl, r⟩ := a.hp l vs e
  obtain ⟨n, pl'⟩ := id pl
  have hlen := r.length
  refine wpAny_pyIter_list pl.isList ?_
  have ad := a.delH l
  have a₁ := ad.push { cls := .type "list_iterator", data := .fields #[.ref l, .int 0 0] }
  have hne : l ≠ s.heap.objs.size := Nat.ne_of_lt (Heap.lt_size pl')
  have hW := Walks.list (prog := prog) (w := w) ok.handled s.heap.objs.size l hne cs.toArray
  rw [show cs.toArray.size = vs.length from by rw [List.size_toArray, hlen]] at hW
  refine loopWalk (el := fun k => vs.getD k .none) (tg := tg2 i j) hb hW (fun k h st => ⟨?_, ?_⟩) ?_ ?_ I (fun f σ₃ => Q f (σ₃.setH l vs)) a₁ ?_ (fun p hp => Nat.ne_of_lt (Heap.lt_size (a.ex p hp).1)) (by simp) ?_ ?_ hI ?_ done ?_
  · obtain ⟨⟨o, h1, h2, _⟩, _⟩ := st
    exact ⟨o, h1, by rw [h2]; simp⟩
  · intro c hc
    obtain ⟨⟨o, h1, _⟩, ⟨o', h1', _⟩⟩ := st
    simp only [List.mem_cons, List.not_mem_nil, or_false] at hc
    rcases hc with rfl | rfl
    · exact ⟨o, h1⟩
    · exact ⟨o', h1'⟩
  · intro k v hk hv
    have hget : vs[k]? = some (vs.getD k .none) := by simp [List.getD, hk]
    obtain ⟨c, hc, rc⟩ := r.get hget
    have : v = c := by
      have hv' : cs[k]? = some v := by simpa using hv
      rw [hv'] at hc; exact Option.some.inj hc
    subst this
    exact rc.mono fun b i t => let ⟨o', e, q⟩ := t; ⟨o', Heap.get?_push_of_some _ e, q⟩
  · intro σ' s' k c Qu hk a' rc st hQ
    have hget : vs[k]? = some (vs.getD k .none) := by simp [List.getD, hk]
    obtain ⟨p', q', he⟩ := htup k _ hget
    simp only [he] at rc hQ
    obtain ⟨T, cu, cv, rfl, ht, r1, r2⟩ := rc
    refine wpAny_letOwnedTupleGo_listiter st.1 ?_
    refine wpAny_assign_Tuple ok.handled ht rfl rfl fun h' hx' => ?_
    obtain ⟨a₂, k₂⟩ := a'.ext (extBut_all hx')
    have r1' := r1.keep a' k₂
    have r2' := r2.keep a' k₂
    show wpAny _ _ (assignInOrder [assign (.Name x px) cx.env, assign (.Name y py) cx.env] [cu, cv]) _ _ _
    refine wpAny_assignInOrder_more (PySem.wpAny_assign_Name (a₂.store ok hx r1' fun s₃ a₃ k₃ => wpAny_assignInOrder_more (PySem.wpAny_assign_Name (a₃.store ok hy (r2'.keep a₂ k₃) fun s₄ a₄ k₄ => wpAny_assignInOrder_none (hQ s₄ a₄ (k₂.trans (k₃.trans k₄)))))))
  · obtain ⟨m, F, _⟩ := a.fr
    cases q : cx.h₀.get? s.heap.objs.size with
    | none => rfl
    | some o => exact absurd (Heap.lt_size (F.keep _ _ q)) (Nat.lt_irrefl _)
  · intro d hd
    simp only [List.mem_cons, List.not_mem_nil, or_false] at hd
    rcases hd with rfl | rfl
    · exact ⟨Nat.ne_of_gt a.L_lt, ad.newAddr⟩
    · exact ⟨n1, by simp [St.delH]⟩
  · exact ⟨⟨_, Heap.get?_push_size _ rfl, rfl, rfl⟩, (pl.at fun o e => Heap.get?_push_of_some _ e).isList⟩
  · intro k σ' hk hIk
    have hget : vs[k]? = some (vs.getD k .none) := by simp [List.getD, hk]
    obtain ⟨p', q', he⟩ := htup k _ hget
    rw [he] at hget
    show wpS sp b (tg2 i j σ' (vs.getD k .none)) _
    rw [he]
    exact turn k p' q' σ' hget hIk
  · intro g f σ' s' rf a' k' q
    have kk : Keep cx (σ.delH l) s σ' s' := fun b o e n h2 => k' b o (fun q => by rw [q] at e; exact absurd (Heap.lt_size e) (Nat.lt_irrefl _)) (Heap.get?_push_of_some _ e) n h2
    obtain ⟨a'', k''⟩ := a.undel e a' kk
    exact hR g f _ s' rf a'' k'' q
theorem S1.forp (ok : cx.Ok) {x y : Str} {px py p pos : Pos} {kk : Nat} {i j : Nat} {it : Expr} {z : X} {bs : List Stmt} {b : S} (hx : cx.names[i]? = some x) (hy : cx.names[j]? = some y) (hi : SE prog w cx sp it z) (hb : SS prog w cx sp bs b)
    (hs : ∀ x, foldedSetIterable it cx.env x = pure x := by intro _; rfl) :
    S1 prog w cx sp (.For (.Tuple [.Name x px, .Name y py] kk p) it bs [] pos) (.forp i j z b) := by
  intro σ s P a h
  refine wpAny_For (bindX (hi σ s _ a h) fun u c σ₁ s₁ ru a₁ k₁ h₁ => ?_) hs
  cases u <;> first | exact (show False from h₁).elim | skip
  cases ru
  simp only at h₁
  split at h₁ <;> first | exact h₁.elim | skip
  rename_i vs e
  obtain ⟨hz, htup, I, hI, turn, done⟩ := h₁
  exact forp_loop ok hx hy hb a₁ e htup I hI turn done fun g f σ' s' rf a' k' q => ⟨g, σ', rf, a', k₁.trans k', q⟩

theorem fors_loop (ok : cx.Ok) {x : Str} {px : Pos} {i : Nat} {bs : List Stmt} {b : S} (hx : cx.names[i]? = some x) (hb : SS prog w cx sp bs b) {y : List Nat} {t : Tok} {T : String} (hT : T ≠ "tuple") {σ : St} {s : Shared} {Q : Fl → St → Prop} {it : Addr}
    (hW : Walks prog w cx.A it [it] [it] y.length (SignAt (strOf y)) (fun k h => h.IsStrIter it T (strOf y) t k))
    (a : At cx σ s) (hit : it = s.heap.objs.size) {o : Obj} (h0 : (s.heap.push o).IsStrIter it T (strOf y) t 0)
    (I : Nat → St → Prop) (hI : I 0 σ) (turn : ∀ k c σ', y[k]? = some c → I k σ' → wpS sp b (σ'.set i (.str [c])) (loopQ Q (I (k + 1))))
    (done : ∀ σ', I y.length σ' → Q .next σ') {R : Flow → Shared → Prop} {E : Value → Shared → Prop}
    (hR : ∀ g f σ' s', FRep s'.heap g f → At cx σ' s' → Keep cx σ s σ' s' → Q g σ' → R f s') :
    codeAny (model prog w) cx.A (.forLoop (.Name x px) (.ref it) bs [] cx.env) (fun r s' => match r with | .ok f => R f s' | .error e => E e s') { s with heap := s.heap.push o } := by
  subst hit
  have a₁ := a.push o
  refine loopWalk (el := fun k => .str [y.getD k 0]) (tg := fun σ v => σ.set i v) hb hW (fun k h st => ⟨?_, ?_⟩) ?_ ?_ I Q a₁ ?_ (fun p hp => Nat.ne_of_lt (Heap.lt_size (a.ex p hp).1)) (by simp) ?_ h0 hI ?_ done ?_
  · obtain ⟨o, h1, h2, _⟩ := st
    exact ⟨o, h1, by rw [h2]; intro q; exact hT (by injection q)⟩
  · intro c hc
    rw [List.mem_singleton.mp hc]
    obtain ⟨o, h1, _⟩ := st
    exact ⟨o, h1⟩
  · rintro k v hk ⟨c, u, hc, rfl⟩
    have : y[k]? = some c := by simpa [strOf] using hc
    have e : y.getD k 0 = c := by simp [List.getD, this]
    simp only [e]
    exact ⟨u, rfl⟩
  · intro σ s k c Q hk a' rc _ hQ
    exact wpAny_pure (PySem.wpAny_assign_Name (a'.store ok hx rc hQ))
  · obtain ⟨m, F, _⟩ := a.fr
    cases q : cx.h₀.get? s.heap.objs.size with
    | none => rfl
    | some o => exact absurd (Heap.lt_size (F.keep _ _ q)) (Nat.lt_irrefl _)
  · intro d hd
    rw [List.mem_singleton.mp hd]
    exact ⟨Nat.ne_of_gt a.L_lt, a.newAddr⟩
  · intro k σ' hk hIk
    have hg : y[k]? = some (y.getD k 0) := by simp [List.getD, hk]
    exact turn k _ σ' hg hIk
  · intro g f σ' s' rf a' k' q
    refine hR g f σ' s' rf a' (fun b o e n h2 => k' b o (fun q => ?_) (Heap.get?_push_of_some _ e) n h2) q
    rw [q] at e
    exact absurd (Heap.lt_size e) (Nat.lt_irrefl _)
theorem S1.fors (ok : cx.Ok) {x : Str} {px pos : Pos} {i : Nat} {it : Expr} {z : X} {bs : List Stmt} {b : S} (hx : cx.names[i]? = some x) (hi : SE prog w cx sp it z) (hb : SS prog w cx sp bs b)
    (hs : ∀ x, foldedSetIterable it cx.env x = pure x := by intro _; rfl) :
    S1 prog w cx sp (.For (.Name x px) it bs [] pos) (.fors i z b) := by
  intro σ s P a h
  refine wpAny_For (bindX (hi σ s _ a h) fun u c σ₁ s₁ ru a₁ k₁ h₁ => ?_) hs
  cases u <;> first | exact (show False from h₁).elim | skip
  rename_i y
  obtain ⟨t, rfl⟩ := ru
  obtain ⟨hz, I, hI, turn, done⟩ := h₁
  have hsz : (strOf y).cps.size = y.length := by simp [strOf]
  by_cases hasc : ((strOf y).cps.all fun x => decide (x < 128)) = true
  · refine wpAny_pyIter_ascii (x := strOf y) hasc ?_
    have W := Walks.strAscii (prog := prog) (w := w) ok.handled s₁.heap.objs.size (strOf y) t
    rw [hsz] at W
    exact fors_loop ok hx hb (by decide) W a₁ rfl ⟨_, Heap.get?_push_size _ rfl, rfl, rfl⟩ I hI turn done fun g f σ' s' rf a' k' q => ⟨g, σ', rf, a', k₁.trans k', q⟩
  · refine wpAny_pyIter_wide (x := strOf y) (by simpa using hasc) ?_
    have W := Walks.strWide (prog := prog) (w := w) ok.handled s₁.heap.objs.size (strOf y) t
    rw [hsz] at W
    exact fors_loop ok hx hb (by decide) W a₁ rfl ⟨_, Heap.get?_push_size _ rfl, rfl, rfl⟩ I hI turn done fun g f σ' s' rf a' k' q => ⟨g, σ', rf, a', k₁.trans k', q⟩
theorem strsAre_of {h : Heap} : ∀ (ts : List (List Nat)) (cs : List Value), Reps h (ts.map V.str) cs → StrsAre cs (ts.map strOf)
  | [], [], _ => .nil
  | t :: ts, c :: cs, ⟨⟨tk, e⟩, r⟩ => by subst e; exact .cons _ _ (strsAre_of ts cs r)
theorem join_flat : ∀ ts : List (List Nat), Str.join ⟨#[]⟩ (ts.map strOf) = strOf ts.flatten
  | [] => rfl
  | [t] => by simp [Str.join]
  | t :: u :: r => by
    have := join_flat (u :: r)
    simp only [List.map_cons] at this ⊢
    show strOf t ++ ⟨#[]⟩ ++ Str.join ⟨#[]⟩ (strOf u :: r.map strOf) = _
    rw [this]
    show (⟨(strOf t).cps ++ #[] ++ (strOf (u :: r).flatten).cps⟩ : Str) = _
    simp [strOf]
theorem SE.join0 {e : Expr} {y : X} {k : Nat} {kp apos pos : Pos} {x : Str} {pl : Sem Bool} (he : SE prog w cx sp e y) (hx : x = ⟨#[]⟩)
    (hm : MC cx.env (.Constant (.str x) k kp) (Str.ofString "join") apos pos [e] pl := by with_unfolding_all rfl) (hst : starEach [e] cx.env = (false, eval e cx.env) :: starEach [] cx.env := by rfl) :
    SE prog w cx sp (.Call (.Attribute (.Constant (.str x) k kp) (Str.ofString "join") apos) [e] [] pos) (.join0 y) := by
  intro σ s P a h
  refine MethodCall_ (bindX (SE.str (sp := sp) (l := []) hx σ s (fun u σ' => u = .str [] ∧ wpX sp (.join0 y) σ' P) a ⟨rfl, h⟩) fun u c σ₁ s₁ ru a₁ k₁ h₁ => ?_) hm
  obtain ⟨rfl, h₁⟩ := h₁
  obtain ⟨t, rfl⟩ := ru
  refine GM.join (callWith_method1 (spliced_more (bindX (he σ₁ s₁ _ a₁ h₁) fun v d σ₂ s₂ rv a₂ k₂ h₂ => spliced_none ?_) hst) hst rfl)
  cases v <;> first | exact (show False from h₂).elim | skip
  cases rv
  dsimp only at h₂
  split at h₂ <;> first | exact h₂.elim | skip
  rename_i vs e2
  obtain ⟨ts, rfl, hz, h₂⟩ := h₂
  obtain ⟨_, _, cs, ⟨n, p⟩, r⟩ := a₂.hp _ _ e2
  have hs := strsAre_of ts cs r
  have hlen : ((ts.map strOf).map (·.length)) = ts.map List.length := by simp [strOf, PySem.Str.length, Function.comp_def]
  refine join_listW ⟨_, p, rfl, n, rfl⟩ hs (Nat.zero_le _) (by rw [hlen, List.length_map]; exact hz) fun t' k => ?_
  have e3 : Txt.join ⟨#[]⟩ (ts.map strOf) = strOf ts.flatten := (StrLaws.glued_eq_join _ _).trans (join_flat ts)
  rw [show (⟨(List.toArray [] : Array Nat)⟩ : Str) = ⟨#[]⟩ from rfl, e3]
  exact cpost.trans (k₁.trans k₂) (cpost.val (v := .str ts.flatten) a₂ _ ⟨_, rfl⟩ h₂)
end
end
section
open PySem PySem.W PyProof.Rows PySem.Calls PySem.Spec
set_option Elab.async false
set_option maxRecDepth 100000
set_option autoImplicit false
set_option linter.unusedVariables false
noncomputable def attrName : Nat → Option Str
  | 0 => some (Str.ofString "DIFF_DELETE") | 1 => some (Str.ofString "DIFF_INSERT") | 2 => some (Str.ofString "DIFF_EQUAL") | 3 => some (Str.ofString "Diff_Timeout") | _ => none
noncomputable def methName : Nat → Option Str
  | 0 => some (Str.ofString "diff_main") | 1 => some (Str.ofString "diff_compute") | 2 => some (Str.ofString "diff_bisect") | 3 => some (Str.ofString "diff_bisectSplit")
  | 4 => some (Str.ofString "diff_commonPrefix") | 5 => some (Str.ofString "diff_commonSuffix") | 6 => some (Str.ofString "diff_halfMatch") | 7 => some (Str.ofString "diff_cleanupMerge")
  | 8 => some (Str.ofString "diff_text1") | 9 => some (Str.ofString "diff_text2") | _ => none
structure Lk (prog : Program) (w : World) (cx : Cx) (sp : Sp) : Prop where
  attr : ∀ k nm, attrName k = some nm → ∀ σ s (Q : Value → Shared → Prop), At cx σ s → (∀ c n, Rep s.heap (sp.at' k) c → Q c { s with toks := n }) → wpAny (model prog w) cx.A (getAttr (.ref sp.tool) nm true) Q NoE s
  meth : ∀ k nm, methName k = some nm → ∃ f o fd, (∀ σ s, At cx σ s → s.heap.get? f = some o) ∧ o.data = .func fd ∧
    (∀ σ s pl (Q : Value × List Value → Shared → Prop), At cx σ s → Q (.ref f, [.ref sp.tool]) s → wpAny (model prog w) cx.A (getMethod (.ref sp.tool) nm pl) Q NoE s) ∧
    ∀ σ s vs cs P, At cx σ s → Reps s.heap vs cs → sp.Φ k vs σ.H P → wpAny (model prog w) cx.A (PySem.call (.ref f) (.ref sp.tool :: cs)) (cpost cx σ s fun v σ' => σ'.loc = σ.loc ∧ P v σ'.H) NoE s
section
variable {prog : Program} {w : World} {cx : Cx} {sp : Sp}
theorem SE.attr (ok : cx.Ok) (K : Lk prog w cx sp) {x nm : Str} {px pos : Pos} {k : Nat} (hx : cx.names[0]? = some x) (hn : attrName k = some nm)
    (he : eval (.Attribute (.Name x px) nm pos) cx.env = (do
      let o ← eval (.Name x px) cx.env
      standAt pos.atName
      let r ← holding [o] (getAttr o nm true)
      letTemporaryGo (.Name x px) o r
      pure r) := by with_unfolding_all rfl) : SE prog w cx sp (.Attribute (.Name x px) nm pos) (.attr k) := by
  intro σ s P a h
  obtain ⟨hs, h⟩ := h
  refine Attribute_Name_ (wpAny_Name (a.load ok hx hs fun c rc => ?_) (ok.dbg x (List.mem_of_getElem? hx))) he
  cases rc
  exact K.attr k nm hn σ s _ a fun c n rc => cpost.val a n rc h

/-- a call of a method of the tool -/
theorem call_ok (ok : cx.Ok) (K : Lk prog w cx sp) {x nm : Str} {px apos pos : Pos} {k : Nat} {e : Expr} {rest : List Expr} {pl : Sem Bool} {σ : St} {s : Shared} {P : V → St → Prop} (hx : cx.names[0]? = some x) (hn : methName k = some nm) (a : At cx σ s) (hs : selfOk sp σ)
    (hm : MC cx.env (.Name x px) nm apos pos (e :: rest) pl) (hst : starEach (e :: rest) cx.env = (false, eval e cx.env) :: starEach rest cx.env)
    (hargs : wpAny (model prog w) cx.A (spliced (backTo pos (starEach (e :: rest) cx.env))) (fun cs s₁ => ∃ σ₁ vs, At cx σ₁ s₁ ∧ Keep cx σ s σ₁ s₁ ∧ Reps s₁.heap vs cs ∧ sp.Φ k vs σ₁.H fun r H => P r ⟨σ₁.loc, H⟩) NoE s) :
    wpAny (model prog w) cx.A (eval (.Call (.Attribute (.Name x px) nm apos) (e :: rest) [] pos) cx.env) (cpost cx σ s P) NoE s := by
  obtain ⟨f, o, fd, hf, hd, hget, hcall⟩ := K.meth k nm hn
  refine MethodCall_ (wpAny_Name (a.load ok hx hs fun c rc => ?_) (ok.dbg x (List.mem_of_getElem? hx))) hm
  cases rc
  refine hget σ s pl _ a ?_
  rw [hst] at hargs ⊢
  refine callWith_function_kw (o := o) (fd := fd) (PySem.Calls.evalArgs_plain (wpAny_mono hargs ?_ noE))
  rintro cs s₁ ⟨σ₁, vs, a₁, k₁, rs, hΦ⟩
  refine ⟨⟨hf _ _ a₁, hd⟩, ?_⟩
  refine wpAny_mono (hcall σ₁ s₁ vs cs _ a₁ rs hΦ) ?_ noE
  rintro c s₂ ⟨v, σ₂, rv, a₂, k₂, e1, p⟩
  obtain ⟨l, H⟩ := σ₂
  dsimp only at e1; subst e1
  exact ⟨v, _, rv, a₂, k₁.trans k₂, p⟩
theorem SE.call1 (ok : cx.Ok) (K : Lk prog w cx sp) {x nm : Str} {px apos pos : Pos} {k : Nat} {e1 : Expr} {x1 : X} {pl : Sem Bool} (hx : cx.names[0]? = some x) (hn : methName k = some nm) (h1 : SE prog w cx sp e1 x1)
    (hm : MC cx.env (.Name x px) nm apos pos [e1] pl := by with_unfolding_all rfl) (s1 : starEach [e1] cx.env = (false, eval e1 cx.env) :: starEach [] cx.env := by rfl) :
    SE prog w cx sp (.Call (.Attribute (.Name x px) nm apos) [e1] [] pos) (.call1 k x1) := by
  intro σ s P a h
  obtain ⟨hs, h⟩ := h
  refine call_ok ok K hx hn a hs hm s1 ?_
  refine spliced_more (bindX (h1 σ s _ a h) fun u1 c1 σ1 t1 r1 a1 k1 q1 => spliced_none ?_) s1
  exact ⟨σ1, [u1], a1, k1, ⟨r1, trivial⟩, q1⟩
theorem SE.call2 (ok : cx.Ok) (K : Lk prog w cx sp) {x nm : Str} {px apos pos : Pos} {k : Nat} {e1 e2 : Expr} {x1 x2 : X} {pl : Sem Bool} (hx : cx.names[0]? = some x) (hn : methName k = some nm) (h1 : SE prog w cx sp e1 x1) (h2 : SE prog w cx sp e2 x2)
    (hm : MC cx.env (.Name x px) nm apos pos [e1, e2] pl := by with_unfolding_all rfl) (s1 : starEach [e1, e2] cx.env = (false, eval e1 cx.env) :: starEach [e2] cx.env := by rfl) (s2 : starEach [e2] cx.env = (false, eval e2 cx.env) :: starEach [] cx.env := by rfl) :
    SE prog w cx sp (.Call (.Attribute (.Name x px) nm apos) [e1, e2] [] pos) (.call2 k x1 x2) := by
  intro σ s P a h
  obtain ⟨hs, h⟩ := h
  refine call_ok ok K hx hn a hs hm s1 ?_
  refine spliced_more (bindX (h1 σ s _ a h) fun u1 c1 σ1 t1 r1 a1 k1 q1 => spliced_more (bindX (h2 σ1 t1 _ a1 q1) fun u2 c2 σ2 t2 r2 a2 k2 q2 => spliced_none ?_) s2) s1
  exact ⟨σ2, [u1, u2], a2, (k1.trans k2), ⟨r1.keep a1 k2, r2, trivial⟩, q2⟩
theorem SE.call3 (ok : cx.Ok) (K : Lk prog w cx sp) {x nm : Str} {px apos pos : Pos} {k : Nat} {e1 e2 e3 : Expr} {x1 x2 x3 : X} {pl : Sem Bool} (hx : cx.names[0]? = some x) (hn : methName k = some nm) (h1 : SE prog w cx sp e1 x1) (h2 : SE prog w cx sp e2 x2) (h3 : SE prog w cx sp e3 x3)
    (hm : MC cx.env (.Name x px) nm apos pos [e1, e2, e3] pl := by with_unfolding_all rfl) (s1 : starEach [e1, e2, e3] cx.env = (false, eval e1 cx.env) :: starEach [e2, e3] cx.env := by rfl) (s2 : starEach [e2, e3] cx.env = (false, eval e2 cx.env) :: starEach [e3] cx.env := by rfl) (s3 : starEach [e3] cx.env = (false, eval e3 cx.env) :: starEach [] cx.env := by rfl) :
    SE prog w cx sp (.Call (.Attribute (.Name x px) nm apos) [e1, e2, e3] [] pos) (.call3 k x1 x2 x3) := by
  intro σ s P a h
  obtain ⟨hs, h⟩ := h
  refine call_ok ok K hx hn a hs hm s1 ?_
  refine spliced_more (bindX (h1 σ s _ a h) fun u1 c1 σ1 t1 r1 a1 k1 q1 => spliced_more (bindX (h2 σ1 t1 _ a1 q1) fun u2 c2 σ2 t2 r2 a2 k2 q2 => spliced_more (bindX (h3 σ2 t2 _ a2 q2) fun u3 c3 σ3 t3 r3 a3 k3 q3 => spliced_none ?_) s3) s2) s1
  exact ⟨σ3, [u1, u2, u3], a3, (k1.trans (k2.trans k3)), ⟨r1.keep a1 (k2.trans k3), r2.keep a2 k3, r3, trivial⟩, q3⟩
theorem SE.call4 (ok : cx.Ok) (K : Lk prog w cx sp) {x nm : Str} {px apos pos : Pos} {k : Nat} {e1 e2 e3 e4 : Expr} {x1 x2 x3 x4 : X} {pl : Sem Bool} (hx : cx.names[0]? = some x) (hn : methName k = some nm) (h1 : SE prog w cx sp e1 x1) (h2 : SE prog w cx sp e2 x2) (h3 : SE prog w cx sp e3 x3) (h4 : SE prog w cx sp e4 x4)
    (hm : MC cx.env (.Name x px) nm apos pos [e1, e2, e3, e4] pl := by with_unfolding_all rfl) (s1 : starEach [e1, e2, e3, e4] cx.env = (false, eval e1 cx.env) :: starEach [e2, e3, e4] cx.env := by rfl) (s2 : starEach [e2, e3, e4] cx.env = (false, eval e2 cx.env) :: starEach [e3, e4] cx.env := by rfl) (s3 : starEach [e3, e4] cx.env = (false, eval e3 cx.env) :: starEach [e4] cx.env := by rfl) (s4 : starEach [e4] cx.env = (false, eval e4 cx.env) :: starEach [] cx.env := by rfl) :
    SE prog w cx sp (.Call (.Attribute (.Name x px) nm apos) [e1, e2, e3, e4] [] pos) (.call4 k x1 x2 x3 x4) := by
  intro σ s P a h
  obtain ⟨hs, h⟩ := h
  refine call_ok ok K hx hn a hs hm s1 ?_
  refine spliced_more (bindX (h1 σ s _ a h) fun u1 c1 σ1 t1 r1 a1 k1 q1 => spliced_more (bindX (h2 σ1 t1 _ a1 q1) fun u2 c2 σ2 t2 r2 a2 k2 q2 => spliced_more (bindX (h3 σ2 t2 _ a2 q2) fun u3 c3 σ3 t3 r3 a3 k3 q3 => spliced_more (bindX (h4 σ3 t3 _ a3 q3) fun u4 c4 σ4 t4 r4 a4 k4 q4 => spliced_none ?_) s4) s3) s2) s1
  exact ⟨σ4, [u1, u2, u3, u4], a4, (k1.trans (k2.trans (k3.trans k4))), ⟨r1.keep a1 (k2.trans (k3.trans k4)), r2.keep a2 (k3.trans k4), r3.keep a3 k4, r4, trivial⟩, q4⟩
theorem SE.call5 (ok : cx.Ok) (K : Lk prog w cx sp) {x nm : Str} {px apos pos : Pos} {k : Nat} {e1 e2 e3 e4 e5 : Expr} {x1 x2 x3 x4 x5 : X} {pl : Sem Bool} (hx : cx.names[0]? = some x) (hn : methName k = some nm) (h1 : SE prog w cx sp e1 x1) (h2 : SE prog w cx sp e2 x2) (h3 : SE prog w cx sp e3 x3) (h4 : SE prog w cx sp e4 x4) (h5 : SE prog w cx sp e5 x5)
    (hm : MC cx.env (.Name x px) nm apos pos [e1, e2, e3, e4, e5] pl := by with_unfolding_all rfl) (s1 : starEach [e1, e2, e3, e4, e5] cx.env = (false, eval e1 cx.env) :: starEach [e2, e3, e4, e5] cx.env := by rfl) (s2 : starEach [e2, e3, e4, e5] cx.env = (false, eval e2 cx.env) :: starEach [e3, e4, e5] cx.env := by rfl) (s3 : starEach [e3, e4, e5] cx.env = (false, eval e3 cx.env) :: starEach [e4, e5] cx.env := by rfl) (s4 : starEach [e4, e5] cx.env = (false, eval e4 cx.env) :: starEach [e5] cx.env := by rfl) (s5 : starEach [e5] cx.env = (false, eval e5 cx.env) :: starEach [] cx.env := by rfl) :
    SE prog w cx sp (.Call (.Attribute (.Name x px) nm apos) [e1, e2, e3, e4, e5] [] pos) (.call5 k x1 x2 x3 x4 x5) := by
  intro σ s P a h
  obtain ⟨hs, h⟩ := h
  refine call_ok ok K hx hn a hs hm s1 ?_
  refine spliced_more (bindX (h1 σ s _ a h) fun u1 c1 σ1 t1 r1 a1 k1 q1 => spliced_more (bindX (h2 σ1 t1 _ a1 q1) fun u2 c2 σ2 t2 r2 a2 k2 q2 => spliced_more (bindX (h3 σ2 t2 _ a2 q2) fun u3 c3 σ3 t3 r3 a3 k3 q3 => spliced_more (bindX (h4 σ3 t3 _ a3 q3) fun u4 c4 σ4 t4 r4 a4 k4 q4 => spliced_more (bindX (h5 σ4 t4 _ a4 q4) fun u5 c5 σ5 t5 r5 a5 k5 q5 => spliced_none ?_) s5) s4) s3) s2) s1
  exact ⟨σ5, [u1, u2, u3, u4, u5], a5, (k1.trans (k2.trans (k3.trans (k4.trans k5)))), ⟨r1.keep a1 (k2.trans (k3.trans (k4.trans k5))), r2.keep a2 (k3.trans (k4.trans k5)), r3.keep a3 (k4.trans k5), r4.keep a4 k5, r5, trivial⟩, q5⟩
end
end
section
open PySem PySem.W PyProof.Rows PySem.Calls PySem.Spec
set_option Elab.async false
set_option maxRecDepth 100000
set_option maxHeartbeats 4000000
set_option autoImplicit false
set_option linter.unusedVariables false
noncomputable def clsBody : List Stmt → List Stmt
  | .ClassDef _ _ _ b _ _ _ _ _ _ _ :: _ => b
  | _ :: r => clsBody r
  | [] => []
noncomputable def fnIn (f : Str) : List Stmt → Option (Arguments × List Stmt × Scope)
  | .FunctionDef n a b _ _ _ sc _ _ _ :: r => if n = f then some (a, b, sc) else fnIn f r
  | _ :: r => fnIn f r
  | [] => none
noncomputable def fnOf' (f : Str) : Arguments × List Stmt × Scope := (fnIn f (clsBody PySem.Challenge.pw_im0118_01.main.body)).getD default
noncomputable def bodyOf (f : Str) : List Stmt := (fnOf' f).2.1
noncomputable def scopeOf (f : Str) : Scope := (fnOf' f).2.2
noncomputable def mkCx (A : Around) (qn : Str) (L fa : Addr) (cd : Value) (h₀ : Heap) (s₀ : Shared) (f : Str) (names : List Str) (ex : List (Addr × Obj)) : Cx := ⟨A, qn, scopeOf f, L, fa, cd, h₀, s₀, names, ex⟩
section
variable {prog : Program} {w : World} {sp : Sp}
theorem ss_commonPrefix {A : Around} {qn : Str} {L fa : Addr} {cd : Value} {h₀ : Heap} {s₀ : Shared} {ex : List (Addr × Obj)} (ok : (mkCx A qn L fa cd h₀ s₀ (Str.ofString "diff_commonPrefix") nm_commonPrefix ex).Ok) (G : Globs prog w (mkCx A qn L fa cd h₀ s₀ (Str.ofString "diff_commonPrefix") nm_commonPrefix ex)) (K : Lk prog w (mkCx A qn L fa cd h₀ s₀ (Str.ofString "diff_commonPrefix") nm_commonPrefix ex) sp) :
    SS prog w (mkCx A qn L fa cd h₀ s₀ (Str.ofString "diff_commonPrefix") nm_commonPrefix ex) sp (bodyOf (Str.ofString "diff_commonPrefix")) S_commonPrefix :=
  (SS.cons (S1.ite (SI.bool (SAll.orCons (SI.not (SI.val (SE.var ok rfl))) (SAll.orCons (SI.not (SI.val (SE.var ok rfl))) (SAll.orCons (SI.cmp (SE.item (SE.var ok rfl) SE.int) (SE.item (SE.var ok rfl) SE.int)) SAll.orNil))))
  (SS.last (S1.ret SE.int))
  SS.nil)
  (SS.cons (S1.asg ok rfl SE.int)
  (SS.cons (S1.asg ok rfl (SE.min ok G (SE.len G (SE.var ok rfl)) (SE.len G (SE.var ok rfl))))
  (SS.cons (S1.asg ok rfl (SE.var ok rfl))
  (SS.cons (S1.asg ok rfl SE.int)
  (SS.cons (S1.whil (SI.cmp (SE.var ok rfl) (SE.var ok rfl))
  (SS.cons (S1.ite (SI.cmp (SE.slice (SE.var ok rfl) (SO.yes (SE.var ok rfl)) (SO.yes (SE.var ok rfl))) (SE.slice (SE.var ok rfl) (SO.yes (SE.var ok rfl)) (SO.yes (SE.var ok rfl))))
  (SS.cons (S1.asg ok rfl (SE.var ok rfl))
  (SS.last (S1.asg ok rfl (SE.var ok rfl))))
  (SS.last (S1.asg ok rfl (SE.var ok rfl))))
  (SS.last (S1.asg ok rfl (SE.bin ok_add (SE.bin ok_fdiv (SE.bin ok_sub (SE.var ok rfl) (SE.var ok rfl)) SE.int) (SE.var ok rfl))))))
  (SS.last (S1.ret (SE.var ok rfl)))))))))

theorem ss_commonSuffix {A : Around} {qn : Str} {L fa : Addr} {cd : Value} {h₀ : Heap} {s₀ : Shared} {ex : List (Addr × Obj)} (ok : (mkCx A qn L fa cd h₀ s₀ (Str.ofString "diff_commonSuffix") nm_commonSuffix ex).Ok) (G : Globs prog w (mkCx A qn L fa cd h₀ s₀ (Str.ofString "diff_commonSuffix") nm_commonSuffix ex)) (K : Lk prog w (mkCx A qn L fa cd h₀ s₀ (Str.ofString "diff_commonSuffix") nm_commonSuffix ex) sp) :
    SS prog w (mkCx A qn L fa cd h₀ s₀ (Str.ofString "diff_commonSuffix") nm_commonSuffix ex) sp (bodyOf (Str.ofString "diff_commonSuffix")) S_commonSuffix :=
  (SS.cons (S1.ite (SI.bool (SAll.orCons (SI.not (SI.val (SE.var ok rfl))) (SAll.orCons (SI.not (SI.val (SE.var ok rfl))) (SAll.orCons (SI.cmp (SE.item (SE.var ok rfl) (SE.neg SE.int)) (SE.item (SE.var ok rfl) (SE.neg SE.int))) SAll.orNil))))
  (SS.last (S1.ret SE.int))
  SS.nil)
  (SS.cons (S1.asg ok rfl SE.int)
  (SS.cons (S1.asg ok rfl (SE.min ok G (SE.len G (SE.var ok rfl)) (SE.len G (SE.var ok rfl))))
  (SS.cons (S1.asg ok rfl (SE.var ok rfl))
  (SS.cons (S1.asg ok rfl SE.int)
  (SS.cons (S1.whil (SI.cmp (SE.var ok rfl) (SE.var ok rfl))
  (SS.cons (S1.ite (SI.cmp (SE.slice (SE.var ok rfl) (SO.yes (SE.neg (SE.var ok rfl))) (SO.yes (SE.bin ok_sub (SE.len G (SE.var ok rfl)) (SE.var ok rfl)))) (SE.slice (SE.var ok rfl) (SO.yes (SE.neg (SE.var ok rfl))) (SO.yes (SE.bin ok_sub (SE.len G (SE.var ok rfl)) (SE.var ok rfl)))))
  (SS.cons (S1.asg ok rfl (SE.var ok rfl))
  (SS.last (S1.asg ok rfl (SE.var ok rfl))))
  (SS.last (S1.asg ok rfl (SE.var ok rfl))))
  (SS.last (S1.asg ok rfl (SE.bin ok_add (SE.bin ok_fdiv (SE.bin ok_sub (SE.var ok rfl) (SE.var ok rfl)) SE.int) (SE.var ok rfl))))))
  (SS.last (S1.ret (SE.var ok rfl)))))))))

theorem ss_bisectSplit {A : Around} {qn : Str} {L fa : Addr} {cd : Value} {h₀ : Heap} {s₀ : Shared} {ex : List (Addr × Obj)} (ok : (mkCx A qn L fa cd h₀ s₀ (Str.ofString "diff_bisectSplit") nm_bisectSplit ex).Ok) (G : Globs prog w (mkCx A qn L fa cd h₀ s₀ (Str.ofString "diff_bisectSplit") nm_bisectSplit ex)) (K : Lk prog w (mkCx A qn L fa cd h₀ s₀ (Str.ofString "diff_bisectSplit") nm_bisectSplit ex) sp) :
    SS prog w (mkCx A qn L fa cd h₀ s₀ (Str.ofString "diff_bisectSplit") nm_bisectSplit ex) sp (bodyOf (Str.ofString "diff_bisectSplit")) S_bisectSplit :=
  (SS.cons (S1.asg ok rfl (SE.slice (SE.var ok rfl) SO.no (SO.yes (SE.var ok rfl))))
  (SS.cons (S1.asg ok rfl (SE.slice (SE.var ok rfl) SO.no (SO.yes (SE.var ok rfl))))
  (SS.cons (S1.asg ok rfl (SE.slice (SE.var ok rfl) (SO.yes (SE.var ok rfl)) SO.no))
  (SS.cons (S1.asg ok rfl (SE.slice (SE.var ok rfl) (SO.yes (SE.var ok rfl)) SO.no))
  (SS.cons (S1.asg ok rfl (SE.call4 ok K rfl rfl (SE.var ok rfl) (SE.var ok rfl) SE.bool (SE.var ok rfl)))
  (SS.cons (S1.asg ok rfl (SE.call4 ok K rfl rfl (SE.var ok rfl) (SE.var ok rfl) SE.bool (SE.var ok rfl)))
  (SS.last (S1.ret (SE.bin ok_add (SE.var ok rfl) (SE.var ok rfl))))))))))

theorem ss_bisect {A : Around} {qn : Str} {L fa : Addr} {cd : Value} {h₀ : Heap} {s₀ : Shared} {ex : List (Addr × Obj)} (ok : (mkCx A qn L fa cd h₀ s₀ (Str.ofString "diff_bisect") nm_bisect ex).Ok) (G : Globs prog w (mkCx A qn L fa cd h₀ s₀ (Str.ofString "diff_bisect") nm_bisect ex)) (K : Lk prog w (mkCx A qn L fa cd h₀ s₀ (Str.ofString "diff_bisect") nm_bisect ex) sp) :
    SS prog w (mkCx A qn L fa cd h₀ s₀ (Str.ofString "diff_bisect") nm_bisect ex) sp (bodyOf (Str.ofString "diff_bisect")) S_bisect :=
  (SS.cons (S1.asg ok rfl (SE.len G (SE.var ok rfl)))
  (SS.cons (S1.asg ok rfl (SE.len G (SE.var ok rfl)))
  (SS.cons (S1.asg ok rfl (SE.bin ok_fdiv (SE.bin ok_add (SE.bin ok_add (SE.var ok rfl) (SE.var ok rfl)) SE.int) SE.int))
  (SS.cons (S1.asg ok rfl (SE.var ok rfl))
  (SS.cons (S1.asg ok rfl (SE.bin ok_mul SE.int (SE.var ok rfl)))
  (SS.cons (S1.asg ok rfl (SE.bin ok_mul (SE.list1 (SE.neg SE.int)) (SE.var ok rfl)))
  (SS.cons (S1.setItem (SE.var ok rfl) (SE.bin ok_add (SE.var ok rfl) SE.int) SE.int)
  (SS.cons (S1.asg ok rfl (SE.slice (SE.var ok rfl) SO.no SO.no))
  (SS.cons (S1.asg ok rfl (SE.bin ok_sub (SE.var ok rfl) (SE.var ok rfl)))
  (SS.cons (S1.asg ok rfl (SE.cmp (SE.bin ok_mod (SE.var ok rfl) SE.int) SE.int))
  (SS.cons (S1.asg ok rfl SE.int)
  (SS.cons (S1.asg ok rfl SE.int)
  (SS.cons (S1.asg ok rfl SE.int)
  (SS.cons (S1.asg ok rfl SE.int)
  (SS.cons (S1.forr1 ok G rfl (SE.var ok rfl)
  (SS.cons (S1.forr3 ok G (c := 2) rfl (SE.bin ok_add (SE.neg (SE.var ok rfl)) (SE.var ok rfl)) (SE.bin ok_sub (SE.bin ok_add (SE.var ok rfl) SE.int) (SE.var ok rfl))
  (SS.cons (S1.asg ok rfl (SE.bin ok_add (SE.var ok rfl) (SE.var ok rfl)))
  (SS.cons (S1.ite (SI.bool (SAll.orCons (SI.cmp (SE.var ok rfl) (SE.neg (SE.var ok rfl))) (SAll.orCons (SI.bool (SAll.andCons (SI.cmp (SE.var ok rfl) (SE.var ok rfl)) (SAll.andCons (SI.cmp (SE.item (SE.var ok rfl) (SE.bin ok_sub (SE.var ok rfl) SE.int)) (SE.item (SE.var ok rfl) (SE.bin ok_add (SE.var ok rfl) SE.int))) SAll.andNil))) SAll.orNil)))
  (SS.last (S1.asg ok rfl (SE.item (SE.var ok rfl) (SE.bin ok_add (SE.var ok rfl) SE.int))))
  (SS.last (S1.asg ok rfl (SE.bin ok_add (SE.item (SE.var ok rfl) (SE.bin ok_sub (SE.var ok rfl) SE.int)) SE.int))))
  (SS.cons (S1.asg ok rfl (SE.bin ok_sub (SE.var ok rfl) (SE.var ok rfl)))
  (SS.cons (S1.whil (SI.bool (SAll.andCons (SI.cmp (SE.var ok rfl) (SE.var ok rfl)) (SAll.andCons (SI.cmp (SE.var ok rfl) (SE.var ok rfl)) (SAll.andCons (SI.cmp (SE.item (SE.var ok rfl) (SE.var ok rfl)) (SE.item (SE.var ok rfl) (SE.var ok rfl))) SAll.andNil))))
  (SS.cons (S1.aug ok rfl SE.int)
  (SS.last (S1.aug ok rfl SE.int))))
  (SS.cons (S1.setItem (SE.var ok rfl) (SE.var ok rfl) (SE.var ok rfl))
  (SS.last (S1.ite (SI.cmp (SE.var ok rfl) (SE.var ok rfl))
  (SS.last (S1.aug ok rfl SE.int))
  (SS.last (S1.ite (SI.cmp (SE.var ok rfl) (SE.var ok rfl))
  (SS.last (S1.aug ok rfl SE.int))
  (SS.last (S1.ite (SI.val (SE.var ok rfl))
  (SS.cons (S1.asg ok rfl (SE.bin ok_sub (SE.bin ok_add (SE.var ok rfl) (SE.var ok rfl)) (SE.var ok rfl)))
  (SS.last (S1.ite (SI.bool (SAll.andCons (SI.cmp (SE.var ok rfl) SE.int) (SAll.andCons (SI.cmp (SE.var ok rfl) (SE.var ok rfl)) (SAll.andCons (SI.cmp (SE.item (SE.var ok rfl) (SE.var ok rfl)) (SE.neg SE.int)) SAll.andNil))))
  (SS.cons (S1.asg ok rfl (SE.bin ok_sub (SE.var ok rfl) (SE.item (SE.var ok rfl) (SE.var ok rfl))))
  (SS.last (S1.ite (SI.cmp (SE.var ok rfl) (SE.var ok rfl))
  (SS.last (S1.ret (SE.call5 ok K rfl rfl (SE.var ok rfl) (SE.var ok rfl) (SE.var ok rfl) (SE.var ok rfl) (SE.var ok rfl))))
  SS.nil)))
  SS.nil)))
  SS.nil))))))))))) (by decide))
  (SS.last (S1.forr3 ok G (c := 2) rfl (SE.bin ok_add (SE.neg (SE.var ok rfl)) (SE.var ok rfl)) (SE.bin ok_sub (SE.bin ok_add (SE.var ok rfl) SE.int) (SE.var ok rfl))
  (SS.cons (S1.asg ok rfl (SE.bin ok_add (SE.var ok rfl) (SE.var ok rfl)))
  (SS.cons (S1.ite (SI.bool (SAll.orCons (SI.cmp (SE.var ok rfl) (SE.neg (SE.var ok rfl))) (SAll.orCons (SI.bool (SAll.andCons (SI.cmp (SE.var ok rfl) (SE.var ok rfl)) (SAll.andCons (SI.cmp (SE.item (SE.var ok rfl) (SE.bin ok_sub (SE.var ok rfl) SE.int)) (SE.item (SE.var ok rfl) (SE.bin ok_add (SE.var ok rfl) SE.int))) SAll.andNil))) SAll.orNil)))
  (SS.last (S1.asg ok rfl (SE.item (SE.var ok rfl) (SE.bin ok_add (SE.var ok rfl) SE.int))))
  (SS.last (S1.asg ok rfl (SE.bin ok_add (SE.item (SE.var ok rfl) (SE.bin ok_sub (SE.var ok rfl) SE.int)) SE.int))))
  (SS.cons (S1.asg ok rfl (SE.bin ok_sub (SE.var ok rfl) (SE.var ok rfl)))
  (SS.cons (S1.whil (SI.bool (SAll.andCons (SI.cmp (SE.var ok rfl) (SE.var ok rfl)) (SAll.andCons (SI.cmp (SE.var ok rfl) (SE.var ok rfl)) (SAll.andCons (SI.cmp (SE.item (SE.var ok rfl) (SE.bin ok_sub (SE.neg (SE.var ok rfl)) SE.int)) (SE.item (SE.var ok rfl) (SE.bin ok_sub (SE.neg (SE.var ok rfl)) SE.int))) SAll.andNil))))
  (SS.cons (S1.aug ok rfl SE.int)
  (SS.last (S1.aug ok rfl SE.int))))
  (SS.cons (S1.setItem (SE.var ok rfl) (SE.var ok rfl) (SE.var ok rfl))
  (SS.last (S1.ite (SI.cmp (SE.var ok rfl) (SE.var ok rfl))
  (SS.last (S1.aug ok rfl SE.int))
  (SS.last (S1.ite (SI.cmp (SE.var ok rfl) (SE.var ok rfl))
  (SS.last (S1.aug ok rfl SE.int))
  (SS.last (S1.ite (SI.not (SI.val (SE.var ok rfl)))
  (SS.cons (S1.asg ok rfl (SE.bin ok_sub (SE.bin ok_add (SE.var ok rfl) (SE.var ok rfl)) (SE.var ok rfl)))
  (SS.last (S1.ite (SI.bool (SAll.andCons (SI.cmp (SE.var ok rfl) SE.int) (SAll.andCons (SI.cmp (SE.var ok rfl) (SE.var ok rfl)) (SAll.andCons (SI.cmp (SE.item (SE.var ok rfl) (SE.var ok rfl)) (SE.neg SE.int)) SAll.andNil))))
  (SS.cons (S1.asg ok rfl (SE.item (SE.var ok rfl) (SE.var ok rfl)))
  (SS.cons (S1.asg ok rfl (SE.bin ok_sub (SE.bin ok_add (SE.var ok rfl) (SE.var ok rfl)) (SE.var ok rfl)))
  (SS.cons (S1.asg ok rfl (SE.bin ok_sub (SE.var ok rfl) (SE.var ok rfl)))
  (SS.last (S1.ite (SI.cmp (SE.var ok rfl) (SE.var ok rfl))
  (SS.last (S1.ret (SE.call5 ok K rfl rfl (SE.var ok rfl) (SE.var ok rfl) (SE.var ok rfl) (SE.var ok rfl) (SE.var ok rfl))))
  SS.nil)))))
  SS.nil)))
  SS.nil))))))))))) (by decide)))))
  (SS.last (S1.ret (SE.list2 (SE.tup (SE.attr ok K rfl rfl) (SE.var ok rfl)) (SE.tup (SE.attr ok K rfl rfl) (SE.var ok rfl))))))))))))))))))))

theorem ss_compute {A : Around} {qn : Str} {L fa : Addr} {cd : Value} {h₀ : Heap} {s₀ : Shared} {ex : List (Addr × Obj)} (ok : (mkCx A qn L fa cd h₀ s₀ (Str.ofString "diff_compute") nm_compute ex).Ok) (G : Globs prog w (mkCx A qn L fa cd h₀ s₀ (Str.ofString "diff_compute") nm_compute ex)) (K : Lk prog w (mkCx A qn L fa cd h₀ s₀ (Str.ofString "diff_compute") nm_compute ex) sp) :
    SS prog w (mkCx A qn L fa cd h₀ s₀ (Str.ofString "diff_compute") nm_compute ex) sp (bodyOf (Str.ofString "diff_compute")) S_compute :=
  (SS.cons (S1.ite (SI.not (SI.val (SE.var ok rfl)))
  (SS.last (S1.ret (SE.list1 (SE.tup (SE.attr ok K rfl rfl) (SE.var ok rfl)))))
  SS.nil)
  (SS.cons (S1.ite (SI.not (SI.val (SE.var ok rfl)))
  (SS.last (S1.ret (SE.list1 (SE.tup (SE.attr ok K rfl rfl) (SE.var ok rfl)))))
  SS.nil)
  (SS.cons (S1.ite (SI.cmp (SE.len G (SE.var ok rfl)) (SE.len G (SE.var ok rfl)))
  (SS.last (S1.asg2 ok (i := 10) (j := 11) rfl rfl (by decide) (SE.var ok rfl) (SE.var ok rfl)))
  (SS.last (S1.asg2 ok (i := 11) (j := 10) rfl rfl (by decide) (SE.var ok rfl) (SE.var ok rfl))))
  (SS.cons (S1.asg ok rfl (SE.find (SE.var ok rfl) (SE.var ok rfl)))
  (SS.cons (S1.ite (SI.cmp (SE.var ok rfl) (SE.neg SE.int))
  (SS.cons (S1.asg ok rfl (SE.list3 (SE.tup (SE.attr ok K rfl rfl) (SE.slice (SE.var ok rfl) SO.no (SO.yes (SE.var ok rfl)))) (SE.tup (SE.attr ok K rfl rfl) (SE.var ok rfl)) (SE.tup (SE.attr ok K rfl rfl) (SE.slice (SE.var ok rfl) (SO.yes (SE.bin ok_add (SE.var ok rfl) (SE.len G (SE.var ok rfl)))) SO.no))))
  (SS.cons (S1.ite (SI.cmp (SE.len G (SE.var ok rfl)) (SE.len G (SE.var ok rfl)))
  (SS.cons (S1.setItem (SE.var ok rfl) SE.int (SE.tup (SE.attr ok K rfl rfl) (SE.item (SE.item (SE.var ok rfl) SE.int) SE.int)))
  (SS.last (S1.setItem (SE.var ok rfl) SE.int (SE.tup (SE.attr ok K rfl rfl) (SE.item (SE.item (SE.var ok rfl) SE.int) SE.int)))))
  SS.nil)
  (SS.last (S1.ret (SE.var ok rfl)))))
  SS.nil)
  (SS.cons (S1.ite (SI.cmp (SE.len G (SE.var ok rfl)) SE.int)
  (SS.last (S1.ret (SE.list2 (SE.tup (SE.attr ok K rfl rfl) (SE.var ok rfl)) (SE.tup (SE.attr ok K rfl rfl) (SE.var ok rfl)))))
  SS.nil)
  (SS.cons (S1.asg ok rfl (SE.call2 ok K rfl rfl (SE.var ok rfl) (SE.var ok rfl)))
  (SS.cons (S1.ite (SI.val (SE.var ok rfl))
  SS.bad
  SS.nil)
  (SS.cons (S1.ite (SI.bool (SAll.andCons (SI.val (SE.var ok rfl)) (SAll.andCons (SI.cmp (SE.len G (SE.var ok rfl)) SE.int) (SAll.andCons (SI.cmp (SE.len G (SE.var ok rfl)) SE.int) SAll.andNil))))
  SS.bad
  SS.nil)
  (SS.last (S1.ret (SE.call3 ok K rfl rfl (SE.var ok rfl) (SE.var ok rfl) (SE.var ok rfl)))))))))))))

theorem ss_main {A : Around} {qn : Str} {L fa : Addr} {cd : Value} {h₀ : Heap} {s₀ : Shared} {ex : List (Addr × Obj)} (ok : (mkCx A qn L fa cd h₀ s₀ (Str.ofString "diff_main") nm_main ex).Ok) (G : Globs prog w (mkCx A qn L fa cd h₀ s₀ (Str.ofString "diff_main") nm_main ex)) (K : Lk prog w (mkCx A qn L fa cd h₀ s₀ (Str.ofString "diff_main") nm_main ex) sp) :
    SS prog w (mkCx A qn L fa cd h₀ s₀ (Str.ofString "diff_main") nm_main ex) sp (bodyOf (Str.ofString "diff_main")) S_main :=
  (SS.cons (S1.ite (SI.bool (SAll.orCons (SI.cmp (SE.var ok rfl) SE.none) (SAll.orCons (SI.cmp (SE.var ok rfl) SE.none) SAll.orNil)))
  SS.bad
  SS.nil)
  (SS.cons (S1.ite (SI.cmp (SE.var ok rfl) (SE.var ok rfl))
  (SS.cons (S1.ite (SI.val (SE.var ok rfl))
  (SS.last (S1.ret (SE.list1 (SE.tup (SE.attr ok K rfl rfl) (SE.var ok rfl)))))
  SS.nil)
  (SS.last (S1.ret SE.list0)))
  SS.nil)
  (SS.cons (S1.asg ok rfl (SE.call2 ok K rfl rfl (SE.var ok rfl) (SE.var ok rfl)))
  (SS.cons (S1.asg ok rfl (SE.slice (SE.var ok rfl) SO.no (SO.yes (SE.var ok rfl))))
  (SS.cons (S1.asg ok rfl (SE.slice (SE.var ok rfl) (SO.yes (SE.var ok rfl)) SO.no))
  (SS.cons (S1.asg ok rfl (SE.slice (SE.var ok rfl) (SO.yes (SE.var ok rfl)) SO.no))
  (SS.cons (S1.asg ok rfl (SE.call2 ok K rfl rfl (SE.var ok rfl) (SE.var ok rfl)))
  (SS.cons (S1.ite (SI.cmp (SE.var ok rfl) SE.int)
  (SS.last (S1.asg ok rfl (SE.str (by decide))))
  (SS.cons (S1.asg ok rfl (SE.slice (SE.var ok rfl) (SO.yes (SE.neg (SE.var ok rfl))) SO.no))
  (SS.cons (S1.asg ok rfl (SE.slice (SE.var ok rfl) SO.no (SO.yes (SE.neg (SE.var ok rfl)))))
  (SS.last (S1.asg ok rfl (SE.slice (SE.var ok rfl) SO.no (SO.yes (SE.neg (SE.var ok rfl)))))))))
  (SS.cons (S1.asg ok rfl (SE.call4 ok K rfl rfl (SE.var ok rfl) (SE.var ok rfl) (SE.var ok rfl) (SE.var ok rfl)))
  (SS.cons (S1.ite (SI.val (SE.var ok rfl))
  (SS.last (S1.setSlice (SE.var ok rfl) SO.no (SO.yes SE.int) (SE.list1 (SE.tup (SE.attr ok K rfl rfl) (SE.var ok rfl)))))
  SS.nil)
  (SS.cons (S1.ite (SI.val (SE.var ok rfl))
  (SS.last (S1.expr (SE.append (SE.var ok rfl) (SE.tup (SE.attr ok K rfl rfl) (SE.var ok rfl)))))
  SS.nil)
  (SS.cons (S1.expr (SE.call1 ok K rfl rfl (SE.var ok rfl)))
  (SS.last (S1.ret (SE.var ok rfl)))))))))))))))

theorem ss_cleanupMerge {A : Around} {qn : Str} {L fa : Addr} {cd : Value} {h₀ : Heap} {s₀ : Shared} {ex : List (Addr × Obj)} (ok : (mkCx A qn L fa cd h₀ s₀ (Str.ofString "diff_cleanupMerge") nm_cleanupMerge ex).Ok) (G : Globs prog w (mkCx A qn L fa cd h₀ s₀ (Str.ofString "diff_cleanupMerge") nm_cleanupMerge ex)) (K : Lk prog w (mkCx A qn L fa cd h₀ s₀ (Str.ofString "diff_cleanupMerge") nm_cleanupMerge ex) sp) :
    SS prog w (mkCx A qn L fa cd h₀ s₀ (Str.ofString "diff_cleanupMerge") nm_cleanupMerge ex) sp (bodyOf (Str.ofString "diff_cleanupMerge")) S_cleanupMerge :=
  (SS.cons (S1.expr (SE.append (SE.var ok rfl) (SE.tup (SE.attr ok K rfl rfl) (SE.str (by decide)))))
  (SS.cons (S1.asg ok rfl SE.int)
  (SS.cons (S1.asg ok rfl SE.int)
  (SS.cons (S1.asg ok rfl SE.int)
  (SS.cons (S1.asg ok rfl (SE.str (by decide)))
  (SS.cons (S1.asg ok rfl (SE.str (by decide)))
  (SS.cons (S1.whil (SI.cmp (SE.var ok rfl) (SE.len G (SE.var ok rfl)))
  (SS.last (S1.ite (SI.cmp (SE.item (SE.item (SE.var ok rfl) (SE.var ok rfl)) SE.int) (SE.attr ok K rfl rfl))
  (SS.cons (S1.aug ok rfl SE.int)
  (SS.cons (S1.aug ok rfl (SE.item (SE.item (SE.var ok rfl) (SE.var ok rfl)) SE.int))
  (SS.last (S1.aug ok rfl SE.int))))
  (SS.last (S1.ite (SI.cmp (SE.item (SE.item (SE.var ok rfl) (SE.var ok rfl)) SE.int) (SE.attr ok K rfl rfl))
  (SS.cons (S1.aug ok rfl SE.int)
  (SS.cons (S1.aug ok rfl (SE.item (SE.item (SE.var ok rfl) (SE.var ok rfl)) SE.int))
  (SS.last (S1.aug ok rfl SE.int))))
  (SS.last (S1.ite (SI.cmp (SE.item (SE.item (SE.var ok rfl) (SE.var ok rfl)) SE.int) (SE.attr ok K rfl rfl))
  (SS.cons (S1.ite (SI.cmp (SE.bin ok_add (SE.var ok rfl) (SE.var ok rfl)) SE.int)
  (SS.cons (S1.ite (SI.bool (SAll.andCons (SI.cmp (SE.var ok rfl) SE.int) (SAll.andCons (SI.cmp (SE.var ok rfl) SE.int) SAll.andNil)))
  (SS.cons (S1.asg ok rfl (SE.call2 ok K rfl rfl (SE.var ok rfl) (SE.var ok rfl)))
  (SS.cons (S1.ite (SI.cmp (SE.var ok rfl) SE.int)
  SS.bad
  SS.nil)
  (SS.cons (S1.asg ok rfl (SE.call2 ok K rfl rfl (SE.var ok rfl) (SE.var ok rfl)))
  (SS.last (S1.ite (SI.cmp (SE.var ok rfl) SE.int)
  SS.bad
  SS.nil)))))
  SS.nil)
  (SS.cons (S1.asg ok rfl SE.list0)
  (SS.cons (S1.ite (SI.cmp (SE.len G (SE.var ok rfl)) SE.int)
  (SS.last (S1.expr (SE.append (SE.var ok rfl) (SE.tup (SE.attr ok K rfl rfl) (SE.var ok rfl)))))
  SS.nil)
  (SS.cons (S1.ite (SI.cmp (SE.len G (SE.var ok rfl)) SE.int)
  (SS.last (S1.expr (SE.append (SE.var ok rfl) (SE.tup (SE.attr ok K rfl rfl) (SE.var ok rfl)))))
  SS.nil)
  (SS.cons (S1.aug ok rfl (SE.bin ok_add (SE.var ok rfl) (SE.var ok rfl)))
  (SS.cons (S1.setSlice (SE.var ok rfl) (SO.yes (SE.var ok rfl)) (SO.yes (SE.bin ok_add (SE.bin ok_add (SE.var ok rfl) (SE.var ok rfl)) (SE.var ok rfl))) (SE.var ok rfl))
  (SS.last (S1.aug ok rfl (SE.bin ok_add (SE.len G (SE.var ok rfl)) SE.int)))))))))
  (SS.last (S1.ite (SI.bool (SAll.andCons (SI.cmp (SE.var ok rfl) SE.int) (SAll.andCons (SI.cmp (SE.item (SE.item (SE.var ok rfl) (SE.bin ok_sub (SE.var ok rfl) SE.int)) SE.int) (SE.attr ok K rfl rfl)) SAll.andNil)))
  (SS.cons (S1.setItem (SE.var ok rfl) (SE.bin ok_sub (SE.var ok rfl) SE.int) (SE.tup (SE.item (SE.item (SE.var ok rfl) (SE.bin ok_sub (SE.var ok rfl) SE.int)) SE.int) (SE.bin ok_add (SE.item (SE.item (SE.var ok rfl) (SE.bin ok_sub (SE.var ok rfl) SE.int)) SE.int) (SE.item (SE.item (SE.var ok rfl) (SE.var ok rfl)) SE.int))))
  (SS.last (S1.delItem (SE.var ok rfl) (SE.var ok rfl))))
  (SS.last (S1.aug ok rfl SE.int)))))
  (SS.cons (S1.asg ok rfl SE.int)
  (SS.cons (S1.asg ok rfl SE.int)
  (SS.cons (S1.asg ok rfl (SE.str (by decide)))
  (SS.last (S1.asg ok rfl (SE.str (by decide))))))))
  SS.nil)))))))
  (SS.cons (S1.ite (SI.cmp (SE.item (SE.item (SE.var ok rfl) (SE.neg SE.int)) SE.int) (SE.str (by decide)))
  (SS.last (S1.expr (SE.pop (SE.var ok rfl))))
  SS.nil)
  (SS.cons (S1.asg ok rfl SE.bool)
  (SS.cons (S1.asg ok rfl SE.int)
  (SS.cons (S1.whil (SI.cmp (SE.var ok rfl) (SE.bin ok_sub (SE.len G (SE.var ok rfl)) SE.int))
  (SS.cons (S1.ite (SI.bool (SAll.andCons (SI.cmp (SE.item (SE.item (SE.var ok rfl) (SE.bin ok_sub (SE.var ok rfl) SE.int)) SE.int) (SE.attr ok K rfl rfl)) (SAll.andCons (SI.cmp (SE.item (SE.item (SE.var ok rfl) (SE.bin ok_add (SE.var ok rfl) SE.int)) SE.int) (SE.attr ok K rfl rfl)) SAll.andNil)))
  (SS.last (S1.ite (SI.val (SE.endsw (SE.item (SE.item (SE.var ok rfl) (SE.var ok rfl)) SE.int) (SE.item (SE.item (SE.var ok rfl) (SE.bin ok_sub (SE.var ok rfl) SE.int)) SE.int)))
  (SS.cons (S1.ite (SI.cmp (SE.item (SE.item (SE.var ok rfl) (SE.bin ok_sub (SE.var ok rfl) SE.int)) SE.int) (SE.str (by decide)))
  (SS.cons (S1.setItem (SE.var ok rfl) (SE.var ok rfl) (SE.tup (SE.item (SE.item (SE.var ok rfl) (SE.var ok rfl)) SE.int) (SE.bin ok_add (SE.item (SE.item (SE.var ok rfl) (SE.bin ok_sub (SE.var ok rfl) SE.int)) SE.int) (SE.slice (SE.item (SE.item (SE.var ok rfl) (SE.var ok rfl)) SE.int) SO.no (SO.yes (SE.neg (SE.len G (SE.item (SE.item (SE.var ok rfl) (SE.bin ok_sub (SE.var ok rfl) SE.int)) SE.int))))))))
  (SS.last (S1.setItem (SE.var ok rfl) (SE.bin ok_add (SE.var ok rfl) SE.int) (SE.tup (SE.item (SE.item (SE.var ok rfl) (SE.bin ok_add (SE.var ok rfl) SE.int)) SE.int) (SE.bin ok_add (SE.item (SE.item (SE.var ok rfl) (SE.bin ok_sub (SE.var ok rfl) SE.int)) SE.int) (SE.item (SE.item (SE.var ok rfl) (SE.bin ok_add (SE.var ok rfl) SE.int)) SE.int))))))
  SS.nil)
  (SS.cons (S1.delItem (SE.var ok rfl) (SE.bin ok_sub (SE.var ok rfl) SE.int))
  (SS.last (S1.asg ok rfl SE.bool))))
  (SS.last (S1.ite (SI.val (SE.startsw (SE.item (SE.item (SE.var ok rfl) (SE.var ok rfl)) SE.int) (SE.item (SE.item (SE.var ok rfl) (SE.bin ok_add (SE.var ok rfl) SE.int)) SE.int)))
  (SS.cons (S1.setItem (SE.var ok rfl) (SE.bin ok_sub (SE.var ok rfl) SE.int) (SE.tup (SE.item (SE.item (SE.var ok rfl) (SE.bin ok_sub (SE.var ok rfl) SE.int)) SE.int) (SE.bin ok_add (SE.item (SE.item (SE.var ok rfl) (SE.bin ok_sub (SE.var ok rfl) SE.int)) SE.int) (SE.item (SE.item (SE.var ok rfl) (SE.bin ok_add (SE.var ok rfl) SE.int)) SE.int))))
  (SS.cons (S1.setItem (SE.var ok rfl) (SE.var ok rfl) (SE.tup (SE.item (SE.item (SE.var ok rfl) (SE.var ok rfl)) SE.int) (SE.bin ok_add (SE.slice (SE.item (SE.item (SE.var ok rfl) (SE.var ok rfl)) SE.int) (SO.yes (SE.len G (SE.item (SE.item (SE.var ok rfl) (SE.bin ok_add (SE.var ok rfl) SE.int)) SE.int))) SO.no) (SE.item (SE.item (SE.var ok rfl) (SE.bin ok_add (SE.var ok rfl) SE.int)) SE.int))))
  (SS.cons (S1.delItem (SE.var ok rfl) (SE.bin ok_add (SE.var ok rfl) SE.int))
  (SS.last (S1.asg ok rfl SE.bool)))))
  SS.nil))))
  SS.nil)
  (SS.last (S1.aug ok rfl SE.int))))
  (SS.last (S1.ite (SI.val (SE.var ok rfl))
  (SS.last (S1.expr (SE.call1 ok K rfl rfl (SE.var ok rfl))))
  SS.nil)))))))))))))

theorem ss_text1 {A : Around} {qn : Str} {L fa : Addr} {cd : Value} {h₀ : Heap} {s₀ : Shared} {ex : List (Addr × Obj)} (ok : (mkCx A qn L fa cd h₀ s₀ (Str.ofString "diff_text1") nm_text1 ex).Ok) (G : Globs prog w (mkCx A qn L fa cd h₀ s₀ (Str.ofString "diff_text1") nm_text1 ex)) (K : Lk prog w (mkCx A qn L fa cd h₀ s₀ (Str.ofString "diff_text1") nm_text1 ex) sp) :
    SS prog w (mkCx A qn L fa cd h₀ s₀ (Str.ofString "diff_text1") nm_text1 ex) sp (bodyOf (Str.ofString "diff_text1")) S_text1 :=
  (SS.cons (S1.asg ok rfl SE.list0)
  (SS.cons (S1.forp ok rfl rfl (SE.var ok rfl)
  (SS.last (S1.ite (SI.cmp (SE.var ok rfl) (SE.attr ok K rfl rfl))
  (SS.last (S1.expr (SE.append (SE.var ok rfl) (SE.var ok rfl))))
  SS.nil)))
  (SS.last (S1.ret (SE.join0 (SE.var ok rfl) rfl)))))

theorem ss_text2 {A : Around} {qn : Str} {L fa : Addr} {cd : Value} {h₀ : Heap} {s₀ : Shared} {ex : List (Addr × Obj)} (ok : (mkCx A qn L fa cd h₀ s₀ (Str.ofString "diff_text2") nm_text2 ex).Ok) (G : Globs prog w (mkCx A qn L fa cd h₀ s₀ (Str.ofString "diff_text2") nm_text2 ex)) (K : Lk prog w (mkCx A qn L fa cd h₀ s₀ (Str.ofString "diff_text2") nm_text2 ex) sp) :
    SS prog w (mkCx A qn L fa cd h₀ s₀ (Str.ofString "diff_text2") nm_text2 ex) sp (bodyOf (Str.ofString "diff_text2")) S_text2 :=
  (SS.cons (S1.asg ok rfl SE.list0)
  (SS.cons (S1.forp ok rfl rfl (SE.var ok rfl)
  (SS.last (S1.ite (SI.cmp (SE.var ok rfl) (SE.attr ok K rfl rfl))
  (SS.last (S1.expr (SE.append (SE.var ok rfl) (SE.var ok rfl))))
  SS.nil)))
  (SS.last (S1.ret (SE.join0 (SE.var ok rfl) rfl)))))

end
end
section
open PySem PySem.W PyProof.Rows PySem.Calls PySem.Spec
set_option Elab.async false
set_option maxRecDepth 100000
set_option autoImplicit false
set_option linter.unusedVariables false
structure Wd (K : Frag) (mg mb : Str → Option Value) (tool dx C : Addr) (es : List DictEntry) (nd : Nat) (cx : Cx) : Prop where
  kin : K.In cx.h₀
  ng : cx.h₀.Ns mainGlobals mg
  nb : cx.h₀.Ns builtinsNs mb
  nolim : cx.h₀.NoLimit
  free : ∀ x v, (x, v) ∈ biTable → mg x = none ∧ mb x = some v
  extra : ∃ r, cx.extra = (tool, W.instObj C dx) :: (dx, W.dictOf es nd) :: r
noncomputable def mergeH (H H' : AH) (hid : List Addr) : AH := fun b => if b ∈ hid then H' b else match H b with
  | some vs => some vs
  | none => H' b
noncomputable def retOf : Fl → V
  | .ret v => v
  | _ => .none
noncomputable def calleeCx (cx : Cx) (s : Shared) (qual : Str) (scope : Scope) (f : Addr) (cd : Value) (hid : List Addr) (names : List Str) : Cx :=
  ⟨cx.A.deeper (envOf qual scope s.heap.objs.size f cd), qual, scope, s.heap.objs.size, f, cd, hideAll s.heap hid, cx.s₀, names, cx.extra⟩
section
variable {prog : Program} {w : World} {K : Frag} {mg mb : Str → Option Value} {tool dx C : Addr} {es : List DictEntry} {nd : Nat} {cx : Cx}
theorem Wd.globs (W : Wd K mg mb tool dx C es nd cx) (ok : cx.Ok) : Globs prog w cx := by
  intro x v hx hk σ s Q a hQ
  obtain ⟨m, F, _⟩ := a.fr
  have h1 := W.ng.keeps F.keep
  have h2 := W.nb.keeps F.keep
  obtain ⟨f1, f2⟩ := W.free x v hx
  unfold loadName
  simp only [Env.blockKind, show cx.env.scope.kind = .function from ok.kind, hk, ScopeKind.isAnnotationScope, Bool.false_and, Bool.false_eq_true, if_false]
  exact loadGlobal_builtin (mg := mg) (mb := mb) h1 f1 h2 f2 hQ
theorem Wd.inst (Y : Wd K mg mb tool dx C es nd cx) {σ : St} {s : Shared} (a : At cx σ s) : W.InstAt s.heap tool (W.instObj C dx) C (some (W.dictOf es nd)) := by
  obtain ⟨r, hr⟩ := Y.extra
  have h1 := a.ex (tool, W.instObj C dx) (by rw [hr]; simp)
  have h2 := a.ex (dx, W.dictOf es nd) (by rw [hr]; simp)
  exact ⟨h1.1, rfl, rfl, h2.1⟩
theorem Wd.callee (Y : Wd K mg mb tool dx C es nd cx) {σ : St} {s : Shared} (a : At cx σ s) {qual : Str} {scope : Scope} {f : Addr} {cd : Value} {hid : List Addr} {names : List Str} (hh : ∀ b ∈ hid, (σ.H b).isSome = true) :
    (∀ b o, cx.h₀.get? b = some o → (hideAll s.heap hid).get? b = some o) ∧ Wd K mg mb tool dx C es nd (calleeCx cx s qual scope f cd hid names) := by
  obtain ⟨m, F, _⟩ := a.fr
  have kp : ∀ b o, cx.h₀.get? b = some o → (hideAll s.heap hid).get? b = some o := fun b o e => hideAll_get _ (F.keep b o e) fun hb => by
    obtain ⟨vs, hvs⟩ := Option.isSome_iff_exists.mp (hh b hb)
    have := (a.hp b vs hvs).2.1
    rw [e] at this; cases this
  exact ⟨kp, Y.kin.keeps kp, Y.ng.keeps kp, Y.nb.keeps kp, Y.nolim.keeps kp, Y.free, Y.extra⟩

theorem enter (Y : Wd K mg mb tool dx C es nd cx) {σ : St} {s : Shared} (a : At cx σ s) {name qual : Str} {params : Arguments} {body : List Stmt} {scope : Scope} {dV kV doc pm cdv ct oc : Value} {an od : Option Addr} {osl : Array (Option Value)} {f : Addr} {cargs : List Value} {binds : List (Str × Value)}
    (ho : K.lookup f = some ⟨oc, od, .func (W.fnOf name qual params body scope dV kV doc pm an cdv ct), osl⟩) (hcd : codeIn K cdv qual = true) (hroom : cx.A.depth < recursionLimit)
    (hbind : BindsTo s (W.fnOf name qual params body scope dV kV doc pm an cdv ct) ⟨cargs, []⟩ binds) (hloc : ∀ y ∈ binds, scope.names.lookup y.1 = some .local)
    (hcell : ∀ x ∈ scope.names, x.2 ≠ .cell) (hco : scope.isCoroutine = false) (hgen : scope.isGenerator = false) (hk : scope.kind = .function)
    {hid : List Addr} (hh : ∀ b ∈ hid, (σ.H b).isSome = true) {names : List Str} {σ' : St}
    (hσ : ∀ (i : Nat) (x : Str) (v : V), names[i]? = some x → σ'.loc[i]? = some (some v) → ∃ c, binds.reverse.lookup x = some c ∧ Rep s.heap v c)
    (hH : ∀ b vs, σ'.H b = some vs → b ∈ hid ∧ σ.H b = some vs) {P : Fl → St → Prop}
    (hbody : ∀ s₁, At (calleeCx cx s qual scope f cdv hid names) σ' s₁ →
      wpAny (model prog w) (calleeCx cx s qual scope f cdv hid names).A (execs body (calleeCx cx s qual scope f cdv hid names).env) (fpost (calleeCx cx s qual scope f cdv hid names) σ' s₁ P) NoE s₁) :
    wpAny (model prog w) cx.A (PySem.call (.ref f) cargs) (cpost cx σ s fun v σ₂ => σ₂.loc = σ.loc ∧ ∃ g σ'', P g σ'' ∧ retOf g = v ∧ σ₂.H = mergeH σ.H σ''.H hid ∧ ∀ b vs, σ''.H b = some vs → b ∉ hid → σ.H b = none) NoE s := by
  obtain ⟨m, F, rr⟩ := a.fr
  have hget : s.heap.get? f = some ⟨oc, od, .func (W.fnOf name qual params body scope dV kV doc pm an cdv ct), osl⟩ := (Y.kin.keeps F.keep) _ _ ho
  refine wpAny_call (codeAny_call_def (fd := W.fnOf name qual params body scope dV kV doc pm an cdv ct) (body := body) hroom hget rfl (Y.nolim.keeps F.keep) (codeRec_of (Y.kin.keeps F.keep) hcd) rfl hbind hcell hloc (fun h₁ hns hk₁ => ?_) hco hgen hk)
  obtain ⟨kp, -⟩ := Y.callee (qual := qual) (scope := scope) (f := f) (cd := cdv) (names := names) a hh
  have tu : ∀ b i, s.heap.IsTuple b i → h₁.IsTuple b i := fun b i t => let ⟨o, e, q⟩ := t; ⟨o, hk₁ _ _ e, q⟩
  have hnot : ∀ b, b ∈ hid → ∃ vs, σ.H b = some vs := fun b hb => Option.isSome_iff_exists.mp (hh b hb)
  have a₁ : At (calleeCx cx s qual scope f cdv hid names) σ' { s with heap := h₁, toks := s.toks + binds.length } := by
    refine ⟨by have := a.sh; rw [this]; rfl, ⟨_, ⟨hns, fun b o e => hk₁ b o (of_hideAll _ e), Nat.le_of_eq (hideAll_size _ _)⟩, fun i x v e1 e2 => ?_⟩, fun b vs e => ?_, fun p hp => ?_⟩
    · obtain ⟨c, h1, h2⟩ := hσ i x v e1 e2
      exact ⟨c, h1, h2.mono tu⟩
    · obtain ⟨h1, h2⟩ := hH b vs e
      obtain ⟨n1, n2, cs, p, r⟩ := a.hp b vs h2
      obtain ⟨n, pl⟩ := id p
      exact ⟨Nat.ne_of_lt (Heap.lt_size pl), hideAll_none _ h1, cs, p.at fun o e => hk₁ _ _ e, r.mono tu⟩
    · have hx := a.ex p hp
      refine ⟨hk₁ _ _ hx.1, Nat.ne_of_lt (Heap.lt_size hx.1), ?_⟩
      cases q : σ'.H p.1 with
      | none => rfl
      | some vs => rw [(hH _ _ q).2] at hx; cases hx.2.2
  refine wpAny_mono (hbody _ a₁) ?_ noE
  rintro fl s' ⟨g, σ'', rf, a', k', p⟩
  -- what stood before the call and was not handed on stands
  obtain ⟨m', F', -⟩ := a'.fr
  have keep : ∀ b o, s.heap.get? b = some o → b ∉ hid → s'.heap.get? b = some o := fun b o e hb => F'.keep b o (hideAll_get _ e hb)
  have keepT : ∀ b i, s.heap.IsTuple b i → s'.heap.IsTuple b i := by
    intro b i t
    have n1 := a.tupleNe t
    obtain ⟨o, e, q⟩ := t
    refine ⟨o, keep b o e fun hb => ?_, q⟩
    obtain ⟨vs, hvs⟩ := hnot b hb
    rw [n1.2] at hvs; cases hvs
  have nL : cx.L ∉ hid := fun hb => by
    obtain ⟨vs, hvs⟩ := hnot _ hb
    exact (a.hp _ _ hvs).1 rfl
  have newN : ∀ b vs, σ''.H b = some vs → (hideAll s.heap hid).get? b = none := fun b vs e => (a'.hp b vs e).2.1
  have a₂ : At cx ⟨σ.loc, mergeH σ.H σ''.H hid⟩ s' := by
    refine ⟨a'.sh, ⟨m, ?_, fun i x v e1 e2 => ?_⟩, fun b ws e => ?_, fun p hp => ?_⟩
    · obtain ⟨oL, es', ep, hL, r⟩ := F.ns
      refine ⟨⟨oL, es', ep, keep _ _ hL nL, r⟩, fun b o e => ?_, F.above⟩
      exact F'.keep b o (kp b o e)
    · obtain ⟨c, h1, h2⟩ := rr i x v e1 e2
      exact ⟨c, h1, h2.mono keepT⟩
    · simp only [mergeH] at e
      have fromCallee : σ''.H b = some ws → b ∉ hid → b ≠ cx.L ∧ cx.h₀.get? b = none ∧ ∃ cs : List Value, s'.heap.PlainList b cs.toArray ∧ Reps s'.heap ws cs := by
        intro e hb
        obtain ⟨n1, n2, cs, p, r⟩ := a'.hp b ws e
        refine ⟨fun q => ?_, ?_, cs, p, r⟩
        · obtain ⟨oL, es', ep, hL, _⟩ := F.ns
          have := hideAll_get hid hL nL
          rw [← q] at this
          rw [newN b ws e] at this; cases this
        · cases q : cx.h₀.get? b with
          | none => rfl
          | some o => have := kp b o q; rw [newN b ws e] at this; cases this
      split at e
      · rename_i hb
        obtain ⟨vs, hvs⟩ := hnot b hb
        obtain ⟨n1, n2, _⟩ := a.hp b vs hvs
        obtain ⟨_, _, cs, p, r⟩ := a'.hp b ws e
        exact ⟨n1, n2, cs, p, r⟩
      · rename_i hb
        split at e
        · rename_i vs hvs
          cases e
          obtain ⟨n1, n2, cs, p, r⟩ := a.hp b _ hvs
          exact ⟨n1, n2, cs, p.at fun o e => keep b o e hb, r.mono keepT⟩
        · exact fromCallee e hb
    · have hx := a.ex p hp
      have hb : p.1 ∉ hid := fun hb => by
        obtain ⟨vs, hvs⟩ := hnot _ hb
        rw [hx.2.2] at hvs; cases hvs
      refine ⟨keep _ _ hx.1 hb, hx.2.1, ?_⟩
      simp only [mergeH, hb, if_false, hx.2.2]
      cases q : σ''.H p.1 with
      | none => rfl
      | some vs => have := hideAll_get hid hx.1 hb; rw [newN _ _ q] at this; cases this
  have k₂ : Keep cx σ s ⟨σ.loc, mergeH σ.H σ''.H hid⟩ s' := by
    intro b o e h1 h2
    have hb : b ∉ hid := fun hb => by
      obtain ⟨vs, hvs⟩ := hnot _ hb
      rw [h2] at hvs; cases hvs
    refine ⟨keep _ _ e hb, ?_⟩
    simp only [mergeH, hb, if_false, h2]
    cases q : σ''.H b with
    | none => rfl
    | some vs => have := hideAll_get hid e hb; rw [newN _ _ q] at this; cases this
  have fresh : ∀ b vs, σ''.H b = some vs → b ∉ hid → σ.H b = none := fun b vs e hb => by
    cases q : σ.H b with
    | none => rfl
    | some ws =>
      obtain ⟨_, _, cs, ⟨n, pl⟩, _⟩ := a.hp b ws q
      have := hideAll_get hid pl hb
      rw [newN b vs e] at this; cases this
  cases rf with
  | next => exact ⟨.none, _, rfl, a₂, k₂, rfl, .next, σ'', p, rfl, rfl, fresh⟩
  | brk => exact ⟨.none, _, rfl, a₂, k₂, rfl, .brk, σ'', p, rfl, rfl, fresh⟩
  | cont => exact ⟨.none, _, rfl, a₂, k₂, rfl, .cont, σ'', p, rfl, rfl, fresh⟩
  | ret r => exact ⟨_, _, r, a₂, k₂, rfl, .ret _, σ'', p, rfl, rfl, fresh⟩

/-- fewer lists are told of -/
theorem At.sub {σ : St} {s : Shared} (a : At cx σ s) {H₂ : AH} (h : ∀ b vs, H₂ b = some vs → σ.H b = some vs) : At cx ⟨σ.loc, H₂⟩ s :=
  ⟨a.sh, a.fr, fun b vs e => a.hp b vs (h b vs e), fun p hp => ⟨(a.ex p hp).1, (a.ex p hp).2.1, by
    cases q : H₂ p.1 with
    | none => exact q
    | some vs => have := h _ _ q; rw [(a.ex p hp).2.2] at this; cases this⟩⟩
theorem cpost.sub {σ : St} {s : Shared} {P P' : V → St → Prop} {c : Value} {s' : Shared} (h : cpost cx σ s P c s')
    (hP : ∀ v σ₂, At cx σ₂ s' → P v σ₂ → ∃ H₂ : AH, (∀ b vs, H₂ b = some vs → σ₂.H b = some vs) ∧ P' v ⟨σ₂.loc, H₂⟩) : cpost cx σ s P' c s' := by
  obtain ⟨v, σ₂, r, a, k, p⟩ := h
  obtain ⟨H₂, hs, p'⟩ := hP v σ₂ a p
  refine ⟨v, _, r, a.sub hs, fun b o e h1 h2 => ⟨(k b o e h1 h2).1, ?_⟩, p'⟩
  cases q : H₂ b with
  | none => exact q
  | some vs => have := hs _ _ q; rw [(k b o e h1 h2).2] at this; cases this
end
end
section
set_option autoImplicit false
set_option linter.unusedVariables false
/-! the longest row of signs that stands in both in order -/
noncomputable def lcs : List Nat → List Nat → Nat
  | [], _ => 0
  | _ :: _, [] => 0
  | a :: x, b :: y => if a = b then lcs x y + 1 else max (lcs x (b :: y)) (lcs (a :: x) y)
termination_by x y => x.length + y.length

open List in
theorem lcs_ex (x y : List Nat) : ∃ z, z <+ x ∧ z <+ y ∧ z.length = lcs x y := by
  fun_induction lcs x y with
  | case1 y => exact ⟨[], by simp, by simp, rfl⟩
  | case2 a x => exact ⟨[], by simp, by simp, rfl⟩
  | case3 x b y ih =>
    obtain ⟨z, h1, h2, h3⟩ := ih
    exact ⟨b :: z, h1.cons_cons _, h2.cons_cons _, by simp [h3]⟩
  | case4 a x b y h ih1 ih2 =>
    obtain ⟨z, h1, h2, h3⟩ := ih1
    obtain ⟨z', h1', h2', h3'⟩ := ih2
    by_cases hle : lcs x (b :: y) ≤ lcs (a :: x) y
    · exact ⟨z', h1', h2'.cons _, by omega⟩
    · exact ⟨z, h1.cons _, h2, by omega⟩

open List in
theorem lcs_le (x y : List Nat) : ∀ z, z <+ x → z <+ y → z.length ≤ lcs x y := by
  fun_induction lcs x y with
  | case1 y => intro z h _; have := h.length_le; simpa using this
  | case2 a x => intro z _ h; have := h.length_le; simpa using this
  | case3 x b y ih =>
    intro z h1 h2
    cases z with
    | nil => simp
    | cons c z =>
      have e1 : z <+ x := by
        cases h1 with
        | cons _ h => exact (List.sublist_cons_self c z).trans h
        | cons_cons _ h => exact h
      have e2 : z <+ y := by
        cases h2 with
        | cons _ h => exact (List.sublist_cons_self c z).trans h
        | cons_cons _ h => exact h
      have := ih z e1 e2
      simp; omega
  | case4 a x b y h ih1 ih2 =>
    intro z h1 h2
    cases z with
    | nil => simp
    | cons c z =>
      by_cases hc : c = a
      · have hcb : c ≠ b := fun q => h (hc.symm.trans q)
        have e2 : c :: z <+ y := by
          cases h2 with
          | cons _ h => exact h
          | cons_cons _ h => exact absurd rfl hcb
        have := ih2 (c :: z) h1 e2
        omega
      · have e1 : c :: z <+ x := by
          cases h1 with
          | cons _ h => exact h
          | cons_cons _ h => exact absurd rfl hc
        have := ih1 (c :: z) e1 h2
        omega

open List in
theorem lcs_mono {x x' y y' : List Nat} (hx : x <+ x') (hy : y <+ y') : lcs x y ≤ lcs x' y' := by
  obtain ⟨z, h1, h2, h3⟩ := lcs_ex x y
  rw [← h3]; exact lcs_le _ _ z (h1.trans hx) (h2.trans hy)
theorem lcs_append (x x' y y' : List Nat) : lcs x y + lcs x' y' ≤ lcs (x ++ x') (y ++ y') := by
  obtain ⟨z, h1, h2, h3⟩ := lcs_ex x y
  obtain ⟨z', h1', h2', h3'⟩ := lcs_ex x' y'
  rw [← h3, ← h3', ← List.length_append]
  exact lcs_le _ _ _ (h1.append h1') (h2.append h2')
theorem lcs_reverse (x y : List Nat) : lcs x.reverse y.reverse = lcs x y := by
  have key : ∀ x y : List Nat, lcs x y ≤ lcs x.reverse y.reverse := by
    intro x y
    obtain ⟨z, h1, h2, h3⟩ := lcs_ex x y
    rw [← h3, ← List.length_reverse (as := z)]
    exact lcs_le _ _ _ h1.reverse h2.reverse
  refine Nat.le_antisymm ?_ (key x y)
  have := key x.reverse y.reverse
  simpa using this
theorem lcs_le_left (x y : List Nat) : lcs x y ≤ x.length := by
  obtain ⟨z, h1, _, h3⟩ := lcs_ex x y
  rw [← h3]; exact h1.length_le
theorem lcs_le_right (x y : List Nat) : lcs x y ≤ y.length := by
  obtain ⟨z, _, h2, h3⟩ := lcs_ex x y
  rw [← h3]; exact h2.length_le
theorem lcs_nil_left (y : List Nat) : lcs [] y = 0 := by rw [lcs]
theorem lcs_nil_right (x : List Nat) : lcs x [] = 0 := by cases x <;> rw [lcs]
theorem lcs_same (a : Nat) (x y : List Nat) : lcs (a :: x) (a :: y) = lcs x y + 1 := by rw [lcs]; simp
theorem lcs_diff {a b : Nat} (h : a ≠ b) (x y : List Nat) : lcs (a :: x) (b :: y) = max (lcs x (b :: y)) (lcs (a :: x) y) := by rw [lcs]; simp [h]
open List in
theorem lcs_cons_left (a : Nat) (x y : List Nat) : lcs x y ≤ lcs (a :: x) y ∧ lcs (a :: x) y ≤ lcs x y + 1 := by
  refine ⟨lcs_mono (List.sublist_cons_self a x) (List.Sublist.refl y), ?_⟩
  obtain ⟨z, h1, h2, h3⟩ := lcs_ex (a :: x) y
  rw [← h3]
  cases h1 with
  | cons _ h => have := lcs_le x y z h h2; omega
  | cons_cons _ h =>
    rename_i z
    have := lcs_le x y z h ((List.sublist_cons_self a z).trans h2)
    simp; omega
open List in
theorem lcs_cons_right (b : Nat) (x y : List Nat) : lcs x y ≤ lcs x (b :: y) ∧ lcs x (b :: y) ≤ lcs x y + 1 := by
  refine ⟨lcs_mono (List.Sublist.refl x) (List.sublist_cons_self b y), ?_⟩
  obtain ⟨z, h1, h2, h3⟩ := lcs_ex x (b :: y)
  rw [← h3]
  cases h2 with
  | cons _ h => have := lcs_le x y z h1 h; omega
  | cons_cons _ h =>
    rename_i z
    have := lcs_le x y z ((List.sublist_cons_self b z).trans h1) h
    simp; omega
theorem lcs_cons_cons (a b : Nat) (x y : List Nat) : lcs (a :: x) (b :: y) ≤ lcs x y + 1 := by
  by_cases h : a = b
  · subst h; rw [lcs_same]; omega
  · rw [lcs_diff h]
    have := (lcs_cons_left a x y).2
    have := (lcs_cons_right b x y).2
    omega
theorem lcs_snoc_same (a : Nat) (x y : List Nat) : lcs (x ++ [a]) (y ++ [a]) = lcs x y + 1 := by
  rw [← lcs_reverse]; simp only [List.reverse_append, List.reverse_cons, List.reverse_nil, List.nil_append, List.singleton_append]
  rw [lcs_same, lcs_reverse]
theorem lcs_snoc_diff {a b : Nat} (h : a ≠ b) (x y : List Nat) : lcs (x ++ [a]) (y ++ [b]) = max (lcs x (y ++ [b])) (lcs (x ++ [a]) y) := by
  rw [← lcs_reverse]; simp only [List.reverse_append, List.reverse_cons, List.reverse_nil, List.nil_append, List.singleton_append]
  rw [lcs_diff h]
  have e1 := lcs_reverse x (y ++ [b])
  have e2 := lcs_reverse (x ++ [a]) y
  simp only [List.reverse_append, List.reverse_cons, List.reverse_nil, List.nil_append, List.singleton_append] at e1 e2
  rw [e1, e2]
theorem lcs_snoc_snoc (a b : Nat) (x y : List Nat) : lcs (x ++ [a]) (y ++ [b]) ≤ lcs x y + 1 := by
  rw [← lcs_reverse]; simp only [List.reverse_append, List.reverse_cons, List.reverse_nil, List.nil_append, List.singleton_append]
  have := lcs_cons_cons a b x.reverse y.reverse
  rw [lcs_reverse] at this; exact this
theorem lcs_self (x : List Nat) : lcs x x = x.length := by
  refine Nat.le_antisymm (lcs_le_left x x) (lcs_le x x x (List.Sublist.refl x) (List.Sublist.refl x))
theorem lcs_pre (p x y : List Nat) : lcs (p ++ x) (p ++ y) = p.length + lcs x y := by
  induction p with
  | nil => simp
  | cons a p ih => simp only [List.cons_append, List.length_cons]; rw [lcs_same, ih]; omega
theorem lcs_suf (p x y : List Nat) : lcs (x ++ p) (y ++ p) = p.length + lcs x y := by
  rw [← lcs_reverse]; simp only [List.reverse_append]
  rw [lcs_pre, lcs_reverse]; simp

/-- the least number of signs taken out and put in -/
noncomputable def ed (x y : List Nat) : Int := x.length + y.length - 2 * lcs x y
end
section
set_option autoImplicit false
set_option linter.unusedVariables false
noncomputable def FF (A B : List Nat) (i j : Nat) : Int := i + j - 2 * lcs (A.take i) (B.take j)
noncomputable def GG (A B : List Nat) (i j : Nat) : Int := (A.length - i) + (B.length - j) - 2 * lcs (A.drop i) (B.drop j)
section
variable {A B : List Nat}
theorem take_snoc {l : List Nat} {i a : Nat} (h : l[i]? = some a) : l.take (i + 1) = l.take i ++ [a] := by
  rw [List.take_add_one, h]; rfl
theorem drop_cons {l : List Nat} {i a : Nat} (h : l[i]? = some a) : l.drop i = a :: l.drop (i + 1) := by
  obtain ⟨hi, e⟩ := List.getElem?_eq_some_iff.mp h
  rw [List.drop_eq_getElem_cons hi, e]
open List in
theorem take_sub (l : List Nat) (i : Nat) : l.take i <+ l.take (i + 1) := by
  have : l.take i = (l.take (i + 1)).take i := by rw [List.take_take]; congr 1; omega
  rw [this]; exact List.take_sublist _ _
theorem FF_zero : FF A B 0 0 = 0 := by simp [FF, lcs_nil_left]
theorem FF_end : FF A B A.length B.length = ed A B := by simp [FF, ed]
theorem FF_lower (i j : Nat) : (i : Int) - j ≤ FF A B i j ∧ (j : Int) - i ≤ FF A B i j := by
  have h1 := Nat.le_trans (lcs_le_left (A.take i) (B.take j)) (List.length_take_le i A)
  have h2 := Nat.le_trans (lcs_le_right (A.take i) (B.take j)) (List.length_take_le j B)
  unfold FF
  generalize lcs (A.take i) (B.take j) = l at h1 h2
  omega
theorem FF_nonneg (i j : Nat) : 0 ≤ FF A B i j := by have := FF_lower (A := A) (B := B) i j; omega
theorem FF_right (i j : Nat) : FF A B (i + 1) j ≤ FF A B i j + 1 := by
  have := lcs_mono (take_sub A i) (List.Sublist.refl (B.take j))
  unfold FF; omega
theorem FF_down (i j : Nat) : FF A B i (j + 1) ≤ FF A B i j + 1 := by
  have := lcs_mono (List.Sublist.refl (A.take i)) (take_sub B j)
  unfold FF; omega
theorem FF_diag {i j a : Nat} (h1 : A[i]? = some a) (h2 : B[j]? = some a) : FF A B (i + 1) (j + 1) = FF A B i j := by
  unfold FF; rw [take_snoc h1, take_snoc h2, lcs_snoc_same]; omega
theorem FF_up (i j : Nat) : ed A B ≤ FF A B i j + A.length + B.length - i - j := by
  have := lcs_mono (List.take_sublist i A) (List.take_sublist j B)
  unfold FF ed; omega
theorem FF_mono1 {i j : Nat} (hi : i < A.length) (hj : j < B.length) : FF A B i j ≤ FF A B (i + 1) (j + 1) := by
  have h1 : A[i]? = some A[i] := by simp [hi]
  have h2 : B[j]? = some B[j] := by simp [hj]
  unfold FF; rw [take_snoc h1, take_snoc h2]
  have := lcs_snoc_snoc A[i] B[j] (A.take i) (B.take j)
  omega
theorem FF_mono (i j : Nat) : ∀ t, i + t ≤ A.length → j + t ≤ B.length → FF A B i j ≤ FF A B (i + t) (j + t)
  | 0, _, _ => Int.le_refl _
  | t + 1, h1, h2 => Int.le_trans (FF_mono i j t (by omega) (by omega)) (FF_mono1 (i := i + t) (j := j + t) (by omega) (by omega))
theorem GG_mono1 {i j : Nat} (hi : i < A.length) (hj : j < B.length) : GG A B (i + 1) (j + 1) ≤ GG A B i j := by
  have h1 : A[i]? = some A[i] := by simp [hi]
  have h2 : B[j]? = some B[j] := by simp [hj]
  unfold GG; rw [drop_cons h1, drop_cons h2]
  have := lcs_cons_cons A[i] B[j] (A.drop (i + 1)) (B.drop (j + 1))
  omega
theorem GG_mono (i j : Nat) : ∀ t, i + t ≤ A.length → j + t ≤ B.length → GG A B (i + t) (j + t) ≤ GG A B i j
  | 0, _, _ => Int.le_refl _
  | t + 1, h1, h2 => Int.le_trans (GG_mono1 (i := i + t) (j := j + t) (by omega) (by omega)) (GG_mono i j t (by omega) (by omega))
theorem GG_diag {i j a : Nat} (h1 : A[i]? = some a) (h2 : B[j]? = some a) : GG A B (i + 1) (j + 1) = GG A B i j := by
  unfold GG; rw [drop_cons h1, drop_cons h2, lcs_same]; omega
theorem FG {i j : Nat} (hi : i ≤ A.length) (hj : j ≤ B.length) : ed A B ≤ FF A B i j + GG A B i j := by
  have := lcs_append (A.take i) (A.drop i) (B.take j) (B.drop j)
  rw [List.take_append_drop, List.take_append_drop] at this
  unfold FF GG ed; omega
theorem GG_lower (i j : Nat) (hi : i ≤ A.length) (hj : j ≤ B.length) : ((A.length : Int) - i) - (B.length - j) ≤ GG A B i j ∧ ((B.length : Int) - j) - (A.length - i) ≤ GG A B i j := by
  have h1 := lcs_le_left (A.drop i) (B.drop j)
  have h2 := lcs_le_right (A.drop i) (B.drop j)
  rw [List.length_drop] at h1 h2
  unfold GG; omega
theorem GG_right (i j : Nat) (hi : i < A.length) : GG A B i j ≤ GG A B (i + 1) j + 1 := by
  have h1 : A[i]? = some A[i] := by simp [hi]
  have := (lcs_cons_left A[i] (A.drop (i + 1)) (B.drop j)).1
  unfold GG; rw [drop_cons h1]; omega
theorem GG_down (i j : Nat) (hj : j < B.length) : GG A B i j ≤ GG A B i (j + 1) + 1 := by
  have h1 : B[j]? = some B[j] := by simp [hj]
  have := (lcs_cons_right B[j] (A.drop i) (B.drop (j + 1))).1
  unfold GG; rw [drop_cons h1]; omega
theorem GG_rev {i j : Nat} (hi : i ≤ A.length) (hj : j ≤ B.length) : GG A B i j = FF A.reverse B.reverse (A.length - i) (B.length - j) := by
  unfold GG FF
  rw [List.take_reverse, List.take_reverse, lcs_reverse]
  rw [show A.length - (A.length - i) = i from by omega, show B.length - (B.length - j) = j from by omega]
  omega
theorem FF_rev {i j : Nat} (hi : i ≤ A.length) (hj : j ≤ B.length) : FF A B i j = GG A.reverse B.reverse (A.length - i) (B.length - j) := by
  have := GG_rev (A := A.reverse) (B := B.reverse) (i := A.length - i) (j := B.length - j) (by simp) (by simp)
  rw [this]; simp only [List.reverse_reverse, List.length_reverse]
  rw [show A.length - (A.length - i) = i from by omega, show B.length - (B.length - j) = j from by omega]
theorem ed_rev : ed A.reverse B.reverse = ed A B := by unfold ed; rw [lcs_reverse]; simp
theorem ed_split {i j : Nat} (hi : i ≤ A.length) (hj : j ≤ B.length) : FF A B i j = ed (A.take i) (B.take j) ∧ GG A B i j = ed (A.drop i) (B.drop j) := by
  constructor
  · unfold FF ed; rw [List.length_take_of_le hi, List.length_take_of_le hj]
  · unfold GG ed; rw [List.length_drop, List.length_drop, Int.ofNat_sub hi, Int.ofNat_sub hj]

noncomputable def Opt (A B : List Nat) (i j : Nat) : Prop := i ≤ A.length ∧ j ≤ B.length ∧ FF A B i j + GG A B i j = ed A B
theorem Opt_rev {i j : Nat} (h : Opt A B i j) : Opt A.reverse B.reverse (A.length - i) (B.length - j) := by
  obtain ⟨h1, h2, h3⟩ := h
  refine ⟨by simp, by simp, ?_⟩
  rw [← GG_rev h1 h2, ed_rev, ← FF_rev h1 h2]; omega
noncomputable def PredOf (A B : List Nat) (i j : Nat) : Prop := ∃ s i₁ j₁ i' j', i = i₁ + s ∧ j = j₁ + s ∧ (∀ t < s, ∃ a, A[i₁ + t]? = some a ∧ B[j₁ + t]? = some a) ∧
      ((i₁ = i' + 1 ∧ j₁ = j') ∨ (i₁ = i' ∧ j₁ = j' + 1)) ∧ Opt A B i' j' ∧ FF A B i' j' = FF A B i j - 1
theorem op_sum {e f g f' g' : Int} (h1 : e ≤ f' + g') (h2 : g' ≤ g + 1) (hs : f + g = e) (q : f = f' + 1) : f' + g' = e := by omega
theorem op_pred {f f' : Int} (q : f = f' + 1) : f' = f - 1 := by rw [q]; exact (Int.add_sub_cancel f' 1).symm
theorem op_less {i j n : Nat} (h : i + 1 + (j + 1) = n) : i + j < n := by omega
/-- the last step of a best way, and the row of like signs behind it -/
theorem Opt_pred : ∀ (n i j : Nat), i + j = n → Opt A B i j → 1 ≤ FF A B i j →
    PredOf A B i j := by
  intro n
  induction n using Nat.strongRecOn with
  | ind n ih =>
    intro i j hn ho hf
    obtain ⟨hi, hj, hs⟩ := ho
    -- a step to the right or down
    have right : ∀ i', i = i' + 1 → FF A B i j = FF A B i' j + 1 → PredOf A B i j := fun i' e q => by
      subst e
      have h1 := FG (A := A) (B := B) (i := i') (j := j) (Nat.le_of_succ_le hi) hj
      have h2 := GG_right (A := A) (B := B) i' j hi
      exact ⟨0, i' + 1, j, i', j, rfl, rfl, fun t ht => absurd ht (Nat.not_lt_zero _), .inl ⟨rfl, rfl⟩, ⟨Nat.le_of_succ_le hi, hj, op_sum h1 h2 hs q⟩, op_pred q⟩
    have down : ∀ j', j = j' + 1 → FF A B i j = FF A B i j' + 1 → PredOf A B i j := fun j' e q => by
      subst e
      have h1 := FG (A := A) (B := B) (i := i) (j := j') hi (Nat.le_of_succ_le hj)
      have h2 := GG_down (A := A) (B := B) i j' hj
      exact ⟨0, i, j' + 1, i, j', rfl, rfl, fun t ht => absurd ht (Nat.not_lt_zero _), .inr ⟨rfl, rfl⟩, ⟨hi, Nat.le_of_succ_le hj, op_sum h1 h2 hs q⟩, op_pred q⟩
    match i, j with
    | 0, 0 => rw [FF_zero] at hf; omega
    | 0, j + 1 => exact down j rfl (by simp [FF, lcs_nil_left])
    | i + 1, 0 => exact right i rfl (by simp [FF, lcs_nil_right])
    | i + 1, j + 1 =>
      have h1 : A[i]? = some A[i] := by simp
      have h2 : B[j]? = some B[j] := by simp
      by_cases hab : A[i] = B[j]
      · rw [← hab] at h2
        have e1 := FF_diag h1 h2
        have e2 := GG_diag h1 h2
        rw [e1, e2] at hs
        rw [e1] at hf
        obtain ⟨s, i₁, j₁, i', j', a1, a2, a3, a4, a5, a6⟩ := ih (i + j) (op_less hn) i j rfl ⟨Nat.le_of_succ_le hi, Nat.le_of_succ_le hj, hs⟩ hf
        refine ⟨s + 1, i₁, j₁, i', j', congrArg Nat.succ a1, congrArg Nat.succ a2, fun t ht => ?_, a4, a5, by rw [e1]; exact a6⟩
        by_cases hts : t < s
        · exact a3 t hts
        · have : t = s := Nat.le_antisymm (Nat.le_of_lt_succ ht) (Nat.not_lt.mp hts)
          subst this
          exact ⟨_, by rw [← a1]; exact h1, by rw [← a2]; exact h2⟩
      · have e : lcs (A.take (i + 1)) (B.take (j + 1)) = max (lcs (A.take i) (B.take (j + 1))) (lcs (A.take (i + 1)) (B.take j)) := by
          conv => lhs; rw [take_snoc h1, take_snoc h2]
          rw [lcs_snoc_diff hab, ← take_snoc h1, ← take_snoc h2]
        by_cases hm : lcs (A.take i) (B.take (j + 1)) ≤ lcs (A.take (i + 1)) (B.take j)
        · exact down j rfl (by unfold FF; rw [e]; omega)
        · exact right i rfl (by unfold FF; rw [e]; omega)
theorem ff_max {i j l r : Nat} (a1 : 0 ≤ (i : Int) + ((j + 1 : Nat) : Int) - 2 * (l : Int)) (a2 : 0 ≤ ((i + 1 : Nat) : Int) + (j : Int) - 2 * (r : Int)) (hf : ((i + 1 : Nat) : Int) + ((j + 1 : Nat) : Int) - 2 * ((max l r : Nat) : Int) = 0) : False := by
  rcases Nat.le_total l r with h | h
  · rw [Nat.max_eq_right h] at hf; clear a1 h; omega
  · rw [Nat.max_eq_left h] at hf; clear a2 h; omega
/-- without a step there are like signs alone -/
theorem FF_none : ∀ (n i j : Nat), i + j = n → i ≤ A.length → j ≤ B.length → FF A B i j = 0 → i = j ∧ ∀ t < i, ∃ a, A[t]? = some a ∧ B[t]? = some a := by
  intro n
  induction n using Nat.strongRecOn with
  | ind n ih =>
    intro i j hn hi hj hf
    match i, j with
    | 0, 0 => exact ⟨rfl, fun t ht => absurd ht (Nat.not_lt_zero _)⟩
    | 0, j + 1 => exact absurd hf (Int.ne_of_gt (Int.lt_of_lt_of_le (by omega) (FF_lower (A := A) (B := B) 0 (j + 1)).2))
    | i + 1, 0 => exact absurd hf (Int.ne_of_gt (Int.lt_of_lt_of_le (by omega) (FF_lower (A := A) (B := B) (i + 1) 0).1))
    | i + 1, j + 1 =>
      have h1 : A[i]? = some A[i] := by simp
      have h2 : B[j]? = some B[j] := by simp
      have hab : A[i] = B[j] := by
        refine Classical.byContradiction fun hab => ?_
        have e : lcs (A.take (i + 1)) (B.take (j + 1)) = max (lcs (A.take i) (B.take (j + 1))) (lcs (A.take (i + 1)) (B.take j)) := by
          conv => lhs; rw [take_snoc h1, take_snoc h2]
          rw [lcs_snoc_diff hab, ← take_snoc h1, ← take_snoc h2]
        have a1 := FF_nonneg (A := A) (B := B) i (j + 1)
        have a2 := FF_nonneg (A := A) (B := B) (i + 1) j
        unfold FF at a1 a2 hf; rw [e] at hf
        exact ff_max a1 a2 hf
      rw [← hab] at h2
      have e1 := FF_diag h1 h2
      obtain ⟨a1, a2⟩ := ih (i + j) (op_less hn) i j rfl (Nat.le_of_succ_le hi) (Nat.le_of_succ_le hj) (by rw [← e1]; exact hf)
      subst a1
      refine ⟨rfl, fun t ht => ?_⟩
      by_cases hts : t < i
      · exact a2 t hts
      · have : t = i := Nat.le_antisymm (Nat.le_of_lt_succ ht) (Nat.not_lt.mp hts)
        subst this
        exact ⟨_, h1, h2⟩
theorem Opt_end : Opt A B A.length B.length := ⟨Nat.le_refl _, Nat.le_refl _, by rw [FF_end]; simp [GG, lcs_nil_left]⟩
/-- every number of steps up to the least has its point on a best way -/
theorem Opt_at (d : Nat) (h : (d : Int) ≤ ed A B) : ∃ i j, Opt A B i j ∧ FF A B i j = d := by
  have key : ∀ k : Nat, ∀ i j, Opt A B i j → FF A B i j = d + k → ∃ i j, Opt A B i j ∧ FF A B i j = d := by
    intro k
    induction k with
    | zero => intro i j ho hf; exact ⟨i, j, ho, by omega⟩
    | succ k ih =>
      intro i j ho hf
      obtain ⟨s, i₁, j₁, i', j', _, _, _, _, ho', hf'⟩ := Opt_pred _ i j rfl ho (by omega)
      exact ih i' j' ho' (by omega)
  exact key (ed A B - d).toNat _ _ Opt_end (by rw [FF_end]; omega)
theorem ed_nonneg : 0 ≤ ed A B := by rw [← FF_end]; exact FF_nonneg _ _
end
end
section
set_option autoImplicit false
set_option linter.unusedVariables false
/-! one side of the search -/
section
variable (A B : List Nat)
noncomputable def F (x y : Int) : Int := FF A B x.toNat y.toNat
noncomputable def Val (d k x : Int) : Prop := x = -1 ∨ (0 ≤ x ∧ 0 ≤ x - k ∧ F A B x (x - k) ≤ d)
noncomputable def OffX (d m x : Int) : Prop := (A.length : Int) < x ∧ 0 ≤ x - m ∧ F A B x (x - m) ≤ d
noncomputable def OffY (d m x : Int) : Prop := (B.length : Int) < x - m ∧ 0 ≤ x ∧ F A B x (x - m) ≤ d
noncomputable def xsOf (d : Int) (v : Int → Int) (k : Int) : Int := if k = -d ∨ (k ≠ d ∧ v (k - 1) < v (k + 1)) then v (k + 1) else v (k - 1) + 1
noncomputable def Like (x y : Int) : Prop := ∃ a, A[x.toNat]? = some a ∧ B[y.toNat]? = some a
noncomputable def StartOk (d k xs : Int) : Prop := 0 ≤ xs ∧ 0 ≤ xs - k ∧ F A B xs (xs - k) ≤ d ∧
  ∀ i j : Nat, Opt A B i j → FF A B i j = d → (i : Int) - j = k → ∃ i₁ : Int, i₁ ≤ xs ∧ ∀ t : Int, i₁ ≤ t → t < i → 0 ≤ t - k ∧ Like A B t (t - k)
noncomputable def EndOk (d k x : Int) : Prop := 0 ≤ x ∧ 0 ≤ x - k ∧ F A B x (x - k) ≤ d ∧ ∀ i j : Nat, Opt A B i j → FF A B i j = d → (i : Int) - j = k → (i : Int) ≤ x
structure Pre (d ks ke : Int) (v : Int → Int) : Prop where
  ev : ks % 2 = 0 ∧ ke % 2 = 0 ∧ 0 ≤ ks ∧ 0 ≤ ke
  start : ∀ k, (k - d) % 2 = 0 → -d + ks ≤ k → k ≤ d - ke → StartOk A B d k (xsOf d v k)
  vis : ∀ i j : Nat, Opt A B i j → FF A B i j = d → -d + ks ≤ (i : Int) - j ∧ (i : Int) - j ≤ d - ke
  stale : ∀ k, (k - d) % 2 = 0 → (k < -d + ks ∨ d - ke < k) → Val A B d k (v k)
  old : ∀ k, (k - d) % 2 ≠ 0 → Val A B (d - 1) k (v k) ∨ (d = 0 ∧ k = 1 ∧ v k = 0)
  prX : ke = 0 ∨ ∃ m x, m ≤ d - ke + 1 ∧ OffX A B (d - 1) m x
  prY : ks = 0 ∨ ∃ m x, -d + ks - 1 ≤ m ∧ OffY A B (d - 1) m x
  cmp : ∀ i j : Nat, Opt A B i j → FF A B i j = d - 1 → (i : Int) ≤ v ((i : Int) - j)
structure Mid (d ks0 ke0 : Int) (v0 : Int → Int) (kc ks ke : Int) (v : Int → Int) : Prop where
  ev : ks % 2 = 0 ∧ ke % 2 = 0 ∧ 0 ≤ ks ∧ 0 ≤ ke
  par : (kc - d) % 2 = 0
  m1 : ∀ k, (k - d) % 2 ≠ 0 → v k = v0 k
  m2 : ∀ k, (k - d) % 2 = 0 → (k < -d + ks0 ∨ kc ≤ k) → v k = v0 k
  m3 : ∀ k, (k - d) % 2 = 0 → -d + ks0 ≤ k → k < kc → EndOk A B d k (v k)
  m4 : ke = ke0 ∨ ∃ m x, OffX A B d m x ∧ m + (ke - ke0) ≤ kc
  m5 : ks = ks0 ∨ ∃ m x, OffY A B d m x ∧ -d + ks ≤ m + 2
  m6 : -d + ks ≤ kc ∧ -d + ks0 ≤ kc
  m7 : ks0 ≤ ks ∧ ke0 ≤ ke
end
section
variable {A B : List Nat}
theorem F_lower {x y : Int} (hx : 0 ≤ x) (hy : 0 ≤ y) : x - y ≤ F A B x y ∧ y - x ≤ F A B x y := by
  obtain ⟨x, rfl⟩ := Int.eq_ofNat_of_zero_le hx
  obtain ⟨y, rfl⟩ := Int.eq_ofNat_of_zero_le hy
  exact FF_lower x y
theorem F_up {x y : Int} (hx : 0 ≤ x) (hy : 0 ≤ y) : ed A B ≤ F A B x y + A.length + B.length - x - y := by
  obtain ⟨x, rfl⟩ := Int.eq_ofNat_of_zero_le hx
  obtain ⟨y, rfl⟩ := Int.eq_ofNat_of_zero_le hy
  exact FF_up x y
theorem F_right {x y : Int} (hx : 0 ≤ x) (hy : 0 ≤ y) : F A B (x + 1) y ≤ F A B x y + 1 := by
  obtain ⟨x, rfl⟩ := Int.eq_ofNat_of_zero_le hx
  obtain ⟨y, rfl⟩ := Int.eq_ofNat_of_zero_le hy
  exact FF_right x y
theorem F_down {x y : Int} (hx : 0 ≤ x) (hy : 0 ≤ y) : F A B x (y + 1) ≤ F A B x y + 1 := by
  obtain ⟨x, rfl⟩ := Int.eq_ofNat_of_zero_le hx
  obtain ⟨y, rfl⟩ := Int.eq_ofNat_of_zero_le hy
  exact FF_down x y
theorem F_like {x y : Int} (hx : 0 ≤ x) (hy : 0 ≤ y) (h : Like A B x y) : F A B (x + 1) (y + 1) = F A B x y := by
  obtain ⟨x, rfl⟩ := Int.eq_ofNat_of_zero_le hx
  obtain ⟨y, rfl⟩ := Int.eq_ofNat_of_zero_le hy
  obtain ⟨a, h1, h2⟩ := h
  exact FF_diag (i := x) (j := y) h1 h2
theorem Val.mono {d d' k x : Int} (h : Val A B d k x) (hd : d ≤ d') : Val A B d' k x := h.imp id fun ⟨a, b, c⟩ => ⟨a, b, Int.le_trans c hd⟩
theorem EndOk.val {d k x : Int} (h : EndOk A B d k x) : Val A B d k x := .inr ⟨h.1, h.2.1, h.2.2.1⟩
theorem ar_abs {x k f d : Int} (h1 : x - (x - k) ≤ f ∧ (x - k) - x ≤ f) (h : f ≤ d) : k ≤ d ∧ -d ≤ k := by omega
theorem Val.abs {d k x : Int} (h : Val A B d k x) (hx : x ≠ -1) : k ≤ d ∧ -d ≤ k ∧ 0 ≤ x ∧ 0 ≤ x - k ∧ F A B x (x - k) ≤ d := by
  obtain h | ⟨h1, h2, h3⟩ := h
  · exact absurd h hx
  · have := ar_abs (F_lower (A := A) (B := B) h1 h2) h3
    exact ⟨this.1, this.2, h1, h2, h3⟩
theorem Opt_lower {i j : Nat} (h : Opt A B i j) : FF A B i j + ((A.length - i) - (B.length - j)) ≤ ed A B ∧ FF A B i j + ((B.length - j) - (A.length - i)) ≤ ed A B := by
  have g := GG_lower (A := A) (B := B) i j h.1 h.2.1
  rw [← h.2.2]
  exact ⟨Int.add_le_add_left g.1 _, Int.add_le_add_left g.2 _⟩
theorem ar_offx {e f a b x m g i j d : Int} (h1 : e ≤ f + a + b - x - (x - m)) (h2 : g + ((b - j) - (a - i)) ≤ e) (h3 : a < x) (h4 : f ≤ d) (hf : d - 1 ≤ g) (hk : m ≤ i - j) : False := by omega
theorem ar_offy {e f a b x m g i j d : Int} (h1 : e ≤ f + a + b - x - (x - m)) (h2 : g + ((a - i) - (b - j)) ≤ e) (h3 : b < x - m) (h4 : f ≤ d) (hf : d - 1 ≤ g) (hk : i - j ≤ m) : False := by omega
theorem pos_of_lt {n : Nat} {x : Int} (h : (n : Int) < x) : 0 ≤ x := Int.le_of_lt (Int.lt_of_le_of_lt (Int.natCast_nonneg n) h)
/-- a point on a best way is on no diagonal beyond one that went off -/
theorem OffX.no {d m x : Int} (h : OffX A B d m x) {i j : Nat} (ho : Opt A B i j) (hf : d - 1 ≤ FF A B i j) (hk : m ≤ (i : Int) - j) : False :=
  ar_offx (F_up (A := A) (B := B) (pos_of_lt h.1) h.2.1) (Opt_lower ho).2 h.1 h.2.2 hf hk
theorem OffY.no {d m x : Int} (h : OffY A B d m x) {i j : Nat} (ho : Opt A B i j) (hf : d - 1 ≤ FF A B i j) (hk : (i : Int) - j ≤ m) : False :=
  ar_offy (F_up (A := A) (B := B) h.2.1 (pos_of_lt h.1)) (Opt_lower ho).1 h.1 h.2.2 hf hk
theorem ar_over {i j l a : Nat} (h1 : l ≤ a) (h2 : l ≤ j) (h : a < i) : ¬ ((i : Int) + j - 2 * l ≤ 0) := by omega
theorem FF_overX {i j : Nat} (h : A.length < i) : ¬ FF A B i j ≤ 0 :=
  ar_over (Nat.le_trans (lcs_le_left (A.take i) (B.take j)) (List.length_take_le' i A)) (Nat.le_trans (lcs_le_right (A.take i) (B.take j)) (List.length_take_le j B)) h
theorem FF_overY {i j : Nat} (h : B.length < j) : ¬ FF A B i j ≤ 0 := fun q => by
  unfold FF at q
  rw [Int.add_comm] at q
  exact ar_over (Nat.le_trans (lcs_le_right (A.take i) (B.take j)) (List.length_take_le' j B)) (Nat.le_trans (lcs_le_left (A.take i) (B.take j)) (List.length_take_le i A)) h q
theorem OffX.zero {d m x : Int} (h : OffX A B d m x) (hd : d ≤ 0) : False := by
  obtain ⟨h1, h2, h3⟩ := h
  obtain ⟨x, rfl⟩ := Int.eq_ofNat_of_zero_le (pos_of_lt h1)
  exact FF_overX (Int.ofNat_lt.mp h1) (Int.le_trans h3 hd)
theorem OffY.zero {d m x : Int} (h : OffY A B d m x) (hd : d ≤ 0) : False := by
  obtain ⟨h1, h2, h3⟩ := h
  obtain ⟨y, hy⟩ := Int.eq_ofNat_of_zero_le (pos_of_lt h1)
  rw [hy] at h1 h3
  exact FF_overY (Int.ofNat_lt.mp h1) (Int.le_trans h3 hd)
theorem OffX.mono {d d' m x : Int} (h : OffX A B d m x) (hd : d ≤ d') : OffX A B d' m x := ⟨h.1, h.2.1, Int.le_trans h.2.2 hd⟩
theorem OffY.mono {d d' m x : Int} (h : OffY A B d m x) (hd : d ≤ d') : OffY A B d' m x := ⟨h.1, h.2.1, Int.le_trans h.2.2 hd⟩

theorem nn_add {x : Int} (h : 0 ≤ x) (t : Nat) : 0 ≤ x + t := Int.add_nonneg h (Int.natCast_nonneg t)
theorem F_run {x y : Int} (hx : 0 ≤ x) (hy : 0 ≤ y) : ∀ t : Nat, (∀ u : Nat, u < t → Like A B (x + u) (y + u)) → F A B (x + t) (y + t) = F A B x y
  | 0, _ => by rw [Int.natCast_zero, Int.add_zero, Int.add_zero]
  | t + 1, h => by
    have h1 := F_like (A := A) (B := B) (nn_add hx t) (nn_add hy t) (h t (Nat.lt_succ_self t))
    have h2 := F_run hx hy t fun u hu => h u (Nat.lt_succ_of_lt hu)
    rw [Int.natCast_succ, ← Int.add_assoc, ← Int.add_assoc, h1, h2]
theorem ar_swap (xs k t : Int) : xs + t - k = xs - k + t := by omega
theorem ar_lt1 {i j a b xs k t : Int} (hi : i ≤ a) (hj : j ≤ b) (hk : i - j = k) (h : xs + t < i) : xs + t < a ∧ xs - k + t < b := by omega
/-- from the start of a row of like signs to its end -/
theorem end_of_start {d k xs : Int} (h : StartOk A B d k xs) {t : Nat} (run : ∀ u : Nat, u < t → Like A B (xs + u) (xs - k + u))
    (stop : ¬ (xs + t < A.length ∧ xs - k + t < B.length ∧ Like A B (xs + t) (xs - k + t))) : EndOk A B d k (xs + t) := by
  obtain ⟨h1, h2, h3, h4⟩ := h
  have e := F_run (A := A) (B := B) h1 h2 t run
  refine ⟨nn_add h1 t, by rw [ar_swap]; exact nn_add h2 t, by rw [ar_swap, e]; exact h3, fun i j ho hf hk => ?_⟩
  obtain ⟨i₁, g1, g2⟩ := h4 i j ho hf hk
  refine Classical.byContradiction fun hlt => stop ?_
  have hlt := Int.not_le.mp hlt
  have hb := ar_lt1 (Int.ofNat_le.mpr ho.1) (Int.ofNat_le.mpr ho.2.1) hk hlt
  have := (g2 (xs + t) (Int.le_trans g1 (Int.le_add_of_nonneg_right (Int.natCast_nonneg t))) hlt).2
  rw [ar_swap] at this
  exact ⟨hb.1, hb.2, this⟩
theorem Pre.zero {v : Int → Int} (hv : ∀ k, v k = if k = 1 then 0 else -1) : Pre A B 0 0 0 v where
  ev := ⟨rfl, rfl, Int.le_refl _, Int.le_refl _⟩
  start := fun k hk h1 h2 => by
    have : k = 0 := Int.le_antisymm h2 h1
    subst this
    have e : xsOf 0 v 0 = 0 := by unfold xsOf; rw [if_pos (.inl rfl), hv]; rfl
    rw [e]
    refine ⟨Int.le_refl _, Int.le_refl _, Int.le_of_eq FF_zero, fun i j ho hf hk => ⟨0, Int.le_refl _, fun t ht hti => ⟨by rw [Int.sub_zero]; exact ht, ?_⟩⟩⟩
    obtain ⟨e1, e2⟩ := FF_none _ i j rfl ho.1 ho.2.1 hf
    obtain ⟨t, rfl⟩ := Int.eq_ofNat_of_zero_le ht
    rw [Int.sub_zero]
    exact e2 t (Int.ofNat_lt.mp hti)
  vis := fun i j ho hf => by
    obtain ⟨e1, e2⟩ := FF_none _ i j rfl ho.1 ho.2.1 hf
    subst e1
    rw [Int.sub_self]; exact ⟨Int.le_refl _, Int.le_refl _⟩
  stale := fun k hk hh => .inl (by rw [hv, if_neg (fun q => by rw [q] at hk; cases hk)])
  old := fun k hk => by
    by_cases h1 : k = 1
    · exact .inr ⟨rfl, h1, by rw [hv, if_pos h1]⟩
    · exact .inl (.inl (by rw [hv, if_neg h1]))
  prX := .inl rfl
  prY := .inl rfl
  cmp := fun i j ho hf => absurd (FF_nonneg (A := A) (B := B) i j) (by rw [hf]; decide)
theorem ev_mul {k : Int} (h : k % 2 = 0) : (k + 2) % 2 = 0 := by omega
theorem ev_init {d ks : Int} (h : ks % 2 = 0) : (-d + ks - d) % 2 = 0 := by omega
theorem Mid.init {d ks ke : Int} {v : Int → Int} (P : Pre A B d ks ke v) : Mid A B d ks ke v (-d + ks) ks ke v where
  ev := P.ev
  par := ev_init P.ev.1
  m1 := fun _ _ => rfl
  m2 := fun _ _ _ => rfl
  m3 := fun k _ h1 h2 => absurd h1 (Int.not_le.mpr h2)
  m4 := .inl rfl
  m5 := .inl rfl
  m6 := ⟨Int.le_refl _, Int.le_refl _⟩
  m7 := ⟨Int.le_refl _, Int.le_refl _⟩
theorem par_m {k d : Int} (h : (k - d) % 2 = 0) : (k - 1 - d) % 2 ≠ 0 := by omega
theorem par_p {k d : Int} (h : (k - d) % 2 = 0) : (k + 1 - d) % 2 ≠ 0 := by omega
theorem Mid.xs {d ks0 ke0 kc ks ke : Int} {v0 v : Int → Int} (M : Mid A B d ks0 ke0 v0 kc ks ke v) : xsOf d v kc = xsOf d v0 kc := by
  unfold xsOf
  rw [M.m1 (kc - 1) (par_m M.par), M.m1 (kc + 1) (par_p M.par)]
noncomputable def setf (v : Int → Int) (k x : Int) : Int → Int := fun j => if j = k then x else v j
theorem st_ne {k kc z : Int} (h6 : z ≤ kc) (hh : k < z ∨ kc + 2 ≤ k) : k ≠ kc := by omega
theorem st_lt {k kc d : Int} (h1 : (k - d) % 2 = 0) (h2 : (kc - d) % 2 = 0) (h3 : k < kc + 2) (h4 : k ≠ kc) : k < kc := by omega
theorem st_ev {k d : Int} (h : (k - d) % 2 = 0) : (k + 2 - d) % 2 = 0 := by omega
theorem st_up {a b : Int} (h : a ≤ b) : a ≤ b + 2 := Int.le_trans h (Int.le_add_of_nonneg_right (by decide))
theorem st_add {d a c : Int} (h : -d + a ≤ c) : -d + (a + 2) ≤ c + 2 := by rw [← Int.add_assoc]; exact Int.add_le_add_right h 2
theorem st_m4 {m ke ke0 kc : Int} (h : m + (ke - ke0) ≤ kc) : m + (ke + 2 - ke0) ≤ kc + 2 := by omega
theorem st_z4 {kc ke0 : Int} : kc + (ke0 + 2 - ke0) ≤ kc + 2 := by omega
theorem Mid.step {d ks0 ke0 kc ks ke : Int} {v0 v : Int → Int} (M : Mid A B d ks0 ke0 v0 kc ks ke v) {x ks' ke' : Int} (hx : EndOk A B d kc x)
    (hk : (x > A.length ∧ ke' = ke + 2 ∧ ks' = ks) ∨ (¬ x > A.length ∧ x - kc > B.length ∧ ks' = ks + 2 ∧ ke' = ke) ∨ (¬ x > A.length ∧ ¬ x - kc > B.length ∧ ks' = ks ∧ ke' = ke)) :
    Mid A B d ks0 ke0 v0 (kc + 2) ks' ke' (setf v kc x) := by
  have par := M.par
  obtain ⟨ev1, ev2, ev3, ev4⟩ := M.ev
  obtain ⟨l1, l2⟩ := M.m6
  obtain ⟨g1, g2⟩ := M.m7
  have pm1 : ∀ k, (k - d) % 2 ≠ 0 → setf v kc x k = v0 k := fun k h => (if_neg fun q => h (by rw [q]; exact par)).trans (M.m1 k h)
  have pm2 : ∀ k, (k - d) % 2 = 0 → (k < -d + ks0 ∨ kc + 2 ≤ k) → setf v kc x k = v0 k := fun k h hh =>
    (if_neg (st_ne l2 hh)).trans (M.m2 k h (hh.imp id fun q => Int.le_trans (st_up (Int.le_refl kc)) q))
  have pm3 : ∀ k, (k - d) % 2 = 0 → -d + ks0 ≤ k → k < kc + 2 → EndOk A B d k (setf v kc x k) := fun k h q1 q2 => by
    by_cases hc : k = kc
    · subst hc; unfold setf; rw [if_pos rfl]; exact hx
    · unfold setf; rw [if_neg hc]; exact M.m3 k h q1 (st_lt h par q2 hc)
  have q4 : ke = ke0 ∨ ∃ m x, OffX A B d m x ∧ m + (ke - ke0) ≤ kc + 2 := M.m4.imp id fun ⟨m, x, o, h⟩ => ⟨m, x, o, st_up h⟩
  have q5 : ks = ks0 ∨ ∃ m x, OffY A B d m x ∧ -d + ks ≤ m + 2 := M.m5
  rcases hk with ⟨h1, rfl, rfl⟩ | ⟨h1, h2, rfl, rfl⟩ | ⟨h1, h2, rfl, rfl⟩
  · refine ⟨⟨ev1, ev_mul ev2, ev3, st_up ev4⟩, st_ev par, pm1, pm2, pm3, ?_, q5, ⟨st_up l1, st_up l2⟩, ⟨g1, st_up g2⟩⟩
    rcases M.m4 with hm | ⟨m, x', o, hm⟩
    · exact .inr ⟨kc, x, ⟨h1, hx.2.1, hx.2.2.1⟩, by rw [hm]; exact st_z4⟩
    · exact .inr ⟨m, x', o, st_m4 hm⟩
  · exact ⟨⟨ev_mul ev1, ev2, st_up ev3, ev4⟩, st_ev par, pm1, pm2, pm3, q4, .inr ⟨kc, x, ⟨h2, hx.1, hx.2.2.1⟩, st_add l1⟩, ⟨st_add l1, st_up l2⟩, ⟨st_up g1, g2⟩⟩
  · exact ⟨⟨ev1, ev2, ev3, ev4⟩, st_ev par, pm1, pm2, pm3, q4, q5, ⟨st_up l1, st_up l2⟩, ⟨g1, g2⟩⟩
/-- what stands when the turn is over -/
theorem Mid.val {d ks0 ke0 kc ks ke : Int} {v0 v : Int → Int} (P : Pre A B d ks0 ke0 v0) (M : Mid A B d ks0 ke0 v0 kc ks ke v) (hend : d - ke0 < kc) : ∀ k, (k - d) % 2 = 0 → Val A B d k (v k) := by
  intro k hk
  by_cases h1 : -d + ks0 ≤ k
  · by_cases h2 : k < kc
    · exact (M.m3 k hk h1 h2).val
    · have h2 := Int.not_lt.mp h2
      rw [M.m2 k hk (.inr h2)]
      exact P.stale k hk (.inr (Int.lt_of_lt_of_le hend h2))
  · have h1 := Int.not_le.mp h1
    rw [M.m2 k hk (.inl h1)]
    exact P.stale k hk (.inl h1)
theorem par_FF (i j : Nat) : ((i : Int) - j - FF A B i j) % 2 = 0 := by unfold FF; omega
theorem Mid.cmp {d ks0 ke0 kc ks ke : Int} {v0 v : Int → Int} (P : Pre A B d ks0 ke0 v0) (M : Mid A B d ks0 ke0 v0 kc ks ke v) (hend : d - ke0 < kc) {i j : Nat} (ho : Opt A B i j) (hf : FF A B i j = d) :
    (i : Int) ≤ v ((i : Int) - j) ∧ EndOk A B d ((i : Int) - j) (v ((i : Int) - j)) := by
  obtain ⟨h1, h2⟩ := P.vis i j ho hf
  have := M.m3 _ (by rw [← hf]; exact par_FF i j) h1 (Int.lt_of_le_of_lt h2 hend)
  exact ⟨this.2.2.2 i j ho hf rfl, this⟩
theorem opt_of {d : Int} (hd : 0 ≤ d) (h : d ≤ ed A B) : ∃ i j, Opt A B i j ∧ FF A B i j = d := by
  obtain ⟨n, rfl⟩ := Int.eq_ofNat_of_zero_le hd
  exact Opt_at n h
theorem Val.ge {d k x : Int} (h : Val A B d k x) : -1 ≤ x := by
  rcases h with h | h
  · exact Int.le_of_eq h.symm
  · exact Int.le_trans (by decide) h.1
theorem nx_x1 {m d ke0 : Int} (h : m ≤ d - ke0 + 1) : m ≤ d + 1 - ke0 + 1 := by omega
theorem nx_x2 {m d ke ke0 kc : Int} (h : m + (ke - ke0) ≤ kc) (h' : kc ≤ d - ke0 + 2) : m ≤ d + 1 - ke + 1 := by omega
theorem nx_y1 {m d ks0 : Int} (h : -d + ks0 - 1 ≤ m) : -(d + 1) + ks0 - 1 ≤ m := by omega
theorem nx_y2 {m d ks : Int} (h : -d + ks ≤ m + 2) : -(d + 1) + ks - 1 ≤ m := by omega
theorem nx_pm {k d : Int} (h : (k - (d + 1)) % 2 = 0) : (k - 1 - d) % 2 = 0 := by omega
theorem nx_pp {k d : Int} (h : (k - (d + 1)) % 2 = 0) : (k + 1 - d) % 2 = 0 := by omega
theorem nx_ps {k d : Int} (h : (k - (d + 1)) % 2 = 0) : (k - d) % 2 ≠ 0 := by omega
theorem nx_po {k d : Int} (h : (k - (d + 1)) % 2 ≠ 0) : (k - d) % 2 = 0 := by omega
theorem nx_in {k d ke ke0 kc : Int} (h2 : k ≤ d + 1 - ke) (g : ke0 ≤ ke) (hend : d - ke0 < kc) : k - 1 < kc := by omega
theorem nx_lo {k d ks ks0 : Int} (h1 : -(d + 1) + ks ≤ k) (g : ks0 ≤ ks) : -d + ks0 ≤ k + 1 := by omega
theorem nx_hi {k d ks0 ke0 kc : Int} (p : (k - 1 - d) % 2 = 0) (e : ks0 % 2 = 0) (h : ¬ -d + ks0 ≤ k - 1) (ne : -d + ks0 ≤ d - ke0) (hend : d - ke0 < kc) : k + 1 < kc := by omega
theorem nx_f1 {i s i' j j' : Nat} {k d f : Int} (a1 : i = i' + 1 + s) (a2 : j = j' + s) (hij : (i : Int) - j = k) (lo : (i' : Int) - j' ≤ f ∧ (j' : Int) - i' ≤ f) (hf : f = d) : (i' : Int) - j' = k - 1 ∧ -d ≤ k - 1 := by omega
theorem nx_f2 {i s i' j j' : Nat} {k d f : Int} (a1 : i = i' + s) (a2 : j = j' + 1 + s) (hij : (i : Int) - j = k) (lo : (i' : Int) - j' ≤ f ∧ (j' : Int) - i' ≤ f) (hf : f = d) : (i' : Int) - j' = k + 1 ∧ k + 1 ≤ d := by
  have e : (i' : Int) - j' = k + 1 := by clear lo hf; omega
  exact ⟨e, by rw [← e, ← hf]; exact lo.1⟩
theorem nx_run {i i₁ s j j₁ : Nat} {k t : Int} (a1 : i = i₁ + s) (a2 : j = j₁ + s) (hij : (i : Int) - j = k) (h1 : (i₁ : Int) ≤ t) (h2 : t < i) : ∃ u : Nat, u < s ∧ t = ((i₁ + u : Nat) : Int) ∧ t - k = ((j₁ + u : Nat) : Int) := ⟨(t - i₁).toNat, by omega, by omega, by omega⟩
theorem nx_c1 {k d a b : Int} (hc : k = -(d + 1) ∨ (k ≠ d + 1 ∧ a < b)) (one : 0 ≤ a ∨ 0 ≤ b) (q : b = -1) (w : a ≠ -1 → k - 1 ≤ d ∧ -d ≤ k - 1) (ga : -1 ≤ a) : False := by
  have h : a ≠ -1 := by omega
  have := w h
  omega
theorem nx_c2 {k d a b : Int} (hc : ¬ (k = -(d + 1) ∨ (k ≠ d + 1 ∧ a < b))) (one : 0 ≤ a ∨ 0 ≤ b) (q : a = -1) (w : b ≠ -1 → k + 1 ≤ d ∧ -d ≤ k + 1) : False := by
  have h : b ≠ -1 := by omega
  have := w h
  omega
theorem nx_d (b k : Int) : b - (k + 1) + 1 = b - k := by omega
theorem nx_r (a k : Int) : a - (k - 1) = a + 1 - k := by omega
theorem nx_u1 {i a b k d : Int} (hc : k = -(d + 1) ∨ (k ≠ d + 1 ∧ a < b)) (h : (i ≤ a + 1 ∧ -d ≤ k - 1) ∨ (i ≤ b ∧ k + 1 ≤ d)) : i ≤ b := by omega
theorem nx_u2 {i a b k d : Int} (hc : ¬ (k = -(d + 1) ∨ (k ≠ d + 1 ∧ a < b))) (h : (i ≤ a + 1 ∧ -d ≤ k - 1) ∨ (i ≤ b ∧ k + 1 ≤ d)) : i ≤ a + 1 := by omega
theorem nx_vx {g k d f m ks : Int} (lo : k ≤ f) (hf : f = d + 1) (h : ¬ k ≤ d + 1 - g) (q : g = 0 ∨ m ≤ d + 1 - g + 1) : g ≠ 0 ∧ (g = 0 ∨ m ≤ k) := by omega
theorem nx_vy {g k d f m : Int} (lo : -k ≤ f) (hf : f = d + 1) (h : ¬ -(d + 1) + g ≤ k) (q : g = 0 ∨ -(d + 1) + g - 1 ≤ m) : g ≠ 0 ∧ (g = 0 ∨ k ≤ m) := by omega
theorem nx_z {k : Int} (hk : k = 1) (hh : k < -(0 + 1) + 0 ∨ 0 + 1 - 0 < k) : False := by omega
theorem Mid.next {d ks0 ke0 kc ks ke : Int} {v0 v : Int → Int} (hd : 0 ≤ d) (P : Pre A B d ks0 ke0 v0) (M : Mid A B d ks0 ke0 v0 kc ks ke v) (hend : d - ke0 < kc) (hend' : kc ≤ d - ke0 + 2) (hD : d ≤ ed A B) :
    Pre A B (d + 1) ks ke v := by
  have dle : d - 1 ≤ d := Int.sub_le_self d (by decide)
  have prX : ke = 0 ∨ ∃ m x, m ≤ d + 1 - ke + 1 ∧ OffX A B d m x := by
    rcases M.m4 with h | ⟨m, x, o, h⟩
    · rcases P.prX with h' | ⟨m, x, h1, h2⟩
      · exact .inl (h.trans h')
      · exact .inr ⟨m, x, by rw [h]; exact nx_x1 h1, h2.mono dle⟩
    · exact .inr ⟨m, x, nx_x2 h hend', o⟩
  have prY : ks = 0 ∨ ∃ m x, -(d + 1) + ks - 1 ≤ m ∧ OffY A B d m x := by
    rcases M.m5 with h | ⟨m, x, o, h⟩
    · rcases P.prY with h' | ⟨m, x, h1, h2⟩
      · exact .inl (h.trans h')
      · exact .inr ⟨m, x, by rw [h]; exact nx_y1 h1, h2.mono dle⟩
    · exact .inr ⟨m, x, nx_y2 h, o⟩
  have hval := M.val P hend
  obtain ⟨ksge, kege⟩ := M.m7
  have ne : -d + ks0 ≤ d - ke0 := by
    obtain ⟨i, j, ho, hf⟩ := opt_of hd hD
    exact Int.le_trans (P.vis i j ho hf).1 (P.vis i j ho hf).2
  have cmp : ∀ i j : Nat, Opt A B i j → FF A B i j = d → (i : Int) ≤ v ((i : Int) - j) := fun i j ho hf => (M.cmp P hend ho hf).1
  have e1 : d + 1 - 1 = d := Int.add_sub_cancel d 1
  refine ⟨M.ev, ?_, ?_, ?_, ?_, ?_, ?_, ?_⟩
  · intro k hk h1 h2
    have p1 := nx_pm hk
    have p2 := nx_pp hk
    have v1 := hval (k - 1) p1
    have v2 := hval (k + 1) p2
    have one : 0 ≤ v (k - 1) ∨ 0 ≤ v (k + 1) := by
      by_cases h : -d + ks0 ≤ k - 1
      · exact .inl (M.m3 (k - 1) p1 h (nx_in h2 kege hend)).1
      · exact .inr (M.m3 (k + 1) p2 (nx_lo h1 ksge) (nx_hi p1 P.ev.1 h ne hend)).1
    -- where the best ways come from
    have from_ : ∀ i j : Nat, Opt A B i j → FF A B i j = d + 1 → (i : Int) - j = k → ∃ i₁ : Int, ((i₁ ≤ v (k - 1) + 1 ∧ -d ≤ k - 1) ∨ (i₁ ≤ v (k + 1) ∧ k + 1 ≤ d)) ∧ ∀ t : Int, i₁ ≤ t → t < i → 0 ≤ t - k ∧ Like A B t (t - k) := by
      intro i j ho hf hij
      obtain ⟨s, i₁, j₁, i', j', a1, a2, a3, a4, a5, a6⟩ := Opt_pred _ i j rfl ho (by rw [hf]; exact Int.le_add_of_nonneg_left hd)
      rw [hf, e1] at a6
      have c := cmp i' j' a5 a6
      have lo := FF_lower (A := A) (B := B) i' j'
      refine ⟨i₁, ?_, fun t h1 h2 => ?_⟩
      · rcases a4 with ⟨rfl, rfl⟩ | ⟨rfl, rfl⟩
        · obtain ⟨q1, q2⟩ := nx_f1 a1 a2 hij lo a6
          rw [q1] at c
          exact .inl ⟨Int.add_le_add_right c 1, q2⟩
        · obtain ⟨q1, q2⟩ := nx_f2 a1 a2 hij lo a6
          rw [q1] at c
          exact .inr ⟨c, q2⟩
      · obtain ⟨u, hu, e2, e3⟩ := nx_run a1 a2 hij h1 h2
        rw [e2] at e3
        rw [e2, e3]
        exact ⟨Int.natCast_nonneg _, a3 u hu⟩
    unfold xsOf
    by_cases hc : k = -(d + 1) ∨ (k ≠ d + 1 ∧ v (k - 1) < v (k + 1))
    · rw [if_pos hc]
      obtain ⟨b1, b2, b3, b4, b5⟩ := v2.abs fun q => nx_c1 hc one q (fun h => ⟨(v1.abs h).1, (v1.abs h).2.1⟩) v1.ge
      have b6 := F_down (A := A) (B := B) b3 b4
      rw [nx_d] at b6
      refine ⟨b3, by rw [← nx_d]; exact Int.le_add_one b4, Int.le_trans b6 (Int.add_le_add_right b5 1), fun i j ho hf hij => ?_⟩
      obtain ⟨i₁, h1, h2⟩ := from_ i j ho hf hij
      exact ⟨i₁, nx_u1 hc h1, h2⟩
    · rw [if_neg hc]
      obtain ⟨b1, b2, b3, b4, b5⟩ := v1.abs fun q => nx_c2 hc one q (fun h => ⟨(v2.abs h).1, (v2.abs h).2.1⟩)
      have b6 := F_right (A := A) (B := B) b3 b4
      rw [nx_r] at b4 b5 b6
      refine ⟨Int.le_add_one b3, b4, Int.le_trans b6 (Int.add_le_add_right b5 1), fun i j ho hf hij => ?_⟩
      obtain ⟨i₁, h1, h2⟩ := from_ i j ho hf hij
      exact ⟨i₁, nx_u2 hc h1, h2⟩
  · intro i j ho hf
    have lo := FF_lower (A := A) (B := B) i j
    have hf' : d - 1 ≤ FF A B i j := by rw [hf]; exact Int.le_trans dle (Int.le_add_one (Int.le_refl d))
    constructor
    · refine Classical.byContradiction fun h => ?_
      have lo' : -((i : Int) - j) ≤ FF A B i j := by rw [Int.neg_sub]; exact lo.2
      rcases prY with q | ⟨m, x, q1, q2⟩
      · exact (nx_vy (m := 0) lo' hf h (.inl q)).1 q
      · obtain ⟨r1, r2⟩ := nx_vy lo' hf h (.inr q1)
        exact q2.no ho hf' (r2.resolve_left r1)
    · refine Classical.byContradiction fun h => ?_
      rcases prX with q | ⟨m, x, q1, q2⟩
      · exact (nx_vx (m := 0) (ks := 0) lo.1 hf h (.inl q)).1 q
      · obtain ⟨r1, r2⟩ := nx_vx (ks := 0) lo.1 hf h (.inr q1)
        exact q2.no ho hf' (r2.resolve_left r1)
  · intro k hk hh
    rw [M.m1 k (nx_ps hk)]
    rcases P.old k (nx_ps hk) with h | ⟨h1, h2, h3⟩
    · exact h.mono (Int.le_trans dle (Int.le_add_one (Int.le_refl d)))
    · subst h1
      have z1 : ke = 0 := prX.resolve_right fun ⟨m, x, _, q⟩ => q.zero (Int.le_refl _)
      have z2 : ks = 0 := prY.resolve_right fun ⟨m, x, _, q⟩ => q.zero (Int.le_refl _)
      rw [z1, z2] at hh
      exact (nx_z h2 hh).elim
  · intro k hk
    exact .inl (by rw [e1]; exact hval k (nx_po hk))
  · exact prX.imp id fun ⟨m, x, h1, h2⟩ => ⟨m, x, h1, by rw [e1]; exact h2⟩
  · exact prY.imp id fun ⟨m, x, h1, h2⟩ => ⟨m, x, h1, by rw [e1]; exact h2⟩
  · exact fun i j ho hf => cmp i j ho (hf.trans e1)
end
end
section
set_option autoImplicit false
set_option linter.unusedVariables false
section
variable {A B : List Nat}
/-- a good place to cut -/
noncomputable def CutOk (A B : List Nat) (x y : Int) : Prop :=
  0 ≤ x ∧ x ≤ A.length ∧ 0 ≤ y ∧ y ≤ B.length ∧ 0 < x + y ∧ x + y < A.length + B.length ∧ ed (A.take x.toNat) (B.take y.toNat) + ed (A.drop x.toNat) (B.drop y.toNat) = ed A B
theorem cut_sum {f g a b e : Int} (h1 : f ≤ a) (h2 : g ≤ b) (h3 : a + b ≤ e) (h4 : e ≤ f + g) : f + g = e := by omega
theorem cut_zero {a b : Nat} (h : ¬ (0 : Int) < (a : Int) + b) : a = 0 ∧ b = 0 := by omega
theorem cut_full {a b m n : Nat} (h1 : a ≤ m) (h2 : b ≤ n) (h : ¬ (a : Int) + b < (m : Int) + n) : a = m ∧ b = n := by omega
theorem cut_nat {p q t k l : Nat} {a b : Int} (hA : A.length = p + k) (hB : B.length = q + l) (h2 : p + t ≤ A.length) (h4 : q + t ≤ B.length) (hf : FF A B (p + t) (q + t) ≤ a)
    (hg : FF A.reverse B.reverse k l ≤ b) (hD : a + b ≤ ed A B) (ha : a < ed A B) (hb : b < ed A B) : CutOk A B ((p + t : Nat) : Int) ((q + t : Nat) : Int) := by
  have e1 : GG A B p q ≤ b := by
    rw [GG_rev (hA ▸ Nat.le_add_right p k) (hB ▸ Nat.le_add_right q l), hA, hB, Nat.add_sub_cancel_left, Nat.add_sub_cancel_left]; exact hg
  have e2 := Int.le_trans (GG_mono (A := A) (B := B) p q t h2 h4) e1
  have e3 := FG (A := A) (B := B) h2 h4
  have e4 := ed_split (A := A) (B := B) h2 h4
  refine ⟨Int.natCast_nonneg _, Int.ofNat_le.mpr h2, Int.natCast_nonneg _, Int.ofNat_le.mpr h4, ?_, ?_, ?_⟩
  · refine Classical.byContradiction fun hn => ?_
    have q1 := cut_zero hn
    rw [q1.1, q1.2, FF_zero, Int.zero_add] at e3
    rw [q1.1, q1.2] at e2
    exact absurd (Int.le_trans e3 e2) (Int.not_le.mpr hb)
  · refine Classical.byContradiction fun hn => ?_
    have q1 := cut_full h2 h4 hn
    rw [q1.1, q1.2, FF_end] at hf
    exact absurd hf (Int.not_le.mpr ha)
  · show ed (A.take (p + t)) (B.take (q + t)) + ed (A.drop (p + t)) (B.drop (q + t)) = ed A B
    rw [← e4.1, ← e4.2]
    exact cut_sum hf e2 hD e3
theorem cut_split {a b i j k l : Nat} (g2 : k ≤ a) (g4 : l ≤ b) (hd : (a : Int) - k - (b - l) = i - j) (ho : (a : Int) - k ≤ i) : ∃ p q t, a = p + k ∧ b = q + l ∧ i = p + t ∧ j = q + t := by
  obtain ⟨p, rfl⟩ := Nat.exists_eq_add_of_le' g2
  obtain ⟨q, rfl⟩ := Nat.exists_eq_add_of_le' g4
  have h : p ≤ i := by omega
  obtain ⟨t, rfl⟩ := Nat.exists_eq_add_of_le h
  exact ⟨p, q, t, rfl, rfl, rfl, by omega⟩
theorem cut_core {x1 y1 x2 y2 a b : Int} (h1 : 0 ≤ x1) (h2 : x1 ≤ A.length) (h3 : 0 ≤ y1) (h4 : y1 ≤ B.length) (hf : F A B x1 y1 ≤ a)
    (g1 : 0 ≤ x2) (g2 : x2 ≤ A.length) (g3 : 0 ≤ y2) (g4 : y2 ≤ B.length) (hg : F A.reverse B.reverse x2 y2 ≤ b)
    (hdiag : A.length - x2 - (B.length - y2) = x1 - y1) (hov : A.length - x2 ≤ x1) (hD : a + b ≤ ed A B) (ha : a < ed A B) (hb : b < ed A B) : CutOk A B x1 y1 := by
  obtain ⟨i, rfl⟩ := Int.eq_ofNat_of_zero_le h1
  obtain ⟨j, rfl⟩ := Int.eq_ofNat_of_zero_le h3
  obtain ⟨k, rfl⟩ := Int.eq_ofNat_of_zero_le g1
  obtain ⟨l, rfl⟩ := Int.eq_ofNat_of_zero_le g3
  obtain ⟨p, q, t, hA, hB, rfl, rfl⟩ := cut_split (Int.ofNat_le.mp g2) (Int.ofNat_le.mp g4) hdiag hov
  exact cut_nat hA hB (Int.ofNat_le.mp h2) (Int.ofNat_le.mp h4) hf hg hD ha hb
theorem Val.offX {d k x : Int} (h : Val A B d k x) (hx : x ≠ -1) (ho : (A.length : Int) < x) : ed A B ≤ d - 2 + (B.length - A.length + k) := by
  obtain ⟨_, _, h1, h2, h3⟩ := h.abs hx
  have := F_up (A := A) (B := B) h1 h2
  omega
theorem Val.offY {d k x : Int} (h : Val A B d k x) (hx : x ≠ -1) (ho : (B.length : Int) < x - k) : ed A B ≤ d - 2 + (A.length - B.length - k) := by
  obtain ⟨_, _, h1, h2, h3⟩ := h.abs hx
  have := F_up (A := A) (B := B) h1 h2
  omega
/-- the two sides meet, the difference of the lengths odd -/
theorem detect_odd {d k1 x1 x2 : Int} (hd : 0 ≤ d) (hD : 2 * d - 1 ≤ ed A B) (hD2 : 2 ≤ ed A B) (e : EndOk A B d k1 x1) (hx : x1 ≤ A.length) (hy : x1 - k1 ≤ B.length)
    (h2 : Val A.reverse B.reverse (d - 1) (A.length - B.length - k1) x2) (hne : x2 ≠ -1) (hov : A.length - x2 ≤ x1) : CutOk A B x1 (x1 - k1) := by
  have hk := F_lower (A := A) (B := B) e.1 e.2.1
  have hf := e.2.2.1
  have nX : ¬ (A.length : Int) < x2 := fun q => by
    have := h2.offX hne (by simpa using q)
    rw [ed_rev] at this; simp only [List.length_reverse] at this; omega
  have nY : ¬ (B.length : Int) < x2 - (A.length - B.length - k1) := fun q => by
    have := h2.offY hne (by simpa using q)
    rw [ed_rev] at this; simp only [List.length_reverse] at this; omega
  obtain ⟨_, _, g1, g2, g3⟩ := h2.abs hne
  exact cut_core e.1 hx e.2.1 hy hf g1 (by omega) g2 (by omega) g3 (by omega) hov (by omega) (by omega) (by omega)
theorem detect_even {d k2 x1 x2 : Int} (hd : 0 ≤ d) (hD : 2 * d ≤ ed A B) (hD2 : 2 ≤ ed A B) (e : EndOk A.reverse B.reverse d k2 x2) (hx : x2 ≤ A.length) (hy : x2 - k2 ≤ B.length)
    (h1 : Val A B d (A.length - B.length - k2) x1) (hne : x1 ≠ -1) (hov : A.length - x2 ≤ x1) : CutOk A B x1 (x1 - (A.length - B.length - k2)) := by
  have hk := F_lower (A := A.reverse) (B := B.reverse) e.1 e.2.1
  have hf := e.2.2.1
  have nX : ¬ (A.length : Int) < x1 := fun q => by
    have := h1.offX hne q
    omega
  have nY : ¬ (B.length : Int) < x1 - (A.length - B.length - k2) := fun q => by
    have := h1.offY hne q
    omega
  obtain ⟨_, _, g1, g2, g3⟩ := h1.abs hne
  exact cut_core g1 (by omega) g2 (by omega) g3 e.1 hx e.2.1 hy hf (by omega) hov (by omega) (by omega) (by omega)
theorem ed_par : (ed A B - (A.length - B.length)) % 2 = 0 := by unfold ed; omega
theorem half_odd {e x d : Int} (h1 : (e - x) % 2 = 0) (h2 : x % 2 ≠ 0) (h3 : 2 * d - 1 ≤ e) (h4 : ¬ 2 * d + 1 ≤ e) : e = 2 * d - 1 := by omega
theorem half_even {e x d : Int} (h1 : (e - x) % 2 = 0) (h2 : x % 2 = 0) (h3 : 2 * d ≤ e) (h4 : ¬ 2 * d + 2 ≤ e) : e = 2 * d := by omega
/-- the same way from behind -/
theorem opt_back {i j : Nat} {d e : Int} (ho : Opt A B i j) (hf : FF A B i j = d) (he : ed A B = d + e) : ∃ k l : Nat, A.length = i + k ∧ B.length = j + l ∧ Opt A.reverse B.reverse k l ∧ FF A.reverse B.reverse k l = e := by
  obtain ⟨k, hA⟩ := Nat.exists_eq_add_of_le ho.1
  obtain ⟨l, hB⟩ := Nat.exists_eq_add_of_le ho.2.1
  have ro := Opt_rev ho
  have g := GG_rev ho.1 ho.2.1
  have h3 := ho.2.2
  rw [hA, hB, Nat.add_sub_cancel_left, Nat.add_sub_cancel_left] at ro g
  exact ⟨k, l, hA, hB, ro, by rw [← g]; rw [hf, he] at h3; exact Int.add_left_cancel h3⟩
theorem back_diag {i j k l m n : Nat} (hA : m = i + k) (hB : n = j + l) : (k : Int) - l = m - n - ((i : Int) - j) := by omega
theorem back_diag' {i j k l m n : Nat} (hA : m = i + k) (hB : n = j + l) : (m : Int) - n - ((k : Int) - l) = (i : Int) - j := by omega
theorem EndOk.off {d : Int} {i j : Nat} {x : Int} (e : EndOk A B d ((i : Int) - j) x) (ho : Opt A B i j) (hf : FF A B i j = d) : x ≤ A.length ∧ x - ((i : Int) - j) ≤ B.length := by
  constructor
  · refine Classical.byContradiction fun q => ?_
    exact OffX.no (A := A) (B := B) (d := d) (m := (i : Int) - j) (x := x) ⟨Int.not_le.mp q, e.2.1, e.2.2.1⟩ ho (by rw [hf]; exact Int.sub_le_self d (by decide)) (Int.le_refl _)
  · refine Classical.byContradiction fun q => ?_
    exact OffY.no (A := A) (B := B) (d := d) (m := (i : Int) - j) (x := x) ⟨Int.not_le.mp q, e.1, e.2.2.1⟩ ho (by rw [hf]; exact Int.sub_le_self d (by decide)) (Int.le_refl _)
theorem room1 {i j d mx z : Int} (h1 : i - j ≤ d ∧ j - i ≤ d) (h2 : z = i - j ∨ z = j - i) (h : d < mx) : 0 ≤ mx + z ∧ mx + z < 2 * mx := by omega
theorem meets {m p q i k : Int} (h1 : m = i + k) (h2 : k ≤ q) (h3 : i ≤ p) : m - q ≤ p := by omega
theorem notNeg {k q : Int} (h0 : 0 ≤ k) (h : k ≤ q) : q ≠ -1 := by omega
theorem lt_of_le_end {a b c : Int} (h1 : a ≤ b) (h2 : b < c) : a < c := by omega
/-- they did not meet in this turn -/
theorem miss_odd {d ks0 ke0 kc ks ke ks2 ke2 mx : Int} {v0 v v2 : Int → Int} (hd : 0 ≤ d) (hdm : d < mx) (hD : 2 * d - 1 ≤ ed A B) (hodd : ((A.length : Int) - B.length) % 2 ≠ 0)
    (P : Pre A B d ks0 ke0 v0) (M : Mid A B d ks0 ke0 v0 kc ks ke v) (hend : d - ke0 < kc) (P2 : Pre A.reverse B.reverse d ks2 ke2 v2)
    (chk : ∀ k1, (k1 - d) % 2 = 0 → -d + ks0 ≤ k1 → k1 < kc → v k1 ≤ A.length → v k1 - k1 ≤ B.length → ¬ (0 ≤ mx + (A.length - B.length - k1) ∧ mx + (A.length - B.length - k1) < 2 * mx ∧ v2 (A.length - B.length - k1) ≠ -1 ∧ A.length - v2 (A.length - B.length - k1) ≤ v k1)) :
    2 * d + 1 ≤ ed A B := by
  refine Classical.byContradiction fun hn => ?_
  have hDe := half_odd (ed_par (A := A) (B := B)) hodd hD hn
  have h0 := ed_nonneg (A := A) (B := B)
  obtain ⟨i, j, ho, hf⟩ := opt_of (A := A) (B := B) hd (by rw [hDe]; rw [hDe] at h0; clear chk hodd hn hD hdm hDe hend; omega)
  obtain ⟨k, l, hA, hB, ro, rf⟩ := opt_back (e := d - 1) ho hf (by rw [hDe]; clear chk hodd hn hD hdm hDe hend h0; omega)
  obtain ⟨c1, c2⟩ := M.cmp P hend ho hf
  obtain ⟨b1, b2⟩ := P.vis i j ho hf
  have c3 := P2.cmp _ _ ro rf
  have lo := FF_lower (A := A.reverse) (B := B.reverse) k l
  rw [rf] at lo
  have hkl := back_diag hA hB
  rw [hkl] at c3
  obtain ⟨nX, nY⟩ := c2.off ho hf
  have r := room1 (mx := mx) lo (.inl rfl) (Int.lt_trans (Int.sub_lt_self d (by decide)) hdm)
  rw [hkl] at r
  exact chk _ (by rw [← hf]; exact par_FF i j) b1 (lt_of_le_end b2 hend) nX nY ⟨r.1, r.2, notNeg (Int.natCast_nonneg k) c3, meets (by rw [hA]; exact Int.natCast_add i k) c3 c1⟩
theorem miss_even {d ks0 ke0 kc ks ke ks1 ke1 kc1 ks1' ke1' mx : Int} {v0 v v01 v1 : Int → Int} (hd : 0 ≤ d) (hdm : d < mx) (hD : 2 * d ≤ ed A B) (heven : ((A.length : Int) - B.length) % 2 = 0)
    (P1 : Pre A B d ks1 ke1 v01) (M1 : Mid A B d ks1 ke1 v01 kc1 ks1' ke1' v1) (hend1 : d - ke1 < kc1)
    (P : Pre A.reverse B.reverse d ks0 ke0 v0) (M : Mid A.reverse B.reverse d ks0 ke0 v0 kc ks ke v) (hend : d - ke0 < kc)
    (chk : ∀ k2, (k2 - d) % 2 = 0 → -d + ks0 ≤ k2 → k2 < kc → v k2 ≤ A.length → v k2 - k2 ≤ B.length → ¬ (0 ≤ mx + (A.length - B.length - k2) ∧ mx + (A.length - B.length - k2) < 2 * mx ∧ v1 (A.length - B.length - k2) ≠ -1 ∧ A.length - v k2 ≤ v1 (A.length - B.length - k2))) :
    2 * d + 2 ≤ ed A B := by
  refine Classical.byContradiction fun hn => ?_
  have hDe := half_even (ed_par (A := A) (B := B)) heven hD hn
  obtain ⟨i, j, ho, hf⟩ := opt_of (A := A) (B := B) hd (by rw [hDe]; clear chk heven hn hD hdm hDe hend hend1; omega)
  obtain ⟨k, l, hA, hB, ro, rf⟩ := opt_back (e := d) ho hf (by rw [hDe]; exact Int.two_mul d)
  have c3 := (M1.cmp P1 hend1 ho hf).1
  obtain ⟨c1, c2⟩ := M.cmp P hend ro rf
  obtain ⟨b1, b2⟩ := P.vis _ _ ro rf
  have lo := FF_lower (A := A) (B := B) i j
  rw [hf] at lo
  have hij := back_diag' hA hB
  obtain ⟨nX, nY⟩ := c2.off ro rf
  rw [List.length_reverse] at nX nY
  have r := room1 (mx := mx) lo (.inl rfl) hdm
  rw [← hij] at r c3
  exact chk _ (by rw [← rf]; exact par_FF k l) b1 (lt_of_le_end b2 hend) nX nY ⟨r.1, r.2, notNeg (Int.natCast_nonneg i) c3, meets (by rw [hA]; exact Int.natCast_add i k) c1 c3⟩
end
end
section
set_option autoImplicit false
set_option linter.unusedVariables false
/-- the table of the law -/
noncomputable def rowOf (x y : List Nat) : List Int := (List.range (y.length + 1)).map fun j => (lcs x (y.take j) : Int)
theorem rowOf_len (x y : List Nat) : (rowOf x y).length = y.length + 1 := by simp [rowOf]
theorem rowOf_get (x y : List Nat) {j : Nat} (h : j ≤ y.length) : (rowOf x y)[j]? = some (lcs x (y.take j) : Int) := by
  unfold rowOf
  rw [List.getElem?_map, List.getElem?_range (by omega)]; rfl
theorem rowOf_zero (y : List Nat) : rowOf [] y = List.replicate (y.length + 1) 0 := by
  apply List.ext_getElem?
  intro j
  by_cases h : j ≤ y.length
  · rw [rowOf_get [] y h, lcs_nil_left, List.getElem?_replicate, if_pos (by omega)]; rfl
  · rw [List.getElem?_eq_none (by rw [rowOf_len]; omega), List.getElem?_eq_none (by simp; omega)]
theorem dp_same {x y : List Nat} {j a : Nat} (h : y[j]? = some a) : lcs (x ++ [a]) (y.take (j + 1)) = lcs x (y.take j) + 1 := by
  rw [take_snoc h, lcs_snoc_same]
theorem dp_diff {x y : List Nat} {j a b : Nat} (h : y[j]? = some b) (hab : a ≠ b) : lcs (x ++ [a]) (y.take (j + 1)) = max (lcs x (y.take (j + 1))) (lcs (x ++ [a]) (y.take j)) := by
  rw [take_snoc h, lcs_snoc_diff hab]
theorem rowOf_take_succ (x y : List Nat) {j : Nat} (h : j + 1 ≤ y.length) : (rowOf x y).take (j + 2) = (rowOf x y).take (j + 1) ++ [(lcs x (y.take (j + 1)) : Int)] := by
  rw [List.take_add_one, rowOf_get x y h]; rfl
theorem rowOf_last (x y : List Nat) : (rowOf x y)[y.length]? = some (lcs x y : Int) := by
  rw [rowOf_get x y (Nat.le_refl _), List.take_length]
end
section
open PySem PySem.W PyProof.Rows
set_option Elab.async false
set_option autoImplicit false
set_option linter.unusedVariables false
noncomputable def atV : Nat → V
  | 0 => .int (-1)
  | 1 => .int 1
  | _ => .int 0
theorem at_0 : atV 0 = .int (-1) := rfl
theorem at_1 : atV 1 = .int 1 := rfl
theorem at_2 : atV 2 = .int 0 := rfl
theorem at_3 : atV 3 = .int 0 := rfl
noncomputable abbrev SP (Φ : Calls) (tool : Addr) : Sp := ⟨Φ, atV, tool⟩
section
variable {sp : Sp} {σ : St} {Q : Fl → St → Prop} {R : V → St → Prop} {B : Bool → St → Prop}
noncomputable def thenQ (sp : Sp) (b : S) (Q : Fl → St → Prop) : Fl → St → Prop
  | .next, σ => wpS sp b σ Q
  | .brk, σ => Q .brk σ
  | .cont, σ => Q .cont σ
  | .ret v, σ => Q (.ret v) σ
theorem thenQ_next {b : S} (h : wpS sp b σ Q) : thenQ sp b Q .next σ := h
theorem thenQ_ret {b : S} {v : V} (h : Q (.ret v) σ) : thenQ sp b Q (.ret v) σ := h
theorem wS_seq {a b : S} (h : wpS sp a σ (thenQ sp b Q)) : wpS sp (.seq a b) σ Q := by
  have e : thenQ sp b Q = fun f σ₁ => match f with | .next => wpS sp b σ₁ Q | f => Q f σ₁ := by funext f σ₁; cases f <;> rfl
  rw [e] at h; exact h
theorem wS_skip (h : Q .next σ) : wpS sp .skip σ Q := h
theorem wS_asg {i : Nat} {x : X} (h : wpX sp x σ fun v σ₁ => Q .next (σ₁.set i v)) : wpS sp (.asg i x) σ Q := h
theorem wS_ret {x : X} (h : wpX sp x σ fun v σ₁ => Q (.ret v) σ₁) : wpS sp (.ret x) σ Q := h
theorem wS_expr {x : X} (h : wpX sp x σ fun _ σ₁ => Q .next σ₁) : wpS sp (.expr x) σ Q := h
theorem wS_ite {t : T} {a b : S} (h : wpT sp t σ fun c σ₁ => if c = true then wpS sp a σ₁ Q else wpS sp b σ₁ Q) : wpS sp (.ite t a b) σ Q := h
theorem wS_aug {i : Nat} {op : Operator} {x : X} {u : V} (hu : σ.loc[i]? = some (some u)) (h : wpX sp x σ fun v σ₁ => vaug op u v σ₁ fun r σ₂ => Q .next (σ₂.set i r)) : wpS sp (.aug i op x) σ Q := by
  show (match σ.loc[i]? with | some (some u) => wpX sp x σ fun v σ₁ => vaug op u v σ₁ fun r σ₂ => Q .next (σ₂.set i r) | _ => False)
  rw [hu]; exact h
theorem wS_asg2 {i j : Nat} {a b : X} (h : wpX sp a σ fun u σ₁ => wpX sp b σ₁ fun v σ₂ => Q .next ((σ₂.set i u).set j v)) : wpS sp (.asg2 i j a b) σ Q := by
  exact h
theorem wS_while {t : T} {b : S} (I : St → Prop) (μ : St → Nat) (h0 : I σ) (h : ∀ σ', I σ' → wpT sp t σ' fun c σ₁ => if c = true then wpS sp b σ₁ (loopQ Q fun σ₂ => I σ₂ ∧ μ σ₂ < μ σ') else Q .next σ₁) : wpS sp (.whil t b) σ Q := by
  exact Exists.intro I (Exists.intro μ (And.intro h0 h))
theorem wX_var {i : Nat} {v : V} (h : σ.loc[i]? = some (some v)) (hq : R v σ) : wpX sp (.var i) σ R := by
  show (match σ.loc[i]? with | some (some v) => R v σ | _ => False)
  rw [h]; exact hq
theorem wX_int {i : Int} (hq : R (.int i) σ) : wpX sp (.int i) σ R := hq
theorem wX_str {x : List Nat} (hq : R (.str x) σ) : wpX sp (.str x) σ R := hq
theorem wX_bool {b : Bool} (hq : R (.bool b) σ) : wpX sp (.bool b) σ R := hq
theorem wX_none (hq : R .none σ) : wpX sp .none σ R := hq
theorem wX_bin {op : Operator} {a b : X} (h : wpX sp a σ fun u σ₁ => wpX sp b σ₁ fun v σ₂ => vbin op u v σ₂ R) : wpX sp (.bin op a b) σ R := h
theorem wX_neg {a : X} (h : wpX sp a σ fun u σ₁ => match u with | .int i => R (.int (-i)) σ₁ | _ => False) : wpX sp (.neg a) σ R := h
theorem wX_cmp {op : CmpOp} {a b : X} (h : wpX sp a σ fun u σ₁ => wpX sp b σ₁ fun v σ₂ => match vcmp op u v with | some c => R (.bool c) σ₂ | none => False) : wpX sp (.cmp op a b) σ R := h
theorem wX_len {a : X} (h : wpX sp a σ fun u σ₁ => vlen u σ₁ R) : wpX sp (.len a) σ R := h
theorem wX_min {a b : X} (h : wpX sp a σ fun u σ₁ => wpX sp b σ₁ fun v σ₂ => match u, v with | .int i, .int j => R (.int (min i j)) σ₂ | _, _ => False) : wpX sp (.min2 a b) σ R := h
theorem wX_item {a i : X} (h : wpX sp a σ fun u σ₁ => wpX sp i σ₁ fun v σ₂ => vitem u v σ₂ R) : wpX sp (.item a i) σ R := h
theorem wX_slice {a lo hi : X} (h : wpX sp a σ fun u σ₁ => wpX sp lo σ₁ fun l σ₂ => wpX sp hi σ₂ fun h σ₃ => vslice u l h σ₃ R) : wpX sp (.slice a lo hi) σ R := h
theorem wX_attr {k : Nat} (hs : selfOk sp σ) (hq : R (sp.at' k) σ) : wpX sp (.attr k) σ R := And.intro hs hq
theorem wX_tup {a b : X} (h : wpX sp a σ fun u σ₁ => wpX sp b σ₁ fun v σ₂ => R (.tup u v) σ₂) : wpX sp (.tup a b) σ R := h
theorem wX_list0 (h : vlist [] σ R) : wpX sp .list0 σ R := h
theorem wX_list1 {a : X} (h : wpX sp a σ fun u σ₁ => vlist [u] σ₁ R) : wpX sp (.list1 a) σ R := h
theorem wX_list2 {a b : X} (h : wpX sp a σ fun u σ₁ => wpX sp b σ₁ fun v σ₂ => vlist [u, v] σ₂ R) : wpX sp (.list2 a b) σ R := h
theorem wX_list3 {a b c : X} (h : wpX sp a σ fun u σ₁ => wpX sp b σ₁ fun v σ₂ => wpX sp c σ₂ fun x σ₃ => vlist [u, v, x] σ₃ R) : wpX sp (.list3 a b c) σ R := h
theorem wX_find {a b : X} (h : wpX sp a σ fun u σ₁ => match u with | .str x => (wpX sp b σ₁ fun v σ₂ => match v with | .str y => R (.int (Txt.find (strOf x) (strOf y))) σ₂ | _ => False) | _ => False) : wpX sp (.find a b) σ R := h
theorem wX_endsw {a b : X} (h : wpX sp a σ fun u σ₁ => match u with | .str x => (wpX sp b σ₁ fun v σ₂ => match v with | .str y => R (.bool (Txt.endswith (strOf x) (strOf y))) σ₂ | _ => False) | _ => False) : wpX sp (.endsw a b) σ R := h
theorem wX_startsw {a b : X} (h : wpX sp a σ fun u σ₁ => match u with | .str x => (wpX sp b σ₁ fun v σ₂ => match v with | .str y => R (.bool (Txt.startswith (strOf x) (strOf y))) σ₂ | _ => False) | _ => False) : wpX sp (.startsw a b) σ R := h
theorem wX_append {a x : X} (h : wpX sp a σ fun u σ₁ => match u with
    | .ref l => (σ₁.H l).isSome = true ∧ wpX sp x σ₁ fun v σ₂ => match σ₂.H l with
      | some vs => vs.length + 1 ≤ 2 ^ 20 ∧ R .none (σ₂.setH l (vs ++ [v]))
      | none => False
    | _ => False) : wpX sp (.append a x) σ R := h
theorem wX_pop {a : X} (h : wpX sp a σ fun u σ₁ => match u with
    | .ref l => match σ₁.H l with
      | some vs => vs.length ≤ 2 ^ 20 ∧ match vs.getLast? with
        | some v => R v (σ₁.setH l vs.dropLast)
        | none => False
      | none => False
    | _ => False) : wpX sp (.pop a) σ R := h
theorem wX_join0 {a : X} (h : wpX sp a σ fun u σ₁ => match u with
    | .ref l => match σ₁.H l with
      | some vs => ∃ ts : List (List Nat), vs = ts.map .str ∧ (ts.map List.length).sum + ts.length ≤ 2 ^ 20 ∧ R (.str ts.flatten) σ₁
      | none => False
    | _ => False) : wpX sp (.join0 a) σ R := h
theorem wX_call1 {k : Nat} {a : X} (hs : selfOk sp σ) (h : wpX sp a σ fun u σ₁ => sp.Φ k [u] σ₁.H fun r H => R r ⟨σ₁.loc, H⟩) : wpX sp (.call1 k a) σ R := And.intro hs h
theorem wX_call2 {k : Nat} {a b : X} (hs : selfOk sp σ) (h : wpX sp a σ fun u σ₁ => wpX sp b σ₁ fun v σ₂ => sp.Φ k [u, v] σ₂.H fun r H => R r ⟨σ₂.loc, H⟩) : wpX sp (.call2 k a b) σ R := And.intro hs h
theorem wX_call3 {k : Nat} {a b c : X} (hs : selfOk sp σ) (h : wpX sp a σ fun u σ₁ => wpX sp b σ₁ fun v σ₂ => wpX sp c σ₂ fun x σ₃ => sp.Φ k [u, v, x] σ₃.H fun r H => R r ⟨σ₃.loc, H⟩) : wpX sp (.call3 k a b c) σ R := And.intro hs h
theorem wX_call4 {k : Nat} {a b c d : X} (hs : selfOk sp σ) (h : wpX sp a σ fun u σ₁ => wpX sp b σ₁ fun v σ₂ => wpX sp c σ₂ fun x σ₃ => wpX sp d σ₃ fun y σ₄ => sp.Φ k [u, v, x, y] σ₄.H fun r H => R r ⟨σ₄.loc, H⟩) : wpX sp (.call4 k a b c d) σ R := And.intro hs h
theorem wX_call5 {k : Nat} {a b c d e : X} (hs : selfOk sp σ) (h : wpX sp a σ fun u σ₁ => wpX sp b σ₁ fun v σ₂ => wpX sp c σ₂ fun x σ₃ => wpX sp d σ₃ fun y σ₄ => wpX sp e σ₄ fun z σ₅ => sp.Φ k [u, v, x, y, z] σ₅.H fun r H => R r ⟨σ₅.loc, H⟩) : wpX sp (.call5 k a b c d e) σ R := And.intro hs h
theorem wT_val {x : X} (h : wpX sp x σ fun u σ₁ => vsize u ∧ match vtruth u with | some b => B b σ₁ | none => False) : wpT sp (.val x) σ B := h
theorem wT_cmp {op : CmpOp} {a b : X} (h : wpX sp a σ fun u σ₁ => wpX sp b σ₁ fun v σ₂ => match vcmp op u v with | some c => B c σ₂ | none => False) : wpT sp (.cmp op a b) σ B := h
theorem wT_not {t : T} (h : wpT sp t σ fun b σ₁ => B (!b) σ₁) : wpT sp (.not t) σ B := h
theorem wT_and {a b : T} (h : wpT sp a σ fun c σ₁ => if c = true then wpT sp b σ₁ B else B false σ₁) : wpT sp (.and a b) σ B := h
theorem wT_or {a b : T} (h : wpT sp a σ fun c σ₁ => if c = true then B true σ₁ else wpT sp b σ₁ B) : wpT sp (.or a b) σ B := h
theorem wT_tt (h : B true σ) : wpT sp .tt σ B := h
theorem wT_ff (h : B false σ) : wpT sp .ff σ B := h
theorem wS_setItem {a i x : X} (h : wpX sp x σ fun v σ₁ => wpX sp a σ₁ fun u σ₂ => wpX sp i σ₂ fun k σ₃ => match u, k with
    | .ref l, .int n => match σ₃.H l with
      | some vs => (0 ≤ n ∧ n < vs.length ∧ vs.length ≤ 2 ^ 20) ∧ Q .next (σ₃.setH l (vs.set n.toNat v))
      | none => False
    | _, _ => False) : wpS sp (.setItem a i x) σ Q := h
theorem wS_setSlice {a lo hi x : X} (h : wpX sp x σ fun v σ₁ => wpX sp a σ₁ fun u σ₂ => wpX sp lo σ₂ fun l σ₃ => wpX sp hi σ₃ fun h σ₄ => match u, v, part l, part h with
    | .ref p, .ref q, some lo, some hi => match σ₄.H p, σ₄.H q with
      | some vs, some us => (p ≠ q ∧ vs.length + us.length ≤ 2 ^ 20 ∧ cl vs.length 0 lo ≤ cl vs.length vs.length hi) ∧
          Q .next (σ₄.setH p (vs.take (cl vs.length 0 lo) ++ us ++ vs.drop (cl vs.length vs.length hi)))
      | _, _ => False
    | _, _, _, _ => False) : wpS sp (.setSlice a lo hi x) σ Q := h
theorem wS_delItem {a i : X} (h : wpX sp a σ fun u σ₁ => wpX sp i σ₁ fun k σ₂ => match u, k with
    | .ref l, .int n => match σ₂.H l with
      | some vs => (0 ≤ n ∧ n < vs.length ∧ vs.length ≤ 2 ^ 20) ∧ Q .next (σ₂.setH l (vs.eraseIdx n.toNat))
      | none => False
    | _, _ => False) : wpS sp (.delItem a i) σ Q := h
theorem wS_forr {i : Nat} {lo hi : X} {c : Nat} {b : S} (h : wpX sp lo σ fun u σ₁ => wpX sp hi σ₁ fun v σ₂ => match u, v with
    | .int x, .int y => (-2 ^ 32 < x ∧ x < 2 ^ 32 ∧ -2 ^ 32 < y ∧ y < 2 ^ 32 ∧ 0 < c ∧ c < 2 ^ 20) ∧
        ∃ I : Nat → St → Prop, I 0 σ₂ ∧ (∀ k σ', k < ((y - x + c - 1) / c).toNat → I k σ' → wpS sp b (σ'.set i (.int (x + k * c))) (loopQ Q (I (k + 1)))) ∧
          ∀ σ', I ((y - x + c - 1) / c).toNat σ' → Q .next σ'
    | _, _ => False) : wpS sp (.forr i lo hi c b) σ Q := h
theorem ite_dec {c : Prop} [Decidable c] {p q : Prop} (ht : c → p) (hf : ¬ c → q) : if decide c = true then p else q := by
  by_cases h : c
  · rw [if_pos (by simpa using h)]; exact ht h
  · rw [if_neg (by simpa using h)]; exact hf h
theorem ite_tr {p q : Prop} (h : p) : if true = true then p else q := by rw [if_pos rfl]; exact h
theorem ite_fa {p q : Prop} (h : q) : if false = true then p else q := by rw [if_neg Bool.false_ne_true]; exact h
theorem ite_nt {p q : Prop} (h : q) : if (!true) = true then p else q := h
theorem ite_nf {p q : Prop} (h : p) : if (!false) = true then p else q := h
theorem ite_nnt {p q : Prop} (h : p) : if (!!true) = true then p else q := h
theorem ite_nnf {p q : Prop} (h : q) : if (!!false) = true then p else q := h
theorem vitem_str {x : List Nat} {i : Int} {c : Nat} (h0 : 0 ≤ i) (hz : x.length ≤ 2 ^ 20) (e : x[i.toNat]? = some c) (h : R (.str [c]) σ) : vitem (.str x) (.int i) σ R := by
  unfold vitem
  have : idx x.length i = i.toNat := by unfold idx; rw [if_neg (by omega)]
  simp only [this, e]; exact ⟨by omega, hz, h⟩
theorem vitem_strn {x : List Nat} {i : Int} {c : Nat} (h0 : i < 0) (h1 : -(x.length : Int) ≤ i) (hz : x.length ≤ 2 ^ 20) (e : x[(i + x.length).toNat]? = some c) (h : R (.str [c]) σ) : vitem (.str x) (.int i) σ R := by
  unfold vitem
  have : idx x.length i = (i + x.length).toNat := by unfold idx; rw [if_pos h0]
  simp only [this, e]; exact ⟨h1, hz, h⟩
theorem vitem_ref {l : Addr} {vs : List V} {i : Int} {v : V} (hl : σ.H l = some vs) (h0 : 0 ≤ i) (hz : vs.length ≤ 2 ^ 20) (e : vs[i.toNat]? = some v) (h : R v σ) : vitem (.ref l) (.int i) σ R := by
  unfold vitem
  have : idx vs.length i = i.toNat := by unfold idx; rw [if_neg (by omega)]
  simp only [hl, this, e]; exact ⟨by omega, hz, h⟩
theorem vitem_refn {l : Addr} {vs : List V} {i : Int} {v : V} (hl : σ.H l = some vs) (h0 : i < 0) (h1 : -(vs.length : Int) ≤ i) (hz : vs.length ≤ 2 ^ 20) (e : vs[(i + vs.length).toNat]? = some v) (h : R v σ) : vitem (.ref l) (.int i) σ R := by
  unfold vitem
  have : idx vs.length i = (i + vs.length).toNat := by unfold idx; rw [if_pos h0]
  simp only [hl, this, e]; exact ⟨h1, hz, h⟩
theorem vitem_0 {a b : V} (h : R a σ) : vitem (.tup a b) (.int 0) σ R := .inl ⟨rfl, h⟩
theorem vitem_1 {a b : V} (h : R b σ) : vitem (.tup a b) (.int 1) σ R := .inr ⟨rfl, h⟩
theorem szLine {n : Nat} (h : n ≤ 2 ^ 24) : n ≤ sizeLine := h
theorem vslice_ii {x : List Nat} {a b : Int} (hz : x.length ≤ 2 ^ 24) (h : R (.str (pslice x (some a) (some b))) σ) : vslice (.str x) (.int a) (.int b) σ R := ⟨szLine hz, h⟩
theorem vslice_ni {x : List Nat} {b : Int} (hz : x.length ≤ 2 ^ 24) (h : R (.str (pslice x none (some b))) σ) : vslice (.str x) .none (.int b) σ R := ⟨szLine hz, h⟩
theorem vslice_in {x : List Nat} {a : Int} (hz : x.length ≤ 2 ^ 24) (h : R (.str (pslice x (some a) none)) σ) : vslice (.str x) (.int a) .none σ R := ⟨szLine hz, h⟩
theorem vlen_ref {l : Addr} {vs : List V} (hl : σ.H l = some vs) (hz : vs.length ≤ 2 ^ 20) (h : R (.int vs.length) σ) : vlen (.ref l) σ R := by
  unfold vlen; simp only [hl]; exact ⟨hz, h⟩
noncomputable def ig (σ : St) (i : Nat) : Int := match σ.loc[i]? with | some (some (.int n)) => n | _ => 0
theorem sub_nat (n k : Nat) : ((-(k : Int)) + n).toNat = n - k := by
  rw [Int.add_comm, ← Int.sub_eq_add_neg, Int.toNat_sub]
theorem cl_pos {n d : Nat} {i : Int} (h : 0 ≤ i) : cl n d (some i) = min i.toNat n := by
  simp only [cl]; rw [if_neg (Int.not_lt.mpr h)]
theorem cl_neg {n d : Nat} {i : Int} (h : 0 < i) : cl n d (some (-i)) = n - i.toNat := by
  obtain ⟨k, rfl⟩ := Int.eq_ofNat_of_zero_le (Int.le_of_lt h)
  simp only [cl]; rw [if_pos (Int.neg_neg_of_pos h)]; exact sub_nat n k
theorem take_min {α : Type} (x : List α) (b : Nat) : x.take (min b x.length) = x.take b := by
  by_cases h1 : b ≤ x.length
  · rw [Nat.min_eq_left h1]
  · rw [Nat.min_eq_right (by omega), List.take_of_length_le (Nat.le_refl _), List.take_of_length_le (by omega)]
theorem drop_min {α : Type} (x y : List α) (a : Nat) (h : y.length ≤ x.length) : y.drop (min a x.length) = y.drop a := by
  by_cases h1 : a ≤ x.length
  · rw [Nat.min_eq_left h1]
  · rw [Nat.min_eq_right (by omega), List.drop_eq_nil_of_le (by omega), List.drop_eq_nil_of_le (by omega)]
theorem slice_mid {α : Type} (x : List α) {a b : Int} (ha : 0 ≤ a) (hb : 0 ≤ b) : pslice x (some a) (some b) = (x.take b.toNat).drop a.toNat := by
  unfold pslice
  rw [cl_pos ha, cl_pos hb, take_min, drop_min _ _ _ (by simp; omega)]
theorem slice_to {α : Type} (x : List α) {b : Int} (hb : 0 ≤ b) : pslice x none (some b) = x.take b.toNat := by
  unfold pslice
  rw [cl_pos hb, take_min]; rfl
theorem slice_from {α : Type} (x : List α) {a : Int} (ha : 0 ≤ a) : pslice x (some a) none = x.drop a.toNat := by
  unfold pslice
  rw [cl_pos ha, show cl x.length x.length none = x.length from rfl, List.take_length, drop_min _ _ _ (Nat.le_refl _)]
theorem slice_ton {α : Type} (x : List α) {b : Int} (hb : 0 < b) : pslice x none (some (-b)) = x.take (x.length - b.toNat) := by
  unfold pslice
  rw [cl_neg hb]; rfl
theorem slice_fromn {α : Type} (x : List α) {a : Int} (ha : 0 < a) : pslice x (some (-a)) none = x.drop (x.length - a.toNat) := by
  unfold pslice
  rw [cl_neg ha, show cl x.length x.length none = x.length from rfl, List.take_length]
theorem slice_all {α : Type} (x : List α) : pslice x none none = x := by
  unfold pslice
  rw [show cl x.length x.length none = x.length from rfl, List.take_length]; rfl
end
end
local macro_rules | `(tactic| walk_at "w") => `(tactic| first
  | with_reducible first
    | refine thenQ_next ?_ | refine thenQ_ret ?_ | refine wS_seq ?_ | refine wS_asg ?_ | refine wS_ret ?_ | refine wS_expr ?_ | refine wS_skip ?_ | refine wS_asg2 ?_
    | refine wS_setItem ?_ | refine wS_setSlice ?_ | refine wS_delItem ?_ | refine wS_forr ?_ | refine wX_int ?_ | refine wX_str ?_ | refine wX_bool ?_ | refine wX_none ?_
    | refine wX_bin ?_ | refine wX_neg ?_ | refine wX_cmp ?_ | refine wX_len ?_ | refine wX_min ?_ | refine wX_item ?_ | refine wX_slice ?_ | refine wX_tup ?_
    | refine wX_list0 ?_ | refine wX_list1 ?_ | refine wX_list2 ?_ | refine wX_list3 ?_ | refine wX_find ?_ | refine wX_endsw ?_ | refine wX_startsw ?_ | refine wX_append ?_
    | refine wX_pop ?_ | refine wX_join0 ?_ | refine wT_val ?_ | refine wT_cmp ?_ | refine wT_not ?_ | refine wT_and ?_ | refine wT_or ?_ | refine wT_tt ?_
    | refine wT_ff ?_ | refine ite_tr ?_ | refine ite_fa ?_ | refine ite_nt ?_ | refine ite_nf ?_ | refine ite_nnt ?_ | refine ite_nnf ?_ | refine vitem_0 ?_
    | refine vitem_1 ?_
    | refine And.intro True.intro ?_
  | ((with_reducible first | refine' wS_aug ?h ?_ | refine' wX_var ?h ?_ | refine' wX_attr ?h ?_ | refine' wX_call1 ?h ?_ | refine' wX_call2 ?h ?_ | refine' wX_call3 ?h ?_ | refine' wX_call4 ?h ?_ | refine' wX_call5 ?h ?_); (case h => exact rfl))
  | (with_reducible refine' And.intro ?h ?_; (case h => omega))
  | dsimp only [vcmp, icmp, scmp, ncmp, vbin, vadd, vsub, vmul, vfd, vmod, vaug, vaad, vlen, vtruth, vsize, St.set, List.set, St.setH, at_0, at_1, at_2, at_3, part, loopQ, List.isEmpty_cons, List.isEmpty_nil, List.length_nil, List.length_cons])
local macro_rules | `(tactic| walk_at "u") => `(tactic| repeat walk_at "w")
local macro_rules | `(tactic| walk_at "v") => `(tactic| repeat (first | with_reducible refine wS_ite ?_ | walk_at "w"))
section
open PySem PySem.W
set_option Elab.async false
set_option autoImplicit false
set_option linter.unusedVariables false
noncomputable def lcp : List Nat → List Nat → Nat
  | a :: x, b :: y => if a = b then lcp x y + 1 else 0
  | _, _ => 0
theorem lcp_le (x y : List Nat) : lcp x y ≤ x.length ∧ lcp x y ≤ y.length := by
  fun_induction lcp x y with
  | case1 x b y ih => simp; omega
  | case2 a x b y h => simp
  | case3 => simp
theorem lcp_take (x y : List Nat) : ∀ c, c ≤ x.length → c ≤ y.length → (x.take c = y.take c ↔ c ≤ lcp x y) := by
  fun_induction lcp x y with
  | case1 x b y ih =>
    intro c h1 h2
    cases c with
    | zero => simp
    | succ c => have := ih c (by simpa using h1) (by simpa using h2); simp [this]
  | case2 a x b y h =>
    intro c h1 h2
    cases c with
    | zero => simp
    | succ c => simp [h]
  | case3 x y h =>
    intro c h1 h2
    match x, y, h with
    | [], y, _ => have : c = 0 := by simpa using h1
                  subst this; simp
    | a :: x, [], _ => have : c = 0 := by simpa using h2
                       subst this; simp
    | a :: x, b :: y, h => exact (h a x b y rfl rfl).elim
noncomputable def noH : AH := fun _ => none
theorem mid_eq {x y : List Nat} {a c : Nat} (ha : a ≤ c) (h : x.take a = y.take a) : ((x.take c).drop a = (y.take c).drop a) ↔ x.take c = y.take c := by
  constructor
  · intro e
    have h1 := List.take_append_drop a (x.take c)
    have h2 := List.take_append_drop a (y.take c)
    rw [List.take_take, Nat.min_eq_left ha] at h1 h2
    rw [← h1, ← h2, e, h]
  · intro e; rw [e]
/-! the search by halves -/
noncomputable def Bs (l n p q r : Nat) : Prop := p ≤ r ∧ r ≤ q ∧ q ≤ n ∧ p ≤ l ∧ ((l < q ∧ r = (q - p) / 2 + p) ∨ (r = q ∧ q = n))
noncomputable def bm (p q r : Int) : Nat := (2 * (q - p) + if r = q then 1 else 0).toNat
theorem half_le {a b : Nat} (h : a ≤ b) : (b - a) / 2 + a ≤ b := Nat.le_trans (Nat.add_le_add_right (Nat.div_le_self _ _) _) (Nat.le_of_eq (Nat.sub_add_cancel h))
theorem half_lt {a b : Nat} (h : a < b) : (b - a) / 2 + a < b := Nat.lt_of_lt_of_eq (Nat.add_lt_add_right (Nat.div_lt_self (Nat.sub_pos_of_lt h) (by decide)) _) (Nat.sub_add_cancel (Nat.le_of_lt h))
theorem ite01 (c : Prop) [Decidable c] : 0 ≤ (if c then 1 else 0 : Int) ∧ (if c then 1 else 0 : Int) ≤ 1 := by
  split
  · exact ⟨by decide, by decide⟩
  · exact ⟨by decide, by decide⟩
theorem bm_lo {p r q : Int} (m s : Int) (h : p < r) (h2 : r ≤ q) : bm r q m < bm p q s := by
  have h3 := (ite01 (m = q)).2
  have h4 := (ite01 (s = q)).1
  unfold bm
  generalize (if m = q then 1 else 0 : Int) = u at h3
  generalize (if s = q then 1 else 0 : Int) = v at h4
  exact (Int.toNat_lt_toNat (by clear h3; omega)).mpr (by clear h2; omega)
theorem bm_hi {p r q m : Int} (hm : m < r) (h : p < r) (h2 : r ≤ q) : bm p r m < bm p q r := by
  unfold bm
  rw [if_neg (Int.ne_of_lt hm)]
  by_cases hq : r = q
  · rw [if_pos hq, hq]
    exact (Int.toNat_lt_toNat (by omega)).mpr (Int.add_lt_add_left (by decide) _)
  · rw [if_neg hq]
    exact (Int.toNat_lt_toNat (by omega)).mpr (by omega)
theorem bs_div (a b : Nat) (h : b ≤ a) : ((a : Int) - b).fdiv 2 + b = (((a - b) / 2 + b : Nat) : Int) := by
  rw [← Int.ofNat_sub h, Int.fdiv_eq_ediv_of_nonneg _ (by decide)]; rfl
theorem bm_lt {a b c d : Int} {e f : Bool} (h0 : 0 ≤ a) (h : 2 * a + (if e = true then 1 else 0) < 2 * b + (if f = true then 1 else 0)) : (2 * a + if e = true then 1 else 0 : Int).toNat < (2 * b + if f = true then 1 else 0 : Int).toNat := by
  cases e <;> cases f <;> simp only [if_true, if_false, Bool.false_eq_true] at h ⊢ <;> omega
theorem Bs.up {l n p q r : Nat} (h : Bs l n p q r) (hl : r ≤ l) (hlt : p < r) : Bs l n r q ((q - r) / 2 + r) ∧ bm r q ((q - r) / 2 + r : Nat) < bm p q r := by
  obtain ⟨h1, h2, h3, h4, h5⟩ := h
  constructor
  · refine ⟨Nat.le_add_left _ _, half_le h2, h3, hl, h5.imp (fun h => ⟨h.1, rfl⟩) fun h => ⟨?_, h.2⟩⟩
    rw [h.1, Nat.sub_self]; exact Nat.zero_add q
  · exact bm_lo _ _ (Int.ofNat_lt.mpr hlt) (Int.ofNat_le.mpr h2)
theorem Bs.down {l n p q r : Nat} (h : Bs l n p q r) (hl : ¬ r ≤ l) (hlt : p < r) : Bs l n p r ((r - p) / 2 + p) ∧ bm p r ((r - p) / 2 + p : Nat) < bm p q r := by
  obtain ⟨h1, h2, h3, h4, h5⟩ := h
  constructor
  · exact ⟨Nat.le_add_left _ _, half_le h1, Nat.le_trans h2 h3, h4, .inl ⟨Nat.lt_of_not_le hl, rfl⟩⟩
  · exact bm_hi (Int.ofNat_lt.mpr (half_lt hlt)) (Int.ofNat_lt.mpr hlt) (Int.ofNat_le.mpr h2)
theorem Bs.done {l n p q r : Nat} (h : Bs l n p q r) (hn : ¬ p < r) (hl : l ≤ n) : r = l := by
  obtain ⟨h1, h2, h3, h4, h5⟩ := h
  have hp : p = r := Nat.le_antisymm h1 (Nat.not_lt.mp hn)
  subst hp
  refine Nat.le_antisymm h4 ?_
  rcases h5 with ⟨a, b⟩ | ⟨a, b⟩
  · clear h1 h3 hn hl h4; omega
  · rw [a, b]; exact hl
theorem Bs.mid {l n p q r : Nat} (h : Bs l n p q r) : p ≤ r ∧ r ≤ n := ⟨h.1, Nat.le_trans h.2.1 h.2.2.1⟩
theorem min_cast (a b : Nat) : min (a : Int) b = ((min a b : Nat) : Int) := by omega
theorem Bs.init {l n : Nat} : Bs l n 0 n n := ⟨Nat.zero_le _, Nat.le_refl _, Nat.le_refl _, Nat.zero_le _, .inr ⟨rfl, rfl⟩⟩
theorem bs_room {q r : Nat} (h : r ≤ q) (hq : q ≤ 2 ^ 16) : -2 ^ 32 < (q : Int) - r ∧ (q : Int) - r < 2 ^ 32 ∧ -2 ^ 32 < (2 : Int) ∧ (2 : Int) < 2 ^ 32 := ⟨by omega, by omega, by decide, by decide⟩
theorem le24 {n : Nat} (h : n ≤ 2 ^ 16) : n ≤ 2 ^ 24 := Nat.le_trans h (by decide)
theorem le20 {n : Nat} (h : n ≤ 2 ^ 16) : n ≤ 2 ^ 20 := Nat.le_trans h (by decide)
theorem v_commonPrefix (sp : Sp) (x y : List Nat) (hx : x.length ≤ 2 ^ 16) (hy : y.length ≤ 2 ^ 16) :
    wpS sp S_commonPrefix ⟨[some (.ref sp.tool), some (.str x), some (.str y), none, none, none, none], noH⟩ (fun g _ => g = .ret (.int (lcp x y))) := by
  unfold S_commonPrefix
  match x, y with
  | [], y => walk_at "v"; simp [lcp]
  | a :: x, [] =>
    simp only [List.length_cons] at hx
    walk_at "v"; simp [lcp]
  | a :: x, b :: y =>
    simp only [List.length_cons] at hx hy
    walk_at "v"
    refine vitem_str (c := a) (by decide) (by simp; omega) rfl ?_
    walk_at "v"
    refine vitem_str (c := b) (by decide) (by simp; omega) rfl ?_
    walk_at "v"
    refine ite_dec (fun h => ?_) fun h => ?_
    · walk_at "v"
      have : a ≠ b := fun q => h (by rw [q])
      simp [lcp, this]
    · have hab : a = b := by simpa using h
      subst hab
      walk_at "v"
      generalize hX : a :: x = X
      generalize hY : a :: y = Y
      have zX : X.length ≤ 2 ^ 16 := by rw [← hX]; exact hx
      have zY : Y.length ≤ 2 ^ 16 := by rw [← hY]; exact hy
      have lX : ((x.length : Int) + 1) = (X.length : Int) := by rw [← hX]; rfl
      have lY : ((y.length : Int) + 1) = (Y.length : Int) := by rw [← hY]; rfl
      simp only [Int.natCast_add, Int.natCast_one]
      rw [lX, lY, min_cast]
      obtain ⟨u1, u2⟩ := lcp_le X Y
      have ht := lcp_take X Y
      have hm1 : min X.length Y.length ≤ X.length := Nat.min_le_left _ _
      have hm2 : min X.length Y.length ≤ Y.length := Nat.min_le_right _ _
      have hlm : lcp X Y ≤ min X.length Y.length := Nat.le_min.mpr ⟨u1, u2⟩
      generalize lcp X Y = l at ht hlm
      generalize min X.length Y.length = n at hm1 hm2 hlm
      refine wS_while (fun σ => ∃ p q r : Nat, σ = ⟨[some (.ref sp.tool), some (.str X), some (.str Y), some (.int p), some (.int q), some (.int r), some (.int p)], noH⟩ ∧ Bs l n p q r)
        (fun σ => bm (ig σ 3) (ig σ 4) (ig σ 5)) ⟨0, n, n, rfl, Bs.init⟩ ?_
      rintro _ ⟨p, q, r, rfl, hB⟩
      walk_at "v"
      refine ite_dec (fun hlt => ?_) fun hlt => ?_
      · have hlt := Int.ofNat_lt.mp hlt
        obtain ⟨i1, i2⟩ := hB.mid
        walk_at "v"
        refine vslice_ii (le24 zX) ?_
        walk_at "v"
        refine vslice_ii (le24 zY) ?_
        walk_at "v"
        rw [slice_mid X (Int.natCast_nonneg p) (Int.natCast_nonneg r), slice_mid Y (Int.natCast_nonneg p) (Int.natCast_nonneg r)]
        simp only [Int.toNat_natCast]
        have hr := ht r (Nat.le_trans i2 hm1) (Nat.le_trans i2 hm2)
        have hp := (ht p (Nat.le_trans i1 (Nat.le_trans i2 hm1)) (Nat.le_trans i1 (Nat.le_trans i2 hm2))).mpr hB.2.2.2.1
        have he := mid_eq (x := X) (y := Y) (a := p) (c := r) i1 hp
        refine ite_dec (fun hc => ?_) fun hc => ?_
        · have b := hB.up (hr.mp (he.mp hc)) hlt
          walk_at "v"
          refine ⟨bs_room hB.2.1 (Nat.le_trans hB.2.2.1 (Nat.le_trans hm1 zX)), ?_⟩
          walk_at "v"
          rw [bs_div q r hB.2.1]
          exact ⟨⟨r, q, _, rfl, b.1⟩, b.2⟩
        · have b := hB.down (fun q => hc (he.mpr (hr.mpr q))) hlt
          walk_at "v"
          rw [bs_div r p i1]
          exact ⟨⟨p, r, _, rfl, b.1⟩, b.2⟩
      · have e := hB.done (fun q => hlt (Int.ofNat_lt.mpr q)) hlm
        walk_at "v"
        rw [e]
end
section
open PySem PySem.W
set_option Elab.async false
set_option autoImplicit false
set_option linter.unusedVariables false
theorem last_at {x r : List Nat} {a : Nat} (h : x.reverse = a :: r) : x[(-1 + (x.length : Int)).toNat]? = some a ∧ -(x.length : Int) ≤ -1 := by
  have hx := List.reverse_eq_cons_iff.mp h
  subst hx
  rw [List.length_append]
  have e : (-1 + ((r.reverse.length + [a].length : Nat) : Int)).toNat = r.reverse.length := by
    show (-1 + ((r.reverse.length + 1 : Nat) : Int)).toNat = _
    omega
  rw [e]
  refine ⟨List.getElem?_concat_length, ?_⟩
  show -((r.reverse.length + 1 : Nat) : Int) ≤ -1
  clear e h
  omega
theorem suf_slice (X : List Nat) {p r : Nat} (hp : p ≤ r) (hr : r ≤ X.length) (h0 : 0 < r) : pslice X (some (-(r : Int))) (some ((X.length : Int) - p)) = ((X.reverse.take r).drop p).reverse := by
  unfold pslice
  rw [cl_neg (Int.ofNat_lt.mpr h0), ← Int.ofNat_sub (Nat.le_trans hp hr), cl_pos (Int.natCast_nonneg _), Int.toNat_natCast, Int.toNat_natCast, Nat.min_eq_left (Nat.sub_le _ _), List.take_reverse, List.drop_reverse, List.reverse_reverse, List.drop_take]
  congr 1
  obtain ⟨k, hk⟩ := Nat.exists_eq_add_of_le hr
  obtain ⟨j, rfl⟩ := Nat.exists_eq_add_of_le hp
  rw [List.length_drop, hk, Nat.add_sub_cancel_left, show p + j + k - p = j + k by rw [Nat.add_assoc, Nat.add_sub_cancel_left], Nat.add_sub_cancel, Nat.add_sub_cancel, Nat.add_sub_cancel_left]
theorem v_commonSuffix (sp : Sp) (x y : List Nat) (hx : x.length ≤ 2 ^ 16) (hy : y.length ≤ 2 ^ 16) :
    wpS sp S_commonSuffix ⟨[some (.ref sp.tool), some (.str x), some (.str y), none, none, none, none], noH⟩ (fun g _ => g = .ret (.int (lcp x.reverse y.reverse))) := by
  unfold S_commonSuffix
  have nil_of : ∀ l : List Nat, l.reverse = [] → l = [] := fun l h => by simpa using h
  match hxr : x.reverse, hyr : y.reverse with
  | [], y' =>
    have := nil_of x hxr
    subst this
    walk_at "v"; simp [lcp]
  | a :: x', [] =>
    have := nil_of y hyr
    subst this
    have hne : x.isEmpty = false := by cases x <;> simp_all
    walk_at "v"
    rw [hne]
    walk_at "v"; simp [lcp]
  | a :: x', b :: y' =>
    have hne : x.isEmpty = false := by cases x <;> simp_all
    have hne2 : y.isEmpty = false := by cases y <;> simp_all
    obtain ⟨gx, bx⟩ := last_at hxr
    obtain ⟨gy, byy⟩ := last_at hyr
    walk_at "v"
    rw [hne]
    walk_at "v"
    rw [hne2]
    walk_at "v"
    refine vitem_strn (c := a) (by decide) bx (le20 hx) gx ?_
    walk_at "v"
    refine vitem_strn (c := b) (by decide) byy (le20 hy) gy ?_
    walk_at "v"
    refine ite_dec (fun h => ?_) fun h => ?_
    · walk_at "v"
      have : a ≠ b := fun q => h (by rw [q])
      simp [lcp, this]
    · have hab : a = b := by simpa using h
      subst hab
      walk_at "v"
      rw [← hxr, ← hyr, min_cast]
      obtain ⟨u1, u2⟩ := lcp_le x.reverse y.reverse
      have ht := lcp_take x.reverse y.reverse
      rw [List.length_reverse] at u1 u2
      simp only [List.length_reverse] at ht
      have hm1 : min x.length y.length ≤ x.length := Nat.min_le_left _ _
      have hm2 : min x.length y.length ≤ y.length := Nat.min_le_right _ _
      have hlm : lcp x.reverse y.reverse ≤ min x.length y.length := Nat.le_min.mpr ⟨u1, u2⟩
      generalize lcp x.reverse y.reverse = l at ht hlm
      generalize min x.length y.length = n at hm1 hm2 hlm
      clear gx gy bx byy hne hne2 u1 u2 h
      refine wS_while (fun σ => ∃ p q r : Nat, σ = ⟨[some (.ref sp.tool), some (.str x), some (.str y), some (.int p), some (.int q), some (.int r), some (.int p)], noH⟩ ∧ Bs l n p q r)
        (fun σ => bm (ig σ 3) (ig σ 4) (ig σ 5)) ⟨0, n, n, rfl, Bs.init⟩ ?_
      rintro _ ⟨p, q, r, rfl, hB⟩
      walk_at "v"
      refine ite_dec (fun hlt => ?_) fun hlt => ?_
      · have hlt := Int.ofNat_lt.mp hlt
        obtain ⟨i1, i2⟩ := hB.mid
        have hr0 : 0 < r := Nat.lt_of_le_of_lt (Nat.zero_le p) hlt
        walk_at "v"
        refine vslice_ii (le24 hx) ?_
        walk_at "v"
        refine vslice_ii (le24 hy) ?_
        walk_at "v"
        rw [suf_slice x i1 (Nat.le_trans i2 hm1) hr0, suf_slice y i1 (Nat.le_trans i2 hm2) hr0]
        have hr := ht r (Nat.le_trans i2 hm1) (Nat.le_trans i2 hm2)
        have hp := (ht p (Nat.le_trans i1 (Nat.le_trans i2 hm1)) (Nat.le_trans i1 (Nat.le_trans i2 hm2))).mpr hB.2.2.2.1
        have he := mid_eq (x := x.reverse) (y := y.reverse) (a := p) (c := r) i1 hp
        refine ite_dec (fun hc => ?_) fun hc => ?_
        · have b := hB.up (hr.mp (he.mp (List.reverse_inj.mp hc))) hlt
          walk_at "v"
          refine ⟨bs_room hB.2.1 (Nat.le_trans hB.2.2.1 (Nat.le_trans hm1 hx)), ?_⟩
          walk_at "v"
          rw [bs_div q r hB.2.1]
          exact ⟨⟨r, q, _, rfl, b.1⟩, b.2⟩
        · have b := hB.down (fun q => hc (List.reverse_inj.mpr (he.mpr (hr.mpr q)))) hlt
          walk_at "v"
          rw [bs_div r p i1]
          exact ⟨⟨p, r, _, rfl, b.1⟩, b.2⟩
      · have e := hB.done (fun q => hlt (Int.ofNat_lt.mpr q)) hlm
        walk_at "v"
        rw [e]
end
section
open PySem PySem.W
set_option Elab.async false
set_option autoImplicit false
set_option linter.unusedVariables false
noncomputable abbrev Df := Int × List Nat
noncomputable def src (ds : List Df) : List Nat := ds.flatMap fun p => if p.1 = 1 then [] else p.2
noncomputable def dst (ds : List Df) : List Nat := ds.flatMap fun p => if p.1 = -1 then [] else p.2
noncomputable def cost (ds : List Df) : Nat := (ds.map fun p => if p.1 = 0 then 0 else p.2.length).sum
noncomputable def Okd (ds : List Df) : Prop := ∀ p ∈ ds, (p.1 = -1 ∨ p.1 = 0 ∨ p.1 = 1) ∧ p.2 ≠ []
noncomputable def NoAdj : List Df → Prop
  | a :: b :: r => a.1 ≠ b.1 ∧ NoAdj (b :: r)
  | _ => True
noncomputable def Good (x y : List Nat) (ds : List Df) : Prop := Okd ds ∧ src ds = x ∧ dst ds = y ∧ (cost ds : Int) = ed x y
noncomputable def encs (ds : List Df) : List V := ds.map fun p => .tup (.int p.1) (.str p.2)
noncomputable def updH (H : AH) (l : Addr) (vs : List V) : AH := fun b => if b = l then some vs else H b
noncomputable def CMain (Φ : Calls) (n : Nat) : Prop := ∀ x y dl H P, x.length + y.length < n → (∀ l ds, H l = none → Good x y ds → NoAdj ds → P (.ref l) (updH H l (encs ds))) → Φ 0 [.str x, .str y, .bool false, dl] H P
noncomputable def CCompute (Φ : Calls) (n : Nat) : Prop := ∀ x y dl H P, x.length + y.length ≤ n → ¬ (x = [] ∧ y = []) → lcp x y = 0 → lcp x.reverse y.reverse = 0 → (∀ l ds, H l = none → Good x y ds → P (.ref l) (updH H l (encs ds))) → Φ 1 [.str x, .str y, .bool false, dl] H P
noncomputable def CBisect (Φ : Calls) (n : Nat) : Prop := ∀ x y dl H P, x.length + y.length ≤ n → 2 ≤ x.length → 2 ≤ y.length → 2 ≤ ed x y → (∀ l ds, H l = none → Good x y ds → P (.ref l) (updH H l (encs ds))) → Φ 2 [.str x, .str y, dl] H P
noncomputable def CSplit (Φ : Calls) (n : Nat) : Prop := ∀ x y i j dl H P, x.length + y.length ≤ n → CutOk x y i j → (∀ l ds, H l = none → Good x y ds → P (.ref l) (updH H l (encs ds))) → Φ 3 [.str x, .str y, .int i, .int j, dl] H P
noncomputable def CPre (Φ : Calls) : Prop := ∀ x y H P, x.length ≤ 2 ^ 16 → y.length ≤ 2 ^ 16 → P (.int (lcp x y)) H → Φ 4 [.str x, .str y] H P
noncomputable def CSuf (Φ : Calls) : Prop := ∀ x y H P, x.length ≤ 2 ^ 16 → y.length ≤ 2 ^ 16 → P (.int (lcp x.reverse y.reverse)) H → Φ 5 [.str x, .str y] H P
noncomputable def CHalf (Φ : Calls) : Prop := ∀ x y H P, P .none H → Φ 6 [.str x, .str y] H P
noncomputable def CMerge (Φ : Calls) (n : Nat) : Prop := ∀ a ds H P, H a = some (encs ds) → Okd ds → (cost ds : Int) = ed (src ds) (dst ds) → ds.length ≤ n → (src ds).length + (dst ds).length ≤ 2 ^ 12 →
  (∀ ds', Okd ds' → src ds' = src ds → dst ds' = dst ds → cost ds' = cost ds → NoAdj ds' → P .none (updH H a (encs ds'))) → Φ 7 [.ref a] H P
structure Ats (sp : Sp) : Prop where
  del : sp.at' 0 = .int (-1)
  ins : sp.at' 1 = .int 1
  eql : sp.at' 2 = .int 0
  tim : sp.at' 3 = .int 0
noncomputable def PostB (x y : List Nat) : Fl → St → Prop := fun g σ => ∃ l ds, g = .ret (.ref l) ∧ σ.H l = some (encs ds) ∧ Good x y ds
theorem src_append (a b : List Df) : src (a ++ b) = src a ++ src b := by simp [src]
theorem dst_append (a b : List Df) : dst (a ++ b) = dst a ++ dst b := by simp [dst]
theorem cost_append (a b : List Df) : cost (a ++ b) = cost a + cost b := by simp [cost]
theorem encs_append (a b : List Df) : encs (a ++ b) = encs a ++ encs b := by simp [encs]
theorem Okd.append {a b : List Df} (h : Okd a) (k : Okd b) : Okd (a ++ b) := fun p hp => (List.mem_append.mp hp).elim (h p) (k p)
theorem encs_len (a : List Df) : (encs a).length = a.length := by simp [encs]
theorem src_cons (p : Df) (a : List Df) : src (p :: a) = (if p.1 = 1 then [] else p.2) ++ src a := by simp [src]
theorem dst_cons (p : Df) (a : List Df) : dst (p :: a) = (if p.1 = -1 then [] else p.2) ++ dst a := by simp [dst]
theorem cost_cons (p : Df) (a : List Df) : cost (p :: a) = (if p.1 = 0 then 0 else p.2.length) + cost a := by simp [cost]
/-- parts that are not empty are no more than the signs -/
theorem Okd.len {ds : List Df} (h : Okd ds) : ds.length ≤ (src ds).length + (dst ds).length := by
  induction ds with
  | nil => simp
  | cons p ds ih =>
    have h1 := ih fun q hq => h q (.tail _ hq)
    obtain ⟨h2, h3⟩ := h p (.head _)
    have h4 : 0 < p.2.length := List.length_pos_iff.mpr h3
    rw [src_cons, dst_cons]
    simp only [List.length_append, List.length_cons]
    rcases h2 with h2 | h2 | h2 <;> simp [h2] <;> omega
theorem updH_self (H : AH) (l : Addr) (vs : List V) : updH H l vs l = some vs := by simp [updH]
theorem updH_ne (H : AH) {l b : Addr} (vs : List V) (h : b ≠ l) : updH H l vs b = H b := by simp [updH, h]

theorem sp_fst {x y : List Nat} {i j : Int} (h0 : 0 ≤ i) (h1 : 0 ≤ j) (h : i + j < x.length + y.length) : (x.take i.toNat).length + (y.take j.toNat).length < x.length + y.length := by
  obtain ⟨i, rfl⟩ := Int.eq_ofNat_of_zero_le h0
  obtain ⟨j, rfl⟩ := Int.eq_ofNat_of_zero_le h1
  exact Nat.lt_of_le_of_lt (Nat.add_le_add (List.length_take_le i x) (List.length_take_le j y)) (Int.ofNat_lt.mp h)
theorem sp_ar {i j k l : Nat} (h : (0 : Int) < (i : Int) + j) : k + l < i + k + (j + l) := by omega
theorem sp_snd {x y : List Nat} {i j : Int} (h0 : 0 ≤ i) (h1 : 0 ≤ j) (h2 : i ≤ x.length) (h4 : j ≤ y.length) (h : 0 < i + j) : (x.drop i.toNat).length + (y.drop j.toNat).length < x.length + y.length := by
  obtain ⟨i, rfl⟩ := Int.eq_ofNat_of_zero_le h0
  obtain ⟨j, rfl⟩ := Int.eq_ofNat_of_zero_le h1
  obtain ⟨k, hk⟩ := Nat.exists_eq_add_of_le (Int.ofNat_le.mp h2)
  obtain ⟨l, hl⟩ := Nat.exists_eq_add_of_le (Int.ofNat_le.mp h4)
  rw [List.length_drop, List.length_drop, hk, hl, Int.toNat_natCast, Int.toNat_natCast, Nat.add_sub_cancel_left, Nat.add_sub_cancel_left]
  exact sp_ar h
theorem sp_len {a b c d n m : Nat} (h1 : a ≤ c) (h2 : b ≤ d) (hc : c < n) (hd : d < n) (hn : n ≤ m) (hm : m ≤ 2 ^ 10) : a + b ≤ 2 ^ 24 := by omega
theorem sp_cost {a b : Nat} {e f g : Int} (h1 : (a : Int) = e) (h2 : (b : Int) = f) (h : e + f = g) : ((a + b : Nat) : Int) = g := by rw [Int.natCast_add, h1, h2, h]
theorem sp24 {a b n : Nat} (h : a + b ≤ n) (hn : n ≤ 2 ^ 10) : a ≤ 2 ^ 24 ∧ b ≤ 2 ^ 24 := ⟨Nat.le_trans (Nat.le_trans (Nat.le_add_right a b) h) (Nat.le_trans hn (by decide)), Nat.le_trans (Nat.le_trans (Nat.le_add_left b a) h) (Nat.le_trans hn (by decide))⟩
theorem v_bisectSplit (sp : Sp) (x y : List Nat) (i j : Int) (dl : V) (n : Nat) (hn : x.length + y.length ≤ n) (hb : n ≤ 2 ^ 10) (hc : CutOk x y i j) (hmain : CMain sp.Φ (x.length + y.length)) :
    wpS sp S_bisectSplit ⟨[some (.ref sp.tool), some (.str x), some (.str y), some (.int i), some (.int j), some dl, none, none, none, none, none, none], noH⟩ (PostB x y) := by
  obtain ⟨c1, c2, c3, c4, c5, c6, c7⟩ := hc
  unfold S_bisectSplit
  walk_at "v"
  refine vslice_ni (sp24 hn hb).1 ?_
  walk_at "v"
  refine vslice_ni (sp24 hn hb).2 ?_
  walk_at "v"
  refine vslice_in (sp24 hn hb).1 ?_
  walk_at "v"
  refine vslice_in (sp24 hn hb).2 ?_
  walk_at "v"
  rw [slice_to x c1, slice_to y c3, slice_from x c1, slice_from y c3]
  have z1 := sp_fst c1 c3 c6
  have z2 := sp_snd c1 c3 c2 c4 c5
  refine hmain _ _ _ _ _ z1 fun l ds hl hg hna => ?_
  walk_at "v"
  refine hmain _ _ _ _ _ z2 fun l2 ds2 hl2 hg2 hna2 => ?_
  walk_at "v"
  have hne : l ≠ l2 := fun q => by rw [← q, updH_self] at hl2; cases hl2
  rw [updH_self, updH_ne _ _ hne, updH_self]
  obtain ⟨g1, g2, g3, g4⟩ := hg
  obtain ⟨k1, k2, k3, k4⟩ := hg2
  have e1 := g1.len
  have e2 := k1.len
  rw [g2, g3] at e1
  rw [k2, k3] at e2
  refine ⟨szLine (by rw [encs_len, encs_len]; exact sp_len e1 e2 z1 z2 hn hb), fun l3 hl3 => ?_⟩
  refine ⟨l3, ds ++ ds2, rfl, ?_, g1.append k1, ?_, ?_, ?_⟩
  · simp [St.setH, encs_append]
  · rw [src_append, g2, k2, List.take_append_drop]
  · rw [dst_append, g3, k3, List.take_append_drop]
  · rw [cost_append]; exact sp_cost g4 k4 c7
end
section
open PySem PySem.W
set_option Elab.async false
set_option autoImplicit false
set_option linter.unusedVariables false
theorem lcp_split (x y : List Nat) : x.take (lcp x y) = y.take (lcp x y) := (lcp_take x y _ (lcp_le x y).1 (lcp_le x y).2).mpr (Nat.le_refl _)
theorem lcp_drop (x y : List Nat) : lcp (x.drop (lcp x y)) (y.drop (lcp x y)) = 0 := by
  fun_induction lcp x y with
  | case1 x b y ih => simpa using ih
  | case2 a x b y h => simp [lcp, h]
  | case3 x y h =>
    match x, y, h with
    | [], y, _ => simp [lcp]
    | a :: x, [], _ => simp [lcp]
    | a :: x, b :: y, h => exact (h a x b y rfl rfl).elim
theorem lcp_zero_take {x y : List Nat} (h : lcp x y = 0) (a b : Nat) : lcp (x.take a) (y.take b) = 0 := by
  match x, y, a, b with
  | [], y, _, _ => simp [lcp]
  | x, [], _, _ => cases x <;> simp [lcp]
  | _ :: _, _ :: _, 0, _ => simp [lcp]
  | _ :: _, _ :: _, _ + 1, 0 => simp [lcp]
  | p :: x, q :: y, a + 1, b + 1 =>
    by_cases hpq : p = q
    · simp [lcp, hpq] at h
    · simp [lcp, hpq]
theorem suf_split {x y : List Nat} (s : Nat) (h1 : s ≤ x.length) (h2 : s ≤ y.length) (h : x.reverse.take s = y.reverse.take s) : x.drop (x.length - s) = y.drop (y.length - s) := by
  rw [List.take_reverse, List.take_reverse, List.reverse_inj] at h; exact h
theorem ed_pre (p x y : List Nat) : ed (p ++ x) (p ++ y) = ed x y := by
  unfold ed; rw [lcs_pre]; simp; omega
theorem ed_suf (p x y : List Nat) : ed (x ++ p) (y ++ p) = ed x y := by
  unfold ed; rw [lcs_suf]; simp; omega
theorem ed_self (x : List Nat) : ed x x = 0 := by unfold ed; rw [lcs_self]; omega
noncomputable def PostC (x y : List Nat) : Fl → St → Prop := fun g σ => ∃ l ds, g = .ret (.ref l) ∧ σ.H l = some (encs ds) ∧ Good x y ds ∧ NoAdj ds
theorem mn_a {a b n : Nat} (h : a + b ≤ n) (hn : n ≤ 2 ^ 10) : a ≤ 2 ^ 10 ∧ b ≤ 2 ^ 10 := ⟨Nat.le_trans (Nat.le_trans (Nat.le_add_right a b) h) hn, Nat.le_trans (Nat.le_trans (Nat.le_add_left b a) h) hn⟩
theorem up16 {n : Nat} (h : n ≤ 2 ^ 10) : n ≤ 2 ^ 16 := Nat.le_trans h (by decide)
theorem up24 {n : Nat} (h : n ≤ 2 ^ 10) : n ≤ 2 ^ 24 := Nat.le_trans h (by decide)
theorem pos_ne {s : Nat} (h : ¬ (s : Int) = 0) : (0 : Int) < s := by omega
theorem mn_1 {a b n : Nat} (h : a ≤ b) (hb : b ≤ n) (hn : n ≤ 2 ^ 10) : 1 + a ≤ 2 ^ 20 := by omega
theorem mn_2 {a b c n : Nat} (h : a ≤ c + 1) (hc : c ≤ b) (hb : b ≤ n) (hn : n ≤ 2 ^ 10) : a + 1 ≤ 2 ^ 20 := by omega
theorem v_main (Φ : Calls) (tool : Addr) (x y : List Nat) (dl : V) (n : Nat) (hn : x.length + y.length ≤ n) (hb : n ≤ 2 ^ 10) (hpre : CPre Φ) (hsuf : CSuf Φ) (hcomp : CCompute Φ n) (hmerge : CMerge Φ (n + 3)) :
    wpS (SP Φ tool) S_main ⟨[some (.ref tool), some (.str x), some (.str y), some (.bool false), some dl, none, none, none, none], noH⟩ (PostC x y) := by
  unfold S_main
  walk_at "v"
  refine ite_dec (fun hxy => ?_) fun hxy => ?_
  · subst hxy
    cases x with
    | nil =>
      walk_at "v"
      intro l hl
      exact ⟨l, [], rfl, by simp [St.setH, encs], ⟨fun _ h => (nomatch h), rfl, rfl, by rw [ed_self]; rfl⟩, trivial⟩
    | cons a x =>
      simp only [List.length_cons] at hn
      walk_at "v"
      intro l hl
      refine ⟨l, [(0, a :: x)], rfl, by simp [St.setH, encs], ⟨fun p hp => ?_, by simp [src], by simp [dst], by rw [ed_self]; rfl⟩, trivial⟩
      have : p = (0, a :: x) := by simpa using hp
      subst this
      exact ⟨.inr (.inl rfl), by simp⟩
  · obtain ⟨zx, zy⟩ := mn_a hn hb
    walk_at "v"
    refine hpre _ _ _ _ (up16 zx) (up16 zy) ?_
    walk_at "v"
    refine vslice_ni (up24 zx) ?_
    walk_at "v"
    refine vslice_in (up24 zx) ?_
    walk_at "v"
    refine vslice_in (up24 zy) ?_
    walk_at "v"
    rw [slice_to x (Int.natCast_nonneg _), slice_from x (Int.natCast_nonneg _), slice_from y (Int.natCast_nonneg _), Int.toNat_natCast]
    have hp := lcp_split x y
    have hz := lcp_drop x y
    obtain ⟨b1, b2⟩ := lcp_le x y
    generalize lcp x y = p at hp hz b1 b2
    generalize hx1 : x.drop p = x1 at hz
    generalize hy1 : y.drop p = y1 at hz
    have ex : x = x.take p ++ x1 := by rw [← hx1, List.take_append_drop]
    have ey : y = x.take p ++ y1 := by rw [← hy1, hp, List.take_append_drop]
    have s1 : x1.length ≤ x.length := by rw [← hx1, List.length_drop]; exact Nat.sub_le _ _
    have s2 : y1.length ≤ y.length := by rw [← hy1, List.length_drop]; exact Nat.sub_le _ _
    have zx1 := Nat.le_trans s1 zx
    have zy1 := Nat.le_trans s2 zy
    clear b1 b2
    have zc : (x.take p).length ≤ 2 ^ 10 := Nat.le_trans (List.length_take_le' p x) zx
    generalize x.take p = cp at ex ey zc
    refine hsuf _ _ _ _ (up16 zx1) (up16 zy1) ?_
    walk_at "u"
    refine (show ∀ Kk : Fl → St → Prop, (∀ (s : Int) (cs x2 y2 : List Nat), x1 = x2 ++ cs → y1 = y2 ++ cs → lcp x2 y2 = 0 → lcp x2.reverse y2.reverse = 0 →
      Kk .next ⟨[some (.ref tool), some (.str x2), some (.str y2), some (.bool false), some dl, some (.int s), some (.str cp), none, some (.str cs)], noH⟩) → wpS _ _ _ Kk from fun Kk hK => ?_) _ ?_
    · walk_at "v"
      have hs := lcp_split x1.reverse y1.reverse
      have hsz := lcp_drop x1.reverse y1.reverse
      obtain ⟨b3, b4⟩ := lcp_le x1.reverse y1.reverse
      simp only [List.length_reverse] at b3 b4
      refine ite_dec (fun h0 => ?_) fun h0 => ?_
      · walk_at "v"
        exact hK _ [] x1 y1 (by simp) (by simp) hz (by omega)
      · generalize lcp x1.reverse y1.reverse = s at hs hsz b3 b4 h0
        have h0' := pos_ne h0
        walk_at "v"
        refine vslice_in (up24 zx1) ?_
        walk_at "v"
        refine vslice_ni (up24 zx1) ?_
        walk_at "v"
        refine vslice_ni (up24 zy1) ?_
        walk_at "v"
        rw [slice_fromn x1 h0', slice_ton x1 h0', slice_ton y1 h0', Int.toNat_natCast]
        have q := suf_split s b3 b4 hs
        refine hK _ _ _ _ (by rw [List.take_append_drop]) (by rw [q, List.take_append_drop]) (lcp_zero_take hz _ _) ?_
        rw [List.drop_reverse, List.drop_reverse] at hsz; exact hsz
    · intro s cs x2 y2 ex1 ey1 hz2 hz3
      have l3 : x2.length ≤ x1.length := by rw [ex1, List.length_append]; exact Nat.le_add_right _ _
      have l4 : y2.length ≤ y1.length := by rw [ey1, List.length_append]; exact Nat.le_add_right _ _
      have l5 : x2.length + y2.length ≤ n := Nat.le_trans (Nat.add_le_add (Nat.le_trans l3 s1) (Nat.le_trans l4 s2)) hn
      have zs : cs.length ≤ 2 ^ 10 := Nat.le_trans (by rw [ex1, List.length_append]; exact Nat.le_add_left _ _) zx1
      clear l3 l4 s1 s2 zx1 zy1 zx zy
      have hne : ¬ (x2 = [] ∧ y2 = []) := by
        rintro ⟨rfl, rfl⟩
        exact hxy (by rw [ex, ey, ex1, ey1])
      walk_at "v"
      refine hcomp x2 y2 dl _ _ l5 hne hz2 hz3 fun l ds hl hg => ?_
      obtain ⟨g1, g2, g3, g4⟩ := hg
      walk_at "u"
      -- the prefix ahead
      refine (show ∀ Kk : Fl → St → Prop, (∀ (H : AH) (ds1 : List Df), H l = some (encs ds1) → Okd ds1 → src ds1 = cp ++ x2 → dst ds1 = cp ++ y2 → (cost ds1 : Int) = ed x2 y2 → ds1.length ≤ ds.length + 1 →
        Kk .next ⟨[some (.ref tool), some (.str x2), some (.str y2), some (.bool false), some dl, some (.int s), some (.str cp), some (.ref l), some (.str cs)], H⟩) → wpS _ _ _ Kk from fun Kk hK => ?_) _ ?_
      · have lds := g1.len
        rw [g2, g3] at lds
        walk_at "v"
        cases hce : cp.isEmpty with
        | true =>
          have hcp : cp = [] := by simpa using hce
          walk_at "v"
          exact hK (updH noH l (encs ds)) ds (updH_self _ _ _) g1 (by rw [hcp]; simpa using g2) (by rw [hcp]; simpa using g3) g4 (Nat.le_succ _)
        | false =>
          have hcp : cp ≠ [] := by intro q; rw [q] at hce; cases hce
          walk_at "v"
          intro q hq
          have hq : updH noH l (encs ds) q = none := hq
          walk_at "v"
          have hlq : l ≠ q := fun e => by rw [← e, updH_self] at hq; cases hq
          rw [if_neg hlq, if_pos rfl, updH_self]
          have lenc := encs_len ds
          refine ⟨⟨hlq, (by rw [lenc, Nat.add_comm]; exact mn_1 lds l5 hb), by rw [cl_pos (by decide)]; simp [cl]⟩, ?_⟩
          refine hK _ ((0, cp) :: ds) ?_ ?_ ?_ ?_ ?_ (by simp)
          · rw [if_pos rfl, cl_pos (by decide), show cl (encs ds).length 0 none = 0 from rfl]; simp [encs]
          · intro p hp
            rcases List.mem_cons.mp hp with rfl | hp
            · exact ⟨.inr (.inl rfl), hcp⟩
            · exact g1 p hp
          · rw [src_cons, g2]; simp
          · rw [dst_cons, g3]; simp
          · rw [cost_cons, ← g4]; simp
      · intro H ds1 hH h1 h2 h3 h4 h5
        have lds := g1.len
        rw [g2, g3] at lds
        walk_at "u"
        -- the suffix behind
        refine (show ∀ Kk : Fl → St → Prop, (∀ (H : AH) (ds2 : List Df), H l = some (encs ds2) → Okd ds2 → src ds2 = x → dst ds2 = y → (cost ds2 : Int) = ed x y → ds2.length ≤ ds.length + 2 →
          Kk .next ⟨[some (.ref tool), some (.str x2), some (.str y2), some (.bool false), some dl, some (.int s), some (.str cp), some (.ref l), some (.str cs)], H⟩) → wpS _ _ _ Kk from fun Kk hK => ?_) _ ?_
        · have hex : cp ++ x2 ++ cs = x := by rw [ex, ex1, List.append_assoc]
          have hey : cp ++ y2 ++ cs = y := by rw [ey, ey1, List.append_assoc]
          have hed : ed x2 y2 = ed x y := by rw [← hex, ← hey, ed_suf, ed_pre]
          walk_at "v"
          cases hce : cs.isEmpty with
          | true =>
            have hcs : cs = [] := by simpa using hce
            walk_at "v"
            refine hK H ds1 hH h1 ?_ ?_ (by rw [h4, hed]) (Nat.le_succ_of_le h5)
            · rw [h2, ← hex, hcs]; simp
            · rw [h3, ← hey, hcs]; simp
          | false =>
            have hcs : cs ≠ [] := by intro q; rw [q] at hce; cases hce
            walk_at "v"
            refine ⟨by rw [hH]; rfl, ?_⟩
            walk_at "v"
            rw [hH]
            have lenc := encs_len ds1
            refine ⟨by rw [lenc]; exact mn_2 h5 lds l5 hb, ?_⟩
            refine hK _ (ds1 ++ [(0, cs)]) ?_ ?_ ?_ ?_ ?_ (by rw [List.length_append]; exact Nat.succ_le_succ h5)
            · rw [if_pos rfl]; simp [encs]
            · refine h1.append fun p hp => ?_
              have : p = (0, cs) := by simpa using hp
              subst this
              exact ⟨.inr (.inl rfl), hcs⟩
            · rw [src_append, h2, ← hex]; simp [src]
            · rw [dst_append, h3, ← hey]; simp [dst]
            · rw [cost_append, ← hed, ← h4]; simp [cost]
        · intro H ds2 hH q1 q2 q3 q4 q5
          walk_at "v"
          refine hmerge l ds2 H _ hH q1 (by rw [q2, q3]; exact q4) (by omega) (by rw [q2, q3]; omega) fun ds' r1 r2 r3 r4 r5 => ?_
          walk_at "v"
          exact ⟨l, ds', rfl, updH_self _ _ _, ⟨r1, by rw [r2, q2], by rw [r3, q3], by rw [r4, q4]⟩, r5⟩
end
section
open PySem PySem.W
set_option Elab.async false
set_option autoImplicit false
set_option linter.unusedVariables false
theorem find_spec (L S : List Nat) : (Txt.find (strOf L) (strOf S) = -1 ∧ ∀ i, i + S.length ≤ L.length → (L.drop i).take S.length ≠ S) ∨
    ∃ i : Nat, Txt.find (strOf L) (strOf S) = i ∧ i + S.length ≤ L.length ∧ (L.drop i).take S.length = S := by
  have len : ∀ l : List Nat, (strOf l).length = l.length := fun l => by simp [strOf, PySem.Str.length]
  have at_ : ∀ i, StrLaws.At (strOf L) (strOf S) (strOf L).length i ↔ (i + S.length ≤ L.length ∧ (L.drop i).take S.length = S) := by
    intro i
    unfold StrLaws.At
    rw [StrLaws.subAt_eq, len, len]
    simp [strOf]
  rcases StrLaws.occ_head_from (strOf L) (strOf S) 0 1 (Nat.le_refl _) with ⟨h1, h2⟩ | ⟨i, r, h1, _, h2, _⟩
  · left
    refine ⟨by unfold Txt.find; rw [h1], fun i hi q => h2 i (Nat.zero_le _) ((at_ i).mpr ⟨hi, q⟩)⟩
  · right
    obtain ⟨a, b⟩ := (at_ i).mp h2
    exact ⟨i, by unfold Txt.find; rw [h1], a, b⟩
theorem ed_zero {x y : List Nat} (h : ed x y ≤ 0) : x = y := by
  obtain ⟨z, h1, h2, h3⟩ := lcs_ex x y
  have a := lcs_le_left x y
  have b := lcs_le_right x y
  unfold ed at h
  have e1 : z = x := h1.eq_of_length (by omega)
  have e2 : z = y := h2.eq_of_length (by omega)
  rw [← e1, ← e2]
theorem ed_two {x y : List Nat} (h1 : lcp x y = 0) (h2 : lcp x.reverse y.reverse = 0) (hx : 1 ≤ x.length) (hy : 1 ≤ y.length) (h3 : 3 ≤ x.length + y.length) : 2 ≤ ed x y := by
  refine Classical.byContradiction fun hn => ?_
  match x, y, hx, hy with
  | a :: x, b :: y, _, _ =>
    have hab : a ≠ b := fun q => by simp [lcp, q] at h1
    have e := lcs_diff hab x y
    have rev : ∀ (u v : List Nat) (c : Nat), v ≠ [] → lcp (c :: v).reverse v.reverse ≠ 0 := by
      intro u v c hv q
      cases hr : v.reverse with
      | nil => exact hv (by simpa using hr)
      | cons p r => rw [List.reverse_cons, hr] at q; simp [lcp] at q
    have rev2 : ∀ (u v : List Nat) (c : Nat), v ≠ [] → lcp v.reverse (c :: v).reverse ≠ 0 := by
      intro u v c hv q
      cases hr : v.reverse with
      | nil => exact hv (by simpa using hr)
      | cons p r => rw [List.reverse_cons, hr] at q; simp [lcp] at q
    by_cases hm : lcs x (b :: y) ≤ lcs (a :: x) y
    · have : ed (a :: x) y ≤ 0 := by
        unfold ed at hn ⊢; rw [e] at hn; simp only [List.length_cons] at hn ⊢; omega
      have q := ed_zero this
      rw [← q] at h2
      exact rev2 x (a :: x) b (by simp) h2
    · have : ed x (b :: y) ≤ 0 := by
        unfold ed at hn ⊢; rw [e] at hn; simp only [List.length_cons] at hn ⊢; omega
      have q := ed_zero this
      rw [q] at h2
      exact rev x (b :: y) a (by simp) h2
open List in
theorem ed_infix {L S : List Nat} (h : S <+ L) : ed L S = L.length - S.length ∧ ed S L = L.length - S.length := by
  have h1 := Mine.lcs_le L S S h (List.Sublist.refl S)
  have h2 := lcs_le_right L S
  have h3 := Mine.lcs_le S L S (List.Sublist.refl S) h
  have h4 := lcs_le_left S L
  unfold ed; omega
end
section
open PySem PySem.W
set_option Elab.async false
set_option autoImplicit false
set_option linter.unusedVariables false
theorem v_compute (Φ : Calls) (tool : Addr) (x y : List Nat) (dl : V) (n : Nat) (hn : x.length + y.length ≤ n) (hb : n ≤ 2 ^ 10) (hne : ¬ (x = [] ∧ y = [])) (hz : lcp x y = 0) (hz2 : lcp x.reverse y.reverse = 0)
    (hhalf : CHalf Φ) (hbis : CBisect Φ n) :
    wpS (SP Φ tool) S_compute ⟨[some (.ref tool), some (.str x), some (.str y), some (.bool false), some dl, none, none, none, none, none, none, none, none, none, none, none, none], noH⟩ (PostB x y) := by
  unfold S_compute
  walk_at "v"
  cases hxe : x.isEmpty with
  | true =>
    have hx : x = [] := by simpa using hxe
    subst hx
    walk_at "v"
    intro l hl
    refine ⟨l, [(1, y)], rfl, by simp [encs, St.setH], ⟨fun p hp => ?_, by simp [src], by simp [dst], by simp [cost, ed, lcs_nil_left]⟩⟩
    have : p = (1, y) := by simpa using hp
    subst this
    exact ⟨.inr (.inr rfl), fun q => hne ⟨rfl, q⟩⟩
  | false =>
  have hx : x ≠ [] := by intro q; rw [q] at hxe; cases hxe
  walk_at "v"
  cases hye : y.isEmpty with
  | true =>
    have hy : y = [] := by simpa using hye
    subst hy
    walk_at "v"
    intro l hl
    refine ⟨l, [(-1, x)], rfl, by simp [encs, St.setH], ⟨fun p hp => ?_, by simp [src], by simp [dst], by simp [cost, ed, lcs_nil_right]⟩⟩
    have : p = (-1, x) := by simpa using hp
    subst this
    exact ⟨.inl rfl, hx⟩
  | false =>
  have hy : y ≠ [] := by intro q; rw [q] at hye; cases hye
  have px := List.length_pos_iff.mpr hx
  have py := List.length_pos_iff.mpr hy
  walk_at "u"
  refine (show ∀ Kk : Fl → St → Prop, (∀ L S : List Nat, ((x = L ∧ y = S ∧ S.length < L.length) ∨ (x = S ∧ y = L ∧ S.length ≤ L.length)) →
    Kk .next ⟨[some (.ref tool), some (.str x), some (.str y), some (.bool false), some dl, none, none, none, none, none, some (.str L), some (.str S), none, none, none, none, none], noH⟩) → wpS _ _ _ Kk from fun Kk hK => ?_) _ ?_
  · walk_at "v"
    refine ite_dec (fun h => ?_) fun h => ?_
    · walk_at "v"
      exact hK x y (.inl ⟨rfl, rfl, by omega⟩)
    · walk_at "v"
      exact hK y x (.inr ⟨rfl, rfl, by omega⟩)
  · intro L S hLS
    have hfs := find_spec L S
    have sL : L.length ≤ n := by rcases hLS with ⟨a, b, c⟩ | ⟨a, b, c⟩ <;> subst a b <;> omega
    have sS : 1 ≤ S.length ∧ S.length ≤ n ∧ S.length ≤ L.length := by rcases hLS with ⟨a, b, c⟩ | ⟨a, b, c⟩ <;> subst a b <;> omega
    walk_at "v"
    generalize Txt.find (strOf L) (strOf S) = fi at hfs
    refine ite_dec (fun h => ?_) fun h => ?_
    · rcases hfs with ⟨q, _⟩ | ⟨i, rfl, hi, htake⟩
      · exact absurd q h
      walk_at "v"
      refine vslice_ni (by omega) ?_
      walk_at "v"
      refine vslice_in (by omega) ?_
      walk_at "v"
      rw [slice_to L (by omega), slice_from L (by omega), show ((i : Int) + (S.length : Int)).toNat = i + S.length from by omega, Int.toNat_natCast]
      intro l hl
      -- the parts
      have eL : L = L.take i ++ S ++ L.drop (i + S.length) := by
        conv => lhs; rw [← List.take_append_drop i L, ← List.take_append_drop S.length (L.drop i), htake, List.drop_drop]
        simp
      have nS : S ≠ [] := by intro q; rw [q] at sS; simp at sS
      have npre : L.take i ≠ [] := by
        intro q
        rw [q, List.nil_append] at eL
        have : lcp L S ≠ 0 ∧ lcp S L ≠ 0 := by
          cases hS : S with
          | nil => exact absurd hS nS
          | cons a S' =>
            rw [hS] at eL
            generalize L.drop (i + (a :: S').length) = t at eL
            rw [eL]; simp [lcp]
        rcases hLS with ⟨a, b, c⟩ | ⟨a, b, c⟩ <;> subst a b
        · exact this.1 hz
        · exact this.2 hz
      have npost : L.drop (i + S.length) ≠ [] := by
        intro q
        rw [q, List.append_nil] at eL
        have : lcp L.reverse S.reverse ≠ 0 ∧ lcp S.reverse L.reverse ≠ 0 := by
          cases hS : S.reverse with
          | nil => exact absurd (by simpa using hS) nS
          | cons a S' =>
            have : L.reverse = a :: (S' ++ (L.take i).reverse) := by
              conv => lhs; rw [eL]
              rw [List.reverse_append, hS]; rfl
            rw [this]; simp [lcp]
        rcases hLS with ⟨a, b, c⟩ | ⟨a, b, c⟩ <;> subst a b
        · exact this.1 hz2
        · exact this.2 hz2
      have hinf : List.Sublist S L := by
        rw [eL]
        exact ((List.sublist_append_right (L.take i) S).trans (List.sublist_append_left _ _))
      have hed := ed_infix hinf
      have lens : (L.take i).length + S.length + (L.drop (i + S.length)).length = L.length := by
        conv => rhs; rw [eL]
        simp; omega
      generalize hpre : L.take i = pre at eL npre lens
      generalize hpost : L.drop (i + S.length) = post at eL npost lens
      have okd : ∀ k : Int, (k = 1 ∨ k = -1) → Okd [(k, pre), (0, S), (k, post)] := by
        intro k hk p hp
        simp only [List.mem_cons, List.not_mem_nil, or_false] at hp
        rcases hp with rfl | rfl | rfl
        · exact ⟨by rcases hk with rfl | rfl <;> simp, npre⟩
        · exact ⟨.inr (.inl rfl), nS⟩
        · exact ⟨by rcases hk with rfl | rfl <;> simp, npost⟩
      walk_at "v"
      refine ite_dec (fun h2 => ?_) fun h2 => ?_
      · have hx' : x = L ∧ y = S := by rcases hLS with ⟨a, b, c⟩ | ⟨a, b, c⟩ <;> subst a b <;> first | exact ⟨rfl, rfl⟩ | omega
        obtain ⟨rfl, rfl⟩ := hx'
        walk_at "v"
        refine vitem_ref (vs := [.tup (.int 1) (.str pre), .tup (.int 0) (.str y), .tup (.int 1) (.str post)]) (by simp) (by decide) (by simp) rfl ?_
        walk_at "v"
        rw [if_pos rfl]
        refine ⟨by simp, ?_⟩
        walk_at "v"
        refine vitem_ref (vs := [.tup (.int (-1)) (.str pre), .tup (.int 0) (.str y), .tup (.int 1) (.str post)]) (by simp) (by decide) (by simp) rfl ?_
        walk_at "v"
        rw [if_pos rfl]
        refine ⟨by simp, ?_⟩
        walk_at "v"
        refine ⟨l, [(-1, pre), (0, y), (-1, post)], rfl, by simp [encs], okd (-1) (.inr rfl), ?_, by simp [dst], ?_⟩
        · simp only [src, List.flatMap_cons, List.flatMap_nil]; simp; rw [← List.append_assoc]; exact eL.symm
        · rw [hed.1]; simp [cost]; omega
      · have hx' : x = S ∧ y = L := by rcases hLS with ⟨a, b, c⟩ | ⟨a, b, c⟩ <;> subst a b <;> first | exact ⟨rfl, rfl⟩ | omega
        obtain ⟨rfl, rfl⟩ := hx'
        walk_at "v"
        refine ⟨l, [(1, pre), (0, x), (1, post)], rfl, by simp [encs], okd 1 (.inl rfl), by simp [src], ?_, ?_⟩
        · simp only [dst, List.flatMap_cons, List.flatMap_nil]; simp; rw [← List.append_assoc]; exact eL.symm
        · rw [hed.2]; simp [cost]; omega
    · rcases hfs with ⟨q, hno⟩ | ⟨i, rfl, hi, htake⟩
      case inr => exact absurd (show ((i : Nat) : Int) = -1 from Classical.not_not.mp h) (by omega)
      walk_at "v"
      refine ite_dec (fun h1 => ?_) fun h1 => ?_
      · -- a single sign that does not stand in the other
        walk_at "v"
        intro l hl
        have hl0 : lcs x y = 0 := by
          obtain ⟨z, z1, z2, z3⟩ := lcs_ex x y
          refine Classical.byContradiction fun hpos => ?_
          have zS : List.Sublist z S ∧ List.Sublist z L := by rcases hLS with ⟨a, b, c⟩ | ⟨a, b, c⟩ <;> subst a b <;> exact ⟨by assumption, by assumption⟩
          have : z = S := zS.1.eq_of_length (by have := zS.1.length_le; omega)
          subst this
          match z, h1 with
          | [c], _ =>
            have hc : c ∈ L := zS.2.subset (by simp)
            obtain ⟨i, hi, e⟩ := List.mem_iff_getElem.mp hc
            refine hno i (by simp; omega) ?_
            rw [List.drop_eq_getElem_cons hi, e]; simp
          | [], h1 => simp at h1
          | _ :: _ :: _, h1 => simp at h1; omega
        refine ⟨l, [(-1, x), (1, y)], rfl, by simp [encs, St.setH], ⟨fun p hp => ?_, by simp [src], by simp [dst], by simp [cost, ed, hl0]⟩⟩
        simp only [List.mem_cons, List.not_mem_nil, or_false] at hp
        rcases hp with rfl | rfl
        · exact ⟨.inl rfl, hx⟩
        · exact ⟨.inr (.inr rfl), hy⟩
      · walk_at "v"
        refine hhalf _ _ _ _ ?_
        walk_at "v"
        have hlen : 2 ≤ x.length ∧ 2 ≤ y.length := by rcases hLS with ⟨a, b, c⟩ | ⟨a, b, c⟩ <;> subst a b <;> omega
        refine hbis x y dl _ _ hn hlen.1 hlen.2 (ed_two hz hz2 (by omega) (by omega) (by omega)) fun l ds hl hg => ?_
        walk_at "v"
        exact ⟨l, ds, rfl, updH_self _ _ _, hg⟩
end
section
open PySem PySem.W
set_option Elab.async false
set_option autoImplicit false
set_option linter.unusedVariables false
noncomputable def S_fbody : S := (.seq (.asg 20 (.bin .Add (.var 7) (.var 18))) (.seq (.ite (.or (.cmp .Eq (.var 18) (.neg (.var 17))) (.or (.and (.cmp .NotEq (.var 18) (.var 17)) (.and (.cmp .Lt (.item (.var 9) (.bin .Sub (.var 20) (.int 1))) (.item (.var 9) (.bin .Add (.var 20) (.int 1)))) .tt)) .ff)) (.asg 24 (.item (.var 9) (.bin .Add (.var 20) (.int 1)))) (.asg 24 (.bin .Add (.item (.var 9) (.bin .Sub (.var 20) (.int 1))) (.int 1)))) (.seq (.asg 21 (.bin .Sub (.var 24) (.var 18))) (.seq (.whil (.and (.cmp .Lt (.var 24) (.var 4)) (.and (.cmp .Lt (.var 21) (.var 5)) (.and (.cmp .Eq (.item (.var 1) (.var 24)) (.item (.var 2) (.var 21))) .tt))) (.seq (.aug 24 .Add (.int 1)) (.aug 21 .Add (.int 1)))) (.seq (.setItem (.var 9) (.var 20) (.var 24)) (.ite (.cmp .Gt (.var 24) (.var 4)) (.aug 14 .Add (.int 2)) (.ite (.cmp .Gt (.var 21) (.var 5)) (.aug 13 .Add (.int 2)) (.ite (.val (.var 12)) (.seq (.asg 22 (.bin .Sub (.bin .Add (.var 7) (.var 11)) (.var 18))) (.ite (.and (.cmp .GtE (.var 22) (.int 0)) (.and (.cmp .Lt (.var 22) (.var 8)) (.and (.cmp .NotEq (.item (.var 10) (.var 22)) (.neg (.int 1))) .tt))) (.seq (.asg 25 (.bin .Sub (.var 4) (.item (.var 10) (.var 22)))) (.ite (.cmp .GtE (.var 24) (.var 25)) (.ret (.call5 3 (.var 1) (.var 2) (.var 24) (.var 21) (.var 3))) .skip)) .skip)) .skip))))))))
noncomputable def S_rbody : S := (.seq (.asg 22 (.bin .Add (.var 7) (.var 19))) (.seq (.ite (.or (.cmp .Eq (.var 19) (.neg (.var 17))) (.or (.and (.cmp .NotEq (.var 19) (.var 17)) (.and (.cmp .Lt (.item (.var 10) (.bin .Sub (.var 22) (.int 1))) (.item (.var 10) (.bin .Add (.var 22) (.int 1)))) .tt)) .ff)) (.asg 25 (.item (.var 10) (.bin .Add (.var 22) (.int 1)))) (.asg 25 (.bin .Add (.item (.var 10) (.bin .Sub (.var 22) (.int 1))) (.int 1)))) (.seq (.asg 23 (.bin .Sub (.var 25) (.var 19))) (.seq (.whil (.and (.cmp .Lt (.var 25) (.var 4)) (.and (.cmp .Lt (.var 23) (.var 5)) (.and (.cmp .Eq (.item (.var 1) (.bin .Sub (.neg (.var 25)) (.int 1))) (.item (.var 2) (.bin .Sub (.neg (.var 23)) (.int 1)))) .tt))) (.seq (.aug 25 .Add (.int 1)) (.aug 23 .Add (.int 1)))) (.seq (.setItem (.var 10) (.var 22) (.var 25)) (.ite (.cmp .Gt (.var 25) (.var 4)) (.aug 16 .Add (.int 2)) (.ite (.cmp .Gt (.var 23) (.var 5)) (.aug 15 .Add (.int 2)) (.ite (.not (.val (.var 12))) (.seq (.asg 20 (.bin .Sub (.bin .Add (.var 7) (.var 11)) (.var 19))) (.ite (.and (.cmp .GtE (.var 20) (.int 0)) (.and (.cmp .Lt (.var 20) (.var 8)) (.and (.cmp .NotEq (.item (.var 9) (.var 20)) (.neg (.int 1))) .tt))) (.seq (.asg 24 (.item (.var 9) (.var 20))) (.seq (.asg 21 (.bin .Sub (.bin .Add (.var 7) (.var 24)) (.var 20))) (.seq (.asg 25 (.bin .Sub (.var 4) (.var 25))) (.ite (.cmp .GtE (.var 24) (.var 25)) (.ret (.call5 3 (.var 1) (.var 2) (.var 24) (.var 21) (.var 3))) .skip)))) .skip)) .skip))))))))
noncomputable def encI (w : List Int) : List V := w.map .int
noncomputable def vf (mx : Int) (w : List Int) (k : Int) : Int := if 0 ≤ mx + k then w.getD (mx + k).toNat (-1) else -1
theorem vf_set {mx : Int} {w : List Int} {k x : Int} (h0 : 0 ≤ mx + k) (h1 : mx + k < w.length) : vf mx (w.set (mx + k).toNat x) = setf (vf mx w) k x := by
  funext j
  unfold vf setf
  dsimp only
  by_cases hj : j = k
  · subst hj
    have : (mx + j).toNat < w.length := by rw [Int.toNat_lt h0]; exact h1
    rw [if_pos rfl, if_pos h0]; simp [List.getD, this]
  · rw [if_neg hj]
    by_cases h2 : 0 ≤ mx + j
    · rw [if_pos h2, if_pos h2]; simp only [List.getD]; rw [List.getElem?_set_ne fun q => hj (Int.add_left_cancel ((Int.toNat_of_nonneg h2).symm.trans ((congrArg Int.ofNat q.symm).trans (Int.toNat_of_nonneg h0))))]
    · rw [if_neg h2, if_neg h2]
theorem encI_set (w : List Int) (n : Nat) (x : Int) : (encI w).set n (.int x) = encI (w.set n x) := by simp [encI]
theorem encI_get {mx : Int} {w : List Int} {k : Int} (h0 : 0 ≤ mx + k) (h1 : mx + k < w.length) : (encI w)[(mx + k).toNat]? = some (.int (vf mx w k)) := by
  unfold vf encI
  rw [if_pos h0]
  have : (mx + k).toNat < w.length := by rw [Int.toNat_lt h0]; exact h1
  simp [List.getD, this]
theorem encI_len (w : List Int) : (encI w).length = w.length := by simp [encI]
noncomputable abbrev BS (tool : Addr) (A B : List Nat) (dl : V) (mx : Int) (l1 l2 : Addr) (fr : Bool) (ks1 ke1 ks2 ke2 : Int) (j17 j18 j19 j20 j21 j22 j23 j24 j25 : Option V) (H : AH) : St :=
  ⟨[some (.ref tool), some (.str A), some (.str B), some dl, some (.int A.length), some (.int B.length), some (.int mx), some (.int mx), some (.int (2 * mx)), some (.ref l1), some (.ref l2), some (.int (A.length - B.length)), some (.bool fr),
    some (.int ks1), some (.int ke1), some (.int ks2), some (.int ke2), j17, j18, j19, j20, j21, j22, j23, j24, j25], H⟩
structure BH (mx : Int) (l1 l2 : Addr) (w1 w2 : List Int) (H : AH) : Prop where
  h1 : H l1 = some (encI w1)
  h2 : H l2 = some (encI w2)
  n1 : (w1.length : Int) = 2 * mx
  n2 : (w2.length : Int) = 2 * mx
  ne : l1 ≠ l2

theorem rev_at {m : Nat} {z : Int} (h0 : 0 ≤ z) (h : z < m) : m - 1 - z.toNat = (-z - 1 + m).toNat ∧ (-z - 1 + m).toNat < m ∧ -(m : Int) ≤ -z - 1 := by
  obtain ⟨z, rfl⟩ := Int.eq_ofNat_of_zero_le h0
  have h := Int.ofNat_lt.mp h
  rw [Int.toNat_natCast]
  clear h0
  have e : (-(z : Int) - 1 + m).toNat = m - 1 - z := by
    rw [show -(z : Int) - 1 + m = (m : Int) - ((1 + z : Nat) : Int) from by clear h; omega, Int.toNat_sub, Nat.sub_sub]
  rw [e]
  exact ⟨rfl, by clear e; omega, by clear e; omega⟩
theorem rev_get {X : List Nat} {z : Int} (h0 : 0 ≤ z) (h : z < X.length) : ∃ a, X[(-z - 1 + X.length).toNat]? = some a ∧ X.reverse[z.toNat]? = some a := by
  obtain ⟨e1, e2, _⟩ := rev_at h0 h
  refine ⟨_, List.getElem?_eq_getElem e2, ?_⟩
  rw [List.getElem?_reverse (by rw [Int.toNat_lt h0]; exact h), e1]
  exact List.getElem?_eq_getElem e2
theorem fwd_get {X : List Nat} {z : Int} (h0 : 0 ≤ z) (h : z < X.length) : ∃ a, X[z.toNat]? = some a := ⟨_, List.getElem?_eq_getElem (by rw [Int.toNat_lt h0]; exact h)⟩
theorem run_nn {x : Int} (h : 0 ≤ x) (t : Nat) : 0 ≤ x + t := Int.add_nonneg h (Int.natCast_nonneg t)
theorem rev_neg {z : Int} (h : 0 ≤ z) : -z - 1 < 0 := by omega
theorem run_less {a x : Int} (h : x < a) : (a - (x + 1)).toNat < (a - x).toNat := by omega
theorem run_succ (x : Int) (t : Nat) : x + ((t + 1 : Nat) : Int) = x + t + 1 := by rw [Int.natCast_succ, Int.add_assoc]
theorem run_sub (x k t : Int) : x - k + t = x + t - k := by omega
theorem sz20 {a b n : Nat} (h : a + b ≤ n) (hn : n ≤ 2 ^ 10) : a ≤ 2 ^ 20 ∧ b ≤ 2 ^ 20 := ⟨Nat.le_trans (Nat.le_trans (Nat.le_add_right a b) h) (Nat.le_trans hn (by decide)), Nat.le_trans (Nat.le_trans (Nat.le_add_left b a) h) (Nat.le_trans hn (by decide))⟩
theorem v_fbody (Φ : Calls) (tool : Addr) (A B : List Nat) (dl : V) (n : Nat) (hn : A.length + B.length ≤ n) (hb : n ≤ 2 ^ 10) (hsplit : CSplit Φ n)
    (mx : Int) (l1 l2 : Addr) (fr : Bool) (d ks1 ke1 ks2 ke2 kc : Int) (j19 j20 j21 j22 j23 j24 j25 : Option V) (H : AH) (w1 w2 : List Int) (Q : Fl → St → Prop)
    (hm2 : 2 ≤ mx) (hmx : 2 * mx ≤ A.length + B.length + 1) (hd : 0 ≤ d) (hdm : d < mx) (hk1 : -d ≤ kc) (hk2 : kc ≤ d) (hkp : (kc - d) % 2 = 0)
    (hH : BH mx l1 l2 w1 w2 H) (hs : StartOk A B d kc (xsOf d (vf mx w1) kc))
    (hdet : ∀ x, EndOk A B d kc x → x ≤ A.length → x - kc ≤ B.length → fr = true → vf mx w2 (A.length - B.length - kc) ≠ -1 → A.length - vf mx w2 (A.length - B.length - kc) ≤ x → CutOk A B x (x - kc))
    (hret : ∀ v σ, PostB A B (.ret v) σ → Q (.ret v) σ)
    (hnext : ∀ x ks' ke' j20 j21 j22 j24 j25 H', EndOk A B d kc x →
      ((x > A.length ∧ ke' = ke1 + 2 ∧ ks' = ks1) ∨ (¬ x > A.length ∧ x - kc > B.length ∧ ks' = ks1 + 2 ∧ ke' = ke1) ∨ (¬ x > A.length ∧ ¬ x - kc > B.length ∧ ks' = ks1 ∧ ke' = ke1)) →
      (fr = true → x ≤ A.length → x - kc ≤ B.length → ¬ (0 ≤ mx + (A.length - B.length - kc) ∧ mx + (A.length - B.length - kc) < 2 * mx ∧ vf mx w2 (A.length - B.length - kc) ≠ -1 ∧ A.length - vf mx w2 (A.length - B.length - kc) ≤ x)) →
      BH mx l1 l2 (w1.set (mx + kc).toNat x) w2 H' → Q .next (BS tool A B dl mx l1 l2 fr ks' ke' ks2 ke2 (some (.int d)) (some (.int kc)) j19 j20 j21 j22 j23 j24 j25 H')) :
    wpS (SP Φ tool) S_fbody (BS tool A B dl mx l1 l2 fr ks1 ke1 ks2 ke2 (some (.int d)) (some (.int kc)) j19 j20 j21 j22 j23 j24 j25 H) Q := by
  obtain ⟨q1, q2, q3, q4, q5⟩ := hH
  have gt : ∀ k : Int, -mx ≤ k → k < mx → (encI w1)[(mx + k).toNat]? = some (.int (vf mx w1 k)) := fun k a b => encI_get (by omega) (by omega)
  unfold S_fbody
  walk_at "u"
  refine (show ∀ Kk : Fl → St → Prop, (∀ xs, xs = xsOf d (vf mx w1) kc → Kk .next (BS tool A B dl mx l1 l2 fr ks1 ke1 ks2 ke2 (some (.int d)) (some (.int kc)) j19 (some (.int (mx + kc))) j21 j22 j23 (some (.int xs)) j25 H)) → wpS (SP Φ tool) _ _ Kk from fun Kk hK => ?_) _ ?_
  · have gp : kc + 1 < mx → (encI w1)[(mx + kc + 1).toNat]? = some (.int (vf mx w1 (kc + 1))) := fun a => by
      have := gt (kc + 1) (by omega) a
      rwa [show mx + (kc + 1) = mx + kc + 1 from by omega] at this
    have gm : -mx ≤ kc - 1 → (encI w1)[(mx + kc - 1).toNat]? = some (.int (vf mx w1 (kc - 1))) := fun a => by
      have := gt (kc - 1) a (by omega)
      rwa [show mx + (kc - 1) = mx + kc - 1 from by omega] at this
    walk_at "v"
    refine ite_dec (fun h1 => ?_) fun h1 => ?_
    · walk_at "v"
      refine vitem_ref q1 (by omega) (by rw [encI_len]; omega) (gp (by omega)) ?_
      walk_at "v"
      refine hK _ ?_
      unfold xsOf; rw [if_pos (.inl h1)]
    · walk_at "v"
      refine ite_dec (fun h2 => ?_) fun h2 => ?_
      · walk_at "v"
        refine vitem_ref q1 (by omega) (by rw [encI_len]; omega) (gm (by omega)) ?_
        walk_at "v"
        refine vitem_ref q1 (by omega) (by rw [encI_len]; omega) (gp (by omega)) ?_
        walk_at "v"
        refine ite_dec (fun h3 => ?_) fun h3 => ?_
        · walk_at "v"
          refine vitem_ref q1 (by omega) (by rw [encI_len]; omega) (gp (by omega)) ?_
          walk_at "v"
          refine hK _ ?_
          unfold xsOf; rw [if_pos (.inr ⟨h2, h3⟩)]
        · walk_at "v"
          refine vitem_ref q1 (by omega) (by rw [encI_len]; omega) (gm (by omega)) ?_
          walk_at "v"
          refine hK _ ?_
          unfold xsOf; rw [if_neg (fun q => q.elim h1 fun q => h3 q.2)]
      · walk_at "v"
        refine vitem_ref q1 (by omega) (by rw [encI_len]; omega) (gm (by omega)) ?_
        walk_at "v"
        refine hK _ ?_
        unfold xsOf; rw [if_neg (fun q => q.elim h1 fun q => h2 q.1)]
  · intro xs hxs
    walk_at "u"
    rw [← hxs] at hs
    obtain ⟨s1, s2, s3, s4⟩ := id hs
    refine wS_while (fun σ => ∃ t : Nat, σ = BS tool A B dl mx l1 l2 fr ks1 ke1 ks2 ke2 (some (.int d)) (some (.int kc)) j19 (some (.int (mx + kc))) (some (.int (xs - kc + t))) j22 j23 (some (.int (xs + t))) j25 H ∧
        ∀ u : Nat, u < t → Like A B (xs + u) (xs - kc + u)) (fun σ => (A.length - ig σ 24).toNat) ⟨0, by simp, by simp⟩ ?_
    rintro _ ⟨t, rfl, run⟩
    have hE : ∀ stop : ¬ (xs + t < A.length ∧ xs - kc + t < B.length ∧ Like A B (xs + t) (xs - kc + t)), EndOk A B d kc (xs + t) := fun stop => end_of_start hs run stop
    refine (show ∀ Kk : Bool → St → Prop, ((xs + t < A.length ∧ xs - kc + t < B.length ∧ Like A B (xs + t) (xs - kc + t)) → Kk true (BS tool A B dl mx l1 l2 fr ks1 ke1 ks2 ke2 (some (.int d)) (some (.int kc)) j19 (some (.int (mx + kc))) (some (.int (xs - kc + t))) j22 j23 (some (.int (xs + t))) j25 H)) →
        (¬ (xs + t < A.length ∧ xs - kc + t < B.length ∧ Like A B (xs + t) (xs - kc + t)) → Kk false (BS tool A B dl mx l1 l2 fr ks1 ke1 ks2 ke2 (some (.int d)) (some (.int kc)) j19 (some (.int (mx + kc))) (some (.int (xs - kc + t))) j22 j23 (some (.int (xs + t))) j25 H)) → wpT (SP Φ tool) _ _ Kk from fun Kk hT hF => ?_) _ ?_ ?_
    · walk_at "v"
      refine ite_dec (fun h1 => ?_) fun h1 => ?_
      · walk_at "v"
        refine ite_dec (fun h2 => ?_) fun h2 => ?_
        · obtain ⟨a, ga⟩ := fwd_get (run_nn s1 t) h1
          obtain ⟨b, gb⟩ := fwd_get (run_nn s2 t) h2
          walk_at "v"
          refine vitem_str (run_nn s1 t) (sz20 hn hb).1 ga ?_
          walk_at "v"
          refine vitem_str (run_nn s2 t) (sz20 hn hb).2 gb ?_
          walk_at "v"
          refine ite_dec (fun h3 => ?_) fun h3 => ?_
          · walk_at "v"
            have : a = b := by simpa using h3
            exact hT ⟨h1, h2, a, ga, by rw [this]; exact gb⟩
          · refine hF ?_
            rintro ⟨_, _, c, c1, c2⟩
            rw [ga] at c1; rw [gb] at c2
            cases c1; cases c2; exact h3 rfl
        · exact hF fun q => h2 q.2.1
      · exact hF fun q => h1 q.1
    · intro hL
      walk_at "v"
      refine ⟨⟨t + 1, by rw [run_succ, run_succ], fun u hu => ?_⟩, ?_⟩
      · by_cases h : u < t
        · exact run u h
        · rw [show u = t from Nat.le_antisymm (Nat.le_of_lt_succ hu) (Nat.not_lt.mp h)]; exact hL.2.2
      · exact run_less hL.1
    · intro hL
      have e := hE hL
      rw [run_sub]
      generalize xs + (t : Int) = x at e
      have hH' : BH mx l1 l2 (w1.set (mx + kc).toNat x) w2 (updH H l1 (encI (w1.set (mx + kc).toNat x))) := ⟨by rw [updH_self], by rw [updH_ne _ _ (Ne.symm q5)]; exact q2, by simp; exact q3, q4, q5⟩
      walk_at "u"
      simp only [q1, encI_len, encI_set]
      refine ⟨⟨by omega, by omega, by omega⟩, ?_⟩
      walk_at "v"
      refine ite_dec (fun h1 => ?_) fun h1 => ?_
      · walk_at "v"
        exact hnext x _ _ _ _ _ _ _ _ e (.inl ⟨h1, rfl, rfl⟩) (fun _ q => absurd q (by omega)) hH'
      · walk_at "v"
        refine ite_dec (fun h2 => ?_) fun h2 => ?_
        · walk_at "v"
          exact hnext x _ _ _ _ _ _ _ _ e (.inr (.inl ⟨h1, h2, rfl, rfl⟩)) (fun _ _ q => absurd q (by omega)) hH'
        · cases fr with
          | false =>
            walk_at "v"
            exact hnext x _ _ _ _ _ _ _ _ e (.inr (.inr ⟨h1, h2, rfl, rfl⟩)) (fun q => Bool.noConfusion q) hH'
          | true =>
            walk_at "v"
            have ei : mx + ((A.length : Int) - B.length) - kc = mx + (A.length - B.length - kc) := by omega
            rw [ei]
            refine ite_dec (fun h3 => ?_) fun h3 => ?_
            · walk_at "v"
              refine ite_dec (fun h4 => ?_) fun h4 => ?_
              · walk_at "v"
                have hv := encI_get (mx := mx) (w := w2) (k := A.length - B.length - kc) (by omega) (by omega)
                refine vitem_ref hH'.h2 (by omega) (by rw [encI_len]; omega) hv ?_
                walk_at "v"
                refine ite_dec (fun h5 => ?_) fun h5 => ?_
                · walk_at "v"
                  refine vitem_ref hH'.h2 (by omega) (by rw [encI_len]; omega) hv ?_
                  walk_at "v"
                  refine ite_dec (fun h6 => ?_) fun h6 => ?_
                  · have hc := hdet x e (by omega) (by omega) rfl h5 (by omega)
                    walk_at "v"
                    refine hsplit _ _ _ _ _ _ _ hn hc fun l ds hl hg => ?_
                    refine hret _ _ ⟨l, ds, rfl, ?_, hg⟩
                    dsimp only; rw [updH_self]
                  · walk_at "v"
                    exact hnext x _ _ _ _ _ _ _ _ e (.inr (.inr ⟨h1, h2, rfl, rfl⟩)) (fun _ _ _ q => h6 (by omega)) hH'
                · exact hnext x _ _ _ _ _ _ _ _ e (.inr (.inr ⟨h1, h2, rfl, rfl⟩)) (fun _ _ _ q => h5 q.2.2.1) hH'
              · exact hnext x _ _ _ _ _ _ _ _ e (.inr (.inr ⟨h1, h2, rfl, rfl⟩)) (fun _ _ _ q => h4 q.2.1) hH'
            · exact hnext x _ _ _ _ _ _ _ _ e (.inr (.inr ⟨h1, h2, rfl, rfl⟩)) (fun _ _ _ q => h3 (by omega)) hH'
theorem v_rbody (Φ : Calls) (tool : Addr) (A B : List Nat) (dl : V) (n : Nat) (hn : A.length + B.length ≤ n) (hb : n ≤ 2 ^ 10) (hsplit : CSplit Φ n)
    (mx : Int) (l1 l2 : Addr) (fr : Bool) (d ks1 ke1 ks2 ke2 kc : Int) (j18 j20 j21 j22 j23 j24 j25 : Option V) (H : AH) (w1 w2 : List Int) (Q : Fl → St → Prop)
    (hm2 : 2 ≤ mx) (hmx : 2 * mx ≤ A.length + B.length + 1) (hd : 0 ≤ d) (hdm : d < mx) (hk1 : -d ≤ kc) (hk2 : kc ≤ d) (hkp : (kc - d) % 2 = 0)
    (hH : BH mx l1 l2 w1 w2 H) (hs : StartOk A.reverse B.reverse d kc (xsOf d (vf mx w2) kc))
    (hdet : ∀ x, EndOk A.reverse B.reverse d kc x → x ≤ A.length → x - kc ≤ B.length → fr = false → vf mx w1 (A.length - B.length - kc) ≠ -1 → A.length - x ≤ vf mx w1 (A.length - B.length - kc) → CutOk A B (vf mx w1 (A.length - B.length - kc)) (vf mx w1 (A.length - B.length - kc) - (A.length - B.length - kc)))
    (hret : ∀ v σ, PostB A B (.ret v) σ → Q (.ret v) σ)
    (hnext : ∀ x ks' ke' j20 j21 j22 j23 j24 j25 H', EndOk A.reverse B.reverse d kc x →
      ((x > A.length ∧ ke' = ke2 + 2 ∧ ks' = ks2) ∨ (¬ x > A.length ∧ x - kc > B.length ∧ ks' = ks2 + 2 ∧ ke' = ke2) ∨ (¬ x > A.length ∧ ¬ x - kc > B.length ∧ ks' = ks2 ∧ ke' = ke2)) →
      (fr = false → x ≤ A.length → x - kc ≤ B.length → ¬ (0 ≤ mx + (A.length - B.length - kc) ∧ mx + (A.length - B.length - kc) < 2 * mx ∧ vf mx w1 (A.length - B.length - kc) ≠ -1 ∧ A.length - x ≤ vf mx w1 (A.length - B.length - kc))) →
      BH mx l1 l2 w1 (w2.set (mx + kc).toNat x) H' → Q .next (BS tool A B dl mx l1 l2 fr ks1 ke1 ks' ke' (some (.int d)) j18 (some (.int kc)) j20 j21 j22 j23 j24 j25 H')) :
    wpS (SP Φ tool) S_rbody (BS tool A B dl mx l1 l2 fr ks1 ke1 ks2 ke2 (some (.int d)) j18 (some (.int kc)) j20 j21 j22 j23 j24 j25 H) Q := by
  obtain ⟨q1, q2, q3, q4, q5⟩ := hH
  have gt : ∀ k : Int, -mx ≤ k → k < mx → (encI w2)[(mx + k).toNat]? = some (.int (vf mx w2 k)) := fun k a b => encI_get (by omega) (by omega)
  unfold S_rbody
  walk_at "u"
  refine (show ∀ Kk : Fl → St → Prop, (∀ xs, xs = xsOf d (vf mx w2) kc → Kk .next (BS tool A B dl mx l1 l2 fr ks1 ke1 ks2 ke2 (some (.int d)) j18 (some (.int kc)) j20 j21 (some (.int (mx + kc))) j23 j24 (some (.int xs)) H)) → wpS (SP Φ tool) _ _ Kk from fun Kk hK => ?_) _ ?_
  · have gp : kc + 1 < mx → (encI w2)[(mx + kc + 1).toNat]? = some (.int (vf mx w2 (kc + 1))) := fun a => by
      have := gt (kc + 1) (by omega) a
      rwa [show mx + (kc + 1) = mx + kc + 1 from by omega] at this
    have gm : -mx ≤ kc - 1 → (encI w2)[(mx + kc - 1).toNat]? = some (.int (vf mx w2 (kc - 1))) := fun a => by
      have := gt (kc - 1) a (by omega)
      rwa [show mx + (kc - 1) = mx + kc - 1 from by omega] at this
    walk_at "v"
    refine ite_dec (fun h1 => ?_) fun h1 => ?_
    · walk_at "v"
      refine vitem_ref q2 (by omega) (by rw [encI_len]; omega) (gp (by omega)) ?_
      walk_at "v"
      refine hK _ ?_
      unfold xsOf; rw [if_pos (.inl h1)]
    · walk_at "v"
      refine ite_dec (fun h2 => ?_) fun h2 => ?_
      · walk_at "v"
        refine vitem_ref q2 (by omega) (by rw [encI_len]; omega) (gm (by omega)) ?_
        walk_at "v"
        refine vitem_ref q2 (by omega) (by rw [encI_len]; omega) (gp (by omega)) ?_
        walk_at "v"
        refine ite_dec (fun h3 => ?_) fun h3 => ?_
        · walk_at "v"
          refine vitem_ref q2 (by omega) (by rw [encI_len]; omega) (gp (by omega)) ?_
          walk_at "v"
          refine hK _ ?_
          unfold xsOf; rw [if_pos (.inr ⟨h2, h3⟩)]
        · walk_at "v"
          refine vitem_ref q2 (by omega) (by rw [encI_len]; omega) (gm (by omega)) ?_
          walk_at "v"
          refine hK _ ?_
          unfold xsOf; rw [if_neg (fun q => q.elim h1 fun q => h3 q.2)]
      · walk_at "v"
        refine vitem_ref q2 (by omega) (by rw [encI_len]; omega) (gm (by omega)) ?_
        walk_at "v"
        refine hK _ ?_
        unfold xsOf; rw [if_neg (fun q => q.elim h1 fun q => h2 q.1)]
  · intro xs hxs
    walk_at "u"
    rw [← hxs] at hs
    obtain ⟨s1, s2, s3, s4⟩ := id hs
    refine wS_while (fun σ => ∃ t : Nat, σ = BS tool A B dl mx l1 l2 fr ks1 ke1 ks2 ke2 (some (.int d)) j18 (some (.int kc)) j20 j21 (some (.int (mx + kc))) (some (.int (xs - kc + t))) j24 (some (.int (xs + t))) H ∧
        ∀ u : Nat, u < t → Like A.reverse B.reverse (xs + u) (xs - kc + u)) (fun σ => (A.length - ig σ 25).toNat) ⟨0, by simp, by simp⟩ ?_
    rintro _ ⟨t, rfl, run⟩
    have hE : ∀ stop : ¬ (xs + t < A.length ∧ xs - kc + t < B.length ∧ Like A.reverse B.reverse (xs + t) (xs - kc + t)), EndOk A.reverse B.reverse d kc (xs + t) := fun stop => end_of_start hs run (by rw [List.length_reverse, List.length_reverse]; exact stop)
    refine (show ∀ Kk : Bool → St → Prop, ((xs + t < A.length ∧ xs - kc + t < B.length ∧ Like A.reverse B.reverse (xs + t) (xs - kc + t)) → Kk true (BS tool A B dl mx l1 l2 fr ks1 ke1 ks2 ke2 (some (.int d)) j18 (some (.int kc)) j20 j21 (some (.int (mx + kc))) (some (.int (xs - kc + t))) j24 (some (.int (xs + t))) H)) →
        (¬ (xs + t < A.length ∧ xs - kc + t < B.length ∧ Like A.reverse B.reverse (xs + t) (xs - kc + t)) → Kk false (BS tool A B dl mx l1 l2 fr ks1 ke1 ks2 ke2 (some (.int d)) j18 (some (.int kc)) j20 j21 (some (.int (mx + kc))) (some (.int (xs - kc + t))) j24 (some (.int (xs + t))) H)) → wpT (SP Φ tool) _ _ Kk from fun Kk hT hF => ?_) _ ?_ ?_
    · walk_at "v"
      refine ite_dec (fun h1 => ?_) fun h1 => ?_
      · walk_at "v"
        refine ite_dec (fun h2 => ?_) fun h2 => ?_
        · obtain ⟨a, ga, ra⟩ := rev_get (run_nn s1 t) h1
          obtain ⟨b, gb, rb⟩ := rev_get (run_nn s2 t) h2
          walk_at "v"
          refine vitem_strn (rev_neg (run_nn s1 t)) (rev_at (run_nn s1 t) h1).2.2 (sz20 hn hb).1 ga ?_
          walk_at "v"
          refine vitem_strn (rev_neg (run_nn s2 t)) (rev_at (run_nn s2 t) h2).2.2 (sz20 hn hb).2 gb ?_
          walk_at "v"
          refine ite_dec (fun h3 => ?_) fun h3 => ?_
          · walk_at "v"
            have : a = b := by simpa using h3
            exact hT ⟨h1, h2, a, ra, by rw [this]; exact rb⟩
          · refine hF ?_
            rintro ⟨_, _, c, c1, c2⟩
            rw [ra] at c1; rw [rb] at c2
            cases c1; cases c2; exact h3 rfl
        · exact hF fun q => h2 q.2.1
      · exact hF fun q => h1 q.1
    · intro hL
      walk_at "v"
      refine ⟨⟨t + 1, by rw [run_succ, run_succ], fun u hu => ?_⟩, ?_⟩
      · by_cases h : u < t
        · exact run u h
        · rw [show u = t from Nat.le_antisymm (Nat.le_of_lt_succ hu) (Nat.not_lt.mp h)]; exact hL.2.2
      · exact run_less hL.1
    · intro hL
      have e := hE hL
      rw [run_sub]
      generalize xs + (t : Int) = x at e
      have hH' : BH mx l1 l2 w1 (w2.set (mx + kc).toNat x) (updH H l2 (encI (w2.set (mx + kc).toNat x))) := ⟨by rw [updH_ne _ _ q5]; exact q1, by rw [updH_self], q3, by simp; exact q4, q5⟩
      walk_at "u"
      simp only [q2, encI_len, encI_set]
      refine ⟨⟨by omega, by omega, by omega⟩, ?_⟩
      walk_at "v"
      refine ite_dec (fun h1 => ?_) fun h1 => ?_
      · walk_at "v"
        exact hnext x _ _ _ _ _ _ _ _ _ e (.inl ⟨h1, rfl, rfl⟩) (fun _ q => absurd q (by omega)) hH'
      · walk_at "v"
        refine ite_dec (fun h2 => ?_) fun h2 => ?_
        · walk_at "v"
          exact hnext x _ _ _ _ _ _ _ _ _ e (.inr (.inl ⟨h1, h2, rfl, rfl⟩)) (fun _ _ q => absurd q (by omega)) hH'
        · cases fr with
          | true =>
            walk_at "v"
            exact hnext x _ _ _ _ _ _ _ _ _ e (.inr (.inr ⟨h1, h2, rfl, rfl⟩)) (fun q => Bool.noConfusion q) hH'
          | false =>
            walk_at "v"
            have ei : mx + ((A.length : Int) - B.length) - kc = mx + (A.length - B.length - kc) := by omega
            rw [ei]
            refine ite_dec (fun h3 => ?_) fun h3 => ?_
            · walk_at "v"
              refine ite_dec (fun h4 => ?_) fun h4 => ?_
              · walk_at "v"
                have hv := encI_get (mx := mx) (w := w1) (k := A.length - B.length - kc) (by omega) (by omega)
                refine vitem_ref hH'.h1 (by omega) (by rw [encI_len]; omega) hv ?_
                walk_at "v"
                refine ite_dec (fun h5 => ?_) fun h5 => ?_
                · walk_at "v"
                  refine vitem_ref hH'.h1 (by omega) (by rw [encI_len]; omega) hv ?_
                  walk_at "v"
                  refine ite_dec (fun h6 => ?_) fun h6 => ?_
                  · have hc := hdet x e (by omega) (by omega) rfl h5 (by omega)
                    rw [show vf mx w1 (A.length - B.length - kc) - (A.length - B.length - kc) = mx + vf mx w1 (A.length - B.length - kc) - (mx + (A.length - B.length - kc)) from by omega] at hc
                    walk_at "v"
                    refine hsplit _ _ _ _ _ _ _ hn hc fun l ds hl hg => ?_
                    refine hret _ _ ⟨l, ds, rfl, ?_, hg⟩
                    dsimp only; rw [updH_self]
                  · walk_at "v"
                    exact hnext x _ _ _ _ _ _ _ _ _ e (.inr (.inr ⟨h1, h2, rfl, rfl⟩)) (fun _ _ _ q => h6 (by omega)) hH'
                · exact hnext x _ _ _ _ _ _ _ _ _ e (.inr (.inr ⟨h1, h2, rfl, rfl⟩)) (fun _ _ _ q => h5 q.2.2.1) hH'
              · exact hnext x _ _ _ _ _ _ _ _ _ e (.inr (.inr ⟨h1, h2, rfl, rfl⟩)) (fun _ _ _ q => h4 q.2.1) hH'
            · exact hnext x _ _ _ _ _ _ _ _ _ e (.inr (.inr ⟨h1, h2, rfl, rfl⟩)) (fun _ _ _ q => h3 (by omega)) hH'
end
section
open PySem PySem.W
set_option Elab.async false
set_option autoImplicit false
set_option linter.unusedVariables false
noncomputable def invF (tool : Addr) (A B : List Nat) (dl : V) (mx : Int) (l1 l2 : Addr) (fr : Bool) (d ks1 ke1 ks2 ke2 : Int) (v0 : Int → Int) (w2 : List Int) (t : Nat) (σ : St) : Prop :=
  ∃ ks ke w1 j18 j19 j20 j21 j22 j23 j24 j25 H, σ = BS tool A B dl mx l1 l2 fr ks ke ks2 ke2 (some (.int d)) j18 j19 j20 j21 j22 j23 j24 j25 H ∧ BH mx l1 l2 w1 w2 H ∧
    Mid A B d ks1 ke1 v0 (-d + ks1 + 2 * t) ks ke (vf mx w1) ∧
    (fr = true → ∀ k1, (k1 - d) % 2 = 0 → -d + ks1 ≤ k1 → k1 < -d + ks1 + 2 * t → vf mx w1 k1 ≤ A.length → vf mx w1 k1 - k1 ≤ B.length →
      ¬ (0 ≤ mx + (A.length - B.length - k1) ∧ mx + (A.length - B.length - k1) < 2 * mx ∧ vf mx w2 (A.length - B.length - k1) ≠ -1 ∧ A.length - vf mx w2 (A.length - B.length - k1) ≤ vf mx w1 k1))
noncomputable def invR (tool : Addr) (A B : List Nat) (dl : V) (mx : Int) (l1 l2 : Addr) (fr : Bool) (d ks1 ke1 ks2 ke2 : Int) (v0 : Int → Int) (w1 : List Int) (t : Nat) (σ : St) : Prop :=
  ∃ ks ke w2 j18 j19 j20 j21 j22 j23 j24 j25 H, σ = BS tool A B dl mx l1 l2 fr ks1 ke1 ks ke (some (.int d)) j18 j19 j20 j21 j22 j23 j24 j25 H ∧ BH mx l1 l2 w1 w2 H ∧
    Mid A.reverse B.reverse d ks2 ke2 v0 (-d + ks2 + 2 * t) ks ke (vf mx w2) ∧
    (fr = false → ∀ k2, (k2 - d) % 2 = 0 → -d + ks2 ≤ k2 → k2 < -d + ks2 + 2 * t → vf mx w2 k2 ≤ A.length → vf mx w2 k2 - k2 ≤ B.length →
      ¬ (0 ≤ mx + (A.length - B.length - k2) ∧ mx + (A.length - B.length - k2) < 2 * mx ∧ vf mx w1 (A.length - B.length - k2) ≠ -1 ∧ A.length - vf mx w2 k2 ≤ vf mx w1 (A.length - B.length - k2)))
theorem ft_room {d ks ke x : Int} (h1 : -d + ks ≤ x) (h2 : x ≤ d - ke) : ks + ke ≤ 2 * d := by omega
theorem ft_lo {d ks ke t : Int} (h : ks % 2 = 0 ∧ ke % 2 = 0 ∧ 0 ≤ ks ∧ 0 ≤ ke) (h1 : -d + ks ≤ t) : -d ≤ t := Int.le_trans (Int.le_add_of_nonneg_right h.2.2.1) h1
theorem ft_hi {d ks ke t : Int} (h : ks % 2 = 0 ∧ ke % 2 = 0 ∧ 0 ≤ ks ∧ 0 ≤ ke) (h1 : t ≤ d - ke) : t ≤ d := Int.le_trans h1 (Int.sub_le_self d h.2.2.2)
theorem ft_par {a b k d : Int} (h : (k - d) % 2 = 0) (ho : (a - b) % 2 ≠ 0) : (a - b - k - d) % 2 ≠ 0 := by omega
theorem ft_par' {a b k d : Int} (h : (k - d) % 2 = 0) (ho : (a - b) % 2 = 0) : (a - b - k - d) % 2 = 0 := by omega
theorem ft_next (x : Int) (t : Nat) : x + 2 * ((t + 1 : Nat) : Int) = x + 2 * (t : Int) + 2 := by omega
theorem ft_in {mx kc d : Int} {n : Nat} (h1 : -d ≤ kc) (h2 : kc ≤ d) (h : d < mx) (hn : (n : Int) = 2 * mx) : 0 ≤ mx + kc ∧ mx + kc < n := by omega
theorem ft_z {a b k d x : Int} (hd : d = 0) (h1 : -d ≤ k) (h2 : k ≤ d) (hb : a - b - k = 1) (h5 : a - 0 ≤ x) (h : x - k ≤ b) : False := by omega
theorem outer_room {A B : List Nat} {d ks ke : Int} {v : Int → Int} (P : Pre A B d ks ke v) (hd : 0 ≤ d) (hD : d ≤ ed A B) : ks + ke ≤ 2 * d := by
  obtain ⟨i, j, ho, hf⟩ := opt_of hd hD
  exact ft_room (P.vis i j ho hf).1 (P.vis i j ho hf).2
theorem v_fturn (Φ : Calls) (tool : Addr) (A B : List Nat) (dl : V) (n : Nat) (hn : A.length + B.length ≤ n) (hb : n ≤ 2 ^ 10) (hsplit : CSplit Φ n)
    (mx : Int) (l1 l2 : Addr) (fr : Bool) (d ks1 ke1 ks2 ke2 : Int) (v0 v2 : Int → Int) (w2 : List Int) (t : Nat) (σ : St) (Q : Fl → St → Prop)
    (hm2 : 2 ≤ mx) (hmx : 2 * mx ≤ A.length + B.length + 1) (hd : 0 ≤ d) (hdm : d < mx) (hD2 : 2 ≤ ed A B) (hfr : fr = true → ((A.length : Int) - B.length) % 2 ≠ 0) (hD : fr = true → 2 * d - 1 ≤ ed A B)
    (P1 : Pre A B d ks1 ke1 v0) (P2 : Pre A.reverse B.reverse d ks2 ke2 (vf mx w2)) (ht : -d + ks1 + 2 * t ≤ d - ke1)
    (hI : invF tool A B dl mx l1 l2 fr d ks1 ke1 ks2 ke2 v0 w2 t σ) (hret : ∀ v σ, PostB A B (.ret v) σ → Q (.ret v) σ)
    (hnext : ∀ σ, invF tool A B dl mx l1 l2 fr d ks1 ke1 ks2 ke2 v0 w2 (t + 1) σ → Q .next σ) :
    wpS (SP Φ tool) S_fbody (σ.set 18 (.int (-d + ks1 + 2 * t))) Q := by
  obtain ⟨ks, ke, w1, j18, j19, j20, j21, j22, j23, j24, j25, H, rfl, hH, M, chk⟩ := hI
  have e2 := M.par
  have e3 := M.m6.2
  generalize hkc : -d + ks1 + 2 * (t : Int) = kc at ht M chk e2 e3
  have hs := P1.start kc e2 e3 ht
  have lo := ft_lo P1.ev e3
  have hi := ft_hi P1.ev ht
  have inr := ft_in lo hi hdm hH.n1
  rw [← M.xs] at hs
  refine v_fbody Φ tool A B dl n hn hb hsplit mx l1 l2 fr d ks ke ks2 ke2 kc j19 j20 j21 j22 j23 j24 j25 H w1 w2 Q hm2 hmx hd hdm lo hi e2 hH hs ?_ hret ?_
  · intro x e h1 h2 h3 h4 h5
    have hodd := hfr h3
    refine detect_odd hd (hD h3) hD2 e h1 h2 ?_ h4 h5
    rcases P2.old (A.length - B.length - kc) (ft_par e2 hodd) with h | ⟨a, b, c⟩
    · exact h
    · rw [c] at h5; exact (ft_z a lo hi b h5 h2).elim
  · intro x ks' ke' j20 j21 j22 j24 j25 H' e h1 h2 h3
    refine hnext _ ⟨ks', ke', _, some (.int kc), j19, j20, j21, j22, j23, j24, j25, H', rfl, h3, ?_, ?_⟩
    · rw [vf_set inr.1 inr.2, ft_next, hkc]
      exact M.step e h1
    · intro h4 k1 g1 g2 g3
      rw [vf_set inr.1 inr.2]
      rw [ft_next, hkc] at g3
      by_cases hk : k1 = kc
      · subst hk; simp only [setf, if_pos]; exact h2 h4
      · simp only [setf, if_neg hk]; exact chk h4 k1 g1 g2 (st_lt g1 e2 g3 hk)
theorem v_rturn (Φ : Calls) (tool : Addr) (A B : List Nat) (dl : V) (n : Nat) (hn : A.length + B.length ≤ n) (hb : n ≤ 2 ^ 10) (hsplit : CSplit Φ n)
    (mx : Int) (l1 l2 : Addr) (fr : Bool) (d ks1 ke1 ks2 ke2 : Int) (v0 : Int → Int) (w1 : List Int) (t : Nat) (σ : St) (Q : Fl → St → Prop)
    (hm2 : 2 ≤ mx) (hmx : 2 * mx ≤ A.length + B.length + 1) (hd : 0 ≤ d) (hdm : d < mx) (hD2 : 2 ≤ ed A B) (hfr : fr = false → ((A.length : Int) - B.length) % 2 = 0) (hD : fr = false → 2 * d ≤ ed A B)
    (hval : ∀ k, (k - d) % 2 = 0 → Val A B d k (vf mx w1 k)) (P2 : Pre A.reverse B.reverse d ks2 ke2 v0) (ht : -d + ks2 + 2 * t ≤ d - ke2)
    (hI : invR tool A B dl mx l1 l2 fr d ks1 ke1 ks2 ke2 v0 w1 t σ) (hret : ∀ v σ, PostB A B (.ret v) σ → Q (.ret v) σ)
    (hnext : ∀ σ, invR tool A B dl mx l1 l2 fr d ks1 ke1 ks2 ke2 v0 w1 (t + 1) σ → Q .next σ) :
    wpS (SP Φ tool) S_rbody (σ.set 19 (.int (-d + ks2 + 2 * t))) Q := by
  obtain ⟨ks, ke, w2, j18, j19, j20, j21, j22, j23, j24, j25, H, rfl, hH, M, chk⟩ := hI
  have e2 := M.par
  have e3 := M.m6.2
  generalize hkc : -d + ks2 + 2 * (t : Int) = kc at ht M chk e2 e3
  have hs := P2.start kc e2 e3 ht
  have lo := ft_lo P2.ev e3
  have hi := ft_hi P2.ev ht
  have inr := ft_in lo hi hdm hH.n2
  rw [← M.xs] at hs
  refine v_rbody Φ tool A B dl n hn hb hsplit mx l1 l2 fr d ks1 ke1 ks ke kc j18 j20 j21 j22 j23 j24 j25 H w1 w2 Q hm2 hmx hd hdm lo hi e2 hH hs ?_ hret ?_
  · intro x e h1 h2 h3 h4 h5
    have hev := hfr h3
    exact detect_even hd (hD h3) hD2 e h1 h2 (hval _ (ft_par' e2 hev)) h4 h5
  · intro x ks' ke' j20 j21 j22 j23 j24 j25 H' e h1 h2 h3
    refine hnext _ ⟨ks', ke', _, j18, some (.int kc), j20, j21, j22, j23, j24, j25, H', rfl, h3, ?_, ?_⟩
    · rw [vf_set inr.1 inr.2, ft_next, hkc]
      exact M.step e (by rw [List.length_reverse, List.length_reverse]; exact h1)
    · intro h4 k1 g1 g2 g3
      rw [vf_set inr.1 inr.2]
      rw [ft_next, hkc] at g3
      by_cases hk : k1 = kc
      · subst hk; simp only [setf, if_pos]; exact h2 h4
      · simp only [setf, if_neg hk]; exact chk h4 k1 g1 g2 (st_lt g1 e2 g3 hk)
end
section
open PySem PySem.W
set_option Elab.async false
set_option autoImplicit false
set_option linter.unusedVariables false
noncomputable def outer (tool : Addr) (A B : List Nat) (dl : V) (mx : Int) (l1 l2 : Addr) (fr : Bool) (d : Nat) (σ : St) : Prop :=
  ∃ ks1 ke1 ks2 ke2 w1 w2 j17 j18 j19 j20 j21 j22 j23 j24 j25 H, σ = BS tool A B dl mx l1 l2 fr ks1 ke1 ks2 ke2 j17 j18 j19 j20 j21 j22 j23 j24 j25 H ∧ BH mx l1 l2 w1 w2 H ∧
    Pre A B d ks1 ke1 (vf mx w1) ∧ Pre A.reverse B.reverse d ks2 ke2 (vf mx w2) ∧ (fr = true → 2 * (d : Int) - 1 ≤ ed A B) ∧ (fr = false → 2 * (d : Int) ≤ ed A B)
theorem cnt_eq {d ks ke : Int} (h : ks + ke ≤ 2 * d) (h1 : ks % 2 = 0) (h2 : ke % 2 = 0) : -d + ks + 2 * (((d + 1 - ke - (-d + ks) + (2 : Nat) - 1) / (2 : Nat)).toNat : Int) = d - ke + 2 := by omega
theorem ob_room {d ks ke x : Int} (h0 : 0 ≤ d) (h1 : d < x) (hx : x ≤ 2 ^ 12) (e : ks % 2 = 0 ∧ ke % 2 = 0 ∧ 0 ≤ ks ∧ 0 ≤ ke) (h4 : ks + ke ≤ 2 * d) :
    -2 ^ 32 < -d + ks ∧ -d + ks < 2 ^ 32 ∧ -2 ^ 32 < d + 1 - ke ∧ d + 1 - ke < 2 ^ 32 ∧ 0 < 2 ∧ 2 < 2 ^ 20 := by
  have e3 := e.2.2.1
  have e4 := e.2.2.2
  clear e
  exact ⟨by omega, by omega, by omega, by omega, by decide, by decide⟩
theorem ob_zero (x : Int) : x + 2 * ((0 : Nat) : Int) = x := Int.add_zero x
theorem ob_mul (x : Int) (t : Nat) : x + (t : Int) * ((2 : Nat) : Int) = x + 2 * t := by rw [Int.mul_comm]; rfl
theorem ob_end {d ke : Int} : d - ke < d - ke + 2 := Int.lt_add_of_pos_right _ (by decide)
theorem ob_half {d e : Int} (h0 : 0 ≤ d) (h : 2 * d - 1 ≤ e) (h2 : 2 ≤ e) : d ≤ e := by omega
theorem ob_half' {d e : Int} (h0 : 0 ≤ d) (h : 2 * d ≤ e) : d ≤ e := by omega
theorem ob_next (d : Nat) : ((d + 1 : Nat) : Int) = d + 1 := rfl
theorem ob_odd {d : Nat} {e : Int} (h : 2 * (d : Int) + 1 ≤ e) : 2 * ((d + 1 : Nat) : Int) - 1 ≤ e := by omega
theorem ob_even {d : Nat} {e : Int} (h : 2 * (d : Int) + 2 ≤ e) : 2 * ((d + 1 : Nat) : Int) ≤ e := by omega
theorem ob_mx {mx : Int} {a b n : Nat} (h : 2 * mx ≤ a + b + 1) (h1 : a + b ≤ n) (h2 : n ≤ 2 ^ 10) : mx ≤ 2 ^ 12 := by omega
theorem ob_none {x k1 : Int} (h1 : x ≤ k1) (h2 : k1 < x) : False := absurd h1 (Int.not_le.mpr h2)
theorem ob_turn {t : Nat} {d ks ke : Int} (h : t < ((d + 1 - ke - (-d + ks) + (2 : Nat) - 1) / (2 : Nat)).toNat) : -d + ks + 2 * (t : Int) ≤ d - ke := by omega
theorem v_obody (Φ : Calls) (tool : Addr) (A B : List Nat) (dl : V) (n : Nat) (hn : A.length + B.length ≤ n) (hb : n ≤ 2 ^ 10) (hsplit : CSplit Φ n)
    (mx : Int) (l1 l2 : Addr) (fr : Bool) (d : Nat) (σ : St) (Q : Fl → St → Prop)
    (hm2 : 2 ≤ mx) (hmx : 2 * mx ≤ A.length + B.length + 1) (hdm : (d : Int) < mx) (hD2 : 2 ≤ ed A B) (hfr : fr = true → ((A.length : Int) - B.length) % 2 ≠ 0) (hfr' : fr = false → ((A.length : Int) - B.length) % 2 = 0)
    (hI : outer tool A B dl mx l1 l2 fr d σ) (hret : ∀ v σ, PostB A B (.ret v) σ → Q (.ret v) σ) (hnext : ∀ σ, outer tool A B dl mx l1 l2 fr (d + 1) σ → Q .next σ) :
    wpS (SP Φ tool) (.seq (.forr 18 (.bin .Add (.neg (.var 17)) (.var 13)) (.bin .Sub (.bin .Add (.var 17) (.int 1)) (.var 14)) 2 S_fbody)
      (.forr 19 (.bin .Add (.neg (.var 17)) (.var 15)) (.bin .Sub (.bin .Add (.var 17) (.int 1)) (.var 16)) 2 S_rbody)) (σ.set 17 (.int d)) Q := by
  obtain ⟨ks1, ke1, ks2, ke2, w1, w2, j17, j18, j19, j20, j21, j22, j23, j24, j25, H, rfl, hH, P1, P2, D1, D2⟩ := hI
  have hd0 : (0 : Int) ≤ d := Int.natCast_nonneg d
  have hDd : (d : Int) ≤ ed A B := by
    cases fr with
    | true => exact ob_half hd0 (D1 rfl) hD2
    | false => exact ob_half' hd0 (D2 rfl)
  have hDd' : (d : Int) ≤ ed A.reverse B.reverse := by rw [ed_rev]; exact hDd
  have m12 := ob_mx hmx hn hb
  walk_at "v"
  refine ⟨ob_room hd0 hdm m12 P1.ev (outer_room P1 hd0 hDd), invF tool A B dl mx l1 l2 fr d ks1 ke1 ks2 ke2 (vf mx w1) w2, ?_, ?_, ?_⟩
  · refine ⟨ks1, ke1, w1, j18, j19, j20, j21, j22, j23, j24, j25, H, rfl, hH, ?_, fun _ k1 _ h1 h2 => (ob_none h1 (by rw [ob_zero] at h2; exact h2)).elim⟩
    rw [ob_zero]
    exact Mid.init P1
  · intro t σ' ht hI
    rw [ob_mul]
    exact v_fturn Φ tool A B dl n hn hb hsplit mx l1 l2 fr d ks1 ke1 ks2 ke2 _ (vf mx w2) w2 t σ' _ hm2 hmx hd0 hdm hD2 hfr D1 P1 P2 (ob_turn ht) hI hret fun σ h => h
  · intro σ' hI
    obtain ⟨ks, ke, w1', j18, j19, j20, j21, j22, j23, j24, j25, H, rfl, hH, M, chk⟩ := hI
    rw [cnt_eq (outer_room P1 hd0 hDd) P1.ev.1 P1.ev.2.1] at M chk
    have D1' := fun h => miss_odd hd0 hdm (D1 h) (hfr h) P1 M ob_end P2 (chk h)
    have P1' := Mid.next hd0 P1 M ob_end (Int.le_refl _) hDd
    walk_at "v"
    refine ⟨ob_room hd0 hdm m12 P2.ev (outer_room P2 hd0 hDd'), invR tool A B dl mx l1 l2 fr d ks ke ks2 ke2 (vf mx w2) w1', ?_, ?_, ?_⟩
    · refine ⟨ks2, ke2, w2, j18, j19, j20, j21, j22, j23, j24, j25, H, rfl, hH, ?_, fun _ k1 _ h1 h2 => (ob_none h1 (by rw [ob_zero] at h2; exact h2)).elim⟩
      rw [ob_zero]
      exact Mid.init P2
    · intro t σ' ht hI
      rw [ob_mul]
      exact v_rturn Φ tool A B dl n hn hb hsplit mx l1 l2 fr d ks ke ks2 ke2 _ w1' t σ' _ hm2 hmx hd0 hdm hD2 hfr' D2 (Mid.val P1 M ob_end) P2 (ob_turn ht) hI hret fun σ h => h
    · intro σ' hI
      obtain ⟨ks', ke', w2', j18, j19, j20, j21, j22, j23, j24, j25, H, rfl, hH, M2, chk2⟩ := hI
      rw [cnt_eq (outer_room P2 hd0 hDd') P2.ev.1 P2.ev.2.1] at M2 chk2
      have D2' := fun h => miss_even hd0 hdm (D2 h) (hfr' h) P1 M ob_end P2 M2 ob_end (chk2 h)
      have P2' := Mid.next hd0 P2 M2 ob_end (Int.le_refl _) hDd'
      exact hnext _ ⟨ks, ke, ks', ke', w1', w2', some (.int d), j18, j19, j20, j21, j22, j23, j24, j25, H, rfl, hH, by rw [ob_next]; exact P1', by rw [ob_next]; exact P2', fun h => ob_odd (D1' h), fun h => ob_even (D2' h)⟩
theorem le2 {m : Int} (h : 2 ≤ m) : 0 ≤ 2 * m := by omega
theorem hall_even {a b e m : Int} (h : a + b ≤ 2 * m) (d : 2 * ((((m - 0 + (1 : Nat) - 1) / (1 : Nat)).toNat : Nat) : Int) ≤ e) : a + b ≤ e := by omega
theorem hall_odd {a b e m : Int} (h : a + b ≤ 2 * m) (d : 2 * ((((m - 0 + (1 : Nat) - 1) / (1 : Nat)).toNat : Nat) : Int) - 1 ≤ e) (r : (a - b) % 2 ≠ 0) : a + b ≤ e := by omega
theorem vf_start {mx k : Int} (hm : 2 ≤ mx) : vf mx ((List.replicate (2 * mx).toNat (-1)).set (mx + 1).toNat 0) k = if k = 1 then 0 else -1 := by
  have h := vf_set (mx := mx) (w := List.replicate (2 * mx).toNat (-1)) (k := 1) (x := 0) (by omega) (by simp; omega)
  rw [h]
  unfold setf
  by_cases hk : k = 1
  · rw [if_pos hk, if_pos hk]
  · rw [if_neg hk, if_neg hk]
    unfold vf
    split
    · simp only [List.getD, List.getElem?_replicate]; split <;> rfl
    · rfl
theorem v_bisect (Φ : Calls) (tool : Addr) (A B : List Nat) (dl : V) (n : Nat) (hn : A.length + B.length ≤ n) (hb : n ≤ 2 ^ 10) (hA : 2 ≤ A.length) (hB : 2 ≤ B.length) (hD2 : 2 ≤ ed A B) (hsplit : CSplit Φ n) :
    wpS (SP Φ tool) S_bisect ⟨[some (.ref tool), some (.str A), some (.str B), some dl, none, none, none, none, none, none, none, none, none, none, none, none, none, none, none, none, none, none, none, none, none, none], noH⟩ (PostB A B) := by
  unfold S_bisect
  walk_at "v"
  have hmx : 2 * ((A.length : Int) + B.length + 1).fdiv 2 ≤ A.length + B.length + 1 ∧ A.length + B.length ≤ 2 * ((A.length : Int) + B.length + 1).fdiv 2 := by
    rw [Int.fdiv_eq_ediv_of_nonneg _ (by omega)]; omega
  generalize ((A.length : Int) + B.length + 1).fdiv 2 = mx at hmx
  obtain ⟨m1, m2⟩ := hmx
  have m3 : 2 ≤ mx := by clear hD2 hb hn; omega
  refine ⟨by omega, ?_⟩
  walk_at "v"
  intro l1 hl1
  walk_at "v"
  rw [if_pos rfl]
  refine ⟨by omega, by omega, fun l hl => ?_⟩
  have hw : (List.replicate (2 * mx).toNat (V.int (-1))).set (mx + 1).toNat (V.int 0) = encI ((List.replicate (2 * mx).toNat (-1)).set (mx + 1).toNat 0) := by
    simp [encI, List.map_set]
  walk_at "v"
  rw [if_pos rfl]
  dsimp only
  refine ⟨⟨by omega, by simp; omega, by simp; omega⟩, ?_⟩
  rw [hw]
  walk_at "v"
  simp only [vslice, part, if_pos]
  refine ⟨szLine (by simp [encI]; omega), fun l2 hl2 => ?_⟩
  have hps : pslice (encI ((List.replicate (2 * mx).toNat (-1)).set (mx + 1).toNat 0)) none none = encI ((List.replicate (2 * mx).toNat (-1)).set (mx + 1).toNat 0) := by
    simp [pslice, cl]
  rw [hps]
  walk_at "v"
  have hne : l ≠ l2 := fun q => by rw [← q] at hl2; simp [St.setH] at hl2
  have hv : ∀ k, vf mx ((List.replicate (2 * mx).toNat (-1)).set (mx + 1).toNat 0) k = if k = 1 then 0 else -1 := fun k => vf_start m3
  have hwl : ((((List.replicate (2 * mx).toNat (-1)).set (mx + 1).toNat 0 : List Int)).length : Int) = 2 * mx := by
    rw [List.length_set, List.length_replicate]; exact Int.toNat_of_nonneg (le2 m3)
  generalize (List.replicate (2 * mx).toNat (-1)).set (mx + 1).toNat (0 : Int) = w at hv hwl
  have hfm : ((A.length : Int) - B.length).fmod 2 = (A.length - B.length) % 2 := Int.fmod_eq_emod_of_nonneg _ (by omega)
  have hfr : (decide (((A.length : Int) - B.length).fmod 2 ≠ 0)) = true → ((A.length : Int) - B.length) % 2 ≠ 0 := fun h => by
    rw [← hfm]; exact of_decide_eq_true h
  have hfr' : (decide (((A.length : Int) - B.length).fmod 2 ≠ 0)) = false → ((A.length : Int) - B.length) % 2 = 0 := fun h => by
    rw [← hfm]; exact Classical.not_not.mp (of_decide_eq_false h)
  generalize decide (((A.length : Int) - B.length).fmod 2 ≠ 0) = fr at hfr hfr'
  refine ⟨outer tool A B dl mx l l2 fr, ?_, ?_, ?_⟩
  · refine ⟨0, 0, 0, 0, w, w, none, none, none, none, none, none, none, none, none, _, rfl, ⟨?_, ?_, hwl, hwl, hne⟩, ?_, ?_, fun _ => by omega, fun _ => by omega⟩
    · simp [hne]
    · simp
    · exact Pre.zero hv
    · exact Pre.zero hv
  · intro d σ' hd hI
    rw [show (0 : Int) + (d : Int) * ((1 : Nat) : Int) = d from by omega]
    have hdm : (d : Int) < mx := by omega
    exact v_obody Φ tool A B dl n hn hb hsplit mx l l2 fr d σ' _ m3 m1 hdm hD2 hfr hfr' hI (fun _ _ h => h) fun σ h => h
  · intro σ' hI
    obtain ⟨ks1, ke1, ks2, ke2, w1, w2, j17, j18, j19, j20, j21, j22, j23, j24, j25, H, rfl, hH, P1, P2, D1, D2⟩ := hI
    have hall : (A.length : Int) + B.length ≤ ed A B := by
      cases fr with
      | true => exact hall_odd m2 (D1 rfl) (hfr rfl)
      | false => exact hall_even m2 (D2 rfl)
    walk_at "v"
    refine fun l3 hl3 => ⟨l3, [(-1, A), (1, B)], rfl, ?_, ?_, ?_, ?_, ?_⟩
    · simp [St.setH, encs]
    · intro p hp
      rcases List.mem_cons.mp hp with rfl | hp
      · exact ⟨.inl rfl, fun q => by rw [show A = [] from q] at hA; simp at hA⟩
      · rcases List.mem_cons.mp hp with rfl | hp
        · exact ⟨.inr (.inr rfl), fun q => by rw [show B = [] from q] at hB; simp at hB⟩
        · cases hp
    · simp [src]
    · simp [dst]
    · have : ed A B ≤ A.length + B.length := by unfold ed; omega
      simp [cost]; omega
end
section
open PySem PySem.W
set_option Elab.async false
set_option autoImplicit false
set_option linter.unusedVariables false
theorem ed_le_add (a b c d : List Nat) : ed (a ++ b) (c ++ d) ≤ ed a c + ed b d := by
  have := lcs_append a b c d
  unfold ed
  simp only [List.length_append]
  omega
theorem ed_le_cost (ds : List Df) : (ds.all fun p => p.1 == -1 || p.1 == 0 || p.1 == 1) = true → ed (src ds) (dst ds) ≤ cost ds := by
  induction ds with
  | nil => intro _; simp [src, dst, cost, ed]; omega
  | cons p ds ih =>
    intro h
    simp only [List.all_cons, Bool.and_eq_true] at h
    have h1 := ih h.2
    rw [src_cons, dst_cons, cost_cons]
    have h2 := ed_le_add (if p.1 = 1 then [] else p.2) (src ds) (if p.1 = -1 then [] else p.2) (dst ds)
    have h3 : ed (if p.1 = 1 then [] else p.2) (if p.1 = -1 then [] else p.2) ≤ (if p.1 = 0 then 0 else p.2.length : Nat) := by
      have h4 := h.1
      simp only [Bool.or_eq_true, beq_iff_eq] at h4
      rcases h4 with (h4 | h4) | h4
      · rw [h4, if_neg (by decide), if_pos rfl, if_neg (by decide)]; unfold ed; simp; omega
      · rw [h4, if_neg (by decide), if_neg (by decide), if_pos rfl, ed_self]; simp
      · rw [h4, if_pos rfl, if_neg (by decide), if_neg (by decide)]; unfold ed; simp; omega
    omega
theorem lcp_le_lcs (x y : List Nat) : lcp x y ≤ lcs x y := by
  have h := lcp_le x y
  have h1 := lcs_le x y (x.take (lcp x y)) (List.take_sublist _ _) (by rw [lcp_split]; exact List.take_sublist _ _)
  rw [List.length_take] at h1
  omega
theorem ed_comm0 {x y : List Nat} (h : (x.length : Int) + y.length ≤ ed x y) : lcp y x = 0 ∧ lcp y.reverse x.reverse = 0 := by
  have h0 : lcs x y = 0 := by unfold ed at h; omega
  have key : ∀ p q : List Nat, lcs p q = 0 → lcp q p = 0 := by
    intro p q e
    match p, q with
    | [], q => cases q <;> simp [lcp]
    | a :: p, [] => simp [lcp]
    | a :: p, b :: q =>
      by_cases hab : b = a
      · subst hab; rw [lcs_same] at e; omega
      · simp [lcp, hab]
  exact ⟨key x y h0, key x.reverse y.reverse (by rw [lcs_reverse]; exact h0)⟩
/-- a run between two parts shares no sign -/
theorem run_zero {a r b : List Df} {x y : List Nat} (ha : Okd a) (hr : Okd r) (hb : Okd b) (hro : ∀ p ∈ r, p.1 = -1 ∨ p.1 = 1) (hx : src (a ++ r ++ b) = x) (hy : dst (a ++ r ++ b) = y) (hc : (cost (a ++ r ++ b) : Int) = ed x y) :
    lcp (dst r) (src r) = 0 ∧ lcp (dst r).reverse (src r).reverse = 0 ∧ cost r = (src r).length + (dst r).length := by
  have all : ∀ l : List Df, Okd l → (l.all fun p => p.1 == -1 || p.1 == 0 || p.1 == 1) = true := fun l h => by
    rw [List.all_eq_true]; intro p hp
    have := (h p hp).1
    simp only [Bool.or_eq_true, beq_iff_eq]; rcases this with h | h | h <;> simp [h]
  have h1 := ed_le_cost a (all a ha)
  have h3 := ed_le_cost b (all b hb)
  have hcr : cost r = (src r).length + (dst r).length := by
    clear hx hy hc hr
    induction r with
    | nil => simp [cost, src, dst]
    | cons p r ih =>
      have := ih fun q hq => hro q (.tail _ hq)
      rw [src_cons, dst_cons, cost_cons]
      rcases hro p (.head _) with h | h <;> rw [h] <;> simp <;> omega
  have h4 := ed_le_add (src a ++ src r) (src b) (dst a ++ dst r) (dst b)
  have h5 := ed_le_add (src a) (src r) (dst a) (dst r)
  rw [src_append, src_append] at hx
  rw [dst_append, dst_append] at hy
  rw [cost_append, cost_append] at hc
  rw [hx, hy] at h4
  have := ed_comm0 (x := src r) (y := dst r) (by omega)
  exact ⟨this.1, this.2, hcr⟩
theorem NoAdj.snoc {l : List Df} {x : Df} (h : NoAdj l) (k : ∀ i y, l = i ++ [y] → y.1 ≠ x.1) : NoAdj (l ++ [x]) := by
  induction l with
  | nil => trivial
  | cons a l ih =>
    cases l with
    | nil => exact ⟨k [] a rfl, trivial⟩
    | cons b l =>
      exact ⟨h.1, ih h.2 fun i y e => k (a :: i) y (by rw [e]; rfl)⟩
theorem NoAdj.init {l r : List Df} (h : NoAdj (l ++ r)) : NoAdj l := by
  induction l with
  | nil => trivial
  | cons a l ih =>
    cases l with
    | nil => trivial
    | cons b l => exact ⟨h.1, ih h.2⟩
theorem NoAdj.swap {l : List Df} {x y : Df} (h : NoAdj (l ++ [x])) (e : x.1 = y.1) : NoAdj (l ++ [y]) := by
  induction l with
  | nil => trivial
  | cons a l ih =>
    cases l with
    | nil => exact ⟨by rw [← e]; exact h.1, trivial⟩
    | cons b l => exact ⟨h.1, ih h.2⟩
noncomputable def news (td ti : List Nat) : List Df := (if td.length = 0 then [] else [(-1, td)]) ++ (if ti.length = 0 then [] else [(1, ti)])
theorem news_facts (td ti : List Nat) : src (news td ti) = td ∧ dst (news td ti) = ti ∧ cost (news td ti) = td.length + ti.length ∧ Okd (news td ti) ∧ (news td ti).length ≤ 2 ∧ (∀ p ∈ news td ti, p.1 = -1 ∨ p.1 = 1) ∧ NoAdj (news td ti) := by
  unfold news
  by_cases h1 : td.length = 0
  · by_cases h2 : ti.length = 0
    · have e1 := List.length_eq_zero_iff.mp h1; have e2 := List.length_eq_zero_iff.mp h2; subst e1; subst e2; simp [src, dst, cost, Okd, NoAdj]
    · have e1 := List.length_eq_zero_iff.mp h1; subst e1; simp [h2, src, dst, cost, Okd, NoAdj]; exact fun q => h2 (by rw [q]; rfl)
  · by_cases h2 : ti.length = 0
    · have e1 := List.length_eq_zero_iff.mp h2; subst e1; simp [h1, src, dst, cost, Okd, NoAdj]; exact fun q => h1 (by rw [q]; rfl)
    · simp [h1, h2, src, dst, cost, Okd, NoAdj]; exact ⟨fun q => h1 (by rw [q]; rfl), fun q => h2 (by rw [q]; rfl)⟩
theorem encs_at (pre : List Df) (e : Df) (r : List Df) : (encs (pre ++ e :: r))[pre.length]? = some (.tup (.int e.1) (.str e.2)) := by
  simp [encs]
theorem encs_set (pre : List Df) (e f : Df) (r : List Df) : (encs (pre ++ e :: r)).set pre.length (.tup (.int f.1) (.str f.2)) = encs (pre ++ f :: r) := by
  simp [encs]
theorem encs_del (pre : List Df) (e : Df) (r : List Df) : (encs (pre ++ e :: r)).eraseIdx pre.length = encs (pre ++ r) := by
  simp only [encs, List.map_append, List.map_cons]
  rw [List.eraseIdx_append_of_length_le (by simp)]
  simp
/-- the first turn's state: what is done, the run, the rest -/
structure PhA (x y : List Nat) (c n : Nat) (done run rest : List Df) : Prop where
  okd : Okd done
  okr : Okd run
  okx : Okd rest
  na : NoAdj done
  le : done = [] ∨ ∃ i t, done = i ++ [((0 : Int), t)]
  ro : ∀ p ∈ run, p.1 = -1 ∨ p.1 = 1
  sr : src (done ++ run ++ rest) = x
  ds : dst (done ++ run ++ rest) = y
  co : cost (done ++ run ++ rest) = c
  ln : (done ++ run ++ rest).length ≤ n
structure PhB (x y : List Nat) (c n : Nat) (i : List Df) (t : List Nat) : Prop where
  ok : Okd i
  na : NoAdj (i ++ [((0 : Int), t)])
  sr : src (i ++ [((0 : Int), t)]) = x
  ds : dst (i ++ [((0 : Int), t)]) = y
  co : cost (i ++ [((0 : Int), t)]) = c
  ln : i.length ≤ n
  ln2 : t ≠ [] → i.length + 1 ≤ n
/-- after the equal part `e` is taken up: `done'` ends in an equal part -/
noncomputable def AfterEq (x y : List Nat) (c n : Nat) (i : List Df) (t : List Nat) (rest : List Df) : Prop :=
  PhB x y c n i t ∧ rest = [] ∨ (∃ rest0, rest = rest0 ++ [((0 : Int), ([] : List Nat))] ∧ PhA x y c n (i ++ [((0 : Int), t)]) [] rest0)
theorem NoAdj.app : ∀ {b a : List Df}, NoAdj a → NoAdj b → (∀ i x y r, a = i ++ [x] → b = y :: r → x.1 ≠ y.1) → NoAdj (a ++ b)
  | [], a, ha, _, _ => by rw [List.append_nil]; exact ha
  | y :: b, a, ha, hb, k => by
    have h1 := ha.snoc (x := y) fun i x e => k i x y b e rfl
    have hb2 : NoAdj b := by
      cases b with
      | nil => trivial
      | cons z b => exact hb.2
    have := NoAdj.app (b := b) h1 hb2 fun i x z r e1 e2 => by
      subst e2
      have := (List.append_inj' e1 rfl).2
      simp only [List.cons.injEq, and_true] at this
      rw [← this]; exact hb.1
    rwa [List.append_assoc] at this
theorem noadj_mid {a r : List Df} (ha : NoAdj a) (le : a = [] ∨ ∃ i t, a = i ++ [((0 : Int), t)]) (hr : NoAdj r) (ro : ∀ p ∈ r, p.1 = -1 ∨ p.1 = 1) (hne : r ≠ [] ∨ a = []) (t : List Nat) : NoAdj (a ++ r ++ [((0 : Int), t)]) := by
  have h1 : NoAdj (a ++ r) := ha.app hr fun i x y r' e1 e2 => by
    rcases le with h | ⟨j, u, h⟩
    · rw [h] at e1; simp at e1
    · rw [h] at e1
      have := (List.append_inj' e1 rfl).2
      simp only [List.cons.injEq, and_true] at this
      rw [← this]
      have := ro y (by rw [e2]; exact .head _)
      show (0 : Int) ≠ y.1
      omega
  refine h1.snoc fun i y e => ?_
  have hy : y.1 = -1 ∨ y.1 = 1 := by
    rcases hne with h | h
    · have : y ∈ r := by
        obtain ⟨r', z, rfl⟩ : ∃ r' z, r = r' ++ [z] := ⟨r.dropLast, r.getLast h, (List.dropLast_concat_getLast h).symm⟩
        rw [← List.append_assoc] at e
        have := (List.append_inj' e rfl).2
        simp only [List.cons.injEq, and_true] at this
        rw [← this]; simp
      exact ro y this
    · subst h
      have : y ∈ r := by rw [show r = i ++ [y] from by simpa using e]; simp
      exact ro y this
  show y.1 ≠ 0
  omega
theorem after_eq {x y : List Nat} {c n : Nat} {done run rest0 R i : List Df} {t0 t : List Nat} (h : PhA x y c n done run rest0) (hR : rest0 ++ [((0 : Int), ([] : List Nat))] = (0, t0) :: R)
    (hi : Okd i) (hn : NoAdj (i ++ [((0 : Int), t)])) (h1 : src (i ++ [((0 : Int), t)]) = src (done ++ run ++ [((0 : Int), t0)])) (h2 : dst (i ++ [((0 : Int), t)]) = dst (done ++ run ++ [((0 : Int), t0)])) (h3 : cost (i ++ [((0 : Int), t)]) = cost (done ++ run ++ [((0 : Int), t0)]))
    (ht : t0 ≠ [] → t ≠ []) (hl : i.length ≤ (done ++ run).length) (hl2 : t0 = [] → t ≠ [] → i.length + 1 ≤ (done ++ run).length) : AfterEq x y c n i t R := by
  obtain ⟨a1, a2, a3, a4, a5, a6, a7, a8, a9, a10⟩ := h
  match rest0, hR with
  | [], hR =>
    simp only [List.nil_append, List.cons.injEq, Prod.mk.injEq, true_and] at hR
    obtain ⟨e1, e2⟩ := hR
    subst e1; subst e2
    rw [List.append_nil] at a7 a8 a9 a10
    refine .inl ⟨⟨hi, hn, ?_, ?_, ?_, by omega, fun q => by have := hl2 rfl q; omega⟩, rfl⟩
    · rw [h1, src_append, a7]; simp [src]
    · rw [h2, dst_append, a8]; simp [dst]
    · rw [h3, cost_append, a9]; simp [cost]
  | e :: rest0, hR =>
    simp only [List.cons_append, List.cons.injEq] at hR
    obtain ⟨e1, e2⟩ := hR
    subst e1; subst e2
    have h0 : t0 ≠ [] := (a3 _ (.head _)).2
    refine .inr ⟨rest0, rfl, ⟨hi.append fun p hp => ?_, fun p hp => (by cases hp), fun p hp => a3 p (.tail _ hp), hn, .inr ⟨i, t, rfl⟩, fun p hp => (by cases hp), ?_, ?_, ?_, ?_⟩⟩
    · rcases List.mem_cons.mp hp with rfl | hp
      · exact ⟨.inr (.inl rfl), ht h0⟩
      · cases hp
    · rw [List.append_nil, src_append, h1, ← a7, ← src_append]; simp
    · rw [List.append_nil, dst_append, h2, ← a8, ← dst_append]; simp
    · rw [List.append_nil, cost_append, h3, ← a9, ← cost_append]; simp
    · simp at a10 hl ⊢; omega
theorem eq_run {x y : List Nat} {c n : Nat} {done run rest0 R : List Df} {t0 : List Nat} (h : PhA x y c n done run rest0) (hc : (c : Int) = ed x y) (hR : rest0 ++ [((0 : Int), ([] : List Nat))] = (0, t0) :: R) (h2 : 2 ≤ run.length) :
    AfterEq x y c n (done ++ news (src run) (dst run)) t0 R := by
  obtain ⟨z1, z2, z3⟩ := run_zero h.okd h.okr h.okx h.ro h.sr h.ds (by rw [h.co]; exact hc)
  obtain ⟨f1, f2, f3, f4, f5, f6, f7⟩ := news_facts (src run) (dst run)
  refine after_eq h hR (h.okd.append f4) (noadj_mid h.na h.le f7 f6 (.inl fun q => ?_) t0) ?_ ?_ ?_ id (by simp; omega) fun a b => absurd a b
  · rw [q] at f3
    have : (src run).length + (dst run).length = 0 := by rw [← f3]; rfl
    have := h.okr.len
    omega
  · rw [src_append, src_append, f1, src_append, src_append]
  · rw [dst_append, dst_append, f2, dst_append, dst_append]
  · rw [cost_append, cost_append, f3, cost_append, cost_append, z3]
theorem eq_one {x y : List Nat} {c n : Nat} {done run rest0 R : List Df} {t0 : List Nat} (h : PhA x y c n done run rest0) (hR : rest0 ++ [((0 : Int), ([] : List Nat))] = (0, t0) :: R) (h2 : run.length = 1 ∨ (run = [] ∧ done = [])) :
    AfterEq x y c n (done ++ run) t0 R := by
  refine after_eq h hR (h.okd.append h.okr) (noadj_mid h.na h.le ?_ h.ro ?_ t0) rfl rfl rfl id (Nat.le_refl _) fun a b => absurd a b
  · match run, h2 with
    | [r], _ => trivial
    | [], _ => trivial
  · rcases h2 with h2 | ⟨h2, h3⟩
    · exact .inl fun q => by rw [q] at h2; cases h2
    · exact .inr h3
theorem eq_merge {x y : List Nat} {c n : Nat} {i rest0 R : List Df} {t0 t1 : List Nat} (h : PhA x y c n (i ++ [((0 : Int), t1)]) [] rest0) (hR : rest0 ++ [((0 : Int), ([] : List Nat))] = (0, t0) :: R) :
    AfterEq x y c n i (t1 ++ t0) R := by
  have h1 : t1 ≠ [] := (h.okd (0, t1) (by simp)).2
  refine after_eq h hR (fun p hp => h.okd p (by simp [hp])) (h.na.swap rfl) ?_ ?_ ?_ (fun _ q => h1 (List.append_eq_nil_iff.mp q).1) (by simp) fun _ _ => by simp
  · simp [src]
  · simp [dst]
  · simp [cost]
end
section
open PySem PySem.W
set_option Elab.async false
set_option autoImplicit false
set_option linter.unusedVariables false
noncomputable def S_m1body : S := (.ite (.cmp .Eq (.item (.item (.var 1) (.var 2)) (.int 0)) (.attr 1)) (.seq (.aug 4 .Add (.int 1)) (.seq (.aug 6 .Add (.item (.item (.var 1) (.var 2)) (.int 1))) (.aug 2 .Add (.int 1)))) (.ite (.cmp .Eq (.item (.item (.var 1) (.var 2)) (.int 0)) (.attr 0)) (.seq (.aug 3 .Add (.int 1)) (.seq (.aug 5 .Add (.item (.item (.var 1) (.var 2)) (.int 1))) (.aug 2 .Add (.int 1)))) (.ite (.cmp .Eq (.item (.item (.var 1) (.var 2)) (.int 0)) (.attr 2)) (.seq (.ite (.cmp .Gt (.bin .Add (.var 3) (.var 4)) (.int 1)) (.seq (.ite (.and (.cmp .NotEq (.var 3) (.int 0)) (.and (.cmp .NotEq (.var 4) (.int 0)) .tt)) (.seq (.asg 9 (.call2 4 (.var 6) (.var 5))) (.seq (.ite (.cmp .NotEq (.var 9) (.int 0)) .bad .skip) (.seq (.asg 9 (.call2 5 (.var 6) (.var 5))) (.ite (.cmp .NotEq (.var 9) (.int 0)) .bad .skip)))) .skip) (.seq (.asg 8 .list0) (.seq (.ite (.cmp .NotEq (.len (.var 5)) (.int 0)) (.expr (.append (.var 8) (.tup (.attr 0) (.var 5)))) .skip) (.seq (.ite (.cmp .NotEq (.len (.var 6)) (.int 0)) (.expr (.append (.var 8) (.tup (.attr 1) (.var 6)))) .skip) (.seq (.aug 2 .Sub (.bin .Add (.var 3) (.var 4))) (.seq (.setSlice (.var 1) (.var 2) (.bin .Add (.bin .Add (.var 2) (.var 3)) (.var 4)) (.var 8)) (.aug 2 .Add (.bin .Add (.len (.var 8)) (.int 1))))))))) (.ite (.and (.cmp .NotEq (.var 2) (.int 0)) (.and (.cmp .Eq (.item (.item (.var 1) (.bin .Sub (.var 2) (.int 1))) (.int 0)) (.attr 2)) .tt)) (.seq (.setItem (.var 1) (.bin .Sub (.var 2) (.int 1)) (.tup (.item (.item (.var 1) (.bin .Sub (.var 2) (.int 1))) (.int 0)) (.bin .Add (.item (.item (.var 1) (.bin .Sub (.var 2) (.int 1))) (.int 1)) (.item (.item (.var 1) (.var 2)) (.int 1))))) (.delItem (.var 1) (.var 2))) (.aug 2 .Add (.int 1)))) (.seq (.asg 4 (.int 0)) (.seq (.asg 3 (.int 0)) (.seq (.asg 5 (.str [])) (.asg 6 (.str [])))))) .skip)))
noncomputable def S_m2body : S := (.seq (.ite (.and (.cmp .Eq (.item (.item (.var 1) (.bin .Sub (.var 2) (.int 1))) (.int 0)) (.attr 2)) (.and (.cmp .Eq (.item (.item (.var 1) (.bin .Add (.var 2) (.int 1))) (.int 0)) (.attr 2)) .tt)) (.ite (.val (.endsw (.item (.item (.var 1) (.var 2)) (.int 1)) (.item (.item (.var 1) (.bin .Sub (.var 2) (.int 1))) (.int 1)))) (.seq (.ite (.cmp .NotEq (.item (.item (.var 1) (.bin .Sub (.var 2) (.int 1))) (.int 1)) (.str [])) (.seq (.setItem (.var 1) (.var 2) (.tup (.item (.item (.var 1) (.var 2)) (.int 0)) (.bin .Add (.item (.item (.var 1) (.bin .Sub (.var 2) (.int 1))) (.int 1)) (.slice (.item (.item (.var 1) (.var 2)) (.int 1)) .none (.neg (.len (.item (.item (.var 1) (.bin .Sub (.var 2) (.int 1))) (.int 1)))))))) (.setItem (.var 1) (.bin .Add (.var 2) (.int 1)) (.tup (.item (.item (.var 1) (.bin .Add (.var 2) (.int 1))) (.int 0)) (.bin .Add (.item (.item (.var 1) (.bin .Sub (.var 2) (.int 1))) (.int 1)) (.item (.item (.var 1) (.bin .Add (.var 2) (.int 1))) (.int 1)))))) .skip) (.seq (.delItem (.var 1) (.bin .Sub (.var 2) (.int 1))) (.asg 7 (.bool true)))) (.ite (.val (.startsw (.item (.item (.var 1) (.var 2)) (.int 1)) (.item (.item (.var 1) (.bin .Add (.var 2) (.int 1))) (.int 1)))) (.seq (.setItem (.var 1) (.bin .Sub (.var 2) (.int 1)) (.tup (.item (.item (.var 1) (.bin .Sub (.var 2) (.int 1))) (.int 0)) (.bin .Add (.item (.item (.var 1) (.bin .Sub (.var 2) (.int 1))) (.int 1)) (.item (.item (.var 1) (.bin .Add (.var 2) (.int 1))) (.int 1))))) (.seq (.setItem (.var 1) (.var 2) (.tup (.item (.item (.var 1) (.var 2)) (.int 0)) (.bin .Add (.slice (.item (.item (.var 1) (.var 2)) (.int 1)) (.len (.item (.item (.var 1) (.bin .Add (.var 2) (.int 1))) (.int 1))) .none) (.item (.item (.var 1) (.bin .Add (.var 2) (.int 1))) (.int 1))))) (.seq (.delItem (.var 1) (.bin .Add (.var 2) (.int 1))) (.asg 7 (.bool true))))) .skip)) .skip) (.aug 2 .Add (.int 1)))
noncomputable abbrev MS (tool a : Addr) (p cd ci : Int) (td ti : List Nat) (j7 j8 j9 j10 : Option V) (H : AH) : St := ⟨[some (.ref tool), some (.ref a), some (.int p), some (.int cd), some (.int ci), some (.str td), some (.str ti), j7, j8, j9, j10], H⟩
noncomputable def lenAt (H : AH) (a : Addr) : Nat := match H a with | some vs => vs.length | none => 0
noncomputable def I1 (tool a : Addr) (x y : List Nat) (c n : Nat) (σ : St) : Prop := ∃ p cd ci td ti j8 j9 H, σ = MS tool a p cd ci td ti none j8 j9 none H ∧
  ((∃ done run rest0, PhA x y c n done run rest0 ∧ H a = some (encs (done ++ run ++ (rest0 ++ [((0 : Int), ([] : List Nat))]))) ∧ p = (done ++ run).length ∧ cd + ci = run.length ∧ 0 ≤ cd ∧ 0 ≤ ci ∧ td = src run ∧ ti = dst run) ∨
   (∃ i t, PhB x y c n i t ∧ H a = some (encs (i ++ [((0 : Int), t)])) ∧ p = (i.length + 1 : Nat)))
theorem PhA.take {x y : List Nat} {c n : Nat} {done run rest0 R : List Df} {e : Df} (h : PhA x y c n done run rest0) (hR : rest0 ++ [((0 : Int), ([] : List Nat))] = e :: R) (he : e.1 = -1 ∨ e.1 = 1) :
    ∃ rest1, R = rest1 ++ [((0 : Int), ([] : List Nat))] ∧ PhA x y c n done (run ++ [e]) rest1 := by
  match rest0, hR with
  | [], hR =>
    simp only [List.nil_append, List.cons.injEq] at hR
    rw [← hR.1] at he; simp at he
  | f :: rest1, hR =>
    simp only [List.cons_append, List.cons.injEq] at hR
    obtain ⟨rfl, rfl⟩ := hR
    obtain ⟨a1, a2, a3, a4, a5, a6, a7, a8, a9, a10⟩ := h
    have es : done ++ (run ++ [f]) ++ rest1 = done ++ run ++ f :: rest1 := by simp
    refine ⟨rest1, rfl, ⟨a1, a2.append fun p hp => ?_, fun p hp => a3 p (.tail _ hp), a4, a5, fun p hp => ?_, by rw [es]; exact a7, by rw [es]; exact a8, by rw [es]; exact a9, by rw [es]; exact a10⟩⟩
    · rw [List.mem_singleton] at hp; subst hp; exact a3 _ (.head _)
    · rcases List.mem_append.mp hp with hp | hp
      · exact a6 p hp
      · rw [List.mem_singleton] at hp; subst hp; exact he
theorem PhA.eq0 {x y : List Nat} {c n : Nat} {done run rest0 R : List Df} {e : Df} (h : PhA x y c n done run rest0) (hR : rest0 ++ [((0 : Int), ([] : List Nat))] = e :: R) (h1 : ¬ e.1 = 1) (h2 : ¬ e.1 = -1) : e.1 = 0 := by
  match rest0, hR with
  | [], hR =>
    simp only [List.nil_append, List.cons.injEq] at hR
    rw [← hR.1]
  | f :: rest1, hR =>
    simp only [List.cons_append, List.cons.injEq] at hR
    obtain ⟨rfl, rfl⟩ := hR
    have := (h.okx f (.head _)).1
    omega
theorem sum_le {a b c d e f x y : Nat} (h1 : a + b + c = x) (h2 : d + e + f = y) : b + e ≤ x + y := by omega
theorem PhA.sz {x y : List Nat} {c n : Nat} {done run rest : List Df} (h : PhA x y c n done run rest) : (src run).length + (dst run).length ≤ x.length + y.length := by
  have h1 := h.sr; have h2 := h.ds
  rw [src_append, src_append] at h1
  rw [dst_append, dst_append] at h2
  have h1' := congrArg List.length h1
  have h2' := congrArg List.length h2
  simp only [List.length_append] at h1' h2'
  omega
theorem I1_after {tool a : Addr} {x y : List Nat} {c n : Nat} {i R : List Df} {t : List Nat} {j8 j9 : Option V} {H : AH} {p : Int} (h : AfterEq x y c n i t R) (hH : H a = some (encs (i ++ [((0 : Int), t)] ++ R))) (hp : p = i.length + 1) :
    I1 tool a x y c n (MS tool a p 0 0 [] [] none j8 j9 none H) := by
  refine ⟨p, 0, 0, [], [], j8, j9, H, rfl, ?_⟩
  rcases h with ⟨h, rfl⟩ | ⟨rest0, rfl, h⟩
  · exact .inr ⟨i, t, h, by rw [hH, List.append_nil], by omega⟩
  · exact .inl ⟨_, [], rest0, h, by rw [hH, List.append_nil], by simp; omega, by simp, by omega, by omega, rfl, rfl⟩
theorem cl_at {n m d : Nat} (h : m ≤ n) : cl n d (some (m : Int)) = m := by rw [cl_pos (Int.natCast_nonneg m), Int.toNat_natCast]; exact Nat.min_eq_left h
theorem sub_at {a b : Nat} {z : Int} (h : z = b) : ((a + b : Nat) : Int) - z = a := by omega
theorem sub_at' {a b : Nat} {u v : Int} (h : u + v = b) : ((a + b : Nat) : Int) - (u + v) + u + v = ((a + b : Nat) : Int) := by omega
theorem sz16 {a b s : Nat} (h : a + b ≤ s) (hb : s ≤ 2 ^ 12) : a ≤ 2 ^ 16 ∧ b ≤ 2 ^ 16 := ⟨Nat.le_trans (Nat.le_trans (Nat.le_add_right a b) h) (Nat.le_trans hb (by decide)), Nat.le_trans (Nat.le_trans (Nat.le_add_left b a) h) (Nat.le_trans hb (by decide))⟩
theorem m1_H {d r q R : List Df} {e : Df} (h : R = q ++ [((0 : Int), ([] : List Nat))]) : some (encs (d ++ r ++ e :: R)) = some (encs (d ++ (r ++ [e]) ++ (q ++ [((0 : Int), ([] : List Nat))]))) := by
  rw [← h, List.append_assoc, List.append_assoc, List.append_assoc]; rfl
theorem m1_p (d r : List Df) (e : Df) : ((d ++ r).length : Int) + 1 = ((d ++ (r ++ [e])).length : Int) := by
  rw [← List.append_assoc, List.length_append (as := d ++ r)]; rfl
theorem m1_i {cd ci : Int} {r : List Df} (e : Df) (h : cd + ci = r.length) : cd + (ci + 1) = ((r ++ [e]).length : Int) := by
  rw [← Int.add_assoc, h, List.length_append]; rfl
theorem m1_d {cd ci : Int} {r : List Df} (e : Df) (h : cd + ci = r.length) : (cd + 1) + ci = ((r ++ [e]).length : Int) := by
  rw [Int.add_assoc, Int.add_comm 1, ← Int.add_assoc, h, List.length_append]; rfl
theorem lenAt_mid {H : AH} {a : Addr} {d R : List Df} {e : Df} (h : H a = some (encs (d ++ e :: R))) : lenAt H a = d.length + (R.length + 1) := by
  unfold lenAt; rw [h]; dsimp only; rw [encs_len, List.length_append]; rfl
theorem m1_less {H : AH} {a : Addr} {d R : List Df} {e : Df} (h : H a = some (encs (d ++ e :: R))) : (lenAt H a : Int) - ((d.length : Int) + 1) < R.length + 1 := by
  rw [lenAt_mid h]; omega
theorem m1_dec {H : AH} {a : Addr} {d R : List Df} {e : Df} {x : Int} (h : H a = some (encs (d ++ e :: R))) (hx : x < R.length + 1) : x.toNat < ((lenAt H a : Int) - d.length).toNat := by
  have e2 : ((lenAt H a : Int) - d.length).toNat = R.length + 1 := by rw [lenAt_mid h, Int.toNat_sub, Nat.add_sub_cancel_left]
  rw [e2]; clear e2 h; omega
theorem v_m1 (Φ : Calls) (tool a : Addr) (x y : List Nat) (c n : Nat) (hb : x.length + y.length ≤ 2 ^ 12) (hn : n ≤ 2 ^ 12) (hc : (c : Int) = ed x y) (hpre : CPre Φ) (hsuf : CSuf Φ) (done run rest0 R : List Df) (e : Df) (cd ci : Int) (j8 j9 : Option V) (H : AH) (Q : Fl → St → Prop)
    (hA : PhA x y c n done run rest0) (hR : rest0 ++ [((0 : Int), ([] : List Nat))] = e :: R) (hH : H a = some (encs (done ++ run ++ e :: R))) (hcd : cd + ci = run.length) (h0 : 0 ≤ cd) (h1 : 0 ≤ ci)
    (hnext : ∀ σ, I1 tool a x y c n σ → (lenAt σ.H a : Int) - ig σ 2 < R.length + 1 → Q .next σ) :
    wpS (SP Φ tool) S_m1body (MS tool a (done ++ run).length cd ci (src run) (dst run) none j8 j9 none H) Q := by
  have hlen : (done ++ run ++ e :: R).length ≤ n + 1 := by
    rw [← hR, ← List.append_assoc, List.length_append]; exact Nat.succ_le_succ hA.ln
  have hge : (encs (done ++ run ++ e :: R))[((done ++ run).length : Int).toNat]? = some (.tup (.int e.1) (.str e.2)) := by
    rw [Int.toNat_natCast]; exact encs_at _ _ _
  have hle : (encs (done ++ run ++ e :: R)).length ≤ 2 ^ 20 := by rw [encs_len]; exact Nat.le_trans hlen (Nat.le_trans (Nat.succ_le_succ hn) (by decide))
  have hsz := hA.sz
  unfold S_m1body
  walk_at "v"
  refine vitem_ref hH (Int.natCast_nonneg _) hle hge ?_
  walk_at "v"
  refine ite_dec (fun g1 => ?_) fun g1 => ?_
  · obtain ⟨rest1, hr, hA'⟩ := hA.take hR (.inr g1)
    have hsz' := hA'.sz
    rw [src_append, dst_append] at hsz'
    have ed1 : dst [e] = e.2 := by simp [dst, g1]
    have ed2 : src [e] = [] := by simp [src, g1]
    rw [ed1, ed2] at hsz'
    simp only [List.length_append] at hsz'
    walk_at "v"
    refine vitem_ref hH (Int.natCast_nonneg _) hle hge ?_
    walk_at "v"
    refine ⟨szLine (by omega), ?_⟩
    walk_at "v"
    exact hnext _ ⟨_, _, _, _, _, _, _, _, rfl, .inl ⟨done, run ++ [e], rest1, hA', hH.trans (m1_H hr), m1_p done run e, m1_i e hcd, h0, Int.add_nonneg h1 (by decide), by rw [src_append, ed2, List.append_nil], by rw [dst_append, ed1]⟩⟩ (m1_less hH)
  · walk_at "v"
    refine vitem_ref hH (Int.natCast_nonneg _) hle hge ?_
    walk_at "v"
    refine ite_dec (fun g2 => ?_) fun g2 => ?_
    · obtain ⟨rest1, hr, hA'⟩ := hA.take hR (.inl g2)
      have hsz' := hA'.sz
      rw [src_append, dst_append] at hsz'
      have ed1 : src [e] = e.2 := by simp [src, g2]
      have ed2 : dst [e] = [] := by simp [dst, g2]
      rw [ed1, ed2] at hsz'
      simp only [List.length_append] at hsz'
      walk_at "v"
      refine vitem_ref hH (Int.natCast_nonneg _) hle hge ?_
      walk_at "v"
      refine ⟨szLine (by omega), ?_⟩
      walk_at "v"
      exact hnext _ ⟨_, _, _, _, _, _, _, _, rfl, .inl ⟨done, run ++ [e], rest1, hA', hH.trans (m1_H hr), m1_p done run e, m1_d e hcd, Int.add_nonneg h0 (by decide), h1, by rw [src_append, ed1], by rw [dst_append, ed2, List.append_nil]⟩⟩ (m1_less hH)
    · walk_at "v"
      refine vitem_ref hH (Int.natCast_nonneg _) hle hge ?_
      walk_at "v"
      have g3 := hA.eq0 hR g1 g2
      refine ite_dec (fun _ => ?_) fun g => absurd g3 g
      obtain ⟨o, t0⟩ := e
      dsimp only at g3
      subst g3
      walk_at "u"
      refine (show ∀ Kk : Fl → St → Prop, (∀ p' i t j8 j9 H' cd ci td ti, AfterEq x y c n i t R → H' a = some (encs (i ++ [((0 : Int), t)] ++ R)) → p' = (i.length : Int) + 1 → Kk .next (MS tool a p' cd ci td ti none j8 j9 none H')) → wpS (SP Φ tool) _ _ Kk from fun Kk hK => ?_) _ ?_
      · walk_at "v"
        refine ite_dec (fun k1 => ?_) fun k1 => ?_
        · obtain ⟨z1, z2, z3⟩ := run_zero hA.okd hA.okr hA.okx hA.ro hA.sr hA.ds (by rw [hA.co]; exact hc)
          walk_at "u"
          refine (show ∀ Kk : Fl → St → Prop, (∀ j9, Kk .next (MS tool a (done ++ run).length cd ci (src run) (dst run) none j8 j9 none H)) → wpS (SP Φ tool) _ _ Kk from fun Kk hK => ?_) _ ?_
          · walk_at "v"
            refine ite_dec (fun k2 => ?_) fun k2 => ?_
            · walk_at "v"
              refine ite_dec (fun k3 => ?_) fun k3 => ?_
              · walk_at "v"
                refine hpre _ _ _ _ (sz16 hsz hb).2 (sz16 hsz hb).1 ?_
                rw [z1]
                walk_at "v"
                refine ite_dec (fun k4 => absurd rfl k4) fun _ => ?_
                walk_at "v"
                refine hsuf _ _ _ _ (sz16 hsz hb).2 (sz16 hsz hb).1 ?_
                rw [z2]
                walk_at "v"
                refine ite_dec (fun k4 => absurd rfl k4) fun _ => ?_
                walk_at "v"
                exact hK _
              · exact hK _
            · exact hK _
          · intro j9
            walk_at "u"
            intro l hl
            have hne : l ≠ a := fun q => by
              have hl' : H l = none := hl
              rw [q, hH] at hl'; cases hl'
            walk_at "u"
            refine (show ∀ Kk : Fl → St → Prop, (∀ H', H' a = H a → H' l = some (encs (if (src run).length = 0 then [] else [(-1, src run)])) → Kk .next (MS tool a (done ++ run).length cd ci (src run) (dst run) none (some (.ref l)) j9 none H')) → wpS (SP Φ tool) _ _ Kk from fun Kk hK => ?_) _ ?_
            · walk_at "v"
              refine ite_dec (fun k2 => ?_) fun k2 => ?_
              · walk_at "v"
                simp only [if_pos]
                refine ⟨rfl, ?_⟩
                walk_at "v"
                simp only [if_pos]
                refine ⟨by decide, ?_⟩
                walk_at "v"
                refine hK _ (by simp [hne.symm]) ?_
                rw [if_neg (c := (src run).length = 0) fun q => k2 (congrArg Int.ofNat q)]; simp [encs]
              · walk_at "v"
                refine hK _ (by simp [hne.symm]) ?_
                rw [if_pos (c := (src run).length = 0) (Int.ofNat_eq_zero.mp (Classical.not_not.mp k2))]; simp [encs]
            · intro H1 ha1 hl1
              walk_at "u"
              refine (show ∀ Kk : Fl → St → Prop, (∀ H', H' a = H a → H' l = some (encs (news (src run) (dst run))) → Kk .next (MS tool a (done ++ run).length cd ci (src run) (dst run) none (some (.ref l)) j9 none H')) → wpS (SP Φ tool) _ _ Kk from fun Kk hK => ?_) _ ?_
              · walk_at "v"
                refine ite_dec (fun k2 => ?_) fun k2 => ?_
                · walk_at "v"
                  simp only [hl1]
                  refine ⟨rfl, ?_⟩
                  walk_at "v"
                  simp only [hl1]
                  refine ⟨by rw [encs_len]; split <;> simp, ?_⟩
                  walk_at "v"
                  refine hK _ (by simp [hne.symm, ha1]) ?_
                  unfold news
                  rw [if_neg (c := (dst run).length = 0) fun q => k2 (congrArg Int.ofNat q)]; simp [encs]
                · walk_at "v"
                  refine hK _ ha1 ?_
                  rw [hl1]
                  unfold news
                  rw [if_pos (c := (dst run).length = 0) (Int.ofNat_eq_zero.mp (Classical.not_not.mp k2)), List.append_nil]
              · intro H2 ha2 hl2
                obtain ⟨f1, f2, f3, f4, f5, f6, f7⟩ := news_facts (src run) (dst run)
                rw [hH] at ha2
                walk_at "v"
                simp only [ha2, hl2]
                have c1 : cl (encs (done ++ run ++ (0, t0) :: R)).length 0 (some (((done ++ run).length : Int) - (cd + ci))) = done.length := by
                  rw [List.length_append, sub_at hcd]
                  exact cl_at (by rw [encs_len, List.length_append, List.length_append, Nat.add_assoc]; exact Nat.le_add_right _ _)
                have c2 : cl (encs (done ++ run ++ (0, t0) :: R)).length (encs (done ++ run ++ (0, t0) :: R)).length (some (((done ++ run).length : Int) - (cd + ci) + cd + ci)) = (done ++ run).length := by
                  rw [show (((done ++ run).length : Nat) : Int) - (cd + ci) + cd + ci = ((done ++ run).length : Nat) from by rw [List.length_append]; exact sub_at' hcd]
                  exact cl_at (by rw [encs_len, List.length_append (as := done ++ run)]; exact Nat.le_add_right _ _)
                rw [c1, c2]
                have c3 : (encs (done ++ run ++ (0, t0) :: R)).take done.length ++ encs (news (src run) (dst run)) ++ (encs (done ++ run ++ (0, t0) :: R)).drop (done ++ run).length = encs (done ++ news (src run) (dst run) ++ [(0, t0)] ++ R) := by
                  rw [encs_append (done ++ run), List.drop_left' (encs_len _), encs_append done, List.append_assoc (encs done), List.take_left' (encs_len _)]
                  simp [encs]
                rw [c3]
                refine ⟨⟨hne.symm, by simp only [encs_len] at *; omega, by simp⟩, ?_⟩
                walk_at "v"
                rw [if_neg hne]; simp only [hl2]
                refine ⟨by rw [encs_len]; omega, ?_⟩
                walk_at "v"
                refine hK _ _ _ _ _ _ _ _ _ _ (eq_run hA hc hR (by omega)) (by simp) ?_
                simp [encs_len]; omega
        · walk_at "v"
          have hlr : run.length = 0 ∨ run.length = 1 := by omega
          refine ite_dec (fun k2 => ?_) fun k2 => ?_
          · rcases hlr with hlr | hlr
            · have er := List.length_eq_zero_iff.mp hlr
              subst er
              rcases hA.le with hle2 | ⟨i, t1, rfl⟩
              · rw [hle2] at k2; exact absurd rfl k2
              · have hL : i ++ [((0 : Int), t1)] ++ ([] : List Df) ++ (0, t0) :: R = i ++ (0, t1) :: (0, t0) :: R := by simp
                have hp : (((i ++ [((0 : Int), t1)] ++ ([] : List Df)).length : Nat) : Int) = i.length + 1 := by simp
                have AE := eq_merge hA hR
                have hok := hA.okd
                have hsr := hA.sr
                have hln := hA.ln
                rw [hL] at hH hge hle hlen
                rw [hp] at hge
                rw [hp]
                have hgp : (encs (i ++ (0, t1) :: (0, t0) :: R))[((i.length : Int) + 1 - 1).toNat]? = some (.tup (.int 0) (.str t1)) := by
                  rw [show ((i.length : Int) + 1 - 1).toNat = i.length from by omega]; exact encs_at _ _ _
                have htl : t1.length + t0.length ≤ 2 ^ 12 := by
                  have h1 : src (i ++ (0, t1) :: (0, t0) :: R) = x := by
                    rw [← hL, ← hR, ← List.append_assoc, src_append, hsr]; simp [src]
                  have h2 := congrArg List.length h1
                  rw [src_append, src_cons, src_cons] at h2
                  simp at h2; omega
                walk_at "v"
                refine vitem_ref hH (by omega) hle hgp ?_
                walk_at "v"
                refine ite_dec (fun _ => ?_) fun k3 => absurd rfl k3
                walk_at "v"
                refine vitem_ref hH (by omega) hle hgp ?_
                walk_at "v"
                refine vitem_ref hH (by omega) hle hgp ?_
                walk_at "v"
                refine vitem_ref hH (by omega) hle hge ?_
                walk_at "v"
                refine ⟨szLine (by omega), ?_⟩
                walk_at "v"
                simp only [hH]
                refine ⟨⟨by omega, by rw [encs_len]; simp; omega, by omega⟩, ?_⟩
                rw [show ((i.length : Int) + 1 - 1).toNat = i.length from by omega, encs_set i (0, t1) (0, t1 ++ t0)]
                walk_at "v"
                simp only [if_pos]
                refine ⟨⟨by omega, by rw [encs_len]; simp; omega, by rw [encs_len]; simp at hlen ⊢; omega⟩, ?_⟩
                walk_at "v"
                refine hK _ _ _ _ _ _ _ _ _ _ AE ?_ rfl
                simp only [if_pos]
                rw [show ((i.length : Int) + 1).toNat = (i ++ [((0 : Int), t1 ++ t0)]).length from by simp, show i ++ (0, t1 ++ t0) :: (0, t0) :: R = i ++ [(0, t1 ++ t0)] ++ (0, t0) :: R from by simp, encs_del]
            · obtain ⟨r, rfl⟩ := List.length_eq_one_iff.mp hlr
              have hgp : (encs (done ++ [r] ++ (0, t0) :: R))[(((done ++ [r]).length : Int) - 1).toNat]? = some (.tup (.int r.1) (.str r.2)) := by
                rw [show (((done ++ [r]).length : Int) - 1).toNat = done.length from by simp]
                rw [show done ++ [r] ++ (0, t0) :: R = done ++ r :: (0, t0) :: R from by simp]
                exact encs_at _ _ _
              have hr0 := hA.ro r (.head _)
              walk_at "v"
              refine vitem_ref hH (by simp) hle hgp ?_
              walk_at "v"
              refine ite_dec (fun k3 => by omega) fun k3 => ?_
              walk_at "v"
              refine hK _ _ _ _ _ _ _ _ _ _ (eq_one hA hR (.inl rfl)) (by rw [hH]; simp) rfl
          · have hz : (done ++ run).length = 0 := by omega
            rw [List.length_append] at hz
            have e1 := List.length_eq_zero_iff.mp (show done.length = 0 by omega)
            have e2 := List.length_eq_zero_iff.mp (show run.length = 0 by omega)
            subst e1; subst e2
            walk_at "v"
            refine hK _ _ _ _ _ _ _ _ _ _ (eq_one hA hR (.inr ⟨rfl, rfl⟩)) (by rw [hH]; simp) rfl
      · intro p' i t j8 j9 H' cd ci td ti h1 h2 h3
        walk_at "v"
        refine hnext _ (I1_after h1 h2 h3) ?_
        simp [lenAt, h2, encs_len, ig, h3]; omega
end
section
open PySem PySem.W
set_option Elab.async false
set_option autoImplicit false
set_option linter.unusedVariables false
theorem endsw_spec {b a : List Nat} (h : Txt.endswith (strOf b) (strOf a) = true) : ∃ b', b = b' ++ a := by
  have len : ∀ l : List Nat, (strOf l).length = l.length := fun l => by simp [strOf, PySem.Str.length]
  unfold Txt.endswith at h
  rw [Bool.and_eq_true, StrLaws.subAt_eq, len, len] at h
  obtain ⟨h1, h2⟩ := h
  simp [strOf] at h1 h2
  refine ⟨b.take (b.length - a.length), ?_⟩
  have h3 := List.take_append_drop (b.length - a.length) b
  rw [List.take_of_length_le (by simp; omega)] at h2
  rw [h2] at h3
  exact h3.symm
theorem startsw_spec {b a : List Nat} (h : Txt.startswith (strOf b) (strOf a) = true) : ∃ b', b = a ++ b' := by
  have len : ∀ l : List Nat, (strOf l).length = l.length := fun l => by simp [strOf, PySem.Str.length]
  unfold Txt.startswith at h
  rw [Bool.and_eq_true, StrLaws.subAt_eq, len, len] at h
  obtain ⟨h1, h2⟩ := h
  simp [strOf] at h1 h2
  refine ⟨b.drop a.length, ?_⟩
  have h3 := List.take_append_drop a.length b
  rw [h2] at h3
  exact h3.symm
theorem split3 {α : Type} {l : List α} {k : Nat} (h : k + 2 < l.length) : ∃ pre a b c post, l = pre ++ a :: b :: c :: post ∧ pre.length = k := by
  refine ⟨l.take k, l[k], l[k + 1], l[k + 2], l.drop (k + 3), ?_, by simp; omega⟩
  rw [← List.drop_eq_getElem_cons, ← List.drop_eq_getElem_cons, ← List.drop_eq_getElem_cons, List.take_append_drop]
theorem Okd.txt {L : List Df} (h : Okd L) {e : Df} (he : e ∈ L) : e.2.length ≤ (src L).length + (dst L).length := by
  induction L with
  | nil => cases he
  | cons p L ih =>
    rw [src_cons, dst_cons]
    simp only [List.length_append]
    rcases List.mem_cons.mp he with rfl | he
    · rcases (h e (.head _)).1 with q | q | q <;> rw [q] <;> simp <;> omega
    · have := ih (fun q hq => h q (.tail _ hq)) he
      omega
theorem encs_set0 {pre post : List Df} {u : Df} {k : Nat} (o : Int) (t : List Nat) (h : k = pre.length) : (encs (pre ++ u :: post)).set k (.tup (.int o) (.str t)) = encs (pre ++ (o, t) :: post) := by subst h; exact encs_set pre u (o, t) post
theorem encs_set1 {pre post : List Df} {u v : Df} {k : Nat} (o : Int) (t : List Nat) (h : k = pre.length + 1) : (encs (pre ++ u :: v :: post)).set k (.tup (.int o) (.str t)) = encs (pre ++ u :: (o, t) :: post) := by
  have := encs_set0 (pre := pre ++ [u]) (u := v) (post := post) (k := k) o t (by simp; omega)
  simpa using this
theorem encs_set2 {pre post : List Df} {u v w : Df} {k : Nat} (o : Int) (t : List Nat) (h : k = pre.length + 2) : (encs (pre ++ u :: v :: w :: post)).set k (.tup (.int o) (.str t)) = encs (pre ++ u :: v :: (o, t) :: post) := by
  have := encs_set0 (pre := pre ++ [u, v]) (u := w) (post := post) (k := k) o t (by simp; omega)
  simpa using this
theorem encs_at0 {pre post : List Df} {u : Df} {k : Nat} (h : k = pre.length) : (encs (pre ++ u :: post))[k]? = some (.tup (.int u.1) (.str u.2)) := by subst h; exact encs_at pre u post
theorem encs_at1 {pre post : List Df} {u v : Df} {k : Nat} (h : k = pre.length + 1) : (encs (pre ++ u :: v :: post))[k]? = some (.tup (.int v.1) (.str v.2)) := by
  have := encs_at0 (pre := pre ++ [u]) (u := v) (post := post) (k := k) (by simp; omega)
  simpa using this
theorem encs_at2 {pre post : List Df} {u v w : Df} {k : Nat} (h : k = pre.length + 2) : (encs (pre ++ u :: v :: w :: post))[k]? = some (.tup (.int w.1) (.str w.2)) := by
  have := encs_at0 (pre := pre ++ [u, v]) (u := w) (post := post) (k := k) (by simp; omega)
  simpa using this
theorem encs_del0 {pre post : List Df} {u : Df} {k : Nat} (h : k = pre.length) : (encs (pre ++ u :: post)).eraseIdx k = encs (pre ++ post) := by subst h; exact encs_del pre u post
theorem encs_del2 {pre post : List Df} {u v w : Df} {k : Nat} (h : k = pre.length + 2) : (encs (pre ++ u :: v :: w :: post)).eraseIdx k = encs (pre ++ u :: v :: post) := by
  have := encs_del0 (pre := pre ++ [u, v]) (u := w) (post := post) (k := k) (by simp; omega)
  simpa using this
noncomputable abbrev MS2 (tool a : Addr) (p : Int) (ch : Bool) (j3 j4 j5 j6 j8 j9 j10 : Option V) (H : AH) : St := ⟨[some (.ref tool), some (.ref a), some (.int p), j3, j4, j5, j6, some (.bool ch), j8, j9, j10], H⟩
structure G2 (x y : List Nat) (c : Nat) (L0 L : List Df) (ch : Bool) : Prop where
  ok : Okd L
  sr : src L = x
  ds : dst L = y
  co : cost L = c
  no : ch = false → L = L0
  ye : ch = true → L.length < L0.length
theorem G2.len {x y : List Nat} {c : Nat} {L0 L : List Df} {ch : Bool} (h : G2 x y c L0 L ch) : L.length ≤ L0.length := by
  cases ch with
  | false => rw [h.no rfl]; exact Nat.le_refl _
  | true => exact Nat.le_of_lt (h.ye rfl)
theorem G2.left {x y : List Nat} {c : Nat} {L0 pre post : List Df} {ch : Bool} {o : Int} {t1 b t3 : List Nat} (h : G2 x y c L0 (pre ++ (0, t1) :: (o, b ++ t1) :: (0, t3) :: post) ch) : G2 x y c L0 (pre ++ (o, t1 ++ b) :: (0, t1 ++ t3) :: post) true := by
  have hl := h.len
  obtain ⟨a1, a2, a3, a4, a5, a6⟩ := h
  have h1 := a1 (0, t1) (by simp)
  have h2 := a1 (o, b ++ t1) (by simp)
  refine ⟨fun p hp => ?_, ?_, ?_, ?_, fun q => Bool.noConfusion q, fun _ => by simp at hl ⊢; omega⟩
  · simp only [List.mem_append, List.mem_cons] at hp
    rcases hp with hp | rfl | rfl | hp
    · exact a1 p (by simp [hp])
    · exact ⟨h2.1, fun q => h1.2 (List.append_eq_nil_iff.mp q).1⟩
    · exact ⟨.inr (.inl rfl), fun q => h1.2 (List.append_eq_nil_iff.mp q).1⟩
    · exact a1 p (by simp [hp])
  · rw [← a2]; simp only [src_append, src_cons]; rcases h2.1 with q | q | q <;> dsimp only at q <;> rw [q] <;> simp
  · rw [← a3]; simp only [dst_append, dst_cons]; rcases h2.1 with q | q | q <;> dsimp only at q <;> rw [q] <;> simp
  · rw [← a4]; simp only [cost_append, cost_cons]; rcases h2.1 with q | q | q <;> dsimp only at q <;> rw [q] <;> simp <;> omega
theorem G2.right {x y : List Nat} {c : Nat} {L0 pre post : List Df} {ch : Bool} {o : Int} {t1 b t3 : List Nat} (h : G2 x y c L0 (pre ++ (0, t1) :: (o, t3 ++ b) :: (0, t3) :: post) ch) : G2 x y c L0 (pre ++ (0, t1 ++ t3) :: (o, b ++ t3) :: post) true := by
  have hl := h.len
  obtain ⟨a1, a2, a3, a4, a5, a6⟩ := h
  have h1 := a1 (0, t1) (by simp)
  have h2 := a1 (o, t3 ++ b) (by simp)
  have h3 := a1 (0, t3) (by simp)
  refine ⟨fun p hp => ?_, ?_, ?_, ?_, fun q => Bool.noConfusion q, fun _ => by simp at hl ⊢; omega⟩
  · simp only [List.mem_append, List.mem_cons] at hp
    rcases hp with hp | rfl | rfl | hp
    · exact a1 p (by simp [hp])
    · exact ⟨.inr (.inl rfl), fun q => h1.2 (List.append_eq_nil_iff.mp q).1⟩
    · exact ⟨h2.1, fun q => h3.2 (List.append_eq_nil_iff.mp q).2⟩
    · exact a1 p (by simp [hp])
  · rw [← a2]; simp only [src_append, src_cons]; rcases h2.1 with q | q | q <;> dsimp only at q <;> rw [q] <;> simp
  · rw [← a3]; simp only [dst_append, dst_cons]; rcases h2.1 with q | q | q <;> dsimp only at q <;> rw [q] <;> simp
  · rw [← a4]; simp only [cost_append, cost_cons]; rcases h2.1 with q | q | q <;> dsimp only at q <;> rw [q] <;> simp <;> omega
noncomputable def I2 (tool a : Addr) (x y : List Nat) (c : Nat) (L0 : List Df) (σ : St) : Prop := ∃ p ch j3 j4 j5 j6 j8 j9 j10 H L, σ = MS2 tool a p ch j3 j4 j5 j6 j8 j9 j10 H ∧ H a = some (encs L) ∧ 1 ≤ p ∧ G2 x y c L0 L ch
theorem v_m2 (Φ : Calls) (tool a : Addr) (x y : List Nat) (c : Nat) (L0 L : List Df) (hb : x.length + y.length ≤ 2 ^ 12) (hn : L0.length ≤ 2 ^ 12) (p : Int) (ch : Bool) (j3 j4 j5 j6 j8 j9 j10 : Option V) (H : AH) (Q : Fl → St → Prop)
    (hH : H a = some (encs L)) (hp : 1 ≤ p) (hG : G2 x y c L0 L ch) (hlt : p < L.length - 1)
    (hnext : ∀ σ, I2 tool a x y c L0 σ → (lenAt σ.H a : Int) - ig σ 2 < L.length - p → Q .next σ) :
    wpS (SP Φ tool) S_m2body (MS2 tool a p ch j3 j4 j5 j6 j8 j9 j10 H) Q := by
  have hlen := hG.len
  have hle : (encs L).length ≤ 2 ^ 20 := by rw [encs_len]; omega
  obtain ⟨pre, e1, e2, e3, post, rfl, hpre⟩ := split3 (l := L) (k := (p - 1).toNat) (by omega)
  have g1 : (encs (pre ++ e1 :: e2 :: e3 :: post))[(p - 1).toNat]? = some (.tup (.int e1.1) (.str e1.2)) := by rw [← hpre]; exact encs_at _ _ _
  have g2 : (encs (pre ++ e1 :: e2 :: e3 :: post))[p.toNat]? = some (.tup (.int e2.1) (.str e2.2)) := by
    rw [show p.toNat = (pre ++ [e1]).length from by simp; omega, show pre ++ e1 :: e2 :: e3 :: post = (pre ++ [e1]) ++ e2 :: e3 :: post from by simp]; exact encs_at _ _ _
  have g3 : (encs (pre ++ e1 :: e2 :: e3 :: post))[(p + 1).toNat]? = some (.tup (.int e3.1) (.str e3.2)) := by
    rw [show (p + 1).toNat = (pre ++ [e1, e2]).length from by simp; omega, show pre ++ e1 :: e2 :: e3 :: post = (pre ++ [e1, e2]) ++ e3 :: post from by simp]; exact encs_at _ _ _
  have s1 := hG.ok.txt (e := e1) (by simp)
  have s2 := hG.ok.txt (e := e2) (by simp)
  have s3 := hG.ok.txt (e := e3) (by simp)
  rw [hG.sr, hG.ds] at s1 s2 s3
  unfold S_m2body
  walk_at "u"
  refine (show ∀ Kk : Fl → St → Prop, (∀ ch' H' L', H' a = some (encs L') → G2 x y c L0 L' ch' → L'.length ≤ (pre ++ e1 :: e2 :: e3 :: post).length → Kk .next (MS2 tool a p ch' j3 j4 j5 j6 j8 j9 j10 H')) → wpS (SP Φ tool) _ _ Kk from fun Kk hK => ?_) _ ?_
  · walk_at "v"
    refine vitem_ref hH (by omega) hle g1 ?_
    walk_at "v"
    refine ite_dec (fun k1 => ?_) fun k1 => ?_
    · walk_at "v"
      refine vitem_ref hH (by omega) hle g3 ?_
      walk_at "v"
      refine ite_dec (fun k2 => ?_) fun k2 => ?_
      · obtain ⟨o1, t1⟩ := e1
        obtain ⟨o2, t2⟩ := e2
        obtain ⟨o3, t3⟩ := e3
        dsimp only at k1 k2 g1 g2 g3 s1 s2 s3
        subst k1; subst k2
        have n1 := (hG.ok (0, t1) (by simp)).2
        have n3 := (hG.ok (0, t3) (by simp)).2
        have p1 : 0 < t1.length := List.length_pos_iff.mpr n1
        walk_at "v"
        refine vitem_ref hH (by omega) hle g2 ?_
        walk_at "v"
        refine vitem_ref hH (by omega) hle g1 ?_
        walk_at "v"
        by_cases hE : Txt.endswith (strOf t2) (strOf t1) = true
        · rw [if_pos hE]
          obtain ⟨b, rfl⟩ := endsw_spec hE
          simp only [List.length_append] at s2
          have hlP : pre.length + 3 + post.length ≤ 2 ^ 12 := by simp at hlen; omega
          have hpp : p = pre.length + 1 := by omega
          clear hp hpre hlt
          subst hpp
          walk_at "u"
          refine (show ∀ Kk : Fl → St → Prop, (∀ H', H' a = some (encs (pre ++ (0, t1) :: (o2, t1 ++ b) :: (0, t1 ++ t3) :: post)) → Kk .next (MS2 tool a (pre.length + 1) ch j3 j4 j5 j6 j8 j9 j10 H')) → wpS (SP Φ tool) _ _ Kk from fun Kk hK => ?_) _ ?_
          · walk_at "v"
            refine vitem_ref hH (by omega) hle g1 ?_
            walk_at "v"
            refine ite_dec (fun _ => ?_) fun q => absurd n1 q
            walk_at "v"
            refine vitem_ref hH (by omega) hle g2 ?_
            walk_at "v"
            refine vitem_ref hH (by omega) hle g1 ?_
            walk_at "v"
            refine vitem_ref hH (by omega) hle g2 ?_
            walk_at "v"
            refine vitem_ref hH (by omega) hle g1 ?_
            walk_at "v"
            refine vslice_ni (by simp; omega) ?_
            rw [slice_ton _ (by omega)]
            have hb2 : (b ++ t1).take ((b ++ t1).length - (t1.length : Int).toNat) = b := by simp
            rw [hb2]
            walk_at "v"
            refine ⟨szLine (by omega), ?_⟩
            walk_at "v"
            simp only [hH]
            refine ⟨⟨by omega, by rw [encs_len]; simp; omega, by omega⟩, ?_⟩
            rw [encs_set1 o2 (t1 ++ b) (by omega)]
            have hle' : (encs (pre ++ (0, t1) :: (o2, t1 ++ b) :: (0, t3) :: post)).length ≤ 2 ^ 20 := by rw [encs_len]; simp; omega
            walk_at "v"
            refine vitem_ref (by exact if_pos rfl) (by omega) hle' (encs_at2 (by omega)) ?_
            walk_at "v"
            refine vitem_ref (by exact if_pos rfl) (by omega) hle' (encs_at0 (by omega)) ?_
            walk_at "v"
            refine vitem_ref (by exact if_pos rfl) (by omega) hle' (encs_at2 (by omega)) ?_
            walk_at "v"
            refine ⟨szLine (by omega), ?_⟩
            walk_at "v"
            simp only [if_pos]
            refine ⟨⟨by omega, by rw [encs_len]; simp; omega, hle'⟩, ?_⟩
            rw [encs_set2 0 (t1 ++ t3) (by omega)]
            exact hK _ (if_pos rfl)
          · intro H1 hH1
            walk_at "v"
            simp only [hH1]
            refine ⟨⟨by omega, by rw [encs_len]; simp; omega, by rw [encs_len]; simp; omega⟩, ?_⟩
            rw [encs_del0 (by omega)]
            walk_at "v"
            exact hK _ _ _ (if_pos rfl) hG.left (by simp)
        · rw [if_neg hE]
          walk_at "v"
          refine vitem_ref hH (by omega) hle g2 ?_
          walk_at "v"
          refine vitem_ref hH (by omega) hle g3 ?_
          walk_at "v"
          by_cases hS : Txt.startswith (strOf t2) (strOf t3) = true
          · rw [if_pos hS]
            obtain ⟨b, rfl⟩ := startsw_spec hS
            simp only [List.length_append] at s2
            have hlP : pre.length + 3 + post.length ≤ 2 ^ 12 := by simp at hlen; omega
            have hpp : p = pre.length + 1 := by omega
            clear hp hpre hlt
            subst hpp
            have hle' : (encs (pre ++ (0, t1 ++ t3) :: (o2, t3 ++ b) :: (0, t3) :: post)).length ≤ 2 ^ 20 := by rw [encs_len]; simp; omega
            have hle2 : (encs (pre ++ (0, t1 ++ t3) :: (o2, b ++ t3) :: (0, t3) :: post)).length ≤ 2 ^ 20 := by rw [encs_len]; simp; omega
            walk_at "v"
            refine vitem_ref hH (by omega) hle g1 ?_
            walk_at "v"
            refine vitem_ref hH (by omega) hle g1 ?_
            walk_at "v"
            refine vitem_ref hH (by omega) hle g3 ?_
            walk_at "v"
            refine ⟨szLine (by omega), ?_⟩
            walk_at "v"
            simp only [hH]
            refine ⟨⟨by omega, by rw [encs_len]; simp; omega, by omega⟩, ?_⟩
            rw [encs_set0 0 (t1 ++ t3) (by omega)]
            walk_at "v"
            refine vitem_ref (by exact if_pos rfl) (by omega) hle' (encs_at1 (by omega)) ?_
            walk_at "v"
            refine vitem_ref (by exact if_pos rfl) (by omega) hle' (encs_at1 (by omega)) ?_
            walk_at "v"
            refine vitem_ref (by exact if_pos rfl) (by omega) hle' (encs_at2 (by omega)) ?_
            walk_at "v"
            refine vslice_in (by simp; omega) ?_
            rw [slice_from _ (by omega)]
            have hb2 : (t3 ++ b).drop ((t3.length : Int)).toNat = b := by simp
            rw [hb2]
            walk_at "v"
            refine vitem_ref (by exact if_pos rfl) (by omega) hle' (encs_at2 (by omega)) ?_
            walk_at "v"
            refine ⟨szLine (by omega), ?_⟩
            walk_at "v"
            simp only [if_pos]
            refine ⟨⟨by omega, by rw [encs_len]; simp; omega, hle'⟩, ?_⟩
            rw [encs_set1 o2 (b ++ t3) (by omega)]
            walk_at "v"
            simp only [if_pos]
            refine ⟨⟨by omega, by rw [encs_len]; simp; omega, hle2⟩, ?_⟩
            rw [encs_del2 (by omega)]
            walk_at "v"
            exact hK _ _ _ (if_pos rfl) hG.right (by simp)
          · rw [if_neg hS]
            walk_at "v"
            exact hK _ _ _ hH hG (Nat.le_refl _)
      · walk_at "v"
        exact hK _ _ _ hH hG (Nat.le_refl _)
    · walk_at "v"
      exact hK _ _ _ hH hG (Nat.le_refl _)
  · intro ch' H' L' h1 h2 h3
    walk_at "v"
    refine hnext _ ⟨p + 1, ch', j3, j4, j5, j6, j8, j9, j10, H', L', rfl, h1, by omega, h2⟩ ?_
    simp only [lenAt, h1, encs_len, ig, List.getElem?_cons_succ, List.getElem?_cons_zero]; omega
end
section
open PySem PySem.W
set_option Elab.async false
set_option autoImplicit false
set_option linter.unusedVariables false
noncomputable def PostM (a : Addr) (ds : List Df) : Fl → St → Prop := fun g σ => g = .next ∧ ∃ ds', σ.H a = some (encs ds') ∧ Okd ds' ∧ src ds' = src ds ∧ dst ds' = dst ds ∧ cost ds' = cost ds ∧ NoAdj ds'
noncomputable def oneH (a : Addr) (vs : List V) : AH := fun b => if b = a then some vs else none
theorem le_m {k n : Nat} (h : k ≤ n + 1) (hn : n ≤ 2 ^ 12) : k ≤ 2 ^ 20 := Nat.le_trans h (Nat.le_trans (Nat.succ_le_succ hn) (by decide))
theorem v_merge (Φ : Calls) (tool a : Addr) (ds : List Df) (n : Nat) (hok : Okd ds) (hcost : (cost ds : Int) = ed (src ds) (dst ds)) (hb : (src ds).length + (dst ds).length ≤ 2 ^ 12) (hn : ds.length ≤ n) (hpre : CPre Φ) (hsuf : CSuf Φ) (hrec : 1 ≤ n → CMerge Φ (n - 1)) :
    wpS (SP Φ tool) S_cleanupMerge ⟨[some (.ref tool), some (.ref a), none, none, none, none, none, none, none, none, none], oneH a (encs ds)⟩ (PostM a ds) := by
  have hds := Nat.le_trans hok.len hb
  have h0 : (oneH a (encs ds)) a = some (encs ds) := if_pos rfl
  unfold S_cleanupMerge
  walk_at "v"
  simp only [h0]
  refine ⟨rfl, ?_⟩
  walk_at "v"
  simp only [h0]
  refine ⟨by rw [encs_len]; omega, ?_⟩
  walk_at "u"
  refine wS_while (I1 tool a (src ds) (dst ds) (cost ds) ds.length) (fun σ => ((lenAt σ.H a : Int) - ig σ 2).toNat) ?_ ?_
  · refine ⟨0, 0, 0, [], [], none, none, _, rfl, .inl ⟨[], [], ds, ⟨fun p hp => (by cases hp), fun p hp => (by cases hp), hok, trivial, .inl rfl, fun p hp => (by cases hp), by simp, by simp, by simp, by simp⟩, ?_, by simp, by simp, by omega, by omega, rfl, rfl⟩⟩
    simp [encs]
  · rintro _ ⟨p, cd, ci, td, ti, j8, j9, H, rfl, hI⟩
    rcases hI with ⟨done, run, rest0, hA, hH, hp, hcd, c0, c1, rfl, rfl⟩ | ⟨i, t, hB, hH, hp⟩
    · obtain ⟨e, R, hR⟩ : ∃ e R, rest0 ++ [((0 : Int), ([] : List Nat))] = e :: R := by
        cases rest0 with
        | nil => exact ⟨_, _, rfl⟩
        | cons e r => exact ⟨_, _, rfl⟩
      rw [hR] at hH
      subst hp
      have hln : (done ++ run ++ e :: R).length ≤ ds.length + 1 := by
        rw [← hR, ← List.append_assoc, List.length_append]; exact Nat.succ_le_succ hA.ln
      walk_at "v"
      simp only [hH]
      refine ⟨by rw [encs_len]; exact le_m hln hds, ?_⟩
      walk_at "v"
      rw [encs_len]
      refine ite_dec (fun _ => ?_) fun q => ?_
      · refine v_m1 Φ tool a (src ds) (dst ds) (cost ds) ds.length hb hds hcost hpre hsuf done run rest0 R e cd ci j8 j9 H _ hA hR hH hcd c0 c1 fun σ h1 h2 => ⟨h1, ?_⟩
        exact m1_dec hH h2
      · exact absurd (Int.ofNat_lt.mpr (by rw [List.length_append (as := done ++ run)]; exact Nat.lt_add_of_pos_right (Nat.succ_pos _))) q
    · have hln := hB.ln
      walk_at "v"
      simp only [hH]
      refine ⟨by rw [encs_len, List.length_append]; exact le_m (Nat.succ_le_succ hln) hds, ?_⟩
      walk_at "v"
      rw [encs_len]
      refine ite_dec (fun q => ?_) fun _ => ?_
      · exfalso; rw [hp] at q; simp at q
      · walk_at "u"
        refine (show ∀ Kk : Fl → St → Prop, (∀ L0 H', Okd L0 → NoAdj L0 → src L0 = src ds → dst L0 = dst ds → cost L0 = cost ds → L0.length ≤ ds.length → H' a = some (encs L0) → Kk .next (MS tool a p cd ci td ti none j8 j9 none H')) → wpS (SP Φ tool) _ _ Kk from fun Kk hK => ?_) _ ?_
        · have hg : (encs (i ++ [((0 : Int), t)]))[(-1 + ((encs (i ++ [((0 : Int), t)])).length : Int)).toNat]? = some (.tup (.int 0) (.str t)) := by
            rw [encs_at0 (by rw [encs_len]; simp; omega)]
          walk_at "v"
          refine vitem_refn hH (by decide) (by rw [encs_len]; simp; omega) (by rw [encs_len]; simp; omega) hg ?_
          walk_at "v"
          refine ite_dec (fun q => ?_) fun q => ?_
          · subst q
            walk_at "v"
            simp only [hH]
            have hlast : (encs (i ++ [((0 : Int), ([] : List Nat))])).getLast? = some (.tup (.int 0) (.str [])) := by simp [encs]
            have hdrop : (encs (i ++ [((0 : Int), ([] : List Nat))])).dropLast = encs i := by simp [encs]
            simp only [hlast, hdrop]
            refine ⟨by rw [encs_len]; simp; omega, ?_⟩
            walk_at "v"
            refine hK i _ hB.ok hB.na.init ?_ ?_ ?_ hB.ln (if_pos rfl)
            · rw [← hB.sr, src_append]; simp [src]
            · rw [← hB.ds, dst_append]; simp [dst]
            · rw [← hB.co, cost_append]; simp [cost]
          · walk_at "v"
            refine hK _ _ (hB.ok.append fun p hp => ?_) hB.na hB.sr hB.ds hB.co (by have := hB.ln2 q; simp; omega) hH
            rw [List.mem_singleton] at hp; subst hp; exact ⟨.inr (.inl rfl), q⟩
        · intro L0 H0 k1 k2 k3 k4 k5 k6 k7
          walk_at "u"
          refine wS_while (I2 tool a (src ds) (dst ds) (cost ds) L0) (fun σ => ((lenAt σ.H a : Int) - ig σ 2).toNat) ?_ ?_
          · exact ⟨1, false, _, _, _, _, _, _, _, _, L0, rfl, k7, by omega, ⟨k1, k3, k4, k5, fun _ => rfl, fun q => Bool.noConfusion q⟩⟩
          · rintro _ ⟨p, ch, j3, j4, j5, j6, j8, j9, j10, H, L, rfl, hH, hp, hG⟩
            have hlL := hG.len
            walk_at "v"
            simp only [hH]
            refine ⟨by rw [encs_len]; exact le_m (Nat.le_succ_of_le hlL) (Nat.le_trans k6 hds), ?_⟩
            walk_at "v"
            rw [encs_len]
            refine ite_dec (fun q => ?_) fun _ => ?_
            · refine v_m2 Φ tool a (src ds) (dst ds) (cost ds) L0 L hb (by omega) p ch j3 j4 j5 j6 j8 j9 j10 H _ hH hp hG q fun σ h1 h2 => ⟨h1, ?_⟩
              have h3 : (lenAt H a : Int) = L.length := by simp [lenAt, hH, encs_len]
              rw [h3]
              simp only [ig, List.getElem?_cons_succ, List.getElem?_cons_zero] at h2 ⊢
              omega
            · cases ch with
              | false =>
                walk_at "v"
                have := hG.no rfl
                subst this
                exact ⟨rfl, _, hH, k1, k3, k4, k5, k2⟩
              | true =>
                have hlt := hG.ye rfl
                walk_at "v"
                refine hrec (by omega) a L _ _ hH hG.ok (by rw [hG.co, hG.sr, hG.ds]; exact hcost) (by omega) (by rw [hG.sr, hG.ds]; exact hb) fun ds' m1 m2 m3 m4 m5 => ?_
                refine ⟨rfl, ds', updH_self _ _ _, m1, by rw [m2, hG.sr], by rw [m3, hG.ds], by rw [m4, hG.co], m5⟩
end
section
open PySem PySem.W
set_option Elab.async false
set_option autoImplicit false
set_option linter.unusedVariables false
theorem wS_forp {sp : Sp} {σ : St} {Q : Fl → St → Prop} {i j : Nat} {x : X} {b : S} (h : wpX sp x σ fun u σ₁ => match u with
    | .ref l => match σ₁.H l with
      | some vs => vs.length ≤ 2 ^ 20 ∧ (∀ (k : Nat) (v : V), vs[k]? = some v → ∃ p q : V, v = V.tup p q) ∧ ∃ I : Nat → St → Prop, I 0 (σ₁.delH l) ∧
          (∀ (k : Nat) (p q : V) (σ' : St), vs[k]? = some (V.tup p q) → I k σ' → wpS sp b ((σ'.set i p).set j q) (loopQ (fun f σ₃ => Q f (σ₃.setH l vs)) (I (k + 1)))) ∧
          ∀ σ', I vs.length σ' → Q .next (σ'.setH l vs)
      | none => False
    | _ => False) : wpS sp (.forp i j x b) σ Q := h
theorem encs_get? (ds : List Df) (k : Nat) : (encs ds)[k]? = (ds[k]?).map fun p => V.tup (.int p.1) (.str p.2) := by simp [encs]
theorem src_take {ds : List Df} {k : Nat} {p : Df} (h : ds[k]? = some p) : src (ds.take (k + 1)) = src (ds.take k) ++ (if p.1 = 1 then [] else p.2) := by
  rw [List.take_add_one, h, src_append]; simp [src]
theorem dst_take {ds : List Df} {k : Nat} {p : Df} (h : ds[k]? = some p) : dst (ds.take (k + 1)) = dst (ds.take k) ++ (if p.1 = -1 then [] else p.2) := by
  rw [List.take_add_one, h, dst_append]; simp [dst]
theorem sum_flat (ts : List (List Nat)) : (ts.map List.length).sum = ts.flatten.length := by rw [List.length_flatten]
theorem v_text1 (Φ : Calls) (tool l : Addr) (ds : List Df) (hn : ds.length ≤ 2 ^ 12) (hs : (src ds).length ≤ 2 ^ 12) :
    wpS (SP Φ tool) S_text1 ⟨[some (.ref tool), some (.ref l), none, none, none], oneH l (encs ds)⟩ (fun g σ => g = .ret (.str (src ds)) ∧ σ.H l = some (encs ds)) := by
  unfold S_text1
  walk_at "v"
  intro t ht
  have htl : t ≠ l := fun q => by
    have h : oneH l (encs ds) t = none := ht
    rw [q] at h; simp [oneH] at h
  walk_at "v"
  refine wS_forp ?_
  walk_at "v"
  have hl : (if l = t then some [] else oneH l (encs ds) l) = some (encs ds) := by rw [if_neg htl.symm]; exact if_pos rfl
  simp only [hl]
  refine ⟨by rw [encs_len]; omega, fun k v hv => ?_, fun k σ => ∃ j3 j4 H, ∃ ts : List (List Nat), σ = ⟨[some (.ref tool), some (.ref l), some (.ref t), j3, j4], H⟩ ∧ H t = some (ts.map V.str) ∧ ts.flatten = src (ds.take k) ∧ ts.length ≤ k, ?_, ?_, ?_⟩
  · rw [encs_get?] at hv
    obtain ⟨p, _, rfl⟩ := Option.map_eq_some_iff.mp hv
    exact ⟨_, _, rfl⟩
  · exact ⟨_, _, _, [], rfl, by simp [htl], by simp [src], by simp⟩
  · rintro k p q _ hk ⟨j3, j4, H, ts, rfl, h1, h2, h3⟩
    rw [encs_get?] at hk
    obtain ⟨e, he, hpq⟩ := Option.map_eq_some_iff.mp hk
    cases hpq
    have hkl : k < ds.length := (List.getElem?_eq_some_iff.mp he).1
    walk_at "v"
    refine ite_dec (fun g => ?_) fun g => ?_
    · walk_at "v"
      simp only [h1]
      refine ⟨rfl, ?_⟩
      walk_at "v"
      simp only [h1]
      refine ⟨by rw [List.length_map]; omega, ?_⟩
      walk_at "v"
      refine ⟨_, _, _, ts ++ [e.2], rfl, by simp, ?_, by simp; omega⟩
      rw [src_take he, if_neg g]; simp [h2]
    · walk_at "v"
      refine ⟨_, _, _, ts, rfl, h1, ?_, by omega⟩
      have g' : e.1 = 1 := Classical.not_not.mp g
      rw [src_take he, if_pos g', List.append_nil]; exact h2
  · rintro _ ⟨j3, j4, H, ts, rfl, h1, h2, h3⟩
    rw [encs_len, List.take_length] at h2
    rw [encs_len] at h3
    walk_at "v"
    rw [if_neg htl]
    simp only [h1]
    refine ⟨ts, rfl, by rw [sum_flat, h2]; omega, ?_⟩
    walk_at "v"
    exact ⟨by rw [h2], if_pos trivial⟩
theorem v_text2 (Φ : Calls) (tool l : Addr) (ds : List Df) (hn : ds.length ≤ 2 ^ 12) (hs : (dst ds).length ≤ 2 ^ 12) :
    wpS (SP Φ tool) S_text2 ⟨[some (.ref tool), some (.ref l), none, none, none], oneH l (encs ds)⟩ (fun g σ => g = .ret (.str (dst ds)) ∧ σ.H l = some (encs ds)) := by
  unfold S_text2
  walk_at "v"
  intro t ht
  have htl : t ≠ l := fun q => by
    have h : oneH l (encs ds) t = none := ht
    rw [q] at h; simp [oneH] at h
  walk_at "v"
  refine wS_forp ?_
  walk_at "v"
  have hl : (if l = t then some [] else oneH l (encs ds) l) = some (encs ds) := by rw [if_neg htl.symm]; exact if_pos rfl
  simp only [hl]
  refine ⟨by rw [encs_len]; omega, fun k v hv => ?_, fun k σ => ∃ j3 j4 H, ∃ ts : List (List Nat), σ = ⟨[some (.ref tool), some (.ref l), some (.ref t), j3, j4], H⟩ ∧ H t = some (ts.map V.str) ∧ ts.flatten = dst (ds.take k) ∧ ts.length ≤ k, ?_, ?_, ?_⟩
  · rw [encs_get?] at hv
    obtain ⟨p, _, rfl⟩ := Option.map_eq_some_iff.mp hv
    exact ⟨_, _, rfl⟩
  · exact ⟨_, _, _, [], rfl, by simp [htl], by simp [dst], by simp⟩
  · rintro k p q _ hk ⟨j3, j4, H, ts, rfl, h1, h2, h3⟩
    rw [encs_get?] at hk
    obtain ⟨e, he, hpq⟩ := Option.map_eq_some_iff.mp hk
    cases hpq
    have hkl : k < ds.length := (List.getElem?_eq_some_iff.mp he).1
    walk_at "v"
    refine ite_dec (fun g => ?_) fun g => ?_
    · walk_at "v"
      simp only [h1]
      refine ⟨rfl, ?_⟩
      walk_at "v"
      simp only [h1]
      refine ⟨by rw [List.length_map]; omega, ?_⟩
      walk_at "v"
      refine ⟨_, _, _, ts ++ [e.2], rfl, by simp, ?_, by simp; omega⟩
      rw [dst_take he, if_neg g]; simp [h2]
    · walk_at "v"
      refine ⟨_, _, _, ts, rfl, h1, ?_, by omega⟩
      have g' : e.1 = -1 := Classical.not_not.mp g
      rw [dst_take he, if_pos g', List.append_nil]; exact h2
  · rintro _ ⟨j3, j4, H, ts, rfl, h1, h2, h3⟩
    rw [encs_len, List.take_length] at h2
    rw [encs_len] at h3
    walk_at "v"
    rw [if_neg htl]
    simp only [h1]
    refine ⟨ts, rfl, by rw [sum_flat, h2]; omega, ?_⟩
    walk_at "v"
    exact ⟨by rw [h2], if_pos trivial⟩
end
section
open PySem PySem.W PyProof.Rows
set_option Elab.async false
set_option maxRecDepth 100000
set_option maxHeartbeats 8000000
noncomputable def fnO (f q : Str) (dV cdv : Value) : Obj := { cls := .type "function", data := .func (W.fnOf f q (fnOf' f).1 (bodyOf f) (scopeOf f) dV .none .none (.str (Str.ofString "diff_match_patch.diff_match_patch") 194) none cdv .none) }
noncomputable def KK (P : Params) : Frag := [
  (3, { cls := Value.type "dict", data := Data.dict #[{ hash := PyData.keyHash P (Str.ofString "__name__"), key := Value.str (Str.ofString "__name__") 165, val := Value.str (Str.ofString "law_im0118_01") 445 }, { hash := PyData.keyHash P (Str.ofString "__doc__"), key := Value.str (Str.ofString "__doc__") 166, val := Value.none }, { hash := PyData.keyHash P (Str.ofString "__package__"), key := Value.str (Str.ofString "__package__") 167, val := Value.none }, { hash := PyData.keyHash P (Str.ofString "__loader__"), key := Value.str (Str.ofString "__loader__") 168, val := Value.builtin "__main__.__loader__#opaque" }, { hash := PyData.keyHash P (Str.ofString "__spec__"), key := Value.str (Str.ofString "__spec__") 169, val := Value.none }, { hash := PyData.keyHash P (Str.ofString "__annotations__"), key := Value.str (Str.ofString "__annotations__") 170, val := Value.ref 6 }, { hash := PyData.keyHash P (Str.ofString "__builtins__"), key := Value.str (Str.ofString "__builtins__") 171, val := Value.ref 4 }, { hash := PyData.keyHash P (Str.ofString "__file__"), key := Value.str (Str.ofString "__file__") 173, val := Value.str (Str.ofString "/claim/cut.py") 172 }, { hash := PyData.keyHash P (Str.ofString "__cached__"), key := Value.str (Str.ofString "__cached__") 174, val := Value.none }, { hash := PyData.keyHash P (Str.ofString "_wall"), key := Value.str (Str.ofString "_wall") 193, val := Value.ref 21 }, { hash := PyData.keyHash P (Str.ofString "diff_match_patch"), key := Value.str (Str.ofString "diff_match_patch") 444, val := Value.ref 137 }, { hash := PyData.keyHash P (Str.ofString "law"), key := Value.str (Str.ofString "law") 452, val := Value.ref 146 }] 12 }),
  (34, { cls := Value.type "code", data := Data.fields #[Value.str (Str.ofString "__init__") 208, Value.str (Str.ofString "diff_match_patch.__init__") 209, Value.str (Str.ofString "/claim/cut.py") 210, Value.int 7 0, Value.int 1 0, Value.int 0 0, Value.int 0 0, Value.int 3 0, Value.ref 29, Value.bool true, Value.int 181 0, Value.ref 30, Value.none, Value.ref 31, Value.ref 32, Value.ref 33, Value.int 212 0, Value.int 7 0, Value.str (Str.ofString "/claim/cut.py") 213] }),
  (35, fnO (Str.ofString "__init__") (Str.ofString "diff_match_patch.__init__") (Value.none) (Value.ref 34)),
  (36, { cls := Value.type "tuple", data := Data.seq #[Value.bool true, Value.none] }),
  (42, { cls := Value.type "code", data := Data.fields #[Value.str (Str.ofString "diff_main") 222, Value.str (Str.ofString "diff_match_patch.diff_main") 223, Value.str (Str.ofString "/claim/cut.py") 224, Value.int 19 0, Value.int 5 0, Value.int 0 0, Value.int 0 0, Value.int 3 0, Value.ref 37, Value.bool true, Value.int 181 0, Value.ref 38, Value.none, Value.ref 39, Value.ref 40, Value.ref 41, Value.int 234 0, Value.int 19 0, Value.str (Str.ofString "/claim/cut.py") 235] }),
  (43, fnO (Str.ofString "diff_main") (Str.ofString "diff_match_patch.diff_main") (Value.ref 36) (Value.ref 42)),
  (49, { cls := Value.type "code", data := Data.fields #[Value.str (Str.ofString "diff_compute") 237, Value.str (Str.ofString "diff_match_patch.diff_compute") 238, Value.str (Str.ofString "/claim/cut.py") 239, Value.int 45 0, Value.int 5 0, Value.int 0 0, Value.int 0 0, Value.int 3 0, Value.ref 44, Value.bool true, Value.int 181 0, Value.ref 45, Value.none, Value.ref 46, Value.ref 47, Value.ref 48, Value.int 257 0, Value.int 45 0, Value.str (Str.ofString "/claim/cut.py") 258] }),
  (50, fnO (Str.ofString "diff_compute") (Str.ofString "diff_match_patch.diff_compute") (Value.none) (Value.ref 49)),
  (56, { cls := Value.type "code", data := Data.fields #[Value.str (Str.ofString "diff_bisect") 260, Value.str (Str.ofString "diff_match_patch.diff_bisect") 261, Value.str (Str.ofString "/claim/cut.py") 262, Value.int 73 0, Value.int 4 0, Value.int 0 0, Value.int 0 0, Value.int 3 0, Value.ref 51, Value.bool true, Value.int 181 0, Value.ref 52, Value.none, Value.ref 53, Value.ref 54, Value.ref 55, Value.int 289 0, Value.int 73 0, Value.str (Str.ofString "/claim/cut.py") 290] }),
  (57, fnO (Str.ofString "diff_bisect") (Str.ofString "diff_match_patch.diff_bisect") (Value.none) (Value.ref 56)),
  (63, { cls := Value.type "code", data := Data.fields #[Value.str (Str.ofString "diff_bisectSplit") 292, Value.str (Str.ofString "diff_match_patch.diff_bisectSplit") 293, Value.str (Str.ofString "/claim/cut.py") 294, Value.int 135 0, Value.int 6 0, Value.int 0 0, Value.int 0 0, Value.int 3 0, Value.ref 58, Value.bool true, Value.int 181 0, Value.ref 59, Value.none, Value.ref 60, Value.ref 61, Value.ref 62, Value.int 307 0, Value.int 135 0, Value.str (Str.ofString "/claim/cut.py") 308] }),
  (64, fnO (Str.ofString "diff_bisectSplit") (Str.ofString "diff_match_patch.diff_bisectSplit") (Value.none) (Value.ref 63)),
  (70, { cls := Value.type "code", data := Data.fields #[Value.str (Str.ofString "diff_commonPrefix") 310, Value.str (Str.ofString "diff_match_patch.diff_commonPrefix") 311, Value.str (Str.ofString "/claim/cut.py") 312, Value.int 144 0, Value.int 3 0, Value.int 0 0, Value.int 0 0, Value.int 3 0, Value.ref 65, Value.bool true, Value.int 181 0, Value.ref 66, Value.none, Value.ref 67, Value.ref 68, Value.ref 69, Value.int 320 0, Value.int 144 0, Value.str (Str.ofString "/claim/cut.py") 321] }),
  (71, fnO (Str.ofString "diff_commonPrefix") (Str.ofString "diff_match_patch.diff_commonPrefix") (Value.none) (Value.ref 70)),
  (77, { cls := Value.type "code", data := Data.fields #[Value.str (Str.ofString "diff_commonSuffix") 323, Value.str (Str.ofString "diff_match_patch.diff_commonSuffix") 324, Value.str (Str.ofString "/claim/cut.py") 325, Value.int 160 0, Value.int 3 0, Value.int 0 0, Value.int 0 0, Value.int 3 0, Value.ref 72, Value.bool true, Value.int 181 0, Value.ref 73, Value.none, Value.ref 74, Value.ref 75, Value.ref 76, Value.int 333 0, Value.int 160 0, Value.str (Str.ofString "/claim/cut.py") 334] }),
  (78, fnO (Str.ofString "diff_commonSuffix") (Str.ofString "diff_match_patch.diff_commonSuffix") (Value.none) (Value.ref 77)),
  (91, { cls := Value.type "code", data := Data.fields #[Value.str (Str.ofString "diff_halfMatch") 345, Value.str (Str.ofString "diff_match_patch.diff_halfMatch") 346, Value.str (Str.ofString "/claim/cut.py") 347, Value.int 179 0, Value.int 3 0, Value.int 0 0, Value.int 0 0, Value.int 3 0, Value.ref 86, Value.bool true, Value.int 181 0, Value.ref 87, Value.none, Value.ref 88, Value.ref 89, Value.ref 90, Value.int 363 0, Value.int 179 0, Value.str (Str.ofString "/claim/cut.py") 364] }),
  (92, fnO (Str.ofString "diff_halfMatch") (Str.ofString "diff_match_patch.diff_halfMatch") (Value.none) (Value.ref 91)),
  (105, { cls := Value.type "code", data := Data.fields #[Value.str (Str.ofString "diff_cleanupMerge") 374, Value.str (Str.ofString "diff_match_patch.diff_cleanupMerge") 375, Value.str (Str.ofString "/claim/cut.py") 376, Value.int 228 0, Value.int 2 0, Value.int 0 0, Value.int 0 0, Value.int 3 0, Value.ref 100, Value.bool true, Value.int 181 0, Value.ref 101, Value.none, Value.ref 102, Value.ref 103, Value.ref 104, Value.int 388 0, Value.int 228 0, Value.str (Str.ofString "/claim/cut.py") 389] }),
  (106, fnO (Str.ofString "diff_cleanupMerge") (Str.ofString "diff_match_patch.diff_cleanupMerge") (Value.none) (Value.ref 105)),
  (119, { cls := Value.type "code", data := Data.fields #[Value.str (Str.ofString "diff_text1") 400, Value.str (Str.ofString "diff_match_patch.diff_text1") 401, Value.str (Str.ofString "/claim/cut.py") 402, Value.int 303 0, Value.int 2 0, Value.int 0 0, Value.int 0 0, Value.int 3 0, Value.ref 114, Value.bool true, Value.int 181 0, Value.ref 115, Value.none, Value.ref 116, Value.ref 117, Value.ref 118, Value.int 408 0, Value.int 303 0, Value.str (Str.ofString "/claim/cut.py") 409] }),
  (120, fnO (Str.ofString "diff_text1") (Str.ofString "diff_match_patch.diff_text1") (Value.none) (Value.ref 119)),
  (126, { cls := Value.type "code", data := Data.fields #[Value.str (Str.ofString "diff_text2") 411, Value.str (Str.ofString "diff_match_patch.diff_text2") 412, Value.str (Str.ofString "/claim/cut.py") 413, Value.int 310 0, Value.int 2 0, Value.int 0 0, Value.int 0 0, Value.int 3 0, Value.ref 121, Value.bool true, Value.int 181 0, Value.ref 122, Value.none, Value.ref 123, Value.ref 124, Value.ref 125, Value.int 419 0, Value.int 310 0, Value.str (Str.ofString "/claim/cut.py") 420] }),
  (127, fnO (Str.ofString "diff_text2") (Str.ofString "diff_match_patch.diff_text2") (Value.none) (Value.ref 126)),
  (136, { cls := Value.type "dict", data := Data.dict #[{ hash := PyData.keyHash P (Str.ofString "__module__"), key := Value.str (Str.ofString "__module__") 203, val := Value.str (Str.ofString "diff_match_patch.diff_match_patch") 194 }, { hash := PyData.keyHash P (Str.ofString "__firstlineno__"), key := Value.str (Str.ofString "__firstlineno__") 207, val := Value.int 5 206 }, { hash := PyData.keyHash P (Str.ofString "__init__"), key := Value.str (Str.ofString "__init__") 214, val := Value.ref 35 }, { hash := PyData.keyHash P (Str.ofString "DIFF_DELETE"), key := Value.str (Str.ofString "DIFF_DELETE") 217, val := Value.int (-1) 216 }, { hash := PyData.keyHash P (Str.ofString "DIFF_INSERT"), key := Value.str (Str.ofString "DIFF_INSERT") 219, val := Value.int 1 218 }, { hash := PyData.keyHash P (Str.ofString "DIFF_EQUAL"), key := Value.str (Str.ofString "DIFF_EQUAL") 221, val := Value.int 0 220 }, { hash := PyData.keyHash P (Str.ofString "diff_main"), key := Value.str (Str.ofString "diff_main") 236, val := Value.ref 43 }, { hash := PyData.keyHash P (Str.ofString "diff_compute"), key := Value.str (Str.ofString "diff_compute") 259, val := Value.ref 50 }, { hash := PyData.keyHash P (Str.ofString "diff_bisect"), key := Value.str (Str.ofString "diff_bisect") 291, val := Value.ref 57 }, { hash := PyData.keyHash P (Str.ofString "diff_bisectSplit"), key := Value.str (Str.ofString "diff_bisectSplit") 309, val := Value.ref 64 }, { hash := PyData.keyHash P (Str.ofString "diff_commonPrefix"), key := Value.str (Str.ofString "diff_commonPrefix") 322, val := Value.ref 71 }, { hash := PyData.keyHash P (Str.ofString "diff_commonSuffix"), key := Value.str (Str.ofString "diff_commonSuffix") 335, val := Value.ref 78 }, { hash := PyData.keyHash P (Str.ofString "diff_commonOverlap"), key := Value.str (Str.ofString "diff_commonOverlap") 344, val := Value.ref 85 }, { hash := PyData.keyHash P (Str.ofString "diff_halfMatch"), key := Value.str (Str.ofString "diff_halfMatch") 365, val := Value.ref 92 }, { hash := PyData.keyHash P (Str.ofString "diff_cleanupEfficiency"), key := Value.str (Str.ofString "diff_cleanupEfficiency") 373, val := Value.ref 99 }, { hash := PyData.keyHash P (Str.ofString "diff_cleanupMerge"), key := Value.str (Str.ofString "diff_cleanupMerge") 390, val := Value.ref 106 }, { hash := PyData.keyHash P (Str.ofString "diff_xIndex"), key := Value.str (Str.ofString "diff_xIndex") 399, val := Value.ref 113 }, { hash := PyData.keyHash P (Str.ofString "diff_text1"), key := Value.str (Str.ofString "diff_text1") 410, val := Value.ref 120 }, { hash := PyData.keyHash P (Str.ofString "diff_text2"), key := Value.str (Str.ofString "diff_text2") 421, val := Value.ref 127 }, { hash := PyData.keyHash P (Str.ofString "diff_levenshtein"), key := Value.str (Str.ofString "diff_levenshtein") 429, val := Value.ref 134 }, { hash := PyData.keyHash P (Str.ofString "__static_attributes__"), key := Value.str (Str.ofString "__static_attributes__") 437, val := Value.ref 135 }, { hash := PyData.keyHash P (Str.ofString "__dict__"), key := Value.str (Str.ofString "__dict__") 439, val := Value.ref 138 }, { hash := PyData.keyHash P (Str.ofString "__weakref__"), key := Value.str (Str.ofString "__weakref__") 441, val := Value.ref 139 }, { hash := PyData.keyHash P (Str.ofString "__doc__"), key := Value.str (Str.ofString "__doc__") 442, val := Value.none }] 4 }),
  (137, { cls := Value.type "type", data := Data.cls { name := Str.ofString "diff_match_patch", bases := [Value.type "object"], mro := [Value.ref 137, Value.type "object"], ns := 136, qualname := Str.ofString "diff_match_patch" }, slots := #[none, none, some (Value.str (Str.ofString "diff_match_patch") 196), some (Value.str (Str.ofString "diff_match_patch") 204), some (Value.builtin "object.__new__"), some (Value.bool true)] }),
  (138, { cls := Value.type "getset_descriptor", data := Data.fields #[Value.str (Str.ofString "__dict__") 438, Value.ref 137, Value.builtin "function.__dict__", Value.builtin "function.__dict__#set"] }),
  (139, { cls := Value.type "getset_descriptor", data := Data.fields #[Value.str (Str.ofString "__weakref__") 440, Value.ref 137, Value.builtin "ExceptionGroup.__weakref__", Value.none] })]
noncomputable def KA : List Addr := [3, 34, 35, 36, 42, 43, 49, 50, 56, 57, 63, 64, 70, 71, 77, 78, 91, 92, 105, 106, 119, 120, 126, 127, 136, 137, 138, 139]
end
section
open PySem PySem.W PyProof.Rows PySem.Calls PySem.Spec
set_option Elab.async false
set_option maxRecDepth 100000
set_option maxHeartbeats 4000000
set_option autoImplicit false
set_option linter.unusedVariables false
noncomputable def methAddr : Nat → Option Addr
  | 0 => some 43 | 1 => some 50 | 2 => some 57 | 3 => some 64 | 4 => some 71 | 5 => some 78 | 6 => some 92 | 7 => some 106 | 8 => some 120 | 9 => some 127 | _ => none
noncomputable def PhiOf (prog : Program) (w : World) (cx : Cx) (tool : Addr) : Calls := fun k vs H P => ∃ f, methAddr k = some f ∧
  ∀ σ s cs, At cx σ s → σ.H = H → Reps s.heap vs cs → wpAny (model prog w) cx.A (PySem.call (.ref f) (.ref tool :: cs)) (cpost cx σ s fun v σ' => σ'.loc = σ.loc ∧ P v σ'.H) NoE s
structure Es (es : List DictEntry) : Prop where
  tim : ∃ t, getL (Str.ofString "Diff_Timeout") es = some (some (.int 0 t))
  at_ : ∀ k nm, attrName k = some nm → k ≠ 3 → getL nm es = some none
  me : ∀ k nm, methName k = some nm → getL nm es = some none
section
variable {prog : Program} {w : World} {P : Params} {mg mb : Str → Option Value} {tool dx : Addr} {es : List DictEntry} {nd : Nat} {cx : Cx}
theorem Wd.byM (Y : Wd (KK P) mg mb tool dx 137 es nd cx) (k : Nat) (f : Addr) {nm : Str} {o : Obj} {fd : FuncData} (hk : methAddr k = some f) (h0 : (KK P).lookup f = some o) (hd : o.data = .func fd)
    (p1 : plainGet (KK P) 137 nm = true) (p2 : findIn (KK P) (.ref 137) nm = some (some (.ref f))) (p3 : isFn (KK P) (.ref f) = true) (hl : getL nm es = some none) :
    ∃ f o fd, (∀ σ s, At cx σ s → s.heap.get? f = some o) ∧ o.data = .func fd ∧
    (∀ σ s pl (Q : Value × List Value → Shared → Prop), At cx σ s → Q (.ref f, [.ref tool]) s → wpAny (model prog w) cx.A (getMethod (.ref tool) nm pl) Q NoE s) ∧
    ∀ σ s vs cs P', At cx σ s → Reps s.heap vs cs → PhiOf prog w cx tool k vs σ.H P' → wpAny (model prog w) cx.A (PySem.call (.ref f) (.ref tool :: cs)) (cpost cx σ s fun v σ' => σ'.loc = σ.loc ∧ P' v σ'.H) NoE s := by
  refine ⟨f, o, fd, fun σ s a => ?_, hd, fun σ s pl Q a hQ => ?_, fun σ s vs cs P' a r h => ?_⟩
  · obtain ⟨m, F, _⟩ := a.fr
    exact (Y.kin.keeps F.keep) f _ h0
  · obtain ⟨m, F, _⟩ := a.fr
    exact method_inst F Y.kin (Y.inst a) p1 p2 p3 hl hQ
  · obtain ⟨g, hg, h⟩ := h
    rw [hk] at hg
    cases hg
    exact h σ s cs a rfl r
theorem Wd.lk (Y : Wd (KK P) mg mb tool dx 137 es nd cx) (E : Es es) : Lk prog w cx ⟨PhiOf prog w cx tool, atV, tool⟩ where
  attr := fun k nm hn σ s Q a hQ => by
    obtain ⟨m, F, _⟩ := a.fr
    match k, hn with
    | 0, hn => have e := E.at_ 0 nm hn (by decide); cases hn; exact get_cls F Y.kin (Y.inst a) rfl rfl rfl rfl rfl rfl e (hQ _ _ ⟨_, rfl⟩)
    | 1, hn => have e := E.at_ 1 nm hn (by decide); cases hn; exact get_cls F Y.kin (Y.inst a) rfl rfl rfl rfl rfl rfl e (hQ _ _ ⟨_, rfl⟩)
    | 2, hn => have e := E.at_ 2 nm hn (by decide); cases hn; exact get_cls F Y.kin (Y.inst a) rfl rfl rfl rfl rfl rfl e (hQ _ _ ⟨_, rfl⟩)
    | 3, hn => obtain ⟨t, e⟩ := E.tim; cases hn; exact get_own F Y.kin (Y.inst a) rfl rfl (attr := none) rfl rfl e rfl (hQ _ _ ⟨_, rfl⟩)
    | k + 4, hn => cases hn
  meth := fun k nm hn => by
    have hl := E.me k nm hn
    match k, hn with
    | 0, hn => cases hn; exact Y.byM 0 43 rfl rfl rfl rfl rfl rfl hl
    | 1, hn => cases hn; exact Y.byM 1 50 rfl rfl rfl rfl rfl rfl hl
    | 2, hn => cases hn; exact Y.byM 2 57 rfl rfl rfl rfl rfl rfl hl
    | 3, hn => cases hn; exact Y.byM 3 64 rfl rfl rfl rfl rfl rfl hl
    | 4, hn => cases hn; exact Y.byM 4 71 rfl rfl rfl rfl rfl rfl hl
    | 5, hn => cases hn; exact Y.byM 5 78 rfl rfl rfl rfl rfl rfl hl
    | 6, hn => cases hn; exact Y.byM 6 92 rfl rfl rfl rfl rfl rfl hl
    | 7, hn => cases hn; exact Y.byM 7 106 rfl rfl rfl rfl rfl rfl hl
    | 8, hn => cases hn; exact Y.byM 8 120 rfl rfl rfl rfl rfl rfl hl
    | 9, hn => cases hn; exact Y.byM 9 127 rfl rfl rfl rfl rfl rfl hl
    | k + 10, hn => cases hn
end
end
section
open PySem PySem.W PyProof.Rows PySem.Calls PySem.Spec
set_option Elab.async false
set_option maxRecDepth 100000
set_option maxHeartbeats 4000000
set_option autoImplicit false
set_option linter.unusedVariables false
theorem ok_main {A : Around} {qn : Str} {L fa : Addr} {cd : Value} {h₀ : Heap} {s₀ : Shared} {ex : List (Addr × Obj)} (hh : A.handled = none) : (mkCx A qn L fa cd h₀ s₀ (Str.ofString "diff_main") nm_main ex).Ok where
  handled := hh
  kind := rfl
  loc := by
    have h : (nm_main.all fun x => (mkCx A qn L fa cd h₀ s₀ (Str.ofString "diff_main") nm_main ex).env.kindOf x == some .local) = true := rfl
    intro x hx
    exact beq_iff_eq.mp (List.all_eq_true.mp h x hx)
  nodup := (by decide : nm_main.Nodup)
  dbg := by
    have h : (nm_main.all fun x => (x == ("__debug__" : Str)) == false) = true := rfl
    intro x hx
    exact beq_iff_eq.mp (List.all_eq_true.mp h x hx)
theorem ok_compute {A : Around} {qn : Str} {L fa : Addr} {cd : Value} {h₀ : Heap} {s₀ : Shared} {ex : List (Addr × Obj)} (hh : A.handled = none) : (mkCx A qn L fa cd h₀ s₀ (Str.ofString "diff_compute") nm_compute ex).Ok where
  handled := hh
  kind := rfl
  loc := by
    have h : (nm_compute.all fun x => (mkCx A qn L fa cd h₀ s₀ (Str.ofString "diff_compute") nm_compute ex).env.kindOf x == some .local) = true := rfl
    intro x hx
    exact beq_iff_eq.mp (List.all_eq_true.mp h x hx)
  nodup := (by decide : nm_compute.Nodup)
  dbg := by
    have h : (nm_compute.all fun x => (x == ("__debug__" : Str)) == false) = true := rfl
    intro x hx
    exact beq_iff_eq.mp (List.all_eq_true.mp h x hx)
theorem ok_bisect {A : Around} {qn : Str} {L fa : Addr} {cd : Value} {h₀ : Heap} {s₀ : Shared} {ex : List (Addr × Obj)} (hh : A.handled = none) : (mkCx A qn L fa cd h₀ s₀ (Str.ofString "diff_bisect") nm_bisect ex).Ok where
  handled := hh
  kind := rfl
  loc := by
    have h : (nm_bisect.all fun x => (mkCx A qn L fa cd h₀ s₀ (Str.ofString "diff_bisect") nm_bisect ex).env.kindOf x == some .local) = true := rfl
    intro x hx
    exact beq_iff_eq.mp (List.all_eq_true.mp h x hx)
  nodup := (by decide : nm_bisect.Nodup)
  dbg := by
    have h : (nm_bisect.all fun x => (x == ("__debug__" : Str)) == false) = true := rfl
    intro x hx
    exact beq_iff_eq.mp (List.all_eq_true.mp h x hx)
theorem ok_bisectSplit {A : Around} {qn : Str} {L fa : Addr} {cd : Value} {h₀ : Heap} {s₀ : Shared} {ex : List (Addr × Obj)} (hh : A.handled = none) : (mkCx A qn L fa cd h₀ s₀ (Str.ofString "diff_bisectSplit") nm_bisectSplit ex).Ok where
  handled := hh
  kind := rfl
  loc := by
    have h : (nm_bisectSplit.all fun x => (mkCx A qn L fa cd h₀ s₀ (Str.ofString "diff_bisectSplit") nm_bisectSplit ex).env.kindOf x == some .local) = true := rfl
    intro x hx
    exact beq_iff_eq.mp (List.all_eq_true.mp h x hx)
  nodup := (by decide : nm_bisectSplit.Nodup)
  dbg := by
    have h : (nm_bisectSplit.all fun x => (x == ("__debug__" : Str)) == false) = true := rfl
    intro x hx
    exact beq_iff_eq.mp (List.all_eq_true.mp h x hx)
theorem ok_commonPrefix {A : Around} {qn : Str} {L fa : Addr} {cd : Value} {h₀ : Heap} {s₀ : Shared} {ex : List (Addr × Obj)} (hh : A.handled = none) : (mkCx A qn L fa cd h₀ s₀ (Str.ofString "diff_commonPrefix") nm_commonPrefix ex).Ok where
  handled := hh
  kind := rfl
  loc := by
    have h : (nm_commonPrefix.all fun x => (mkCx A qn L fa cd h₀ s₀ (Str.ofString "diff_commonPrefix") nm_commonPrefix ex).env.kindOf x == some .local) = true := rfl
    intro x hx
    exact beq_iff_eq.mp (List.all_eq_true.mp h x hx)
  nodup := (by decide : nm_commonPrefix.Nodup)
  dbg := by
    have h : (nm_commonPrefix.all fun x => (x == ("__debug__" : Str)) == false) = true := rfl
    intro x hx
    exact beq_iff_eq.mp (List.all_eq_true.mp h x hx)
theorem ok_commonSuffix {A : Around} {qn : Str} {L fa : Addr} {cd : Value} {h₀ : Heap} {s₀ : Shared} {ex : List (Addr × Obj)} (hh : A.handled = none) : (mkCx A qn L fa cd h₀ s₀ (Str.ofString "diff_commonSuffix") nm_commonSuffix ex).Ok where
  handled := hh
  kind := rfl
  loc := by
    have h : (nm_commonSuffix.all fun x => (mkCx A qn L fa cd h₀ s₀ (Str.ofString "diff_commonSuffix") nm_commonSuffix ex).env.kindOf x == some .local) = true := rfl
    intro x hx
    exact beq_iff_eq.mp (List.all_eq_true.mp h x hx)
  nodup := (by decide : nm_commonSuffix.Nodup)
  dbg := by
    have h : (nm_commonSuffix.all fun x => (x == ("__debug__" : Str)) == false) = true := rfl
    intro x hx
    exact beq_iff_eq.mp (List.all_eq_true.mp h x hx)
theorem ok_cleanupMerge {A : Around} {qn : Str} {L fa : Addr} {cd : Value} {h₀ : Heap} {s₀ : Shared} {ex : List (Addr × Obj)} (hh : A.handled = none) : (mkCx A qn L fa cd h₀ s₀ (Str.ofString "diff_cleanupMerge") nm_cleanupMerge ex).Ok where
  handled := hh
  kind := rfl
  loc := by
    have h : (nm_cleanupMerge.all fun x => (mkCx A qn L fa cd h₀ s₀ (Str.ofString "diff_cleanupMerge") nm_cleanupMerge ex).env.kindOf x == some .local) = true := rfl
    intro x hx
    exact beq_iff_eq.mp (List.all_eq_true.mp h x hx)
  nodup := (by decide : nm_cleanupMerge.Nodup)
  dbg := by
    have h : (nm_cleanupMerge.all fun x => (x == ("__debug__" : Str)) == false) = true := rfl
    intro x hx
    exact beq_iff_eq.mp (List.all_eq_true.mp h x hx)
theorem ok_text1 {A : Around} {qn : Str} {L fa : Addr} {cd : Value} {h₀ : Heap} {s₀ : Shared} {ex : List (Addr × Obj)} (hh : A.handled = none) : (mkCx A qn L fa cd h₀ s₀ (Str.ofString "diff_text1") nm_text1 ex).Ok where
  handled := hh
  kind := rfl
  loc := by
    have h : (nm_text1.all fun x => (mkCx A qn L fa cd h₀ s₀ (Str.ofString "diff_text1") nm_text1 ex).env.kindOf x == some .local) = true := rfl
    intro x hx
    exact beq_iff_eq.mp (List.all_eq_true.mp h x hx)
  nodup := (by decide : nm_text1.Nodup)
  dbg := by
    have h : (nm_text1.all fun x => (x == ("__debug__" : Str)) == false) = true := rfl
    intro x hx
    exact beq_iff_eq.mp (List.all_eq_true.mp h x hx)
theorem ok_text2 {A : Around} {qn : Str} {L fa : Addr} {cd : Value} {h₀ : Heap} {s₀ : Shared} {ex : List (Addr × Obj)} (hh : A.handled = none) : (mkCx A qn L fa cd h₀ s₀ (Str.ofString "diff_text2") nm_text2 ex).Ok where
  handled := hh
  kind := rfl
  loc := by
    have h : (nm_text2.all fun x => (mkCx A qn L fa cd h₀ s₀ (Str.ofString "diff_text2") nm_text2 ex).env.kindOf x == some .local) = true := rfl
    intro x hx
    exact beq_iff_eq.mp (List.all_eq_true.mp h x hx)
  nodup := (by decide : nm_text2.Nodup)
  dbg := by
    have h : (nm_text2.all fun x => (x == ("__debug__" : Str)) == false) = true := rfl
    intro x hx
    exact beq_iff_eq.mp (List.all_eq_true.mp h x hx)
noncomputable def CText1 (Φ : Calls) : Prop := ∀ l ds H P, H l = some (encs ds) → ds.length ≤ 2 ^ 12 → (src ds).length ≤ 2 ^ 12 → P (.str (src ds)) H → Φ 8 [.ref l] H P
noncomputable def CText2 (Φ : Calls) : Prop := ∀ l ds H P, H l = some (encs ds) → ds.length ≤ 2 ^ 12 → (dst ds).length ≤ 2 ^ 12 → P (.str (dst ds)) H → Φ 9 [.ref l] H P
noncomputable def CMain3 (Φ : Calls) (n : Nat) : Prop := ∀ x y H P, x.length + y.length < n → (∀ l ds, H l = none → Good x y ds → NoAdj ds → P (.ref l) (updH H l (encs ds))) → Φ 0 [.str x, .str y, .bool false] H P
section
variable {prog : Program} {w : World} {P : Params} {mg mb : Str → Option Value} {tool dx : Addr} {es : List DictEntry} {nd : Nat} {cx : Cx}
theorem link_pre (Y : Wd (KK P) mg mb tool dx 137 es nd cx) (E : Es es) (hh : cx.A.handled = none) (hroom : cx.A.depth < recursionLimit) : CPre (PhiOf prog w cx tool) := by
  intro x y H Q hx hy hQ
  have hh2 : ∀ env, (cx.A.deeper env).handled = none := fun _ => hh
  refine ⟨71, rfl, fun σ s cs a hH r => ?_⟩
  obtain ⟨c1, c2, rfl, r1, r2⟩ := reps2 r
  · skip
    have hid' : ∀ b ∈ ([] : List Addr), (σ.H b).isSome = true := fun b hb => by cases hb
    obtain ⟨-, Y'⟩ := Y.callee (qual := (Str.ofString "diff_match_patch.diff_commonPrefix")) (scope := scopeOf (Str.ofString "diff_commonPrefix")) (f := 71) (cd := .ref 70) (hid := []) (names := nm_commonPrefix) a hid'
    have hs := (show Holds1 s.heap (fun x_ => ([(Str.ofString "self", .ref tool), (Str.ofString "text1", c1), (Str.ofString "text2", c2)] : List (Str × Value)).reverse.lookup x_) nm_commonPrefix [some (.ref tool), some (.str x), some (.str y), none, none, none, none] from (And.intro ⟨_, rfl, rfl⟩ (And.intro ⟨_, rfl, r1⟩ (And.intro ⟨_, rfl, r2⟩ trivial)))).get
    refine wpAny_mono (enter Y a (name := Str.ofString "diff_commonPrefix") (qual := (Str.ofString "diff_match_patch.diff_commonPrefix")) (body := bodyOf (Str.ofString "diff_commonPrefix")) (scope := scopeOf (Str.ofString "diff_commonPrefix")) (f := 71) (hid := []) (names := nm_commonPrefix)
      (binds := [(Str.ofString "self", .ref tool), (Str.ofString "text1", c1), (Str.ofString "text2", c2)])
      (σ' := ⟨[some (.ref tool), some (.str x), some (.str y), none, none, none, none], noH⟩) (P := fun g _ => g = .ret (.int (lcp x y)))
      rfl rfl hroom (BindsTo.of_eq rfl) (List.forall_mem_cons.mpr ⟨rfl, List.forall_mem_cons.mpr ⟨rfl, List.forall_mem_cons.mpr ⟨rfl, List.forall_mem_nil _⟩⟩⟩) (by decide) rfl rfl rfl hid' hs (fun b vs e => by cases e) fun s₁ a₁ => ss_commonPrefix (ok_commonPrefix (hh2 _)) (Y'.globs (ok_commonPrefix (hh2 _))) (Y'.lk E) _ _ _ a₁ (v_commonPrefix _ x y hx hy)) ?_ noE
    rintro c s' h
    refine h.sub fun v σ₂ a₂ h2 => ?_
    obtain ⟨e1, g, σ'', rfl, rfl, e2, -⟩ := h2
    refine ⟨σ.H, fun b vs e => by rw [e2]; simp [mergeH, e], e1, ?_⟩
    rw [hH]; exact hQ
theorem link_suf (Y : Wd (KK P) mg mb tool dx 137 es nd cx) (E : Es es) (hh : cx.A.handled = none) (hroom : cx.A.depth < recursionLimit) : CSuf (PhiOf prog w cx tool) := by
  intro x y H Q hx hy hQ
  have hh2 : ∀ env, (cx.A.deeper env).handled = none := fun _ => hh
  refine ⟨78, rfl, fun σ s cs a hH r => ?_⟩
  obtain ⟨c1, c2, rfl, r1, r2⟩ := reps2 r
  · skip
    have hid' : ∀ b ∈ ([] : List Addr), (σ.H b).isSome = true := fun b hb => by cases hb
    obtain ⟨-, Y'⟩ := Y.callee (qual := (Str.ofString "diff_match_patch.diff_commonSuffix")) (scope := scopeOf (Str.ofString "diff_commonSuffix")) (f := 78) (cd := .ref 77) (hid := []) (names := nm_commonSuffix) a hid'
    have hs := (show Holds1 s.heap (fun x_ => ([(Str.ofString "self", .ref tool), (Str.ofString "text1", c1), (Str.ofString "text2", c2)] : List (Str × Value)).reverse.lookup x_) nm_commonSuffix [some (.ref tool), some (.str x), some (.str y), none, none, none, none] from (And.intro ⟨_, rfl, rfl⟩ (And.intro ⟨_, rfl, r1⟩ (And.intro ⟨_, rfl, r2⟩ trivial)))).get
    refine wpAny_mono (enter Y a (name := Str.ofString "diff_commonSuffix") (qual := (Str.ofString "diff_match_patch.diff_commonSuffix")) (body := bodyOf (Str.ofString "diff_commonSuffix")) (scope := scopeOf (Str.ofString "diff_commonSuffix")) (f := 78) (hid := []) (names := nm_commonSuffix)
      (binds := [(Str.ofString "self", .ref tool), (Str.ofString "text1", c1), (Str.ofString "text2", c2)])
      (σ' := ⟨[some (.ref tool), some (.str x), some (.str y), none, none, none, none], noH⟩) (P := fun g _ => g = .ret (.int (lcp x.reverse y.reverse)))
      rfl rfl hroom (BindsTo.of_eq rfl) (List.forall_mem_cons.mpr ⟨rfl, List.forall_mem_cons.mpr ⟨rfl, List.forall_mem_cons.mpr ⟨rfl, List.forall_mem_nil _⟩⟩⟩) (by decide) rfl rfl rfl hid' hs (fun b vs e => by cases e) fun s₁ a₁ => ss_commonSuffix (ok_commonSuffix (hh2 _)) (Y'.globs (ok_commonSuffix (hh2 _))) (Y'.lk E) _ _ _ a₁ (v_commonSuffix _ x y hx hy)) ?_ noE
    rintro c s' h
    refine h.sub fun v σ₂ a₂ h2 => ?_
    obtain ⟨e1, g, σ'', rfl, rfl, e2, -⟩ := h2
    refine ⟨σ.H, fun b vs e => by rw [e2]; simp [mergeH, e], e1, ?_⟩
    rw [hH]; exact hQ
theorem link_split {n : Nat} (hb : n ≤ 2 ^ 10) (Y : Wd (KK P) mg mb tool dx 137 es nd cx) (E : Es es) (hh : cx.A.handled = none) (hroom : cx.A.depth < recursionLimit) (hmain : ∀ cx' : Cx, Wd (KK P) mg mb tool dx 137 es nd cx' → cx'.A.handled = none → cx'.A.depth = cx.A.depth + 1 → CMain (PhiOf prog w cx' tool) n) : CSplit (PhiOf prog w cx tool) n := by
  intro x y i j dl H Q hn hc hQ
  have hh2 : ∀ env, (cx.A.deeper env).handled = none := fun _ => hh
  refine ⟨64, rfl, fun σ s cs a hH r => ?_⟩
  obtain ⟨c1, c2, c3, c4, c5, rfl, r1, r2, r3, r4, r5⟩ := reps5 r
  · skip
    have hid' : ∀ b ∈ ([] : List Addr), (σ.H b).isSome = true := fun b hb => by cases hb
    obtain ⟨-, Y'⟩ := Y.callee (qual := (Str.ofString "diff_match_patch.diff_bisectSplit")) (scope := scopeOf (Str.ofString "diff_bisectSplit")) (f := 64) (cd := .ref 63) (hid := []) (names := nm_bisectSplit) a hid'
    have hs := (show Holds1 s.heap (fun x_ => ([(Str.ofString "self", .ref tool), (Str.ofString "text1", c1), (Str.ofString "text2", c2), (Str.ofString "x", c3), (Str.ofString "y", c4), (Str.ofString "deadline", c5)] : List (Str × Value)).reverse.lookup x_) nm_bisectSplit [some (.ref tool), some (.str x), some (.str y), some (.int i), some (.int j), some (dl), none, none, none, none, none, none] from (And.intro ⟨_, rfl, rfl⟩ (And.intro ⟨_, rfl, r1⟩ (And.intro ⟨_, rfl, r2⟩ (And.intro ⟨_, rfl, r3⟩ (And.intro ⟨_, rfl, r4⟩ (And.intro ⟨_, rfl, r5⟩ trivial))))))).get
    refine wpAny_mono (enter Y a (name := Str.ofString "diff_bisectSplit") (qual := (Str.ofString "diff_match_patch.diff_bisectSplit")) (body := bodyOf (Str.ofString "diff_bisectSplit")) (scope := scopeOf (Str.ofString "diff_bisectSplit")) (f := 64) (hid := []) (names := nm_bisectSplit)
      (binds := [(Str.ofString "self", .ref tool), (Str.ofString "text1", c1), (Str.ofString "text2", c2), (Str.ofString "x", c3), (Str.ofString "y", c4), (Str.ofString "deadline", c5)])
      (σ' := ⟨[some (.ref tool), some (.str x), some (.str y), some (.int i), some (.int j), some (dl), none, none, none, none, none, none], noH⟩) (P := PostB x y)
      rfl rfl hroom (BindsTo.of_eq rfl) (List.forall_mem_cons.mpr ⟨rfl, List.forall_mem_cons.mpr ⟨rfl, List.forall_mem_cons.mpr ⟨rfl, List.forall_mem_cons.mpr ⟨rfl, List.forall_mem_cons.mpr ⟨rfl, List.forall_mem_cons.mpr ⟨rfl, List.forall_mem_nil _⟩⟩⟩⟩⟩⟩) (by decide) rfl rfl rfl hid' hs (fun b vs e => by cases e) fun s₁ a₁ => ss_bisectSplit (ok_bisectSplit (hh2 _)) (Y'.globs (ok_bisectSplit (hh2 _))) (Y'.lk E) _ _ _ a₁ (v_bisectSplit _ x y i j dl n hn hb hc (fun x y dl H P h => hmain _ Y' (hh2 _) rfl x y dl H P (by omega)))) ?_ noE
    rintro c s' h
    refine h.sub fun v σ₂ a₂ h2 => ?_
    obtain ⟨e1, g, σ'', hp, rfl, e2, e3⟩ := h2
    obtain ⟨l, ds, rfl, hl, hg⟩ := hp
    have hn : σ.H l = none := e3 l _ hl (by simp)
    refine ⟨updH σ.H l (encs ds), fun b vs e => ?_, e1, ?_⟩
    · rw [e2]
      by_cases hb : b = l
      · subst hb; rw [updH_self] at e; cases e; simp [mergeH, hn, hl]
      · rw [updH_ne _ _ hb] at e; simp [mergeH, e]
    · subst hH; exact hQ l ds hn hg
theorem link_bisect {n : Nat} (hb : n ≤ 2 ^ 10) (Y : Wd (KK P) mg mb tool dx 137 es nd cx) (E : Es es) (hh : cx.A.handled = none) (hroom : cx.A.depth < recursionLimit) (hsplit : ∀ cx' : Cx, Wd (KK P) mg mb tool dx 137 es nd cx' → cx'.A.handled = none → cx'.A.depth = cx.A.depth + 1 → CSplit (PhiOf prog w cx' tool) n) : CBisect (PhiOf prog w cx tool) n := by
  intro x y dl H Q hn h1 h2 h3 hQ
  have hh2 : ∀ env, (cx.A.deeper env).handled = none := fun _ => hh
  refine ⟨57, rfl, fun σ s cs a hH r => ?_⟩
  obtain ⟨c1, c2, c3, rfl, r1, r2, r3⟩ := reps3 r
  · skip
    have hid' : ∀ b ∈ ([] : List Addr), (σ.H b).isSome = true := fun b hb => by cases hb
    obtain ⟨-, Y'⟩ := Y.callee (qual := (Str.ofString "diff_match_patch.diff_bisect")) (scope := scopeOf (Str.ofString "diff_bisect")) (f := 57) (cd := .ref 56) (hid := []) (names := nm_bisect) a hid'
    have hs := (show Holds1 s.heap (fun x_ => ([(Str.ofString "self", .ref tool), (Str.ofString "text1", c1), (Str.ofString "text2", c2), (Str.ofString "deadline", c3)] : List (Str × Value)).reverse.lookup x_) nm_bisect [some (.ref tool), some (.str x), some (.str y), some (dl), none, none, none, none, none, none, none, none, none, none, none, none, none, none, none, none, none, none, none, none, none, none] from (And.intro ⟨_, rfl, rfl⟩ (And.intro ⟨_, rfl, r1⟩ (And.intro ⟨_, rfl, r2⟩ (And.intro ⟨_, rfl, r3⟩ trivial))))).get
    refine wpAny_mono (enter Y a (name := Str.ofString "diff_bisect") (qual := (Str.ofString "diff_match_patch.diff_bisect")) (body := bodyOf (Str.ofString "diff_bisect")) (scope := scopeOf (Str.ofString "diff_bisect")) (f := 57) (hid := []) (names := nm_bisect)
      (binds := [(Str.ofString "self", .ref tool), (Str.ofString "text1", c1), (Str.ofString "text2", c2), (Str.ofString "deadline", c3)])
      (σ' := ⟨[some (.ref tool), some (.str x), some (.str y), some (dl), none, none, none, none, none, none, none, none, none, none, none, none, none, none, none, none, none, none, none, none, none, none], noH⟩) (P := PostB x y)
      rfl rfl hroom (BindsTo.of_eq rfl) (List.forall_mem_cons.mpr ⟨rfl, List.forall_mem_cons.mpr ⟨rfl, List.forall_mem_cons.mpr ⟨rfl, List.forall_mem_cons.mpr ⟨rfl, List.forall_mem_nil _⟩⟩⟩⟩) (by decide) rfl rfl rfl hid' hs (fun b vs e => by cases e) fun s₁ a₁ => ss_bisect (ok_bisect (hh2 _)) (Y'.globs (ok_bisect (hh2 _))) (Y'.lk E) _ _ _ a₁ (v_bisect _ tool x y dl n hn hb h1 h2 h3 (hsplit _ Y' (hh2 _) rfl))) ?_ noE
    rintro c s' h
    refine h.sub fun v σ₂ a₂ h2 => ?_
    obtain ⟨e1, g, σ'', hp, rfl, e2, e3⟩ := h2
    obtain ⟨l, ds, rfl, hl, hg⟩ := hp
    have hn : σ.H l = none := e3 l _ hl (by simp)
    refine ⟨updH σ.H l (encs ds), fun b vs e => ?_, e1, ?_⟩
    · rw [e2]
      by_cases hb : b = l
      · subst hb; rw [updH_self] at e; cases e; simp [mergeH, hn, hl]
      · rw [updH_ne _ _ hb] at e; simp [mergeH, e]
    · subst hH; exact hQ l ds hn hg
theorem link_compute {n : Nat} (hb : n ≤ 2 ^ 10) (Y : Wd (KK P) mg mb tool dx 137 es nd cx) (E : Es es) (hh : cx.A.handled = none) (hroom : cx.A.depth < recursionLimit) (hhalf : ∀ cx' : Cx, Wd (KK P) mg mb tool dx 137 es nd cx' → cx'.A.handled = none → cx'.A.depth = cx.A.depth + 1 → CHalf (PhiOf prog w cx' tool))
    (hbis : ∀ cx' : Cx, Wd (KK P) mg mb tool dx 137 es nd cx' → cx'.A.handled = none → cx'.A.depth = cx.A.depth + 1 → CBisect (PhiOf prog w cx' tool) n) : CCompute (PhiOf prog w cx tool) n := by
  intro x y dl H Q hn h1 h2 h3 hQ
  have hh2 : ∀ env, (cx.A.deeper env).handled = none := fun _ => hh
  refine ⟨50, rfl, fun σ s cs a hH r => ?_⟩
  obtain ⟨c1, c2, c3, c4, rfl, r1, r2, r3, r4⟩ := reps4 r
  · skip
    have hid' : ∀ b ∈ ([] : List Addr), (σ.H b).isSome = true := fun b hb => by cases hb
    obtain ⟨-, Y'⟩ := Y.callee (qual := (Str.ofString "diff_match_patch.diff_compute")) (scope := scopeOf (Str.ofString "diff_compute")) (f := 50) (cd := .ref 49) (hid := []) (names := nm_compute) a hid'
    have hs := (show Holds1 s.heap (fun x_ => ([(Str.ofString "self", .ref tool), (Str.ofString "text1", c1), (Str.ofString "text2", c2), (Str.ofString "checklines", c3), (Str.ofString "deadline", c4)] : List (Str × Value)).reverse.lookup x_) nm_compute [some (.ref tool), some (.str x), some (.str y), some (.bool false), some (dl), none, none, none, none, none, none, none, none, none, none, none, none] from (And.intro ⟨_, rfl, rfl⟩ (And.intro ⟨_, rfl, r1⟩ (And.intro ⟨_, rfl, r2⟩ (And.intro ⟨_, rfl, r3⟩ (And.intro ⟨_, rfl, r4⟩ trivial)))))).get
    refine wpAny_mono (enter Y a (name := Str.ofString "diff_compute") (qual := (Str.ofString "diff_match_patch.diff_compute")) (body := bodyOf (Str.ofString "diff_compute")) (scope := scopeOf (Str.ofString "diff_compute")) (f := 50) (hid := []) (names := nm_compute)
      (binds := [(Str.ofString "self", .ref tool), (Str.ofString "text1", c1), (Str.ofString "text2", c2), (Str.ofString "checklines", c3), (Str.ofString "deadline", c4)])
      (σ' := ⟨[some (.ref tool), some (.str x), some (.str y), some (.bool false), some (dl), none, none, none, none, none, none, none, none, none, none, none, none], noH⟩) (P := PostB x y)
      rfl rfl hroom (BindsTo.of_eq rfl) (List.forall_mem_cons.mpr ⟨rfl, List.forall_mem_cons.mpr ⟨rfl, List.forall_mem_cons.mpr ⟨rfl, List.forall_mem_cons.mpr ⟨rfl, List.forall_mem_cons.mpr ⟨rfl, List.forall_mem_nil _⟩⟩⟩⟩⟩) (by decide) rfl rfl rfl hid' hs (fun b vs e => by cases e) fun s₁ a₁ => ss_compute (ok_compute (hh2 _)) (Y'.globs (ok_compute (hh2 _))) (Y'.lk E) _ _ _ a₁ (v_compute _ tool x y dl n hn hb h1 h2 h3 (hhalf _ Y' (hh2 _) rfl) (hbis _ Y' (hh2 _) rfl))) ?_ noE
    rintro c s' h
    refine h.sub fun v σ₂ a₂ h2 => ?_
    obtain ⟨e1, g, σ'', hp, rfl, e2, e3⟩ := h2
    obtain ⟨l, ds, rfl, hl, hg⟩ := hp
    have hn : σ.H l = none := e3 l _ hl (by simp)
    refine ⟨updH σ.H l (encs ds), fun b vs e => ?_, e1, ?_⟩
    · rw [e2]
      by_cases hb : b = l
      · subst hb; rw [updH_self] at e; cases e; simp [mergeH, hn, hl]
      · rw [updH_ne _ _ hb] at e; simp [mergeH, e]
    · subst hH; exact hQ l ds hn hg
theorem link_main {n : Nat} (hb : n ≤ 2 ^ 10) (Y : Wd (KK P) mg mb tool dx 137 es nd cx) (E : Es es) (hh : cx.A.handled = none) (hroom : cx.A.depth < recursionLimit) (hpre : ∀ cx' : Cx, Wd (KK P) mg mb tool dx 137 es nd cx' → cx'.A.handled = none → cx'.A.depth = cx.A.depth + 1 → CPre (PhiOf prog w cx' tool) ∧ CSuf (PhiOf prog w cx' tool))
    (hcomp : ∀ cx' : Cx, Wd (KK P) mg mb tool dx 137 es nd cx' → cx'.A.handled = none → cx'.A.depth = cx.A.depth + 1 → CCompute (PhiOf prog w cx' tool) n)
    (hmerge : ∀ cx' : Cx, Wd (KK P) mg mb tool dx 137 es nd cx' → cx'.A.handled = none → cx'.A.depth = cx.A.depth + 1 → CMerge (PhiOf prog w cx' tool) (n + 3)) : CMain (PhiOf prog w cx tool) (n + 1) := by
  intro x y dl H Q hn0 hQ
  have hh2 : ∀ env, (cx.A.deeper env).handled = none := fun _ => hh
  refine ⟨43, rfl, fun σ s cs a hH r => ?_⟩
  obtain ⟨c1, c2, c3, c4, rfl, r1, r2, r3, r4⟩ := reps4 r
  · skip
    have hid' : ∀ b ∈ ([] : List Addr), (σ.H b).isSome = true := fun b hb => by cases hb
    obtain ⟨-, Y'⟩ := Y.callee (qual := (Str.ofString "diff_match_patch.diff_main")) (scope := scopeOf (Str.ofString "diff_main")) (f := 43) (cd := .ref 42) (hid := []) (names := nm_main) a hid'
    have hs := (show Holds1 s.heap (fun x_ => ([(Str.ofString "self", .ref tool), (Str.ofString "text1", c1), (Str.ofString "text2", c2), (Str.ofString "checklines", c3), (Str.ofString "deadline", c4)] : List (Str × Value)).reverse.lookup x_) nm_main [some (.ref tool), some (.str x), some (.str y), some (.bool false), some (dl), none, none, none, none] from (And.intro ⟨_, rfl, rfl⟩ (And.intro ⟨_, rfl, r1⟩ (And.intro ⟨_, rfl, r2⟩ (And.intro ⟨_, rfl, r3⟩ (And.intro ⟨_, rfl, r4⟩ trivial)))))).get
    refine wpAny_mono (enter Y a (name := Str.ofString "diff_main") (qual := (Str.ofString "diff_match_patch.diff_main")) (body := bodyOf (Str.ofString "diff_main")) (scope := scopeOf (Str.ofString "diff_main")) (f := 43) (hid := []) (names := nm_main)
      (binds := [(Str.ofString "self", .ref tool), (Str.ofString "text1", c1), (Str.ofString "text2", c2), (Str.ofString "checklines", c3), (Str.ofString "deadline", c4)])
      (σ' := ⟨[some (.ref tool), some (.str x), some (.str y), some (.bool false), some (dl), none, none, none, none], noH⟩) (P := PostC x y)
      rfl rfl hroom (BindsTo.of_defaults rfl (Y.kin.keeps (by obtain ⟨m, F, _⟩ := a.fr; exact F.keep) 36 _ rfl) rfl rfl rfl) (List.forall_mem_cons.mpr ⟨rfl, List.forall_mem_cons.mpr ⟨rfl, List.forall_mem_cons.mpr ⟨rfl, List.forall_mem_cons.mpr ⟨rfl, List.forall_mem_cons.mpr ⟨rfl, List.forall_mem_nil _⟩⟩⟩⟩⟩) (by decide) rfl rfl rfl hid' hs (fun b vs e => by cases e) fun s₁ a₁ => ss_main (ok_main (hh2 _)) (Y'.globs (ok_main (hh2 _))) (Y'.lk E) _ _ _ a₁ (v_main _ tool x y dl n (by omega) hb (hpre _ Y' (hh2 _) rfl).1 (hpre _ Y' (hh2 _) rfl).2 (hcomp _ Y' (hh2 _) rfl) (hmerge _ Y' (hh2 _) rfl))) ?_ noE
    rintro c s' h
    refine h.sub fun v σ₂ a₂ h2 => ?_
    obtain ⟨e1, g, σ'', hp, rfl, e2, e3⟩ := h2
    obtain ⟨l, ds, rfl, hl, hg, hna⟩ := hp
    have hn : σ.H l = none := e3 l _ hl (by simp)
    refine ⟨updH σ.H l (encs ds), fun b vs e => ?_, e1, ?_⟩
    · rw [e2]
      by_cases hb : b = l
      · subst hb; rw [updH_self] at e; cases e; simp [mergeH, hn, hl]
      · rw [updH_ne _ _ hb] at e; simp [mergeH, e]
    · subst hH; exact hQ l ds hn hg hna
theorem link_main3 {n : Nat} (hb : n ≤ 2 ^ 10) (Y : Wd (KK P) mg mb tool dx 137 es nd cx) (E : Es es) (hh : cx.A.handled = none) (hroom : cx.A.depth < recursionLimit) (hpre : ∀ cx' : Cx, Wd (KK P) mg mb tool dx 137 es nd cx' → cx'.A.handled = none → cx'.A.depth = cx.A.depth + 1 → CPre (PhiOf prog w cx' tool) ∧ CSuf (PhiOf prog w cx' tool))
    (hcomp : ∀ cx' : Cx, Wd (KK P) mg mb tool dx 137 es nd cx' → cx'.A.handled = none → cx'.A.depth = cx.A.depth + 1 → CCompute (PhiOf prog w cx' tool) n)
    (hmerge : ∀ cx' : Cx, Wd (KK P) mg mb tool dx 137 es nd cx' → cx'.A.handled = none → cx'.A.depth = cx.A.depth + 1 → CMerge (PhiOf prog w cx' tool) (n + 3)) : CMain3 (PhiOf prog w cx tool) (n + 1) := by
  intro x y H Q hn0 hQ
  have hh2 : ∀ env, (cx.A.deeper env).handled = none := fun _ => hh
  refine ⟨43, rfl, fun σ s cs a hH r => ?_⟩
  obtain ⟨c1, c2, c3, rfl, r1, r2, r3⟩ := reps3 r
  · skip
    have hid' : ∀ b ∈ ([] : List Addr), (σ.H b).isSome = true := fun b hb => by cases hb
    obtain ⟨-, Y'⟩ := Y.callee (qual := (Str.ofString "diff_match_patch.diff_main")) (scope := scopeOf (Str.ofString "diff_main")) (f := 43) (cd := .ref 42) (hid := []) (names := nm_main) a hid'
    have hs := (show Holds1 s.heap (fun x_ => ([(Str.ofString "self", .ref tool), (Str.ofString "text1", c1), (Str.ofString "text2", c2), (Str.ofString "checklines", c3), (Str.ofString "deadline", .none)] : List (Str × Value)).reverse.lookup x_) nm_main [some (.ref tool), some (.str x), some (.str y), some (.bool false), some (.none), none, none, none, none] from (And.intro ⟨_, rfl, rfl⟩ (And.intro ⟨_, rfl, r1⟩ (And.intro ⟨_, rfl, r2⟩ (And.intro ⟨_, rfl, r3⟩ (And.intro ⟨_, rfl, rfl⟩ trivial)))))).get
    refine wpAny_mono (enter Y a (name := Str.ofString "diff_main") (qual := (Str.ofString "diff_match_patch.diff_main")) (body := bodyOf (Str.ofString "diff_main")) (scope := scopeOf (Str.ofString "diff_main")) (f := 43) (hid := []) (names := nm_main)
      (binds := [(Str.ofString "self", .ref tool), (Str.ofString "text1", c1), (Str.ofString "text2", c2), (Str.ofString "checklines", c3), (Str.ofString "deadline", .none)])
      (σ' := ⟨[some (.ref tool), some (.str x), some (.str y), some (.bool false), some (.none), none, none, none, none], noH⟩) (P := PostC x y)
      rfl rfl hroom (BindsTo.of_defaults rfl (Y.kin.keeps (by obtain ⟨m, F, _⟩ := a.fr; exact F.keep) 36 _ rfl) rfl rfl rfl) (List.forall_mem_cons.mpr ⟨rfl, List.forall_mem_cons.mpr ⟨rfl, List.forall_mem_cons.mpr ⟨rfl, List.forall_mem_cons.mpr ⟨rfl, List.forall_mem_cons.mpr ⟨rfl, List.forall_mem_nil _⟩⟩⟩⟩⟩) (by decide) rfl rfl rfl hid' hs (fun b vs e => by cases e) fun s₁ a₁ => ss_main (ok_main (hh2 _)) (Y'.globs (ok_main (hh2 _))) (Y'.lk E) _ _ _ a₁ (v_main _ tool x y .none n (by omega) hb (hpre _ Y' (hh2 _) rfl).1 (hpre _ Y' (hh2 _) rfl).2 (hcomp _ Y' (hh2 _) rfl) (hmerge _ Y' (hh2 _) rfl))) ?_ noE
    rintro c s' h
    refine h.sub fun v σ₂ a₂ h2 => ?_
    obtain ⟨e1, g, σ'', hp, rfl, e2, e3⟩ := h2
    obtain ⟨l, ds, rfl, hl, hg, hna⟩ := hp
    have hn : σ.H l = none := e3 l _ hl (by simp)
    refine ⟨updH σ.H l (encs ds), fun b vs e => ?_, e1, ?_⟩
    · rw [e2]
      by_cases hb : b = l
      · subst hb; rw [updH_self] at e; cases e; simp [mergeH, hn, hl]
      · rw [updH_ne _ _ hb] at e; simp [mergeH, e]
    · subst hH; exact hQ l ds hn hg hna
theorem link_merge {n : Nat} (Y : Wd (KK P) mg mb tool dx 137 es nd cx) (E : Es es) (hh : cx.A.handled = none) (hroom : cx.A.depth < recursionLimit)
    (hpre : ∀ cx' : Cx, Wd (KK P) mg mb tool dx 137 es nd cx' → cx'.A.handled = none → cx'.A.depth = cx.A.depth + 1 → CPre (PhiOf prog w cx' tool) ∧ CSuf (PhiOf prog w cx' tool))
    (hrec : 1 ≤ n → ∀ cx' : Cx, Wd (KK P) mg mb tool dx 137 es nd cx' → cx'.A.handled = none → cx'.A.depth = cx.A.depth + 1 → CMerge (PhiOf prog w cx' tool) (n - 1)) : CMerge (PhiOf prog w cx tool) n := by
  intro l ds H Q hl0 hok hcost hn hsz hQ
  have hh2 : ∀ env, (cx.A.deeper env).handled = none := fun _ => hh
  refine ⟨106, rfl, fun σ s cs a hH r => ?_⟩
  subst hH
  obtain ⟨c1, rfl, r1⟩ := reps1 r
  · skip
    have hid' : ∀ b ∈ [l], (σ.H b).isSome = true := fun b hb => by rw [List.mem_singleton] at hb; subst hb; rw [hl0]; rfl
    have hst : ∀ b vs, oneH l (encs ds) b = some vs → b ∈ [l] ∧ σ.H b = some vs := fun b vs e => by
      unfold oneH at e
      split at e
      · rename_i hb; subst hb; exact ⟨.head _, by rw [hl0]; exact e⟩
      · cases e
    obtain ⟨-, Y'⟩ := Y.callee (qual := (Str.ofString "diff_match_patch.diff_cleanupMerge")) (scope := scopeOf (Str.ofString "diff_cleanupMerge")) (f := 106) (cd := .ref 105) (hid := [l]) (names := nm_cleanupMerge) a hid'
    have hs := (show Holds1 s.heap (fun x_ => ([(Str.ofString "self", .ref tool), (Str.ofString "diffs", c1)] : List (Str × Value)).reverse.lookup x_) nm_cleanupMerge [some (.ref tool), some (.ref l), none, none, none, none, none, none, none, none, none] from (And.intro ⟨_, rfl, rfl⟩ (And.intro ⟨_, rfl, r1⟩ trivial))).get
    refine wpAny_mono (enter Y a (name := Str.ofString "diff_cleanupMerge") (qual := (Str.ofString "diff_match_patch.diff_cleanupMerge")) (body := bodyOf (Str.ofString "diff_cleanupMerge")) (scope := scopeOf (Str.ofString "diff_cleanupMerge")) (f := 106) (hid := [l]) (names := nm_cleanupMerge)
      (binds := [(Str.ofString "self", .ref tool), (Str.ofString "diffs", c1)])
      (σ' := ⟨[some (.ref tool), some (.ref l), none, none, none, none, none, none, none, none, none], oneH l (encs ds)⟩) (P := PostM l ds)
      rfl rfl hroom (BindsTo.of_eq rfl) (List.forall_mem_cons.mpr ⟨rfl, List.forall_mem_cons.mpr ⟨rfl, List.forall_mem_nil _⟩⟩) (by decide) rfl rfl rfl hid' hs hst fun s₁ a₁ => ss_cleanupMerge (ok_cleanupMerge (hh2 _)) (Y'.globs (ok_cleanupMerge (hh2 _))) (Y'.lk E) _ _ _ a₁ (v_merge _ tool l ds n hok hcost hsz hn (hpre _ Y' (hh2 _) rfl).1 (hpre _ Y' (hh2 _) rfl).2 fun hn1 => hrec hn1 _ Y' (hh2 _) rfl)) ?_ noE
    rintro c s' h
    refine h.sub fun v σ₂ a₂ h2 => ?_
    obtain ⟨e1, g, σ'', hp, rfl, e2, e3⟩ := h2
    obtain ⟨rfl, ds', hl, m1, m2, m3, m4, m5⟩ := hp
    refine ⟨updH σ.H l (encs ds'), fun b vs e => ?_, e1, ?_⟩
    · rw [e2]
      by_cases hb : b = l
      · subst hb; rw [updH_self] at e; cases e; simp [mergeH, hl]
      · rw [updH_ne _ _ hb] at e; simp [mergeH, hb, e]
    · exact hQ ds' m1 m2 m3 m4 m5
theorem link_text1 (Y : Wd (KK P) mg mb tool dx 137 es nd cx) (E : Es es) (hh : cx.A.handled = none) (hroom : cx.A.depth < recursionLimit) : CText1 (PhiOf prog w cx tool) := by
  intro l ds H Q hl0 hn hsz hQ
  have hh2 : ∀ env, (cx.A.deeper env).handled = none := fun _ => hh
  refine ⟨120, rfl, fun σ s cs a hH r => ?_⟩
  subst hH
  obtain ⟨c1, rfl, r1⟩ := reps1 r
  · skip
    have hid' : ∀ b ∈ [l], (σ.H b).isSome = true := fun b hb => by rw [List.mem_singleton] at hb; subst hb; rw [hl0]; rfl
    have hst : ∀ b vs, oneH l (encs ds) b = some vs → b ∈ [l] ∧ σ.H b = some vs := fun b vs e => by
      unfold oneH at e
      split at e
      · rename_i hb; subst hb; exact ⟨.head _, by rw [hl0]; exact e⟩
      · cases e
    obtain ⟨-, Y'⟩ := Y.callee (qual := (Str.ofString "diff_match_patch.diff_text1")) (scope := scopeOf (Str.ofString "diff_text1")) (f := 120) (cd := .ref 119) (hid := [l]) (names := nm_text1) a hid'
    have hs := (show Holds1 s.heap (fun x_ => ([(Str.ofString "self", .ref tool), (Str.ofString "diffs", c1)] : List (Str × Value)).reverse.lookup x_) nm_text1 [some (.ref tool), some (.ref l), none, none, none] from (And.intro ⟨_, rfl, rfl⟩ (And.intro ⟨_, rfl, r1⟩ trivial))).get
    refine wpAny_mono (enter Y a (name := Str.ofString "diff_text1") (qual := (Str.ofString "diff_match_patch.diff_text1")) (body := bodyOf (Str.ofString "diff_text1")) (scope := scopeOf (Str.ofString "diff_text1")) (f := 120) (hid := [l]) (names := nm_text1)
      (binds := [(Str.ofString "self", .ref tool), (Str.ofString "diffs", c1)])
      (σ' := ⟨[some (.ref tool), some (.ref l), none, none, none], oneH l (encs ds)⟩) (P := fun g σ => g = .ret (.str (src ds)) ∧ σ.H l = some (encs ds))
      rfl rfl hroom (BindsTo.of_eq rfl) (List.forall_mem_cons.mpr ⟨rfl, List.forall_mem_cons.mpr ⟨rfl, List.forall_mem_nil _⟩⟩) (by decide) rfl rfl rfl hid' hs hst fun s₁ a₁ => ss_text1 (ok_text1 (hh2 _)) (Y'.globs (ok_text1 (hh2 _))) (Y'.lk E) _ _ _ a₁ (v_text1 _ tool l ds hn hsz)) ?_ noE
    rintro c s' h
    refine h.sub fun v σ₂ a₂ h2 => ?_
    obtain ⟨e1, g, σ'', hp, rfl, e2, e3⟩ := h2
    obtain ⟨rfl, hl⟩ := hp
    refine ⟨σ.H, fun b vs e => ?_, e1, hQ⟩
    rw [e2]
    by_cases hb : b = l
    · subst hb; rw [hl0] at e; cases e; simp [mergeH, hl]
    · simp [mergeH, hb, e]
theorem link_text2 (Y : Wd (KK P) mg mb tool dx 137 es nd cx) (E : Es es) (hh : cx.A.handled = none) (hroom : cx.A.depth < recursionLimit) : CText2 (PhiOf prog w cx tool) := by
  intro l ds H Q hl0 hn hsz hQ
  have hh2 : ∀ env, (cx.A.deeper env).handled = none := fun _ => hh
  refine ⟨127, rfl, fun σ s cs a hH r => ?_⟩
  subst hH
  obtain ⟨c1, rfl, r1⟩ := reps1 r
  · skip
    have hid' : ∀ b ∈ [l], (σ.H b).isSome = true := fun b hb => by rw [List.mem_singleton] at hb; subst hb; rw [hl0]; rfl
    have hst : ∀ b vs, oneH l (encs ds) b = some vs → b ∈ [l] ∧ σ.H b = some vs := fun b vs e => by
      unfold oneH at e
      split at e
      · rename_i hb; subst hb; exact ⟨.head _, by rw [hl0]; exact e⟩
      · cases e
    obtain ⟨-, Y'⟩ := Y.callee (qual := (Str.ofString "diff_match_patch.diff_text2")) (scope := scopeOf (Str.ofString "diff_text2")) (f := 127) (cd := .ref 126) (hid := [l]) (names := nm_text2) a hid'
    have hs := (show Holds1 s.heap (fun x_ => ([(Str.ofString "self", .ref tool), (Str.ofString "diffs", c1)] : List (Str × Value)).reverse.lookup x_) nm_text2 [some (.ref tool), some (.ref l), none, none, none] from (And.intro ⟨_, rfl, rfl⟩ (And.intro ⟨_, rfl, r1⟩ trivial))).get
    refine wpAny_mono (enter Y a (name := Str.ofString "diff_text2") (qual := (Str.ofString "diff_match_patch.diff_text2")) (body := bodyOf (Str.ofString "diff_text2")) (scope := scopeOf (Str.ofString "diff_text2")) (f := 127) (hid := [l]) (names := nm_text2)
      (binds := [(Str.ofString "self", .ref tool), (Str.ofString "diffs", c1)])
      (σ' := ⟨[some (.ref tool), some (.ref l), none, none, none], oneH l (encs ds)⟩) (P := fun g σ => g = .ret (.str (dst ds)) ∧ σ.H l = some (encs ds))
      rfl rfl hroom (BindsTo.of_eq rfl) (List.forall_mem_cons.mpr ⟨rfl, List.forall_mem_cons.mpr ⟨rfl, List.forall_mem_nil _⟩⟩) (by decide) rfl rfl rfl hid' hs hst fun s₁ a₁ => ss_text2 (ok_text2 (hh2 _)) (Y'.globs (ok_text2 (hh2 _))) (Y'.lk E) _ _ _ a₁ (v_text2 _ tool l ds hn hsz)) ?_ noE
    rintro c s' h
    refine h.sub fun v σ₂ a₂ h2 => ?_
    obtain ⟨e1, g, σ'', hp, rfl, e2, e3⟩ := h2
    obtain ⟨rfl, hl⟩ := hp
    refine ⟨σ.H, fun b vs e => ?_, e1, hQ⟩
    rw [e2]
    by_cases hb : b = l
    · subst hb; rw [hl0] at e; cases e; simp [mergeH, hl]
    · simp [mergeH, hb, e]
end
end
section
open PySem PySem.W PyProof.Rows PySem.Calls PySem.Spec
set_option Elab.async false
set_option maxRecDepth 100000
set_option maxHeartbeats 4000000
set_option autoImplicit false
set_option linter.unusedVariables false
section
variable {prog : Program} {w : World} {P : Params} {mg mb : Str → Option Value} {tool dx : Addr} {es : List DictEntry} {nd : Nat} {cx : Cx}
theorem At.grow {σ : St} {s : Shared} (a : At cx σ s) {h' : Heap} (n : Nat) (hk : ∀ b o, s.heap.get? b = some o → h'.get? b = some o) : At cx σ { s with heap := h', toks := n } := by
  have tu : ∀ b i, s.heap.IsTuple b i → h'.IsTuple b i := fun b i t => let ⟨o, e, q⟩ := t; ⟨o, hk _ _ e, q⟩
  obtain ⟨m, F, rr⟩ := a.fr
  refine ⟨by have := a.sh; rw [this], ⟨m, F.keeps hk, fun i x v e1 e2 => ?_⟩, fun b vs e => ?_, fun p hp => ?_⟩
  · obtain ⟨c, h1, h2⟩ := rr i x v e1 e2
    exact ⟨c, h1, h2.mono tu⟩
  · obtain ⟨n1, n2, cs, p, r⟩ := a.hp b vs e
    exact ⟨n1, n2, cs, p.at fun o e => hk _ _ e, r.mono tu⟩
  · have hx := a.ex p hp
    exact ⟨hk _ _ hx.1, hx.2.1, hx.2.2⟩
theorem link_half (Y : Wd (KK P) mg mb tool dx 137 es nd cx) (E : Es es) (hh : cx.A.handled = none) (hroom : cx.A.depth < recursionLimit) : CHalf (PhiOf prog w cx tool) := by
  intro x y H Q hQ
  refine ⟨92, rfl, fun σ s cs a hH r => ?_⟩
  obtain ⟨c1, c2, rfl, r1, r2⟩ := reps2 r
  · obtain ⟨m, F, rr⟩ := a.fr
    refine wpAny_call (codeAny_call_cells (body := bodyOf (Str.ofString "diff_halfMatch")) (binds := [(Str.ofString "self", .ref tool), (Str.ofString "text1", c1), (Str.ofString "text2", c2)]) hroom ((Y.kin.keeps F.keep) 92 _ rfl) rfl (Y.nolim.keeps F.keep) (codeRec_of (Y.kin.keeps F.keep) rfl) rfl rfl rfl
      (List.forall_mem_cons.mpr ⟨.inr ⟨rfl, rfl⟩, List.forall_mem_cons.mpr ⟨.inl rfl, List.forall_mem_cons.mpr ⟨.inl rfl, List.forall_mem_nil _⟩⟩⟩) ?_ rfl rfl rfl)
    intro s₁ I
    obtain ⟨h₁, tk, rfl, hk⟩ := I.done
    have a₁ := a.grow tk hk
    obtain ⟨m₁, F₁, -⟩ := a₁.fr
    obtain ⟨t, ht⟩ := E.tim
    refine wpAny_execs_cons (wpAny_If (wpAny_isTrue_Compare1 (Attribute_Name_ (NameCC I rfl rfl rfl rfl ?_ rfl) (by with_unfolding_all rfl)) (by with_unfolding_all rfl)))
    refine get_own F₁ Y.kin (Y.inst a₁) rfl rfl (attr := none) rfl rfl ht rfl ?_
    refine wpAny_Constant_int (cmpOk (σ := σ) (u := .int 0) (v := .int 0) (op := .LtE) (b := true) ⟨_, rfl⟩ ⟨_, rfl⟩ rfl (wpAny_truthy_bool (wpAny_execs_cons (wpAny_Return_some (wpAny_Constant_none ?_)))))
    exact ⟨.none, σ, rfl, a.grow _ hk, fun b o e _ h2 => ⟨hk b o e, h2⟩, rfl, by rw [hH]; exact hQ⟩
theorem all_merge (E : Es es) : ∀ (n : Nat) (cx : Cx), Wd (KK P) mg mb tool dx 137 es nd cx → cx.A.handled = none → cx.A.depth + n + 2 ≤ recursionLimit → CMerge (PhiOf prog w cx tool) n
  | 0, cx, Y, hh, hd => link_merge Y E hh (by omega) (fun cx' Y' hh' hd' => ⟨link_pre Y' E hh' (by omega), link_suf Y' E hh' (by omega)⟩) fun h => absurd h (by omega)
  | n + 1, cx, Y, hh, hd => link_merge Y E hh (by omega) (fun cx' Y' hh' hd' => ⟨link_pre Y' E hh' (by omega), link_suf Y' E hh' (by omega)⟩) fun _ cx' Y' hh' hd' => all_merge E n cx' Y' hh' (by omega)
theorem all_main (E : Es es) : ∀ (n : Nat) (cx : Cx), n ≤ 2 ^ 10 → Wd (KK P) mg mb tool dx 137 es nd cx → cx.A.handled = none → cx.A.depth + 5 * n + 20 ≤ recursionLimit → CMain (PhiOf prog w cx tool) n
  | 0, cx, _, Y, hh, hd => fun x y dl H Q h => absurd h (by omega)
  | n + 1, cx, hn, Y, hh, hd => link_main (by omega) Y E hh (by omega) (fun cx' Y' hh' hd' => ⟨link_pre Y' E hh' (by omega), link_suf Y' E hh' (by omega)⟩)
      (fun cx' Y' hh' hd' => link_compute (by omega) Y' E hh' (by omega) (fun c Y'' h'' d'' => link_half Y'' E h'' (by omega))
        fun c Y'' h'' d'' => link_bisect (by omega) Y'' E h'' (by omega) fun c3 Y3 h3 d3 => link_split (by omega) Y3 E h3 (by omega) fun c4 Y4 h4 d4 => all_main E n c4 (by omega) Y4 h4 (by omega))
      fun cx' Y' hh' hd' => all_merge E (n + 3) cx' Y' hh' (by omega)
theorem all_main3 (E : Es es) (n : Nat) (cx : Cx) (hn : n + 1 ≤ 2 ^ 10) (Y : Wd (KK P) mg mb tool dx 137 es nd cx) (hh : cx.A.handled = none) (hd : cx.A.depth + 5 * (n + 1) + 20 ≤ recursionLimit) : CMain3 (PhiOf prog w cx tool) (n + 1) :=
  link_main3 (by omega) Y E hh (by omega) (fun cx' Y' hh' hd' => ⟨link_pre Y' E hh' (by omega), link_suf Y' E hh' (by omega)⟩)
      (fun cx' Y' hh' hd' => link_compute (by omega) Y' E hh' (by omega) (fun c Y'' h'' d'' => link_half Y'' E h'' (by omega))
        fun c Y'' h'' d'' => link_bisect (by omega) Y'' E h'' (by omega) fun c3 Y3 h3 d3 => link_split (by omega) Y3 E h3 (by omega) fun c4 Y4 h4 d4 => all_main E n c4 (by omega) Y4 h4 (by omega))
      fun cx' Y' hh' hd' => all_merge E (n + 3) cx' Y' hh' (by omega)
end
end
section
open PySem PySem.W PyProof.Rows PySem.Calls PySem.Spec
set_option Elab.async false
set_option maxRecDepth 100000
set_option autoImplicit false
set_option linter.unusedVariables false
/-- a part and the pair that bears it -/
noncomputable def PD (d : Df) (c : Value × Value) : Prop := (∃ t, c.1 = .int d.1 t) ∧ ∃ t, c.2 = .str (strOf d.2) t
/-- between two turns: i pairs are read, ys is made; all that stood at the start stands -/
structure PMid (s : Shared) (C I D l : Addr) (i : Nat) (ys : Array Value) (s' : Shared) : Prop where
  eq : ∃ h k, s' = { s with heap := h, toks := k }
  it : s'.heap.IsListIter I l i
  ac : s'.heap.IsList D ys
  ns : ∃ m, s'.heap.Ns C m
  kp : ∀ b o, s.heap.get? b = some o → s'.heap.get? b = some o
theorem ne_new {h : Heap} {a b : Addr} {o : Obj} (ha : h.get? a = none) (hb : h.get? b = some o) : b ≠ a := by
  intro e
  rw [e, ha] at hb
  exact nomatch hb
theorem no_obj {h : Heap} {b : Addr} (hb : h.objs.size ≤ b) : h.get? b = none := by
  cases e : h.get? b with
  | none => rfl
  | some o => exact absurd (Heap.lt_size e) (Nat.not_lt.mpr hb)
/-- three objects made one after the other -/
theorem three_new (h h₁ : Heap) {oI oD oC : Obj} (b₁ : Heap.SameBut ((h.push oI).push oD).objs.size (((h.push oI).push oD).push oC) h₁) (gI : oI.isFreed = false := by rfl) (gD : oD.isFreed = false := by rfl) :
    h.get? ((h.push oI).push oD).objs.size = none ∧ h.get? h.objs.size = none ∧ h.get? (h.push oI).objs.size = none ∧
    h₁.get? h.objs.size = some oI ∧ h₁.get? (h.push oI).objs.size = some oD ∧ (∀ b o, h.get? b = some o → h₁.get? b = some o) ∧
    ((h.push oI).push oD).objs.size ≠ h.objs.size ∧ ((h.push oI).push oD).objs.size ≠ (h.push oI).objs.size ∧ h.objs.size ≠ (h.push oI).objs.size := by
  have z1 : (h.push oI).objs.size = h.objs.size + 1 := Heap.size_push ..
  have z2 : ((h.push oI).push oD).objs.size = h.objs.size + 1 + 1 := (Heap.size_push ..).trans (congrArg _ z1)
  have up : ∀ {b : Addr} {o : Obj}, ((h.push oI).push oD).get? b = some o → h₁.get? b = some o := fun {b o} e =>
    b₁.extBut b o (Nat.ne_of_lt (Heap.lt_size e)) (Heap.get?_push_of_some _ e)
  exact ⟨no_obj (by rw [z2]; exact Nat.le_add_right _ 2), no_obj (Nat.le_refl _), no_obj (by rw [z1]; exact Nat.le_succ _),
    up (Heap.get?_push_of_some _ (Heap.get?_push_size _ gI)), up (Heap.get?_push_size _ gD), fun b o e => up (Heap.get?_push_of_some _ (Heap.get?_push_of_some _ e)),
    by rw [z2]; exact Nat.ne_of_gt (Nat.lt_add_of_pos_right (by decide : 0 < 2)), by rw [z2, z1]; exact Nat.succ_ne_self _, by rw [z1]; exact (Nat.succ_ne_self _).symm⟩
section
variable {prog : Program} {w : World} {A : Around} {R : Result → Shared → Prop} {s : Shared}
theorem start_loop {elt target iter : Expr} {ifs : List Expr} {scope : Scope} {pos : Pos} {I l : Addr} {acc : Value} {env : Env} (hit : s.heap.IsListIter I l 0)
    (h : codeAny (model prog w) A (.compLoop (.ListComp elt [⟨target, iter, ifs, 0⟩] scope pos) 0 (.ref I) acc env) R s) :
    codeAny (model prog w) A (.compStart (.ListComp elt [⟨target, iter, ifs, 0⟩] scope pos) 0 (.ref I) acc env) R s := codeAny_compStart_list h (wpAny_pyIter_listiter hit h)
/-- the turns: each pair of ds once; those of another kind than n give what elt gives -/
theorem pairs_loop {elt iter tst : Expr} {x y : Str} {px py tp : Pos} {kk : Nat} {scope : Scope} {pos : Pos} {C I D l : Addr} {cenv : Env} {cs : Array Value} {ds : List Df} (n : Int) (G : Df → Value → Prop)
    (hh : A.handled = none) (hC : cenv.locals = C) (hx : cenv.kindOf x = some .local) (hy : cenv.kindOf y = some .local) (hxy : x ≠ y)
    (hp : (cenv.scope.kind == .class || (cenv.scope.kind == .module && cenv.locals != cenv.globals)) = false)
    (fC : s.heap.get? C = none) (fI : s.heap.get? I = none) (fD : s.heap.get? D = none) (hCI : C ≠ I) (hCD : C ≠ D) (hID : I ≠ D)
    (hl : s.heap.IsList l cs) (hlen : ds.length = cs.size) (hz : cs.size ≤ sizeLine)
    (hT : ∀ (i : Nat) v, cs[i]? = some v → ∃ d c T, ds[i]? = some d ∧ v = .ref T ∧ s.heap.IsTuple T #[c.1, c.2] ∧ PD d c)
    (ht : ∀ d c s₂ m₂ E', PD d c → s₂.heap.Ns C m₂ → m₂ x = some c.1 → m₂ y = some c.2 → wpAny (model prog w) A (isTrue tst cenv (eval tst cenv)) (fun b s₃ => b = (d.1 != n) ∧ Keeps s₂ s₃) E' s₂)
    (he : ∀ d c s₂ m₂ E', d ∈ ds → PD d c → s₂.heap.Ns C m₂ → m₂ x = some c.1 → m₂ y = some c.2 → (∀ b o, s.heap.get? b = some o → s₂.heap.get? b = some o) →
      wpAny (model prog w) A (eval elt cenv) (fun z s₃ => G d z ∧ Keeps s₂ s₃) E' s₂)
    (done : ∀ ys h k m, h.IsList D ys → h.Ns C m → (∀ b o, s.heap.get? b = some o → h.get? b = some o) → Paired G (ds.filter (·.1 != n)) ys.toList → R (.ok .next) { s with heap := h, toks := k })
    {s₁ : Shared} (M₀ : PMid s C I D l 0 #[] s₁) :
    codeAny (model prog w) A (.compLoop (.ListComp elt [⟨.Tuple [.Name x px, .Name y py] kk tp, iter, [tst], 0⟩] scope pos) 0 (.ref I) (.ref D) cenv) R s₁ := by
  subst hC
  refine codeAny_loop rfl (fun k s' => ∃ i ys, i + k = cs.size + 1 ∧ PMid s cenv.locals I D l i ys s' ∧ Paired G ((ds.take i).filter (·.1 != n)) ys.toList) ?_ (cs.size + 1) ⟨0, #[], Nat.zero_add _, M₀, .nil⟩
  intro k s' hI
  obtain ⟨i, ys, hk, ⟨⟨h, tk, rfl⟩, it, ac, ⟨m, ns⟩, kp⟩, hG⟩ := hI
  have src : h.IsList l cs := hl.at (kp l)
  have inBase : ∀ {b o}, s.heap.get? b = some o → b ≠ cenv.locals ∧ b ≠ I := fun e => ⟨ne_new fC e, ne_new fI e⟩
  refine wpAny_noted (m := compTurn _ 0 _ _ cenv) ?_
  rw [compTurn_list]
  refine wpAny_bind (wpAny_standAt (wpAny_bind ?_))
  cases hv : cs[i]? with
  | none =>
    refine wpAny_pyNext_list_end hh it src hv fun h₁ b₁ => wpAny_pure (done ys h₁ tk m (ac.extBut b₁ hID.symm) (ns.extBut b₁ hCI) (fun b o e => b₁ b o (inBase e).2 (kp b o e)) ?_)
    rwa [List.take_of_length_le (by rw [hlen]; exact Array.getElem?_eq_none_iff.mp hv)] at hG
  | some v =>
    have hi : i < cs.size := (Array.getElem?_eq_some_iff.mp hv).1
    obtain ⟨k, rfl⟩ : ∃ j, k = j + 1 := ⟨k - 1, by omega⟩
    obtain ⟨d, c, T, hd, rfl, ⟨oT, eT, qT⟩, hPD⟩ := hT i v hv
    refine wpAny_pyNext_list_item it src hv fun h₁ it₁ b₁ => ?_
    refine wpAny_bind (wpAny_letOwnedTupleGo_listiter it₁ (wpAny_bind ?_))
    refine wpAny_assign_Tuple hh ⟨oT, b₁.extBut T oT (inBase eT).2 (kp T oT eT), qT⟩ rfl rfl fun h₂ b₂ => ?_
    refine wpAny_assignInOrder_more (PySem.wpAny_assign_Name (wpAny_storeName_local hx ((ns.sameBut b₁ hCI).keeps (extBut_all b₂)) (fun h₃ n₃ b₃ => ?_) hp))
    refine wpAny_assignInOrder_more (PySem.wpAny_assign_Name (wpAny_storeName_local hy n₃ (fun h₄ n₄ b₄ => wpAny_assignInOrder_none ?_) hp))
    have two : ∀ b o, b ≠ cenv.locals → h₂.get? b = some o → h₄.get? b = some o := fun b o q e => b₄.extBut b o q (b₃.extBut b o q e)
    have all : ∀ b o, b ≠ cenv.locals → b ≠ I → h.get? b = some o → h₄.get? b = some o := fun b o q r e => two b o q (extBut_all b₂ b o (b₁.extBut b o r e))
    have vx : (fun z => if z = y then some c.2 else if z = x then some c.1 else m z) x = some c.1 := (if_neg hxy).trans (if_pos rfl)
    refine wpAny_bind (wpAny_tests_one (wpAny_mono (ht d c _ _ _ hPD n₄ vx (if_pos rfl)) (fun b s₃ q => ?_) fun _ _ e => e))
    obtain ⟨hb, h₅, t₅, rfl, k₅⟩ := q
    have M : PMid s cenv.locals I D l (i + 1) ys { s with heap := h₅, toks := t₅ } :=
      ⟨⟨h₅, t₅, rfl⟩, it₁.at fun o e => k₅ I o (two I o hCI.symm (extBut_all b₂ I o e)), ac.at fun o e => k₅ D o (all D o hCD.symm hID.symm e), ⟨_, n₄.keeps k₅⟩,
        fun b o e => k₅ b o (all b o (inBase e).1 (inBase e).2 (kp b o e))⟩
    have hf := take_succ_filter (fun d : Df => d.1 != n) ds i d hd
    have hk' : i + 1 + k = cs.size + 1 := by rw [← hk, Nat.add_assoc, Nat.add_comm 1]
    cases b with
    | false => exact wpAny_pure ⟨rfl, k, Nat.lt_succ_self k, i + 1, ys, hk', M, by rw [hf, if_neg (by rw [← hb]; exact Bool.false_ne_true), List.append_nil]; exact hG⟩
    | true =>
      refine wpAny_bind (wpAny_bind (wpAny_mono (he d c _ _ _ (List.mem_of_getElem? hd) hPD (n₄.keeps k₅) vx (if_pos rfl) M.kp) (fun z s₄ q => wpAny_bind ?_) fun _ _ e => e))
      obtain ⟨hz', h₆, t₆, rfl, k₆⟩ := q
      refine wpAny_list_append (M.ac.at (k₆ D)) (fun h₇ l₇ b₇ => wpAny_pure (wpAny_pure ⟨rfl, k, Nat.lt_succ_self k, i + 1, ys.push z, hk', ?_, ?_⟩)) ?_
      · exact ⟨⟨h₇, t₆, rfl⟩, (M.it.at (k₆ I)).extBut b₇.extBut hID, l₇, ⟨_, ((n₄.keeps k₅).keeps k₆).sameBut b₇ hCD⟩, fun b o e => b₇.extBut b o (ne_new fD e) (k₆ b o (M.kp b o e))⟩
      · rw [hf, if_pos hb.symm, Array.toList_push]; exact hG.snoc hz'
      · rw [← Array.length_toList, ← hG.length]
        exact Nat.le_trans (List.length_filter_le _ _) (Nat.le_trans (List.length_take_le' i ds) (by rw [hlen]; exact hz))
end
end
section
open PySem PySem.W PyProof.Rows PySem.Calls PySem.Spec
set_option Elab.async false
set_option maxRecDepth 100000
set_option autoImplicit false
set_option linter.unusedVariables false
theorem pairs_at {h : Heap} : ∀ (ds : List Df) (cs : List Value), Reps h (encs ds) cs → ∀ (i : Nat) v, cs[i]? = some v → ∃ d c T, ds[i]? = some d ∧ v = .ref T ∧ h.IsTuple T #[c.1, c.2] ∧ PD d c
  | [], [], _, i, v, q => by simp at q
  | d :: _, _ :: _, ⟨⟨b, cx, cy, e, t, r1, r2⟩, _⟩, 0, v, q => by cases q; exact ⟨d, (cx, cy), b, rfl, e, t, r1, r2⟩
  | _ :: ds, _ :: cs, ⟨_, r⟩, i + 1, v, q => pairs_at ds cs r i v q
theorem PD.test {d : Df} {c : Value × Value} (h : PD d c) : ∃ t, c.1 = .int d.1 t := h.1
section
variable {prog : Program} {w : World} {cx : Cx} {sp : Sp}
theorem ldC {scope : Scope} {C : Addr} {env : Env} {x : Str} {pos : Pos} {v : Value} {m : Str → Option Value} {s : Shared} {Q : Value → Shared → Prop} {A : Around} {E : Value → Shared → Prop}
    (hn : s.heap.Ns C m) (hv : m x = some v) (h : Q v s) (hk : scope.kind = .function) (hl : scope.names.lookup x = some .local) (hd : (x == ("__debug__" : Str)) = false) :
    wpAny (model prog w) A (eval (.Name x pos) (compEnv scope C env)) Q E s := wpAny_Name (wpAny_loadName_local hk hl hn hv h) hd
theorem At.both {σ : St} {s : Shared} (a : At cx σ s) {h' : Heap} (n : Nat) (hk : ∀ b o, s.heap.get? b = some o → h'.get? b = some o) :
    At cx σ { s with heap := h', toks := n } ∧ Keep cx σ s σ { s with heap := h', toks := n } := ⟨a.grow n hk, fun b o e _ h2 => ⟨hk b o e, h2⟩⟩
theorem comp_pairs (ok : cx.Ok) {elt : Expr} {x y v : Str} {px py tp vpos tvpos : Pos} {kk i : Nat} {r : Expr} {tpos : Pos} {scope : Scope} {pos : Pos} (n : Int) (F : Value × Value → Value → Prop)
    (hv : cx.names[i]? = some v) (hfree : ∀ y ∈ scope.names, y.2 ≠ .free) (hcell : ∀ y ∈ scope.names, y.2 ≠ .cell) (hkind : scope.kind = .function)
    (hnames : ∀ y ∈ scope.names, y.2 = .local → scope.names.lookup y.1 = some .local) (hx : scope.names.lookup x = some .local) (hy : scope.names.lookup y = some .local) (hxy : x ≠ y)
    (hdx : (x == ("__debug__" : Str)) = false)
    (hr : ∀ env s (Q : Value → Shared → Prop) (E : Value → Shared → Prop), (∀ t k, Q (.int n t) { s with toks := k }) → wpAny (model prog w) cx.A (eval r env) Q E s)
    {σ : St} {s : Shared} {l : Addr} {ds : List Df} (a : At cx σ s) (hi : σ.loc[i]? = some (some (.ref l))) (hH : σ.H l = some (encs ds)) (hz : ds.length ≤ 2 ^ 12)
    (helt : ∀ C d c s₂ m₂ E', d ∈ ds → PD d c → s₂.heap.Ns C m₂ → m₂ x = some c.1 → m₂ y = some c.2 → (∀ b o, s.heap.get? b = some o → s₂.heap.get? b = some o) →
      wpAny (model prog w) cx.A (eval elt (compEnv scope C cx.env)) (fun z s₃ => F c z ∧ Keeps s₂ s₃) E' s₂)
    {Q : Value → Shared → Prop} (hQ : ∀ D s' ys, s'.heap.IsList D ys → Paired (fun d z => ∃ c, PD d c ∧ F c z) (ds.filter (·.1 != n)) ys.toList → At cx σ s' → Keep cx σ s σ s' → Q (.ref D) s')
    (hm : behindInMarks .NotEq r = false := by with_unfolding_all rfl) (hs : ∀ x, foldedSetIterable (.Name v vpos) cx.env x = pure x := by intro _; rfl) :
    wpAny (model prog w) cx.A (eval (.ListComp elt [⟨.Tuple [.Name x px, .Name y py] kk tp, .Name v vpos, [.Compare (.Name x tvpos) [.NotEq] [r] tpos], 0⟩] scope pos) cx.env) Q NoE s := by
  obtain ⟨_, _, cs, pl, rs⟩ := a.hp _ _ hH
  have hln : ds.length = cs.toArray.size := by rw [← encs_len]; exact rs.length
  refine wpAny_ListComp hfree hkind hnames (wpAny_Name (a.load ok hv hi fun c rc => ?_) (ok.dbg v (List.mem_of_getElem? hv))) hs
  cases rc
  refine wpAny_pyIter_list pl.isList ?_
  refine wpAny_newObj_type ?_ (by size_fits)
  refine wpAny_newFunctionEnv hcell (fun z hz => nomatch hz) (fun h₁ n₁ b₁ => ?_) hkind
  obtain ⟨fC, fI, fD, gI, gD, up, q1, q2, q3⟩ := three_new s.heap h₁ b₁
  generalize ((s.heap.push _).push _).objs.size = C at *
  generalize (s.heap.push _).objs.size = D at *
  refine start_loop ⟨_, gI, rfl, rfl⟩ ?_
  refine pairs_loop (cenv := compEnv scope C cx.env) n (fun d z => ∃ c, PD d c ∧ F c z) ok.handled rfl hx hy hxy (by simp [compEnv, hkind]) fC fI fD q1 q2 q3 pl.isList hln (by rw [← hln]; exact szLine (Nat.le_trans hz (by decide))) (fun i v e => pairs_at ds cs rs i v (by simpa using e)) ?_ ?_ ?_
    ⟨⟨h₁, _, rfl⟩, ⟨_, gI, rfl, rfl⟩, ⟨_, gD, rfl, _, rfl⟩, ⟨_, n₁⟩, up⟩
  · intro d c s₂ m₂ E' hpd hn h1 _
    obtain ⟨t, e⟩ := hpd.1
    refine wpAny_isTrue_Compare1 (ldC hn h1 ?_ hkind hx hdx) hm
    rw [e]
    exact hr _ _ _ _ fun t' k => ne_int (wpAny_truthy_bool ⟨rfl, s₂.heap, _, rfl, fun _ _ e => e⟩)
  · intro d c s₂ m₂ E' hd hpd hn h1 h2 hk
    exact wpAny_mono (helt C d c s₂ m₂ E' hd hpd hn h1 h2 hk) (fun z s₃ q => ⟨⟨c, hpd, q.1⟩, q.2⟩) fun _ _ e => e
  · intro ys h k m hD hn hk hp
    refine ⟨m, hn, fun h' b' => ?_⟩
    obtain ⟨a', k'⟩ := a.both k fun b o e => b'.extBut b o (ne_new fC e) (hk b o e)
    exact hQ D _ ys (hD.extBut b'.extBut q2.symm) hp a' k'

noncomputable def joinP (n : Int) : X := .sem fun σ Q => ∃ l ds, σ.loc[4]? = some (some (.ref l)) ∧ σ.H l = some (encs ds) ∧ ds.length ≤ 2 ^ 12 ∧ ((ds.filter (·.1 != n)).flatMap (·.2)).length ≤ 2 ^ 12 ∧
  Q (.str ((ds.filter (·.1 != n)).flatMap (·.2))) σ
theorem strs_paired {es : List Df} {ys : List Value} (r : Paired (fun d z => ∃ c, PD d c ∧ z = c.2) es ys) : StrsAre ys ((es.map (·.2)).map strOf) := by
  induction r with
  | nil => exact .nil
  | cons f _ ih =>
    obtain ⟨c, ⟨_, t, e⟩, rfl⟩ := f
    rw [e]; exact .cons _ _ ih
theorem SE.joinP (ok : cx.Ok) {k : Nat} {kp apos : Pos} {x : Str} {pl : Sem Bool} {a y v : Str} {ep pa py tp tvpos vpos : Pos} {kk : Nat} {r : Expr} {tpos : Pos} {scope : Scope} {cpos pos : Pos} (n : Int) (hx : x = ⟨#[]⟩)
    (hv : cx.names[4]? = some v) (hfree : ∀ y ∈ scope.names, y.2 ≠ .free) (hcell : ∀ y ∈ scope.names, y.2 ≠ .cell) (hkind : scope.kind = .function)
    (hnames : ∀ y ∈ scope.names, y.2 = .local → scope.names.lookup y.1 = some .local) (ha : scope.names.lookup a = some .local) (hy : scope.names.lookup y = some .local) (hay : a ≠ y)
    (hda : (a == ("__debug__" : Str)) = false) (hdy : (y == ("__debug__" : Str)) = false)
    (hr : ∀ env s (Q : Value → Shared → Prop) (E : Value → Shared → Prop), (∀ t k, Q (.int n t) { s with toks := k }) → wpAny (model prog w) cx.A (eval r env) Q E s)
    (hm : behindInMarks .NotEq r = false := by with_unfolding_all rfl) (hs : ∀ x, foldedSetIterable (.Name v vpos) cx.env x = pure x := by intro _; rfl)
    (hmc : MC cx.env (.Constant (.str x) k kp) (Str.ofString "join") apos pos [.ListComp (.Name y ep) [⟨.Tuple [.Name a pa, .Name y py] kk tp, .Name v vpos, [.Compare (.Name a tvpos) [.NotEq] [r] tpos], 0⟩] scope cpos] pl := by with_unfolding_all rfl)
    (hst : starEach [.ListComp (.Name y ep) [⟨.Tuple [.Name a pa, .Name y py] kk tp, .Name v vpos, [.Compare (.Name a tvpos) [.NotEq] [r] tpos], 0⟩] scope cpos] cx.env = (false, eval (.ListComp (.Name y ep) [⟨.Tuple [.Name a pa, .Name y py] kk tp, .Name v vpos, [.Compare (.Name a tvpos) [.NotEq] [r] tpos], 0⟩] scope cpos) cx.env) :: starEach [] cx.env := by rfl) :
    SE prog w cx sp (.Call (.Attribute (.Constant (.str x) k kp) (Str.ofString "join") apos) [.ListComp (.Name y ep) [⟨.Tuple [.Name a pa, .Name y py] kk tp, .Name v vpos, [.Compare (.Name a tvpos) [.NotEq] [r] tpos], 0⟩] scope cpos] [] pos) (joinP n) := by
  intro σ s P at_ h
  refine MethodCall_ (bindX (SE.str (sp := sp) (l := []) hx σ s (fun u σ' => u = .str [] ∧ wpX sp (Mine.joinP n) σ' P) at_ ⟨rfl, h⟩) fun u c σ₁ s₁ ru a₁ k₁ h₁ => ?_) hmc
  obtain ⟨rfl, h₁⟩ := h₁
  obtain ⟨t, rfl⟩ := ru
  obtain ⟨l, ds, h1, h2, h3, h4, h5⟩ := h₁
  refine GM.join (callWith_method1 (spliced_more (comp_pairs ok n (fun c z => z = c.2) hv hfree hcell hkind hnames ha hy hay hda hr a₁ h1 h2 h3 ?_ (fun D s' ys hD hp a₂ k₂ => spliced_none ?_) hm hs) hst) hst rfl)
  · intro C d c s₂ m₂ E' _ _ hn _ hb _
    exact ldC hn hb ⟨rfl, s₂.heap, s₂.toks, rfl, fun _ _ e => e⟩ hkind hy hdy
  · have hsa := strs_paired hp
    have hlen : ((((ds.filter (·.1 != n)).map (·.2)).map strOf).map (·.length)) = ((ds.filter (·.1 != n)).map (·.2)).map List.length := by simp [strOf, PySem.Str.length, Function.comp_def]
    refine join_listW hD hsa (Nat.zero_le _) ?_ fun t' k => ?_
    · rw [hlen, sum_flat]
      have h6 : (ds.filter (·.1 != n)).length ≤ ds.length := List.length_filter_le _ _
      have h7 : ((ds.filter (·.1 != n)).map (·.2)).flatten.length ≤ 2 ^ 12 := by rw [← List.flatMap_def]; exact h4
      simp only [List.length_map]
      omega
    · have e3 : Txt.join ⟨#[]⟩ (((ds.filter (·.1 != n)).map (·.2)).map strOf) = strOf ((ds.filter (·.1 != n)).flatMap (·.2)) := (StrLaws.glued_eq_join _ _).trans ((join_flat _).trans (by rw [List.flatMap_def]))
      rw [show (⟨(List.toArray [] : Array Nat)⟩ : Str) = ⟨#[]⟩ from rfl, e3]
      exact cpost.trans (k₁.trans k₂) (cpost.val (v := .str ((ds.filter (·.1 != n)).flatMap (·.2))) a₂ _ ⟨_, rfl⟩ h5)
end
end
section
open PySem PySem.W PyProof.Rows PySem.Calls PySem.Spec
set_option Elab.async false
set_option maxRecDepth 100000
set_option autoImplicit false
set_option linter.unusedVariables false
section
variable {prog : Program} {w : World} {cx : Cx} {sp : Sp}
noncomputable def sumP : X := .sem fun σ Q => ∃ l ds, σ.loc[4]? = some (some (.ref l)) ∧ σ.H l = some (encs ds) ∧ ds.length ≤ 2 ^ 12 ∧ (∀ d ∈ ds, d.2.length ≤ 2 ^ 24) ∧
  Q (.int ((ds.filter (·.1 != 0)).map fun d => (d.2.length : Int)).sum) σ
theorem ints_paired {es : List Df} {ys : List Value} (r : Paired (fun d z => ∃ c, PD d c ∧ ∃ x t t', c.2 = Value.str (strOf x) t ∧ z = Value.int x.length t') es ys) : IntsAre ys (es.map fun d => (d.2.length : Int)) := by
  induction r with
  | nil => exact .nil
  | cons f _ ih =>
    obtain ⟨c, ⟨_, t, e⟩, x, t1, t2, e2, rfl⟩ := f
    rw [e] at e2
    injection e2 with h1 h2
    rw [show x = _ from (Array.toList_inj.mpr (congrArg Str.cps h1)).symm]
    exact .cons _ _ ih
theorem SE.sumP {K : Frag} {mg mb : Str → Option Value} {tool dx C : Addr} {es : List DictEntry} {nd : Nat} (Y : Wd K mg mb tool dx C es nd cx) (ok : cx.Ok) {sp1 lp lpos : Pos} {a y v : Str} {ep pa py tp tvpos vpos : Pos} {kk : Nat} {r elt : Expr} {tpos : Pos} {scope : Scope} {cpos pos : Pos}
    (helt : elt = .Call (.Name (Str.ofString "len") lp) [.Name y ep] [] lpos)
    (hv : cx.names[4]? = some v) (hfree : ∀ y ∈ scope.names, y.2 ≠ .free) (hcell : ∀ y ∈ scope.names, y.2 ≠ .cell) (hkind : scope.kind = .function)
    (hnames : ∀ y ∈ scope.names, y.2 = .local → scope.names.lookup y.1 = some .local) (ha : scope.names.lookup a = some .local) (hy : scope.names.lookup y = some .local) (hay : a ≠ y)
    (hlen : scope.names.lookup (Str.ofString "len") = some .globalImplicit)
    (hda : (a == ("__debug__" : Str)) = false) (hdy : (y == ("__debug__" : Str)) = false)
    (hr : ∀ env s (Q : Value → Shared → Prop) (E : Value → Shared → Prop), (∀ t k, Q (.int 0 t) { s with toks := k }) → wpAny (model prog w) cx.A (eval r env) Q E s)
    (hk : cx.env.kindOf (Str.ofString "sum") = some .globalImplicit := by rfl)
    (hm : behindInMarks .NotEq r = false := by with_unfolding_all rfl) (hs : ∀ x, foldedSetIterable (.Name v vpos) cx.env x = pure x := by intro _; rfl)
    (hst : starEach [.ListComp elt [⟨.Tuple [.Name a pa, .Name y py] kk tp, .Name v vpos, [.Compare (.Name a tvpos) [.NotEq] [r] tpos], 0⟩] scope cpos] cx.env = (false, eval (.ListComp elt [⟨.Tuple [.Name a pa, .Name y py] kk tp, .Name v vpos, [.Compare (.Name a tvpos) [.NotEq] [r] tpos], 0⟩] scope cpos) cx.env) :: starEach [] cx.env := by rfl) :
    SE prog w cx sp (.Call (.Name (Str.ofString "sum") sp1) [.ListComp elt [⟨.Tuple [.Name a pa, .Name y py] kk tp, .Name v vpos, [.Compare (.Name a tvpos) [.NotEq] [r] tpos], 0⟩] scope cpos] [] pos) sumP := by
  subst helt
  intro σ s P at_ h
  obtain ⟨l, ds, h1, h2, h3, h4, h5⟩ := h
  refine wpAny_Call_NameR (wpAny_Name (Y.globs ok _ _ bi_sum hk σ s _ at_ ?_) (by decide))
  refine PyProof.Rows.callWith_builtin1 (spliced_more (comp_pairs ok 0 (fun c z => ∃ x t t', c.2 = Value.str (strOf x) t ∧ z = Value.int x.length t') hv hfree hcell hkind hnames ha hy hay hda hr at_ h1 h2 h3 ?_ (fun D s' ys hD hp a₂ k₂ => spliced_none ?_) hm hs) hst) hst rfl
  · intro C d c s₂ m₂ E' hd hpd hn _ hb hkeep
    obtain ⟨_, t, ht⟩ := hpd
    obtain ⟨m, F, _⟩ := at_.fr
    have g1 := (Y.ng.keeps F.keep).keeps hkeep
    have g2 := (Y.nb.keeps F.keep).keeps hkeep
    obtain ⟨f1, f2⟩ := Y.free _ _ bi_len
    refine wpAny_Call_NameR (wpAny_Name ?_ (by decide))
    unfold loadName
    have hkl : (compEnv scope C cx.env).kindOf (Str.ofString "len") = some .globalImplicit := hlen
    simp only [Env.blockKind, show (compEnv scope C cx.env).scope.kind = .function from hkind, hkl, ScopeKind.isAnnotationScope, Bool.false_and, Bool.false_eq_true, if_false]
    refine loadGlobal_builtin (mg := mg) (mb := mb) g1 f1 g2 f2 ?_
    refine PyProof.Rows.callWith_builtin1 (spliced_more (ldC hn hb (spliced_none ?_) hkind hy hdy) (by rfl)) (by rfl) rfl
    rw [ht]
    have e0 : (strOf d.2).length = d.2.length := by simp [PySem.Str.length, strOf]
    refine PySem.P.len_str (by have := h4 d hd; rw [e0]; omega) ?_
    rw [e0]
    exact ⟨⟨d.2, t, _, rfl, rfl⟩, s₂.heap, _, rfl, fun _ _ e => e⟩
  · obtain ⟨m, F, rr⟩ := a₂.fr
    refine PyProof.Rows.LSm.sum_ints (vs := ys.toList) F allNews_ok ok.handled (by simpa using hD) (ints_paired hp) fun h' tk t' F' N' => ?_
    obtain ⟨a', k'⟩ := a₂.later F rr F' (fun p hp => (N' p hp).1) tk
    exact ⟨.int _, σ, ⟨_, rfl⟩, a', k₂.trans k', h5⟩

noncomputable def joinM (scr : Addr) : X := .sem fun σ Q => σ.loc[1]? = some (some (.ref scr)) ∧ ∀ x : List Nat, x.length ≤ 63 → Q (.str x) σ
theorem fmod3 (n : Int) : n.fmod 3 = 0 ∨ n.fmod 3 = 1 ∨ n.fmod 3 = 2 := by
  rw [Int.fmod_eq_emod_of_nonneg n (show (0 : Int) ≤ 3 by decide)]
  omega
theorem strs_ones {vs ys : List Value} (h : Paired (fun v z => ∃ c t, z = Value.str (strOf [c]) t) vs ys) : ∃ ts : List (List Nat), StrsAre ys (ts.map strOf) ∧ ts.length = ys.length ∧ ts.flatten.length = ys.length := by
  induction h with
  | nil => exact ⟨[], .nil, rfl, rfl⟩
  | cons f _ ih =>
    obtain ⟨c, t, rfl⟩ := f
    obtain ⟨ts, h1, h2, h3⟩ := ih
    exact ⟨[c] :: ts, .cons _ _ h1, by simp [h2], by simp only [List.flatten_cons, List.length_append, List.length_cons, List.length_nil, h3]; omega⟩
theorem SE.joinM (ok : cx.Ok) {k k1 k2 k3 k4 k5 : Nat} {kp apos p1 pn p2 p3 p4 p5 p6 p7 p8 p9 px pv : Pos} {x v num abc : Str} {pl : Sem Bool} {elt iter : Expr} {scope : Scope} {cpos pos : Pos} {c0 c1 : Int} {scr : Addr} {vs : List Value} {ns : List Int}
    (hx : x = ⟨#[]⟩) (habc : abc = strOf [97, 98, 99])
    (helt : elt = .Subscript (.Constant (.str abc) k1 p1) (.BinOp (.Name num pn) .Mod (.Constant (.int 3) k2 p2) p3) p4)
    (hit : iter = .Subscript (.Name v pv) (.Slice (some (.Constant (.int c0) k3 p5)) (some (.Constant (.int c1) k4 p6)) (some (.Constant (.int 2) k5 p7)) p8) p9)
    (hscr : cx.h₀.IsList scr vs.toArray) (hI : IntsAre vs ns) (hns : ns.length ≤ 63)
    (hv : cx.names[1]? = some v) (hfree : ∀ y ∈ scope.names, y.2 ≠ .free) (hcell : ∀ y ∈ scope.names, y.2 ≠ .cell) (hkind : scope.kind = .function)
    (hnames : ∀ y ∈ scope.names, y.2 = .local → scope.names.lookup y.1 = some .local) (hn : scope.names.lookup num = some .local) (hdn : (num == ("__debug__" : Str)) = false)
    (hs : ∀ x, foldedSetIterable iter cx.env x = pure x := by intro _; rfl)
    (hss : ∀ o i, subscripted (.Slice (some (.Constant (.int c0) k3 p5)) (some (.Constant (.int c1) k4 p6)) (some (.Constant (.int 2) k5 p7)) p8) false o i = operate [o, i] (getItem o i) := by intro _ _; rfl)
    (hsi : ∀ o i, subscripted (.BinOp (.Name num pn) .Mod (.Constant (.int 3) k2 p2) p3) false o i = operate [o, i] (getItem o i) := by intro _ _; rfl)
    (hmc : MC cx.env (.Constant (.str x) k kp) (Str.ofString "join") apos pos [.ListComp elt [⟨.Name num px, iter, [], 0⟩] scope cpos] pl := by with_unfolding_all rfl)
    (hst : starEach [.ListComp elt [⟨.Name num px, iter, [], 0⟩] scope cpos] cx.env = (false, eval (.ListComp elt [⟨.Name num px, iter, [], 0⟩] scope cpos) cx.env) :: starEach [] cx.env := by rfl) :
    SE prog w cx sp (.Call (.Attribute (.Constant (.str x) k kp) (Str.ofString "join") apos) [.ListComp elt [⟨.Name num px, iter, [], 0⟩] scope cpos] [] pos) (joinM scr) := by
  subst helt hit
  intro σ s P at_ h
  refine MethodCall_ (bindX (SE.str (sp := sp) (l := []) hx σ s (fun u σ' => u = .str [] ∧ wpX sp (Mine.joinM scr) σ' P) at_ ⟨rfl, h⟩) fun u c σ₁ s₁ ru a₁ k₁ h₁ => ?_) hmc
  obtain ⟨rfl, h₁⟩ := h₁
  obtain ⟨t, rfl⟩ := ru
  obtain ⟨h1, h5⟩ := h₁
  obtain ⟨m, F, rr⟩ := a₁.fr
  have hl : s₁.heap.IsList scr vs.toArray := hscr.at fun o e => F.keep _ o e
  refine GM.join (callWith_method1 (spliced_more (wpAny_ListComp_map (fun _ => true) (fun v z => ∃ c t, z = Value.str (strOf [c]) t) ok.handled hfree hcell hkind hnames hn ?_ hs) hst) hst rfl)
  refine Subscript_ (wpAny_Name (a₁.load ok hv h1 fun c rc => ?_) (ok.dbg v (List.mem_of_getElem? hv)))
  cases rc
  refine wpAny_Slice (wpAny_evalPart_some (wpAny_Constant_int (wpAny_evalPart_some (wpAny_Constant_int (wpAny_evalPart_some (wpAny_Constant_int ?_))))))
  have hp := hl.at (h' := s₁.heap.push { cls := .type "slice", data := .fields #[.int c0 s₁.toks, .int c1 (s₁.toks + 1), .int 2 (s₁.toks + 1 + 1)] }) fun o e => Heap.get?_push_of_some _ e
  refine tail_any hp.typeIs slot_list_getitem.lookup (wpAny_getItem_list_slice hp (.new _ _ _ _) (.int _ _) (.int _ _) (.int _ _) (by simp) ?_ (by rw [List.size_toArray, hI.length]; exact szLine (by omega))) (hss _ _)
  have hpick := hI.pick (some c0) (some c1) (some 2)
  have hpl := length_pickNums_le hI (some c0) (some c1) (some 2)
  have hpl2 := hpick.length
  have hpick0 : (slicePick vs.toArray (some c0) (some c1) (some 2)).toList.length = (slicePick vs.toArray (some c0) (some c1) (some 2)).size := by simp
  generalize slicePick vs.toArray (some c0) (some c1) (some 2) = items at hpick hpl hpl2 hpick0
  refine ⟨_, items, rfl, ⟨_, Heap.get?_push_size _ rfl, rfl, _, rfl⟩, szLine (by omega), fun C v s₂ m₂ E' _ _ _ _ => wpAny_tests_nil ⟨rfl, s₂.heap, s₂.toks, rfl, fun _ _ e => e⟩, ?_, ?_⟩
  · intro C v s₂ m₂ E' hvi _ hN hm _
    obtain ⟨i, hi, e⟩ := Array.getElem_of_mem hvi
    obtain ⟨n, t', rfl, -⟩ := hpick.at i v (by rw [← e]; simp [hi])
    have e0 : (strOf [97, 98, 99]).length = 3 := rfl
    rw [habc]
    refine Subscript_ (Constant_str (wpAny_BinOp (ldC hN hm (wpAny_Constant_int (mod_int' (by decide) ?_)) hkind hn hdn)))
    refine tail_any (typeIs_str _ _ _) PySem.F.slot_str_getitem.lookup ?_ (hsi _ _)
    have hc : ∃ c, (seqIndex? (n.fmod 3) (strOf [97, 98, 99]).length).bind ((strOf [97, 98, 99]).cps[·]?) = some c := by
      rcases fmod3 n with h | h | h <;> rw [h] <;> exact ⟨_, rfl⟩
    obtain ⟨c, hc⟩ := hc
    refine PySem.P.getItem_str (c := c) ?_ hc ⟨⟨c, _, rfl⟩, s₂.heap, _, rfl, fun _ _ e => e⟩
    rcases fmod3 n with h | h | h <;> rw [h] <;> rfl
  · intro D h' tk ys _ hD hp hk
    obtain ⟨ts, g1, g2, g3⟩ := strs_ones hp
    have g4 := hp.length
    have g5 := List.length_filter_le (fun _ : Value => true) items.toList
    have hlen : ((ts.map strOf).map (·.length)) = ts.map List.length := by simp [strOf, PySem.Str.length, Function.comp_def]
    refine spliced_none (join_listW hD g1 (Nat.zero_le _) (by rw [hlen, sum_flat, List.length_map]; omega) fun t' k => ?_)
    have e3 : Txt.join ⟨#[]⟩ (ts.map strOf) = strOf ts.flatten := (StrLaws.glued_eq_join _ _).trans (join_flat ts)
    rw [show (⟨(List.toArray [] : Array Nat)⟩ : Str) = ⟨#[]⟩ from rfl, e3]
    obtain ⟨a', k'⟩ := a₁.both (h' := h') k fun b o e => hk b o (Heap.get?_push_of_some _ (Heap.get?_push_of_some _ e))
    exact cpost.trans (k₁.trans k') (cpost.val0 (v := .str ts.flatten) a' ⟨_, rfl⟩ (h5 _ (by omega)))
end
end
section
open PySem PySem.W PyProof.Rows PySem.Calls PySem.Spec
set_option Elab.async false
set_option maxRecDepth 100000
set_option maxHeartbeats 4000000
set_option autoImplicit false
set_option linter.unusedVariables false
noncomputable def lawFn : Arguments × List Stmt × Scope := (fnIn (Str.ofString "law") PySem.Challenge.pw_im0118_01.main.body).getD default
noncomputable def lawBody : List Stmt := lawFn.2.1
noncomputable def lawScope : Scope := lawFn.2.2
noncomputable def nm_law : List Str := [Str.ofString "tool", Str.ofString "script", Str.ofString "first", Str.ofString "second", Str.ofString "parts", Str.ofString "place", Str.ofString "row", Str.ofString "sign", Str.ofString "new", Str.ofString "turned"]
noncomputable def S_law1 (scr : Addr) : S :=
  (.seq (.asg 2 (joinM scr))
  (.asg 3 (joinM scr)))
noncomputable def S_law2 : S :=
  (.seq (.asg 4 (.call3 0 (.var 2) (.var 3) (.bool false)))
  (.seq (.ite (.cmp .NotEq (joinP (1)) (.var 2))
  (.ret (.bool false))
  .skip)
  (.seq (.ite (.cmp .NotEq (joinP (-1)) (.var 3))
  (.ret (.bool false))
  .skip)
  (.seq (.ite (.or (.cmp .NotEq (.call1 8 (.var 4)) (.var 2)) (.or (.cmp .NotEq (.call1 9 (.var 4)) (.var 3)) .ff))
  (.ret (.bool false))
  .skip)
  (.seq (.forr 5 (.int 0) (.len (.var 4)) 1
  (.ite (.or (.cmp .Eq (.item (.item (.var 4) (.var 5)) (.int 1)) (.str [])) (.or (.and (.cmp .Gt (.var 5) (.int 0)) (.and (.cmp .Eq (.item (.item (.var 4) (.var 5)) (.int 0)) (.item (.item (.var 4) (.bin .Sub (.var 5) (.int 1))) (.int 0))) .tt)) .ff))
  (.ret (.bool false))
  .skip))
  (.seq (.asg 6 (.bin .Mult (.list1 (.int 0)) (.bin .Add (.len (.var 3)) (.int 1))))
  (.seq (.fors 7 (.var 2)
  (.seq (.asg 8 (.list1 (.int 0)))
  (.seq (.forr 5 (.int 0) (.len (.var 3)) 1
  (.expr (.append (.var 8) (.ife .Eq (.item (.var 3) (.var 5)) (.var 7) (.bin .Add (.item (.var 6) (.var 5)) (.int 1)) (.max2 (.item (.var 6) (.bin .Add (.var 5) (.int 1))) (.item (.var 8) (.var 5)))))))
  (.asg 6 (.var 8)))))
  (.seq (.asg 9 sumP)
  (.ret (.cmp .Eq (.var 9) (.bin .Sub (.bin .Add (.len (.var 2)) (.len (.var 3))) (.bin .Mult (.int 2) (.item (.var 6) (.neg (.int 1)))))))))))))))
noncomputable def lawCx (A : Around) (qn : Str) (L fa : Addr) (cd : Value) (h₀ : Heap) (s₀ : Shared) (ex : List (Addr × Obj)) : Cx := ⟨A, qn, lawScope, L, fa, cd, h₀, s₀, nm_law, ex⟩
theorem ok_law {A : Around} {qn : Str} {L fa : Addr} {cd : Value} {h₀ : Heap} {s₀ : Shared} {ex : List (Addr × Obj)} (hh : A.handled = none) : (lawCx A qn L fa cd h₀ s₀ ex).Ok where
  handled := hh
  kind := rfl
  loc := by
    have h : (nm_law.all fun x => (lawCx A qn L fa cd h₀ s₀ ex).env.kindOf x == some .local) = true := rfl
    intro x hx
    exact beq_iff_eq.mp (List.all_eq_true.mp h x hx)
  nodup := (by decide : nm_law.Nodup)
  dbg := by
    have h : (nm_law.all fun x => (x == ("__debug__" : Str)) == false) = true := rfl
    intro x hx
    exact beq_iff_eq.mp (List.all_eq_true.mp h x hx)
section
variable {prog : Program} {w : World} {sp : Sp}
theorem ss_law1 {A : Around} {qn : Str} {L fa : Addr} {cd : Value} {h₀ : Heap} {s₀ : Shared} {ex : List (Addr × Obj)} (ok : (lawCx A qn L fa cd h₀ s₀ ex).Ok) {scr : Addr} {vs : List Value} {ns : List Int}
    (hscr : (lawCx A qn L fa cd h₀ s₀ ex).h₀.IsList scr vs.toArray) (hI : IntsAre vs ns) (hns : ns.length ≤ 63) :
    SS prog w (lawCx A qn L fa cd h₀ s₀ ex) sp (lawBody.take 2) (S_law1 scr) :=
  (SS.cons (S1.asg ok rfl (SE.joinM ok rfl rfl rfl rfl hscr hI hns rfl (by decide) (by decide) rfl (by decide) rfl (by decide)))
  (SS.last (S1.asg ok rfl (SE.joinM ok rfl rfl rfl rfl hscr hI hns rfl (by decide) (by decide) rfl (by decide) rfl (by decide)))))
theorem ss_law2 {A : Around} {qn : Str} {L fa : Addr} {cd : Value} {h₀ : Heap} {s₀ : Shared} {ex : List (Addr × Obj)} {K' : Frag} {mg mb : Str → Option Value} {tool dx C : Addr} {es : List DictEntry} {nd : Nat}
    (Y : Wd K' mg mb tool dx C es nd (lawCx A qn L fa cd h₀ s₀ ex)) (ok : (lawCx A qn L fa cd h₀ s₀ ex).Ok) (G : Globs prog w (lawCx A qn L fa cd h₀ s₀ ex)) (K : Lk prog w (lawCx A qn L fa cd h₀ s₀ ex) sp) :
    SS prog w (lawCx A qn L fa cd h₀ s₀ ex) sp (lawBody.drop 4) S_law2 :=
  (SS.cons (S1.asg ok rfl (SE.call3 ok K rfl rfl (SE.var ok rfl) (SE.var ok rfl) SE.bool))
  (SS.cons (S1.ite (SI.cmp (SE.joinP ok (1) rfl rfl (by decide) (by decide) rfl (by decide) rfl rfl (by decide) (by decide) (by decide) (fun _ _ _ _ h => wpAny_Constant_int (h _ _))) (SE.var ok rfl))
  (SS.last (S1.ret SE.bool))
  SS.nil)
  (SS.cons (S1.ite (SI.cmp (SE.joinP ok (-1) rfl rfl (by decide) (by decide) rfl (by decide) rfl rfl (by decide) (by decide) (by decide) (fun _ _ _ _ h => wpAny_UnaryOp (wpAny_Constant_int (neg_int (h _ _))))) (SE.var ok rfl))
  (SS.last (S1.ret SE.bool))
  SS.nil)
  (SS.cons (S1.ite (SI.bool (SAll.orCons (SI.cmp (SE.call1 ok K rfl rfl (SE.var ok rfl)) (SE.var ok rfl)) (SAll.orCons (SI.cmp (SE.call1 ok K rfl rfl (SE.var ok rfl)) (SE.var ok rfl)) SAll.orNil)))
  (SS.last (S1.ret SE.bool))
  SS.nil)
  (SS.cons (S1.forr1 ok G rfl (SE.len G (SE.var ok rfl))
  (SS.last (S1.ite (SI.bool (SAll.orCons (SI.cmp (SE.item (SE.item (SE.var ok rfl) (SE.var ok rfl)) SE.int) (SE.str (by decide))) (SAll.orCons (SI.bool (SAll.andCons (SI.cmp (SE.var ok rfl) SE.int) (SAll.andCons (SI.cmp (SE.item (SE.item (SE.var ok rfl) (SE.var ok rfl)) SE.int) (SE.item (SE.item (SE.var ok rfl) (SE.bin ok_sub (SE.var ok rfl) SE.int)) SE.int)) SAll.andNil))) SAll.orNil)))
  (SS.last (S1.ret SE.bool))
  SS.nil)))
  (SS.cons (S1.asg ok rfl (SE.bin ok_mul (SE.list1 SE.int) (SE.bin ok_add (SE.len G (SE.var ok rfl)) SE.int)))
  (SS.cons (S1.fors ok rfl (SE.var ok rfl)
  (SS.cons (S1.asg ok rfl (SE.list1 SE.int))
  (SS.cons (S1.forr1 ok G rfl (SE.len G (SE.var ok rfl))
  (SS.last (S1.expr (SE.append (SE.var ok rfl) (SE.ife (SE.item (SE.var ok rfl) (SE.var ok rfl)) (SE.var ok rfl) (SE.bin ok_add (SE.item (SE.var ok rfl) (SE.var ok rfl)) SE.int) (SE.max ok G (SE.item (SE.var ok rfl) (SE.bin ok_add (SE.var ok rfl) SE.int)) (SE.item (SE.var ok rfl) (SE.var ok rfl))))))))
  (SS.last (S1.asg ok rfl (SE.var ok rfl))))))
  (SS.cons (S1.asg ok rfl (SE.sumP Y ok rfl rfl (by decide) (by decide) rfl (by decide) rfl rfl (by decide) rfl (by decide) (by decide) (fun _ _ _ _ h => wpAny_Constant_int (h _ _))))
  (SS.last (S1.ret (SE.cmp (SE.var ok rfl) (SE.bin ok_sub (SE.bin ok_add (SE.len G (SE.var ok rfl)) (SE.len G (SE.var ok rfl))) (SE.bin ok_mul SE.int (SE.item (SE.var ok rfl) (SE.neg SE.int)))))))))))))))
end
end
section
open PySem PySem.W
set_option Elab.async false
set_option autoImplicit false
set_option linter.unusedVariables false
section
variable {sp : Sp} {σ : St} {R : V → St → Prop} {Q : Fl → St → Prop}
theorem wX_max {a b : X} (h : wpX sp a σ fun u σ₁ => wpX sp b σ₁ fun v σ₂ => match u, v with | .int i, .int j => R (.int (max i j)) σ₂ | _, _ => False) : wpX sp (.max2 a b) σ R := h
theorem wX_ife {op : CmpOp} {l r a b : X} (h : wpX sp l σ fun u σ₁ => wpX sp r σ₁ fun v σ₂ => match vcmp op u v with
    | some c => if c = true then wpX sp a σ₂ R else wpX sp b σ₂ R
    | none => False) : wpX sp (.ife op l r a b) σ R := h
theorem wX_joinP {n : Int} {l : Addr} {ds : List Df} {t : List Nat} (h1 : σ.loc[4]? = some (some (.ref l))) (h2 : σ.H l = some (encs ds)) (h3 : ds.length ≤ 2 ^ 12) (e : (ds.filter (·.1 != n)).flatMap (·.2) = t) (h4 : t.length ≤ 2 ^ 12)
    (h : R (.str t) σ) : wpX sp (joinP n) σ R := by
  subst e
  exact Exists.intro l (Exists.intro ds ⟨h1, h2, h3, h4, h⟩)
theorem wX_sumP {l : Addr} {ds : List Df} (h1 : σ.loc[4]? = some (some (.ref l))) (h2 : σ.H l = some (encs ds)) (h3 : ds.length ≤ 2 ^ 12) (h4 : ∀ d ∈ ds, d.2.length ≤ 2 ^ 24)
    (h : R (.int ((ds.filter (·.1 != 0)).map fun d => (d.2.length : Int)).sum) σ) : wpX sp sumP σ R :=
  Exists.intro l (Exists.intro ds ⟨h1, h2, h3, h4, h⟩)
theorem wS_fors {i : Nat} {x : X} {b : S} (h : wpX sp x σ fun u σ₁ => match u with
    | .str y => y.length ≤ 2 ^ 20 ∧ ∃ I : Nat → St → Prop, I 0 σ₁ ∧ (∀ k c σ', y[k]? = some c → I k σ' → wpS sp b (σ'.set i (.str [c])) (loopQ Q (I (k + 1)))) ∧
          ∀ σ', I y.length σ' → Q .next σ'
    | _ => False) : wpS sp (.fors i x b) σ Q := h
end
theorem flat_src (ds : List Df) : (ds.filter (·.1 != 1)).flatMap (·.2) = src ds := by
  induction ds with
  | nil => rfl
  | cons d ds ih =>
    rw [src_cons, ← ih]
    by_cases h : d.1 = 1 <;> simp [List.filter_cons, h]
theorem flat_dst (ds : List Df) : (ds.filter (·.1 != -1)).flatMap (·.2) = dst ds := by
  induction ds with
  | nil => rfl
  | cons d ds ih =>
    rw [dst_cons, ← ih]
    by_cases h : d.1 = -1 <;> simp [List.filter_cons, h]
theorem sum_cost (ds : List Df) : ((ds.filter (·.1 != 0)).map fun d => (d.2.length : Int)).sum = cost ds := by
  induction ds with
  | nil => rfl
  | cons d ds ih =>
    rw [cost_cons]
    by_cases h : d.1 = 0 <;> simp [List.filter_cons, h, ih]
theorem noAdj_at : ∀ {ds : List Df} {k : Nat} {a b : Df}, NoAdj ds → ds[k]? = some a → ds[k + 1]? = some b → a.1 ≠ b.1
  | _ :: _ :: _, 0, _, _, h, e1, e2 => by cases e1; cases e2; exact h.1
  | _ :: c :: r, k + 1, _, _, h, e1, e2 => noAdj_at (ds := c :: r) (k := k) h.2 e1 e2
  | [_], 0, _, _, _, _, e2 => by cases e2
  | [_], k + 1, _, _, _, e1, _ => by cases e1
  | [], _, _, _, _, e1, _ => by cases e1
theorem part_len {ds : List Df} (h : Okd ds) : ∀ d ∈ ds, d.2.length ≤ (src ds).length + (dst ds).length := by
  induction ds with
  | nil => intro d hd; cases hd
  | cons p ds ih =>
    intro d hd
    rw [src_cons, dst_cons]
    simp only [List.length_append]
    rcases List.mem_cons.mp hd with rfl | hd
    · rcases (h d (.head _)).1 with h2 | h2 | h2 <;> simp [h2] <;> omega
    · have := ih (fun q hq => h q (.tail _ hq)) d hd
      omega
theorem cnt1 (n : Nat) : (((n : Int) - 0 + ((1 : Nat) : Int) - 1) / ((1 : Nat) : Int)).toNat = n := by
  rw [show ((1 : Nat) : Int) = 1 from rfl, Int.ediv_one]; omega
noncomputable abbrev LS (tool scr : Addr) (x y : List Nat) (l : Addr) (j5 j6 j7 j8 j9 : Option V) (H : AH) : St := ⟨[some (.ref tool), some (.ref scr), some (.str x), some (.str y), some (.ref l), j5, j6, j7, j8, j9], H⟩
theorem v_law (Φ : Calls) (tool scr : Addr) (x y : List Nat) (n : Nat) (hn : x.length + y.length < n) (hx : x.length ≤ 63) (hy : y.length ≤ 63) (hm : CMain3 Φ n) (h1 : CText1 Φ) (h2 : CText2 Φ) :
    wpS (SP Φ tool) S_law2 ⟨[some (.ref tool), some (.ref scr), some (.str x), some (.str y), none, none, none, none, none, none], noH⟩ (fun g σ => g = .ret (.bool true)) := by
  unfold S_law2
  walk_at "v"
  refine hm x y _ _ hn fun l ds hl hg hna => ?_
  obtain ⟨g1, g2, g3, g4⟩ := hg
  have hlen := g1.len
  rw [g2, g3] at hlen
  have hpl := part_len g1
  rw [g2, g3] at hpl
  have hHl : updH noH l (encs ds) l = some (encs ds) := updH_self _ _ _
  generalize updH noH l (encs ds) = H0 at hHl
  walk_at "v"
  refine wX_joinP rfl hHl (by omega) (flat_src ds) (by rw [g2]; omega) ?_
  walk_at "v"
  refine ite_dec (fun g => absurd g2 g) fun _ => ?_
  walk_at "v"
  refine wX_joinP rfl hHl (by omega) (flat_dst ds) (by rw [g3]; omega) ?_
  walk_at "v"
  refine ite_dec (fun g => absurd g3 g) fun _ => ?_
  walk_at "v"
  refine h1 l ds _ _ hHl (by omega) (by rw [g2]; omega) ?_
  walk_at "v"
  refine ite_dec (fun g => absurd g2 g) fun _ => ?_
  walk_at "v"
  refine h2 l ds _ _ hHl (by omega) (by rw [g3]; omega) ?_
  walk_at "v"
  refine ite_dec (fun g => absurd g3 g) fun _ => ?_
  walk_at "v"
  simp only [hHl]
  rw [encs_len, cnt1]
  refine ⟨by omega, ⟨by omega, by omega, by omega, by omega, by omega, by omega⟩, fun k σ => ∃ j5, σ = LS tool scr x y l j5 none none none none H0, ⟨_, rfl⟩, ?_, ?_⟩
  · rintro k _ hk ⟨j5, rfl⟩
    rw [show (0 + (k : Int) * ((1 : Nat) : Int)) = k from by omega]
    obtain ⟨e, he⟩ : ∃ e, ds[k]? = some e := ⟨_, List.getElem?_eq_getElem hk⟩
    have hv : (encs ds)[((k : Nat) : Int).toNat]? = some (.tup (.int e.1) (.str e.2)) := by rw [Int.toNat_natCast, encs_get?, he]; rfl
    have hz : (encs ds).length ≤ 2 ^ 20 := by rw [encs_len]; omega
    walk_at "v"
    refine vitem_ref hHl (by omega) hz hv ?_
    walk_at "v"
    refine ite_dec (fun g => absurd g (g1 e (List.mem_of_getElem? he)).2) fun _ => ?_
    walk_at "v"
    refine ite_dec (fun hk0 => ?_) fun hk0 => ?_
    · obtain ⟨j, rfl⟩ : ∃ j, k = j + 1 := ⟨k - 1, by omega⟩
      obtain ⟨f, hf⟩ : ∃ f, ds[j]? = some f := ⟨_, List.getElem?_eq_getElem (by omega)⟩
      have hv2 : (encs ds)[(((j + 1 : Nat) : Int) - 1).toNat]? = some (.tup (.int f.1) (.str f.2)) := by
        rw [show (((j + 1 : Nat) : Int) - 1).toNat = j from by omega, encs_get?, hf]; rfl
      walk_at "v"
      refine vitem_ref hHl (by omega) hz hv ?_
      walk_at "v"
      refine vitem_ref hHl (by omega) hz hv2 ?_
      walk_at "v"
      refine ite_dec (fun g => absurd g.symm (noAdj_at hna hf he)) fun _ => ?_
      walk_at "v"
      exact ⟨_, rfl⟩
    · walk_at "v"
      exact ⟨_, rfl⟩
  · rintro _ ⟨j5, rfl⟩
    walk_at "v"
    intro l0 hl0
    walk_at "v"
    rw [if_pos rfl]
    refine ⟨by omega, by omega, fun r hr => ?_⟩
    have hrow0 : List.replicate ((y.length : Int) + 1).toNat (V.int 0) = encI (rowOf (x.take 0) y) := by
      rw [List.take_zero, rowOf_zero, show ((y.length : Int) + 1).toNat = y.length + 1 from by omega]; simp [encI]
    rw [hrow0]
    have hHl' : (fun b => if b = r then some (encI (rowOf (x.take 0) y)) else if b = l0 then some [V.int 0] else H0 b) l = some (encs ds) := by
      have n1 : l ≠ l0 := fun q => by
        have hl0' : H0 l0 = none := hl0
        rw [← q, hHl] at hl0'; cases hl0'
      have n2 : l ≠ r := fun q => by
        have hr' : (if r = l0 then some [V.int 0] else H0 r) = none := hr
        rw [← q, if_neg n1, hHl] at hr'; cases hr'
      show (if l = r then _ else if l = l0 then _ else H0 l) = _
      rw [if_neg n2, if_neg n1]; exact hHl
    have hHr' : (fun b => if b = r then some (encI (rowOf (x.take 0) y)) else if b = l0 then some [V.int 0] else H0 b) r = some (encI (rowOf (x.take 0) y)) := if_pos rfl
    generalize (fun b => if b = r then some (encI (rowOf (x.take 0) y)) else if b = l0 then some [V.int 0] else H0 b) = H1 at hHl' hHr'
    walk_at "v"
    refine wS_fors ?_
    walk_at "v"
    refine ⟨fun k σ => ∃ j5 j7 j8 r H, σ = LS tool scr x y l j5 (some (.ref r)) j7 j8 none H ∧ H l = some (encs ds) ∧ H r = some (encI (rowOf (x.take k) y)), ⟨_, _, _, r, H1, rfl, hHl', hHr'⟩, ?_, ?_⟩
    · rintro k c _ hc ⟨j5, j7, j8, r, H, rfl, hl2, hr2⟩
      walk_at "v"
      intro nw hnw
      have n1 : l ≠ nw := fun q => by
        have h : H nw = none := hnw
        rw [← q, hl2] at h; cases h
      have n2 : r ≠ nw := fun q => by
        have h : H nw = none := hnw
        rw [← q, hr2] at h; cases h
      have hck : x.take (k + 1) = x.take k ++ [c] := take_snoc hc
      walk_at "v"
      rw [cnt1]
      refine ⟨fun j σ => ∃ j5 H, σ = LS tool scr x y l j5 (some (.ref r)) (some (.str [c])) (some (.ref nw)) none H ∧ H l = some (encs ds) ∧ H r = some (encI (rowOf (x.take k) y)) ∧ H nw = some (encI ((rowOf (x.take (k + 1)) y).take (j + 1))), ?_, ?_, ?_⟩
      · refine ⟨_, _, rfl, ?_, ?_, ?_⟩
        · show (if l = nw then _ else H l) = _
          rw [if_neg n1]; exact hl2
        · show (if r = nw then _ else H r) = _
          rw [if_neg n2]; exact hr2
        · show (if nw = nw then _ else H nw) = _
          rw [if_pos rfl, List.take_add_one, rowOf_get _ _ (Nat.zero_le _), List.take_zero, List.take_zero, lcs_nil_right]; rfl
      · rintro j _ hj ⟨j5, H2, rfl, q1, q2, q3⟩
        rw [show (0 + (j : Int) * ((1 : Nat) : Int)) = j from by omega]
        obtain ⟨b, hb⟩ : ∃ b, y[j]? = some b := ⟨_, List.getElem?_eq_getElem hj⟩
        have fin : ∀ v : Int, v = (lcs (x.take (k + 1)) (y.take (j + 1)) : Int) → some (encI ((rowOf (x.take (k + 1)) y).take (j + 1)) ++ [V.int v]) = some (encI ((rowOf (x.take (k + 1)) y).take (j + 1 + 1))) := by
          rintro v rfl
          rw [rowOf_take_succ _ _ hj]
          simp [encI]
        have hnl : (encI ((rowOf (x.take (k + 1)) y).take (j + 1))).length = j + 1 := by
          rw [encI_len, List.length_take, rowOf_len]; omega
        walk_at "v"
        simp only [q3]
        refine ⟨rfl, ?_⟩
        refine wX_ife ?_
        walk_at "v"
        refine vitem_str (by omega) (by omega) (c := b) (by rw [Int.toNat_natCast]; exact hb) ?_
        walk_at "v"
        refine ite_dec (fun g => ?_) fun g => ?_
        · have hbc : b = c := by simpa using g
          subst hbc
          walk_at "v"
          refine vitem_ref q2 (by omega) (by rw [encI_len, rowOf_len]; omega) (v := .int (lcs (x.take k) (y.take j))) (by rw [Int.toNat_natCast]; unfold encI; rw [List.getElem?_map, rowOf_get _ _ (by omega)]; rfl) ?_
          walk_at "v"
          simp only [q3]
          refine ⟨by rw [hnl]; omega, ?_⟩
          walk_at "v"
          refine ⟨_, _, rfl, ?_, ?_, ?_⟩
          · show (if l = nw then _ else H2 l) = _
            rw [if_neg n1]; exact q1
          · show (if r = nw then _ else H2 r) = _
            rw [if_neg n2]; exact q2
          · show (if nw = nw then _ else H2 nw) = _
            rw [if_pos rfl]
            exact fin _ (by rw [hck, dp_same hb]; omega)
        · have hbc : c ≠ b := fun q => g (by rw [q])
          walk_at "v"
          refine wX_max ?_
          walk_at "v"
          refine vitem_ref q2 (by omega) (by rw [encI_len, rowOf_len]; omega) (v := .int (lcs (x.take k) (y.take (j + 1)))) (by rw [show ((j : Int) + 1).toNat = j + 1 from by omega]; unfold encI; rw [List.getElem?_map, rowOf_get _ _ hj]; rfl) ?_
          walk_at "v"
          refine vitem_ref q3 (by omega) (by rw [hnl]; omega) (v := .int (lcs (x.take (k + 1)) (y.take j))) (by
            rw [Int.toNat_natCast]; unfold encI; rw [List.getElem?_map, List.getElem?_take_of_lt (by omega), rowOf_get _ _ (by omega)]; rfl) ?_
          walk_at "v"
          simp only [q3]
          refine ⟨by rw [hnl]; omega, ?_⟩
          walk_at "v"
          refine ⟨_, _, rfl, ?_, ?_, ?_⟩
          · show (if l = nw then _ else H2 l) = _
            rw [if_neg n1]; exact q1
          · show (if r = nw then _ else H2 r) = _
            rw [if_neg n2]; exact q2
          · show (if nw = nw then _ else H2 nw) = _
            rw [if_pos rfl]
            exact fin _ (by rw [hck, dp_diff hb hbc]; omega)
      · rintro _ ⟨j5, H2, rfl, q1, q2, q3⟩
        walk_at "v"
        refine ⟨_, _, _, nw, H2, rfl, q1, ?_⟩
        rw [q3, List.take_of_length_le (by rw [rowOf_len]; exact Nat.le_refl _)]
    · rintro _ ⟨j5, j7, j8, r, H, rfl, hl2, hr2⟩
      rw [List.take_length] at hr2
      walk_at "v"
      refine wX_sumP rfl hl2 (by omega) (fun d hd => by have := hpl d hd; omega) ?_
      walk_at "v"
      have hll := lcs_le_left x y
      refine vitem_refn hr2 (by omega) (by rw [encI_len, rowOf_len]; omega) (by rw [encI_len, rowOf_len]; omega) (v := .int (lcs x y)) (by
        rw [encI_len, rowOf_len, show (-1 + ((y.length + 1 : Nat) : Int)).toNat = y.length from by omega]; unfold encI; rw [List.getElem?_map, rowOf_last]; rfl) ?_
      walk_at "v"
      rw [sum_cost, g4]
      unfold ed
      simp
end
section
open PySem PySem.W PyProof.Rows PySem.Calls PySem.Spec
set_option Elab.async false
set_option maxRecDepth 100000
set_option maxHeartbeats 4000000
set_option autoImplicit false
set_option linter.unusedVariables false
inductive Ent : List Str → List DictEntry → Prop
  | nil : Ent [] []
  | cons {k : Str} {ks : List Str} {e : DictEntry} {es : List DictEntry} (t : Tok) : e.key = .str k t → Ent ks es → Ent (k :: ks) (e :: es)
noncomputable def putK (name : Str) (ks : List Str) : List Str := if name ∈ ks then ks else ks ++ [name]
theorem Ent.len {ks : List Str} {es : List DictEntry} (h : Ent ks es) : es.length = ks.length := by
  induction h with
  | nil => rfl
  | cons t _ _ ih => rw [List.length_cons, List.length_cons, ih]
theorem Ent.noRef {ks : List Str} {es : List DictEntry} (h : Ent ks es) : es.any (·.refKey) = false := by
  induction h with
  | nil => rfl
  | cons t h _ ih => rw [List.any_cons, ih]; unfold DictEntry.refKey; rw [h]; rfl
theorem Ent.some_ {ks : List Str} {es : List DictEntry} {name : Str} (h : Ent ks es) : (getL name es).isSome = true := by
  unfold getL
  split
  · rfl
  · rw [h.noRef]; rfl
theorem Ent.miss {ks : List Str} {es : List DictEntry} {name : Str} (h : Ent ks es) : name ∉ ks → es.find? (·.key.isStr name) = none := by
  induction h with
  | nil => exact fun _ => rfl
  | cons t h1 _ ih =>
    rename_i k ks e es _
    intro hn
    have hk : e.key.isStr name = false := by
      rw [h1]
      exact beq_eq_false_iff_ne.mpr fun q => hn (by rw [q]; exact .head _)
    rw [List.find?_cons, hk]
    exact ih fun q => hn (.tail _ q)
theorem Ent.none_ {ks : List Str} {es : List DictEntry} {name : Str} (h : Ent ks es) (hn : name ∉ ks) : getL name es = some none := by
  unfold getL
  rw [h.miss hn]
  simp only [h.noRef]; rfl
theorem putK_hit {name k : Str} {ks : List Str} (h : k = name) : putK name (k :: ks) = k :: ks := by unfold putK; rw [if_pos (by rw [h]; exact .head _)]
theorem putK_miss {name k : Str} {ks : List Str} (h : ¬ k = name) : putK name (k :: ks) = k :: putK name ks := by
  unfold putK
  by_cases hm : name ∈ ks
  · rw [if_pos (.tail _ hm), if_pos hm]
  · rw [if_neg (fun q => (List.mem_cons.mp q).elim (fun q => h q.symm) hm), if_neg hm]; rfl
theorem Ent.put {name : Str} {hsh : Int} {t : Tok} {v : Value} {ks : List Str} {es : List DictEntry} (h : Ent ks es) : Ent (putK name ks) (putL name hsh (.str name t) v es) := by
  induction h with
  | nil => exact .cons t rfl .nil
  | cons u h1 h2 ih =>
    rename_i k ks e es
    unfold putL
    by_cases hk : k = name
    · have : e.key.isStr name = true := by rw [h1]; exact beq_iff_eq.mpr hk
      rw [if_pos this, putK_hit hk]
      exact .cons u h1 h2
    · have : ¬ e.key.isStr name = true := by rw [h1]; exact fun q => hk (beq_iff_eq.mp q)
      rw [if_neg this, putK_miss hk]
      exact .cons u h1 ih
theorem put_get {name : Str} {hsh : Int} {t : Tok} {v : Value} : ∀ es : List DictEntry, getL name (putL name hsh (.str name t) v es) = some (some v)
  | [] => by
    have : (Value.str name t).isStr name = true := beq_self_eq_true name
    simp [putL, getL, List.find?_cons, this]
  | e :: es => by
    have ih := put_get (name := name) (hsh := hsh) (t := t) (v := v) es
    unfold putL
    by_cases hk : e.key.isStr name = true
    · rw [if_pos hk]
      unfold getL
      rw [List.find?_cons, hk]
    · rw [if_neg hk]
      have hk' : e.key.isStr name = false := by simpa using hk
      unfold getL at ih ⊢
      rw [List.find?_cons, hk']
      split at ih
      · rename_i e' he
        simp only [he]; exact ih
      · rename_i he
        split at ih <;> cases ih
section
variable {prog : Program} {w : World} {A : Around} {E : Value → Shared → Prop} {s : Shared} {h₀ : Heap} {L x dx : Addr} {m : Str → Option Value} {es : List DictEntry} {n : Nat} {name : Str} {v : Value} {ks : List Str}
theorem setD {Q : Unit → Shared → Prop} (F : Fr h₀ L s.heap m) (X : (KK w.params).In h₀) (N : News h₀ L s.heap [(x, W.instObj 137 dx), (dx, W.dictOf es n)]) (hx : x ≠ dx)
    (hE : Ent ks es) (ht : takerIn (KK w.params) 137 name = some none) (hz : ks.length ≤ 100)
    (h : ∀ h' tk es' n', Fr h₀ L h' m → News h₀ L h' [(x, W.instObj 137 dx), (dx, W.dictOf es' n')] → Ent (putK name ks) es' → getL name es' = some (some v) → Q () { s with heap := h', toks := tk }) :
    wpAny (model prog w) A (setAttr (.ref x) name v) Q E s :=
  set_dict F X N (InstAt.of_news N (.head _) (.tail _ (.head _))) rfl rfl rfl ht rfl hE.some_ rfl (Upd.tail hx (Upd.head (List.forall_mem_nil _)))
    (by rw [hE.put.len]; unfold putK; split <;> (try simp only [List.length_append, List.length_cons, List.length_nil]) <;> omega) fun h' F' N' => h h' _ _ _ F' N' hE.put (put_get es)
end
noncomputable def K7 : List Str := [Str.ofString "Diff_Timeout", Str.ofString "Diff_EditCost", Str.ofString "Match_Threshold", Str.ofString "Match_Distance", Str.ofString "Patch_DeleteThreshold", Str.ofString "Patch_Margin", Str.ofString "Match_MaxBits"]
theorem all_miss {f : Nat → Option Str} {n : Nat} {p : Nat → Bool} (h0 : ∀ k, n ≤ k → f k = none) (h : ((List.range n).all fun k => p k || match f k with | some nm => decide (nm ∉ K7) | none => true) = true) (k : Nat) (nm : Str) (e : f k = some nm) (hp : p k = false) : nm ∉ K7 := by
  have hk : k < n := Nat.lt_of_not_le fun q => by rw [h0 k q] at e; cases e
  have := List.all_eq_true.mp h k (List.mem_range.mpr hk)
  rw [hp, e] at this
  exact of_decide_eq_true this
theorem at_miss (k : Nat) (nm : Str) (e : attrName k = some nm) (h3 : k ≠ 3) : nm ∉ K7 :=
  all_miss (f := attrName) (n := 4) (p := fun k => k == 3) (fun k hk => by obtain ⟨j, rfl⟩ := Nat.exists_eq_add_of_le' hk; rfl) (by decide +kernel) k nm e (beq_eq_false_iff_ne.mpr h3)
theorem me_miss (k : Nat) (nm : Str) (e : methName k = some nm) : nm ∉ K7 :=
  all_miss (f := methName) (n := 10) (p := fun _ => false) (fun k hk => by obtain ⟨j, rfl⟩ := Nat.exists_eq_add_of_le' hk; rfl) (by decide +kernel) k nm e rfl
theorem es_of {es : List DictEntry} {t : Tok} (h : Ent K7 es) (g : getL (Str.ofString "Diff_Timeout") es = some (some (.int 0 t))) : Es es where
  tim := ⟨t, g⟩
  at_ := fun k nm hn h3 => h.none_ (at_miss k nm hn h3)
  me := fun k nm hn => h.none_ (me_miss k nm hn)
theorem tool_made {w : World} {h₀ : Heap} {L fa : Addr} {cd : Value} {s : Shared} {m mg mb : Str → Option Value} {mean : ExcName → Option Value} {p : Program} {loose : List Str}
    (X' : (KK w.params).In h₀) (T' : Top p loose mean mg mb h₀) (K' : Below callerA h₀ [] h₀) (F' : Fr h₀ L s.heap m) (N' : News h₀ L s.heap []) {Q : Flow → Shared → Prop} {E : Value → Shared → Prop}
    (h : ∀ x dx es n h' tk, Fr h₀ L h' m → News h₀ L h' [(x, W.instObj 137 dx), (dx, W.dictOf es n)] → x ≠ dx → Ent K7 es →
      wpAny (model PySem.Challenge.rw_im0118_01.row.prog w) (callerA.deeper (envOf (Str.ofString "law") lawScope L fa cd)) (storeName (envOf (Str.ofString "law") lawScope L fa cd) (Str.ofString "tool") (.ref x)) (fun _ => Q .next) E { s with heap := h', toks := tk }) :
    wpAny (model PySem.Challenge.rw_im0118_01.row.prog w) (callerA.deeper (envOf (Str.ofString "law") lawScope L fa cd)) (exec ((lawBody.drop 2).headD default) (envOf (Str.ofString "law") lawScope L fa cd)) Q E s := by
  have e : (lawBody.drop 2).headD default = .Assign [.Name (Str.ofString "tool") ⟨323, 4, 323, 8⟩] (.Call (.Name (Str.ofString "diff_match_patch") ⟨323, 11, 323, 27⟩) [] [] ⟨323, 11, 323, 29⟩) ⟨323, 4, 323, 29⟩ := rfl
  rw [e]
  refine wpAny_Assign_Name (wpAny_Call_NameR (name_K F' X' (topRead_of T') (v := .ref 137) rfl ?_)) (by rfl)
  refine callWith_K0 (X'.keeps F'.keep) (by rfl) ?_
  refine wpAny_call (make_K F' N' (X'.keeps F'.keep) rfl rfl rfl ?_)
  intro x dx h' F1 N1 l1 l2
  have hx : x ≠ dx := Nat.ne_of_gt l2
  refine callX_plain (cl := []) K' F1 N1 T'.nolimit rfl rfl rfl ((X'.keeps F1.keep) _ _ rfl) rfl (codeRec_of (X'.keeps F1.keep) rfl) (by (try simp only [depth_under_make, depth_deeper, depth_caller]); decide) (BindsTo.of_eq (binds := [(Str.ofString "self", .ref x)]) rfl) (List.forall_mem_cons.mpr ⟨rfl, List.forall_mem_nil _⟩) ?_ (by decide) rfl rfl rfl
  intro g L' h₁ Fg F2 N2 B2 st2 _
  have X2 := X'.keeps st2
  have E2 : Ent [] [] := .nil
  refine wpAny_execs_cons (plainObj_wpAny_Assign_Attribute (wpAny_Constant_float (ld F2 rfl (setD F2 X2 N2 hx E2 rfl (by decide) fun h3 t3 es3 n3 F3 N3 E3 _ => ?_))) (by rfl))
  refine wpAny_execs_cons (plainObj_wpAny_Assign_Attribute (wpAny_Constant_int (ld F3 rfl (setD F3 X2 N3 hx E3 rfl (by decide) fun h4 t4 es4 n4 F4 N4 E4 _ => ?_))) (by rfl))
  refine wpAny_execs_cons (plainObj_wpAny_Assign_Attribute (wpAny_Constant_float (ld F4 rfl (setD F4 X2 N4 hx E4 rfl (by decide) fun h5 t5 es5 n5 F5 N5 E5 _ => ?_))) (by rfl))
  refine wpAny_execs_cons (plainObj_wpAny_Assign_Attribute (wpAny_Constant_int (ld F5 rfl (setD F5 X2 N5 hx E5 rfl (by decide) fun h6 t6 es6 n6 F6 N6 E6 _ => ?_))) (by rfl))
  refine wpAny_execs_cons (plainObj_wpAny_Assign_Attribute (wpAny_Constant_float (ld F6 rfl (setD F6 X2 N6 hx E6 rfl (by decide) fun h7 t7 es7 n7 F7 N7 E7 _ => ?_))) (by rfl))
  refine wpAny_execs_cons (plainObj_wpAny_Assign_Attribute (wpAny_Constant_int (ld F7 rfl (setD F7 X2 N7 hx E7 rfl (by decide) fun h8 t8 es8 n8 F8 N8 E8 _ => ?_))) (by rfl))
  refine wpAny_execs_cons (plainObj_wpAny_Assign_Attribute (wpAny_Constant_int (ld F8 rfl (setD F8 X2 N8 hx E8 rfl (by decide) fun h9 t9 es9 n9 F9 N9 E9 _ => ?_))) (by rfl))
  exact wpAny_execs_nil (leaveK_ F9 N9 fun Fa Na => ⟨rfl, h _ _ _ _ _ _ Fa Na hx (by exact E9)⟩)
end
section
open PySem PySem.W PyProof.Rows PySem.Calls PySem.Spec
set_option Elab.async false
set_option maxRecDepth 100000
set_option maxHeartbeats 4000000
set_option autoImplicit false
set_option linter.unusedVariables false
noncomputable def flat : V → Prop
  | .tup _ _ => False
  | _ => True
theorem Rep.flat {h h' : Heap} {v : V} {c : Value} (hf : Mine.flat v) (r : Rep h v c) : Rep h' v c := by
  cases v <;> first | exact hf.elim | exact r
noncomputable def AllFlat : List (Option V) → Prop
  | some v :: r => flat v ∧ AllFlat r
  | none :: r => AllFlat r
  | [] => True
theorem AllFlat.get {l : List (Option V)} : AllFlat l → ∀ (i : Nat) (v : V), l[i]? = some (some v) → flat v := by
  induction l with
  | nil => intro _ i v e; cases e
  | cons o l ih =>
    intro h i v e
    cases i with
    | zero =>
      have e : o = some v := Option.some.inj e
      subst e
      exact h.1
    | succ i =>
      cases o with
      | none => exact ih h i v e
      | some u => exact ih h.2 i v e
theorem mkAt {A : Around} {qn : Str} {L fa : Addr} {cd : Value} {h₀ : Heap} {s₀ s : Shared} {ex : List (Addr × Obj)} {m : Str → Option Value} {loc : List (Option V)} {hp : Heap}
    (F : Fr h₀ L s.heap m) (N : News h₀ L s.heap ex) (sh : s = { s₀ with heap := s.heap, toks := s.toks })
    (hf : AllFlat loc) (hl : ∀ (i : Nat) (x : Str) (v : V), nm_law[i]? = some x → loc[i]? = some (some v) → ∃ c, m x = some c ∧ Rep hp v c) : At (lawCx A qn L fa cd h₀ s₀ ex) ⟨loc, noH⟩ s where
  sh := sh
  fr := ⟨m, F, fun i x v e1 e2 => by
    obtain ⟨c, h1, h2⟩ := hl i x v e1 e2
    exact ⟨c, h1, h2.flat (hf.get i v e2)⟩⟩
  hp := fun a vs e => by cases e
  ex := fun p hp => ⟨(N p hp).1, (N p hp).2.1, rfl⟩
theorem exNews {cx : Cx} {σ : St} {s : Shared} (a : At cx σ s) (h : ∀ p ∈ cx.extra, cx.h₀.get? p.1 = none) : News cx.h₀ cx.L s.heap cx.extra := fun p hp => ⟨(a.ex p hp).1, (a.ex p hp).2.1, h p hp⟩
section
variable {prog : Program} {w : World} {sp : Sp}
theorem s1_law0 {A : Around} {qn : Str} {L fa : Addr} {cd : Value} {h₀ : Heap} {s₀ : Shared} {ex : List (Addr × Obj)} (ok : (lawCx A qn L fa cd h₀ s₀ ex).Ok) {scr : Addr} {vs : List Value} {ns : List Int}
    (hscr : (lawCx A qn L fa cd h₀ s₀ ex).h₀.IsList scr vs.toArray) (hI : IntsAre vs ns) (hns : ns.length ≤ 63) :
    S1 prog w (lawCx A qn L fa cd h₀ s₀ ex) sp (lawBody.headD default) (.asg 2 (joinM scr)) :=
  S1.asg ok rfl (SE.joinM ok rfl rfl rfl rfl hscr hI hns rfl (by decide) (by decide) rfl (by decide) rfl (by decide))
theorem s1_law1 {A : Around} {qn : Str} {L fa : Addr} {cd : Value} {h₀ : Heap} {s₀ : Shared} {ex : List (Addr × Obj)} (ok : (lawCx A qn L fa cd h₀ s₀ ex).Ok) {scr : Addr} {vs : List Value} {ns : List Int}
    (hscr : (lawCx A qn L fa cd h₀ s₀ ex).h₀.IsList scr vs.toArray) (hI : IntsAre vs ns) (hns : ns.length ≤ 63) :
    S1 prog w (lawCx A qn L fa cd h₀ s₀ ex) sp ((lawBody.drop 1).headD default) (.asg 3 (joinM scr)) :=
  S1.asg ok rfl (SE.joinM ok rfl rfl rfl rfl hscr hI hns rfl (by decide) (by decide) rfl (by decide) rfl (by decide))
end
theorem law_body : lawBody = lawBody.headD default :: (lawBody.drop 1).headD default :: (lawBody.drop 2).headD default :: (lawBody.drop 3).headD default :: lawBody.drop 4 := rfl
theorem bi_free {P : Params} {h₀ : Heap} {mg mb : Str → Option Value} {mean : ExcName → Option Value} {p : Program} {loose : List Str} (X' : (KK P).In h₀) (T' : Top p loose mean mg mb h₀) :
    ∀ x v, (x, v) ∈ biTable → mg x = none ∧ mb x = some v := by
  intro x v h
  simp only [biTable, List.mem_cons, Prod.mk.injEq, List.not_mem_nil, or_false] at h
  rcases h with ⟨rfl, rfl⟩ | ⟨rfl, rfl⟩ | ⟨rfl, rfl⟩ | ⟨rfl, rfl⟩ | ⟨rfl, rfl⟩
  · exact ⟨mg_none_of X' T'.g rfl, (T'.builtins _ (by decide)).trans (by boot_by_name)⟩
  · exact ⟨mg_none_of X' T'.g rfl, (T'.builtins _ (by decide)).trans (by boot_by_name)⟩
  · exact ⟨mg_none_of X' T'.g rfl, (T'.builtins _ (by decide)).trans (by boot_by_name)⟩
  · exact ⟨mg_none_of X' T'.g rfl, (T'.builtins _ (by decide)).trans (by boot_by_name)⟩
  · exact ⟨mg_none_of X' T'.g rfl, (T'.builtins _ (by decide)).trans (by boot_by_name)⟩
end
section
open PySem PySem.W PyProof.Rows PySem.Calls PySem.Spec
set_option Elab.async false
set_option maxRecDepth 100000
set_option maxHeartbeats 4000000
set_option autoImplicit false
set_option linter.unusedVariables false
noncomputable abbrev lawEnv (L fa : Addr) (cd : Value) : Env := envOf (Str.ofString "law") lawScope L fa cd
/-- from the making of the tool on -/
theorem law_rest {w : World} {h₀ : Heap} {L fa : Addr} {cd : Value} {s₀ s : Shared} {mg mb : Str → Option Value} {mean : ExcName → Option Value} {p : Program} {loose : List Str} {scr tool dx : Addr} {es : List DictEntry} {n : Nat} {x y : List Nat}
    (X' : (KK w.params).In h₀) (T' : Top p loose mean mg mb h₀) (E : Es es) (hx : x.length ≤ 63) (hy : y.length ≤ 63)
    (a : At (lawCx (callerA.deeper (lawEnv L fa cd)) (Str.ofString "law") L fa cd h₀ s₀ [(tool, W.instObj 137 dx), (dx, W.dictOf es n)])
      ⟨[some (.ref tool), some (.ref scr), some (.str x), some (.str y), none, none, none, none, none, none], noH⟩ s) :
    wpAny (model PySem.Challenge.pw_im0118_01 w) (callerA.deeper (lawEnv L fa cd)) (execs (lawBody.drop 4) (lawEnv L fa cd))
      (fun fl s' => fl = .ret (.bool true) ∧ (∀ b o, h₀.get? b = some o → s'.heap.get? b = some o) ∧ s' = { s₀ with heap := s'.heap, toks := s'.toks }) NoE s := by
  have ok := ok_law (A := callerA.deeper (lawEnv L fa cd)) (qn := Str.ofString "law") (L := L) (fa := fa) (cd := cd) (h₀ := h₀) (s₀ := s₀) (ex := [(tool, W.instObj 137 dx), (dx, W.dictOf es n)]) rfl
  have Y : Wd (KK w.params) mg mb tool dx 137 es n (lawCx (callerA.deeper (lawEnv L fa cd)) (Str.ofString "law") L fa cd h₀ s₀ [(tool, W.instObj 137 dx), (dx, W.dictOf es n)]) :=
    ⟨X', T'.g, T'.b, T'.nolimit, bi_free X' T', ⟨_, rfl⟩⟩
  have hd : (callerA.deeper (lawEnv L fa cd)).depth + 5 * (127 + 1) + 20 ≤ recursionLimit := by
    rw [depth_deeper, depth_caller]; decide
  refine wpAny_mono (ss_law2 Y ok (Y.globs ok) (Y.lk E) _ s _ a (v_law _ tool scr x y 128 (by omega) hx hy (all_main3 E 127 _ (by omega) Y rfl hd) (link_text1 Y E rfl (by show (callerA.deeper (lawEnv L fa cd)).depth < _; omega)) (link_text2 Y E rfl (by show (callerA.deeper (lawEnv L fa cd)).depth < _; omega)))) ?_ noE
  rintro fl s' ⟨g, σ', rf, a', k', rfl⟩
  cases rf with
  | ret r =>
    cases r
    obtain ⟨m, F, _⟩ := a'.fr
    exact ⟨rfl, F.keep, a'.sh⟩
theorem law_run {w : World} {h₀ : Heap} {L fa : Addr} {cd : Value} {s₀ s : Shared} {m mg mb : Str → Option Value} {mean : ExcName → Option Value} {p : Program} {loose : List Str} {scr : Addr} {vs : List Value} {ns : List Int}
    (X' : (KK w.params).In h₀) (T' : Top p loose mean mg mb h₀) (K' : Below callerA h₀ [] h₀) (F : Fr h₀ L s.heap m) (N : News h₀ L s.heap [])
    (hm : m (Str.ofString "script") = some (.ref scr)) (hscr : h₀.IsList scr vs.toArray) (hI : IntsAre vs ns) (hns : ns.length ≤ 63) (sh : s = { s₀ with heap := s.heap, toks := s.toks }) :
    wpAny (model PySem.Challenge.pw_im0118_01 w) (callerA.deeper (lawEnv L fa cd)) (execs lawBody (lawEnv L fa cd))
      (fun fl s' => fl = .ret (.bool true) ∧ (∀ b o, h₀.get? b = some o → s'.heap.get? b = some o) ∧ s' = { s₀ with heap := s'.heap, toks := s'.toks }) NoE s := by
  have ok := fun ex => ok_law (A := callerA.deeper (lawEnv L fa cd)) (qn := Str.ofString "law") (L := L) (fa := fa) (cd := cd) (h₀ := h₀) (s₀ := s₀) (ex := ex) rfl
  have a₀ : At (lawCx (callerA.deeper (lawEnv L fa cd)) (Str.ofString "law") L fa cd h₀ s₀ []) ⟨[none, some (.ref scr), none, none, none, none, none, none, none, none], noH⟩ s := by
    exact mkAt F N sh (hp := s.heap) (And.intro trivial trivial) (show Holds1 s.heap m nm_law [none, some (.ref scr), none, none, none, none, none, none, none, none] from And.intro ⟨_, hm, rfl⟩ trivial).get
  rw [law_body]
  -- the two texts
  refine wpAny_execs_cons (bindF (s1_law0 (sp := ⟨fun _ _ _ _ => False, fun _ => .none, 0⟩) (ok _) hscr hI hns _ s (fun g σ => ∃ x : List Nat, x.length ≤ 63 ∧ g = .next ∧ σ = ⟨[none, some (.ref scr), some (.str x), none, none, none, none, none, none, none], noH⟩) a₀ ?_) fun g f σ₁ s₁ rf a₁ k₁ h₁ => ?_)
  · exact And.intro rfl fun x hx => ⟨x, hx, rfl, rfl⟩
  obtain ⟨x, hx, rfl, rfl⟩ := h₁
  cases rf
  refine wpAny_execs_cons (bindF (s1_law1 (sp := ⟨fun _ _ _ _ => False, fun _ => .none, 0⟩) (ok _) hscr hI hns _ s₁ (fun g σ => ∃ y : List Nat, y.length ≤ 63 ∧ g = .next ∧ σ = ⟨[none, some (.ref scr), some (.str x), some (.str y), none, none, none, none, none, none], noH⟩) a₁ ?_) fun g f σ₂ s₂ rf a₂ k₂ h₂ => ?_)
  · exact And.intro rfl fun y hy => ⟨y, hy, rfl, rfl⟩
  obtain ⟨y, hy, rfl, rfl⟩ := h₂
  cases rf
  -- the tool
  obtain ⟨m₂, F₂, r₂⟩ := id a₂.fr
  have N₂ : News h₀ L s₂.heap [] := exNews a₂ fun p hp => by cases hp
  refine wpAny_execs_cons (tool_made X' T' K' F₂ N₂ fun tool dx es n h' tk F₃ N₃ hx87 hE => ?_)
  have a₃ : At (lawCx (callerA.deeper (lawEnv L fa cd)) (Str.ofString "law") L fa cd h₀ s₀ [(tool, W.instObj 137 dx), (dx, W.dictOf es n)]) ⟨[none, some (.ref scr), some (.str x), some (.str y), none, none, none, none, none, none], noH⟩ { s₂ with heap := h', toks := tk } := by
    exact mkAt F₃ N₃ (by have := a₂.sh; rw [this]; rfl) (hp := s₂.heap) (And.intro trivial (And.intro trivial (And.intro trivial trivial))) r₂
  refine a₃.store (ok _) (i := 0) (v := .ref tool) rfl rfl fun s₄ a₄ k₄ => ?_
  have n1 : h₀.get? tool = none := (N₃ _ (.head _)).2.2
  have n2 : h₀.get? dx = none := (N₃ _ (.tail _ (.head _))).2.2
  have N₄ := exNews a₄ (List.forall_mem_cons.mpr ⟨n1, List.forall_mem_cons.mpr ⟨n2, List.forall_mem_nil _⟩⟩)
  obtain ⟨m₄, F₄, r₄⟩ := id a₄.fr
  have sh₄ := a₄.sh
  -- no time limit
  have e3 : (lawBody.drop 3).headD default = .Assign [.Attribute (.Name (Str.ofString "tool") ⟨324, 4, 324, 8⟩) (Str.ofString "Diff_Timeout") ⟨324, 4, 324, 21⟩] (.Constant (.int 0) 0 ⟨324, 24, 324, 25⟩) ⟨324, 4, 324, 25⟩ := rfl
  refine wpAny_execs_cons ?_
  rw [e3]
  refine plainObj_wpAny_Assign_Attribute (wpAny_Constant_int (wpAny_Name ((a₄.toks _).load (ok _) (i := 0) (v := .ref tool) rfl rfl fun c rc => ?_) (by decide))) (by rfl)
  cases rc
  refine setD F₄ X' N₄ hx87 hE rfl (by decide) fun h₅ t₅ es₅ n₅ F₅ N₅ E₅ g₅ => ?_
  have hK : putK (Str.ofString "Diff_Timeout") K7 = K7 := by decide
  rw [hK] at E₅
  refine law_rest (scr := scr) (x := x) (y := y) X' T' (es_of E₅ g₅) hx hy (mkAt F₅ N₅ (congrArg (fun z : Shared => { z with heap := h₅, toks := t₅ }) sh₄) (hp := s₄.heap) (And.intro trivial (And.intro trivial (And.intro trivial (And.intro trivial trivial)))) r₄)
theorem law_all {w : World} {h₀ : Heap} {L fa : Addr} {cd : Value} {s : Shared} {m mg mb : Str → Option Value} {mean : ExcName → Option Value} {p : Program} {loose : List Str} {scr : Addr} {vs : List Value} {ns : List Int}
    (X' : (KK w.params).In h₀) (T' : Top p loose mean mg mb h₀) (K' : Below callerA h₀ [] h₀) (F : Fr h₀ L s.heap m) (N : News h₀ L s.heap [])
    (hscr : h₀.IsList scr vs.toArray) (hI : IntsAre vs ns) (hm : m (Str.ofString "script") = some (.ref scr)) (hns : ns.length ≤ 63) :
    wpAny (model PySem.Challenge.pw_im0118_01 w) (callerA.deeper (lawEnv L fa cd)) (execs lawBody (lawEnv L fa cd))
      (fun fl s' => fl = .ret (.bool true) ∧ (∀ b o, h₀.get? b = some o → s'.heap.get? b = some o) ∧ s' = { s with heap := s'.heap, toks := s'.toks }) NoE s :=
  law_run X' T' K' F N hm hscr hI hns rfl
end
section
open PySem PySem.W PyProof.Rows
set_option Elab.async false
set_option maxRecDepth 100000
set_option maxHeartbeats 8000000
theorem law_holds : PySem.Challenge.rw_im0118_01.Holds := by
  (w_on; o_law; o_head (kHook KK KA (fun _ => by rfl)); (case hw => w_witness2); w_strict (
    intro w s₀ s₁ mg mb G Y fa o pm cd doc dV kV ho hd hcd hD hmg hg args vals as hpre hlay hrd hwl hlo
    have KX := kIn_of Y
    refine Ground.open G ?_
    intro T B D TE TW
    clear hmg
    wrow_args hpre hlay hrd hwl hlo
    (first | refine callC_kw (enter_call ?_) | refine enter_call ?_ | refine callC_kw (enter_callW ?_) | refine enter_callW ?_)
    refine codeAny_mono ?_ (fun _ _ g => GoodW.toG g)
    have K0 := below_caller (Top.heap T)
    w_call any ho hd hcd hD T F
    refine wpAny_mono (law_all (by assumption) (by assumption) (by assumption) (by assumption) (by assumption) (by assumption) (by assumption) (by rfl) (by omega)) (fun fl s' h => ?_) (fun e s' h => h.elim)
    obtain ⟨rfl, h1, h2⟩ := h
    exact ⟨.inl ⟨.bool true, .bool true, [], rfl, raisesW_false (by wrow_none_raised), .bool true, by wrow_post, fun _ => ⟨.nil, fun a ha => nomatch ha⟩⟩, h1, by rw [h2], by rw [h2]; assumption⟩))
end
end Mine
open PySem PySem.W
theorem PySem.Challenge.cw_im0118_01_holds : PySem.Challenge.rw_im0118_01.Holds := by
  exact Mine.law_holds
