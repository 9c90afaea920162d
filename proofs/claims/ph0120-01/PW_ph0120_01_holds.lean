import PyProof.Rows.All
import Wide.All
import OpenK.AllK
import Wide.FinOn
import PySem.Challenge.RW_ph0120_01
set_option Elab.async false
set_option compiler.extract_closed false

section
open PySem PySem.W PyProof.Rows
set_option maxRecDepth 100000
set_option maxHeartbeats 8000000
namespace Mine
open_top hd for PySem.Challenge.rw_ph0120_01
end Mine

end

section
open PySem PySem.W PyProof.Rows PySem.Calls
set_option maxRecDepth 100000
set_option maxHeartbeats 1000000
namespace Mine

noncomputable abbrev PG : Program := PySem.Challenge.pw_ph0120_01
noncomputable abbrev KK (w : World) : Frag := hd.heap_39 w.params
noncomputable abbrev Keep (h h' : Heap) : Prop := ∀ b o, h.get? b = some o → h'.get? b = some o

theorem Keep.trans {h₁ h₂ h₃ : Heap} (a : Keep h₁ h₂) (b : Keep h₂ h₃) : Keep h₁ h₃ := fun x o e => b x o (a x o e)

theorem hd_up {X : List Addr} {h h' : Heap} (k : ∀ b o, b ∉ X → h.get? b = some o → h'.get? b = some o) : Keep (hideAll h X) (hideAll h' X) := fun b o e => by
  by_cases hb : b ∈ X
  · rw [hideAll_none X hb] at e; cases e
  · exact hideAll_get X (k b o hb (of_hideAll X e)) hb
theorem hd_keep {X : List Addr} {h h' : Heap} (k : Keep h h') : Keep (hideAll h X) (hideAll h' X) := hd_up fun b o _ e => k b o e
theorem hd_sub {X X' : List Addr} {h : Heap} (k : ∀ a ∈ X', a ∈ X) : Keep (hideAll h X) (hideAll h X') := fun b o e => by
  by_cases hb : b ∈ X
  · rw [hideAll_none X hb] at e; cases e
  · exact hideAll_get X' (of_hideAll X e) fun q => hb (k b q)
theorem hd_low {X : List Addr} {h : Heap} : Keep (hideAll h X) h := fun _ _ e => of_hideAll X e

structure Ty where
  P : Heap → Value → Prop
  up : ∀ {h h' : Heap} {v : Value}, Keep h h' → P h v → P h' v

noncomputable def TInt (n : Int) : Ty := ⟨fun _ v => ∃ t, v = .int n t, fun _ h => h⟩
noncomputable def TFlt (x : UInt64) : Ty := ⟨fun _ v => ∃ t, v = .float x t, fun _ h => h⟩
noncomputable def TStr (x : Str) : Ty := ⟨fun _ v => ∃ t, v = .str x t, fun _ h => h⟩
noncomputable def TBool (b : Bool) : Ty := ⟨fun _ v => v = .bool b, fun _ h => h⟩
noncomputable def TVal (u : Value) : Ty := ⟨fun _ v => v = u, fun _ h => h⟩

noncomputable def All2 (h : Heap) : List Value → List Ty → Prop
  | [], [] => True
  | v :: vs, T :: Ts => T.P h v ∧ All2 h vs Ts
  | _, _ => False
theorem All2.up {h h' : Heap} (k : Keep h h') : ∀ {vs : List Value} {Ts : List Ty}, All2 h vs Ts → All2 h' vs Ts
  | [], [], _ => trivial
  | _ :: _, T :: _, ⟨a, b⟩ => ⟨T.up k a, All2.up k b⟩
theorem All2.length {h : Heap} : ∀ {vs : List Value} {Ts : List Ty}, All2 h vs Ts → vs.length = Ts.length
  | [], [], _ => rfl
  | _ :: _, _ :: _, ⟨_, b⟩ => by simp [All2.length b]
theorem All2.get {h : Heap} : ∀ {vs : List Value} {Ts : List Ty}, All2 h vs Ts → ∀ {i : Nat} {T : Ty}, Ts[i]? = some T → ∃ v, vs[i]? = some v ∧ T.P h v
  | [], [], _, _, _, e => by simp at e
  | v :: _, _ :: _, ⟨a, _⟩, 0, T, e => ⟨v, rfl, by simp at e; subst e; exact a⟩
  | _ :: _, _ :: _, ⟨_, b⟩, i + 1, T, e => by simpa using All2.get b (i := i) (by simpa using e)
theorem All2.get' {h : Heap} : ∀ {vs : List Value} {Ts : List Ty}, All2 h vs Ts → ∀ {i : Nat} {v : Value}, vs[i]? = some v → ∃ T, Ts[i]? = some T ∧ T.P h v
  | [], [], _, _, _, e => by simp at e
  | _ :: _, T :: _, ⟨a, _⟩, 0, v, e => ⟨T, rfl, by simp at e; subst e; exact a⟩
  | _ :: _, _ :: _, ⟨_, b⟩, i + 1, v, e => by simpa using All2.get' b (i := i) (by simpa using e)
theorem All2.app {h : Heap} : ∀ {vs us : List Value} {Ts Us : List Ty}, All2 h vs Ts → All2 h us Us → All2 h (vs ++ us) (Ts ++ Us)
  | [], _, [], _, _, b => b
  | _ :: _, _, _ :: _, _, ⟨a, b⟩, c => ⟨a, All2.app b c⟩
theorem All2.s1 {h : Heap} {vals : List Value} {T1 : Ty} (p : All2 h vals [T1]) : ∃ v1, vals = [v1] := match vals, p with | [v1], _ => ⟨v1, rfl⟩
theorem All2.s2 {h : Heap} {vals : List Value} {T1 T2 : Ty} (p : All2 h vals [T1, T2]) : ∃ v1 v2, vals = [v1, v2] := match vals, p with | [v1, v2], _ => ⟨v1, v2, rfl⟩
theorem All2.s3 {h : Heap} {vals : List Value} {T1 T2 T3 : Ty} (p : All2 h vals [T1, T2, T3]) : ∃ v1 v2 v3, vals = [v1, v2, v3] := match vals, p with | [v1, v2, v3], _ => ⟨v1, v2, v3, rfl⟩
theorem All2.one {h : Heap} {v : Value} {T : Ty} (a : T.P h v) : All2 h [v] [T] := ⟨a, trivial⟩

noncomputable def IsL (h : Heap) (v : Value) (Ts : List Ty) : Prop := ∃ (a : Addr) (vs : List Value), v = .ref a ∧ h.PlainList a vs.toArray ∧ All2 h vs Ts
theorem IsL.up {h h' : Heap} {v : Value} {Ts : List Ty} (k : Keep h h') (x : IsL h v Ts) : IsL h' v Ts := by
  obtain ⟨a, vs, e, l, r⟩ := x
  exact ⟨a, vs, e, l.at fun o e => k _ o e, r.up k⟩
noncomputable def IsT (h : Heap) (v : Value) (Ts : List Ty) : Prop := ∃ (a : Addr) (vs : List Value) (n : Nat), v = .ref a ∧ h.get? a = some { cls := .type "tuple", data := .seq vs.toArray n } ∧ All2 h vs Ts
theorem IsT.up {h h' : Heap} {v : Value} {Ts : List Ty} (k : Keep h h') (x : IsT h v Ts) : IsT h' v Ts := by
  obtain ⟨a, vs, n, e, l, r⟩ := x
  exact ⟨a, vs, n, e, k _ _ l, r.up k⟩
noncomputable def TList (Ts : List Ty) : Ty := ⟨fun h v => IsL h v Ts, IsL.up⟩
noncomputable def TTup (Ts : List Ty) : Ty := ⟨fun h v => IsT h v Ts, IsT.up⟩

structure Kp (s s' : Shared) : Prop where
  same : ∃ h tk, s' = { s with heap := h, toks := tk }
  keep : Keep s.heap s'.heap
theorem Kp.refl (s : Shared) : Kp s s := ⟨⟨s.heap, s.toks, rfl⟩, fun _ _ e => e⟩
theorem Kp.trans {s₁ s₂ s₃ : Shared} (a : Kp s₁ s₂) (b : Kp s₂ s₃) : Kp s₁ s₃ := by
  obtain ⟨⟨h₁, t₁, rfl⟩, k₁⟩ := a
  obtain ⟨⟨h₂, t₂, rfl⟩, k₂⟩ := b
  exact ⟨⟨h₂, t₂, rfl⟩, fun b o e => k₂ b o (k₁ b o e)⟩
theorem Kp.tok (s : Shared) (t : Nat) : Kp s { s with toks := t } := ⟨⟨s.heap, t, rfl⟩, fun _ _ e => e⟩
theorem Kp.of {s : Shared} {h : Heap} {t : Nat} (k : Keep s.heap h) : Kp s { s with heap := h, toks := t } := ⟨⟨h, t, rfl⟩, k⟩
theorem Kp.of' {s : Shared} {h : Heap} (k : Keep s.heap h) : Kp s { s with heap := h } := ⟨⟨h, s.toks, rfl⟩, k⟩
theorem Kp.ofK {s s' : Shared} (k : Keeps s s') : Kp s s' := by
  obtain ⟨h, t, rfl, k⟩ := k
  exact ⟨⟨h, t, rfl⟩, k⟩
theorem Kp.push (s : Shared) (o : Obj) : Kp s { s with heap := s.heap.push o } := ⟨⟨_, s.toks, rfl⟩, fun _ _ e => Heap.get?_push_of_some _ e⟩

/-- a computation that only makes new objects, and gives a T -/
noncomputable def PR (w : World) (A : Around) (X : List Addr) (s : Shared) (t : Sem Value) (T : Ty) : Prop :=
  ∀ (Q : Value → Shared → Prop) (E : Value → Shared → Prop), (∀ v s', Kp s s' → T.P (hideAll s'.heap X) v → Q v s') → wpAny (model PG w) A t Q E s


structure Room (n : Nat) (A : Around) : Prop where
  handled : A.handled = none
  depth : A.depth + n < recursionLimit
  units : A.units + 8 * n + 140 < cLine
theorem Room.deeper {n : Nat} {A : Around} (r : Room (n + 1) A) (env : Env) : Room n (A.deeper env) :=
  ⟨r.handled, by have := r.depth; show A.depth + 1 + n < _; omega, by have := r.units; show A.units + 3 + 8 * n + 140 < _; omega⟩
theorem Room.in1 {n : Nat} {A : Around} (r : Room (n + 1) A) : Room n A.in1 :=
  ⟨r.handled, by have := r.depth; show A.depth + n < _; omega, by have := r.units; show A.units + 1 + 8 * n + 140 < _; omega⟩
theorem Room.le {n m : Nat} {A : Around} (r : Room n A) (h : m ≤ n) : Room m A :=
  ⟨r.handled, by have := r.depth; omega, by have := r.units; omega⟩

structure TopOk (w : World) (h : Heap) : Prop where
  k : (KK w).In h
  g : ∃ mg, h.Ns mainGlobals mg
  b : ∃ mb, h.Ns builtinsNs mb ∧ ∀ x : Str, x ≠ "__name__" → mb x = bootBuiltins x
  nolimit : h.NoLimit
  nodigits : ∃ mc, h.Ns cStatics mc ∧ mc "sys.int_max_str_digits" = none
theorem TopOk.keeps {w : World} {h h' : Heap} (T : TopOk w h) (k : Keep h h') : TopOk w h' :=
  ⟨T.k.keeps k, let ⟨m, e⟩ := T.g; ⟨m, e.keeps k⟩, let ⟨m, e, f⟩ := T.b; ⟨m, e.keeps k, f⟩, T.nolimit.keeps k, let ⟨m, e, f⟩ := T.nodigits; ⟨m, e.keeps k, f⟩⟩

structure Cx where
  w : World
  A : Around
  s₀ : Shared
  X : List Addr
  env : Env
  n : Nat

/-- the name x reads v -/
noncomputable def Rd (env : Env) (h : Heap) (x : Str) (v : Value) : Prop :=
  (env.kindOf x = some .local ∧ ∃ m, h.Ns env.locals m ∧ m x = some v) ∨
  ((env.kindOf x = some .cell ∨ env.kindOf x = some .free) ∧ ∃ c, env.cells.lookup x = some c ∧ h.IsCell c (some v))
theorem Rd.keeps {env : Env} {h h' : Heap} {x : Str} {v : Value} (r : Rd env h x v) (k : Keep h h') : Rd env h' x v := by
  rcases r with ⟨a, m, b, c⟩ | ⟨a, c, b, d⟩
  · exact .inl ⟨a, m, b.keeps k, c⟩
  · exact .inr ⟨a, c, b, d.keeps k⟩

structure EnvOk (env : Env) : Prop where
  kind : env.scope.kind = .function
  globals : env.globals = mainGlobals
  builtins : env.builtins = builtinsNs
  apart : ∀ x y c, env.cells.lookup x = some c → env.cells.lookup y = some c → x = y
  ne : ∀ x c, env.cells.lookup x = some c → c ≠ env.locals

noncomputable abbrev Gam := List (Str × Ty)
noncomputable abbrev Own := List (Addr × (Obj → Prop))

/-- what is written of a frame: its names' kinds, its cells, the addresses that it hides -/
structure Fx where
  N : List (Str × NameKind)
  C : List (Str × Addr)
  Y : List Addr

structure Inv (c : Cx) (F : Fx) (Γ : Gam) (Ω : Own) (s : Shared) : Prop where
  top : TopOk c.w c.s₀.heap
  room : Room c.n c.A
  env : EnvOk c.env
  names : c.env.scope.names = F.N
  clls : c.env.cells = F.C
  low : ∀ a ∈ c.X, ∃ o, c.s₀.heap.get? a = some o
  same : ∃ h tk, s = { c.s₀ with heap := h, toks := tk }
  keep : Keep c.s₀.heap s.heap
  fresh : ∀ a ∈ F.Y, c.s₀.heap.get? a = none ∧ ∃ o, s.heap.get? a = some o
  loc : c.env.locals ∈ F.Y
  ns : ∃ m, s.heap.Ns c.env.locals m
  cells : ∀ x k, c.env.cells.lookup x = some k → (∃ v, s.heap.IsCell k v) ∧ k ∈ F.Y ++ c.X
  vars : ∀ x T, Γ.lookup x = some T → ∃ v, Rd c.env s.heap x v ∧ T.P (hideAll s.heap (F.Y ++ c.X)) v
  own : ∀ p ∈ Ω, (∃ o, s.heap.get? p.1 = some o ∧ p.2 o) ∧ p.1 ≠ c.env.locals ∧ ∀ x k, c.env.cells.lookup x = some k → k ≠ p.1
  ownNd : Ω.Pairwise fun p q => p.1 = q.1 → p.1 ∉ F.Y

theorem Inv.kindOf {c : Cx} {F : Fx} {Γ : Gam} {Ω : Own} {s : Shared} (I : Inv c F Γ Ω s) {x : Str} {k : NameKind} (e : F.N.lookup x = some k) : c.env.kindOf x = some k := by
  unfold Env.kindOf; rw [I.names]; exact e
theorem Inv.cellAt {c : Cx} {F : Fx} {Γ : Gam} {Ω : Own} {s : Shared} (I : Inv c F Γ Ω s) {x : Str} {k : Addr} (e : F.C.lookup x = some k) : c.env.cells.lookup x = some k := by
  rw [I.clls]; exact e
end Mine

end

section
open PySem PySem.W PyProof.Rows PySem.Calls
set_option maxRecDepth 100000
set_option maxHeartbeats 1000000
set_option linter.unusedVariables false
namespace Mine

section
variable {c : Cx} {F : Fx} {Γ : Gam} {Ω : Own} {s s' : Shared}

theorem Inv.keeps (I : Inv c F Γ Ω s) (k : Kp s s') : Inv c F Γ Ω s' := by
  have kk := k.keep
  obtain ⟨⟨h', t', rfl⟩, _⟩ := k
  exact { top := I.top, room := I.room, env := I.env, low := I.low, ownNd := I.ownNd, loc := I.loc, names := I.names, clls := I.clls
          same := let ⟨h, tk, e⟩ := I.same; ⟨h', t', by rw [e]⟩
          keep := I.keep.trans kk
          fresh := fun a ha => ⟨(I.fresh a ha).1, let ⟨o, e⟩ := (I.fresh a ha).2; ⟨o, kk _ _ e⟩⟩
          ns := let ⟨m, e⟩ := I.ns; ⟨m, e.keeps kk⟩
          cells := fun x k' e => ⟨let ⟨v, q⟩ := (I.cells x k' e).1; ⟨v, q.keeps kk⟩, (I.cells x k' e).2⟩
          vars := fun x T e => let ⟨v, a, b⟩ := I.vars x T e; ⟨v, a.keeps kk, T.up (hd_keep kk) b⟩
          own := fun p hp => ⟨let ⟨o, e, q⟩ := (I.own p hp).1; ⟨o, kk _ _ e, q⟩, (I.own p hp).2⟩ }

theorem Inv.topS (I : Inv c F Γ Ω s) : TopOk c.w s.heap := I.top.keeps I.keep
theorem Inv.lowS (I : Inv c F Γ Ω s) : ∀ a ∈ F.Y ++ c.X, ∃ o, s.heap.get? a = some o := fun a ha => by
  rcases List.mem_append.mp ha with q | q
  · exact (I.fresh a q).2
  · obtain ⟨o, e⟩ := I.low a q; exact ⟨o, I.keep _ _ e⟩
theorem Inv.notX (I : Inv c F Γ Ω s) {a : Addr} (ha : a ∈ F.Y) : a ∉ c.X := fun q => by
  obtain ⟨o, e⟩ := I.low a q
  rw [(I.fresh a ha).1] at e; cases e

theorem Inv.sub {Γ' : Gam} (I : Inv c F Γ Ω s) (h : ∀ x T, Γ'.lookup x = some T → Γ.lookup x = some T) : Inv c F Γ' Ω s :=
  { I with vars := fun x T e => I.vars x T (h x T e) }

/-- a step that changes one own address alone -/
structure Chg (a : Addr) (s s' : Shared) : Prop where
  same : ∃ h tk, s' = { s with heap := h, toks := tk }
  but : ∀ b o, b ≠ a → s.heap.get? b = some o → s'.heap.get? b = some o
  there : ∃ o, s'.heap.get? a = some o

theorem Chg.of {a : Addr} {s : Shared} {h' : Heap} {tk : Nat} (hs : Heap.SameBut a s.heap h') (ht : ∃ o, h'.get? a = some o) : Chg a s { s with heap := h', toks := tk } :=
  ⟨⟨h', tk, rfl⟩, fun b o hb e => (hs.2 b hb).trans e, ht⟩

theorem Inv.chgHd {a : Addr} (ha : a ∈ F.Y) (g : Chg a s s') : Keep (hideAll s.heap (F.Y ++ c.X)) (hideAll s'.heap (F.Y ++ c.X)) :=
  hd_up fun b o hb e => g.but b o (fun q => hb (q ▸ List.mem_append_left _ ha)) e

theorem Inv.chgKeep {a : Addr} (I : Inv c F Γ Ω s) (ha : a ∈ F.Y) (g : Chg a s s') : Keep c.s₀.heap s'.heap := fun b o e =>
  g.but b o (fun q => by rw [q, (I.fresh a ha).1] at e; cases e) (I.keep b o e)

theorem Rd.store_local {env : Env} {h h' : Heap} {x y : Str} {v u : Value} {m : Str → Option Value} (O : EnvOk env) (r : Rd env h y u) (hm : h.Ns env.locals m)
    (hn : h'.Ns env.locals (fun z => if z = x then some v else m z)) (hs : Heap.SameBut env.locals h h') (hx : env.kindOf x = some .local) (hne : y ≠ x) : Rd env h' y u := by
  rcases r with ⟨a, m', b, e⟩ | ⟨a, k, b, d⟩
  · refine .inl ⟨a, _, hn, ?_⟩
    have : m' = m := by
      obtain ⟨o, es, ep, h1, h2, _, h4⟩ := b
      obtain ⟨o', es', ep', g1, g2, _, g4⟩ := hm
      rw [h1] at g1; cases g1; rw [h2] at g2; cases g2
      funext z; rw [← h4, ← g4]
    subst this
    simpa [hne] using e
  · exact .inr ⟨a, k, b, d.sameBut hs (O.ne _ _ b)⟩

theorem Rd.store_cell {env : Env} {h h' : Heap} {x y : Str} {u : Value} {k : Addr} (O : EnvOk env) (r : Rd env h y u) (hk : env.cells.lookup x = some k)
    (hs : Heap.SameBut k h h') (hne : y ≠ x) : Rd env h' y u := by
  rcases r with ⟨a, m', b, e⟩ | ⟨a, k', b, d⟩
  · exact .inl ⟨a, m', b.sameBut hs (fun q => O.ne _ _ hk q.symm), e⟩
  · exact .inr ⟨a, k', b, d.sameBut hs (fun q => hne (O.apart _ _ _ b (q ▸ hk)))⟩

theorem lookup_ne {x y : Str} {T U : Ty} {Γ : Gam} (hne : y ≠ x) (e : ((x, T) :: Γ).lookup y = some U) : Γ.lookup y = some U := by
  rw [List.lookup_cons, beq_eq_false_iff_ne.mpr hne] at e; exact e
theorem lookup_eq {x : Str} {T U : Ty} {Γ : Gam} (e : ((x, T) :: Γ).lookup x = some U) : U = T := by
  rw [List.lookup_cons, beq_self_eq_true] at e; exact (Option.some.inj e).symm

/-- only the frame's names were written -/
noncomputable def StK (c : Cx) (s s' : Shared) : Prop := ∀ b o, b ≠ c.env.locals → (∀ x, c.env.cells.lookup x ≠ some b) → s.heap.get? b = some o → s'.heap.get? b = some o
theorem StK.hide (I : Inv c F Γ Ω s) (k : StK c s s') : Keep (hideAll s.heap (F.Y ++ c.X)) (hideAll s'.heap (F.Y ++ c.X)) :=
  hd_up fun b o hb e => k b o (fun q => hb (q ▸ List.mem_append_left _ I.loc)) (fun x q => hb (I.cells x b q).2) e
theorem StK.trans {s₁ s₂ s₃ : Shared} (a : StK c s₁ s₂) (b : StK c s₂ s₃) : StK c s₁ s₃ := fun x o h1 h2 e => b x o h1 h2 (a x o h1 h2 e)
theorem StK.refl : StK c s s := fun _ _ _ _ e => e
theorem StK.kp (k : Kp s s') : StK c s s' := fun b o _ _ e => k.keep b o e

/-- storing a name: local or own cell -/
theorem st_name {x : Str} {v : Value} {T : Ty} {Q : Unit → Shared → Prop} {E : Value → Shared → Prop} (I : Inv c F Γ Ω s) (hv : T.P (hideAll s.heap (F.Y ++ c.X)) v)
    (hx0 : F.N.lookup x = some .local ∨ (F.N.lookup x = some .cell ∧ ∃ k, F.C.lookup x = some k ∧ k ∈ F.Y))
    (h : ∀ s', Inv c F ((x, T) :: Γ) Ω s' → StK c s s' → Q () s') : wpAny (model PG c.w) c.A (storeName c.env x v) Q E s := by
  have O := I.env
  have hx : c.env.kindOf x = some .local ∨ (c.env.kindOf x = some .cell ∧ ∃ k, c.env.cells.lookup x = some k ∧ k ∈ F.Y) :=
    hx0.imp I.kindOf fun ⟨a, k, b, d⟩ => ⟨I.kindOf a, k, I.cellAt b, d⟩
  rcases hx with hx | ⟨hx, k, hk, hkY⟩
  · obtain ⟨m, hm⟩ := I.ns
    refine wpAny_storeName_local hx hm (fun h' hn hs => ?_) (by rw [O.kind]; rfl)
    have ht : ∃ o, h'.get? c.env.locals = some o := let ⟨o, _, _, e, _⟩ := hn; ⟨o, e⟩
    have g : Chg c.env.locals s { s with heap := h', toks := s.toks + 1 } := Chg.of hs ht
    have kp := Inv.chgHd (c := c) I.loc g
    refine h _ ?_ fun b o hb _ e => g.but b o hb e
    exact { top := I.top, room := I.room, env := I.env, low := I.low, ownNd := I.ownNd, loc := I.loc, names := I.names, clls := I.clls
            same := let ⟨_, _, e⟩ := I.same; ⟨h', s.toks + 1, by rw [e]⟩
            keep := I.chgKeep I.loc g
            fresh := fun a ha => ⟨(I.fresh a ha).1, by
              by_cases q : a = c.env.locals
              · subst q; exact ht
              · obtain ⟨o, e⟩ := (I.fresh a ha).2; exact ⟨o, g.but a o q e⟩⟩
            ns := ⟨_, hn⟩
            cells := fun y k' e => ⟨let ⟨u, q⟩ := (I.cells y k' e).1; ⟨u, q.sameBut hs (O.ne _ _ e)⟩, (I.cells y k' e).2⟩
            vars := fun y U e => by
              by_cases q : y = x
              · subst q
                obtain rfl := lookup_eq e
                exact ⟨v, .inl ⟨hx, _, hn, by simp⟩, U.up kp hv⟩
              · obtain ⟨u, a, b⟩ := I.vars y U (lookup_ne q e)
                exact ⟨u, a.store_local O hm hn hs hx q, U.up kp b⟩
            own := fun p hp => ⟨let ⟨o, e, q⟩ := (I.own p hp).1; ⟨o, g.but _ _ (I.own p hp).2.1 e, q⟩, (I.own p hp).2⟩ }
  · obtain ⟨⟨v₀, hc⟩, _⟩ := I.cells x k hk
    refine wpAny_storeName_cell O.kind hx hk hc (fun h' hn hs => ?_)
    have ht : ∃ o, h'.get? k = some o := let ⟨o, e, _⟩ := hn; ⟨o, e⟩
    have g : Chg k s { s with heap := h', toks := s.toks } := Chg.of hs ht
    have kp := Inv.chgHd (c := c) hkY g
    refine h { s with heap := h' } ?_ fun b o _ hb e => g.but b o (fun q => hb x (q ▸ hk)) e
    exact { top := I.top, room := I.room, env := I.env, low := I.low, ownNd := I.ownNd, loc := I.loc, names := I.names, clls := I.clls
            same := let ⟨_, _, e⟩ := I.same; ⟨h', s.toks, by rw [e]⟩
            keep := I.chgKeep hkY g
            fresh := fun a ha => ⟨(I.fresh a ha).1, by
              by_cases q : a = k
              · subst q; exact ht
              · obtain ⟨o, e⟩ := (I.fresh a ha).2; exact ⟨o, g.but a o q e⟩⟩
            ns := let ⟨m, e⟩ := I.ns; ⟨m, e.sameBut hs (fun q => O.ne _ _ hk q.symm)⟩
            cells := fun y k' e => ⟨by
              obtain ⟨u, q⟩ := (I.cells y k' e).1
              by_cases z : k' = k
              · subst z; exact ⟨_, hn⟩
              · exact ⟨u, q.sameBut hs z⟩, (I.cells y k' e).2⟩
            vars := fun y U e => by
              by_cases q : y = x
              · subst q
                obtain rfl := lookup_eq e
                exact ⟨v, .inr ⟨.inl hx, k, hk, hn⟩, U.up kp hv⟩
              · obtain ⟨u, a, b⟩ := I.vars y U (lookup_ne q e)
                exact ⟨u, a.store_cell O hk hs q, U.up kp b⟩
            own := fun p hp => ⟨let ⟨o, e, q⟩ := (I.own p hp).1; ⟨o, g.but _ _ (fun q => (I.own p hp).2.2 _ _ hk q.symm) e, q⟩, (I.own p hp).2⟩ }

/-- loading a name -/
theorem ld_name {x : Str} {T : Ty} {pos : Pos} {Q : Value → Shared → Prop} {E : Value → Shared → Prop} (I : Inv c F Γ Ω s) (hx : Γ.lookup x = some T)
    (h : ∀ v, T.P (hideAll s.heap (F.Y ++ c.X)) v → Q v s) (hd : (x == ("__debug__" : Str)) = false := by decide) (hd2 : (x == ("__classdict__" : Str)) = false := by decide) : wpAny (model PG c.w) c.A (eval (.Name x pos) c.env) Q E s := by
  obtain ⟨v, r, hv⟩ := I.vars x T hx
  refine wpAny_Name ?_ hd
  rcases r with ⟨a, m', b, e⟩ | ⟨a | a, k', b, d⟩
  · exact wpAny_loadName_local I.env.kind a b e (h v hv)
  · exact wpAny_loadName_cell I.env.kind a b d (h v hv)
  · exact wpAny_loadName_free I.env.kind a b d (h v hv) hd2
end

noncomputable def EV (c : Cx) (F : Fx) (Γ : Gam) (Ω : Own) (e : Expr) (T : Ty) : Prop := ∀ s, Inv c F Γ Ω s → PR c.w c.A (F.Y ++ c.X) s (eval e c.env) T

section
variable {c : Cx} {F : Fx} {Γ : Gam} {Ω : Own}

theorem PR.bindV {w : World} {A : Around} {X : List Addr} {s : Shared} {t : Sem Value} {T : Ty} (h : PR w A X s t T) {Q : Value → Shared → Prop} {E : Value → Shared → Prop}
    (k : ∀ v s', Kp s s' → T.P (hideAll s'.heap X) v → Q v s') : wpAny (model PG w) A t Q E s := h Q E k

theorem ev_name {x : Str} {T : Ty} {pos : Pos} (hx : Γ.lookup x = some T) (hd : (x == ("__debug__" : Str)) = false := by decide) (hd2 : (x == ("__classdict__" : Str)) = false := by decide) : EV c F Γ Ω (.Name x pos) T :=
  fun s I _ _ k => ld_name I hx (fun v hv => k v s (Kp.refl s) hv) hd hd2

theorem ev_glob {x : Str} {v : Value} {pos : Pos} (hx : F.N.lookup x = some .globalImplicit) (e : nsIn (KK c.w) mainGlobals x = some (some v)) (hd : (x == ("__debug__" : Str)) = false := by decide) :
    EV c F Γ Ω (.Name x pos) (TVal v) := fun s I _ _ k => by
  obtain ⟨mg, hg⟩ := I.topS.g
  refine Name_function_global I.env.kind (I.kindOf hx) (loadGlobal_global (by rw [I.env.globals]; exact hg) (mg_of I.topS.k hg e) ?_) hd
  exact k v s (Kp.refl s) rfl
theorem ev_built {x : Str} {v : Value} {pos : Pos} (hx : F.N.lookup x = some .globalImplicit) (e : nsIn (KK c.w) mainGlobals x = some none) (hv : bootBuiltins x = some v) (hn : x ≠ "__name__") (hd : (x == ("__debug__" : Str)) = false := by decide) :
    EV c F Γ Ω (.Name x pos) (TVal v) := fun s I _ _ k => by
  obtain ⟨mg, hg⟩ := I.topS.g
  obtain ⟨mb, hb, hbb⟩ := I.topS.b
  refine Name_function_global I.env.kind (I.kindOf hx) (loadGlobal_builtin (by rw [I.env.globals]; exact hg) (mg_none_of I.topS.k hg e) (by rw [I.env.builtins]; exact hb) ((hbb x hn).trans hv) ?_) hd
  exact k v s (Kp.refl s) rfl

theorem ev_int {i : Int} {kd : Nat} {pos : Pos} : EV c F Γ Ω (.Constant (.int i) kd pos) (TInt i) := fun s _ _ _ k => wpAny_Constant_int (k _ _ (Kp.tok s _) ⟨_, rfl⟩)
theorem ev_str {x : Str} {kd : Nat} {pos : Pos} : EV c F Γ Ω (.Constant (.str x) kd pos) (TStr x) := fun s _ _ _ k => Constant_str (k _ _ (Kp.tok s _) ⟨_, rfl⟩)
theorem ev_flt {x : UInt64} {kd : Nat} {pos : Pos} : EV c F Γ Ω (.Constant (.float x) kd pos) (TFlt x) := fun s _ _ _ k => by
  show wpAny _ _ (mkFloat x) _ _ _
  exact fun _ _ _ => k _ _ (Kp.tok s _) ⟨_, rfl⟩

theorem ev_bin {e1 e2 : Expr} {op : Operator} {pos : Pos} {T1 T2 T : Ty} (h1 : EV c F Γ Ω e1 T1) (h2 : EV c F Γ Ω e2 T2)
    (hop : ∀ s v1 v2, Inv c F Γ Ω s → T1.P (hideAll s.heap (F.Y ++ c.X)) v1 → T2.P (hideAll s.heap (F.Y ++ c.X)) v2 → PR c.w c.A (F.Y ++ c.X) s (binaryOp op v1 v2) T) : EV c F Γ Ω (.BinOp e1 op e2 pos) T := fun s I Q E k => by
  refine wpAny_BinOp (h1 s I _ _ fun v1 s₁ k₁ p₁ => h2 s₁ (I.keeps k₁) _ _ fun v2 s₂ k₂ p₂ => ?_)
  exact hop s₂ v1 v2 (I.keeps (k₁.trans k₂)) (T1.up (hd_keep k₂.keep) p₁) p₂ _ _ fun v s₃ k₃ p₃ => k v s₃ ((k₁.trans k₂).trans k₃) p₃
end
end Mine

end

section
open PySem PySem.W PyProof.Rows PySem.Calls
set_option maxRecDepth 100000
set_option maxHeartbeats 1000000
set_option linter.unusedVariables false
namespace Mine

noncomputable def Ret (c : Cx) (T : Ty) : Flow → Shared → Prop := fun fl s' => ∃ v, fl = .ret v ∧ Kp c.s₀ s' ∧ T.P (hideAll s'.heap c.X) v

theorem Inv.kp {c : Cx} {F : Fx} {Γ : Gam} {Ω : Own} {s : Shared} (I : Inv c F Γ Ω s) : Kp c.s₀ s := ⟨I.same, I.keep⟩

noncomputable def Binds (h : Heap) : List (Str × Value) → Gam → Prop
  | [], [] => True
  | (x, v) :: r, (y, T) :: Γ => x = y ∧ T.P h v ∧ Binds h r Γ
  | _, _ => False

theorem Binds.get {h : Heap} : ∀ {bs : List (Str × Value)} {Γ : Gam}, Binds h bs Γ → ∀ {x : Str} {T : Ty}, Γ.lookup x = some T → ∃ v, bs.lookup x = some v ∧ T.P h v
  | [], [], _, _, _, e => by simp at e
  | (y, v) :: r, (z, U) :: Γ, ⟨e1, p, b⟩, x, T, e => by
    subst e1
    by_cases q : x = y
    · subst q
      rw [List.lookup_cons, beq_self_eq_true] at e
      cases e
      exact ⟨v, by rw [List.lookup_cons, beq_self_eq_true], p⟩
    · have qq : (x == y) = false := beq_eq_false_iff_ne.mpr q
      rw [List.lookup_cons, qq] at e
      obtain ⟨u, a, c⟩ := Binds.get b e
      exact ⟨u, by rw [List.lookup_cons, qq]; exact a, c⟩

theorem bindL_skip {kd : Str → Option NameKind} {x : Str} : ∀ (bs : List (Str × Value)) (m : Str → Option Value), bs.lookup x = none → bindL kd bs m x = m x
  | [], _, _ => rfl
  | (y, v) :: r, m, e => by
    have q : (x == y) = false := by
      cases h : x == y with
      | false => rfl
      | true => rw [List.lookup_cons, h] at e; cases e
    rw [List.lookup_cons, q] at e
    unfold bindL
    rw [bindL_skip r _ e]
    split
    · exact if_neg (beq_eq_false_iff_ne.mp q)
    · rfl
theorem bindC_skip {kd : Str → Option NameKind} {x : Str} : ∀ (bs : List (Str × Value)) (m : Str → Option Value), bs.lookup x = none → bindC kd bs m x = m x
  | [], _, _ => rfl
  | (y, v) :: r, m, e => by
    have q : (x == y) = false := by
      cases h : x == y with
      | false => rfl
      | true => rw [List.lookup_cons, h] at e; cases e
    rw [List.lookup_cons, q] at e
    unfold bindC
    rw [bindC_skip r _ e]
    split
    · rfl
    · exact if_neg (beq_eq_false_iff_ne.mp q)
theorem lookup_none_of {x : Str} : ∀ {bs : List (Str × Value)}, x ∉ bs.map (·.1) → bs.lookup x = none
  | [], _ => rfl
  | (y, v) :: r, h => by
    simp only [List.map_cons, List.mem_cons, not_or] at h
    rw [List.lookup_cons, beq_eq_false_iff_ne.mpr h.1]
    exact lookup_none_of h.2
theorem bindL_get {kd : Str → Option NameKind} {x : Str} {v : Value} (hk : kd x = some .local) : ∀ {bs : List (Str × Value)} {m : Str → Option Value}, (bs.map (·.1)).Nodup → bs.lookup x = some v → bindL kd bs m x = some v
  | (y, u) :: r, m, nd, e => by
    rw [List.map_cons, List.nodup_cons] at nd
    by_cases q : x = y
    · subst q
      rw [List.lookup_cons, beq_self_eq_true] at e
      cases e
      unfold bindL
      rw [bindL_skip r _ (lookup_none_of nd.1), if_pos hk, if_pos rfl]
    · rw [List.lookup_cons, beq_eq_false_iff_ne.mpr q] at e
      unfold bindL
      exact bindL_get hk nd.2 e
theorem bindC_get {kd : Str → Option NameKind} {x : Str} {v : Value} (hk : kd x ≠ some .local) : ∀ {bs : List (Str × Value)} {m : Str → Option Value}, (bs.map (·.1)).Nodup → bs.lookup x = some v → bindC kd bs m x = some v
  | (y, u) :: r, m, nd, e => by
    rw [List.map_cons, List.nodup_cons] at nd
    by_cases q : x = y
    · subst q
      rw [List.lookup_cons, beq_self_eq_true] at e
      cases e
      unfold bindC
      rw [bindC_skip r _ (lookup_none_of nd.1), if_neg hk, if_pos rfl]
    · rw [List.lookup_cons, beq_eq_false_iff_ne.mpr q] at e
      unfold bindC
      exact bindC_get hk nd.2 e

noncomputable abbrev fnF (names : List (Str × NameKind)) (L : Addr) : Fx := ⟨names, cellsFrom (L + 1) names [], L :: (cellsFrom (L + 1) names []).map (·.2)⟩

theorem fn_enter {w : World} {A : Around} {X : List Addr} {s : Shared} {f : Addr} {o : Obj} {fd : FuncData} {body : List Stmt} {vals : List Value} {binds : List (Str × Value)} {Γ₀ : Gam} {T : Ty} {n : Nat}
    (room : Room (n + 1) A) (top : TopOk w s.heap) (low : ∀ a ∈ X, ∃ o, s.heap.get? a = some o)
    (ho : (KK w).lookup f = some o) (hdata : o.data = .func fd) (hcd : codeIn (KK w) fd.code fd.qualname = true) (hbody : fd.body = .stmts body)
    (hbind : bindArgs fd ⟨vals, []⟩ = pure binds) (hclo : fd.closure = [])
    (hkd : (binds.all fun y => fd.scope.names.lookup y.1 == some .local || fd.scope.names.lookup y.1 == some .cell) = true)
    (hnd : (binds.map (·.1)).Nodup) (hgl : fd.globals = mainGlobals) (hbl : fd.builtins = builtinsNs)
    (hndc : ((cellsFrom 0 fd.scope.names []).map (·.1)).Nodup) (hΓ : Binds (hideAll s.heap X) binds Γ₀)
    (h : ∀ (L : Addr) (c : Cx) (s₁ : Shared), c.s₀ = s → c.X = X → c.w = w → c.n = n → Inv c (fnF fd.scope.names L) Γ₀ [] s₁ →
      wpAny (model PG c.w) c.A (execs body c.env) (Ret c T) (fun _ _ => False) s₁)
    (hco : fd.scope.isCoroutine = false := by rfl) (hgen : fd.scope.isGenerator = false := by rfl) (hk : fd.scope.kind = .function := by rfl) : PR w A X s (call (.ref f) vals) T := by
  intro Q E k
  refine wpAny_call (codeAny_call_cells (fd := fd) (body := body) (binds := binds) (by have := room.depth; omega) (top.k _ _ ho) hdata top.nolimit (codeRec_of top.k hcd) hbody hbind hclo (fun x hx => kindsX hkd _ x hx) (fun s₁ x => ?_) hco hgen hk)
  have key := h s.heap.objs.size ⟨w, A.deeper (callEnvC fd s.heap.objs.size f), s, X, callEnvC fd s.heap.objs.size f, n⟩ s₁ rfl rfl rfl rfl ?_
  · refine wpAny_mono key (fun fl s' hr => ?_) fun _ _ x => x.elim
    obtain ⟨v, rfl, kp, hv⟩ := hr
    exact k v s' kp hv
  · have lup : ∀ a, s.heap.objs.size ≤ a → s.heap.get? a = none := fun a ha => by
      cases e : s.heap.get? a with
      | none => rfl
      | some o' => exact absurd (Heap.lt_size e) (Nat.not_lt.mpr ha)
    refine { top := top, room := room.deeper _, env := ⟨hk, hgl, hbl, ?_, ?_⟩, names := rfl, clls := rfl, low := low, same := x.toInCall.same, keep := x.toInCall.keep, fresh := ?_, loc := .head _, ns := ⟨_, x.toInCall.ns⟩, cells := ?_, vars := ?_, own := fun _ hp => (nomatch hp), ownNd := List.Pairwise.nil }
    · intro y z k' e1 e2
      exact name_of_addr x.apart (mem_of_lookup e1) (mem_of_lookup e2)
    · intro y k' e
      exact Nat.ne_of_gt (x.above y k' (mem_of_lookup e))
    · intro a ha
      rcases List.mem_cons.mp ha with rfl | ha
      · exact ⟨lup _ (Nat.le_refl _), let ⟨o, _, _, e, _⟩ := x.toInCall.ns; ⟨o, e⟩⟩
      · obtain ⟨⟨y, a'⟩, hm, rfl⟩ := List.mem_map.mp ha
        have ab := x.above y a' hm
        refine ⟨lup _ (Nat.le_of_lt ab), ?_⟩
        obtain ⟨o, e1, _⟩ := x.cell y a' (lookup_of_mem_nodup (cellsFrom_names fd.scope.names 0 (s.heap.objs.size + 1) [] [] rfl ▸ hndc) hm)
        exact ⟨o, e1⟩
    · intro y k' e
      refine ⟨⟨_, x.cell y k' e⟩, List.mem_append_left _ (.tail _ (List.mem_map.mpr ⟨(y, k'), mem_of_lookup e, rfl⟩))⟩
    · intro y U e
      obtain ⟨v, hv, p⟩ := hΓ.get e
      refine ⟨v, ?_, U.up (fun b o e => ?_) p⟩
      · have hy : (y, v) ∈ binds := mem_of_lookup hv
        rcases kindsX hkd (s.heap.objs.size + 1) (y, v) hy with q | ⟨q, q2⟩
        · exact .inl ⟨q, _, x.toInCall.ns, bindL_get (kd := (callEnvC fd s.heap.objs.size f).kindOf) q hnd hv⟩
        · obtain ⟨k', q3⟩ := Option.isSome_iff_exists.mp q2
          have cc := x.cell y k' q3
          rw [bindC_get (kd := (callEnvC fd s.heap.objs.size f).kindOf) (by show fd.scope.names.lookup y ≠ _; rw [show fd.scope.names.lookup y = _ from q]; decide) hnd hv] at cc
          exact .inr ⟨.inl q, k', q3, cc⟩
      · refine hideAll_get _ (x.toInCall.keep b o (of_hideAll _ e)) fun hb => ?_
        rcases List.mem_append.mp hb with hb | hb
        · rcases List.mem_cons.mp hb with rfl | hb
          · have := of_hideAll _ e; rw [lup _ (Nat.le_refl _)] at this; cases this
          · obtain ⟨⟨y', a'⟩, hm, rfl⟩ := List.mem_map.mp hb
            have := of_hideAll _ e; rw [lup _ (Nat.le_of_lt (x.above y' a' hm))] at this; cases this
        · rw [hideAll_none X hb] at e; cases e
end Mine

end

section
open PySem PySem.W PyProof.Rows PySem.Calls
set_option maxRecDepth 100000
set_option maxHeartbeats 1000000
set_option linter.unusedVariables false
namespace Mine

section
variable {c : Cx} {F : Fx} {Γ : Gam} {Ω : Own}

noncomputable def OP (c : Cx) (F : Fx) (Γ : Gam) (Ω : Own) (T1 T2 : Ty) (t : Value → Value → Sem Value) (T : Ty) : Prop :=
  ∀ s v1 v2, Inv c F Γ Ω s → T1.P (hideAll s.heap (F.Y ++ c.X)) v1 → T2.P (hideAll s.heap (F.Y ++ c.X)) v2 → PR c.w c.A (F.Y ++ c.X) s (t v1 v2) T
noncomputable def OP1 (c : Cx) (F : Fx) (Γ : Gam) (Ω : Own) (T1 : Ty) (t : Value → Sem Value) (T : Ty) : Prop :=
  ∀ s v1, Inv c F Γ Ω s → T1.P (hideAll s.heap (F.Y ++ c.X)) v1 → PR c.w c.A (F.Y ++ c.X) s (t v1) T
/-- the truth of a value -/
noncomputable def TT (c : Cx) (F : Fx) (Γ : Gam) (Ω : Own) (T : Ty) (b : Bool) : Prop :=
  ∀ s v, Inv c F Γ Ω s → T.P (hideAll s.heap (F.Y ++ c.X)) v → ∀ (Q : Bool → Shared → Prop) (E : Value → Shared → Prop), (∀ s', Kp s s' → Q b s') → wpAny (model PG c.w) c.A (truthy v) Q E s
/-- a test -/
noncomputable def TR (c : Cx) (F : Fx) (Γ : Gam) (Ω : Own) (e : Expr) (b : Bool) : Prop :=
  ∀ s, Inv c F Γ Ω s → ∀ (Q : Bool → Shared → Prop) (E : Value → Shared → Prop), (∀ s', Kp s s' → Q b s') → wpAny (model PG c.w) c.A (isTrue e c.env (eval e c.env)) Q E s

theorem ev_op {e1 e2 : Expr} {op : Operator} {pos : Pos} {T1 T2 T : Ty} (h1 : EV c F Γ Ω e1 T1) (h2 : EV c F Γ Ω e2 T2) (hop : OP c F Γ Ω T1 T2 (binaryOp op) T) : EV c F Γ Ω (.BinOp e1 op e2 pos) T := ev_bin h1 h2 hop

theorem ev_cmp {e1 e2 : Expr} {op : CmpOp} {pos : Pos} {T1 T2 T : Ty} (h1 : EV c F Γ Ω e1 T1) (h2 : EV c F Γ Ω e2 T2) (hop : OP c F Γ Ω T1 T2 (compareOp op) T)
    (hm : behindInMarks op e2 = false := by with_unfolding_all rfl) : EV c F Γ Ω (.Compare e1 [op] [e2] pos) T := fun s I Q E k => by
  refine wpAny_Compare1 (h1 s I _ _ fun v1 s₁ k₁ p₁ => h2 s₁ (I.keeps k₁) _ _ fun v2 s₂ k₂ p₂ => ?_) hm
  exact hop s₂ v1 v2 (I.keeps (k₁.trans k₂)) (T1.up (hd_keep k₂.keep) p₁) p₂ _ _ fun v s₃ k₃ p₃ => k v s₃ ((k₁.trans k₂).trans k₃) p₃

theorem tr_cmp {e1 e2 : Expr} {op : CmpOp} {pos : Pos} {T1 T2 : Ty} {b : Bool} (h1 : EV c F Γ Ω e1 T1) (h2 : EV c F Γ Ω e2 T2) (hop : OP c F Γ Ω T1 T2 (compareOp op) (TBool b))
    (hm : behindInMarks op e2 = false := by with_unfolding_all rfl) : TR c F Γ Ω (.Compare e1 [op] [e2] pos) b := fun s I Q E k => by
  refine wpAny_isTrue_Compare1 (h1 s I _ _ fun v1 s₁ k₁ p₁ => h2 s₁ (I.keeps k₁) _ _ fun v2 s₂ k₂ p₂ => ?_) hm
  refine hop s₂ v1 v2 (I.keeps (k₁.trans k₂)) (T1.up (hd_keep k₂.keep) p₁) p₂ _ _ fun v s₃ k₃ p₃ => ?_
  obtain rfl : v = .bool b := p₃
  exact wpAny_truthy_bool (k s₃ ((k₁.trans k₂).trans k₃))

theorem tr_plain {e : Expr} {T : Ty} {b : Bool} (h : EV c F Γ Ω e T) (ht : TT c F Γ Ω T b)
    (he : isTrue e c.env (eval e c.env) = (do let v ← eval e c.env; standAt e.pos; holding [v] (truthy v)) := by rfl) : TR c F Γ Ω e b := fun s I Q E k =>
  isTrue_plain (h s I _ _ fun v s₁ k₁ p₁ => ht s₁ v (I.keeps k₁) p₁ _ _ fun s₂ k₂ => k s₂ (k₁.trans k₂)) he

theorem tt_bool {b : Bool} : TT c F Γ Ω (TBool b) b := fun s v I p Q E k => by
  obtain rfl : v = .bool b := p
  exact wpAny_truthy_bool (k s (Kp.refl s))

theorem PR.val {w : World} {A : Around} {X : List Addr} {s : Shared} {t : Sem Value} {T : Ty} (h : ∀ (Q : Value → Shared → Prop) (E : Value → Shared → Prop), (∀ v tk, T.P (hideAll s.heap X) v → Q v { s with toks := tk }) → wpAny (model PG w) A t Q E s) : PR w A X s t T :=
  fun Q E k => h Q E fun v tk p => k v _ (Kp.tok s tk) p

theorem op_flt {t : Value → Value → Sem Value} {a b r : UInt64} (h : ∀ {A : Around} {s : Shared} {Q : Value → Shared → Prop} {E : Value → Shared → Prop} {t1 t2 : Tok}, Q (.float r s.toks) { s with toks := s.toks + 1 } → wpAny (model PG c.w) A (t (.float a t1) (.float b t2)) Q E s) :
    OP c F Γ Ω (TFlt a) (TFlt b) t (TFlt r) := fun s v1 v2 I p1 p2 Q E k => by
  obtain ⟨t1, rfl⟩ := p1
  obtain ⟨t2, rfl⟩ := p2
  exact h (k _ _ (Kp.tok s _) ⟨_, rfl⟩)
theorem op_fcmp {t : Value → Value → Sem Value} {a b : UInt64} {r : Bool} (h : ∀ {A : Around} {s : Shared} {Q : Value → Shared → Prop} {E : Value → Shared → Prop} {t1 t2 : Tok}, Q (.bool r) s → wpAny (model PG c.w) A (t (.float a t1) (.float b t2)) Q E s) :
    OP c F Γ Ω (TFlt a) (TFlt b) t (TBool r) := fun s v1 v2 I p1 p2 Q E k => by
  obtain ⟨t1, rfl⟩ := p1
  obtain ⟨t2, rfl⟩ := p2
  exact h (k _ _ (Kp.refl s) rfl)
theorem op_add_ff {a b : UInt64} : OP c F Γ Ω (TFlt a) (TFlt b) (binaryOp .Add) (TFlt (Float64.add a b)) := op_flt add_float
theorem op_sub_ff {a b : UInt64} : OP c F Γ Ω (TFlt a) (TFlt b) (binaryOp .Sub) (TFlt (Float64.sub a b)) := op_flt sub_float
theorem op_mul_ff {a b : UInt64} : OP c F Γ Ω (TFlt a) (TFlt b) (binaryOp .Mult) (TFlt (Float64.mul a b)) := op_flt mul_float
theorem op_div_ff {a b : UInt64} (hz : ¬ Float64.isZero b = true) : OP c F Γ Ω (TFlt a) (TFlt b) (binaryOp .Div) (TFlt (Float64.div a b)) := op_flt fun h => AutoFloatOps.truediv_1 hz h
theorem op_mod_ff {a b : UInt64} (hz : ¬ Float64.isZero b = true) : OP c F Γ Ω (TFlt a) (TFlt b) (binaryOp .Mod) (TFlt (Float64.divmod a b).snd) := op_flt fun h => AutoFloatOps.mod_1 hz h
noncomputable abbrev fEq (a b : UInt64) : Bool := Float64.cmp a b == some Ordering.eq
noncomputable abbrev fLt (a b : UInt64) : Bool := Float64.cmp a b == some Ordering.lt
noncomputable abbrev fLe (a b : UInt64) : Bool := Float64.cmp a b == some Ordering.lt || Float64.cmp a b == some Ordering.eq
theorem op_eq_ff {a b : UInt64} : OP c F Γ Ω (TFlt a) (TFlt b) (compareOp .Eq) (TBool (fEq a b)) := op_fcmp AutoFloatOps.eq_0
theorem op_lt_ff {a b : UInt64} : OP c F Γ Ω (TFlt a) (TFlt b) (compareOp .Lt) (TBool (fLt a b)) := op_fcmp AutoFloatOps.lt_0
theorem op_le_ff {a b : UInt64} : OP c F Γ Ω (TFlt a) (TFlt b) (compareOp .LtE) (TBool (fLe a b)) := op_fcmp AutoFloatOps.le_0

theorem op_int {t : Value → Value → Sem Value} {a b r : Int} (h : ∀ {A : Around} {s : Shared} {Q : Value → Shared → Prop} {E : Value → Shared → Prop} {t1 t2 : Tok}, Q (.int r s.toks) { s with toks := s.toks + 1 } → wpAny (model PG c.w) A (t (.int a t1) (.int b t2)) Q E s) :
    OP c F Γ Ω (TInt a) (TInt b) t (TInt r) := fun s v1 v2 I p1 p2 Q E k => by
  obtain ⟨t1, rfl⟩ := p1
  obtain ⟨t2, rfl⟩ := p2
  exact h (k _ _ (Kp.tok s _) ⟨_, rfl⟩)
theorem op_icmp {t : Value → Value → Sem Value} {a b : Int} {r : Bool} (h : ∀ {A : Around} {s : Shared} {Q : Value → Shared → Prop} {E : Value → Shared → Prop} {t1 t2 : Tok}, Q (.bool r) s → wpAny (model PG c.w) A (t (.int a t1) (.int b t2)) Q E s) :
    OP c F Γ Ω (TInt a) (TInt b) t (TBool r) := fun s v1 v2 I p1 p2 Q E k => by
  obtain ⟨t1, rfl⟩ := p1
  obtain ⟨t2, rfl⟩ := p2
  exact h (k _ _ (Kp.refl s) rfl)
theorem op_add_ii {a b : Int} : OP c F Γ Ω (TInt a) (TInt b) (binaryOp .Add) (TInt (a + b)) := op_int add_int
theorem op_sub_ii {a b : Int} : OP c F Γ Ω (TInt a) (TInt b) (binaryOp .Sub) (TInt (a - b)) := op_int sub_int
theorem op_mod_ii {a b : Int} (hb : b ≠ 0) : OP c F Γ Ω (TInt a) (TInt b) (binaryOp .Mod) (TInt (a.fmod b)) := op_int fun h => mod_int hb h
theorem op_lt_ii {a b : Int} : OP c F Γ Ω (TInt a) (TInt b) (compareOp .Lt) (TBool (decide (a < b))) := op_icmp lt_int
theorem op_gt_ii {a b : Int} : OP c F Γ Ω (TInt a) (TInt b) (compareOp .Gt) (TBool (decide (b < a))) := op_icmp gt_int
theorem op_eq_ii {a b : Int} : OP c F Γ Ω (TInt a) (TInt b) (compareOp .Eq) (TBool (a == b)) := op_icmp eq_int
theorem op_ne_ii {a b : Int} : OP c F Γ Ω (TInt a) (TInt b) (compareOp .NotEq) (TBool (a != b)) := op_icmp ne_int
/-- an int that a double can hold -/
structure Sml (n : Int) : Prop where
  h : n.natAbs < 2 ^ 1023
theorem op_sub_fi {a : UInt64} {n : Int} (hf : Sml n) : OP c F Γ Ω (TFlt a) (TInt n) (binaryOp .Sub) (TFlt (Float64.sub a (Float64.ofInt n))) := fun s v1 v2 I p1 p2 Q E k => by
  obtain ⟨t1, rfl⟩ := p1
  obtain ⟨t2, rfl⟩ := p2
  exact sub_fi_fits hf.h (k _ _ (Kp.tok s _) ⟨_, rfl⟩)
theorem op_mul_fi {a : UInt64} {n : Int} (hf : Sml n) : OP c F Γ Ω (TFlt a) (TInt n) (binaryOp .Mult) (TFlt (Float64.mul a (Float64.ofInt n))) := fun s v1 v2 I p1 p2 Q E k => by
  obtain ⟨t1, rfl⟩ := p1
  obtain ⟨t2, rfl⟩ := p2
  exact mul_fi_fits hf.h (k _ _ (Kp.tok s _) ⟨_, rfl⟩)
noncomputable abbrev iDiv (a b : Int) : UInt64 := Float64.ofFrac (decide (a < 0) != decide (b < 0)) a.natAbs b.natAbs
theorem op_div_ii {a b : Int} (hb : b ≠ 0) (hf : Sml a) : OP c F Γ Ω (TInt a) (TInt b) (binaryOp .Div) (TFlt (iDiv a b)) := fun s v1 v2 I p1 p2 Q E k => by
  obtain ⟨t1, rfl⟩ := p1
  obtain ⟨t2, rfl⟩ := p2
  exact PySem.Flt.div_ii_fits I.room.handled hf.h (fun e => absurd e hb) fun _ _ => k _ _ (Kp.tok s _) ⟨_, rfl⟩
theorem sml_of {n : Int} (h : n.natAbs < 1000000) : Sml n := ⟨Nat.lt_trans h (by decide +kernel)⟩
end

section
variable {c : Cx} {F : Fx} {Γ : Gam} {Ω : Own} {s : Shared} {Q : Flow → Shared → Prop} {E : Value → Shared → Prop} {rest : List Stmt}

theorem x_assign {x : Str} {p1 pos : Pos} {e : Expr} {T : Ty} (I : Inv c F Γ Ω s) (he : EV c F Γ Ω e T)
    (hx : F.N.lookup x = some .local ∨ (F.N.lookup x = some .cell ∧ ∃ k, F.C.lookup x = some k ∧ k ∈ F.Y))
    (h : ∀ s', Inv c F ((x, T) :: Γ) Ω s' → wpAny (model PG c.w) c.A (execs rest c.env) Q E s')
    (hs : swapsWith e (some (.Name x p1)) pos.line c.env = pure false := by rfl) : wpAny (model PG c.w) c.A (execs (.Assign [.Name x p1] e pos :: rest) c.env) Q E s :=
  wpAny_execs_cons (wpAny_Assign_Name (he s I _ _ fun v s₁ k₁ p₁ => st_name (I.keeps k₁) p₁ hx fun s₂ I₂ _ => h s₂ I₂) hs)

theorem ret_mk {T : Ty} {v : Value} (k : Kp c.s₀ s) (p : T.P (hideAll s.heap c.X) v) : Ret c T (.ret v) s := ⟨v, rfl, k, p⟩
theorem x_ret {pos : Pos} {e : Expr} {T : Ty} (I : Inv c F Γ Ω s) (he : EV c F Γ Ω e T) (h : ∀ v s', Kp c.s₀ s' → T.P (hideAll s'.heap c.X) v → Q (.ret v) s') : wpAny (model PG c.w) c.A (execs (.Return (some e) pos :: rest) c.env) Q E s :=
  wpAny_execs_cons (wpAny_Return_some (he s I _ _ fun v s₁ k₁ p₁ => h v s₁ (I.kp.trans k₁) (T.up (hd_sub fun a ha => List.mem_append_right _ ha) p₁)))

/-- behind a block: go on with the rest -/
noncomputable def Th (c : Cx) (rest : List Stmt) (Q : Flow → Shared → Prop) (E : Value → Shared → Prop) : Flow → Shared → Prop
  | .next, s' => wpAny (model PG c.w) c.A (execs rest c.env) Q E s'
  | .brk, s' => Q .brk s'
  | .cont, s' => Q .cont s'
  | .ret v, s' => Q (.ret v) s'
theorem x_nil (h : wpAny (model PG c.w) c.A (execs rest c.env) Q E s) : wpAny (model PG c.w) c.A (execs [] c.env) (Th c rest Q E) E s := wpAny_execs_nil h

theorem x_if {test : Expr} {body orelse : List Stmt} {pos : Pos} {b : Bool} (I : Inv c F Γ Ω s) (ht : TR c F Γ Ω test b)
    (h1 : b = true → ∀ s', Inv c F Γ Ω s' → wpAny (model PG c.w) c.A (execs body c.env) (Th c rest Q E) E s')
    (h2 : b = false → ∀ s', Inv c F Γ Ω s' → wpAny (model PG c.w) c.A (execs orelse c.env) (Th c rest Q E) E s') :
    wpAny (model PG c.w) c.A (execs (.If test body orelse pos :: rest) c.env) Q E s := by
  refine wpAny_execs_cons (wpAny_If (ht s I _ _ fun s₁ k₁ => ?_))
  have hm : ∀ f s', Th c rest Q E f s' → (match f with | .next => wpAny (model PG c.w) c.A (execs rest c.env) Q E s' | f => Q f s') := fun f s' h => by cases f <;> exact h
  cases b with
  | true => exact wpAny_mono (h1 rfl s₁ (I.keeps k₁)) hm fun _ _ x => x
  | false => exact wpAny_mono (h2 rfl s₁ (I.keeps k₁)) hm fun _ _ x => x

noncomputable def Nx (c : Cx) (F : Fx) (Γ : Gam) (Ω : Own) : Flow → Shared → Prop := fun f s => f = .next ∧ Inv c F Γ Ω s
theorem x_done (I : Inv c F Γ Ω s) : wpAny (model PG c.w) c.A (execs [] c.env) (Nx c F Γ Ω) E s := wpAny_execs_nil ⟨rfl, I⟩
theorem x_ifj {test : Expr} {body orelse : List Stmt} {pos : Pos} {b : Bool} {F' : Fx} {Γ' : Gam} {Ω' : Own} (I : Inv c F Γ Ω s) (ht : TR c F Γ Ω test b)
    (h1 : b = true → ∀ s', Inv c F Γ Ω s' → wpAny (model PG c.w) c.A (execs body c.env) (Nx c F' Γ' Ω') E s')
    (h2 : b = false → ∀ s', Inv c F Γ Ω s' → wpAny (model PG c.w) c.A (execs orelse c.env) (Nx c F' Γ' Ω') E s')
    (h : ∀ s', Inv c F' Γ' Ω' s' → wpAny (model PG c.w) c.A (execs rest c.env) Q E s') :
    wpAny (model PG c.w) c.A (execs (.If test body orelse pos :: rest) c.env) Q E s := by
  refine wpAny_execs_cons (wpAny_If (ht s I _ _ fun s₁ k₁ => ?_))
  cases b with
  | true => exact wpAny_mono (h1 rfl s₁ (I.keeps k₁)) (fun f s' ⟨e, I'⟩ => by subst e; exact h s' I') fun _ _ x => x
  | false => exact wpAny_mono (h2 rfl s₁ (I.keeps k₁)) (fun f s' ⟨e, I'⟩ => by subst e; exact h s' I') fun _ _ x => x
end
end Mine
namespace Mine
theorem All2.binds {h : Heap} : ∀ {xs : List Str} {vs : List Value} {Ts : List Ty}, All2 h vs Ts → xs.length = vs.length → Binds h (xs.zip vs) (xs.zip Ts)
  | [], [], [], _, _ => trivial
  | x :: xs, v :: vs, T :: Ts, ⟨a, b⟩, e => ⟨rfl, a, All2.binds b (by simpa using e)⟩
theorem zip_fst : ∀ {xs : List Str} {vs : List Value}, xs.length = vs.length → (xs.zip vs).map (·.1) = xs
  | [], [], _ => rfl
  | x :: xs, v :: vs, e => by simp [zip_fst (xs := xs) (vs := vs) (by simpa using e)]
theorem zip_all {p : Str → Bool} : ∀ {xs : List Str} {vs : List Value}, xs.all p = true → ((xs.zip vs).all fun y => p y.1) = true
  | [], _, _ => by simp
  | _ :: _, [], _ => by simp
  | x :: xs, v :: vs, e => by
    rw [List.all_cons, Bool.and_eq_true] at e
    rw [List.zip_cons_cons, List.all_cons, Bool.and_eq_true]
    exact ⟨e.1, zip_all e.2⟩

/-- a call of a def of the text's top -/
theorem fn_call {w : World} {A : Around} {X : List Addr} {s : Shared} {f : Addr} {vals : List Value} {Ts : List Ty} {T : Ty} {n : Nat} (xs : List Str)
    {name qual : Str} {params : Arguments} {body : List Stmt} {names : List (Str × NameKind)} {more : List (Str × Const)} {dV kV doc pm cdv ct oc : Value} {an od : Option Addr} {osl : Array (Option Value)}
    (room : Room (n + 1) A) (top : TopOk w s.heap) (low : ∀ a ∈ X, ∃ o, s.heap.get? a = some o) (hv : All2 (hideAll s.heap X) vals Ts)
    (ho : (KK w).lookup f = some ⟨oc, od, .func (fnX name qual params body ⟨.function, names, false, false, more⟩ [] dV kV doc pm an cdv ct), osl⟩) (hcd : codeIn (KK w) cdv qual = true)
    (hbind : bindArgs (fnX name qual params body ⟨.function, names, false, false, more⟩ [] dV kV doc pm an cdv ct) ⟨vals, []⟩ = pure (xs.zip vals)) (hlen : xs.length = vals.length)
    (hkd : (xs.all fun y => names.lookup y == some .local || names.lookup y == some .cell) = true) (hnd : xs.Nodup) (hndc : ((cellsFrom 0 names []).map (·.1)).Nodup)
    (h : ∀ (L : Addr) (c : Cx) (s₁ : Shared), c.s₀ = s → c.X = X → c.w = w → c.n = n → Inv c (fnF names L) (xs.zip Ts) [] s₁ →
      wpAny (model PG c.w) c.A (execs body c.env) (Ret c T) (fun _ _ => False) s₁) : PR w A X s (call (.ref f) vals) T :=
  fn_enter room top low ho rfl hcd rfl hbind rfl (zip_all hkd) (by rw [zip_fst hlen]; exact hnd) rfl rfl hndc (hv.binds hlen) h
end Mine

end

section
open PySem PySem.W PyProof.Rows PySem.Calls
set_option maxRecDepth 100000
set_option maxHeartbeats 1000000
set_option linter.unusedVariables false
namespace Mine

noncomputable abbrev Slot (F : Fx) (x : Str) : Prop := F.N.lookup x = some .local ∨ (F.N.lookup x = some .cell ∧ ∃ k, F.C.lookup x = some k ∧ k ∈ F.Y)
theorem slot_fn {names : List (Str × NameKind)} {L : Addr} {x : Str} (e : names.lookup x = some .cell) : Slot (fnF names L) x := by
  obtain ⟨k, hk⟩ := Option.isSome_iff_exists.mp (cellsFrom_some (x := x) names (L + 1) [] (.inl e))
  exact .inr ⟨e, k, hk, .tail _ (List.mem_map.mpr ⟨(x, k), mem_of_lookup hk, rfl⟩)⟩
theorem slot_more {F : Fx} {x : Str} {a : Addr} (h : Slot F x) : Slot { F with Y := a :: F.Y } x :=
  h.imp id fun ⟨e, k, b, d⟩ => ⟨e, k, b, .tail _ d⟩

section
variable {c : Cx} {F : Fx} {Γ : Gam} {Ω : Own}

/-- expressions one by one -/
noncomputable def EVs (c : Cx) (F : Fx) (Γ : Gam) (Ω : Own) (es : List Expr) (Ts : List Ty) : Prop :=
  ∀ s, Inv c F Γ Ω s → ∀ (pos : Pos) (Q : List Value → Shared → Prop) (E : Value → Shared → Prop), (∀ vs s', Kp s s' → All2 (hideAll s'.heap (F.Y ++ c.X)) vs Ts → Q vs s') →
    wpAny (model PG c.w) c.A (spliced (backTo pos (starEach es c.env))) Q E s
theorem evs_nil : EVs c F Γ Ω [] [] := fun s I pos Q E k => spliced_nil (k [] s (Kp.refl s) trivial)
theorem evs_cons {e : Expr} {es : List Expr} {T : Ty} {Ts : List Ty} (h : EV c F Γ Ω e T) (hs : EVs c F Γ Ω es Ts)
    (he : starEach (e :: es) c.env = (false, eval e c.env) :: starEach es c.env := by rfl) : EVs c F Γ Ω (e :: es) (T :: Ts) := fun s I pos Q E k => by
  rw [he]
  refine spliced_cons (h s I _ _ fun v s₁ k₁ p₁ => hs s₁ (I.keeps k₁) pos _ _ fun vs s₂ k₂ p₂ => ?_)
  exact k (v :: vs) s₂ (k₁.trans k₂) ⟨T.up (hd_keep k₂.keep) p₁, p₂⟩

noncomputable def noStar (es : List Expr) : Bool := es.all fun e => !isStarred e
theorem star_plain {env : Env} {pos : Pos} : ∀ {es : List Expr}, noStar es = true → (backTo pos (starEach es env)).any (·.1) = false
  | [], _ => rfl
  | e :: es, h => by
    rw [noStar, List.all_cons, Bool.and_eq_true] at h
    have ih := star_plain (env := env) (pos := pos) (es := es) h.2
    cases e <;> first | exact ih | simp [isStarred] at h

theorem evs_args {f : Value} {e : Expr} {r : List Expr} {Ts : List Ty} {pos : Pos} {s : Shared} (h : EVs c F Γ Ω (e :: r) Ts) (hn : noStar (e :: r) = true) (I : Inv c F Γ Ω s) {Q : Args → Shared → Prop} {E : Value → Shared → Prop}
    (k : ∀ vs s', Kp s s' → All2 (hideAll s'.heap (F.Y ++ c.X)) vs Ts → Q ⟨vs, []⟩ s') : wpAny (model PG c.w) c.A (evalArgs f true (backTo pos (starEach (e :: r) c.env)) []) Q E s := by
  have he : starEach (e :: r) c.env = (false, eval e c.env) :: starEach r c.env := by
    rw [noStar, List.all_cons, Bool.and_eq_true] at hn
    cases e <;> first | rfl | simp [isStarred] at hn
  have h' := h s I pos
  rw [he] at h' ⊢
  exact evalArgs_plain (h' _ _ k)

/-- a call of a def of the top -/
theorem ev_callf {f : Str} {fa : Addr} {p pos : Pos} {e : Expr} {r : List Expr} {Ts : List Ty} {T : Ty} {fd : FuncData} {oc : Value} {od : Option Addr} {osl : Array (Option Value)}
    (hf : F.N.lookup f = some .globalImplicit) (hg : nsIn (KK c.w) mainGlobals f = some (some (.ref fa))) (ho : (KK c.w).lookup fa = some ⟨oc, od, .func fd, osl⟩)
    (ha : EVs c F Γ Ω (e :: r) Ts) (hn : noStar (e :: r) = true)
    (hc : ∀ s vals, Inv c F Γ Ω s → All2 (hideAll s.heap (F.Y ++ c.X)) vals Ts → PR c.w c.A (F.Y ++ c.X) s (call (.ref fa) vals) T)
    (hd : (f == ("__debug__" : Str)) = false := by decide) : EV c F Γ Ω (.Call (.Name f p) (e :: r) [] pos) T := fun s I Q E k => by
  show wpAny _ _ (do callWith pos (← eval (.Name f p) c.env) [] (backTo pos (starEach (e :: r) c.env)) (backToKw pos (keywordEach [] c.env))) _ _ _
  refine wpAny_bind (ev_glob hf hg hd s I _ _ fun v s₁ k₁ e₁ => ?_)
  obtain rfl : v = .ref fa := e₁
  refine callWith_function (o := ⟨oc, od, .func fd, osl⟩) (fd := fd) (evs_args ha hn (I.keeps k₁) fun vs s₂ k₂ p₂ => ⟨⟨((I.keeps k₁).keeps k₂).topS.k _ _ ho, rfl⟩, ?_⟩)
  exact hc s₂ vs ((I.keeps k₁).keeps k₂) p₂ _ _ fun v s₃ k₃ p₃ => k v s₃ ((k₁.trans k₂).trans k₃) p₃

/-- a call of a built-in function, or of a built-in type -/
theorem ev_callb {f : Str} {id : String} {p pos : Pos} {e : Expr} {r : List Expr} {Ts : List Ty} {T : Ty}
    (hf : F.N.lookup f = some .globalImplicit) (hg : nsIn (KK c.w) mainGlobals f = some none) (hb : bootBuiltins f = some (.builtin id)) (hne : f ≠ "__name__")
    (ha : EVs c F Γ Ω (e :: r) Ts) (hn : noStar (e :: r) = true)
    (hc : ∀ s vals, Inv c F Γ Ω s → All2 (hideAll s.heap (F.Y ++ c.X)) vals Ts → PR c.w c.A (F.Y ++ c.X) s (call (.builtin id) vals) T)
    (hd : (f == ("__debug__" : Str)) = false := by decide) : EV c F Γ Ω (.Call (.Name f p) (e :: r) [] pos) T := fun s I Q E k => by
  show wpAny _ _ (do callWith pos (← eval (.Name f p) c.env) [] (backTo pos (starEach (e :: r) c.env)) (backToKw pos (keywordEach [] c.env))) _ _ _
  refine wpAny_bind (ev_built hf hg hb hne hd s I _ _ fun v s₁ k₁ e₁ => ?_)
  obtain rfl : v = .builtin id := e₁
  refine callWith_builtin (star_plain hn) (evs_args ha hn (I.keeps k₁) fun vs s₂ k₂ p₂ => ?_)
  exact hc s₂ vs ((I.keeps k₁).keeps k₂) p₂ _ _ fun v s₃ k₃ p₃ => k v s₃ ((k₁.trans k₂).trans k₃) p₃
theorem ev_callt {f : Str} {id : String} {p pos : Pos} {e : Expr} {r : List Expr} {Ts : List Ty} {T : Ty}
    (hf : F.N.lookup f = some .globalImplicit) (hg : nsIn (KK c.w) mainGlobals f = some none) (hb : bootBuiltins f = some (.type id)) (hne : f ≠ "__name__")
    (ha : EVs c F Γ Ω (e :: r) Ts) (hn : noStar (e :: r) = true)
    (hc : ∀ s vals, Inv c F Γ Ω s → All2 (hideAll s.heap (F.Y ++ c.X)) vals Ts → PR c.w c.A (F.Y ++ c.X) s (call (.type id) vals) T)
    (hd : (f == ("__debug__" : Str)) = false := by decide) : EV c F Γ Ω (.Call (.Name f p) (e :: r) [] pos) T := fun s I Q E k => by
  show wpAny _ _ (do callWith pos (← eval (.Name f p) c.env) [] (backTo pos (starEach (e :: r) c.env)) (backToKw pos (keywordEach [] c.env))) _ _ _
  refine wpAny_bind (ev_built hf hg hb hne hd s I _ _ fun v s₁ k₁ e₁ => ?_)
  obtain rfl : v = .type id := e₁
  refine PyProof.Rows.callWith_type (star_plain hn) (evs_args ha hn (I.keeps k₁) fun vs s₂ k₂ p₂ => ?_)
  exact hc s₂ vs ((I.keeps k₁).keeps k₂) p₂ _ _ fun v s₃ k₃ p₃ => k v s₃ ((k₁.trans k₂).trans k₃) p₃

theorem Inv.newAddr {s : Shared} (I : Inv c F Γ Ω s) : s.heap.objs.size ∉ F.Y ++ c.X := fun h => by
  obtain ⟨o, e⟩ := I.lowS _ h
  exact Nat.lt_irrefl _ (Heap.lt_size e)
theorem hd_push {X : List Addr} {h : Heap} {o : Obj} (hx : h.objs.size ∉ X) (hf : o.isFreed = false) : (hideAll (h.push o) X).get? h.objs.size = some o := hideAll_get X (Heap.get?_push_size _ hf) hx

theorem ev_tup {es : List Expr} {Ts : List Ty} {kd : Nat} {pos : Pos} (h : EVs c F Γ Ω es Ts) (hsz : Ts.length ≤ 64) : EV c F Γ Ω (.Tuple es kd pos) (TTup Ts) := fun s I Q E k => by
  refine Tuple_ (h s I pos _ _ fun vs s₁ k₁ p₁ => ?_)
  have hl := p₁.length
  refine wpAny_newObj_type ?_ (by show vs.toArray.size ≤ sizeLine; rw [List.size_toArray, hl]; exact Nat.le_trans hsz (by decide))
  refine k _ _ (k₁.trans (Kp.push s₁ _)) ⟨_, vs, 0, rfl, hd_push (I.keeps k₁).newAddr rfl, p₁.up (hd_keep (Kp.push s₁ _).keep)⟩
theorem ev_list {es : List Expr} {Ts : List Ty} {pos : Pos} (h : EVs c F Γ Ω es Ts) (hsz : Ts.length ≤ 64) : EV c F Γ Ω (.List es pos) (TList Ts) := fun s I Q E k => by
  refine List_ (h s I pos _ _ fun vs s₁ k₁ p₁ => ?_)
  have hl := p₁.length
  refine wpAny_newObj_type ?_ (by show vs.toArray.size ≤ sizeLine; rw [List.size_toArray, hl]; exact Nat.le_trans hsz (by decide))
  refine k _ _ (k₁.trans (Kp.push s₁ _)) ⟨_, vs, rfl, ⟨0, hd_push (I.keeps k₁).newAddr rfl⟩, p₁.up (hd_keep (Kp.push s₁ _).keep)⟩

/-- the targets are names -/
inductive Names : List Expr → List Str → Prop
  | nil : Names [] []
  | cons {x : Str} {p : Pos} {es : List Expr} {xs : List Str} : Names es xs → Names (.Name x p :: es) (x :: xs)
theorem Names.length {env : Env} : ∀ {es : List Expr} {xs : List Str}, Names es xs → (assignEach es env).length = xs.length
  | _, _, .nil => rfl
  | _, _, .cons h => by simpa [assignEach] using h.length
theorem Names.noStar {env : Env} : ∀ {es : List Expr} {xs : List Str}, Names es xs → (assignEach es env).findIdx? (·.1) = none
  | _, _, .nil => rfl
  | _, _, .cons h => by simpa [assignEach, List.findIdx?_cons] using h.noStar

noncomputable def addAll : List Str → List Ty → Gam → Gam
  | x :: xs, T :: Ts, Γ => addAll xs Ts ((x, T) :: Γ)
  | _, _, Γ => Γ

theorem assign_names {es : List Expr} {xs : List Str} (hN : Names es xs) : ∀ {Γ : Gam} {vals : List Value} {Ts : List Ty} {s : Shared} {Q : Unit → Shared → Prop} {E : Value → Shared → Prop}, Inv c F Γ Ω s → All2 (hideAll s.heap (F.Y ++ c.X)) vals Ts → xs.length = Ts.length →
    (∀ x ∈ xs, Slot F x) → (∀ s', Inv c F (addAll xs Ts Γ) Ω s' → StK c s s' → Q () s') →
    wpAny (model PG c.w) c.A (assignInOrder ((assignEach es c.env).map (·.2)) vals) Q E s := by
  induction hN with
  | nil =>
    intro Γ vals Ts s Q E I p hl hs k
    match Ts, hl with
    | [], _ =>
      match vals, p with
      | [], _ => exact wpAny_pure (k s I StK.refl)
  | @cons x px es xs hN ih =>
    intro Γ vals Ts s Q E I p hl hs k
    match Ts, hl with
    | T :: Ts, hl =>
      match vals, p with
      | v :: vs, ⟨p1, p2⟩ =>
        show wpAny _ _ (do holding vs (assign (.Name x px) c.env v); assignInOrder ((assignEach es c.env).map (·.2)) vs) _ _ _
        refine wpAny_bind (wpAny_holding (wpAny_assign_Name (st_name I p1 (hs x (.head _)) fun s₁ I₁ k₁ => ?_)))
        exact ih I₁ (p2.up (k₁.hide I)) (by simpa using hl) (fun y hy => hs y (.tail _ hy)) fun s₂ I₂ k₂ => k s₂ I₂ (k₁.trans k₂)

theorem TTup.isTup {h : Heap} {v : Value} {Ts : List Ty} (p : (TTup Ts).P h v) : ∃ a vs, v = .ref a ∧ IsTup h a vs.toArray ∧ All2 h vs Ts := by
  obtain ⟨a, vs, n, e, q, r⟩ := p
  exact ⟨a, vs, e, ⟨_, q, rfl, n, rfl⟩, r⟩

theorem assign_tup {es : List Expr} {xs : List Str} {kd : Nat} {pos : Pos} {v : Value} {Ts : List Ty} {s : Shared} {Q : Unit → Shared → Prop} {E : Value → Shared → Prop} (hN : Names es xs) (I : Inv c F Γ Ω s) (p : (TTup Ts).P (hideAll s.heap (F.Y ++ c.X)) v) (hl : xs.length = Ts.length)
    (hs : ∀ x ∈ xs, Slot F x) (k : ∀ s', Inv c F (addAll xs Ts Γ) Ω s' → StK c s s' → Q () s') :
    wpAny (model PG c.w) c.A (assign (.Tuple es kd pos) c.env v) Q E s := by
  obtain ⟨a, vs, rfl, t, al⟩ := TTup.isTup p
  have t' : IsTup s.heap a vs.toArray := t.keeps hd_low
  refine assign_Tuple_tuple I.room.handled t' (by rw [hN.length, hl, List.size_toArray, al.length]) hN.noStar fun h' he => ?_
  have kp : Kp s { s with heap := h' } := Kp.of' fun b o e => he b o (Nat.ne_of_lt (Heap.lt_size e)) e
  exact assign_names hN (I.keeps kp) (by simpa using al.up (hd_keep kp.keep)) hl hs fun s₂ I₂ k₂ => k s₂ I₂ ((StK.kp kp).trans k₂)
end

section
variable {c : Cx} {F : Fx} {Γ : Gam} {Ω : Own} {s : Shared} {Q : Flow → Shared → Prop} {E : Value → Shared → Prop} {rest : List Stmt}
theorem x_unpack {es : List Expr} {xs : List Str} {kd : Nat} {tpos pos : Pos} {e : Expr} {Ts : List Ty} (I : Inv c F Γ Ω s) (he : EV c F Γ Ω e (TTup Ts)) (hN : Names es xs) (hl : xs.length = Ts.length) (hs : ∀ x ∈ xs, Slot F x)
    (h : ∀ s', Inv c F (addAll xs Ts Γ) Ω s' → wpAny (model PG c.w) c.A (execs rest c.env) Q E s')
    (h1 : swapsWithSole [.Tuple es kd tpos] e pos.line c.env = pure false := by rfl) (h2 : swappedStores [.Tuple es kd tpos] e c.env = pure none := by rfl) :
    wpAny (model PG c.w) c.A (execs (.Assign [.Tuple es kd tpos] e pos :: rest) c.env) Q E s :=
  wpAny_execs_cons (Assign_Tuple (he s I _ _ fun v s₁ k₁ p₁ => assign_tup hN (I.keeps k₁) p₁ hl hs fun s₂ I₂ _ => h s₂ I₂) h1 h2)
end
end Mine

end

section
open PySem PySem.W PyProof.Rows PySem.Calls PySem.Flt
set_option maxRecDepth 100000
set_option maxHeartbeats 1000000
set_option linter.unusedVariables false
namespace Mine

section
variable {prog : Program} {w : World} {A : Around} {E : Value → Shared → Prop} {s : Shared} {Q : Value → Shared → Prop} {a b d : Value}
theorem max_three_num (hh : A.handled = none) (ha : NumV a) (hb : NumV b) (hd : NumV d)
    (h : ∀ h' tk, (∀ c o, s.heap.get? c = some o → h'.get? c = some o) → Q (if ltV a b then (if ltV b d then d else b) else (if ltV a d then d else a)) { s with heap := h', toks := tk }) :
    wpAny (model prog w) A (call (.builtin "max") [a, b, d]) Q E s := by
  have hT : (s.heap.push { cls := .type "tuple", data := .seq #[a, b, d] }).IsTuple s.heap.objs.size #[a, b, d] := ⟨_, Heap.get?_push_size _ rfl, rfl, 0, rfl⟩
  refine call_max_three (wpAny_pyIter_tuple hT ?_)
  have hsz : (s.heap.push { cls := .type "tuple", data := .seq #[a, b, d] }).objs.size = s.heap.objs.size + 1 := Heap.size_push ..
  refine ⟨_, [_, s.heap.objs.size], [_], _, _, _, _, rfl, Walks.tuple (A := A.in1) hh _ s.heap.objs.size (by rw [hsz]; exact Nat.ne_of_lt (Nat.lt_succ_self _)) #[a, b, d],
    ⟨⟨_, Heap.get?_push_size _ rfl, rfl, rfl⟩, hT.push _⟩, fun c hc => ?_, by simp, cmpOf_gt #[a, b, d] (by simp [ha, hb, hd]), fun v h' tk hP hk => ?_⟩
  · show c < ((s.heap.push _).push _).objs.size
    rw [Heap.size_push, hsz]
    rcases List.mem_cons.mp hc with rfl | hc
    · rw [hsz]; exact Nat.lt_succ_self _
    · rcases List.mem_cons.mp hc with rfl | hc
      · exact Nat.lt_succ_of_lt (Nat.lt_succ_self _)
      · cases hc
  · have hold : ∀ c o, s.heap.get? c = some o → h'.get? c = some o := fun c o e => by
      refine hk c o (fun hm => ?_) (Heap.get?_push_of_some _ (Heap.get?_push_of_some _ e))
      rcases List.mem_cons.mp hm with e1 | hm
      · have := Heap.lt_size e; rw [e1, hsz] at this; exact Nat.lt_irrefl _ (Nat.lt_of_succ_lt this)
      · cases hm
    have := h h' tk hold
    have hv : v = if ltV a b then (if ltV b d then d else b) else (if ltV a d then d else a) := by
      cases hc : ltV a b <;> cases hc2 : ltV b d <;> cases hc3 : ltV a d <;> simp [argBest, hc, hc2, hc3] at hP <;> simp [hP]
    rw [hv]; exact this
theorem min_three_num (hh : A.handled = none) (ha : NumV a) (hb : NumV b) (hd : NumV d)
    (h : ∀ h' tk, (∀ c o, s.heap.get? c = some o → h'.get? c = some o) → Q (if ltV b a then (if ltV d b then d else b) else (if ltV d a then d else a)) { s with heap := h', toks := tk }) :
    wpAny (model prog w) A (call (.builtin "min") [a, b, d]) Q E s := by
  have hT : (s.heap.push { cls := .type "tuple", data := .seq #[a, b, d] }).IsTuple s.heap.objs.size #[a, b, d] := ⟨_, Heap.get?_push_size _ rfl, rfl, 0, rfl⟩
  refine call_min_three (wpAny_pyIter_tuple hT ?_)
  have hsz : (s.heap.push { cls := .type "tuple", data := .seq #[a, b, d] }).objs.size = s.heap.objs.size + 1 := Heap.size_push ..
  refine ⟨_, [_, s.heap.objs.size], [_], _, _, _, _, rfl, Walks.tuple (A := A.in1) hh _ s.heap.objs.size (by rw [hsz]; exact Nat.ne_of_lt (Nat.lt_succ_self _)) #[a, b, d],
    ⟨⟨_, Heap.get?_push_size _ rfl, rfl, rfl⟩, hT.push _⟩, fun c hc => ?_, by simp, cmpOf_lt #[a, b, d] (by simp [ha, hb, hd]), fun v h' tk hP hk => ?_⟩
  · show c < ((s.heap.push _).push _).objs.size
    rw [Heap.size_push, hsz]
    rcases List.mem_cons.mp hc with rfl | hc
    · rw [hsz]; exact Nat.lt_succ_self _
    · rcases List.mem_cons.mp hc with rfl | hc
      · exact Nat.lt_succ_of_lt (Nat.lt_succ_self _)
      · cases hc
  · have hold : ∀ c o, s.heap.get? c = some o → h'.get? c = some o := fun c o e => by
      refine hk c o (fun hm => ?_) (Heap.get?_push_of_some _ (Heap.get?_push_of_some _ e))
      rcases List.mem_cons.mp hm with e1 | hm
      · have := Heap.lt_size e; rw [e1, hsz] at this; exact Nat.lt_irrefl _ (Nat.lt_of_succ_lt this)
      · cases hm
    have := h h' tk hold
    have hv : v = if ltV b a then (if ltV d b then d else b) else (if ltV d a then d else a) := by
      cases hc : ltV b a <;> cases hc2 : ltV d b <;> cases hc3 : ltV d a <;> simp [argBest, hc, hc2, hc3] at hP <;> simp [hP]
    rw [hv]; exact this
end

section
variable {c : Cx} {F : Fx} {Γ : Gam} {Ω : Own} {s : Shared} {vals : List Value} {X : List Addr} {w : World} {A : Around}
noncomputable def mx3 (x y z : UInt64) : UInt64 := bif fLt x y then (bif fLt y z then z else y) else (bif fLt x z then z else x)
noncomputable def mn3 (x y z : UInt64) : UInt64 := bif fLt y x then (bif fLt z y then z else y) else (bif fLt z x then z else x)
theorem b_max3 {x y z : UInt64} (hh : A.handled = none) (p : All2 (hideAll s.heap X) vals [TFlt x, TFlt y, TFlt z]) : PR w A X s (call (.builtin "max") vals) (TFlt (mx3 x y z)) := by
  · obtain ⟨v1, v2, v3, rfl⟩ := p.s3
    obtain ⟨⟨t1, rfl⟩, ⟨t2, rfl⟩, ⟨t3, rfl⟩, _⟩ := p
    intro Q E k
    refine max_three_num hh (.float x t1) (.float y t2) (.float z t3) fun h' tk kp => k _ _ (Kp.of kp) ?_
    have key : ∀ b1 b2 b3 : Bool, (TFlt (bif b1 then (bif b2 then z else y) else (bif b3 then z else x))).P (hideAll h' X) (if b1 then (if b2 then .float z t3 else .float y t2) else (if b3 then .float z t3 else .float x t1)) := by
      intro b1 b2 b3; cases b1 <;> cases b2 <;> cases b3 <;> exact ⟨_, rfl⟩
    exact key _ _ _
theorem b_min3 {x y z : UInt64} (hh : A.handled = none) (p : All2 (hideAll s.heap X) vals [TFlt x, TFlt y, TFlt z]) : PR w A X s (call (.builtin "min") vals) (TFlt (mn3 x y z)) := by
  · obtain ⟨v1, v2, v3, rfl⟩ := p.s3
    obtain ⟨⟨t1, rfl⟩, ⟨t2, rfl⟩, ⟨t3, rfl⟩, _⟩ := p
    intro Q E k
    refine min_three_num hh (.float x t1) (.float y t2) (.float z t3) fun h' tk kp => k _ _ (Kp.of kp) ?_
    have key : ∀ b1 b2 b3 : Bool, (TFlt (bif b1 then (bif b2 then z else y) else (bif b3 then z else x))).P (hideAll h' X) (if b1 then (if b2 then .float z t3 else .float y t2) else (if b3 then .float z t3 else .float x t1)) := by
      intro b1 b2 b3; cases b1 <;> cases b2 <;> cases b3 <;> exact ⟨_, rfl⟩
    exact key _ _ _
theorem b_max2 {x y : Int} (hh : A.handled = none) (p : All2 (hideAll s.heap X) vals [TInt x, TInt y]) : PR w A X s (call (.builtin "max") vals) (TInt (max x y)) := by
  · obtain ⟨v1, v2, rfl⟩ := p.s2
    obtain ⟨⟨t1, rfl⟩, ⟨t2, rfl⟩, _⟩ := p
    intro Q E k
    refine max_two_num hh (.int x t1) (.int y t2) fun h' tk kp => k _ _ (Kp.of kp) ?_
    have key : ∀ b : Bool, b = decide (x < y) → (TInt (max x y)).P (hideAll h' X) (if b then .int y t2 else .int x t1) := by
      intro b hb
      cases b with
      | true => rw [Int.max_eq_right (Int.le_of_lt (of_decide_eq_true hb.symm))]; exact ⟨_, rfl⟩
      | false => have := of_decide_eq_false hb.symm; rw [Int.max_eq_left (by omega)]; exact ⟨_, rfl⟩
    exact key _ rfl
theorem b_min2 {x y : Int} (hh : A.handled = none) (p : All2 (hideAll s.heap X) vals [TInt x, TInt y]) : PR w A X s (call (.builtin "min") vals) (TInt (min x y)) := by
  · obtain ⟨v1, v2, rfl⟩ := p.s2
    obtain ⟨⟨t1, rfl⟩, ⟨t2, rfl⟩, _⟩ := p
    intro Q E k
    refine min_two_num hh (.int x t1) (.int y t2) fun h' tk kp => k _ _ (Kp.of kp) ?_
    have key : ∀ b : Bool, b = decide (y < x) → (TInt (min x y)).P (hideAll h' X) (if b then .int y t2 else .int x t1) := by
      intro b hb
      cases b with
      | true => rw [Int.min_eq_right (Int.le_of_lt (of_decide_eq_true hb.symm))]; exact ⟨_, rfl⟩
      | false => have := of_decide_eq_false hb.symm; rw [Int.min_eq_left (by omega)]; exact ⟨_, rfl⟩
    exact key _ rfl

/-- int(x), of a finite x -/
noncomputable def fInt (x : UInt64) : Option Int := match Float64.decode x with | .fin sg m e => some (Float64.truncOf sg m e) | _ => none
theorem b_intf {x : UInt64} {n : Int} (hx : fInt x = some n) (p : All2 (hideAll s.heap X) vals [TFlt x]) : PR w A X s (call (.type "int") vals) (TInt n) := by
  · obtain ⟨v1, rfl⟩ := p.s1
    obtain ⟨⟨t1, rfl⟩, _⟩ := p
    intro Q E k
    unfold fInt at hx
    split at hx
    · rename_i sg m e hd
      cases hx
      exact call_int_float hd (k _ _ (Kp.tok s _) ⟨_, rfl⟩)
    · cases hx
end
end Mine

end

section
open PySem PySem.W PyProof.Rows PySem.Calls PySem.Flt
set_option maxRecDepth 100000
set_option maxHeartbeats 1000000
set_option linter.unusedVariables false
namespace Mine

noncomputable def Spec (k : Nat) (f : Addr) (Ts : List Ty) (T : Ty) : Prop := ∀ (w : World) (A : Around) (X : List Addr) (s : Shared) (vals : List Value), Room k A → TopOk w s.heap → (∀ a ∈ X, ∃ o, s.heap.get? a = some o) →
  All2 (hideAll s.heap X) vals Ts → PR w A X s (call (.ref f) vals) T

section
variable {c : Cx} {F : Fx} {Γ : Gam} {Ω : Own}
structure GI (f : Str) (fa : Addr) : Prop where
  g : ∀ w : World, nsIn (KK w) mainGlobals f = some (some (.ref fa))
  o : ∀ w : World, ∃ oc od fd osl, (KK w).lookup fa = some ⟨oc, od, .func fd, osl⟩
  d : (f == ("__debug__" : Str)) = false
theorem ev_fn {k : Nat} {f : Str} {fa : Addr} {p pos : Pos} {e : Expr} {r : List Expr} {Ts : List Ty} {T : Ty}
    (hs : Spec k fa Ts T) (hr : Room k c.A) (hg : GI f fa)
    (hf : F.N.lookup f = some .globalImplicit)
    (ha : EVs c F Γ Ω (e :: r) Ts) (hn : noStar (e :: r) = true) : EV c F Γ Ω (.Call (.Name f p) (e :: r) [] pos) T :=
  let ⟨_, _, _, _, ho⟩ := hg.o c.w
  ev_callf hf (hg.g _) ho ha hn (fun s vals I p => hs _ _ _ s vals hr I.topS I.lowS p) hg.d
theorem gi_rgb : GI "rgb_to_hls" 21 := ⟨fun _ => by kernel_rfl, fun _ => ⟨_, _, _, _, rfl⟩, by decide⟩
theorem gi_hls : GI "hls_to_rgb" 28 := ⟨fun _ => by kernel_rfl, fun _ => ⟨_, _, _, _, rfl⟩, by decide⟩
theorem gi_v : GI "_v" 35 := ⟨fun _ => by kernel_rfl, fun _ => ⟨_, _, _, _, rfl⟩, by decide⟩
theorem gi_hsv : GI "hsv_to_rgb" 42 := ⟨fun _ => by kernel_rfl, fun _ => ⟨_, _, _, _, rfl⟩, by decide⟩
theorem gi_em : GI "_ellipsis_match" 49 := ⟨fun _ => by kernel_rfl, fun _ => ⟨_, _, _, _, rfl⟩, by decide⟩
theorem gi_ac : GI "add_callers" 84 := ⟨fun _ => by kernel_rfl, fun _ => ⟨_, _, _, _, rfl⟩, by decide⟩
theorem gi_seen : GI "_law_seen" 91 := ⟨fun _ => by kernel_rfl, fun _ => ⟨_, _, _, _, rfl⟩, by decide⟩
theorem gi_sign : GI "_law_sign" 96 := ⟨fun _ => by kernel_rfl, fun _ => ⟨_, _, _, _, rfl⟩, by decide⟩
theorem gi_crib : GI "_law_crib" 101 := ⟨fun _ => by kernel_rfl, fun _ => ⟨_, _, _, _, rfl⟩, by decide⟩
theorem gi_takes : GI "_law_takes" 106 := ⟨fun _ => by kernel_rfl, fun _ => ⟨_, _, _, _, rfl⟩, by decide⟩
theorem gi_table : GI "_law_table" 113 := ⟨fun _ => by kernel_rfl, fun _ => ⟨_, _, _, _, rfl⟩, by decide⟩
theorem gi_due : GI "_law_due" 118 := ⟨fun _ => by kernel_rfl, fun _ => ⟨_, _, _, _, rfl⟩, by decide⟩

theorem ev_globf {x : Str} {v : UInt64} {t : Tok} {pos : Pos} (hx : F.N.lookup x = some .globalImplicit) (e : nsIn (KK c.w) mainGlobals x = some (some (.float v t))) (hd : (x == ("__debug__" : Str)) = false := by decide) :
    EV c F Γ Ω (.Name x pos) (TFlt v) := fun s I Q E k => ev_glob hx e hd s I Q E fun u s' k' p => k u s' k' ⟨t, p⟩
theorem ev_globs {x : Str} {v : Str} {t : Tok} {pos : Pos} (hx : F.N.lookup x = some .globalImplicit) (e : nsIn (KK c.w) mainGlobals x = some (some (.str v t))) (hd : (x == ("__debug__" : Str)) = false := by decide) :
    EV c F Γ Ω (.Name x pos) (TStr v) := fun s I Q E k => ev_glob hx e hd s I Q E fun u s' k' p => k u s' k' ⟨t, p⟩
theorem ev_bool {b : Bool} {kd : Nat} {pos : Pos} : EV c F Γ Ω (.Constant (.bool b) kd pos) (TBool b) := fun s _ _ _ k => fun _ _ _ => k _ _ (Kp.refl s) rfl
theorem EV.cast {e : Expr} {T T' : Ty} (h : EV c F Γ Ω e T) (q : T = T') : EV c F Γ Ω e T' := q ▸ h
end
section
variable {c : Cx} {F : Fx} {Γ : Gam} {Ω : Own}
/-- what a built-in gives for these types -/
noncomputable def BF (c : Cx) (F : Fx) (Γ : Gam) (Ω : Own) (f : Value) (Ts : List Ty) (T : Ty) : Prop := ∀ s vals, Inv c F Γ Ω s → All2 (hideAll s.heap (F.Y ++ c.X)) vals Ts → PR c.w c.A (F.Y ++ c.X) s (call f vals) T
theorem f_max3 {x y z : UInt64} : BF c F Γ Ω (.builtin "max") [TFlt x, TFlt y, TFlt z] (TFlt (mx3 x y z)) := fun s vals I p => b_max3 I.room.handled p
theorem f_min3 {x y z : UInt64} : BF c F Γ Ω (.builtin "min") [TFlt x, TFlt y, TFlt z] (TFlt (mn3 x y z)) := fun s vals I p => b_min3 I.room.handled p
theorem f_max2 {x y : Int} : BF c F Γ Ω (.builtin "max") [TInt x, TInt y] (TInt (max x y)) := fun s vals I p => b_max2 I.room.handled p
theorem f_min2 {x y : Int} : BF c F Γ Ω (.builtin "min") [TInt x, TInt y] (TInt (min x y)) := fun s vals I p => b_min2 I.room.handled p
theorem f_intf {x : UInt64} {n : Int} (hx : fInt x = some n) : BF c F Γ Ω (.type "int") [TFlt x] (TInt n) := fun s vals I p => b_intf hx p
structure BI (x : Str) (v : Value) : Prop where
  g : ∀ w : World, nsIn (KK w) mainGlobals x = some none
  b : bootBuiltins x = some v
  n : x ≠ "__name__"
  d : (x == ("__debug__" : Str)) = false
theorem ev_bfb {f : Str} {id : String} {p pos : Pos} {e : Expr} {r : List Expr} {Ts : List Ty} {T : Ty}
    (hb : BI f (.builtin id)) (hf : F.N.lookup f = some .globalImplicit)
    (ha : EVs c F Γ Ω (e :: r) Ts) (hn : noStar (e :: r) = true) (hc : BF c F Γ Ω (.builtin id) Ts T) : EV c F Γ Ω (.Call (.Name f p) (e :: r) [] pos) T := ev_callb hf (hb.g _) hb.b hb.n ha hn hc hb.d
theorem ev_bft {f : Str} {id : String} {p pos : Pos} {e : Expr} {r : List Expr} {Ts : List Ty} {T : Ty}
    (hb : BI f (.type id)) (hf : F.N.lookup f = some .globalImplicit)
    (ha : EVs c F Γ Ω (e :: r) Ts) (hn : noStar (e :: r) = true) (hc : BF c F Γ Ω (.type id) Ts T) : EV c F Γ Ω (.Call (.Name f p) (e :: r) [] pos) T := ev_callt hf (hb.g _) hb.b hb.n ha hn hc hb.d
theorem bi_max : BI "max" (.builtin "max") := ⟨fun _ => by kernel_rfl, by kernel_rfl, by decide, by decide⟩
theorem bi_min : BI "min" (.builtin "min") := ⟨fun _ => by kernel_rfl, by kernel_rfl, by decide, by decide⟩
theorem bi_int : BI "int" (.type "int") := ⟨fun _ => by kernel_rfl, by kernel_rfl, by decide, by decide⟩
theorem bi_len : BI "len" (.builtin "len") := ⟨fun _ => by kernel_rfl, by kernel_rfl, by decide, by decide⟩
theorem bi_chr : BI "chr" (.builtin "chr") := ⟨fun _ => by kernel_rfl, by kernel_rfl, by decide, by decide⟩
theorem bi_sum : BI "sum" (.builtin "sum") := ⟨fun _ => by kernel_rfl, by kernel_rfl, by decide, by decide⟩
theorem bi_sorted : BI "sorted" (.builtin "sorted") := ⟨fun _ => by kernel_rfl, by kernel_rfl, by decide, by decide⟩
theorem bi_range : BI "range" (.type "range") := ⟨fun _ => by kernel_rfl, by kernel_rfl, by decide, by decide⟩
theorem bi_isinstance : BI "isinstance" (.builtin "isinstance") := ⟨fun _ => by kernel_rfl, by kernel_rfl, by decide, by decide⟩
theorem bi_tuple : BI "tuple" (.type "tuple") := ⟨fun _ => by kernel_rfl, by kernel_rfl, by decide, by decide⟩
noncomputable abbrev T3 (r : UInt64 × UInt64 × UInt64) : Ty := TTup [TFlt r.1, TFlt r.2.1, TFlt r.2.2]
end
theorem x_ifv {c : Cx} {F : Fx} {Γ : Gam} {Ω : Own} {s : Shared} {Q : Flow → Shared → Prop} {E : Value → Shared → Prop} {rest : List Stmt} (x : Str) (T : Ty) {test : Expr} {body orelse : List Stmt} {pos : Pos} {b : Bool} (I : Inv c F Γ Ω s) (ht : TR c F Γ Ω test b)
    (h1 : b = true → ∀ s', Inv c F Γ Ω s' → wpAny (model PG c.w) c.A (execs body c.env) (Nx c F ((x, T) :: Γ) Ω) E s')
    (h2 : b = false → ∀ s', Inv c F Γ Ω s' → wpAny (model PG c.w) c.A (execs orelse c.env) (Nx c F ((x, T) :: Γ) Ω) E s')
    (h : ∀ s', Inv c F ((x, T) :: Γ) Ω s' → wpAny (model PG c.w) c.A (execs rest c.env) Q E s') :
    wpAny (model PG c.w) c.A (execs (.If test body orelse pos :: rest) c.env) Q E s := x_ifj I ht h1 h2 h

/-- the walk of a def's body, from its types to its answer's -/
noncomputable def Body (k : Nat) (names : List (Str × NameKind)) (Γ₀ : Gam) (body : List Stmt) (T : Ty) : Prop :=
  ∀ (L : Addr) (c : Cx) (s₁ : Shared), Room k c.A → Inv c (fnF names L) Γ₀ [] s₁ → wpAny (model PG c.w) c.A (execs body c.env) (Ret c T) (fun _ _ => False) s₁

theorem spec_of {k : Nat} {f : Addr} {Ts : List Ty} {T : Ty} (xs : List Str)
    {name qual : Str} {params : Arguments} {body : List Stmt} {names : List (Str × NameKind)} {more : List (Str × Const)} {dV kV doc cdv ct oc : Value} {pm : Value} {an od : Option Addr} {osl : Array (Option Value)}
    (ho : ∀ w : World, (KK w).lookup f = some ⟨oc, od, .func (fnX name qual params body ⟨.function, names, false, false, more⟩ [] dV kV doc pm an cdv ct), osl⟩) (hcd : ∀ w : World, codeIn (KK w) cdv qual = true)
    (hbind : ∀ (h : Heap) (vals : List Value), All2 h vals Ts → bindArgs (fnX name qual params body ⟨.function, names, false, false, more⟩ [] dV kV doc pm an cdv ct) ⟨vals, []⟩ = pure (xs.zip vals)) (hlen : xs.length = Ts.length)
    (hkd : (xs.all fun y => names.lookup y == some .local || names.lookup y == some .cell) = true) (hnd : xs.Nodup) (hndc : ((cellsFrom 0 names []).map (·.1)).Nodup)
    (h : Body k names (xs.zip Ts) body T) : Spec (k + 1) f Ts T := fun w A X s vals room top low p =>
  fn_call xs room top low p (ho w) (hcd w) (hbind _ _ p) (hlen.trans p.length.symm) hkd hnd hndc fun L c s₁ h1 h2 h3 h4 I => h L c s₁ (by have := I.room; rw [h4] at this; exact this) I
end Mine

end

section
open PySem PySem.W PyProof.Rows PySem.Calls PySem.Flt
set_option maxRecDepth 100000
set_option maxHeartbeats 1000000
set_option linter.unusedVariables false
namespace Mine

theorem cellsFrom_app : ∀ (names : List (Str × NameKind)) (n : Nat) (acc : List (Str × Addr)), cellsFrom n names acc = cellsFrom n names [] ++ acc
  | [], _, _ => rfl
  | (x, k) :: r, n, acc => by
    unfold cellsFrom
    split
    · rw [cellsFrom_app r (n + 1) ((x, n) :: acc), cellsFrom_app r (n + 1) [(x, n)], List.append_assoc]; rfl
    · exact cellsFrom_app r n acc

/-- a comprehension's own block -/
theorem new_env {M : Model} {A : Around} {E : Value → Shared → Prop} {s : Shared} {scope : Scope} {globals : Addr} {cl : List (Str × Addr)} {qual : Str} {env : Env} {Q : Env → Shared → Prop}
    (h : ∀ h', h'.Ns s.heap.objs.size (fun _ => none) → Keep s.heap h' → CellsOk h' (s.heap.objs.size + 1) (cellsFrom (s.heap.objs.size + 1) scope.names []) →
      Q (newEnv scope s.heap.objs.size globals (cellsFrom (s.heap.objs.size + 1) scope.names [] ++ cl) qual none .none (some env) env.builtins) { s with heap := h' }) :
    wpAny M A (newFunctionEnv scope globals cl [] qual none .none (some env)) Q E s := by
  simp only [newFunctionEnv, Option.isSome_some, if_true]
  refine wpAny_bind (wpAny_alloc ?_)
  refine wpAny_bind (wpAny_layCells _ (fun name kind cells => by cases hkc : kind == NameKind.cell <;> simp) _ _ _ _ ?_)
  have ok := cellsFrom_ok scope.names (s.heap.push { cls := .type "dict", data := .dict #[] }) (s.heap.objs.size + 1) [] ⟨fun _ _ hm => (nomatch hm), List.Pairwise.nil⟩ (by rw [Heap.size_push]; exact Nat.le_refl _)
  rw [Heap.size_push] at ok
  rw [show ({ s with heap := s.heap.push { cls := .type "dict", data := .dict #[] } } : Shared).heap.objs.size = s.heap.objs.size + 1 from Heap.size_push ..]
  simp only [List.forIn_nil]
  refine wpAny_bind (wpAny_pure (wpAny_pure ?_))
  have := h _ ((Heap.Ns.new s.heap (.type "dict")).keeps (pushCells_keeps scope.names _)) (fun b o e => pushCells_keeps scope.names _ b o (Heap.get?_push_of_some _ e)) ok
  rw [← cellsFrom_app] at this
  exact this

/-- the cells that a comprehension takes -/
noncomputable def capC (C : List (Str × Addr)) : List (Str × NameKind) → List (Str × Addr) → Option (List (Str × Addr))
  | [], acc => some acc
  | (x, k) :: r, acc => if k == .free then (match C.lookup x with | some a => capC C r ((x, a) :: acc) | none => none) else capC C r acc
theorem closure_cap {env : Env} (f : Str × NameKind → List (Str × Addr) → Sem (ForInStep (List (Str × Addr))))
    (hf : ∀ name kind cells, f (name, kind) cells = if kind == .free then (do let a ← cellOf env name; pure (.yield ((name, a) :: cells))) else pure (.yield cells)) :
    ∀ {names : List (Str × NameKind)} {acc C' : List (Str × Addr)}, capC env.cells names acc = some C' → forIn names acc f = pure C'
  | [], acc, C', e => by simp [capC] at e; subst e; rfl
  | (x, k) :: r, acc, C', e => by
    rw [List.forIn_cons, hf]
    unfold capC at e
    split at e
    · rename_i hk
      split at e
      · rename_i a ha
        rw [if_pos hk]
        unfold cellOf
        simp only [ha]
        exact closure_cap f hf e
      · cases e
    · rename_i hk
      rw [if_neg hk]
      exact closure_cap f hf e
theorem closureFor_cap {env : Env} {scope : Scope} {C' : List (Str × Addr)} (e : capC env.cells scope.names [] = some C') : closureFor scope env = pure C' := by
  unfold closureFor
  dsimp only
  rw [closure_cap (env := env) _ (fun name kind cells => rfl) e]
  rfl

theorem capC_get {C : List (Str × Addr)} {x : Str} {k : Addr} : ∀ {names : List (Str × NameKind)} {acc C' : List (Str × Addr)}, capC C names acc = some C' → (∀ y j, acc.lookup y = some j → C.lookup y = some j) → C'.lookup x = some k → C.lookup x = some k
  | [], acc, C', e, ha, h => by simp [capC] at e; subst e; exact ha _ _ h
  | (y, kd) :: r, acc, C', e, ha, h => by
    unfold capC at e
    split at e
    · split at e
      · rename_i a hy
        refine capC_get e (fun z j hz => ?_) h
        rw [List.lookup_cons] at hz
        cases q : z == y with
        | true => rw [q] at hz; cases hz; rw [beq_iff_eq.mp q]; exact hy
        | false => rw [q] at hz; exact ha _ _ hz
      · cases e
    · exact capC_get e ha h

/-- an iterator that gives values of these types, one by one -/
structure Itr (w : World) (A : Around) (I : Addr) (fp wr : List Addr) (n : Nat) (P : Nat → Value → Prop) (St : Nat → Heap → Prop) : Prop extends Walks PG w A I fp wr n P St where
  ex : ∀ i h, St i h → ∀ b ∈ wr, ∃ o, h.get? b = some o
  own : ∀ i (s : Shared) (target : Expr) (v : Value) (Q : Unit → Shared → Prop) (E : Value → Shared → Prop), P i v → St (i + 1) s.heap →
    (∀ h' tk, St (i + 1) h' → (∀ b o, b ∉ wr → s.heap.get? b = some o → h'.get? b = some o) → Q () { s with heap := h', toks := tk }) → wpAny (model PG w) A (letOwnedTupleGo target (.ref I) v) Q E s

/-- values of type T can be gone through, and give values of the types Ts -/
noncomputable def ITR (c : Cx) (F : Fx) (Γ : Gam) (Ω : Own) (T : Ty) (Ts : List Ty) : Prop :=
  ∀ s v, Inv c F Γ Ω s → T.P (hideAll s.heap (F.Y ++ c.X)) v → ∀ (Q : Value → Shared → Prop) (E : Value → Shared → Prop),
    (∀ I s' fp wr P St, Kp s s' → Itr c.w c.A I fp wr Ts.length P St → St 0 s'.heap → (∀ b ∈ fp, ∃ o, s'.heap.get? b = some o) → (∀ b ∈ fp, b ∉ F.Y ++ c.X) → fp.Nodup → (∀ b ∈ wr, s.heap.get? b = none) →
      (∀ i v U, P i v → Ts[i]? = some U → U.P (hideAll s.heap (F.Y ++ c.X)) v) → (∃ ob : Nat → Own, ∀ i, (∀ h, St i h ↔ ∀ p ∈ ob i, ∃ o, h.get? p.1 = some o ∧ p.2 o) ∧ (ob i).map (·.1) = fp) → Q (.ref I) s') → wpAny (model PG c.w) c.A (pyIter v) Q E s

/-- an iterator over values is of a plain kind, if its class is none of the few that own their tuple -/
theorem let_plain {w : World} {A : Around} {target : Expr} {I : Addr} {o : Obj} {n : String} {v : Value} {s : Shared} {Q : Unit → Shared → Prop} {E : Value → Shared → Prop} (ho : s.heap.get? I = some o) (hc : o.cls = .type n)
    (hn : (["enumerate", "zip", "dict_itemiterator", "dict_reverseitemiterator", "odict_iterator", "itertools.zip_longest", "itertools.pairwise"].contains n) = false) (h : Q () s) :
    wpAny (model PG w) A (letOwnedTupleGo target (.ref I) v) Q E s := by
  have key : ∀ a : Addr, wpAny (model PG w) A (do
      let o ← load I
      match o.cls, o.data with
      | .type n, .fields vs =>
        if ["enumerate", "zip", "dict_itemiterator", "dict_reverseitemiterator", "odict_iterator", "itertools.zip_longest", "itertools.pairwise"].contains n && vs[0]? == some (rawInt a) then
          rule "for.unpacks-the-owned-tuple"
          updateField I 0 .none
      | _, _ => pure ()) Q E s := fun a => by
    refine wpAny_bind (wpAny_load ho ?_)
    rw [hc]
    cases o.data <;> first | exact wpAny_pure h | (simp only [hn, Bool.false_and, Bool.false_eq_true, if_false]; exact wpAny_pure h)
  unfold letOwnedTupleGo
  split
  · cases v <;> first | exact wpAny_pure h | exact key _
  · cases v <;> first | exact wpAny_pure h | exact key _
  · exact wpAny_pure h

section
variable {prog : Program} {w : World} {A : Around} {R : Result → Shared → Prop} {s : Shared}
theorem compLoop_any {elt target iter : Expr} {ifs : List Expr} {scope : Scope} {pos : Pos} {it acc : Value} {env : Env} (I : Nat → Shared → Prop)
    (turn : ∀ n s, I n s → wpAny (model prog w) A (pyNext it) (fun r s₁ => match r with
      | none => R (.ok .next) s₁
      | some v => wpAny (model prog w) A (letOwnedTupleGo target it v) (fun _ s₁' => wpAny (model prog w) A (assign target env v) (fun _ s₂ =>
          wpAny (model prog w) A (forIn ifs true fun c r => if r = true then do let ok ← isTrue c env (eval c env); pure (ForInStep.yield ok) else pure (ForInStep.yield r)) (fun ok s₃ =>
            if ok = true then wpAny (model prog w) A (eval elt env) (fun x s₄ =>
              wpAny (model prog w) A (call (.builtin "list.append") [acc, x]) (fun _ s₅ => ∃ m, m < n ∧ I m s₅) (notedBy (model prog w) A env fun e s' => R (.error e) s') s₄) (notedBy (model prog w) A env fun e s' => R (.error e) s') s₃
            else ∃ m, m < n ∧ I m s₃) (notedBy (model prog w) A env fun e s' => R (.error e) s') s₂) (notedBy (model prog w) A env fun e s' => R (.error e) s') s₁') (notedBy (model prog w) A env fun e s' => R (.error e) s') s₁) (notedBy (model prog w) A env fun e s' => R (.error e) s') s)
    (n : Nat) (h : I n s) :
    codeAny (model prog w) A (.compLoop (.ListComp elt [⟨target, iter, ifs, 0⟩] scope pos) 0 it acc env) R s := by
  refine codeAny_loop rfl I (fun n s hI => ?_) n h
  show wpAny _ A ((compTurn (.ListComp elt [⟨target, iter, ifs, 0⟩] scope pos) 0 it acc env).onRaise (fun x => do noteFrame x env; theTreesLotGoes x)) _ _ s
  refine wpAny_noted ?_
  rw [compTurn_list]
  refine wpAny_bind (wpAny_standAt (wpAny_bind (wpAny_mono (turn n s hI) (fun r s₁ h₁ => ?_) fun _ _ h' => h')))
  cases r with
  | none => exact wpAny_pure h₁
  | some v =>
    refine wpAny_bind (wpAny_mono h₁ (fun _ s₁' h₁' => ?_) fun _ _ h' => h')
    refine wpAny_bind (wpAny_mono h₁' (fun _ s₂ h₂ => wpAny_bind (wpAny_mono h₂ (fun ok s₃ h₃ => ?_) fun _ _ h' => h')) fun _ _ h' => h')
    cases ok with
    | false => exact wpAny_pure ⟨rfl, h₃⟩
    | true =>
      exact wpAny_bind (wpAny_bind (wpAny_mono h₃ (fun x s₄ h₄ => wpAny_bind (wpAny_mono h₄ (fun _ s₅ h₅ => wpAny_pure (wpAny_pure ⟨rfl, h₅⟩)) fun _ _ h' => h')) fun _ _ h' => h'))
end

/-- a target takes a value of type T -/
noncomputable def ASG (c : Cx) (F : Fx) (Γ : Gam) (Ω : Own) (target : Expr) (T : Ty) (Γ' : Gam) : Prop :=
  ∀ s v (Q : Unit → Shared → Prop) (E : Value → Shared → Prop), Inv c F Γ Ω s → T.P (hideAll s.heap (F.Y ++ c.X)) v → (∀ s', Inv c F Γ' Ω s' → StK c s s' → Q () s') → wpAny (model PG c.w) c.A (assign target c.env v) Q E s
/-- the tests behind a for -/
noncomputable def TRS (c : Cx) (F : Fx) (Γ : Gam) (ifs : List Expr) (b : Bool) : Prop :=
  ∀ s, Inv c F Γ [] s → ∀ (Q : Bool → Shared → Prop) (E : Value → Shared → Prop), (∀ s', Kp s s' → Q b s') →
    wpAny (model PG c.w) c.A (forIn ifs true fun t r => if r = true then do let ok ← isTrue t c.env (eval t c.env); pure (ForInStep.yield ok) else pure (ForInStep.yield r)) Q E s
theorem trs_nil {c : Cx} {F : Fx} {Γ : Gam} : TRS c F Γ [] true := fun s I Q E k => wpAny_pure (k s (Kp.refl s))
theorem trs_one {c : Cx} {F : Fx} {Γ : Gam} {t : Expr} {b : Bool} (h : TR c F Γ [] t b) : TRS c F Γ [t] b := fun s I Q E k => wpAny_tests_one (h s I Q E k)


theorem asg_name {c : Cx} {F : Fx} {Γ : Gam} {Ω : Own} {x : Str} {p : Pos} {T : Ty} (hx : Slot F x) : ASG c F Γ Ω (.Name x p) T ((x, T) :: Γ) := fun s v Q E I hv k => wpAny_assign_Name (st_name I hv hx k)
theorem asg_tup {c : Cx} {F : Fx} {Γ : Gam} {Ω : Own} {es : List Expr} {xs : List Str} {kd : Nat} {p : Pos} {Ts : List Ty} (hN : Names es xs) (hl : xs.length = Ts.length) (hs : ∀ x ∈ xs, Slot F x) : ASG c F Γ Ω (.Tuple es kd p) (TTup Ts) (addAll xs Ts Γ) :=
  fun s v Q E I hv k => assign_tup hN I hv hl hs k

/-- what the names of a comprehension are -/
noncomputable def relN (P : List (Str × NameKind)) (names : List (Str × NameKind)) : List (Str × NameKind) := names.map fun (n, k) => if (k == .free && P.lookup n == some .cell) then (n, .cell) else (n, k)

noncomputable def CapAll (Γ : Gam) (F : Fx) (N' : List (Str × NameKind)) (C' : List (Str × Addr)) : Gam → Prop
  | [] => True
  | (x, T) :: r => (Γ.lookup x = some T ∧ (N'.lookup x = some .cell ∨ N'.lookup x = some .free) ∧ (∃ k, C'.lookup x = some k) ∧ (F.N.lookup x = some .cell ∨ F.N.lookup x = some .free)) ∧ CapAll Γ F N' C' r
theorem CapAll.get {Γ : Gam} {F : Fx} {N' : List (Str × NameKind)} {C' : List (Str × Addr)} {x : Str} {T : Ty} : ∀ {Γc : Gam}, CapAll Γ F N' C' Γc → Γc.lookup x = some T → Γ.lookup x = some T ∧ (N'.lookup x = some .cell ∨ N'.lookup x = some .free) ∧ (∃ k, C'.lookup x = some k) ∧ (F.N.lookup x = some .cell ∨ F.N.lookup x = some .free)
  | [], _, e => by simp at e
  | (y, U) :: r, ⟨a, b⟩, e => by
    by_cases q : x = y
    · subst q
      obtain rfl := lookup_eq e
      exact a
    · exact b.get (lookup_ne q e)

/-- one item of a comprehension's source, and what it gives -/
noncomputable def Turn (c : Cx) (F : Fx) (Γ : Gam) (target : Expr) (ifs : List Expr) (elt : Expr) (T : Ty) (U : Option Ty) : Prop :=
  ∃ Γ' b, ASG c F Γ [] target T Γ' ∧ (∀ x V, Γ.lookup x = some V → Γ'.lookup x = some V) ∧ TRS c F Γ' ifs b ∧ match U with | some U => b = true ∧ EV c F Γ' [] elt U | none => b = false

theorem sub_cons {x : Str} {T : Ty} {Γ : Gam} (hx : Γ.lookup x = none) : ∀ y V, Γ.lookup y = some V → ((x, T) :: Γ).lookup y = some V := fun y V h => by
  rw [List.lookup_cons]
  cases q : y == x with
  | true => rw [beq_iff_eq.mp q, hx] at h; cases h
  | false => exact h
theorem sub_trans {Γ Γ' Γ'' : Gam} (a : ∀ y V, Γ.lookup y = some V → Γ'.lookup y = some V) (b : ∀ y V, Γ'.lookup y = some V → Γ''.lookup y = some V) : ∀ y V, Γ.lookup y = some V → Γ''.lookup y = some V := fun y V h => b y V (a y V h)
end Mine

end

section
open PySem PySem.W PyProof.Rows PySem.Calls PySem.Flt
set_option maxRecDepth 100000
set_option maxHeartbeats 1000000
set_option linter.unusedVariables false
namespace Mine

theorem ltN {h : Heap} {a : Nat} {o : Obj} {D : Nat} (e : h.get? a = some o) (hD : h.objs.size = D) : @LT.lt Nat instLTNat a D := by rw [← hD]; exact Heap.lt_size e
theorem neN {a b : Nat} (h : @LT.lt Nat instLTNat a b) : a ≠ b := Nat.ne_of_lt h
theorem succNe (a : Nat) : a ≠ a + 1 := Nat.ne_of_lt (Nat.lt_succ_self a)

/-- own addresses that are no names' were written -/
theorem Inv.chg {c : Cx} {F : Fx} {Γ : Gam} {s : Shared} {h' : Heap} {tk : Nat} {W : List Addr} (I : Inv c F Γ [] s) (hW : ∀ a ∈ W, a ∈ F.Y ∧ a ≠ c.env.locals ∧ ∀ x, c.env.cells.lookup x ≠ some a)
    (hk : ∀ b o, b ∉ W → s.heap.get? b = some o → h'.get? b = some o) (hex : ∀ a ∈ W, ∃ o, h'.get? a = some o) : Inv c F Γ [] { s with heap := h', toks := tk } := by
  have kk : Keep (hideAll s.heap (F.Y ++ c.X)) (hideAll h' (F.Y ++ c.X)) := hd_up fun b o hb e => hk b o (fun q => hb (List.mem_append_left _ (hW b q).1)) e
  exact { top := I.top, room := I.room, env := I.env, low := I.low, ownNd := List.Pairwise.nil, loc := I.loc, names := I.names, clls := I.clls
          same := let ⟨_, _, e⟩ := I.same; ⟨h', tk, by rw [e]⟩
          keep := fun b o e => hk b o (fun q => by rw [(I.fresh b (hW b q).1).1] at e; cases e) (I.keep b o e)
          fresh := fun a ha => ⟨(I.fresh a ha).1, by
            by_cases q : a ∈ W
            · exact hex a q
            · obtain ⟨o, e⟩ := (I.fresh a ha).2; exact ⟨o, hk a o q e⟩⟩
          ns := let ⟨m, e⟩ := I.ns; ⟨m, e.at' fun o e' => hk _ o (fun q => (hW _ q).2.1 rfl) e'⟩
          cells := fun x k e => ⟨let ⟨v, o, ho, hd⟩ := (I.cells x k e).1; ⟨v, o, hk _ o (fun q => (hW _ q).2.2 x e) ho, hd⟩, (I.cells x k e).2⟩
          vars := fun x T e => by
            obtain ⟨v, r, p⟩ := I.vars x T e
            refine ⟨v, ?_, T.up kk p⟩
            rcases r with ⟨a, m, b, e'⟩ | ⟨a, k, b, o, ho, hd⟩
            · exact .inl ⟨a, m, b.at' fun o e'' => hk _ o (fun q => (hW _ q).2.1 rfl) e'', e'⟩
            · exact .inr ⟨a, k, b, o, hk _ o (fun q => (hW _ q).2.2 x b) ho, hd⟩
          own := fun p hp => (nomatch hp) }

theorem relN_eq {env : Env} {scope : Scope} {P : List (Str × NameKind)} (hk : env.scope.kind = .function) (hn : env.scope.names = P) : (relabel scope env).names = relN P scope.names := by
  unfold relabel relN Env.kindOf
  simp only [hk, hn, beq_self_eq_true, Bool.and_true]

theorem take_succ_fm {Us : List (Option Ty)} {i : Nat} {U : Option Ty} (h : Us[i]? = some U) : (Us.take (i + 1)).filterMap id = (Us.take i).filterMap id ++ U.toList := by
  rw [List.take_add_one, h, List.filterMap_append]
  cases U <;> rfl

theorem comp_core {c : Cx} {F : Fx} {Γ : Gam} {Ω : Own} {elt target iter : Expr} {ifs : List Expr} {scope : Scope} {pos : Pos} {T : Ty} {Ts : List Ty} {Us : List (Option Ty)} {N' : List (Str × NameKind)} {C' : List (Str × Addr)} {Γc : Gam}
    (hit : EV c F Γ Ω iter T) (hI : ITR c F Γ Ω T Ts) (hk : scope.kind = .function) (hN : relN F.N scope.names = N') (hC : capC F.C scope.names [] = some C') (hΓ : CapAll Γ F N' C' Γc)
    (hnm : ∀ x ∈ scope.names, x.2 = .local → scope.names.lookup x.1 = some .local) (hndc : ((cellsFrom 0 scope.names []).map (·.1)).Nodup) (hsep : ∀ x, C'.lookup x ≠ none → (cellsFrom 0 scope.names []).lookup x = none) (hlen : Us.length = Ts.length) (hsz : Ts.length ≤ 4096)
    (hturn : ∀ (i : Nat) (T : Ty) (U : Option Ty), Ts[i]? = some T → Us[i]? = some U → ∀ (c' : Cx) (C : Addr) (Y' : List Addr), (∀ k, Room k c.A → Room k c'.A) → C ∈ Y' → (∀ k ∈ (cellsFrom (C + 1) scope.names []).map (·.2), k ∈ Y') →
      Turn c' ⟨N', cellsFrom (C + 1) scope.names [] ++ C', Y'⟩ Γc target ifs elt T U)
    (hs : ∀ x, foldedSetIterable iter c.env x = pure x) {s : Shared} (I : Inv c F Γ Ω s) {use : Option (Value → Sem Unit)} {Q : Value → Shared → Prop} {E : Value → Shared → Prop} {p0 : Pos}
    (k : ∀ D C s' s₁, Kp s s₁ → Kp s₁ s' → D ≠ C → s₁.heap.get? C = none → (∃ m, s'.heap.Ns C m) → (TList (Us.filterMap id)).P (hideAll s'.heap (C :: (F.Y ++ c.X))) (.ref D) → compPost (model PG c.w) c.A E use Q (.ref D) C (.ok .next) s') :
    wpAny (model PG c.w) c.A (comprehension (.ListComp elt [⟨target, iter, ifs, 0⟩] scope pos) scope c.env p0 (newList []) false (eval iter c.env) use) Q E s := by
  refine wpAny_comprehension_free (use := use) rfl hs (closureFor_cap (by rw [I.clls]; exact hC)) hk hnm ?_
  refine hit s I _ _ fun xv s₁ k₁ p₁ => ?_
  have I₁ := I.keeps k₁
  refine hI s₁ xv I₁ p₁ _ _ fun It s₂ fp wr P St k₂ W hst hfp hfpX _ hwr hP _ => ?_
  have I₂ := I₁.keeps k₂
  refine wpAny_newObj_type ?_
  refine new_env fun h₁ hns hkp hco => ?_
  generalize hH2 : s₂.heap.push { cls := .type "list", dict := none, data := .seq ([] : List Value).toArray } = H2 at hns hkp hco ⊢
  have hD : H2.get? s₂.heap.objs.size = some { cls := .type "list", dict := none, data := .seq ([] : List Value).toArray } := hH2 ▸ Heap.get?_push_size _ rfl
  have hCD : H2.objs.size = s₂.heap.objs.size + 1 := by rw [← hH2, Heap.size_push]
  have old : Keep s₂.heap h₁ := fun b o e => hkp b o (hH2 ▸ Heap.get?_push_of_some _ e)
  dsimp only at hns hkp hco ⊢
  obtain ⟨D, hDn⟩ : ∃ D : Nat, s₂.heap.objs.size = D := ⟨_, rfl⟩
  rw [hDn] at hD hCD ⊢
  rw [hCD] at hns hco ⊢
  have s2none : ∀ a, @LE.le Nat instLENat D a → s₂.heap.get? a = none := fun a ha => by
    cases e : s₂.heap.get? a with
    | none => rfl
    | some o => have h1 : @LT.lt Nat instLTNat a D := ltN e hDn; have h2 : @LE.le Nat instLENat D a := ha; omega
  have s1none : ∀ a, @LE.le Nat instLENat D a → s₁.heap.get? a = none := fun a ha => by
    cases e : s₁.heap.get? a with
    | none => rfl
    | some o => have := s2none a ha; rw [k₂.keep _ _ e] at this; cases this
  -- the block's cells
  have oc : ∀ y a, (y, a) ∈ cellsFrom (D + 1 + 1) scope.names [] → h₁.IsCell a none ∧ @LE.le Nat instLENat (D + 1 + 1) a := fun y a hm => hco.empty y a hm
  have capIn : ∀ x a, C'.lookup x = some a → c.env.cells.lookup x = some a := fun x a e => by rw [I.clls]; exact capC_get hC (fun _ _ h => (nomatch h)) e
  have capOld : ∀ x a, C'.lookup x = some a → (∃ v, s₁.heap.IsCell a v) ∧ a ∈ F.Y ++ c.X := fun x a e => I₁.cells x a (capIn x a e)
  have lk : ∀ x a, (cellsFrom (D + 1 + 1) scope.names [] ++ C').lookup x = some a → (x, a) ∈ cellsFrom (D + 1 + 1) scope.names [] ∨ C'.lookup x = some a := fun x a e => by
    rw [List.lookup_append] at e
    cases q : (cellsFrom (D + 1 + 1) scope.names []).lookup x with
    | some b => rw [q] at e; cases e; exact .inl (mem_of_lookup q)
    | none => rw [q] at e; exact .inr e
  let env' : Env := { scope := relabel scope c.env, locals := D + 1, globals := c.env.globals, cells := cellsFrom (D + 1 + 1) scope.names [] ++ C', qual := c.env.qual, func := none, code := c.env.code, frame := c.env.frame, builtins := c.env.builtins }
  let c' : Cx := ⟨c.w, c.A, s₁, F.Y ++ c.X, env', c.n⟩
  let Y' : List Addr := (D + 1) :: D :: (wr ++ (cellsFrom (D + 1 + 1) scope.names []).map (·.2))
  let F' : Fx := ⟨N', cellsFrom (D + 1 + 1) scope.names [] ++ C', Y'⟩
  have wrOld : ∀ b ∈ wr, @LT.lt Nat instLTNat b D := fun b hb => by
    obtain ⟨o, e⟩ := hfp b (W.sub b hb)
    exact ltN e hDn
  have hxNot : ∀ a, @LT.lt Nat instLTNat a D → a ∉ (cellsFrom (D + 1 + 1) scope.names []).map (·.2) := fun a ha hm => by
    obtain ⟨⟨y, a'⟩, hm', rfl⟩ := List.mem_map.mp hm
    have := (oc y a' hm').2
    have h2 : a' < D := ha
    omega
  have I0 : Inv c' F' Γc [] { s₂ with heap := h₁ } := by
    refine { top := I₁.topS, room := I.room, env := ⟨hk, I.env.globals, I.env.builtins, ?_, ?_⟩, names := (relN_eq I.env.kind I.names).trans hN, clls := rfl, low := I₁.lowS, same := ?_, keep := fun b o e => old b o (k₂.keep b o e), fresh := ?_, loc := .head _, ns := ⟨_, hns⟩, cells := ?_, vars := ?_, own := fun _ hp => (nomatch hp), ownNd := List.Pairwise.nil }
    · intro x y a e1 e2
      rcases lk x a e1 with q1 | q1 <;> rcases lk y a e2 with q2 | q2
      · exact name_of_addr hco.apart q1 q2
      · obtain ⟨⟨v, o, e, _⟩, _⟩ := capOld y a q2
        have := s1none a (by have := (oc x a q1).2; omega); rw [e] at this; cases this
      · obtain ⟨⟨v, o, e, _⟩, _⟩ := capOld x a q1
        have := s1none a (by have := (oc y a q2).2; omega); rw [e] at this; cases this
      · exact I.env.apart x y a (capIn x a q1) (capIn y a q2)
    · intro x a e
      rcases lk x a e with q | q
      · exact (neN (show @LT.lt Nat instLTNat (D + 1) a from (oc x a q).2)).symm
      · obtain ⟨⟨v, o, e, _⟩, _⟩ := capOld x a q
        intro q2
        have := s1none (D + 1) (by omega)
        rw [show D + 1 = a from q2.symm, e] at this; cases this
    · obtain ⟨h, t, e⟩ := k₂.same
      exact ⟨h₁, s₂.toks, by rw [e]⟩
    · intro a ha
      rcases List.mem_cons.mp ha with rfl | ha
      · exact ⟨s1none _ (by omega), let ⟨o, _, _, e, _⟩ := hns; ⟨o, e⟩⟩
      rcases List.mem_cons.mp ha with rfl | ha
      · exact ⟨s1none _ (Nat.le_refl _), ⟨_, hkp _ _ hD⟩⟩
      rcases List.mem_append.mp ha with hb | hb
      · obtain ⟨o, e⟩ := hfp a (W.sub a hb); exact ⟨hwr a hb, o, old _ _ e⟩
      · obtain ⟨⟨y, a'⟩, hm, rfl⟩ := List.mem_map.mp hb
        obtain ⟨⟨o, e, _⟩, q⟩ := oc y a' hm
        exact ⟨s1none _ (by omega), o, e⟩
    · intro x a e
      rcases lk x a e with q | q
      · exact ⟨⟨_, (oc x a q).1⟩, List.mem_append_left _ (.tail _ (.tail _ (List.mem_append_right _ (List.mem_map.mpr ⟨(x, a), q, rfl⟩))))⟩
      · obtain ⟨⟨v, e'⟩, q2⟩ := capOld x a q
        exact ⟨⟨v, e'.keeps fun b o e => old b o (k₂.keep b o e)⟩, List.mem_append_right _ q2⟩
    · intro x U e
      obtain ⟨e1, e2, ⟨a, e3⟩, e4⟩ := hΓ.get e
      obtain ⟨v, r, p⟩ := I₁.vars x U e1
      have hnl : c.env.kindOf x ≠ some .local := by
        intro q
        have : F.N.lookup x = some .local := by rw [← I.names]; exact q
        rcases e4 with e4 | e4 <;> rw [this] at e4 <;> cases e4
      rcases r with ⟨q, _⟩ | ⟨_, a', q, w'⟩
      · exact absurd q hnl
      · have ea : a' = a := by have := capIn x a e3; rw [this] at q; exact (Option.some.inj q).symm
        subst ea
        refine ⟨v, .inr ⟨?_, a', ?_, w'.keeps fun b o e => old b o (k₂.keep b o e)⟩, U.up (fun b o e => ?_) p⟩
        · have : env'.kindOf x = N'.lookup x := by
            show (relabel scope c.env).names.lookup x = _
            rw [relN_eq I.env.kind I.names, hN]
          rw [this]; exact e2
        · show (cellsFrom (D + 1 + 1) scope.names [] ++ C').lookup x = some a'
          have : (cellsFrom (D + 1 + 1) scope.names []).lookup x = none := by
            have h0 := hsep x (by rw [e3]; exact Option.some_ne_none _)
            cases q3 : (cellsFrom (D + 1 + 1) scope.names []).lookup x with
            | none => rfl
            | some b =>
              exfalso
              have hm : x ∈ (cellsFrom (D + 1 + 1) scope.names []).map (·.1) := List.mem_map.mpr ⟨(x, b), mem_of_lookup q3, rfl⟩
              rw [cellsFrom_names scope.names (D + 1 + 1) 0 [] [] rfl] at hm
              obtain ⟨⟨x', b'⟩, hm', rfl⟩ := List.mem_map.mp hm
              rw [lookup_of_mem_nodup hndc hm'] at h0; cases h0
          rw [List.lookup_append, this]; exact e3
        · refine hideAll_get _ (old b o (k₂.keep b o (of_hideAll _ e))) fun hb => ?_
          have eb := of_hideAll _ e
          rcases List.mem_append.mp hb with hb | hb
          · have := (show b ∈ Y' → s₁.heap.get? b = none from fun hb => by
              rcases List.mem_cons.mp hb with rfl | hb
              · exact s1none _ (by omega)
              rcases List.mem_cons.mp hb with rfl | hb
              · exact s1none _ (Nat.le_refl _)
              rcases List.mem_append.mp hb with hb | hb
              · exact hwr b hb
              · obtain ⟨⟨y, a'⟩, hm, rfl⟩ := List.mem_map.mp hb
                exact s1none _ (by have := (oc y a' hm).2; omega)) hb
            rw [eb] at this; cases this
          · rw [hideAll_none _ hb] at e; cases e
  have cellNe : ∀ b, (b = D ∨ b ∈ fp) → ∀ x, env'.cells.lookup x ≠ some b := fun b hb x e => by
    rcases lk x b e with q | q
    · have := (oc x b q).2
      rcases hb with rfl | hb
      · omega
      · obtain ⟨o, e'⟩ := hfp b hb; have h1 : @LT.lt Nat instLTNat b D := ltN e' hDn; omega
    · obtain ⟨⟨v, o, e', _⟩, q2⟩ := capOld x b q
      rcases hb with rfl | hb
      · have := s1none b (Nat.le_refl _); rw [e'] at this; cases this
      · exact hfpX b hb q2
  have fpLt : ∀ b ∈ fp, @LT.lt Nat instLTNat b D := fun b hb => by obtain ⟨o, e'⟩ := hfp b hb; exact ltN e' hDn
  have wrOk : ∀ a ∈ wr, a ∈ F'.Y ∧ a ≠ c'.env.locals ∧ ∀ x, c'.env.cells.lookup x ≠ some a := fun a ha =>
    ⟨.tail _ (.tail _ (List.mem_append_left _ ha)), neN (Nat.lt_succ_of_lt (wrOld a ha)), cellNe a (.inr (W.sub a ha))⟩
  have DOk : ∀ a ∈ [D], a ∈ F'.Y ∧ a ≠ c'.env.locals ∧ ∀ x, c'.env.cells.lookup x ≠ some a := fun a ha => by
    obtain rfl := List.mem_singleton.mp ha
    exact ⟨.tail _ (.head _), succNe a, cellNe a (.inl rfl)⟩
  have hroom : ∀ k, Room k c.A → Room k c'.A := fun _ h => h
  have loop : ∀ s₃ : Shared, s₃ = { s₂ with heap := h₁ } → codeAny (model PG c.w) c.A (.compLoop (.ListComp elt [⟨target, iter, ifs, 0⟩] scope pos) 0 (.ref It) (.ref D) env') (compPost (model PG c.w) c.A E use Q (.ref D) (D + 1)) s₃ := by
    rintro s₃ rfl
    refine compLoop_any (fun m s' => ∃ i ys, m = Ts.length + 1 - i ∧ i ≤ Ts.length ∧ Inv c' F' Γc [] s' ∧ St i s'.heap ∧ s'.heap.PlainList D (List.toArray ys) ∧ All2 (hideAll s'.heap (F'.Y ++ c'.X)) ys ((Us.take i).filterMap id)) ?_ (Ts.length + 1)
      ⟨0, [], rfl, Nat.zero_le _, I0, W.frame _ _ _ hst fun b hb o e => old b o e, ⟨_, hkp _ _ hD⟩, by simp [All2]⟩
    rintro m s' ⟨i, ys, rfl, hi, J, hst', hpl, hall⟩
    by_cases hlt : i < Ts.length
    · refine W.item i s' _ _ hlt hst' fun v h' tk hPv hst₁ hk₁ => ?_
      obtain ⟨Ti, hTi⟩ : ∃ Ti, Ts[i]? = some Ti := ⟨_, List.getElem?_eq_getElem hlt⟩
      obtain ⟨Ui, hUi⟩ : ∃ Ui, Us[i]? = some Ui := ⟨_, List.getElem?_eq_getElem (by omega)⟩
      obtain ⟨Γ', b, hasg, hsub, htrs, hres⟩ := hturn i Ti Ui hTi hUi c' (D + 1) Y' hroom (.head _) (fun k hk => .tail _ (.tail _ (List.mem_append_right _ hk)))
      have J1 : Inv c' F' Γc [] { s' with heap := h', toks := tk } := J.chg wrOk hk₁ (W.ex _ _ hst₁)
      have hpl1 : h'.PlainList D (List.toArray ys) := hpl.at fun o e => hk₁ _ o (fun q => Nat.lt_irrefl _ (wrOld _ q)) e
      have hall1 : All2 (hideAll h' (F'.Y ++ c'.X)) ys ((Us.take i).filterMap id) := hall.up (hd_up fun b o hb e => hk₁ b o (fun q => hb (List.mem_append_left _ (.tail _ (.tail _ (List.mem_append_left _ q))))) e)
      refine W.own i _ target v _ _ hPv hst₁ fun h'' tk' hst₂ hk₂ => ?_
      have J2 : Inv c' F' Γc [] { s' with heap := h'', toks := tk' } := J1.chg wrOk hk₂ (W.ex _ _ hst₂)
      have hpl2 : h''.PlainList D (List.toArray ys) := hpl1.at fun o e => hk₂ _ o (fun q => Nat.lt_irrefl _ (wrOld _ q)) e
      have hall2 := hall1.up (hd_up (X := F'.Y ++ c'.X) fun b o hb e => hk₂ b o (fun q => hb (List.mem_append_left _ (.tail _ (.tail _ (List.mem_append_left _ q))))) e)
      have hvT : Ti.P (hideAll h'' (F'.Y ++ c'.X)) v := by
        refine Ti.up (fun b o e => ?_) (hP i v Ti hPv hTi)
        have eb := of_hideAll _ e
        refine hideAll_get _ (J2.keep b o eb) fun hb => ?_
        rcases List.mem_append.mp hb with hb | hb
        · have := (J2.fresh b hb).1; rw [show c'.s₀.heap.get? b = some o from eb] at this; cases this
        · rw [hideAll_none _ hb] at e; cases e
      refine hasg _ v _ _ J2 hvT fun s₅ J5 st5 => ?_
      have fpk : ∀ b ∈ fp, ∀ o, h''.get? b = some o → s₅.heap.get? b = some o := fun b hb o e => st5 b o (neN (Nat.lt_succ_of_lt (fpLt b hb))) (cellNe b (.inr hb)) e
      have hst5 : St (i + 1) s₅.heap := W.frame _ _ _ hst₂ fpk
      have hpl5 : s₅.heap.PlainList D (List.toArray ys) := hpl2.at fun o e => st5 D o (succNe D) (cellNe D (.inl rfl)) e
      have hall5 := hall2.up (StK.hide J2 st5)
      refine htrs s₅ J5 _ _ fun s₆ k6 => ?_
      have J6 := J5.keeps k6
      have hst6 : St (i + 1) s₆.heap := W.frame _ _ _ hst5 fun b hb o e => k6.keep b o e
      have hpl6 : s₆.heap.PlainList D (List.toArray ys) := hpl5.at fun o e => k6.keep _ o e
      have hall6 := hall5.up (hd_keep (X := F'.Y ++ c'.X) k6.keep)
      cases hU : Ui with
      | none =>
        subst hU
        obtain rfl : b = false := hres
        rw [if_neg (by decide)]
        exact ⟨Ts.length + 1 - (i + 1), by omega, i + 1, ys, rfl, hlt, J6.sub hsub, hst6, hpl6, by rw [take_succ_fm hUi]; simpa using hall6⟩
      | some U =>
        subst hU
        obtain ⟨rfl, hel⟩ := hres
        rw [if_pos rfl]
        refine hel s₆ J6 _ _ fun y s₇ k7 py => ?_
        have J7 := (J6.keeps k7).sub hsub
        have hall7 := hall6.up (hd_keep (X := F'.Y ++ c'.X) k7.keep)
        have hys : (List.toArray ys).size ≤ sizeLine := by
          rw [List.size_toArray, hall7.length]
          have h1 : ((Us.take i).filterMap id).length ≤ (Us.take i).length := List.length_filterMap_le _ _
          have h2 : (Us.take i).length ≤ i := by rw [List.length_take]; omega
          have h3 : (4096 : Nat) ≤ sizeLine := by decide
          omega
        refine wpAny_list_append_plain (hsz := hys) (hpl6.at fun o e => k7.keep _ o e) fun h₅ hl₅ hs₅ => ?_
        have hk5 : ∀ b o, b ∉ [D] → s₇.heap.get? b = some o → h₅.get? b = some o := fun b o hb e => hs₅.extBut b o (fun q => hb (q ▸ .head _)) e
        refine ⟨Ts.length + 1 - (i + 1), by omega, i + 1, ys ++ [y], rfl, hlt, J7.chg (tk := s₇.toks) DOk hk5 (fun a ha => by obtain rfl := List.mem_singleton.mp ha; obtain ⟨n, e⟩ := hl₅; exact ⟨_, e⟩), ?_, ?_, ?_⟩
        · exact W.frame _ _ _ hst6 fun b hb o e => hk5 b o (fun q => by obtain rfl := List.mem_singleton.mp q; exact Nat.lt_irrefl _ (fpLt _ hb)) (k7.keep b o e)
        · simpa using hl₅
        · rw [take_succ_fm hUi]
          have kk : Keep (hideAll s₇.heap (F'.Y ++ c'.X)) (hideAll h₅ (F'.Y ++ c'.X)) := hd_up fun b o hb e => hk5 b o (fun q => hb (List.mem_append_left _ (DOk b q).1)) e
          exact (hall7.up kk).app (All2.one (U.up kk py))
    · have hin : i = Ts.length := by omega
      subst hin
      refine W.done s' _ _ hst' fun h' tk hk₁ => ?_
      obtain ⟨m, hm⟩ := J.ns
      have hfull : (Us.take Ts.length).filterMap id = Us.filterMap id := by rw [← hlen, List.take_length]
      rw [hfull] at hall
      have hk' : ∀ b o, b ∉ wr → s'.heap.get? b = some o → h'.get? b = some o := hk₁
      obtain ⟨hh, tt, ee⟩ := J.same
      have kfin : Kp s₁ { s' with heap := h', toks := tk } := by
        refine ⟨⟨h', tk, by rw [ee]⟩, fun b o e => hk' b o (fun q => by have := (J.fresh b (wrOk b q).1).1; rw [show c'.s₀.heap.get? b = some o from e] at this; cases this) (J.keep b o e)⟩
      refine k D (D + 1) { s' with heap := h', toks := tk } s₁ k₁ kfin (succNe D) (s1none _ (Nat.le_succ _)) ⟨m, hm.at' fun o e => hk₁ _ o (fun q => (wrOk _ q).2.1 rfl) e⟩ ?_
      refine ⟨D, ys, rfl, ?_, hall.up fun b o e => ?_⟩
      · obtain ⟨n, e⟩ := hpl
        refine ⟨n, hideAll_get _ (hk₁ _ _ (fun q => Nat.lt_irrefl _ (wrOld _ q)) e) fun q => ?_⟩
        rcases List.mem_cons.mp q with q | q
        · exact succNe D q
        · obtain ⟨o, e'⟩ := I₁.lowS D q
          have := s1none D (Nat.le_refl _); rw [e'] at this; cases this
      · have eb := of_hideAll _ e
        have hb : b ∉ F'.Y ++ c'.X := fun q => by rw [hideAll_none _ q] at e; cases e
        refine hideAll_get _ (hk' b o (fun q => hb (List.mem_append_left _ (wrOk b q).1)) eb) fun q => ?_
        rcases List.mem_cons.mp q with q | q
        · exact hb (List.mem_append_left _ (q ▸ .head _))
        · exact hb (List.mem_append_right _ q)
  exact codeAny_compStart_list (loop _ rfl) (W.self 0 _ _ _ (W.frame _ _ _ hst fun b hb o e => old b o e) (loop _ rfl))

section
variable {c : Cx} {F : Fx} {Γ : Gam} {Ω : Own} {s s' : Shared}
/-- new objects, taken as the frame's own -/
theorem Inv.addOwns {as : List Addr} (I : Inv c F Γ Ω s) (k : Kp s s') (h0 : ∀ a ∈ as, s.heap.get? a = none) (h1 : ∀ a ∈ as, ∃ o, s'.heap.get? a = some o) : Inv c { F with Y := as ++ F.Y } Γ Ω s' := by
  have I' := I.keeps k
  exact { top := I'.top, room := I'.room, env := I'.env, low := I'.low, names := I'.names, clls := I'.clls, same := I'.same, keep := I'.keep, ns := I'.ns, own := I'.own
          loc := List.mem_append_right _ I'.loc
          ownNd := by
            have hex : ∀ p ∈ Ω, p.1 ∉ as := fun p hp q => by obtain ⟨o, e, _⟩ := (I.own p hp).1; rw [h0 _ q] at e; cases e
            refine (List.Pairwise.imp_of_mem ?_ I.ownNd)
            intro p q hp hq h e z
            rcases List.mem_append.mp z with z | z
            · exact hex p hp z
            · exact h e z
          fresh := fun b hb => by
            rcases List.mem_append.mp hb with hb | hb
            · refine ⟨?_, h1 b hb⟩
              cases e : c.s₀.heap.get? b with
              | none => rfl
              | some o => have := h0 b hb; rw [I.keep _ _ e] at this; cases this
            · exact I'.fresh b hb
          cells := fun x k' e => ⟨(I'.cells x k' e).1, by rcases List.mem_append.mp (I'.cells x k' e).2 with q | q; exact List.mem_append_left _ (List.mem_append_right _ q); exact List.mem_append_right _ q⟩
          vars := fun x T e => by
            obtain ⟨v, r, p⟩ := I.vars x T e
            refine ⟨v, r.keeps k.keep, T.up (fun b o e => ?_) p⟩
            have eb := of_hideAll _ e
            refine hideAll_get _ (k.keep b o eb) fun q => ?_
            rcases List.mem_append.mp q with q | q
            · rcases List.mem_append.mp q with q | q
              · have := h0 b q; rw [eb] at this; cases this
              · rw [hideAll_none (F.Y ++ c.X) (List.mem_append_left _ q)] at e; cases e
            · rw [hideAll_none (F.Y ++ c.X) (List.mem_append_right _ q)] at e; cases e }
theorem Inv.dropChgs {as : List Addr} {h' : Heap} {tk : Nat} (I : Inv c { F with Y := as ++ F.Y } Γ Ω s) (hL : c.env.locals ∈ F.Y) (hC : ∀ x k, c.env.cells.lookup x = some k → k ∈ F.Y ++ c.X)
    (hk : ∀ b o, b ∉ as → s.heap.get? b = some o → h'.get? b = some o) (h1 : c.env.locals ∉ as) (h2 : ∀ x k, c.env.cells.lookup x = some k → k ∉ as) (h3 : ∀ p ∈ Ω, p.1 ∉ as) (h4 : ∀ b ∈ F.Y, b ∉ as) : Inv c F Γ Ω { s with heap := h', toks := tk } := by
  have kk : Keep (hideAll s.heap (as ++ F.Y ++ c.X)) (hideAll h' (F.Y ++ c.X)) := fun b o e => by
    have hb : b ∉ as ++ F.Y ++ c.X := fun q => by rw [hideAll_none _ q] at e; cases e
    refine hideAll_get _ (hk b o (fun q => hb (List.mem_append_left _ (List.mem_append_left _ q))) (of_hideAll _ e)) fun q => hb ?_
    rcases List.mem_append.mp q with q | q
    · exact List.mem_append_left _ (List.mem_append_right _ q)
    · exact List.mem_append_right _ q
  exact { top := I.top, room := I.room, env := I.env, low := I.low, names := I.names, clls := I.clls
          ownNd := I.ownNd.imp fun h e z => h e (List.mem_append_right _ z)
          same := let ⟨_, _, e⟩ := I.same; ⟨h', tk, by rw [e]⟩
          keep := fun b o e => hk b o (fun q => by rw [(I.fresh b (List.mem_append_left _ q)).1] at e; cases e) (I.keep b o e)
          ns := let ⟨m, e⟩ := I.ns; ⟨m, e.at' fun o e' => hk _ o h1 e'⟩
          loc := hL
          fresh := fun b hb => ⟨(I.fresh b (List.mem_append_right _ hb)).1, let ⟨o, e⟩ := (I.fresh b (List.mem_append_right _ hb)).2; ⟨o, hk b o (h4 b hb) e⟩⟩
          cells := fun x k' e => ⟨let ⟨v, o, ho, hd⟩ := (I.cells x k' e).1; ⟨v, o, hk _ o (h2 x k' e) ho, hd⟩, hC x k' e⟩
          vars := fun x T e => by
            obtain ⟨v, r, p⟩ := I.vars x T e
            refine ⟨v, ?_, T.up kk p⟩
            rcases r with ⟨q, m, b, e'⟩ | ⟨q, k, b, o, ho, hd⟩
            · exact .inl ⟨q, m, b.at' fun o e'' => hk _ o h1 e'', e'⟩
            · exact .inr ⟨q, k, b, o, hk _ o (h2 x k b) ho, hd⟩
          own := fun p hp => ⟨let ⟨o, e, q⟩ := (I.own p hp).1; ⟨o, hk _ _ (h3 p hp) e, q⟩, (I.own p hp).2⟩ }
theorem Inv.unpin {ob : Own} (I : Inv c F Γ (ob ++ Ω) s) : Inv c F Γ Ω s := { I with own := fun p hp => I.own p (List.mem_append_right _ hp), ownNd := (List.pairwise_append.mp I.ownNd).2.1 }
theorem Inv.pin {ob : Own} (I : Inv c F Γ Ω s) (h : ∀ p ∈ ob, (∃ o, s.heap.get? p.1 = some o ∧ p.2 o) ∧ p.1 ≠ c.env.locals ∧ ∀ x k, c.env.cells.lookup x = some k → k ≠ p.1)
    (h1 : ob.Pairwise fun p q => p.1 = q.1 → p.1 ∉ F.Y) (h2 : ∀ p ∈ ob, ∀ q ∈ Ω, p.1 = q.1 → p.1 ∉ F.Y) : Inv c F Γ (ob ++ Ω) s :=
  { I with own := fun p hp => (List.mem_append.mp hp).elim (h p) (I.own p), ownNd := List.pairwise_append.mpr ⟨h1, I.ownNd, fun p hp q hq => h2 p hp q hq⟩ }
/-- own addresses that are no names' and not in the list were written -/
theorem Inv.chgO {h' : Heap} {tk : Nat} {W : List Addr} (I : Inv c F Γ Ω s) (hW : ∀ a ∈ W, a ∈ F.Y ∧ a ≠ c.env.locals ∧ (∀ x, c.env.cells.lookup x ≠ some a) ∧ ∀ p ∈ Ω, p.1 ≠ a)
    (hk : ∀ b o, b ∉ W → s.heap.get? b = some o → h'.get? b = some o) (hex : ∀ a ∈ W, ∃ o, h'.get? a = some o) : Inv c F Γ Ω { s with heap := h', toks := tk } := by
  have I0 : Inv c F Γ [] s := { I with own := fun _ hp => (nomatch hp), ownNd := List.Pairwise.nil }
  have I1 := I0.chg (W := W) (tk := tk) (fun a ha => ⟨(hW a ha).1, (hW a ha).2.1, (hW a ha).2.2.1⟩) hk hex
  exact { I1 with own := fun p hp => ⟨let ⟨o, e, q⟩ := (I.own p hp).1; ⟨o, hk _ _ (fun z => (hW _ z).2.2.2 p hp rfl) e, q⟩, (I.own p hp).2⟩, ownNd := I.ownNd }
end

section
variable {c : Cx} {F : Fx} {Γ : Gam} {Ω : Own} {elt target iter : Expr} {ifs : List Expr} {scope : Scope} {pos : Pos} {T : Ty} {Ts : List Ty} {Us : List (Option Ty)} {N' : List (Str × NameKind)} {C' : List (Str × Addr)} {Γc : Gam}
/-- what is asked of a comprehension -/
structure Comp (c : Cx) (F : Fx) (Γ : Gam) (Ω : Own) (elt target iter : Expr) (ifs : List Expr) (scope : Scope) (T : Ty) (Ts : List Ty) (Us : List (Option Ty)) (N' : List (Str × NameKind)) (C' : List (Str × Addr)) (Γc : Gam) : Prop where
  hit : EV c F Γ Ω iter T
  hI : ITR c F Γ Ω T Ts
  hk : scope.kind = .function
  hN : relN F.N scope.names = N'
  hC : capC F.C scope.names [] = some C'
  hΓ : CapAll Γ F N' C' Γc
  hnm : ∀ x ∈ scope.names, x.2 = .local → scope.names.lookup x.1 = some .local
  hndc : ((cellsFrom 0 scope.names []).map (·.1)).Nodup
  hsep : ∀ x, C'.lookup x ≠ none → (cellsFrom 0 scope.names []).lookup x = none
  hlen : Us.length = Ts.length
  hsz : Ts.length ≤ 4096
  hturn : ∀ (i : Nat) (T : Ty) (U : Option Ty), Ts[i]? = some T → Us[i]? = some U → ∀ (c' : Cx) (C : Addr) (Y' : List Addr), (∀ k, Room k c.A → Room k c'.A) → C ∈ Y' → (∀ k ∈ (cellsFrom (C + 1) scope.names []).map (·.2), k ∈ Y') →
      Turn c' ⟨N', cellsFrom (C + 1) scope.names [] ++ C', Y'⟩ Γc target ifs elt T U

theorem ev_comp (h : Comp c F Γ Ω elt target iter ifs scope T Ts Us N' C' Γc)
    (hs : ∀ x, foldedSetIterable iter c.env x = pure x := by intro _; rfl) : EV c F Γ Ω (.ListComp elt [⟨target, iter, ifs, 0⟩] scope pos) (TList (Us.filterMap id)) := by
  intro s I Q E k
  rw [eval_ListComp]
  refine comp_core h.hit h.hI h.hk h.hN h.hC h.hΓ h.hnm h.hndc h.hsep h.hlen h.hsz h.hturn hs I (use := none) fun D C s' s₁ k1 k2 hDC hC0 hm hT => ?_
  obtain ⟨m, hm⟩ := hm
  refine ⟨m, hm, fun h'' hs'' => k _ _ (k1.trans ⟨?_, fun b o e => ?_⟩) ?_⟩
  · obtain ⟨h, t, e⟩ := k2.same; exact ⟨h'', t, by rw [e]⟩
  · exact hs''.extBut b o (fun q => by rw [q, hC0] at e; cases e) (k2.keep b o e)
  · refine Ty.up _ (fun b o e => ?_) hT
    have eb := of_hideAll _ e
    have hb : b ∉ C :: (F.Y ++ c.X) := fun q => by rw [hideAll_none _ q] at e; cases e
    exact hideAll_get _ (hs''.extBut b o (fun q => hb (q ▸ .head _)) eb) fun q => hb (.tail _ q)

/-- x = [..] in a def, x a local: the comprehension's names go behind the store -/
theorem x_comp {x : Str} {px spos : Pos} {s : Shared} {Q : Flow → Shared → Prop} {E : Value → Shared → Prop} {rest : List Stmt} (I : Inv c F Γ Ω s) (h : Comp c F Γ Ω elt target iter ifs scope T Ts Us N' C' Γc)
    (hx : F.N.lookup x = some .local) (hline : (px.line == pos.line) = true) (hno : (scope.names.any fun (n, k) => n == x && (k == .local || k == .cell)) = false)
    (hcont : ∀ s', Inv c F ((x, TList (Us.filterMap id)) :: Γ) Ω s' → wpAny (model PG c.w) c.A (execs rest c.env) Q E s')
    (hs : ∀ x, foldedSetIterable iter c.env x = pure x := by intro _; rfl) :
    wpAny (model PG c.w) c.A (execs (.Assign [.Name x px] (.ListComp elt [⟨target, iter, ifs, 0⟩] scope pos) spos :: rest) c.env) Q E s := by
  refine wpAny_execs_cons ?_
  have hsw : swapsWith (.ListComp elt [⟨target, iter, ifs, 0⟩] scope pos) (some (.Name x px)) spos.line c.env = pure true := by
    unfold swapsWith
    show (pure (c.env.blockKind == .function && c.env.kindOf x == some .local && px.line == pos.line && !(scope.names.any fun (n, k) => n == x && (k == .local || k == .cell))) : Sem Bool) = pure true
    have hb : c.env.blockKind = .function := by unfold Env.blockKind; rw [I.env.kind]; rfl
    rw [hb, I.kindOf hx, hline, hno]; rfl
  rw [exec_Assign_Name_used _ _ _ _ hsw]
  refine wpAny_bind (wpAny_standAt (wpAny_bind ?_))
  show wpAny _ _ (do let _ ← comprehension (.ListComp elt [⟨target, iter, ifs, 0⟩] scope pos) scope c.env _ (newList []) false (eval iter c.env) (some (assign (.Name x px) c.env))) _ _ s
  refine wpAny_bind (comp_core h.hit h.hI h.hk h.hN h.hC h.hΓ h.hnm h.hndc h.hsep h.hlen h.hsz h.hturn hs I (use := some (assign (.Name x px) c.env)) (Q := fun _ s' => wpAny (model PG c.w) c.A (pure ()) _ E s') fun D C s' s₁ k1 k2 hDC hC0 hm hT => ?_)
  obtain ⟨m, hm⟩ := hm
  have I' : Inv c { F with Y := [C] ++ F.Y } Γ Ω s' := (I.keeps k1).addOwns k2 (fun a ha => by obtain rfl := List.mem_singleton.mp ha; exact hC0) (fun a ha => by obtain rfl := List.mem_singleton.mp ha; obtain ⟨o, _, _, e, _⟩ := hm; exact ⟨o, e⟩)
  have CL : C ≠ c.env.locals := fun q => by obtain ⟨m', o, _, _, e, _⟩ := (I.keeps k1).ns; rw [← q, hC0] at e; cases e
  have CC : ∀ y, c.env.cells.lookup y ≠ some C := fun y q => by obtain ⟨⟨v, o, e, _⟩, _⟩ := (I.keeps k1).cells y C q; rw [hC0] at e; cases e
  have CΩ : ∀ p ∈ Ω, p.1 ≠ C := fun p hp q => by obtain ⟨o, e, _⟩ := ((I.keeps k1).own p hp).1; rw [q, hC0] at e; cases e
  show wpAny _ _ (assign (.Name x px) c.env (.ref D)) _ _ _
  refine wpAny_assign_Name (st_name I' hT (.inl hx) fun s₂ I₂ st => ?_)
  refine ⟨m, hm.at' fun o e => st C o CL CC e, fun h'' hs'' => ?_⟩
  refine wpAny_pure (wpAny_pure ?_)
  exact hcont _ (I₂.dropChgs I.loc (fun y k' e => (I.cells y k' e).2) (fun b o hb e => hs''.extBut b o (fun q => hb (q ▸ .head _)) e) (fun q => CL (List.mem_singleton.mp q).symm) (fun y k' e q => CC y (by rw [← List.mem_singleton.mp q]; exact e)) (fun p hp q => CΩ p hp (List.mem_singleton.mp q))
    (fun b hb q => by obtain rfl := List.mem_singleton.mp q; obtain ⟨o, e⟩ := ((I.keeps k1).fresh b hb).2; rw [hC0] at e; cases e))
end
end Mine

end

section
open PySem PySem.W PyProof.Rows PySem.Calls PySem.Flt
set_option maxRecDepth 100000
set_option maxHeartbeats 1000000
set_option linter.unusedVariables false
namespace Mine

section
variable {c : Cx} {F : Fx} {Γ : Gam} {Ω : Own}
theorem hideAll_mem {X : List Addr} {h : Heap} {a : Addr} {o : Obj} (e : (hideAll h X).get? a = some o) : a ∉ X := fun q => by rw [hideAll_none X q] at e; cases e

theorem itr_list {Ts : List Ty} : ITR c F Γ Ω (TList Ts) Ts := fun s v J p Q E k => by
  obtain ⟨a, vs, rfl, hpl, al⟩ := p
  obtain ⟨n0, hn0⟩ := hpl
  have hl : s.heap.IsList a vs.toArray := ⟨_, of_hideAll _ hn0, rfl, n0, rfl⟩
  have hlt : a ≠ s.heap.objs.size := Nat.ne_of_lt (Heap.lt_size (of_hideAll _ hn0))
  refine wpAny_pyIter_list hl ?_
  have hlen : Ts.length = vs.toArray.size := by rw [List.size_toArray, al.length]
  have W : Walks PG c.w c.A s.heap.objs.size [s.heap.objs.size, a] [s.heap.objs.size] Ts.length (fun i v => vs.toArray[i]? = some v) (fun i h => h.IsListIter s.heap.objs.size a i ∧ h.IsList a vs.toArray) := by
    rw [hlen]; exact Walks.list J.room.handled _ _ hlt _
  refine k s.heap.objs.size _ [s.heap.objs.size, a] [s.heap.objs.size] _ _ (Kp.push s _) ⟨W, ?_, ?_⟩ ⟨⟨_, Heap.get?_push_size _ rfl, rfl, rfl⟩, hl.push _⟩ ?_ ?_ (by simp [Ne.symm hlt]) ?_ ?_ ?_
  · rintro i h ⟨⟨o, e, _⟩, _⟩ b hb
    obtain rfl := List.mem_singleton.mp hb
    exact ⟨o, e⟩
  · rintro i s' target v Q E hP ⟨⟨o, e, hc, hd⟩, h2⟩ hk
    exact let_plain e hc rfl (hk s'.heap s'.toks ⟨⟨o, e, hc, hd⟩, h2⟩ fun _ _ _ e => e)
  · intro b hb
    rcases List.mem_cons.mp hb with rfl | hb
    · exact ⟨_, Heap.get?_push_size _ rfl⟩
    · obtain rfl := List.mem_singleton.mp hb; exact ⟨_, Heap.get?_push_of_some _ (of_hideAll _ hn0)⟩
  · intro b hb
    rcases List.mem_cons.mp hb with rfl | hb
    · exact J.newAddr
    · obtain rfl := List.mem_singleton.mp hb; exact hideAll_mem hn0
  · intro b hb
    obtain rfl := List.mem_singleton.mp hb
    cases e : s.heap.get? s.heap.objs.size with
    | none => rfl
    | some o => exact absurd (Heap.lt_size e) (Nat.lt_irrefl _)
  · intro i v U hv hU
    obtain ⟨T, hT, pT⟩ := al.get' (i := i) (v := v) (by simpa using hv)
    rw [hU] at hT; cases hT; exact pT
  · refine ⟨fun i => [(s.heap.objs.size, fun o => o.cls = .type "list_iterator" ∧ o.data = .fields #[.ref a, .int i 0]), (a, fun o => o.cls = .type "list" ∧ ∃ n, o.data = .seq vs.toArray n)], fun i => ⟨fun h => ⟨?_, ?_⟩, rfl⟩⟩
    · rintro ⟨⟨o, e, q⟩, ⟨o', e', q'⟩⟩ p hp
      rcases List.mem_cons.mp hp with rfl | hp
      · exact ⟨o, e, q⟩
      · obtain rfl := List.mem_singleton.mp hp; exact ⟨o', e', q'⟩
    · intro h
      obtain ⟨o, e, q⟩ := h _ (.head _)
      obtain ⟨o', e', q'⟩ := h _ (.tail _ (.head _))
      exact ⟨⟨o, e, q⟩, ⟨o', e', q'⟩⟩

noncomputable def TRng (a b : Int) : Ty := ⟨fun h v => ∃ r t u w, v = .ref r ∧ IsRange h r a b 1 t u w, fun k ⟨r, t, u, w, e, q⟩ => ⟨r, t, u, w, e, k _ _ q⟩⟩
noncomputable def rngL (a b : Int) : List Int := (List.range (b - a).toNat).map fun (i : Nat) => a + (i : Int)
theorem itr_rng {a b : Int} (hA : -1000 ≤ a ∧ a ≤ 1000) (hB : -1000 ≤ b ∧ b ≤ 1000) : ITR c F Γ Ω (TRng a b) ((rngL a b).map TInt) := fun s v J p Q E k => by
  obtain ⟨r, t, u, w, rfl, hr⟩ := p
  have hr' : IsRange s.heap r a b 1 t u w := of_hideAll _ hr
  refine wpAny_pyIter_range hr' (small_one (by omega) (by omega) (by omega) (by omega)) ?_
  have hlen : ((rngL a b).map TInt).length = (b - a).toNat := by simp [rngL]
  have hsz : Builtin.Range.rangeSize a b 1 = ((b - a).toNat : Int) := by
    rw [rangeSize_one]; split <;> omega
  have W : Walks PG c.w c.A s.heap.objs.size [s.heap.objs.size] [s.heap.objs.size] ((rngL a b).map TInt).length (fun i v => ∃ t, v = .int (a + i * 1) t) (fun i h => IsRangeIter h s.heap.objs.size (a + (i : Nat) * 1) (((b - a).toNat : Int) - (i : Nat)) 1) := by
    rw [hlen]; exact Walks.range J.room.handled _ _ _ _
  have hst0 : IsRangeIter (s.heap.push { cls := .type "range_iterator", data := .fields #[rawInt a, rawInt (Builtin.Range.rangeSize a b 1), rawInt 1] }) s.heap.objs.size (a + ((0 : Nat) : Int) * 1) (((b - a).toNat : Int) - ((0 : Nat) : Int)) 1 := by
    have := Heap.get?_push_size s.heap (o := { cls := .type "range_iterator", data := .fields #[rawInt a, rawInt (Builtin.Range.rangeSize a b 1), rawInt 1] }) rfl
    rw [hsz] at this ⊢
    simpa using this
  refine k s.heap.objs.size _ [s.heap.objs.size] [s.heap.objs.size] _ _ (Kp.push s _) ⟨W, ?_, ?_⟩ hst0 ?_ ?_ (by simp) ?_ ?_ ?_
  · intro i h e b hb
    obtain rfl := List.mem_singleton.mp hb
    exact ⟨_, e⟩
  · intro i s' target v Q E hP e hk
    exact let_plain e rfl rfl (hk s'.heap s'.toks e fun _ _ _ e => e)
  · intro b hb
    obtain rfl := List.mem_singleton.mp hb
    exact ⟨_, Heap.get?_push_size _ rfl⟩
  · intro b hb
    obtain rfl := List.mem_singleton.mp hb
    exact J.newAddr
  · intro b hb
    obtain rfl := List.mem_singleton.mp hb
    cases e : s.heap.get? s.heap.objs.size with
    | none => rfl
    | some o => exact absurd (Heap.lt_size e) (Nat.lt_irrefl _)
  · intro i v U hv hU
    obtain ⟨t, rfl⟩ := hv
    have hi : i < (b - a).toNat := by
      have := (List.getElem?_eq_some_iff.mp hU).1
      rwa [hlen] at this
    have : ((rngL a b).map TInt)[i]? = some (TInt (a + (i : Int))) := by simp [rngL, hi]
    rw [this] at hU; cases hU
    exact ⟨t, by rw [Int.mul_one]⟩
  · refine ⟨fun i => [(s.heap.objs.size, fun o => o = { cls := .type "range_iterator", dict := none, data := .fields #[rawInt (a + (i : Nat) * 1), rawInt (((b - a).toNat : Int) - (i : Nat)), rawInt 1], slots := #[] })], fun i => ⟨fun h => ⟨?_, ?_⟩, rfl⟩⟩
    · intro e p hp
      obtain rfl := List.mem_singleton.mp hp
      exact ⟨_, e, rfl⟩
    · intro h
      obtain ⟨o, e, rfl⟩ := h _ (.head _)
      exact e
theorem f_range1 {n : Int} : BF c F Γ Ω (.type "range") [TInt n] (TRng 0 n) := fun s vals J p Q E k => by
  obtain ⟨v, rfl⟩ := p.s1
  obtain ⟨⟨t, rfl⟩, _⟩ := p
  exact call_range_1 (k _ _ ⟨⟨_, _, rfl⟩, fun _ _ e => Heap.get?_push_of_some _ e⟩ ⟨_, _, _, _, rfl, hd_push J.newAddr rfl⟩)
theorem f_range2 {a b : Int} : BF c F Γ Ω (.type "range") [TInt a, TInt b] (TRng a b) := fun s vals J p Q E k => by
  obtain ⟨v, u, rfl⟩ := p.s2
  obtain ⟨⟨t, rfl⟩, ⟨t2, rfl⟩, _⟩ := p
  exact call_range_2 (k _ _ ⟨⟨_, _, rfl⟩, fun _ _ e => Heap.get?_push_of_some _ e⟩ ⟨_, _, _, _, rfl, hd_push J.newAddr rfl⟩)

/-- a comprehension over a list that is a map -/
theorem turns_map {α : Type} {xs : List α} {f : α → Ty} {g : α → Option Ty} {R : Ty → Option Ty → Prop} (h : ∀ x ∈ xs, R (f x) (g x)) : ∀ (i : Nat) (T : Ty) (U : Option Ty), (xs.map f)[i]? = some T → (xs.map g)[i]? = some U → R T U := fun i T U hT hU => by
  rw [List.getElem?_map] at hT hU
  cases e : xs[i]? with
  | none => rw [e] at hT; cases hT
  | some x =>
    rw [e] at hT hU
    cases hT; cases hU
    exact h x (List.mem_of_getElem? e)

theorem fm_some {α : Type} (xs : List α) (G : α → Ty) : (xs.map fun x => some (G x)).filterMap id = xs.map G := by
  induction xs with
  | nil => rfl
  | cons x r ih => rw [List.map_cons, List.filterMap_cons]; simp only [id]; rw [ih, List.map_cons]
theorem fm_map {α : Type} (xs : List α) (g : α → Option Ty) : (xs.map g).filterMap id = xs.filterMap g := by rw [List.filterMap_map]; rfl
section
variable {elt target iter : Expr} {ifs : List Expr} {scope : Scope} {pos : Pos} {T : Ty} {N' : List (Str × NameKind)} {C' : List (Str × Addr)} {Γc : Gam} {α : Type}
/-- a comprehension without tests -/
theorem ev_compM (xs : List α) (f G : α → Ty) (h : Comp c F Γ Ω elt target iter ifs scope T (xs.map f) (xs.map fun x => some (G x)) N' C' Γc)
    (hs : ∀ x, foldedSetIterable iter c.env x = pure x := by intro _; rfl) : EV c F Γ Ω (.ListComp elt [⟨target, iter, ifs, 0⟩] scope pos) (TList (xs.map G)) := by
  have := ev_comp (pos := pos) h hs
  rwa [fm_some] at this
theorem ev_compI (xs : List α) (f : α → Ty) (g : α → Int) (h : Comp c F Γ Ω elt target iter ifs scope T (xs.map f) (xs.map fun x => some (TInt (g x))) N' C' Γc)
    (hs : ∀ x, foldedSetIterable iter c.env x = pure x := by intro _; rfl) : EV c F Γ Ω (.ListComp elt [⟨target, iter, ifs, 0⟩] scope pos) (TList ((xs.map g).map TInt)) := by
  have := ev_compM (pos := pos) xs f (fun x => TInt (g x)) h hs
  rwa [List.map_map]
theorem ev_compS (xs : List α) (f : α → Ty) (g : α → Str) (h : Comp c F Γ Ω elt target iter ifs scope T (xs.map f) (xs.map fun x => some (TStr (g x))) N' C' Γc)
    (hs : ∀ x, foldedSetIterable iter c.env x = pure x := by intro _; rfl) : EV c F Γ Ω (.ListComp elt [⟨target, iter, ifs, 0⟩] scope pos) (TList ((xs.map g).map TStr)) := by
  have := ev_compM (pos := pos) xs f (fun x => TStr (g x)) h hs
  rwa [List.map_map]
theorem x_compM (xs : List α) (f G : α → Ty) {x : Str} {px spos : Pos} {s : Shared} {Q : Flow → Shared → Prop} {E : Value → Shared → Prop} {rest : List Stmt} (I : Inv c F Γ Ω s) (h : Comp c F Γ Ω elt target iter ifs scope T (xs.map f) (xs.map fun x => some (G x)) N' C' Γc)
    (hx : F.N.lookup x = some .local) (hline : (px.line == pos.line) = true) (hno : (scope.names.any fun (n, k) => n == x && (k == .local || k == .cell)) = false)
    (hcont : ∀ s', Inv c F ((x, TList (xs.map G)) :: Γ) Ω s' → wpAny (model PG c.w) c.A (execs rest c.env) Q E s')
    (hs : ∀ x, foldedSetIterable iter c.env x = pure x := by intro _; rfl) :
    wpAny (model PG c.w) c.A (execs (.Assign [.Name x px] (.ListComp elt [⟨target, iter, ifs, 0⟩] scope pos) spos :: rest) c.env) Q E s :=
  x_comp I h hx hline hno (by rw [fm_some]; exact hcont) hs
theorem x_compI (xs : List α) (f : α → Ty) (g : α → Int) {x : Str} {px spos : Pos} {s : Shared} {Q : Flow → Shared → Prop} {E : Value → Shared → Prop} {rest : List Stmt} (I : Inv c F Γ Ω s) (h : Comp c F Γ Ω elt target iter ifs scope T (xs.map f) (xs.map fun x => some (TInt (g x))) N' C' Γc)
    (hx : F.N.lookup x = some .local) (hline : (px.line == pos.line) = true) (hno : (scope.names.any fun (n, k) => n == x && (k == .local || k == .cell)) = false)
    (hcont : ∀ s', Inv c F ((x, TList ((xs.map g).map TInt)) :: Γ) Ω s' → wpAny (model PG c.w) c.A (execs rest c.env) Q E s')
    (hs : ∀ x, foldedSetIterable iter c.env x = pure x := by intro _; rfl) :
    wpAny (model PG c.w) c.A (execs (.Assign [.Name x px] (.ListComp elt [⟨target, iter, ifs, 0⟩] scope pos) spos :: rest) c.env) Q E s :=
  x_compM xs f (fun x => TInt (g x)) I h hx hline hno (by rw [List.map_map] at hcont; exact hcont) hs
theorem x_compF (xs : List α) (f : α → Ty) (g : α → Option Ty) {x : Str} {px spos : Pos} {s : Shared} {Q : Flow → Shared → Prop} {E : Value → Shared → Prop} {rest : List Stmt} (I : Inv c F Γ Ω s) (h : Comp c F Γ Ω elt target iter ifs scope T (xs.map f) (xs.map g) N' C' Γc)
    (hx : F.N.lookup x = some .local) (hline : (px.line == pos.line) = true) (hno : (scope.names.any fun (n, k) => n == x && (k == .local || k == .cell)) = false)
    (hcont : ∀ s', Inv c F ((x, TList (xs.filterMap g)) :: Γ) Ω s' → wpAny (model PG c.w) c.A (execs rest c.env) Q E s')
    (hs : ∀ x, foldedSetIterable iter c.env x = pure x := by intro _; rfl) :
    wpAny (model PG c.w) c.A (execs (.Assign [.Name x px] (.ListComp elt [⟨target, iter, ifs, 0⟩] scope pos) spos :: rest) c.env) Q E s :=
  x_comp I h hx hline hno (by rw [fm_map]; exact hcont) hs
end
end
end Mine

end

section
open PySem PySem.W PyProof.Rows PySem.Calls PySem.Flt
set_option maxRecDepth 100000
set_option maxHeartbeats 1000000
set_option linter.unusedVariables false
namespace Mine

/-- what a turn of a loop must end in -/
noncomputable def LoopQ (c : Cx) (b : Shared) (F : Fx) (Γ : Gam) (Ω : Own) (Q : Flow → Shared → Prop) : Flow → Shared → Prop
  | .next, s => Inv { c with s₀ := b } F Γ Ω s
  | .cont, s => Inv { c with s₀ := b } F Γ Ω s
  | .brk, _ => False
  | .ret v, s => Kp c.s₀ b → Q (.ret v) s

section
variable {c : Cx} {F : Fx} {Γ : Gam} {Ω : Own} {s : Shared}
/-- a loop's own ground: all that stands at its start, but the frame's own -/
noncomputable abbrev baseOf (F : Fx) (s : Shared) : Shared := { s with heap := hideAll s.heap F.Y }
theorem Inv.baseKp (I : Inv c F Γ Ω s) : Kp c.s₀ (baseOf F s) := by
  obtain ⟨h, t, e⟩ := I.same
  refine ⟨⟨hideAll s.heap F.Y, s.toks, by rw [e]⟩, fun b o eb => hideAll_get _ (I.keep b o eb) fun q => ?_⟩
  rw [(I.fresh b q).1] at eb; cases eb
theorem Inv.rebase (I : Inv c F Γ Ω s) : Inv { c with s₀ := baseOf F s } F Γ Ω s :=
  { room := I.room, env := I.env, names := I.names, clls := I.clls, loc := I.loc, ns := I.ns, cells := I.cells, vars := I.vars, own := I.own, ownNd := I.ownNd
    top := I.top.keeps I.baseKp.keep
    low := fun a ha => let ⟨o, e⟩ := I.low a ha; ⟨o, I.baseKp.keep _ _ e⟩
    same := ⟨s.heap, s.toks, rfl⟩
    keep := hd_low
    fresh := fun a ha => ⟨hideAll_none _ ha, (I.fresh a ha).2⟩ }
theorem Inv.unbase {b : Shared} {Γ' : Gam} {Ω' : Own} {s' : Shared} (I : Inv c F Γ Ω s) (J : Inv { c with s₀ := b } F Γ' Ω' s') (k : Kp c.s₀ b) : Inv c F Γ' Ω' s' :=
  { room := J.room, env := J.env, names := J.names, clls := J.clls, loc := J.loc, ns := J.ns, cells := J.cells, vars := J.vars, own := J.own, ownNd := J.ownNd
    top := I.top, low := I.low
    same := by obtain ⟨h, t, e⟩ := k.same; obtain ⟨h', t', e'⟩ := J.same; exact ⟨h', t', by rw [e']; show _ = _; rw [e]⟩
    keep := fun x o e => J.keep x o (k.keep x o e)
    fresh := fun a ha => ⟨(I.fresh a ha).1, (J.fresh a ha).2⟩ }
end

theorem x_for {c : Cx} {F : Fx} {s : Shared} {Q : Flow → Shared → Prop} {E : Value → Shared → Prop} {rest : List Stmt} {target iter : Expr} {body : List Stmt} {pos : Pos} {T : Ty} {Ts : List Ty} (Γi : Nat → Gam) (Ωi : Nat → Own)
    (I : Inv c F (Γi 0) (Ωi 0) s) (hit : EV c F (Γi 0) (Ωi 0) iter T) (hI : ITR c F (Γi 0) (Ωi 0) T Ts) (hkeys : ∀ i, (Ωi i).map (·.1) = (Ωi 0).map (·.1))
    (hturn : ∀ (i : Nat) (U : Ty), Ts[i]? = some U → ∀ (b : Shared) (wr : List Addr) (ob : Own) (E' : Value → Shared → Prop), ∃ Γ', ASG { c with s₀ := b } { F with Y := wr ++ F.Y } (Γi i) (ob ++ Ωi i) target U Γ' ∧
      ∀ s, Inv { c with s₀ := b } { F with Y := wr ++ F.Y } Γ' (ob ++ Ωi i) s → wpAny (model PG c.w) c.A (execs body c.env) (LoopQ c b { F with Y := wr ++ F.Y } (Γi (i + 1)) (ob ++ Ωi (i + 1)) Q) E' s)
    (hend : ∀ s', Inv c F (Γi Ts.length) (Ωi Ts.length) s' → wpAny (model PG c.w) c.A (execs rest c.env) Q E s')
    (hs : ∀ x, foldedSetIterable iter c.env x = pure x := by intro _; rfl) :
    wpAny (model PG c.w) c.A (execs (.For target iter body [] pos :: rest) c.env) Q E s := by
  refine wpAny_execs_cons (wpAny_For ?_ hs)
  refine hit s I _ _ fun xv s₁ k₁ p₁ => ?_
  have I₁ := I.keeps k₁
  refine hI s₁ xv I₁ p₁ _ _ fun It s₂ fp wr P St k₂ W hst hfp hfpX hnd hwr hP hob => ?_
  obtain ⟨ob, hob⟩ := hob
  let F' : Fx := { F with Y := wr ++ F.Y }
  let c' : Cx := { c with s₀ := baseOf F s₁ }
  have kb : Kp c.s₀ (baseOf F s₁) := I₁.baseKp
  have wrEx : ∀ b ∈ wr, ∃ o, s₂.heap.get? b = some o := fun b hb => hfp b (W.sub b hb)
  have I₂ : Inv c' F' (Γi 0) (Ωi 0) s₂ := I₁.rebase.addOwns k₂ hwr wrEx
  have locFp : c.env.locals ∉ fp := fun q => hfpX _ q (List.mem_append_left _ I.loc)
  have cellFp : ∀ x k, c.env.cells.lookup x = some k → k ∉ fp := fun x k e q => hfpX _ q (I.cells x k e).2
  have keyOld : ∀ i, ∀ p ∈ Ωi i, p.1 ∉ wr := fun i p hp q => by
    have hm : p.1 ∈ (Ωi i).map (·.1) := List.mem_map.mpr ⟨p, hp, rfl⟩
    rw [hkeys i] at hm
    obtain ⟨p', hp', e⟩ := List.mem_map.mp hm
    obtain ⟨o, e', _⟩ := (I₁.own p' hp').1
    rw [e, hwr _ q] at e'; cases e'
  have YOld : ∀ b ∈ F.Y, b ∉ wr := fun b hb q => hfpX b (W.sub b q) (List.mem_append_left _ hb)
  have pinIt : ∀ {i j Γ s}, Inv c' F' Γ (Ωi i) s → St j s.heap → Inv c' F' Γ (ob j ++ Ωi i) s := fun {i j Γ s} J hs => by
    have keysIn : ∀ p ∈ ob j, p.1 ∈ fp := fun p hp => by rw [← (hob j).2]; exact List.mem_map.mpr ⟨p, hp, rfl⟩
    refine J.pin (fun p hp => ⟨((hob j).1 _).mp hs p hp, fun q => locFp (q ▸ keysIn p hp), fun x k e q => cellFp x k e (q ▸ keysIn p hp)⟩) ?_ fun p hp q hq e z => ?_
    · have : ((ob j).map (·.1)).Nodup := by rw [(hob j).2]; exact hnd
      exact (List.pairwise_map.mp this).imp fun h e => absurd e h
    · rcases List.mem_append.mp z with z | z
      · exact keyOld i q hq (e ▸ z)
      · exact hfpX _ (keysIn p hp) (List.mem_append_left _ z)
  have stOf : ∀ {i j Γ s}, Inv c' F' Γ (ob j ++ Ωi i) s → St j s.heap := fun {i j Γ s} J => ((hob j).1 _).mpr fun p hp => (J.own p (List.mem_append_left _ hp)).1
  have wrOk : ∀ i, ∀ a ∈ wr, a ∈ F'.Y ∧ a ≠ c.env.locals ∧ (∀ x, c.env.cells.lookup x ≠ some a) ∧ ∀ p ∈ Ωi i, p.1 ≠ a := fun i a ha =>
    ⟨List.mem_append_left _ ha, fun q => locFp (q ▸ W.sub a ha), fun x e => cellFp x a e (W.sub a ha), fun p hp q => keyOld i p hp (q ▸ ha)⟩
  refine codeAny_forLoop_any (fun n s' => ∃ i, n = Ts.length + 1 - i ∧ i ≤ Ts.length ∧ Inv c' F' (Γi i) (ob i ++ Ωi i) s') ?_ (Ts.length + 1) ⟨0, rfl, Nat.zero_le _, pinIt I₂ hst⟩
  rintro n s' ⟨i, rfl, hi, J⟩
  have hst' := stOf J
  have J0 := J.unpin
  by_cases hlt : i < Ts.length
  · refine W.item i s' _ _ hlt hst' fun v h' tk hPv hst₁ hk₁ => ?_
    obtain ⟨Ti, hTi⟩ : ∃ Ti, Ts[i]? = some Ti := ⟨_, List.getElem?_eq_getElem hlt⟩
    have J1 : Inv c' F' (Γi i) (Ωi i) { s' with heap := h', toks := tk } := J0.chgO (wrOk i) hk₁ (W.ex _ _ hst₁)
    refine W.own i _ target v _ _ hPv hst₁ fun h'' tk' hst₂ hk₂ => ?_
    have J2 : Inv c' F' (Γi i) (Ωi i) { s' with heap := h'', toks := tk' } := J1.chgO (wrOk i) hk₂ (W.ex _ _ hst₂)
    have J3 := pinIt J2 hst₂
    obtain ⟨Γ', hasg, hbody⟩ := hturn i Ti hTi (baseOf F s₁) wr (ob (i + 1)) (notedBy (model PG c.w) c.A c.env fun e s' => cameBackBy (model PG c.w) c.A c.env E e s')
    have hvT : Ti.P (hideAll h'' (F'.Y ++ c.X)) v := by
      refine Ti.up (fun b o e => ?_) (hP i v Ti hPv hTi)
      have hb : b ∉ F.Y ++ c.X := hideAll_mem e
      have eb : (hideAll s₁.heap F.Y).get? b = some o := hideAll_get _ (of_hideAll _ e) fun q => hb (List.mem_append_left _ q)
      refine hideAll_get _ (J2.keep b o eb) fun q => ?_
      rcases List.mem_append.mp q with q | q
      · rw [show (hideAll s₁.heap F.Y).get? b = none from (J2.fresh b q).1] at eb; cases eb
      · exact hb (List.mem_append_right _ q)
    refine hasg _ v _ _ J3 hvT fun s₅ J5 _ => ?_
    refine wpAny_mono (hbody s₅ J5) (fun f s₆ hf => ?_) fun _ _ x => x
    cases f with
    | next => exact ⟨Ts.length + 1 - (i + 1), by omega, i + 1, rfl, hlt, hf⟩
    | cont => exact ⟨Ts.length + 1 - (i + 1), by omega, i + 1, rfl, hlt, hf⟩
    | brk => exact hf.elim
    | ret v => exact hf kb
  · have hin : i = Ts.length := by omega
    subst hin
    refine W.done s' _ _ hst' fun h' tk hk₁ => ?_
    refine wpAny_execs_nil (hend _ ?_)
    refine I₁.unbase (b := baseOf F s₁) ?_ kb
    exact J0.dropChgs I.loc (fun x k e => (I.cells x k e).2) hk₁ (fun q => locFp (W.sub _ q)) (fun x k e q => cellFp x k e (W.sub _ q)) (keyOld _) YOld
end Mine

end

section
open PySem PySem.W PyProof.Rows PySem.Calls PySem.Flt
set_option maxRecDepth 100000
set_option maxHeartbeats 1000000
set_option linter.unusedVariables false
namespace Mine
section
variable {c : Cx} {F : Fx} {Γ : Gam} {Ω : Own}

theorem op_mul_ii {a b : Int} (hm : IntMulOk a b) : OP c F Γ Ω (TInt a) (TInt b) (binaryOp .Mult) (TInt (a * b)) := op_int fun h => mul_int h hm
theorem op_fdiv_ii {a b : Int} (hb : b ≠ 0) (hs : b.natAbs < 1073741824) : OP c F Γ Ω (TInt a) (TInt b) (binaryOp .FloorDiv) (TInt (a.fdiv b)) := op_int fun h => floordiv_int hb h (.inl (PyProof.noPylong_small hs))
theorem op_pow_ii {a b : Int} (hn : 0 ≤ b) (hsz : (Builtin.Int.intBits a : Int) * b ≤ 2 ^ 27) : OP c F Γ Ω (TInt a) (TInt b) (binaryOp .Pow) (TInt (a ^ b.toNat)) := op_int fun h => pow_int hn hsz h
theorem ev_neg {e : Expr} {a : Int} {pos : Pos} (h : EV c F Γ Ω e (TInt a)) : EV c F Γ Ω (.UnaryOp .USub e pos) (TInt (-a)) := fun s I Q E k => by
  rw [arm_eval_UnaryOp]
  refine wpAny_bind (h s I _ _ fun v s₁ k₁ p₁ => ?_)
  obtain ⟨t, rfl⟩ := p₁
  exact wpAny_bind (wpAny_standAt (wpAny_holding (neg_int (k _ _ (k₁.trans (Kp.tok s₁ _)) ⟨_, rfl⟩))))
theorem ev_if {test a b : Expr} {pos : Pos} {t : Bool} {T1 T2 : Ty} (ht : TR c F Γ Ω test t) (h1 : t = true → EV c F Γ Ω a T1) (h2 : t = false → EV c F Γ Ω b T2) : EV c F Γ Ω (.IfExp test a b pos) (bif t then T1 else T2) := fun s I Q E k => by
  rw [arm_eval_IfExp]
  refine wpAny_bind (ht s I _ _ fun s₁ k₁ => ?_)
  cases t with
  | true => exact h1 rfl s₁ (I.keeps k₁) _ _ fun v s₂ k₂ p₂ => k v s₂ (k₁.trans k₂) p₂
  | false => exact h2 rfl s₁ (I.keeps k₁) _ _ fun v s₂ k₂ p₂ => k v s₂ (k₁.trans k₂) p₂

theorem op_cat {Ts Us : List Ty} (hsz : Ts.length + Us.length ≤ 4096) : OP c F Γ Ω (TList Ts) (TList Us) (binaryOp .Add) (TList (Ts ++ Us)) := fun s v1 v2 I p1 p2 Q E k => by
  obtain ⟨a, vs, rfl, ⟨n, hn⟩, al⟩ := p1
  obtain ⟨b, ws, rfl, ⟨n2, hn2⟩, al2⟩ := p2
  have e : vs.toArray ++ ws.toArray = (vs ++ ws).toArray := by simp
  have h1 := of_hideAll _ hn
  have h2 := of_hideAll _ hn2
  refine concat_meets ⟨_, h1, rfl⟩ ⟨_, h2, rfl⟩ noFill_list_add seq_list_add PySem.F.slot_list_add PySem.F.entry_list_add (PySem.F.args_list_add_2 _ _) (list_addW a b vs.toArray ws.toArray n n2 none none #[] #[] (by rw [List.size_toArray, List.size_toArray, al.length, al2.length]; exact Nat.le_trans hsz (by decide))) ⟨h1, h2, ?_⟩
  rw [e]
  exact k _ _ (Kp.push s _) ⟨_, vs ++ ws, rfl, ⟨_, hd_push I.newAddr rfl⟩, (al.up (hd_keep (Kp.push s _).keep)).app (al2.up (hd_keep (Kp.push s _).keep))⟩

noncomputable def SUB (c : Cx) (F : Fx) (Γ : Gam) (Ω : Own) (value slice : Expr) (T1 T2 T : Ty) : Prop :=
  ∀ s v1 v2, Inv c F Γ Ω s → T1.P (hideAll s.heap (F.Y ++ c.X)) v1 → T2.P (hideAll s.heap (F.Y ++ c.X)) v2 → PR c.w c.A (F.Y ++ c.X) s (subscriptTail value slice v1 v2) T
theorem ev_sub {value slice : Expr} {pos : Pos} {T1 T2 T : Ty} (h1 : EV c F Γ Ω value T1) (h2 : EV c F Γ Ω slice T2) (h : SUB c F Γ Ω value slice T1 T2 T) : EV c F Γ Ω (.Subscript value slice pos) T := fun s I Q E k => by
  refine Subscript_ (h1 s I _ _ fun v1 s₁ k₁ p₁ => h2 s₁ (I.keeps k₁) _ _ fun v2 s₂ k₂ p₂ => ?_)
  exact h s₂ v1 v2 (I.keeps (k₁.trans k₂)) (T1.up (hd_keep k₂.keep) p₁) p₂ _ _ fun v s₃ k₃ p₃ => k v s₃ ((k₁.trans k₂).trans k₃) p₃
/-- a subscript that is no slice -/
noncomputable def Plain (slice : Expr) : Prop := ∀ (a : Addr) (k : Int) (u : Tok), subscripted slice false (.ref a) (.int k u) = operate [.ref a, .int k u] (getItem (.ref a) (.int k u))
theorem sub_list {value slice : Expr} {Ts : List Ty} {k : Int} {U : Ty} (hs : Plain slice) (h0 : 0 ≤ k) (hx : Ts[k.toNat]? = some U) (hl : Ts.length ≤ 4096) : SUB c F Γ Ω value slice (TList Ts) (TInt k) U := fun s v1 v2 I p1 p2 Q E kk => by
  obtain ⟨a, vs, rfl, ⟨n, hn⟩, al⟩ := p1
  obtain ⟨t, rfl⟩ := p2
  obtain ⟨v, hv, pv⟩ := al.get hx
  have hL : s.heap.IsList a vs.toArray := ⟨_, of_hideAll _ hn, rfl, n, rfl⟩
  have hk : k < 2 ^ 63 := by
    have := (List.getElem?_eq_some_iff.mp hx).1
    have h3 : (k.toNat : Int) < 4096 := by omega
    have h4 : k < 4096 := by omega
    exact Int.lt_of_lt_of_le h4 (by decide)
  exact tail_any hL.typeIs slot_list_getitem.lookup (wpAny_getItem_list hL h0 hk (by simpa using hv) (kk v s (Kp.refl s) pv)) (hs a k t)
theorem sub_tup {value slice : Expr} {Ts : List Ty} {k : Int} {U : Ty} (hs : Plain slice) (h0 : 0 ≤ k) (hx : Ts[k.toNat]? = some U) (hl : Ts.length ≤ 4096) : SUB c F Γ Ω value slice (TTup Ts) (TInt k) U := fun s v1 v2 I p1 p2 Q E kk => by
  obtain ⟨a, vs, rfl, ht, al⟩ := TTup.isTup p1
  obtain ⟨t, rfl⟩ := p2
  obtain ⟨v, hv, pv⟩ := al.get hx
  have hlt := (List.getElem?_eq_some_iff.mp hx).1
  have h4 : k < 4096 := by have : (k.toNat : Int) < 4096 := by omega
                           omega
  refine item_tupleT (ht.keeps hd_low) (Int.le_trans (by decide) h0) (Int.lt_of_lt_of_le h4 (by decide)) (j := k.toNat) ?_ hv (kk v s (Kp.refl s) pv) (hs a k t)
  unfold seqIndex?
  rw [al.length]
  dsimp only
  rw [if_neg (show ¬ k < 0 by omega), if_pos]
  rw [Bool.and_eq_true, decide_eq_true_eq, decide_eq_true_eq]
  omega

theorem f_len {Ts : List Ty} (hl : Ts.length ≤ 4096) : BF c F Γ Ω (.builtin "len") [TList Ts] (TInt Ts.length) := fun s vals I p Q E k => by
  obtain ⟨v, rfl⟩ := p.s1
  obtain ⟨⟨a, vs, rfl, ⟨n, hn⟩, al⟩, _⟩ := p
  have hL : s.heap.IsList a vs.toArray := ⟨_, of_hideAll _ hn, rfl, n, rfl⟩
  have hlen := al.length
  refine call_len_list hL ?_ ?_
  · rw [List.size_toArray, hlen]; exact Int.lt_of_le_of_lt (Int.ofNat_le.mpr hl) (by decide)
  · exact k _ _ (Kp.tok s _) ⟨s.toks + 1, by rw [List.size_toArray, hlen]⟩

/-- a part of a slice -/
noncomputable def PART (c : Cx) (F : Fx) (Γ : Gam) (Ω : Own) (e : Option Expr) (o : Option Int) : Prop :=
  ∀ s, Inv c F Γ Ω s → ∀ (Q : Value → Shared → Prop) (E : Value → Shared → Prop), (∀ v s', Kp s s' → IsPart v o → Q v s') → wpAny (model PG c.w) c.A (evalPart e c.env) Q E s
theorem part_none : PART c F Γ Ω none none := fun s I Q E k => wpAny_pure (k _ s (Kp.refl s) .none)
theorem part_some {e : Expr} {i : Int} (h : EV c F Γ Ω e (TInt i)) : PART c F Γ Ω (some e) (some i) := fun s I Q E k => h s I Q E fun v s' k' ⟨t, e⟩ => k v s' k' (e ▸ .int i t)

noncomputable def pickT (Ts : List Ty) (lo hi st : Option Int) : List Ty :=
  (sliceRange (sliceBounds lo hi st Ts.length).1 (sliceBounds lo hi st Ts.length).2.1 (sliceBounds lo hi st Ts.length).2.2).filterMap (Ts[·]?)
theorem All2.places {h : Heap} {vs : List Value} {Ts : List Ty} (a : All2 h vs Ts) : ∀ js : List Nat, All2 h (js.filterMap (vs[·]?)) (js.filterMap (Ts[·]?))
  | [] => trivial
  | j :: js => by
    have ih := All2.places a js
    cases hT : Ts[j]? with
    | some T =>
      obtain ⟨v, hv, p⟩ := a.get hT
      simp only [List.filterMap_cons, hT, hv]
      exact ⟨p, ih⟩
    | none =>
      have hv : vs[j]? = none := by
        rw [List.getElem?_eq_none_iff] at hT ⊢
        rw [a.length]; exact hT
      simp only [List.filterMap_cons, hT, hv]
      exact ih
theorem All2.pick {h : Heap} {vs : List Value} {Ts : List Ty} (a : All2 h vs Ts) (lo hi st : Option Int) : All2 h (slicePick vs.toArray lo hi st).toList (pickT Ts lo hi st) := by
  have e : (slicePick vs.toArray lo hi st).toList = (sliceRange (sliceBounds lo hi st Ts.length).1 (sliceBounds lo hi st Ts.length).2.1 (sliceBounds lo hi st Ts.length).2.2).filterMap (vs[·]?) := by
    simp [slicePick, a.length]
  rw [e]; exact a.places _

theorem ev_slice {value : Expr} {lower upper step : Option Expr} {p pos : Pos} {Ts : List Ty} {lo hi st : Option Int} (h1 : EV c F Γ Ω value (TList Ts)) (hl : PART c F Γ Ω lower lo) (hu : PART c F Γ Ω upper hi) (hst : PART c F Γ Ω step st) (h0 : st ≠ some 0) (hsz : Ts.length ≤ 4096)
    (hs : ∀ a b : Addr, ∃ ops, subscripted (.Slice lower upper step p) false (.ref a) (.ref b) = operate ops (getItem (.ref a) (.ref b)) := by intro a b; exact ⟨_, by with_unfolding_all rfl⟩) :
    EV c F Γ Ω (.Subscript value (.Slice lower upper step p) pos) (TList (pickT Ts lo hi st)) := fun s I Q E k => by
  refine Subscript_ (h1 s I _ _ fun v1 s₁ k₁ p₁ => wpAny_Slice (hl s₁ (I.keeps k₁) _ _ fun vl s₂ k₂ q₂ => hu s₂ (I.keeps (k₁.trans k₂)) _ _ fun vu s₃ k₃ q₃ => hst s₃ (I.keeps ((k₁.trans k₂).trans k₃)) _ _ fun vs s₄ k₄ q₄ => ?_))
  have I4 := I.keeps (((k₁.trans k₂).trans k₃).trans k₄)
  have p4 := (TList Ts).up (hd_keep (((k₂.trans k₃).trans k₄)).keep) p₁
  obtain ⟨a, ws, rfl, ⟨n, hn⟩, al⟩ := p4
  have hL : s₄.heap.IsList a ws.toArray := ⟨_, of_hideAll _ hn, rfl, n, rfl⟩
  obtain ⟨ops, hops⟩ := hs a s₄.heap.objs.size
  refine tail_any (Heap.IsList.typeIs (s := { s₄ with heap := s₄.heap.push { cls := .type "slice", data := .fields #[vl, vu, vs] } }) (hL.push _)) list_getitem_lookup
    (wpAny_getItem_list_slice (hL.push _) (Heap.IsSliceOf.new ..) q₂ q₃ q₄ h0 ?_ (by rw [List.size_toArray, al.length]; exact Nat.le_trans hsz (by decide))) hops
  have k5 := Kp.push s₄ { cls := .type "slice", data := .fields #[vl, vu, vs] }
  have k6 := Kp.push { s₄ with heap := s₄.heap.push { cls := .type "slice", data := .fields #[vl, vu, vs] } } { cls := .type "list", data := .seq (slicePick ws.toArray lo hi st) }
  refine k _ _ ((((k₁.trans k₂).trans k₃).trans k₄).trans (k5.trans k6)) ?_
  refine ⟨_, (slicePick ws.toArray lo hi st).toList, rfl, ⟨0, ?_⟩, (al.pick lo hi st).up (hd_keep (k5.trans k6).keep)⟩
  have := hd_push (o := { cls := .type "list", data := .seq (slicePick ws.toArray lo hi st) }) (I4.keeps k5).newAddr rfl
  simpa using this

theorem f_chr {i : Int} (h0 : 0 ≤ i) (h1 : i ≤ 1114111) : BF c F Γ Ω (.builtin "chr") [TInt i] (TStr ⟨#[i.toNat]⟩) := fun s vals I p Q E k => by
  obtain ⟨v, rfl⟩ := p.s1
  obtain ⟨⟨t, rfl⟩, _⟩ := p
  exact chr_of_range h0 h1 (k _ _ (Kp.tok s _) ⟨_, rfl⟩)

theorem pick_nat (Ts : List Ty) (a b : Nat) : (sliceRange (a : Int) (b : Int) 1).filterMap (Ts[·]?) = (Ts.drop a).take (b - a) := by
  rw [sliceRange_one]
  have := pick_run Ts.toArray a (b - a)
  simpa using this
theorem cut_min (Ts : List Ty) (a b : Nat) : (Ts.drop (min a Ts.length)).take (min b Ts.length - min a Ts.length) = (Ts.take b).drop a := by
  rw [List.drop_take]
  by_cases h : a ≤ Ts.length
  · rw [Nat.min_eq_left h]
    by_cases h2 : b ≤ Ts.length
    · rw [Nat.min_eq_left h2]
    · rw [Nat.min_eq_right (by omega), List.take_of_length_le (by simp), List.take_of_length_le (by rw [List.length_drop]; omega)]
  · rw [List.drop_eq_nil_of_le (show Ts.length ≤ min a Ts.length by omega), List.drop_eq_nil_of_le (show Ts.length ≤ a by omega)]
    simp
theorem clip_nat {x : Int} (hx : 0 ≤ x) (n : Nat) : max 0 (min x (n : Int)) = ((min x.toNat n : Nat) : Int) := by omega
theorem pickT_xy (Ts : List Ty) {x y : Int} (hx : 0 ≤ x) (hy : 0 ≤ y) : pickT Ts (some x) (some y) none = (Ts.take y.toNat).drop x.toNat := by
  have e : sliceBounds (some x) (some y) none Ts.length = (((min x.toNat Ts.length : Nat) : Int), ((min y.toNat Ts.length : Nat) : Int), 1) := by
    have h1 : ¬ x < 0 := by omega
    have h2 : ¬ y < 0 := by omega
    simp only [sliceBounds, Option.getD_none, h1, h2, if_false, show (1 : Int) > 0 by decide, if_true]
    refine Prod.ext ?_ (Prod.ext ?_ rfl)
    · exact clip_nat hx _
    · exact clip_nat hy _
  unfold pickT
  rw [e]
  exact (pick_nat Ts _ _).trans (cut_min Ts _ _)
theorem pickT_y (Ts : List Ty) {y : Int} (hy : 0 ≤ y) : pickT Ts none (some y) none = Ts.take y.toNat := by
  have e : sliceBounds none (some y) none Ts.length = (((min 0 Ts.length : Nat) : Int), ((min y.toNat Ts.length : Nat) : Int), 1) := by
    have h2 : ¬ y < 0 := by omega
    simp only [sliceBounds, Option.getD_none, h2, if_false, show (1 : Int) > 0 by decide, if_true]
    refine Prod.ext ?_ (Prod.ext ?_ rfl)
    · show (0 : Int) = ((min 0 Ts.length : Nat) : Int); omega
    · exact clip_nat hy _
  unfold pickT
  rw [e]
  exact (pick_nat Ts _ _).trans ((cut_min Ts _ _).trans (by simp))
theorem pickT_x (Ts : List Ty) {x : Int} (hx : 0 ≤ x) : pickT Ts (some x) none none = Ts.drop x.toNat := by
  have e : sliceBounds (some x) none none Ts.length = (((min x.toNat Ts.length : Nat) : Int), ((min Ts.length Ts.length : Nat) : Int), 1) := by
    have h2 : ¬ x < 0 := by omega
    simp only [sliceBounds, Option.getD_none, h2, if_false, show (1 : Int) > 0 by decide, if_true]
    refine Prod.ext ?_ (Prod.ext ?_ rfl)
    · exact clip_nat hx _
    · show (Ts.length : Int) = ((min Ts.length Ts.length : Nat) : Int); omega
  unfold pickT
  rw [e]
  exact (pick_nat Ts _ _).trans ((cut_min Ts _ _).trans (by simp))

noncomputable abbrev SliceOp (lower upper step : Option Expr) (p : Pos) : Prop := ∀ a b : Addr, ∃ ops, subscripted (.Slice lower upper step p) false (.ref a) (.ref b) = operate ops (getItem (.ref a) (.ref b))
theorem ev_to {value u : Expr} {p pos : Pos} {Ts : List Ty} {y : Int} (h1 : EV c F Γ Ω value (TList Ts)) (hu : EV c F Γ Ω u (TInt y)) (hy : 0 ≤ y) (hsz : Ts.length ≤ 4096) (hs : SliceOp none (some u) none p) :
    EV c F Γ Ω (.Subscript value (.Slice none (some u) none p) pos) (TList (Ts.take y.toNat)) := by
  have := ev_slice (pos := pos) h1 part_none (part_some hu) part_none (by decide) hsz hs
  rwa [pickT_y Ts hy] at this
theorem ev_from {value u : Expr} {p pos : Pos} {Ts : List Ty} {x : Int} (h1 : EV c F Γ Ω value (TList Ts)) (hu : EV c F Γ Ω u (TInt x)) (hx : 0 ≤ x) (hsz : Ts.length ≤ 4096) (hs : SliceOp (some u) none none p) :
    EV c F Γ Ω (.Subscript value (.Slice (some u) none none p) pos) (TList (Ts.drop x.toNat)) := by
  have := ev_slice (pos := pos) h1 (part_some hu) part_none part_none (by decide) hsz hs
  rwa [pickT_x Ts hx] at this
theorem ev_cut {value l u : Expr} {p pos : Pos} {Ts : List Ty} {x y : Int} (h1 : EV c F Γ Ω value (TList Ts)) (hl : EV c F Γ Ω l (TInt x)) (hu : EV c F Γ Ω u (TInt y)) (hx : 0 ≤ x) (hy : 0 ≤ y) (hsz : Ts.length ≤ 4096) (hs : SliceOp (some l) (some u) none p) :
    EV c F Γ Ω (.Subscript value (.Slice (some l) (some u) none p) pos) (TList ((Ts.take y.toNat).drop x.toNat)) := by
  have := ev_slice (pos := pos) h1 (part_some hl) (part_some hu) part_none (by decide) hsz hs
  rwa [pickT_xy Ts hx hy] at this
end
end Mine

end

section
open PySem PySem.W PyProof.Rows PySem.Calls PySem.Flt
set_option maxRecDepth 100000
set_option maxHeartbeats 1000000
set_option linter.unusedVariables false
namespace Mine
section
variable {c : Cx} {F : Fx} {Γ : Gam} {Ω : Own}

theorem All2.ints {h : Heap} : ∀ {vs : List Value} {ns : List Int}, All2 h vs (ns.map TInt) → IntsAre vs ns
  | [], [], _ => .nil
  | _ :: _, n :: ns, ⟨⟨t, e⟩, b⟩ => by subst e; exact .cons n t (All2.ints b)
theorem All2.ofInts {h : Heap} : ∀ {vs : List Value} {ns : List Int}, IntsAre vs ns → All2 h vs (ns.map TInt)
  | _, _, .nil => trivial
  | _, _, .cons n t r => ⟨⟨t, rfl⟩, All2.ofInts r⟩
theorem All2.strs {h : Heap} : ∀ {vs : List Value} {ns : List Str}, All2 h vs (ns.map TStr) → StrsAre vs ns
  | [], [], _ => .nil
  | _ :: _, n :: ns, ⟨⟨t, e⟩, b⟩ => by subst e; exact .cons n t (All2.strs b)

noncomputable def srt (ns : List Int) : List Int := ns.mergeSort fun a b => decide (a ≤ b)
theorem srt_eq {ns ns' : List Int} (hp : ns'.Perm ns) (hs : ns'.Pairwise (· ≤ ·)) : ns' = srt ns := by
  have h1 : (srt ns).Perm ns := List.mergeSort_perm _ _
  have h2 := List.pairwise_mergeSort (le := fun a b : Int => decide (a ≤ b)) (fun a b c h h' => by simp only [decide_eq_true_eq] at *; omega) (fun a b => by simp only [Bool.or_eq_true, decide_eq_true_eq]; omega) ns
  refine List.Perm.eq_of_pairwise (le := fun a b : Int => a ≤ b) (fun a b _ _ h h' => Int.le_antisymm h h') hs ?_ (hp.trans h1.symm)
  exact h2.imp fun h => of_decide_eq_true h
theorem f_sorted {ns : List Int} (h64 : ns.length < 64) : BF c F Γ Ω (.builtin "sorted") [TList (ns.map TInt)] (TList ((srt ns).map TInt)) := fun s vals I p Q E k => by
  obtain ⟨v, rfl⟩ := p.s1
  obtain ⟨⟨a, vs, rfl, ⟨n, hn⟩, al⟩, _⟩ := p
  have hL : s.heap.IsList a vs.toArray := ⟨_, of_hideAll _ hn, rfl, n, rfl⟩
  have hi := al.ints
  have hlen := hi.length
  refine sorted_ints hL hi (by omega) fun out ns' a1 a2 a3 => ?_
  obtain ⟨e, he⟩ := sortedAll_at s.heap vs out
  have kp : Kp s { s with heap := sortedAll s.heap vs out } := Kp.of' fun b o e => sortedAll_old e
  refine k _ _ kp ⟨_, out.toList, rfl, ⟨e, ?_⟩, by rw [← srt_eq a2 a3]; exact All2.ofInts a1⟩
  have hnew : s.heap.objs.size + 1 ∉ F.Y ++ c.X := fun q => by
    obtain ⟨o, e⟩ := I.lowS _ q
    have h1 := ltN e rfl
    omega
  have := hideAll_get _ he hnew
  simpa using this

theorem f_sum {ns : List Int} : BF c F Γ Ω (.builtin "sum") [TList (ns.map TInt)] (TInt ns.sum) := fun s vals I p Q E k => by
  obtain ⟨v, rfl⟩ := p.s1
  obtain ⟨⟨a, vs, rfl, ⟨n, hn⟩, al⟩, _⟩ := p
  have hL : s.heap.IsList a vs.toArray := ⟨_, of_hideAll _ hn, rfl, n, rfl⟩
  have hi := al.ints
  obtain ⟨xs, hxs⟩ := hi.allInts.items
  have hsum : (numsOf (intItems xs).toList).sum = ns.sum := by rw [← hxs, show vs.toArray.toList = vs from rfl, hi.numsOf]
  rw [hxs] at hL
  refine sum_intListG I.room.handled hL fun h' tk t' hk => ?_
  refine k _ _ (Kp.of hk) ⟨t', ?_⟩
  rw [preSum_eq, List.take_of_length_le (by simp), ← nums_intItems, hsum]

theorem op_in {ns : List Int} {k : Int} : OP c F Γ Ω (TInt k) (TList (ns.map TInt)) (compareOp .In) (TBool (ns.any (· == k))) := fun s v1 v2 I p1 p2 Q E kk => by
  obtain ⟨t, rfl⟩ := p1
  obtain ⟨a, vs, rfl, ⟨n, hn⟩, al⟩ := p2
  exact in_list_ints ⟨_, of_hideAll _ hn, rfl, n, rfl⟩ al.ints (kk _ s (Kp.refl s) rfl)
theorem op_eq_ll {ns ms : List Int} : OP c F Γ Ω (TList (ns.map TInt)) (TList (ms.map TInt)) (compareOp .Eq) (TBool (decide (ns = ms))) := fun s v1 v2 I p1 p2 Q E kk => by
  obtain ⟨a, vs, rfl, ⟨n, hn⟩, al⟩ := p1
  obtain ⟨b, us, rfl, ⟨n2, hn2⟩, al2⟩ := p2
  exact ke_eq_ints ⟨_, of_hideAll _ hn, rfl, n, rfl⟩ ⟨_, of_hideAll _ hn2, rfl, n2, rfl⟩ al.ints al2.ints (by have := I.room.units; omega) (kk _ s (Kp.refl s) rfl)
theorem op_ne_ll {ns ms : List Int} : OP c F Γ Ω (TList (ns.map TInt)) (TList (ms.map TInt)) (compareOp .NotEq) (TBool (!decide (ns = ms))) := fun s v1 v2 I p1 p2 Q E kk => by
  obtain ⟨a, vs, rfl, ⟨n, hn⟩, al⟩ := p1
  obtain ⟨b, us, rfl, ⟨n2, hn2⟩, al2⟩ := p2
  exact ke_ne_ints ⟨_, of_hideAll _ hn, rfl, n, rfl⟩ ⟨_, of_hideAll _ hn2, rfl, n2, rfl⟩ al.ints al2.ints (by have := I.room.units; omega) (kk _ s (Kp.refl s) rfl)

/-- a method of a str -/
noncomputable def MF (c : Cx) (F : Fx) (Γ : Gam) (Ω : Own) (id : String) (x : Str) (Ts : List Ty) (T : Ty) : Prop := ∀ s t vals, Inv c F Γ Ω s → All2 (hideAll s.heap (F.Y ++ c.X)) vals Ts → PR c.w c.A (F.Y ++ c.X) s (call (.builtin id) (.str x t :: vals)) T
/-- a str has the method -/
noncomputable def MS (name : Str) (id : String) : Prop := ∀ (c : Cx) (s : Shared) (x : Str) (t : Tok) (pl : Sem Bool) (Q : Value × List Value → Shared → Prop) (E : Value → Shared → Prop), Q (.builtin id, [.str x t]) s → wpAny (model PG c.w) c.A (getMethod (.str x t) name pl) Q E s
theorem ms_join : MS "join" "str.join" := fun c s x t pl Q E h => PySem.GM.join h
theorem ms_split : MS "split" "str.split" := fun c s x t pl Q E h => PySem.GM.split h
theorem ms_startswith : MS "startswith" "str.startswith" := fun c s x t pl Q E h => PySem.GM.startswith h
theorem ms_endswith : MS "endswith" "str.endswith" := fun c s x t pl Q E h => PySem.GM.endswith h
theorem ms_find : MS "find" "str.find" := fun c s x t pl Q E h => PySem.GM.find h
theorem ev_meth {o : Expr} {name : Str} {id : String} {apos pos : Pos} {e : Expr} {r : List Expr} {x : Str} {Ts : List Ty} {T : Ty} {pl : Sem Bool} (hm : MS name id) (ho : EV c F Γ Ω o (TStr x)) (ha : EVs c F Γ Ω (e :: r) Ts) (hn : noStar (e :: r) = true) (hf : MF c F Γ Ω id x Ts T)
    (he : eval (.Call (.Attribute o name apos) (e :: r) [] pos) c.env = (do
      let ov ← eval o c.env
      standAt apos.atName
      let (f, first) ← holding [ov] (getMethod ov name pl)
      callWith pos f first (backTo pos (starEach (e :: r) c.env)) [])) : EV c F Γ Ω (.Call (.Attribute o name apos) (e :: r) [] pos) T := fun s I Q E k => by
  refine MethodCall_ (ho s I _ _ fun v s₁ k₁ p₁ => ?_) he
  obtain ⟨t, rfl⟩ := p₁
  refine hm c s₁ x t pl _ _ (callWith_builtin (star_plain hn) (evs_args ha hn (I.keeps k₁) fun vs s₂ k₂ p₂ => ?_))
  exact hf s₂ t vs ((I.keeps k₁).keeps k₂) p₂ _ _ fun v s₃ k₃ p₃ => k v s₃ ((k₁.trans k₂).trans k₃) p₃
theorem m_join {x : Str} {ys : List Str} (hok : (ys.map (·.length)).sum + ys.length * x.length ≤ 16777216) : MF c F Γ Ω "str.join" x [TList (ys.map TStr)] (TStr (Txt.join x ys)) := fun s t vals I p Q E k => by
  obtain ⟨v, rfl⟩ := p.s1
  obtain ⟨⟨a, vs, rfl, ⟨n, hn⟩, al⟩, _⟩ := p
  exact join_list ⟨_, of_hideAll _ hn, rfl, n, rfl⟩ (by simpa using al.strs) hok fun t' k' => k _ _ (Kp.tok s _) ⟨_, rfl⟩

theorem itr_tup {Ts : List Ty} : ITR c F Γ Ω (TTup Ts) Ts := fun s v J p Q E k => by
  obtain ⟨a, vs, n0, rfl, hn0, al⟩ := p
  have hl : s.heap.IsTuple a vs.toArray := ⟨_, of_hideAll _ hn0, rfl, n0, rfl⟩
  have hlt : a ≠ s.heap.objs.size := Nat.ne_of_lt (Heap.lt_size (of_hideAll _ hn0))
  refine wpAny_pyIter_tuple hl ?_
  have hlen : Ts.length = vs.toArray.size := by rw [List.size_toArray, al.length]
  have W : Walks PG c.w c.A s.heap.objs.size [s.heap.objs.size, a] [s.heap.objs.size] Ts.length (fun i v => vs.toArray[i]? = some v) (fun i h => h.IsTupleIter s.heap.objs.size a i ∧ h.IsTuple a vs.toArray) := by
    rw [hlen]; exact Walks.tuple J.room.handled _ _ hlt _
  refine k s.heap.objs.size _ [s.heap.objs.size, a] [s.heap.objs.size] _ _ (Kp.push s _) ⟨W, ?_, ?_⟩ ⟨⟨_, Heap.get?_push_size _ rfl, rfl, rfl⟩, hl.push _⟩ ?_ ?_ (by simp [Ne.symm hlt]) ?_ ?_ ?_
  · rintro i h ⟨⟨o, e, _⟩, _⟩ b hb
    obtain rfl := List.mem_singleton.mp hb
    exact ⟨o, e⟩
  · rintro i s' target v Q E hP ⟨⟨o, e, hc, hd⟩, h2⟩ hk
    exact let_plain e hc rfl (hk s'.heap s'.toks ⟨⟨o, e, hc, hd⟩, h2⟩ fun _ _ _ e => e)
  · intro b hb
    rcases List.mem_cons.mp hb with rfl | hb
    · exact ⟨_, Heap.get?_push_size _ rfl⟩
    · obtain rfl := List.mem_singleton.mp hb; exact ⟨_, Heap.get?_push_of_some _ (of_hideAll _ hn0)⟩
  · intro b hb
    rcases List.mem_cons.mp hb with rfl | hb
    · exact J.newAddr
    · obtain rfl := List.mem_singleton.mp hb; exact hideAll_mem hn0
  · intro b hb
    obtain rfl := List.mem_singleton.mp hb
    cases e : s.heap.get? s.heap.objs.size with
    | none => rfl
    | some o => exact absurd (Heap.lt_size e) (Nat.lt_irrefl _)
  · intro i v U hv hU
    obtain ⟨T, hT, pT⟩ := al.get' (i := i) (v := v) (by simpa using hv)
    rw [hU] at hT; cases hT; exact pT
  · refine ⟨fun i => [(s.heap.objs.size, fun o => o.cls = .type "tuple_iterator" ∧ o.data = .fields #[.ref a, .int i 0]), (a, fun o => o.cls = .type "tuple" ∧ ∃ n, o.data = .seq vs.toArray n)], fun i => ⟨fun h => ⟨?_, ?_⟩, rfl⟩⟩
    · rintro ⟨⟨o, e, q⟩, ⟨o', e', q'⟩⟩ p hp
      rcases List.mem_cons.mp hp with rfl | hp
      · exact ⟨o, e, q⟩
      · obtain rfl := List.mem_singleton.mp hp; exact ⟨o', e', q'⟩
    · intro h
      obtain ⟨o, e, q⟩ := h _ (.head _)
      obtain ⟨o', e', q'⟩ := h _ (.tail _ (.head _))
      exact ⟨⟨o, e, q⟩, ⟨o', e', q'⟩⟩

/-- a list, taken apart -/
theorem draw_list {w : World} {A : Around} {E : Value → Shared → Prop} {it l : Addr} {items : Array Value} (hne : l ≠ it) : ∀ (n i : Nat) (s : Shared) (Q : List Value → Shared → Prop), s.heap.IsListIter it l i → s.heap.IsList l items → i + n ≤ items.size →
    (∀ h', h'.IsListIter it l (i + n) → Heap.SameBut it s.heap h' → Q ((items.toList.drop i).take n) { s with heap := h' }) → wpAny (model PG w) A (draw (.ref it) n) Q E s
  | 0, i, s, Q, hit, _, _, hQ => by
    show wpAny _ _ (pure []) Q E s
    exact wpAny_pure (by simpa using hQ s.heap hit (Heap.SameBut.refl ..))
  | n + 1, i, s, Q, hit, ht, hle, hQ => by
    have hlt : i < items.size := by omega
    show wpAny _ _ (pyNext (.ref it) >>= _) Q E s
    refine wpAny_bind (wpAny_pyNext_list_item hit ht (x := items[i]) (by simp [hlt]) fun h₁ hit₁ hs₁ => ?_)
    refine wpAny_bind (wpAny_holding (draw_list hne n (i + 1) _ _ hit₁ (ht.extBut hs₁.extBut hne) (by omega) fun h₂ hit₂ hs₂ => wpAny_pure ?_))
    have hd : items.toList.drop i = items[i] :: items.toList.drop (i + 1) := by simp [List.drop_eq_getElem_cons, hlt]
    have := hQ h₂ (by rw [show i + (n + 1) = i + 1 + n by omega]; exact hit₂) (hs₁.trans hs₂)
    rw [hd, List.take_succ_cons] at this
    exact this
theorem unpackItems_list {w : World} {A : Around} {E : Value → Shared → Prop} {s : Shared} {l : Addr} {items : Array Value} {Q : List Value → Shared → Prop} (hh : A.handled = none) (ht : s.heap.IsList l items)
    (hQ : ∀ h', Keep s.heap h' → Q items.toList { s with heap := h' }) : wpAny (model PG w) A (unpackItems (.ref l) items.size none) Q E s := by
  have hlt : l ≠ s.heap.objs.size := by obtain ⟨o, ho, _⟩ := ht; exact Nat.ne_of_lt (Heap.lt_size ho)
  unfold unpackItems
  refine wpAny_bind ?_
  unfold notIterableAtAll
  refine wpAny_bind (wpAny_specialOf ht.typeIs slot_list_iter.lookup ?_)
  refine wpAny_pure ?_
  simp only [Bool.false_eq_true, if_false]
  refine wpAny_bind (wpAny_holding (wpAny_pyIter_list ht ?_))
  refine wpAny_bind (wpAny_holding (draw_list hlt items.size 0 _ _ ⟨_, Heap.get?_push_size _ rfl, rfl, rfl⟩ (ht.push _) (by omega) fun h₁ hit₁ hs₁ => ?_))
  have hall : List.take items.size (List.drop 0 items.toList) = items.toList := by
    rw [List.drop_zero]; exact List.take_of_length_le (by simp)
  rw [hall]
  rw [if_neg (by simp)]
  have ht₁ : h₁.IsList l items := (ht.push _).extBut hs₁.extBut hlt
  refine wpAny_bind (wpAny_holding (wpAny_pyNext_list_end hh hit₁ ht₁ (by simp) fun h₂ he₂ => ?_))
  simp only [Option.isSome_none, Bool.false_eq_true, if_false]
  refine wpAny_pure (hQ h₂ fun b o e => ?_)
  have hb : b ≠ s.heap.objs.size := Nat.ne_of_lt (Heap.lt_size e)
  exact he₂ b o hb (hs₁.extBut b o hb (Heap.get?_push_of_some _ e))
theorem assign_lst {es : List Expr} {xs : List Str} {kd : Nat} {pos : Pos} {v : Value} {Ts : List Ty} {s : Shared} {Q : Unit → Shared → Prop} {E : Value → Shared → Prop} (hN : Names es xs) (I : Inv c F Γ Ω s) (p : (TList Ts).P (hideAll s.heap (F.Y ++ c.X)) v) (hl : xs.length = Ts.length)
    (hs : ∀ x ∈ xs, Slot F x) (k : ∀ s', Inv c F (addAll xs Ts Γ) Ω s' → StK c s s' → Q () s') :
    wpAny (model PG c.w) c.A (assign (.Tuple es kd pos) c.env v) Q E s := by
  obtain ⟨a, vs, rfl, ⟨n, hn⟩, al⟩ := p
  have t' : s.heap.IsList a vs.toArray := ⟨_, of_hideAll _ hn, rfl, n, rfl⟩
  rw [arm_assign_Tuple]
  refine wpAny_bind (wpAny_standAt ?_)
  unfold unpack
  rw [hN.length, hN.noStar, show xs.length = vs.toArray.size from by rw [hl, List.size_toArray, al.length]]
  refine wpAny_bind (wpAny_holding (unpackItems_list I.room.handled t' fun h' kp' => ?_))
  have kp : Kp s { s with heap := h' } := Kp.of' kp'
  exact assign_names hN (I.keeps kp) (by simpa using al.up (hd_keep kp.keep)) hl hs fun s₂ I₂ k₂ => k s₂ I₂ ((StK.kp kp).trans k₂)
theorem x_unpackL {s : Shared} {Q : Flow → Shared → Prop} {E : Value → Shared → Prop} {rest : List Stmt} {es : List Expr} {xs : List Str} {kd : Nat} {tpos pos : Pos} {e : Expr} {Ts : List Ty} (I : Inv c F Γ Ω s) (he : EV c F Γ Ω e (TList Ts)) (hN : Names es xs) (hl : xs.length = Ts.length) (hs : ∀ x ∈ xs, Slot F x)
    (h : ∀ s', Inv c F (addAll xs Ts Γ) Ω s' → wpAny (model PG c.w) c.A (execs rest c.env) Q E s')
    (h1 : swapsWithSole [.Tuple es kd tpos] e pos.line c.env = pure false := by rfl) (h2 : swappedStores [.Tuple es kd tpos] e c.env = pure none := by rfl) :
    wpAny (model PG c.w) c.A (execs (.Assign [.Tuple es kd tpos] e pos :: rest) c.env) Q E s :=
  wpAny_execs_cons (Assign_Tuple (he s I _ _ fun v s₁ k₁ p₁ => assign_lst hN (I.keeps k₁) p₁ hl hs fun s₂ I₂ _ => h s₂ I₂) h1 h2)
end
end Mine

end

section
open PySem PySem.W PyProof.Rows PySem.Calls PySem.Flt
set_option maxRecDepth 100000
set_option maxHeartbeats 1000000
set_option linter.unusedVariables false
namespace Mine
theorem take_succ_fl {Zs : List (List Ty)} {i : Nat} {Z : List Ty} (h : Zs[i]? = some Z) : (Zs.take (i + 1)).flatten = (Zs.take i).flatten ++ Z := by
  rw [List.take_add_one, h, List.flatten_append]
  simp

theorem compLoop_gen {w : World} {A : Around} {R : Result → Shared → Prop} {s : Shared} {e target : Expr} {p : Pos} {it acc : Value} {env : Env} {bd : Value → Sem Unit} {d : Nat} (hfr : (Code.compLoop e d it acc env).isFrame = false)
    (hteq : compTurn e d it acc env = (do
      standAt p
      match ← pyNext it with
      | none => pure (.done .next)
      | some v => do
        letOwnedTupleGo target it v
        bd v
        again (.compLoop e d it acc env))) (I : Nat → Shared → Prop)
    (turn : ∀ n s, I n s → wpAny (model PG w) A (pyNext it) (fun r s₁ => match r with
      | none => R (.ok .next) s₁
      | some v => wpAny (model PG w) A (letOwnedTupleGo target it v) (fun _ s₁' => wpAny (model PG w) A (bd v) (fun _ s₂ => ∃ m, m < n ∧ I m s₂) (notedBy (model PG w) A env fun e s' => R (.error e) s') s₁') (notedBy (model PG w) A env fun e s' => R (.error e) s') s₁) (notedBy (model PG w) A env fun e s' => R (.error e) s') s)
    (n : Nat) (h : I n s) (hund : A.under (.compLoop e d it acc env) = A) : codeAny (model PG w) A (.compLoop e d it acc env) R s := by
  refine codeAny_loop rfl I (fun n s hI => ?_) n h
  rw [hund]
  show wpAny _ A (if (Code.compLoop e d it acc env).isFrame then (compTurn e d it acc env).onRaise (leaving env) else (compTurn e d it acc env).onRaise (fun x => do noteFrame x env; theTreesLotGoes x)) _ _ s
  rw [hfr, if_neg (by decide)]
  refine wpAny_noted ?_
  rw [hteq]
  refine wpAny_bind (wpAny_standAt (wpAny_bind (wpAny_mono (turn n s hI) (fun r s₁ h₁ => ?_) fun _ _ h' => h')))
  cases r with
  | none => exact wpAny_pure h₁
  | some v =>
    refine wpAny_bind (wpAny_mono h₁ (fun _ s₁' h₁' => ?_) fun _ _ h' => h')
    exact wpAny_bind (wpAny_mono h₁' (fun _ s₂ h₂ => wpAny_pure ⟨rfl, h₂⟩) fun _ _ h' => h')

/-- what one item of the source adds to the list -/
noncomputable def BODY (c : Cx) (F : Fx) (Γ : Gam) (D : Addr) (bd : Value → Env → Value → Sem Unit) (T : Ty) (Z : List Ty) : Prop :=
  ∀ (s : Shared) (v : Value) (ys : List Value) (Vs : List Ty) (Q : Unit → Shared → Prop) (E : Value → Shared → Prop), Inv c F Γ [] s → T.P (hideAll s.heap (F.Y ++ c.X)) v → s.heap.PlainList D ys.toArray → All2 (hideAll s.heap (F.Y ++ c.X)) ys Vs → Vs.length ≤ 65536 →
    (∀ s' zs, Inv c F Γ [] s' → s'.heap.PlainList D (ys ++ zs).toArray → All2 (hideAll s'.heap (F.Y ++ c.X)) (ys ++ zs) (Vs ++ Z) → (∀ b o, b ≠ D → b ≠ c.env.locals → (∀ x, c.env.cells.lookup x ≠ some b) → s.heap.get? b = some o → s'.heap.get? b = some o) → Q () s') →
    wpAny (model PG c.w) c.A (bd (.ref D) c.env v) Q E s

theorem comp_gen {c : Cx} {F : Fx} {Γ : Gam} {Ω : Own} {elt target iter : Expr} {ifs : List Expr} {gs : List Comprehension} {scope : Scope} {pos : Pos} {T : Ty} {Ts : List Ty} {Zs : List (List Ty)} {N' : List (Str × NameKind)} {C' : List (Str × Addr)} {Γc : Gam} {bd : Value → Env → Value → Sem Unit}
    (hit : EV c F Γ Ω iter T) (hI : ITR c F Γ Ω T Ts) (hk : scope.kind = .function) (hN : relN F.N scope.names = N') (hC : capC F.C scope.names [] = some C') (hΓ : CapAll Γ F N' C' Γc)
    (hnm : ∀ x ∈ scope.names, x.2 = .local → scope.names.lookup x.1 = some .local) (hndc : ((cellsFrom 0 scope.names []).map (·.1)).Nodup) (hsep : ∀ x, C'.lookup x ≠ none → (cellsFrom 0 scope.names []).lookup x = none) (hlen : Zs.length = Ts.length) (hsz : Zs.flatten.length ≤ 65536)
    (hteq : ∀ it acc env, compTurn (.ListComp elt (⟨target, iter, ifs, 0⟩ :: gs) scope pos) 0 it acc env = (do
      standAt iter.pos
      match ← pyNext it with
      | none => pure (.done .next)
      | some v => do
        letOwnedTupleGo target it v
        bd acc env v
        again (.compLoop (.ListComp elt (⟨target, iter, ifs, 0⟩ :: gs) scope pos) 0 it acc env)))
    (hturn : ∀ (i : Nat) (T : Ty) (Z : List Ty), Ts[i]? = some T → Zs[i]? = some Z → ∀ (c' : Cx) (C D : Addr) (Y' : List Addr), (∀ k, Room k c.A → Room k c'.A) → C ∈ Y' → (∀ k ∈ (cellsFrom (C + 1) scope.names []).map (·.2), k ∈ Y') →
      D ∈ Y' → D ≠ c'.env.locals → (∀ x, c'.env.cells.lookup x ≠ some D) → BODY c' ⟨N', cellsFrom (C + 1) scope.names [] ++ C', Y'⟩ Γc D bd T Z)
    (hs : ∀ x, foldedSetIterable iter c.env x = pure x) {s : Shared} (I : Inv c F Γ Ω s) {use : Option (Value → Sem Unit)} {Q : Value → Shared → Prop} {E : Value → Shared → Prop} {p0 : Pos}
    (k : ∀ D C s' s₁, Kp s s₁ → Kp s₁ s' → D ≠ C → s₁.heap.get? C = none → (∃ m, s'.heap.Ns C m) → (TList Zs.flatten).P (hideAll s'.heap (C :: (F.Y ++ c.X))) (.ref D) → compPost (model PG c.w) c.A E use Q (.ref D) C (.ok .next) s') :
    wpAny (model PG c.w) c.A (comprehension (.ListComp elt (⟨target, iter, ifs, 0⟩ :: gs) scope pos) scope c.env p0 (newList []) false (eval iter c.env) use) Q E s := by
  refine wpAny_comprehension_free (use := use) rfl hs (closureFor_cap (by rw [I.clls]; exact hC)) hk hnm ?_
  refine hit s I _ _ fun xv s₁ k₁ p₁ => ?_
  have I₁ := I.keeps k₁
  refine hI s₁ xv I₁ p₁ _ _ fun It s₂ fp wr P St k₂ W hst hfp hfpX _ hwr hP _ => ?_
  have I₂ := I₁.keeps k₂
  refine wpAny_newObj_type ?_
  refine new_env fun h₁ hns hkp hco => ?_
  generalize hH2 : s₂.heap.push { cls := .type "list", dict := none, data := .seq ([] : List Value).toArray } = H2 at hns hkp hco ⊢
  have hD : H2.get? s₂.heap.objs.size = some { cls := .type "list", dict := none, data := .seq ([] : List Value).toArray } := hH2 ▸ Heap.get?_push_size _ rfl
  have hCD : H2.objs.size = s₂.heap.objs.size + 1 := by rw [← hH2, Heap.size_push]
  have old : Keep s₂.heap h₁ := fun b o e => hkp b o (hH2 ▸ Heap.get?_push_of_some _ e)
  dsimp only at hns hkp hco ⊢
  obtain ⟨D, hDn⟩ : ∃ D : Nat, s₂.heap.objs.size = D := ⟨_, rfl⟩
  rw [hDn] at hD hCD ⊢
  rw [hCD] at hns hco ⊢
  have s2none : ∀ a, @LE.le Nat instLENat D a → s₂.heap.get? a = none := fun a ha => by
    cases e : s₂.heap.get? a with
    | none => rfl
    | some o => have h1 : @LT.lt Nat instLTNat a D := ltN e hDn; have h2 : @LE.le Nat instLENat D a := ha; omega
  have s1none : ∀ a, @LE.le Nat instLENat D a → s₁.heap.get? a = none := fun a ha => by
    cases e : s₁.heap.get? a with
    | none => rfl
    | some o => have := s2none a ha; rw [k₂.keep _ _ e] at this; cases this
  -- the block's cells
  have oc : ∀ y a, (y, a) ∈ cellsFrom (D + 1 + 1) scope.names [] → h₁.IsCell a none ∧ @LE.le Nat instLENat (D + 1 + 1) a := fun y a hm => hco.empty y a hm
  have capIn : ∀ x a, C'.lookup x = some a → c.env.cells.lookup x = some a := fun x a e => by rw [I.clls]; exact capC_get hC (fun _ _ h => (nomatch h)) e
  have capOld : ∀ x a, C'.lookup x = some a → (∃ v, s₁.heap.IsCell a v) ∧ a ∈ F.Y ++ c.X := fun x a e => I₁.cells x a (capIn x a e)
  have lk : ∀ x a, (cellsFrom (D + 1 + 1) scope.names [] ++ C').lookup x = some a → (x, a) ∈ cellsFrom (D + 1 + 1) scope.names [] ∨ C'.lookup x = some a := fun x a e => by
    rw [List.lookup_append] at e
    cases q : (cellsFrom (D + 1 + 1) scope.names []).lookup x with
    | some b => rw [q] at e; cases e; exact .inl (mem_of_lookup q)
    | none => rw [q] at e; exact .inr e
  let env' : Env := { scope := relabel scope c.env, locals := D + 1, globals := c.env.globals, cells := cellsFrom (D + 1 + 1) scope.names [] ++ C', qual := c.env.qual, func := none, code := c.env.code, frame := c.env.frame, builtins := c.env.builtins }
  let c' : Cx := ⟨c.w, c.A, s₁, F.Y ++ c.X, env', c.n⟩
  let Y' : List Addr := (D + 1) :: D :: (wr ++ (cellsFrom (D + 1 + 1) scope.names []).map (·.2))
  let F' : Fx := ⟨N', cellsFrom (D + 1 + 1) scope.names [] ++ C', Y'⟩
  have wrOld : ∀ b ∈ wr, @LT.lt Nat instLTNat b D := fun b hb => by
    obtain ⟨o, e⟩ := hfp b (W.sub b hb)
    exact ltN e hDn
  have hxNot : ∀ a, @LT.lt Nat instLTNat a D → a ∉ (cellsFrom (D + 1 + 1) scope.names []).map (·.2) := fun a ha hm => by
    obtain ⟨⟨y, a'⟩, hm', rfl⟩ := List.mem_map.mp hm
    have := (oc y a' hm').2
    have h2 : a' < D := ha
    omega
  have I0 : Inv c' F' Γc [] { s₂ with heap := h₁ } := by
    refine { top := I₁.topS, room := I.room, env := ⟨hk, I.env.globals, I.env.builtins, ?_, ?_⟩, names := (relN_eq I.env.kind I.names).trans hN, clls := rfl, low := I₁.lowS, same := ?_, keep := fun b o e => old b o (k₂.keep b o e), fresh := ?_, loc := .head _, ns := ⟨_, hns⟩, cells := ?_, vars := ?_, own := fun _ hp => (nomatch hp), ownNd := List.Pairwise.nil }
    · intro x y a e1 e2
      rcases lk x a e1 with q1 | q1 <;> rcases lk y a e2 with q2 | q2
      · exact name_of_addr hco.apart q1 q2
      · obtain ⟨⟨v, o, e, _⟩, _⟩ := capOld y a q2
        have := s1none a (by have := (oc x a q1).2; omega); rw [e] at this; cases this
      · obtain ⟨⟨v, o, e, _⟩, _⟩ := capOld x a q1
        have := s1none a (by have := (oc y a q2).2; omega); rw [e] at this; cases this
      · exact I.env.apart x y a (capIn x a q1) (capIn y a q2)
    · intro x a e
      rcases lk x a e with q | q
      · exact (neN (show @LT.lt Nat instLTNat (D + 1) a from (oc x a q).2)).symm
      · obtain ⟨⟨v, o, e, _⟩, _⟩ := capOld x a q
        intro q2
        have := s1none (D + 1) (by omega)
        rw [show D + 1 = a from q2.symm, e] at this; cases this
    · obtain ⟨h, t, e⟩ := k₂.same
      exact ⟨h₁, s₂.toks, by rw [e]⟩
    · intro a ha
      rcases List.mem_cons.mp ha with rfl | ha
      · exact ⟨s1none _ (by omega), let ⟨o, _, _, e, _⟩ := hns; ⟨o, e⟩⟩
      rcases List.mem_cons.mp ha with rfl | ha
      · exact ⟨s1none _ (Nat.le_refl _), ⟨_, hkp _ _ hD⟩⟩
      rcases List.mem_append.mp ha with hb | hb
      · obtain ⟨o, e⟩ := hfp a (W.sub a hb); exact ⟨hwr a hb, o, old _ _ e⟩
      · obtain ⟨⟨y, a'⟩, hm, rfl⟩ := List.mem_map.mp hb
        obtain ⟨⟨o, e, _⟩, q⟩ := oc y a' hm
        exact ⟨s1none _ (by omega), o, e⟩
    · intro x a e
      rcases lk x a e with q | q
      · exact ⟨⟨_, (oc x a q).1⟩, List.mem_append_left _ (.tail _ (.tail _ (List.mem_append_right _ (List.mem_map.mpr ⟨(x, a), q, rfl⟩))))⟩
      · obtain ⟨⟨v, e'⟩, q2⟩ := capOld x a q
        exact ⟨⟨v, e'.keeps fun b o e => old b o (k₂.keep b o e)⟩, List.mem_append_right _ q2⟩
    · intro x U e
      obtain ⟨e1, e2, ⟨a, e3⟩, e4⟩ := hΓ.get e
      obtain ⟨v, r, p⟩ := I₁.vars x U e1
      have hnl : c.env.kindOf x ≠ some .local := by
        intro q
        have : F.N.lookup x = some .local := by rw [← I.names]; exact q
        rcases e4 with e4 | e4 <;> rw [this] at e4 <;> cases e4
      rcases r with ⟨q, _⟩ | ⟨_, a', q, w'⟩
      · exact absurd q hnl
      · have ea : a' = a := by have := capIn x a e3; rw [this] at q; exact (Option.some.inj q).symm
        subst ea
        refine ⟨v, .inr ⟨?_, a', ?_, w'.keeps fun b o e => old b o (k₂.keep b o e)⟩, U.up (fun b o e => ?_) p⟩
        · have : env'.kindOf x = N'.lookup x := by
            show (relabel scope c.env).names.lookup x = _
            rw [relN_eq I.env.kind I.names, hN]
          rw [this]; exact e2
        · show (cellsFrom (D + 1 + 1) scope.names [] ++ C').lookup x = some a'
          have : (cellsFrom (D + 1 + 1) scope.names []).lookup x = none := by
            have h0 := hsep x (by rw [e3]; exact Option.some_ne_none _)
            cases q3 : (cellsFrom (D + 1 + 1) scope.names []).lookup x with
            | none => rfl
            | some b =>
              exfalso
              have hm : x ∈ (cellsFrom (D + 1 + 1) scope.names []).map (·.1) := List.mem_map.mpr ⟨(x, b), mem_of_lookup q3, rfl⟩
              rw [cellsFrom_names scope.names (D + 1 + 1) 0 [] [] rfl] at hm
              obtain ⟨⟨x', b'⟩, hm', rfl⟩ := List.mem_map.mp hm
              rw [lookup_of_mem_nodup hndc hm'] at h0; cases h0
          rw [List.lookup_append, this]; exact e3
        · refine hideAll_get _ (old b o (k₂.keep b o (of_hideAll _ e))) fun hb => ?_
          have eb := of_hideAll _ e
          rcases List.mem_append.mp hb with hb | hb
          · have := (show b ∈ Y' → s₁.heap.get? b = none from fun hb => by
              rcases List.mem_cons.mp hb with rfl | hb
              · exact s1none _ (by omega)
              rcases List.mem_cons.mp hb with rfl | hb
              · exact s1none _ (Nat.le_refl _)
              rcases List.mem_append.mp hb with hb | hb
              · exact hwr b hb
              · obtain ⟨⟨y, a'⟩, hm, rfl⟩ := List.mem_map.mp hb
                exact s1none _ (by have := (oc y a' hm).2; omega)) hb
            rw [eb] at this; cases this
          · rw [hideAll_none _ hb] at e; cases e
  have cellNe : ∀ b, (b = D ∨ b ∈ fp) → ∀ x, env'.cells.lookup x ≠ some b := fun b hb x e => by
    rcases lk x b e with q | q
    · have := (oc x b q).2
      rcases hb with rfl | hb
      · omega
      · obtain ⟨o, e'⟩ := hfp b hb; have h1 : @LT.lt Nat instLTNat b D := ltN e' hDn; omega
    · obtain ⟨⟨v, o, e', _⟩, q2⟩ := capOld x b q
      rcases hb with rfl | hb
      · have := s1none b (Nat.le_refl _); rw [e'] at this; cases this
      · exact hfpX b hb q2
  have fpLt : ∀ b ∈ fp, @LT.lt Nat instLTNat b D := fun b hb => by obtain ⟨o, e'⟩ := hfp b hb; exact ltN e' hDn
  have wrOk : ∀ a ∈ wr, a ∈ F'.Y ∧ a ≠ c'.env.locals ∧ ∀ x, c'.env.cells.lookup x ≠ some a := fun a ha =>
    ⟨.tail _ (.tail _ (List.mem_append_left _ ha)), neN (Nat.lt_succ_of_lt (wrOld a ha)), cellNe a (.inr (W.sub a ha))⟩
  have DOk : ∀ a ∈ [D], a ∈ F'.Y ∧ a ≠ c'.env.locals ∧ ∀ x, c'.env.cells.lookup x ≠ some a := fun a ha => by
    obtain rfl := List.mem_singleton.mp ha
    exact ⟨.tail _ (.head _), succNe a, cellNe a (.inl rfl)⟩
  have hroom : ∀ k, Room k c.A → Room k c'.A := fun _ h => h
  have loop : ∀ s₃ : Shared, s₃ = { s₂ with heap := h₁ } → codeAny (model PG c.w) c.A (.compLoop (.ListComp elt (⟨target, iter, ifs, 0⟩ :: gs) scope pos) 0 (.ref It) (.ref D) env') (compPost (model PG c.w) c.A E use Q (.ref D) (D + 1)) s₃ := by
    rintro s₃ rfl
    have hlenT : ∀ i, ((Zs.take i).flatten).length ≤ 65536 := fun i => by
      have h1 : Zs.flatten = (Zs.take i).flatten ++ (Zs.drop i).flatten := by rw [← List.flatten_append, List.take_append_drop]
      have h2 := congrArg List.length h1
      rw [List.length_append] at h2
      omega
    refine compLoop_gen (target := target) (bd := bd (.ref D) env') rfl (hteq _ _ _) (fun m s' => ∃ i ys, m = Ts.length + 1 - i ∧ i ≤ Ts.length ∧ Inv c' F' Γc [] s' ∧ St i s'.heap ∧ s'.heap.PlainList D (List.toArray ys) ∧ All2 (hideAll s'.heap (F'.Y ++ c'.X)) ys ((Zs.take i).flatten)) ?_ (Ts.length + 1)
      ⟨0, [], rfl, Nat.zero_le _, I0, W.frame _ _ _ hst fun b hb o e => old b o e, ⟨_, hkp _ _ hD⟩, by simp [All2]⟩ rfl
    rintro m s' ⟨i, ys, rfl, hi, J, hst', hpl, hall⟩
    by_cases hlt : i < Ts.length
    · refine W.item i s' _ _ hlt hst' fun v h' tk hPv hst₁ hk₁ => ?_
      obtain ⟨Ti, hTi⟩ : ∃ Ti, Ts[i]? = some Ti := ⟨_, List.getElem?_eq_getElem hlt⟩
      obtain ⟨Zi, hZi⟩ : ∃ Zi, Zs[i]? = some Zi := ⟨_, List.getElem?_eq_getElem (by omega)⟩
      have hbody := hturn i Ti Zi hTi hZi c' (D + 1) D Y' hroom (.head _) (fun k hk => .tail _ (.tail _ (List.mem_append_right _ hk))) (.tail _ (.head _)) (succNe D) (cellNe D (.inl rfl))
      have J1 : Inv c' F' Γc [] { s' with heap := h', toks := tk } := J.chg wrOk hk₁ (W.ex _ _ hst₁)
      have hpl1 : h'.PlainList D (List.toArray ys) := hpl.at fun o e => hk₁ _ o (fun q => Nat.lt_irrefl _ (wrOld _ q)) e
      have hall1 : All2 (hideAll h' (F'.Y ++ c'.X)) ys ((Zs.take i).flatten) := hall.up (hd_up fun b o hb e => hk₁ b o (fun q => hb (List.mem_append_left _ (.tail _ (.tail _ (List.mem_append_left _ q))))) e)
      refine W.own i _ target v _ _ hPv hst₁ fun h'' tk' hst₂ hk₂ => ?_
      have J2 : Inv c' F' Γc [] { s' with heap := h'', toks := tk' } := J1.chg wrOk hk₂ (W.ex _ _ hst₂)
      have hpl2 : h''.PlainList D (List.toArray ys) := hpl1.at fun o e => hk₂ _ o (fun q => Nat.lt_irrefl _ (wrOld _ q)) e
      have hall2 := hall1.up (hd_up (X := F'.Y ++ c'.X) fun b o hb e => hk₂ b o (fun q => hb (List.mem_append_left _ (.tail _ (.tail _ (List.mem_append_left _ q))))) e)
      have hvT : Ti.P (hideAll h'' (F'.Y ++ c'.X)) v := by
        refine Ti.up (fun b o e => ?_) (hP i v Ti hPv hTi)
        have eb := of_hideAll _ e
        refine hideAll_get _ (J2.keep b o eb) fun hb => ?_
        rcases List.mem_append.mp hb with hb | hb
        · have := (J2.fresh b hb).1; rw [show c'.s₀.heap.get? b = some o from eb] at this; cases this
        · rw [hideAll_none _ hb] at e; cases e
      refine hbody _ v ys _ _ _ J2 hvT hpl2 hall2 (hlenT i) fun s₅ zs J5 hpl5 hall5 hk5 => ?_
      have fpk : ∀ b ∈ fp, ∀ o, h''.get? b = some o → s₅.heap.get? b = some o := fun b hb o e => hk5 b o (neN (fpLt b hb)) (neN (Nat.lt_succ_of_lt (fpLt b hb))) (cellNe b (.inr hb)) e
      exact ⟨Ts.length + 1 - (i + 1), by omega, i + 1, ys ++ zs, rfl, hlt, J5, W.frame _ _ _ hst₂ fpk, hpl5, by rw [take_succ_fl hZi]; exact hall5⟩
    · have hin : i = Ts.length := by omega
      subst hin
      refine W.done s' _ _ hst' fun h' tk hk₁ => ?_
      obtain ⟨m, hm⟩ := J.ns
      have hfull : (Zs.take Ts.length).flatten = Zs.flatten := by rw [← hlen, List.take_length]
      rw [hfull] at hall
      have hk' : ∀ b o, b ∉ wr → s'.heap.get? b = some o → h'.get? b = some o := hk₁
      obtain ⟨hh, tt, ee⟩ := J.same
      have kfin : Kp s₁ { s' with heap := h', toks := tk } := by
        refine ⟨⟨h', tk, by rw [ee]⟩, fun b o e => hk' b o (fun q => by have := (J.fresh b (wrOk b q).1).1; rw [show c'.s₀.heap.get? b = some o from e] at this; cases this) (J.keep b o e)⟩
      refine k D (D + 1) { s' with heap := h', toks := tk } s₁ k₁ kfin (succNe D) (s1none _ (Nat.le_succ _)) ⟨m, hm.at' fun o e => hk₁ _ o (fun q => (wrOk _ q).2.1 rfl) e⟩ ?_
      refine ⟨D, ys, rfl, ?_, hall.up fun b o e => ?_⟩
      · obtain ⟨n, e⟩ := hpl
        refine ⟨n, hideAll_get _ (hk₁ _ _ (fun q => Nat.lt_irrefl _ (wrOld _ q)) e) fun q => ?_⟩
        rcases List.mem_cons.mp q with q | q
        · exact succNe D q
        · obtain ⟨o, e'⟩ := I₁.lowS D q
          have := s1none D (Nat.le_refl _); rw [e'] at this; cases this
      · have eb := of_hideAll _ e
        have hb : b ∉ F'.Y ++ c'.X := fun q => by rw [hideAll_none _ q] at e; cases e
        refine hideAll_get _ (hk' b o (fun q => hb (List.mem_append_left _ (wrOk b q).1)) eb) fun q => ?_
        rcases List.mem_cons.mp q with q | q
        · exact hb (List.mem_append_left _ (q ▸ .head _))
        · exact hb (List.mem_append_right _ q)
  exact codeAny_compStart_list (loop _ rfl) (W.self 0 _ _ _ (W.frame _ _ _ hst fun b hb o e => old b o e) (loop _ rfl))


section
variable {c : Cx} {F : Fx} {Γ : Gam} {elt t0 i0 t1 i1 : Expr} {scope : Scope} {pos : Pos}
noncomputable def bd2 (elt t0 i0 t1 i1 : Expr) (scope : Scope) (pos : Pos) (acc : Value) (env : Env) (v : Value) : Sem Unit := do
  assign t0 env v
  let x ← eval i1 env
  standAt i1.pos
  let x ← foldedSetIterable i1 env x
  let _ ← runOwn (.compStart (.ListComp elt [⟨t0, i0, [], 0⟩, ⟨t1, i1, [], 0⟩] scope pos) 1 (← holding [x] (pyIter x)) acc env) env
theorem turn2_0 (it acc : Value) (env : Env) : compTurn (.ListComp elt [⟨t0, i0, [], 0⟩, ⟨t1, i1, [], 0⟩] scope pos) 0 it acc env = (do
      standAt i0.pos
      match ← pyNext it with
      | none => pure (.done .next)
      | some v => do
        letOwnedTupleGo t0 it v
        bd2 elt t0 i0 t1 i1 scope pos acc env v
        again (.compLoop (.ListComp elt [⟨t0, i0, [], 0⟩, ⟨t1, i1, [], 0⟩] scope pos) 0 it acc env)) := by
  have h : compTurn (.ListComp elt [⟨t0, i0, [], 0⟩, ⟨t1, i1, [], 0⟩] scope pos) 0 it acc env = (do
      standAt i0.pos
      match ← pyNext it with
      | none => pure (.done .next)
      | some v => do
        letOwnedTupleGo t0 it v
        assign t0 env v
        let x ← eval i1 env
        standAt i1.pos
        let x ← foldedSetIterable i1 env x
        let _ ← runOwn (.compStart (.ListComp elt [⟨t0, i0, [], 0⟩, ⟨t1, i1, [], 0⟩] scope pos) 1 (← holding [x] (pyIter x)) acc env) env
        again (.compLoop (.ListComp elt [⟨t0, i0, [], 0⟩, ⟨t1, i1, [], 0⟩] scope pos) 0 it acc env)) := by rfl
  rw [h]
  unfold bd2
  congr 1; funext _; congr 1; funext r
  cases r with
  | none => rfl
  | some v => simp only [bind_assoc, pure_bind]
noncomputable def bdE (elt t1 : Expr) (acc : Value) (env : Env) (v : Value) : Sem Unit := do
  assign t1 env v
  let _ ← call (.builtin "list.append") [acc, ← eval elt env]
theorem turn2_1 (it acc : Value) (env : Env) : compTurn (.ListComp elt [⟨t0, i0, [], 0⟩, ⟨t1, i1, [], 0⟩] scope pos) 1 it acc env = (do
      standAt i1.pos
      match ← pyNext it with
      | none => pure (.done .next)
      | some v => do
        letOwnedTupleGo t1 it v
        bdE elt t1 acc env v
        again (.compLoop (.ListComp elt [⟨t0, i0, [], 0⟩, ⟨t1, i1, [], 0⟩] scope pos) 1 it acc env)) := by
  have h : compTurn (.ListComp elt [⟨t0, i0, [], 0⟩, ⟨t1, i1, [], 0⟩] scope pos) 1 it acc env = (do
      standAt i1.pos
      match ← pyNext it with
      | none => pure (.done .next)
      | some v => do
        letOwnedTupleGo t1 it v
        assign t1 env v
        (do let _ ← call (.builtin "list.append") [acc, ← eval elt env])
        again (.compLoop (.ListComp elt [⟨t0, i0, [], 0⟩, ⟨t1, i1, [], 0⟩] scope pos) 1 it acc env)) := by rfl
  rw [h]
  unfold bdE
  congr 1; funext _; congr 1; funext r
  cases r with
  | none => rfl
  | some v => simp only [bind_assoc, pure_bind]
theorem compStart_at1 {w : World} {A : Around} {R : Result → Shared → Prop} {s : Shared} {it acc : Value} {env : Env}
    (h0 : codeAny (model PG w) A (.compLoop (.ListComp elt [⟨t0, i0, [], 0⟩, ⟨t1, i1, [], 0⟩] scope pos) 1 it acc env) R s)
    (h : wpAny (model PG w) A (pyIter it) (fun it' s' => codeAny (model PG w) A (.compLoop (.ListComp elt [⟨t0, i0, [], 0⟩, ⟨t1, i1, [], 0⟩] scope pos) 1 it' acc env) R s')
      (notedBy (model PG w) A env fun x s' => R (.error x) s') s) :
    codeAny (model PG w) A (.compStart (.ListComp elt [⟨t0, i0, [], 0⟩, ⟨t1, i1, [], 0⟩] scope pos) 1 it acc env) R s := by
  refine codeAny_of_tree ?_
  show wpAny _ _ ((compStart (.ListComp elt [⟨t0, i0, [], 0⟩, ⟨t1, i1, [], 0⟩] scope pos) 1 it acc env).onRaise (fun x => do noteFrame x env; standAt theWindowsPlace)) _ _ s
  refine wpAny_notedAt ?_
  unfold compStart
  show wpAny _ _ (ask >>= _) _ _ s
  refine wpAny_bind (wpAny_askSetting (wpAny_ite ?_))
  split
  · first
      | exact wpAny_bind (wpAny_pure (wpAny_pure (And.intro rfl h0)))
      | exact wpAny_pure (And.intro rfl h0)
  · first
      | exact wpAny_bind (wpAny_rule (wpAny_bind (wpAny_standAt (wpAny_bind (wpAny_mono h (fun it' s' h' => wpAny_pure (And.intro rfl h')) fun _ _ x => x)))))

/-- the inner for of a comprehension of two clauses -/
theorem body2 {D : Addr} {T0 T1 : Ty} {Ts Us : List Ty} {Γ1 : Gam} (hD : D ∈ F.Y) (hDl : D ≠ c.env.locals) (hDc : ∀ x, c.env.cells.lookup x ≠ some D)
    (hasg : ASG c F Γ [] t0 T0 Γ1) (hsub : ∀ x V, Γ.lookup x = some V → Γ1.lookup x = some V) (hit : EV c F Γ1 [] i1 T1) (hI : ITR c F Γ1 [] T1 Ts) (hlen : Us.length = Ts.length) (hsz : Ts.length ≤ 4096)
    (hs : ∀ x, foldedSetIterable i1 c.env x = pure x)
    (hturn : ∀ (i : Nat) (T U : Ty), Ts[i]? = some T → Us[i]? = some U → ∀ (Y' : List Addr), ∃ Γ', ASG c { F with Y := Y' } Γ1 [] t1 T Γ' ∧ (∀ x V, Γ1.lookup x = some V → Γ'.lookup x = some V) ∧ EV c { F with Y := Y' } Γ' [] elt U) :
    BODY c F Γ D (bd2 elt t0 i0 t1 i1 scope pos) T0 Us := by
  intro s v ys Vs Q E J hv hpl hall hVs k
  unfold bd2
  refine wpAny_bind (hasg s v _ _ J hv fun s₁ J₁ st₁ => ?_)
  have hpl₁ : s₁.heap.PlainList D ys.toArray := hpl.at fun o e => st₁ D o hDl hDc e
  have hall₁ := hall.up (StK.hide J st₁)
  refine wpAny_bind (hit s₁ J₁ _ _ fun x s₂ k₂ px => wpAny_bind (wpAny_standAt ?_))
  rw [hs]
  refine wpAny_bind (wpAny_pure ?_)
  have J₂ := J₁.keeps k₂
  refine wpAny_bind (wpAny_holding (hI s₂ x J₂ px _ _ fun It s₃ fp wr P St k₃ W hst hfp hfpX hnd hwr hP hob => ?_))
  have Ja : Inv c { F with Y := wr ++ F.Y } Γ1 [] s₃ := J₂.addOwns k₃ hwr (fun a ha => hfp a (W.sub a ha))
  have inF : ∀ a, a ∈ F.Y ++ c.X → a ∈ ({ F with Y := wr ++ F.Y } : Fx).Y ++ c.X := fun a ha => by
    rcases List.mem_append.mp ha with q | q
    · exact List.mem_append_left _ (List.mem_append_right _ q)
    · exact List.mem_append_right _ q
  have fpl : ∀ b ∈ fp, b ≠ c.env.locals := fun b hb q => hfpX b hb (List.mem_append_left _ (q ▸ J.loc))
  have fpc : ∀ b ∈ fp, ∀ x, c.env.cells.lookup x ≠ some b := fun b hb x q => hfpX b hb (J.cells x b q).2
  have fpD : ∀ b ∈ fp, b ≠ D := fun b hb q => hfpX b hb (List.mem_append_left _ (q ▸ hD))
  have wrOk : ∀ a ∈ wr, a ∈ ({ F with Y := wr ++ F.Y } : Fx).Y ∧ a ≠ c.env.locals ∧ ∀ x, c.env.cells.lookup x ≠ some a := fun a ha => ⟨List.mem_append_left _ ha, fpl a (W.sub a ha), fpc a (W.sub a ha)⟩
  have DOk : ∀ a ∈ [D], a ∈ ({ F with Y := wr ++ F.Y } : Fx).Y ∧ a ≠ c.env.locals ∧ ∀ x, c.env.cells.lookup x ≠ some a := fun a ha => by
    obtain rfl := List.mem_singleton.mp ha
    exact ⟨List.mem_append_right _ hD, hDl, hDc⟩
  have hpl₃ : s₃.heap.PlainList D ys.toArray := hpl₁.at fun o e => k₃.keep _ _ (k₂.keep _ _ e)
  have hall₃ : All2 (hideAll s₃.heap ((wr ++ F.Y) ++ c.X)) ys Vs := hall₁.up fun b o e => by
    have eb := of_hideAll _ e
    refine hideAll_get _ (k₃.keep _ _ (k₂.keep _ _ eb)) fun q => ?_
    rcases List.mem_append.mp q with q | q
    · rcases List.mem_append.mp q with q | q
      · have := hwr b q; rw [k₂.keep _ _ eb] at this; cases this
      · rw [hideAll_none _ (List.mem_append_left _ q)] at e; cases e
    · rw [hideAll_none _ (List.mem_append_right _ q)] at e; cases e
  have old₃ : ∀ b o, b ≠ D → b ≠ c.env.locals → (∀ x, c.env.cells.lookup x ≠ some b) → s₂.heap.get? b = some o → s₃.heap.get? b = some o := fun b o _ h1 h2 e => k₃.keep _ _ e
  have swr : ∀ b o, b ≠ c.env.locals → (∀ x, c.env.cells.lookup x ≠ some b) → s₂.heap.get? b = some o → b ∉ wr := fun b o h1 h2 e q => by
    have := hwr b q; rw [e] at this; cases this
  have loop : codeAny (model PG c.w) c.A (.compLoop (.ListComp elt [⟨t0, i0, [], 0⟩, ⟨t1, i1, [], 0⟩] scope pos) 1 (.ref It) (.ref D) c.env) (fun r s' => match r with | .ok f => wpAny (model PG c.w) c.A (pure ()) Q E s' | .error e => cameBackBy (model PG c.w) c.A c.env E e s') s₃ := by
    refine compLoop_gen (target := t1) (bd := bdE elt t1 (.ref D) c.env) rfl (turn2_1 _ _ _) (fun m s' => ∃ i zs, m = Ts.length + 1 - i ∧ i ≤ Ts.length ∧ Inv c { F with Y := wr ++ F.Y } Γ1 [] s' ∧ St i s'.heap ∧ s'.heap.PlainList D (List.toArray (ys ++ zs)) ∧ All2 (hideAll s'.heap ((wr ++ F.Y) ++ c.X)) (ys ++ zs) (Vs ++ Us.take i)
        ∧ (∀ b o, b ≠ D → b ≠ c.env.locals → (∀ x, c.env.cells.lookup x ≠ some b) → s₂.heap.get? b = some o → s'.heap.get? b = some o)) ?_ (Ts.length + 1)
      ⟨0, [], rfl, Nat.zero_le _, Ja, hst, by simpa using hpl₃, by simpa using hall₃, old₃⟩ rfl
    rintro m s' ⟨i, zs, rfl, hi, J', hst', hpl', hall', hold'⟩
    by_cases hlt : i < Ts.length
    · refine W.item i s' _ _ hlt hst' fun v h' tk hPv hst₁ hk₁ => ?_
      obtain ⟨Ti, hTi⟩ : ∃ Ti, Ts[i]? = some Ti := ⟨_, List.getElem?_eq_getElem hlt⟩
      obtain ⟨Ui, hUi⟩ : ∃ Ui, Us[i]? = some Ui := ⟨_, List.getElem?_eq_getElem (by omega)⟩
      obtain ⟨Γ', hasg', hsub', hel⟩ := hturn i Ti Ui hTi hUi (wr ++ F.Y)
      have J1 : Inv c { F with Y := wr ++ F.Y } Γ1 [] { s' with heap := h', toks := tk } := J'.chg wrOk hk₁ (W.ex _ _ hst₁)
      refine W.own i _ t1 v _ _ hPv hst₁ fun h'' tk' hst₂ hk₂ => ?_
      have J2 : Inv c { F with Y := wr ++ F.Y } Γ1 [] { s' with heap := h'', toks := tk' } := J1.chg wrOk hk₂ (W.ex _ _ hst₂)
      have wD : D ∉ wr := fun q => fpD _ (W.sub _ q) rfl
      have kk : ∀ b o, b ∉ wr → s'.heap.get? b = some o → h''.get? b = some o := fun b o hb e => hk₂ b o hb (hk₁ b o hb e)
      have hpl2 : h''.PlainList D (List.toArray (ys ++ zs)) := hpl'.at fun o e => kk _ o wD e
      have hall2 := hall'.up (hd_up (X := (wr ++ F.Y) ++ c.X) fun b o hb e => kk b o (fun q => hb (List.mem_append_left _ (List.mem_append_left _ q))) e)
      have hold2 : ∀ b o, b ≠ D → b ≠ c.env.locals → (∀ x, c.env.cells.lookup x ≠ some b) → s₂.heap.get? b = some o → h''.get? b = some o := fun b o h0 h1 h2 e => kk b o (swr b o h1 h2 e) (hold' b o h0 h1 h2 e)
      have hvT : Ti.P (hideAll h'' ((wr ++ F.Y) ++ c.X)) v := by
        refine Ti.up (fun b o e => ?_) (hP i v Ti hPv hTi)
        have eb := of_hideAll _ e
        have hb : b ∉ F.Y ++ c.X := fun q => by rw [hideAll_none _ q] at e; cases e
        have h1 : b ≠ c.env.locals := fun q => hb (List.mem_append_left _ (q ▸ J.loc))
        have h2 : ∀ x, c.env.cells.lookup x ≠ some b := fun x q => hb (J.cells x b q).2
        refine hideAll_get _ (hold2 b o (fun q => hb (List.mem_append_left _ (q ▸ hD))) h1 h2 eb) fun q => ?_
        rcases List.mem_append.mp q with q | q
        · rcases List.mem_append.mp q with q | q
          · exact swr b o h1 h2 eb q
          · exact hb (List.mem_append_left _ q)
        · exact hb (List.mem_append_right _ q)
      unfold bdE
      refine wpAny_bind (hasg' _ v _ _ J2 hvT fun s₅ J5 st5 => ?_)
      have hst5 : St (i + 1) s₅.heap := W.frame _ _ _ hst₂ fun b hb o e => st5 b o (fpl b hb) (fpc b hb) e
      have hpl5 : s₅.heap.PlainList D (List.toArray (ys ++ zs)) := hpl2.at fun o e => st5 D o hDl hDc e
      have hall5 := hall2.up (StK.hide J2 st5)
      refine wpAny_bind (hel s₅ J5 _ _ fun y s₇ k7 py => ?_)
      have J7 := (J5.keeps k7).sub hsub'
      have hall7 := hall5.up (hd_keep (X := (wr ++ F.Y) ++ c.X) k7.keep)
      have hys : (List.toArray (ys ++ zs)).size ≤ sizeLine := by
        rw [List.size_toArray, hall7.length, List.length_append, List.length_take]
        have h3 : (69632 : Nat) ≤ sizeLine := by decide
        omega
      refine wpAny_bind (wpAny_list_append_plain (hsz := hys) (hpl5.at fun o e => k7.keep _ o e) fun h₅ hl₅ hs₅ => wpAny_pure ?_)
      have hk5 : ∀ b o, b ∉ [D] → s₇.heap.get? b = some o → h₅.get? b = some o := fun b o hb e => hs₅.extBut b o (fun q => hb (q ▸ .head _)) e
      refine ⟨Ts.length + 1 - (i + 1), by omega, i + 1, zs ++ [y], rfl, hlt, J7.chg (tk := s₇.toks) DOk hk5 (fun a ha => by obtain rfl := List.mem_singleton.mp ha; obtain ⟨n, e⟩ := hl₅; exact ⟨_, e⟩), ?_, ?_, ?_, ?_⟩
      · exact W.frame _ _ _ hst5 fun b hb o e => hk5 b o (fun q => fpD b hb (List.mem_singleton.mp q)) (k7.keep b o e)
      · simpa using hl₅
      · have kk : Keep (hideAll s₇.heap ((wr ++ F.Y) ++ c.X)) (hideAll h₅ ((wr ++ F.Y) ++ c.X)) := hd_up fun b o hb e => hk5 b o (fun q => hb (List.mem_append_left _ (DOk b q).1)) e
        rw [List.take_add_one, hUi, ← List.append_assoc, ← List.append_assoc]
        exact (hall7.up kk).app (All2.one (Ui.up kk py))
      · intro b o h0 h1 h2 e
        exact hk5 b o (fun q => h0 (List.mem_singleton.mp q)) (k7.keep b o (st5 b o h1 h2 (hold2 b o h0 h1 h2 e)))
    · have hin : i = Ts.length := by omega
      subst hin
      refine W.done s' _ _ hst' fun h' tk hk₁ => ?_
      have wD : D ∉ wr := fun q => fpD _ (W.sub _ q) rfl
      refine wpAny_pure (k _ zs ?_ ?_ ?_ ?_)
      · exact ((J'.dropChgs J.loc (fun y k' e => (J.cells y k' e).2) hk₁ (fun q => fpl _ (W.sub _ q) rfl) (fun y k' e q => fpc _ (W.sub _ q) y e) (fun p hp => (nomatch hp)) (fun b hb q => hfpX b (W.sub _ q) (List.mem_append_left _ hb))).sub hsub)
      · exact hpl'.at fun o e => hk₁ _ o wD e
      · have hfull : Us.take Ts.length = Us := by rw [← hlen, List.take_length]
        rw [hfull] at hall'
        refine hall'.up fun b o e => ?_
        have hb : b ∉ (wr ++ F.Y) ++ c.X := fun q => by rw [hideAll_none _ q] at e; cases e
        exact hideAll_get _ (hk₁ b o (fun q => hb (List.mem_append_left _ (List.mem_append_left _ q))) (of_hideAll _ e)) fun q => hb (inF b q)
      · intro b o h0 h1 h2 e
        have e2 := k₂.keep _ _ (st₁ b o h1 h2 e)
        exact hk₁ b o (swr b o h1 h2 e2) (hold' b o h0 h1 h2 e2)
  exact wpAny_bind (wpAny_runOwn (h := none) (compStart_at1 loop (W.self 0 _ _ _ hst loop)))

/-- one item of the outer source of a comprehension of two clauses -/
noncomputable def Turn2 (c : Cx) (F : Fx) (Γ : Gam) (t0 i1 t1 elt : Expr) (T : Ty) (Z : List Ty) : Prop :=
  ∃ Γ1 T1 Ts1, ASG c F Γ [] t0 T Γ1 ∧ (∀ x V, Γ.lookup x = some V → Γ1.lookup x = some V) ∧ EV c F Γ1 [] i1 T1 ∧ ITR c F Γ1 [] T1 Ts1 ∧ Z.length = Ts1.length ∧ Ts1.length ≤ 4096 ∧ (∀ x, foldedSetIterable i1 c.env x = pure x) ∧
    ∀ (i : Nat) (T U : Ty), Ts1[i]? = some T → Z[i]? = some U → ∀ (Y' : List Addr), ∃ Γ', ASG c { F with Y := Y' } Γ1 [] t1 T Γ' ∧ (∀ x V, Γ1.lookup x = some V → Γ'.lookup x = some V) ∧ EV c { F with Y := Y' } Γ' [] elt U
structure Comp2 (c : Cx) (F : Fx) (Γ : Gam) (Ω : Own) (elt t0 i0 t1 i1 : Expr) (scope : Scope) (T : Ty) (Ts : List Ty) (Zs : List (List Ty)) (N' : List (Str × NameKind)) (C' : List (Str × Addr)) (Γc : Gam) : Prop where
  hit : EV c F Γ Ω i0 T
  hI : ITR c F Γ Ω T Ts
  hk : scope.kind = .function
  hN : relN F.N scope.names = N'
  hC : capC F.C scope.names [] = some C'
  hΓ : CapAll Γ F N' C' Γc
  hnm : ∀ x ∈ scope.names, x.2 = .local → scope.names.lookup x.1 = some .local
  hndc : ((cellsFrom 0 scope.names []).map (·.1)).Nodup
  hsep : ∀ x, C'.lookup x ≠ none → (cellsFrom 0 scope.names []).lookup x = none
  hlen : Zs.length = Ts.length
  hsz : Zs.flatten.length ≤ 65536
  hturn : ∀ (i : Nat) (T : Ty) (Z : List Ty), Ts[i]? = some T → Zs[i]? = some Z → ∀ (c' : Cx) (C : Addr) (Y' : List Addr), (∀ k, Room k c.A → Room k c'.A) → C ∈ Y' → (∀ k ∈ (cellsFrom (C + 1) scope.names []).map (·.2), k ∈ Y') →
      Turn2 c' ⟨N', cellsFrom (C + 1) scope.names [] ++ C', Y'⟩ Γc t0 i1 t1 elt T Z
theorem x_comp2 {Ω : Own} {T : Ty} {Ts : List Ty} {Zs : List (List Ty)} {N' : List (Str × NameKind)} {C' : List (Str × Addr)} {Γc : Gam} {x : Str} {px spos : Pos} {s : Shared} {Q : Flow → Shared → Prop} {E : Value → Shared → Prop} {rest : List Stmt} (I : Inv c F Γ Ω s) (h : Comp2 c F Γ Ω elt t0 i0 t1 i1 scope T Ts Zs N' C' Γc)
    (hx : F.N.lookup x = some .local) (hline : (px.line == pos.line) = true) (hno : (scope.names.any fun (n, k) => n == x && (k == .local || k == .cell)) = false)
    (hcont : ∀ s', Inv c F ((x, TList Zs.flatten) :: Γ) Ω s' → wpAny (model PG c.w) c.A (execs rest c.env) Q E s')
    (hs : ∀ x, foldedSetIterable i0 c.env x = pure x := by intro _; rfl) :
    wpAny (model PG c.w) c.A (execs (.Assign [.Name x px] (.ListComp elt [⟨t0, i0, [], 0⟩, ⟨t1, i1, [], 0⟩] scope pos) spos :: rest) c.env) Q E s := by
  refine wpAny_execs_cons ?_
  have hsw : swapsWith (.ListComp elt [⟨t0, i0, [], 0⟩, ⟨t1, i1, [], 0⟩] scope pos) (some (.Name x px)) spos.line c.env = pure true := by
    unfold swapsWith
    show (pure (c.env.blockKind == .function && c.env.kindOf x == some .local && px.line == pos.line && !(scope.names.any fun (n, k) => n == x && (k == .local || k == .cell))) : Sem Bool) = pure true
    have hb : c.env.blockKind = .function := by unfold Env.blockKind; rw [I.env.kind]; rfl
    rw [hb, I.kindOf hx, hline, hno]; rfl
  rw [exec_Assign_Name_used _ _ _ _ hsw]
  refine wpAny_bind (wpAny_standAt (wpAny_bind ?_))
  show wpAny _ _ (do let _ ← comprehension (.ListComp elt [⟨t0, i0, [], 0⟩, ⟨t1, i1, [], 0⟩] scope pos) scope c.env _ (newList []) false (eval i0 c.env) (some (assign (.Name x px) c.env))) _ _ s
  refine wpAny_bind (comp_gen (bd := bd2 elt t0 i0 t1 i1 scope pos) h.hit h.hI h.hk h.hN h.hC h.hΓ h.hnm h.hndc h.hsep h.hlen h.hsz (fun it acc env => turn2_0 it acc env) (fun i T Z hT hZ c' C D Y' hr hC hcl hD hDl hDc => ?_) hs I (use := some (assign (.Name x px) c.env)) (Q := fun _ s' => wpAny (model PG c.w) c.A (pure ()) _ E s') fun D C s' s₁ k1 k2 hDC hC0 hm hT => ?_)
  · obtain ⟨Γ1, T1, Ts1, h1, h2, h3, h4, h5, h6, h7, h8⟩ := h.hturn i T Z hT hZ c' C Y' hr hC hcl
    exact body2 hD hDl hDc h1 h2 h3 h4 h5 h6 h7 h8
  obtain ⟨m, hm⟩ := hm
  have I' : Inv c { F with Y := [C] ++ F.Y } Γ Ω s' := (I.keeps k1).addOwns k2 (fun a ha => by obtain rfl := List.mem_singleton.mp ha; exact hC0) (fun a ha => by obtain rfl := List.mem_singleton.mp ha; obtain ⟨o, _, _, e, _⟩ := hm; exact ⟨o, e⟩)
  have CL : C ≠ c.env.locals := fun q => by obtain ⟨m', o, _, _, e, _⟩ := (I.keeps k1).ns; rw [← q, hC0] at e; cases e
  have CC : ∀ y, c.env.cells.lookup y ≠ some C := fun y q => by obtain ⟨⟨v, o, e, _⟩, _⟩ := (I.keeps k1).cells y C q; rw [hC0] at e; cases e
  have CΩ : ∀ p ∈ Ω, p.1 ≠ C := fun p hp q => by obtain ⟨o, e, _⟩ := ((I.keeps k1).own p hp).1; rw [q, hC0] at e; cases e
  show wpAny _ _ (assign (.Name x px) c.env (.ref D)) _ _ _
  refine wpAny_assign_Name (st_name I' hT (.inl hx) fun s₂ I₂ st => ?_)
  refine ⟨m, hm.at' fun o e => st C o CL CC e, fun h'' hs'' => ?_⟩
  refine wpAny_pure (wpAny_pure ?_)
  exact hcont _ (I₂.dropChgs I.loc (fun y k' e => (I.cells y k' e).2) (fun b o hb e => hs''.extBut b o (fun q => hb (q ▸ .head _)) e) (fun q => CL (List.mem_singleton.mp q).symm) (fun y k' e q => CC y (by rw [← List.mem_singleton.mp q]; exact e)) (fun p hp q => CΩ p hp (List.mem_singleton.mp q))
    (fun b hb q => by obtain rfl := List.mem_singleton.mp q; obtain ⟨o, e⟩ := ((I.keeps k1).fresh b hb).2; rw [hC0] at e; cases e))
end
end Mine

end

section
open PySem PySem.W PyProof.Rows PySem.Calls PySem.Flt
set_option maxRecDepth 100000
set_option maxHeartbeats 1000000
set_option linter.unusedVariables false
namespace Mine

/-- entries of a dict from ints to ints -/
noncomputable def IV : List (Int × Value) → List (Int × Int) → Prop
  | [], [] => True
  | (k, v) :: r, (k', n) :: q => k = k' ∧ (∃ t, v = .int n t) ∧ IV r q
  | _, _ => False
noncomputable def DI (kvs : List (Int × Int)) (o : Obj) : Prop := ∃ vs : List (Int × Value), (∀ w : World, o.IsDictOf (intKind PG w) vs) ∧ IV vs kvs
theorem pairs_w {w w' : World} {es : List DictEntry} {vs : List (Int × Value)} (h : Pairs (intKind PG w) es vs) : Pairs (intKind PG w') es vs := by
  induction h with
  | nil => exact .nil
  | cons a b c ih => exact .cons a b ih
theorem dict_w {w w' : World} {o : Obj} {vs : List (Int × Value)} (h : o.IsDictOf (intKind PG w) vs) : o.IsDictOf (intKind PG w') vs :=
  let ⟨es, ep, a, b, c, d, e⟩ := h; ⟨es, ep, a, b, c, pairs_w d, e⟩
theorem DI.of {w : World} {o : Obj} {vs : List (Int × Value)} {kvs : List (Int × Int)} (h : o.IsDictOf (intKind PG w) vs) (i : IV vs kvs) : DI kvs o := ⟨vs, fun _ => dict_w h, i⟩
theorem IV.length : ∀ {vs : List (Int × Value)} {kvs : List (Int × Int)}, IV vs kvs → vs.length = kvs.length
  | [], [], _ => rfl
  | (k, v) :: r, (k', n) :: q, ⟨_, _, h⟩ => by rw [List.length_cons, List.length_cons, h.length]

noncomputable def dget (kvs : List (Int × Int)) (k : Int) : Option Int := (kvs.find? fun kv => kv.1 = k).map (·.2)
noncomputable def dput (kvs : List (Int × Int)) (k n : Int) : List (Int × Int) := if kvs.any (fun kv => kv.1 = k) then kvs.map (fun kv => if kv.1 = k then (kv.1, n) else kv) else kvs ++ [(k, n)]
theorem IV.get : ∀ {vs : List (Int × Value)} {kvs : List (Int × Int)}, IV vs kvs → ∀ k, match dget kvs k with | some n => ∃ t, valueAt vs k = some (.int n t) | none => valueAt vs k = none
  | [], [], _, k => rfl
  | (k1, v) :: r, (k2, n) :: q, ⟨a, ⟨t, b⟩, h⟩, k => by
    subst a b
    by_cases e : k1 = k
    · have h1 : dget ((k1, n) :: q) k = some n := by simp [dget, e]
      rw [h1]
      exact ⟨t, by simp [valueAt, e]⟩
    · have h1 : dget ((k1, n) :: q) k = dget q k := by simp [dget, e]
      have h2 : valueAt ((k1, Value.int n t) :: r) k = valueAt r k := by simp [valueAt, e]
      rw [h1, h2]
      exact h.get k
theorem IV.any : ∀ {vs : List (Int × Value)} {kvs : List (Int × Int)}, IV vs kvs → ∀ k, vs.any (fun kv => kv.1 = k) = kvs.any (fun kv => kv.1 = k)
  | [], [], _, k => rfl
  | (k1, v) :: r, (k2, n) :: q, ⟨a, _, h⟩, k => by rw [List.any_cons, List.any_cons, h.any k, a]
theorem IV.app : ∀ {vs us : List (Int × Value)} {kvs qs : List (Int × Int)}, IV vs kvs → IV us qs → IV (vs ++ us) (kvs ++ qs)
  | [], us, [], qs, _, h => h
  | (k1, v) :: r, us, (k2, n) :: q, qs, ⟨a, b, h⟩, h' => ⟨a, b, h.app h'⟩
theorem IV.upd : ∀ {vs : List (Int × Value)} {kvs : List (Int × Int)}, IV vs kvs → ∀ k n t, IV (vs.map (fun kv => if kv.1 = k then (kv.1, Value.int n t) else kv)) (kvs.map (fun kv => if kv.1 = k then (kv.1, n) else kv))
  | [], [], _, k, n, t => trivial
  | (k1, v) :: r, (k2, m) :: q, ⟨a, b, h⟩, k, n, t => by
    subst a
    rw [List.map_cons, List.map_cons]
    by_cases e : k1 = k
    · simp only [e, if_true]
      exact ⟨rfl, ⟨t, rfl⟩, h.upd k n t⟩
    · simp only [e, if_false]
      exact ⟨rfl, b, h.upd k n t⟩
theorem IV.put {vs : List (Int × Value)} {kvs : List (Int × Int)} (h : IV vs kvs) (k n : Int) (t : Tok) : IV (stored vs k (.int n t)) (dput kvs k n) := by
  unfold stored dput
  rw [h.any k]
  split
  · exact h.upd k n t
  · exact h.app ⟨rfl, ⟨t, rfl⟩, trivial⟩

noncomputable def TDict (kvs : List (Int × Int)) : Ty := ⟨fun h v => ∃ a o, v = .ref a ∧ h.get? a = some o ∧ DI kvs o ∧ (a == sysModules) = false, fun k ⟨a, o, e, q, r⟩ => ⟨a, o, e, k _ _ q, r⟩⟩

section
variable {c : Cx} {F : Fx} {Γ : Gam} {Ω : Own}
theorem Inv.big {s : Shared} (I : Inv c F Γ Ω s) : (s.heap.objs.size == sysModules) = false := by
  obtain ⟨m, ⟨o, _, _, e, _⟩, _⟩ := I.topS.nodigits
  have h1 : @LT.lt Nat instLTNat 2 s.heap.objs.size := Heap.lt_size e
  have h2 : ¬ s.heap.objs.size = 1 := by omega
  exact beq_eq_false_iff_ne.mpr h2
theorem DI.at {h : Heap} {a : Addr} {o : Obj} {kvs : List (Int × Int)} (e : h.get? a = some o) (d : DI kvs o) (w : World) : ∃ vs, h.DictOf (intKind PG w) a vs ∧ IV vs kvs :=
  let ⟨vs, hd, iv⟩ := d; ⟨vs, Heap.dictOf_iff.mpr ⟨o, e, hd w⟩, iv⟩
theorem in_dict {s : Shared} {a : Addr} {o : Obj} {kvs : List (Int × Int)} {k : Int} {t : Tok} {Q : Value → Shared → Prop} {E : Value → Shared → Prop} (e : s.heap.get? a = some o) (d : DI kvs o) (ha : (a == sysModules) = false)
    (h : Q (.bool (dget kvs k).isSome) { s with toks := s.toks + 1 }) : wpAny (model PG c.w) c.A (compareOp .In (.int k t) (.ref a)) Q E s := by
  obtain ⟨vs, hd, iv⟩ := d.at e c.w
  refine wpAny_in_of (intKind_is PG c.w k t) ha hd.mapOf ?_
  have := iv.get k
  cases q : dget kvs k with
  | none => rw [q] at this h; rw [show valueAt vs k = none from this]; exact h
  | some n => rw [q] at this h; obtain ⟨u, hu⟩ := this; rw [hu]; exact h
theorem op_in_d {kvs : List (Int × Int)} {k : Int} : OP c F Γ Ω (TInt k) (TDict kvs) (compareOp .In) (TBool (dget kvs k).isSome) := fun s v1 v2 I p1 p2 Q E kk => by
  obtain ⟨t, rfl⟩ := p1
  obtain ⟨a, o, rfl, e, d, ha⟩ := p2
  exact in_dict (of_hideAll _ e) d ha (kk _ _ (Kp.tok s _) rfl)
theorem op_in_own {kvs : List (Int × Int)} {k : Int} {D : Addr} (hD : (D, DI kvs) ∈ Ω) (ha : (D == sysModules) = false) : OP c F Γ Ω (TInt k) (TVal (.ref D)) (compareOp .In) (TBool (dget kvs k).isSome) := fun s v1 v2 I p1 p2 Q E kk => by
  obtain ⟨t, rfl⟩ := p1
  obtain rfl : v2 = .ref D := p2
  obtain ⟨o, e, d⟩ := (I.own _ hD).1
  exact in_dict e d ha (kk _ _ (Kp.tok s _) rfl)
theorem get_dict {s : Shared} {a : Addr} {o : Obj} {kvs : List (Int × Int)} {k n : Int} {t : Tok} {Q : Value → Shared → Prop} {E : Value → Shared → Prop} (e : s.heap.get? a = some o) (d : DI kvs o) (hk : dget kvs k = some n)
    (h : ∀ u, Q (.int n u) { s with toks := s.toks + 1 }) : wpAny (model PG c.w) c.A (getItem (.ref a) (.int k t)) Q E s := by
  obtain ⟨vs, hd, iv⟩ := d.at e c.w
  have := iv.get k
  rw [hk] at this
  obtain ⟨u, hu⟩ := this
  exact wpAny_getItem_of (intKind_is PG c.w k t) hd.mapOf hu (h u)
theorem DI.typeIs {s : Shared} {a : Addr} {o : Obj} {kvs : List (Int × Int)} (e : s.heap.get? a = some o) (d : DI kvs o) (w : World) : s.TypeIs (.ref a) "dict" := let ⟨vs, hd, iv⟩ := d.at e w; hd.typeIs
theorem sub_dict {value slice : Expr} {kvs : List (Int × Int)} {k n : Int} (hs : Plain slice) (hk : dget kvs k = some n) : SUB c F Γ Ω value slice (TDict kvs) (TInt k) (TInt n) := fun s v1 v2 I p1 p2 Q E kk => by
  obtain ⟨a, o, rfl, e, d, ha⟩ := p1
  obtain ⟨t, rfl⟩ := p2
  have e' := of_hideAll _ e
  exact tail_any (d.typeIs e' c.w) slot_dict_getitem.lookup (get_dict e' d hk fun u => kk _ _ (Kp.tok s _) ⟨u, rfl⟩) (hs a k t)
theorem sub_down {value slice : Expr} {kvs : List (Int × Int)} {k n : Int} {D : Addr} (hD : (D, DI kvs) ∈ Ω) (hs : Plain slice) (hk : dget kvs k = some n) : SUB c F Γ Ω value slice (TVal (.ref D)) (TInt k) (TInt n) := fun s v1 v2 I p1 p2 Q E kk => by
  obtain rfl : v1 = .ref D := p1
  obtain ⟨t, rfl⟩ := p2
  obtain ⟨o, e, d⟩ := (I.own _ hD).1
  exact tail_any (d.typeIs e c.w) slot_dict_getitem.lookup (get_dict e d hk fun u => kk _ _ (Kp.tok s _) ⟨u, rfl⟩) (hs D k t)
theorem di_nil : DI [] { cls := .type "dict", data := .dict #[] } := ⟨[], fun w => ⟨#[], 0, ⟨rfl, rfl, rfl⟩, rfl, fun _ he => by simp at he, .nil, List.nodup_nil⟩, trivial⟩
theorem ev_dict0 {pos : Pos} : EV c F Γ Ω (.Dict [] [] pos) (TDict []) := fun s I Q E k => by
  refine wpAny_Dict_empty (k _ _ (Kp.push s _) ⟨_, _, rfl, hd_push I.newAddr rfl, di_nil, I.big⟩)
/-- x = {}: the new dict is the frame's own -/
theorem x_newdict {x : Str} {px dpos spos : Pos} {s : Shared} {Q : Flow → Shared → Prop} {E : Value → Shared → Prop} {rest : List Stmt} (I : Inv c F Γ Ω s) (hx : Slot F x)
    (h : ∀ D s', (D == sysModules) = false → D ∉ F.Y → Inv c { F with Y := D :: F.Y } ((x, TVal (.ref D)) :: Γ) ((D, DI []) :: Ω) s' → wpAny (model PG c.w) c.A (execs rest c.env) Q E s') :
    wpAny (model PG c.w) c.A (execs (.Assign [.Name x px] (.Dict [] [] dpos) spos :: rest) c.env) Q E s := by
  refine wpAny_execs_cons (wpAny_Assign_Name ?_)
  refine wpAny_Dict_empty ?_
  have hno : s.heap.get? s.heap.objs.size = none := by
    cases e : s.heap.get? s.heap.objs.size with
    | none => rfl
    | some o => exact absurd (Heap.lt_size e) (Nat.lt_irrefl _)
  have I1 : Inv c { F with Y := [s.heap.objs.size] ++ F.Y } Γ Ω { s with heap := s.heap.push { cls := .type "dict", data := .dict #[] } } :=
    I.addOwns (Kp.push s _) (fun a ha => by obtain rfl := List.mem_singleton.mp ha; exact hno) (fun a ha => by obtain rfl := List.mem_singleton.mp ha; exact ⟨_, Heap.get?_push_size _ rfl⟩)
  have I2 : Inv c { F with Y := [s.heap.objs.size] ++ F.Y } Γ ([(s.heap.objs.size, DI [])] ++ Ω) _ := I1.pin (ob := [(s.heap.objs.size, DI [])])
    (fun p hp => by
      obtain rfl := List.mem_singleton.mp hp
      refine ⟨⟨_, Heap.get?_push_size _ rfl, di_nil⟩, fun q => ?_, fun y k e q => ?_⟩
      · obtain ⟨m', o, _, _, e, _⟩ := I.ns; rw [← show s.heap.objs.size = c.env.locals from q, hno] at e; cases e
      · obtain ⟨⟨v, o, e, _⟩, _⟩ := I.cells y k e; rw [show k = s.heap.objs.size from q, hno] at e; cases e)
    (List.pairwise_singleton _ _) (fun p hp q hq e z => by
      obtain rfl := List.mem_singleton.mp hp
      obtain ⟨o, e', _⟩ := (I.own q hq).1
      rw [← show s.heap.objs.size = q.1 from e, hno] at e'; cases e')
  exact st_name I2 rfl (slot_more hx) fun s' I' _ => h _ s' I.big (fun q => I.newAddr (List.mem_append_left _ q)) I'
theorem Inv.repin {Ω1 Ω2 : Own} {D : Addr} {P P' : Obj → Prop} {s : Shared} {h' : Heap} {tk : Nat} (I : Inv c F Γ (Ω1 ++ (D, P) :: Ω2) s) (hD : D ∈ F.Y) (hs : ∀ b o, b ≠ D → s.heap.get? b = some o → h'.get? b = some o) (hn : ∃ o, h'.get? D = some o ∧ P' o) :
    Inv c F Γ (Ω1 ++ (D, P') :: Ω2) { s with heap := h', toks := tk } := by
  obtain ⟨n1, n2, n3⟩ := List.pairwise_append.mp I.ownNd
  obtain ⟨n4, n5⟩ := List.pairwise_cons.mp n2
  have ne1 : ∀ p ∈ Ω1, p.1 ≠ D := fun p hp e => n3 p hp (D, P) (.head _) e (e ▸ hD)
  have ne2 : ∀ p ∈ Ω2, p.1 ≠ D := fun p hp e => n4 p hp e.symm hD
  have I0 : Inv c F Γ (Ω1 ++ Ω2) s := { I with
    own := fun p hp => I.own p ((List.mem_append.mp hp).elim (List.mem_append_left _) fun q => List.mem_append_right _ (.tail _ q))
    ownNd := List.pairwise_append.mpr ⟨n1, n5, fun p hp q hq => n3 p hp q (.tail _ hq)⟩ }
  have hDD := (I.own (D, P) (List.mem_append_right _ (.head _))).2
  have I1 := I0.chgO (W := [D]) (h' := h') (tk := tk) (fun a ha => by
      obtain rfl := List.mem_singleton.mp ha
      exact ⟨hD, hDD.1, fun x e => hDD.2 x _ e rfl, fun p hp => (List.mem_append.mp hp).elim (ne1 p) (ne2 p)⟩)
    (fun b o hb e => hs b o (fun q => hb (q ▸ .head _)) e) (fun a ha => by obtain rfl := List.mem_singleton.mp ha; obtain ⟨o, e, _⟩ := hn; exact ⟨o, e⟩)
  exact { I1 with
    own := fun p hp => by
      rcases List.mem_append.mp hp with q | q
      · exact I1.own p (List.mem_append_left _ q)
      · rcases List.mem_cons.mp q with rfl | q
        · exact ⟨hn, hDD⟩
        · exact I1.own p (List.mem_append_right _ q)
    ownNd := List.pairwise_append.mpr ⟨n1, List.pairwise_cons.mpr ⟨fun q hq => n4 q hq, n5⟩, fun p hp q hq => by
      rcases List.mem_cons.mp hq with rfl | hq
      · exact fun e => n3 p hp (D, P) (.head _) e
      · exact n3 p hp q (.tail _ hq)⟩ }
theorem set_dict {s : Shared} {a : Addr} {o : Obj} {kvs : List (Int × Int)} {k n : Int} {t u : Tok} {Q : Unit → Shared → Prop} {E : Value → Shared → Prop} (e : s.heap.get? a = some o) (d : DI kvs o) (hl : kvs.length ≤ 4096)
    (h : ∀ h' tk, (∃ o, h'.get? a = some o ∧ DI (dput kvs k n) o) → (∀ b o, b ≠ a → s.heap.get? b = some o → h'.get? b = some o) → Q () { s with heap := h', toks := tk }) : wpAny (model PG c.w) c.A (setItem (.ref a) (.int k t) (.int n u)) Q E s := by
  obtain ⟨vs, hd, iv⟩ := d.at e c.w
  have hz : vs.length ≤ sizeLine := by
    rw [iv.length]
    have h3 : (4096 : Nat) ≤ sizeLine := by decide
    omega
  refine wpAny_setItem_pairs (hsz := hz) (intKind_is PG c.w k t) hd fun h' hd' hs' => h h' _ ?_ fun b o hb e => hs'.extBut b o hb e
  obtain ⟨o', e', r⟩ := Heap.dictOf_iff.mp hd'
  exact ⟨o', e', DI.of r (iv.put k n u)⟩
/-- x[k] = v on an own dict -/
theorem x_setd {o i value : Expr} {pos' pos : Pos} {Ω1 Ω2 : Own} {D : Addr} {kvs : List (Int × Int)} {k n : Int} {s : Shared} {Q : Flow → Shared → Prop} {E : Value → Shared → Prop} {rest : List Stmt} (I : Inv c F Γ (Ω1 ++ (D, DI kvs) :: Ω2) s) (hD : D ∈ F.Y)
    (he : EV c F Γ (Ω1 ++ (D, DI kvs) :: Ω2) value (TInt n)) (ho : EV c F Γ (Ω1 ++ (D, DI kvs) :: Ω2) o (TVal (.ref D))) (hi : EV c F Γ (Ω1 ++ (D, DI kvs) :: Ω2) i (TInt k)) (hl : kvs.length ≤ 4096)
    (h : ∀ s', Inv c F Γ (Ω1 ++ (D, DI (dput kvs k n)) :: Ω2) s' → wpAny (model PG c.w) c.A (execs rest c.env) Q E s')
    (hs : swapsWith value (some (.Subscript o i pos')) pos.line c.env = pure false := by rfl) :
    wpAny (model PG c.w) c.A (execs (.Assign [.Subscript o i pos'] value pos :: rest) c.env) Q E s := by
  refine wpAny_execs_cons (wpAny_Assign_Subscript ?_ hs)
  refine he s I _ _ fun v s₁ k₁ p₁ => ho s₁ (I.keeps k₁) _ _ fun v2 s₂ k₂ p₂ => hi s₂ ((I.keeps k₁).keeps k₂) _ _ fun v3 s₃ k₃ p₃ => ?_
  have I₃ := ((I.keeps k₁).keeps k₂).keeps k₃
  obtain ⟨u, rfl⟩ := p₁
  obtain rfl : v2 = .ref D := p₂
  obtain ⟨t, rfl⟩ := p₃
  obtain ⟨ob, e, d⟩ := (I₃.own (D, DI kvs) (List.mem_append_right _ (.head _))).1
  exact set_dict e d hl fun h' tk hn hk => h _ (I₃.repin hD hk hn)
/-- the dict is done: no more the frame's own -/
theorem Inv.freeze {x : Str} {D : Addr} {kvs : List (Int × Int)} {s : Shared} (I : Inv c { F with Y := D :: F.Y } Γ ((D, DI kvs) :: Ω) s) (hx : Γ.lookup x = some (TVal (.ref D))) (hb : (D == sysModules) = false) (hDY : D ∉ F.Y) :
    Inv c F ((x, TDict kvs) :: Γ) Ω s := by
  have kk : Keep (hideAll s.heap ((D :: F.Y) ++ c.X)) (hideAll s.heap (F.Y ++ c.X)) := hd_sub fun a ha => by
    rcases List.mem_append.mp ha with q | q
    · exact List.mem_append_left _ (.tail _ q)
    · exact List.mem_append_right _ q
  have hDD := (I.own (D, DI kvs) (.head _)).2
  obtain ⟨o, e, d⟩ := (I.own (D, DI kvs) (.head _)).1
  have hDX : D ∉ c.X := fun q => by
    obtain ⟨o', e'⟩ := I.low D q
    rw [(I.fresh D (.head _)).1] at e'; cases e'
  have hDn : D ∉ F.Y ++ c.X := fun q => (List.mem_append.mp q).elim hDY hDX
  exact { top := I.top, room := I.room, env := I.env, names := I.names, clls := I.clls, low := I.low, same := I.same, keep := I.keep, ns := I.ns
          fresh := fun a ha => I.fresh a (.tail _ ha)
          loc := (List.mem_cons.mp I.loc).elim (fun q => absurd q.symm hDD.1) id
          cells := fun y k ek => ⟨(I.cells y k ek).1, by
            rcases List.mem_append.mp (I.cells y k ek).2 with q | q
            · rcases List.mem_cons.mp q with q | q
              · exact absurd q (hDD.2 y k ek)
              · exact List.mem_append_left _ q
            · exact List.mem_append_right _ q⟩
          own := fun p hp => I.own p (.tail _ hp)
          ownNd := ((List.pairwise_cons.mp I.ownNd).2).imp fun h e z => h e (.tail _ z)
          vars := fun y T ey => by
            by_cases q : y = x
            · subst q
              obtain rfl := lookup_eq ey
              obtain ⟨v, r, p⟩ := I.vars y _ hx
              obtain rfl : v = .ref D := p
              exact ⟨_, r, D, o, rfl, hideAll_get _ e hDn, d, hb⟩
            · obtain ⟨v, r, p⟩ := I.vars y T (lookup_ne q ey)
              exact ⟨v, r, T.up kk p⟩ }
theorem tr_bool {e : Expr} {b : Bool} (h : EV c F Γ Ω e (TBool b)) (he : ∀ whole, isTrue e c.env whole = (do let v ← whole; standAt e.pos; holding [v] (truthy v)) := by intro _; rfl) : TR c F Γ Ω e b := fun s I Q E k => by
  refine wpAny_isTrue_value (h s I _ _ fun v s₁ k₁ p₁ => ?_) (he _)
  obtain rfl : v = .bool b := p₁
  exact wpAny_truthy_bool (k s₁ k₁)
theorem slot_up {F : Fx} {x : Str} {Y' : List Addr} (h : Slot F x) (hs : ∀ a ∈ F.Y, a ∈ Y') : Slot { F with Y := Y' } x := h.imp id fun ⟨e, k, b, d⟩ => ⟨e, k, b, hs _ d⟩
theorem sw_cell {s : Shared} {x : Str} {px pos : Pos} {ln : Nat} {elt : Expr} {gens : List Comprehension} {scope : Scope} (I : Inv c F Γ Ω s) (hx : F.N.lookup x = some .cell) : swapsWith (.ListComp elt gens scope pos) (some (.Name x px)) ln c.env = pure false := by
  unfold swapsWith
  show (pure (c.env.blockKind == .function && c.env.kindOf x == some .local && px.line == pos.line && !(scope.names.any fun (n, k) => n == x && (k == .local || k == .cell))) : Sem Bool) = pure false
  rw [I.kindOf hx, show ((some NameKind.cell == some NameKind.local) = false) from rfl, Bool.and_false, Bool.false_and, Bool.false_and]
end
end Mine

end

section
open PySem PySem.W PyProof.Rows PySem.Calls PySem.Flt
set_option maxRecDepth 100000
set_option maxHeartbeats 1000000
set_option linter.unusedVariables false
namespace Mine

theorem IV.at : ∀ {vs : List (Int × Value)} {kvs : List (Int × Int)}, IV vs kvs → ∀ {i : Nat} {k n : Int}, kvs[i]? = some (k, n) → ∃ t, vs[i]? = some (k, .int n t)
  | (k1, v) :: r, (k2, m) :: q, ⟨a, ⟨t, b⟩, h⟩, 0, k, n, e => by simp at e; obtain ⟨rfl, rfl⟩ := e; subst a b; exact ⟨t, rfl⟩
  | (k1, v) :: r, (k2, m) :: q, ⟨a, b, h⟩, i + 1, k, n, e => h.at (i := i) (by simpa using e)
  | [], [], _, i, k, n, e => by simp at e

/-- for a, b in d.items() -/
theorem x_items {c : Cx} {F : Fx} {s : Shared} {Q : Flow → Shared → Prop} {E : Value → Shared → Prop} {rest : List Stmt} {xk xv o : Str} {pk pv pt po apos cpos pos : Pos} {x1 : Nat} {body : List Stmt} {kvs : List (Int × Int)} (Γi : Nat → Gam) (Ωi : Nat → Own)
    (I : Inv c F (Γi 0) (Ωi 0) s) (ho : (Γi 0).lookup o = some (TDict kvs)) (hd1 : (o == ("__debug__" : Str)) = false) (hd2 : (o == ("__classdict__" : Str)) = false) (hbase : attributeBase (.Name o po) "items" c.env (eval (.Name o po) c.env) = eval (.Name o po) c.env) (hline : (apos.endLine == cpos.line) = true)
    (hsk : Slot F xk) (hsv : Slot F xv) (hkeys : ∀ i, (Ωi i).map (·.1) = (Ωi 0).map (·.1))
    (hturn : ∀ (i : Nat) (k n : Int), kvs[i]? = some (k, n) → ∀ (b : Shared) (wr : List Addr) (ob : Own) (E' : Value → Shared → Prop),
      ∀ s, Inv { c with s₀ := b } { F with Y := wr ++ F.Y } ((xv, TInt n) :: (xk, TInt k) :: Γi i) (ob ++ Ωi i) s → wpAny (model PG c.w) c.A (execs body c.env) (LoopQ c b { F with Y := wr ++ F.Y } (Γi (i + 1)) (ob ++ Ωi (i + 1)) Q) E' s)
    (hend : ∀ s', Inv c F (Γi kvs.length) (Ωi kvs.length) s' → wpAny (model PG c.w) c.A (execs rest c.env) Q E s')
    (hs : ∀ x, foldedSetIterable (.Call (.Attribute (.Name o po) "items" apos) [] [] cpos) c.env x = pure x := by intro _; rfl) :
    wpAny (model PG c.w) c.A (execs (.For (.Tuple [.Name xk pk, .Name xv pv] x1 pt) (.Call (.Attribute (.Name o po) "items" apos) [] [] cpos) body [] pos :: rest) c.env) Q E s := by
  refine wpAny_execs_cons (wpAny_For ?_ hs)
  obtain ⟨v, rd, a, od, rfl, ea, di, ha⟩ := I.vars o _ ho
  obtain ⟨vs, hdict, iv⟩ := di
  have ea' := of_hideAll _ ea
  have haX : a ∉ F.Y ++ c.X := hideAll_mem ea
  have hdo : s.heap.DictOf (intKind PG c.w) a vs := Heap.dictOf_iff.mpr ⟨od, ea', hdict c.w⟩
  refine wpAny_Call_items (knd := intKind PG c.w) ha hdo hbase hline (fun Q' hQ' => ?_) ?_
  · refine wpAny_Name ?_ hd1
    rcases rd with ⟨x, m', b, e⟩ | ⟨x | x, k', b, d⟩
    · exact wpAny_loadName_local I.env.kind x b e hQ'
    · exact wpAny_loadName_cell I.env.kind x b d hQ'
    · exact wpAny_loadName_free I.env.kind x b d hQ' hd2
  have I₁ := I.keeps (Kp.push s { cls := .type "dict_items", data := .fields #[.ref a] })
  have hdo₁ := hdo.push { cls := .type "dict_items", data := .fields #[.ref a] }
  have ea₁ : (s.heap.push { cls := .type "dict_items", data := .fields #[.ref a] }).get? a = some od := Heap.get?_push_of_some _ ea'
  have hvw : Heap.IsItemsView (s.heap.push { cls := .type "dict_items", data := .fields #[.ref a] }) s.heap.objs.size a := ⟨_, Heap.get?_push_size _ rfl, rfl, rfl⟩
  generalize hs1 : ({ s with heap := s.heap.push { cls := .type "dict_items", data := .fields #[.ref a] } } : Shared) = s₁ at I₁ ⊢
  have hh1 : s.heap.push { cls := .type "dict_items", data := .fields #[.ref a] } = s₁.heap := by rw [← hs1]
  rw [hh1] at hdo₁ ea₁ hvw
  obtain ⟨ep, hat⟩ := hdo₁.dictAt
  refine wpAny_pyIter_items (knd := intKind PG c.w) (d := a) (kvs := vs) (ep := ep) hvw hat ?_
  have hno : s₁.heap.get? s₁.heap.objs.size = none := by
    cases e : s₁.heap.get? s₁.heap.objs.size with
    | none => rfl
    | some o => exact absurd (Heap.lt_size e) (Nat.lt_irrefl _)
  obtain ⟨It, hIt⟩ : ∃ It, s₁.heap.objs.size = It := ⟨_, rfl⟩
  have hst0 : (s₁.heap.push { cls := .type "dict_itemiterator", data := .fields #[.none, .bool false, .ref a, .int 0 0, .int vs.length 0, .int ep 0, .none, .none] }).get? s₁.heap.objs.size = some { cls := .type "dict_itemiterator", data := .fields #[.none, .bool false, .ref a, .int 0 0, .int vs.length 0, .int ep 0, .none, .none] } := Heap.get?_push_size _ rfl
  have k₂ := Kp.push s₁ { cls := .type "dict_itemiterator", data := .fields #[.none, .bool false, .ref a, .int 0 0, .int vs.length 0, .int ep 0, .none, .none] }
  generalize hs2 : ({ s₁ with heap := s₁.heap.push { cls := .type "dict_itemiterator", data := .fields #[.none, .bool false, .ref a, .int 0 0, .int vs.length 0, .int ep 0, .none, .none] } } : Shared) = s₂ at k₂ ⊢
  have hh2 : s₁.heap.push { cls := .type "dict_itemiterator", data := .fields #[.none, .bool false, .ref a, .int 0 0, .int vs.length 0, .int ep 0, .none, .none] } = s₂.heap := by rw [← hs2]
  rw [hh2] at hst0
  rw [hIt] at hno hst0 ⊢
  let F' : Fx := { F with Y := [It] ++ F.Y }
  let c' : Cx := { c with s₀ := baseOf F s₁ }
  have kb : Kp c.s₀ (baseOf F s₁) := I₁.baseKp
  have I₂ : Inv c' F' (Γi 0) (Ωi 0) s₂ := I₁.rebase.addOwns k₂ (fun x hx => by obtain rfl := List.mem_singleton.mp hx; exact hno) (fun x hx => by obtain rfl := List.mem_singleton.mp hx; exact ⟨_, hst0⟩)
  have ItNe : It ≠ a := fun q => by rw [q, ea₁] at hno; cases hno
  have ItL : It ≠ c.env.locals := fun q => by obtain ⟨m', o, _, _, e, _⟩ := I₁.ns; rw [← q, hno] at e; cases e
  have ItC : ∀ x k, c.env.cells.lookup x = some k → k ≠ It := fun x k e q => by obtain ⟨⟨v, o, e', _⟩, _⟩ := I₁.cells x k e; rw [q, hno] at e'; cases e'
  have ItY : It ∉ F.Y := fun q => by obtain ⟨o, e⟩ := (I₁.fresh It q).2; rw [hno] at e; cases e
  have aL : a ≠ c.env.locals := fun q => haX (List.mem_append_left _ (q ▸ I.loc))
  have aC : ∀ x k, c.env.cells.lookup x = some k → k ≠ a := fun x k e q => haX (q ▸ (I.cells x k e).2)
  have keyOld : ∀ i, ∀ p ∈ Ωi i, p.1 ≠ It := fun i p hp q => by
    have hm : p.1 ∈ (Ωi i).map (·.1) := List.mem_map.mpr ⟨p, hp, rfl⟩
    rw [hkeys i] at hm
    obtain ⟨p', hp', e⟩ := List.mem_map.mp hm
    obtain ⟨o, e', _⟩ := (I₁.own p' hp').1
    rw [e, q, hno] at e'; cases e'
  let itO : Nat → Value → Value → Obj := fun i ok ov => { cls := .type "dict_itemiterator", dict := none, data := .fields #[.none, .bool false, .ref a, .int i 0, .int vs.length 0, .int ep 0, ok, ov], slots := #[] }
  let ob : Nat → Own := fun i => [(It, fun o => ∃ ok ov, o = itO i ok ov), (a, fun o => o = od)]
  have pinIt : ∀ {i j Γ s}, Inv c' F' Γ (Ωi i) s → (∃ ok ov, s.heap.get? It = some (itO j ok ov)) → s.heap.get? a = some od → Inv c' F' Γ (ob j ++ Ωi i) s := fun {i j Γ s} J h1 h2 => by
    refine J.pin (fun p hp => ?_) ?_ fun p hp q hq e z => ?_
    · rcases List.mem_cons.mp hp with rfl | hp
      · obtain ⟨ok, ov, e⟩ := h1
        exact ⟨⟨_, e, ok, ov, rfl⟩, ItL, ItC⟩
      · obtain rfl := List.mem_singleton.mp hp
        exact ⟨⟨_, h2, rfl⟩, aL, aC⟩
    · exact List.pairwise_cons.mpr ⟨fun q hq e => by obtain rfl := List.mem_singleton.mp hq; exact absurd e ItNe, List.pairwise_singleton _ _⟩
    · rcases List.mem_cons.mp hp with rfl | hp
      · exact keyOld i q hq e.symm
      · obtain rfl := List.mem_singleton.mp hp
        rcases List.mem_append.mp z with z | z
        · exact ItNe (List.mem_singleton.mp z).symm
        · exact haX (List.mem_append_left _ z)
  have wrOk : ∀ i, ∀ x ∈ [It], x ∈ F'.Y ∧ x ≠ c.env.locals ∧ (∀ y, c.env.cells.lookup y ≠ some x) ∧ ∀ p ∈ Ωi i, p.1 ≠ x := fun i x hx => by
    obtain rfl := List.mem_singleton.mp hx
    exact ⟨.head _, ItL, fun y e => ItC y _ e rfl, keyOld i⟩
  refine codeAny_forLoop_any (fun n s' => ∃ i, n = kvs.length + 1 - i ∧ i ≤ kvs.length ∧ Inv c' F' (Γi i) (ob i ++ Ωi i) s') ?_ (kvs.length + 1) ⟨0, rfl, Nat.zero_le _, pinIt I₂ ⟨_, _, hst0⟩ (k₂.keep _ _ ea₁)⟩
  rintro n s' ⟨i, rfl, hi, J⟩
  obtain ⟨o1, e1, ok, ov, rfl⟩ := (J.own _ (List.mem_append_left _ (.head _))).1
  obtain ⟨o2, e2, rfl⟩ := (J.own _ (List.mem_append_left _ (.tail _ (.head _)))).1
  have J0 := J.unpin
  have hat' : s'.heap.DictAt (intKind PG c.w) a vs ep := by
    obtain ⟨oo, es, h1, h2⟩ := hat
    rw [ea₁] at h1; cases h1
    exact ⟨_, es, e2, h2⟩
  have hlen := iv.length
  cases hv : kvs[i]? with
  | none =>
    have hin : i = kvs.length := by have := List.getElem?_eq_none_iff.mp hv; omega
    subst hin
    refine wpAny_pyNext_items_end (knd := intKind PG c.w) I.room.handled e1 hat' (List.getElem?_eq_none_iff.mpr (by omega)) fun h' hk₁ => ?_
    refine wpAny_execs_nil (hend _ ?_)
    refine I₁.unbase (b := baseOf F s₁) ?_ kb
    exact J0.dropChgs (as := [It]) (tk := s'.toks) I.loc (fun x k e => (I.cells x k e).2) (fun b o hb e => hk₁ b o (fun q => hb (q ▸ .head _)) e) (fun q => ItL (List.mem_singleton.mp q).symm) (fun x k e q => ItC x k e (List.mem_singleton.mp q)) (fun p hp q => keyOld _ p hp (List.mem_singleton.mp q)) (fun b hb q => ItY (List.mem_singleton.mp q ▸ hb))
  | some kn =>
    obtain ⟨k, n⟩ := kn
    have hlt : i < kvs.length := (List.getElem?_eq_some_iff.mp hv).1
    obtain ⟨tn, hvv⟩ := iv.at hv
    refine wpAny_pyNext_items_item (knd := intKind PG c.w) e1 hat' hvv fun key h' hkey heo ht₁ hz₁ hk₁ => ?_
    have J1 : Inv c' F' (Γi i) (Ωi i) { s' with heap := h', toks := s'.toks } := J0.chgO (wrOk i) (fun b o hb e => hk₁ b o (fun q => hb (q ▸ .head _)) e) (fun x hx => by obtain rfl := List.mem_singleton.mp hx; exact ⟨_, heo⟩)
    refine wpAny_letOwnedTupleGo_items heo fun h₂ he₂ hs₂ => ?_
    have J2 : Inv c' F' (Γi i) (Ωi i) { s' with heap := h₂, toks := s'.toks } := J1.chgO (h' := h₂) (tk := s'.toks) (wrOk i) (fun b o hb e => hs₂.extBut b o (fun q => hb (q ▸ .head _)) e) (fun x hx => by obtain rfl := List.mem_singleton.mp hx; exact ⟨_, he₂⟩)
    have hTn : s'.heap.objs.size ≠ It := fun q => by have := Heap.lt_size e1; rw [← show s'.heap.objs.size = It from q] at this; exact Nat.lt_irrefl _ this
    have ht₂ : h₂.get? s'.heap.objs.size = some { cls := .type "tuple", data := .seq #[key, .int n tn] } := hs₂.extBut _ _ hTn ht₁
    have e2' : h₂.get? a = some o2 := hs₂.extBut _ _ (Ne.symm ItNe) (hk₁ _ _ (Ne.symm ItNe) e2)
    have J3 := pinIt (j := i + 1) J2 ⟨_, _, he₂⟩ e2'
    obtain ⟨tk, rfl⟩ := Value.isInt_shape hkey
    have hp : (TTup [TInt k, TInt n]).P (hideAll h₂ (F'.Y ++ c'.X)) (.ref s'.heap.objs.size) := ⟨_, [.int k tk, .int n tn], _, rfl, hideAll_get _ ht₂ J.newAddr, ⟨tk, rfl⟩, ⟨tn, rfl⟩, trivial⟩
    refine assign_tup (c := c') (F := F') (xs := [xk, xv]) (Ts := [TInt k, TInt n]) (.cons (.cons .nil)) J3 hp rfl (fun x hx => ?_) fun s₅ J5 _ => ?_
    · rcases List.mem_cons.mp hx with rfl | hx
      · exact slot_more hsk
      · obtain rfl := List.mem_singleton.mp hx
        exact slot_more hsv
    refine wpAny_mono (hturn i k n hv (baseOf F s₁) [It] (ob (i + 1)) _ s₅ J5) (fun f s₆ hf => ?_) fun _ _ x => x
    cases f with
    | next => exact ⟨kvs.length + 1 - (i + 1), by omega, i + 1, rfl, hlt, hf⟩
    | cont => exact ⟨kvs.length + 1 - (i + 1), by omega, i + 1, rfl, hlt, hf⟩
    | brk => exact hf.elim
    | ret v => exact hf kb
end Mine

end

section
open PySem PySem.W PyProof.Rows PySem.Calls PySem.Flt
set_option maxRecDepth 100000
set_option maxHeartbeats 1000000
set_option linter.unusedVariables false
namespace Mine
section
variable {c : Cx} {F : Fx} {Γ : Gam} {Ω : Own}
theorem f_isi {n : Int} : BF c F Γ Ω (.builtin "isinstance") [TInt n, TVal (.type "tuple")] (TBool false) := fun s vals I p Q E k => by
  obtain ⟨v, u, rfl⟩ := p.s2
  obtain ⟨⟨t, rfl⟩, h2, _⟩ := p
  obtain rfl : u = .type "tuple" := h2
  exact call_isinstance (isinstance_false_int (by decide) (by kernel_rfl) (by kernel_rfl)) (k _ _ (Kp.tok s _) rfl)
/-- d[k] += e on an own dict -/
theorem x_augd {o value : Expr} {x : Str} {px pos' pos : Pos} {Ω1 Ω2 : Own} {D : Addr} {kvs : List (Int × Int)} {k n m : Int} {s : Shared} {Q : Flow → Shared → Prop} {E : Value → Shared → Prop} {rest : List Stmt} (I : Inv c F Γ (Ω1 ++ (D, DI kvs) :: Ω2) s) (hD : D ∈ F.Y)
    (he : EV c F Γ (Ω1 ++ (D, DI kvs) :: Ω2) value (TInt n)) (ho : EV c F Γ (Ω1 ++ (D, DI kvs) :: Ω2) o (TVal (.ref D))) (hi : EV c F Γ (Ω1 ++ (D, DI kvs) :: Ω2) (.Name x px) (TInt k)) (hk : dget kvs k = some m) (hl : kvs.length ≤ 4096)
    (h : ∀ s', Inv c F Γ (Ω1 ++ (D, DI (dput kvs k (m + n))) :: Ω2) s' → wpAny (model PG c.w) c.A (execs rest c.env) Q E s') :
    wpAny (model PG c.w) c.A (execs (.AugAssign (.Subscript o (.Name x px) pos') .Add value pos :: rest) c.env) Q E s := by
  refine wpAny_execs_cons (wpAny_AugAssign_Subscript ?_)
  refine ho s I _ _ fun v2 s₂ k₂ p₂ => hi s₂ (I.keeps k₂) _ _ fun v3 s₃ k₃ p₃ => ?_
  have I₃ := (I.keeps k₂).keeps k₃
  obtain rfl : v2 = .ref D := p₂
  obtain ⟨t, rfl⟩ := p₃
  obtain ⟨ob, e, d⟩ := (I₃.own (D, DI kvs) (List.mem_append_right _ (.head _))).1
  refine get_dict e d hk fun u => ?_
  have I₄ := I₃.keeps (Kp.tok s₃ (s₃.toks + 1))
  refine he _ I₄ _ _ fun v s₅ k₅ p₅ => ?_
  have I₅ := I₄.keeps k₅
  obtain ⟨u2, rfl⟩ := p₅
  refine wpAny_iadd_int ?_
  have I₆ := I₅.keeps (Kp.tok s₅ (s₅.toks + 1))
  obtain ⟨ob, e, d⟩ := (I₆.own (D, DI kvs) (List.mem_append_right _ (.head _))).1
  exact set_dict e d hl fun h' tk hn hk => h _ (I₆.repin hD hk hn)
end
end Mine

end

section
open PySem PySem.W PyProof.Rows PySem.Calls PySem.Flt
set_option maxRecDepth 100000
set_option maxHeartbeats 1000000
set_option linter.unusedVariables false
namespace Mine
theorem gives_find4 (x y : Str) (i j : Int) (t u v r : Tok) : Gives (Builtin.«str.find» ⟨[.str x t, .str y u, .int i v, .int j r], []⟩) (.int (match Builtin.Str.occurrences x y (fromIndex x.length i) (min (fromIndex x.length j) x.length) 1 with | k :: _ => (k : Int) | [] => -1)) := by
  show Gives (match Builtin.Str.occurrences x y (fromIndex x.length i) (min (fromIndex x.length j) x.length) 1 with | k :: _ => PySem.retInt k | [] => (do rule "str.find.not-found"; PySem.retInt (-1))) _
  cases Builtin.Str.occurrences x y (fromIndex x.length i) (min (fromIndex x.length j) x.length) 1 with
  | nil => exact .rule (.of_eq rfl)
  | cons k _ => exact .of_eq rfl
noncomputable def find4 (x y : Str) (i j : Int) : Int := match Builtin.Str.occurrences x y (fromIndex x.length i) (min (fromIndex x.length j) x.length) 1 with | k :: _ => (k : Int) | [] => -1
section
variable {c : Cx} {F : Fx} {Γ : Gam} {Ω : Own}
theorem m_find4 {x y : Str} {i j : Int} : MF c F Γ Ω "str.find" x [TStr y, TInt i, TInt j] (TInt (find4 x y i j)) := fun s t vals I p Q E k => by
  obtain ⟨v1, v2, v3, rfl⟩ := p.s3
  obtain ⟨⟨t1, rfl⟩, ⟨t2, rfl⟩, ⟨t3, rfl⟩, _⟩ := p
  exact call_gives PySem.F.slot_str_find (typeIs_str _ _ _) PySem.F.entry_str_find (PySem.F.args_str_find_4 _ _ _ _) (gives_find4 x y i j t t1 t2 t3) (k _ _ (Kp.tok s _) ⟨_, rfl⟩)
theorem m_starts {x y : Str} : MF c F Γ Ω "str.startswith" x [TStr y] (TBool (Txt.startswith x y)) := fun s t vals I p Q E k => by
  obtain ⟨v1, rfl⟩ := p.s1
  obtain ⟨⟨t1, rfl⟩, _⟩ := p
  exact PySem.SC.startswith (k _ _ (Kp.refl s) rfl)
theorem m_ends {x y : Str} : MF c F Γ Ω "str.endswith" x [TStr y] (TBool (Txt.endswith x y)) := fun s t vals I p Q E k => by
  obtain ⟨v1, rfl⟩ := p.s1
  obtain ⟨⟨t1, rfl⟩, _⟩ := p
  exact PySem.SC.endswith (k _ _ (Kp.refl s) rfl)
theorem op_eq_ss {x y : Str} : OP c F Γ Ω (TStr x) (TStr y) (compareOp .Eq) (TBool (x == y)) := fun s v1 v2 I p1 p2 Q E k => by
  obtain ⟨t, rfl⟩ := p1
  obtain ⟨u, rfl⟩ := p2
  exact eq_str (k _ _ (Kp.refl s) rfl)
theorem op_ni_ss {x y : Str} : OP c F Γ Ω (TStr y) (TStr x) (compareOp .NotIn) (TBool (Builtin.Str.occurrences x y 0 x.length 1).isEmpty) := fun s v1 v2 I p1 p2 Q E k => by
  obtain ⟨t, rfl⟩ := p1
  obtain ⟨u, rfl⟩ := p2
  exact notIn_str (k _ _ (Kp.refl s) (by rw [Bool.not_not]; rfl))
theorem f_lens {x : Str} (hl : x.length ≤ 4096) : BF c F Γ Ω (.builtin "len") [TStr x] (TInt x.length) := fun s vals I p Q E k => by
  obtain ⟨v1, rfl⟩ := p.s1
  obtain ⟨⟨t1, rfl⟩, _⟩ := p
  exact len_str (by omega) (k _ _ (Kp.tok s _) ⟨_, rfl⟩)
theorem tr_str {e : Expr} {x : Str} (hl : x.length ≤ 4096) (h : EV c F Γ Ω e (TStr x)) (he : ∀ whole, isTrue e c.env whole = (do let v ← whole; standAt e.pos; holding [v] (truthy v)) := by intro _; rfl) : TR c F Γ Ω e ((x.length : Int) != 0) := fun s I Q E k => by
  refine wpAny_isTrue_value (h s I _ _ fun v s₁ k₁ p₁ => ?_) (he _)
  obtain ⟨t, rfl⟩ := p₁
  exact PySem.P.truthy_str (by omega) (k _ (k₁.trans (Kp.tok s₁ _)))
end
end Mine

end

section
open PySem PySem.W PyProof.Rows PySem.Calls PySem.Flt
set_option maxRecDepth 100000
set_option maxHeartbeats 1000000
set_option linter.unusedVariables false
namespace Mine
noncomputable def SV : List Value → List Str → Prop
  | [], [] => True
  | v :: r, y :: q => (∃ t, v = .str y t) ∧ SV r q
  | _, _ => False
/-- a list object of strs -/
noncomputable def LS (ys : List Str) (o : Obj) : Prop := ∃ (vs : List Value) (n : Nat), o = { cls := .type "list", data := .seq vs.toArray n } ∧ SV vs ys
theorem SV.length : ∀ {vs : List Value} {ys : List Str}, SV vs ys → vs.length = ys.length
  | [], [], _ => rfl
  | v :: r, y :: q, ⟨_, h⟩ => by rw [List.length_cons, List.length_cons, h.length]
theorem SV.all {h : Heap} : ∀ {vs : List Value} {ys : List Str}, SV vs ys → All2 h vs (ys.map TStr)
  | [], [], _ => trivial
  | v :: r, y :: q, ⟨a, b⟩ => ⟨a, b.all⟩
theorem SV.of {h : Heap} : ∀ {vs : List Value} {ys : List Str}, All2 h vs (ys.map TStr) → SV vs ys
  | [], [], _ => trivial
  | v :: r, y :: q, ⟨a, b⟩ => ⟨a, SV.of b⟩
theorem SV.erase : ∀ {vs : List Value} {ys : List Str}, SV vs ys → ∀ k, SV (vs.eraseIdx k) (ys.eraseIdx k)
  | [], [], _, _ => trivial
  | v :: r, y :: q, ⟨a, b⟩, 0 => b
  | v :: r, y :: q, ⟨a, b⟩, k + 1 => ⟨a, b.erase k⟩
theorem SV.get : ∀ {vs : List Value} {ys : List Str}, SV vs ys → ∀ {k : Nat} {y : Str}, ys[k]? = some y → ∃ t, vs[k]? = some (.str y t)
  | v :: r, y :: q, ⟨⟨t, a⟩, b⟩, 0, z, e => by simp at e; subst e a; exact ⟨t, rfl⟩
  | v :: r, y :: q, ⟨a, b⟩, k + 1, z, e => b.get (k := k) (by simpa using e)
  | [], [], _, k, z, e => by simp at e
end Mine

end

section
open PySem PySem.W PyProof.Rows PySem.Calls PySem.Flt
set_option maxRecDepth 100000
set_option maxHeartbeats 1000000
set_option linter.unusedVariables false
namespace Mine
theorem SV.strsFrom : ∀ (tk : Nat) (ys : List Str), SV (strsFrom tk ys) ys
  | _, [] => trivial
  | tk, y :: r => ⟨⟨tk, rfl⟩, SV.strsFrom (tk + 1) r⟩
section
variable {c : Cx} {F : Fx} {Γ : Gam} {Ω : Own}
/-- an expression that gives a new list of strs -/
noncomputable def NL (c : Cx) (F : Fx) (Γ : Gam) (Ω : Own) (e : Expr) (ys : List Str) : Prop := ∀ s, Inv c F Γ Ω s → ∀ (Q : Value → Shared → Prop) (E : Value → Shared → Prop),
  (∀ D s', Kp s s' → s.heap.get? D = none → (∃ o, s'.heap.get? D = some o ∧ LS ys o) → Q (.ref D) s') → wpAny (model PG c.w) c.A (eval e c.env) Q E s
theorem x_newlist {x : Str} {px spos : Pos} {e : Expr} {ys : List Str} {s : Shared} {Q : Flow → Shared → Prop} {E : Value → Shared → Prop} {rest : List Stmt} (I : Inv c F Γ Ω s) (hx : Slot F x) (he : NL c F Γ Ω e ys)
    (h : ∀ D s', D ∉ F.Y → Inv c { F with Y := D :: F.Y } ((x, TVal (.ref D)) :: Γ) ((D, LS ys) :: Ω) s' → wpAny (model PG c.w) c.A (execs rest c.env) Q E s')
    (hs : swapsWith e (some (.Name x px)) spos.line c.env = pure false := by rfl) :
    wpAny (model PG c.w) c.A (execs (.Assign [.Name x px] e spos :: rest) c.env) Q E s := by
  refine wpAny_execs_cons (wpAny_Assign_Name (he s I _ _ fun D s₁ k hno hD => ?_) hs)
  have I1 : Inv c { F with Y := [D] ++ F.Y } Γ Ω s₁ :=
    I.addOwns k (fun a ha => by obtain rfl := List.mem_singleton.mp ha; exact hno) (fun a ha => by obtain rfl := List.mem_singleton.mp ha; obtain ⟨o, e, _⟩ := hD; exact ⟨o, e⟩)
  have I2 : Inv c { F with Y := [D] ++ F.Y } Γ ([(D, LS ys)] ++ Ω) s₁ := I1.pin (ob := [(D, LS ys)])
    (fun p hp => by
      obtain rfl := List.mem_singleton.mp hp
      refine ⟨hD, fun q => ?_, fun y k e q => ?_⟩
      · obtain ⟨m', o, _, _, e, _⟩ := I.ns; rw [← show D = c.env.locals from q, hno] at e; cases e
      · obtain ⟨⟨v, o, e, _⟩, _⟩ := I.cells y k e; rw [show k = D from q, hno] at e; cases e)
    (List.pairwise_singleton _ _) (fun p hp q hq e z => by
      obtain rfl := List.mem_singleton.mp hp
      obtain ⟨o, e', _⟩ := (I.own q hq).1
      rw [← show D = q.1 from e, hno] at e'; cases e')
  refine st_name I2 rfl (slot_more hx) fun s' I' _ => h D s' (fun q => ?_) I'
  obtain ⟨o, e⟩ := (I.fresh D q).2
  rw [hno] at e; cases e
theorem nl_split {o a : Expr} {x y : Str} {pos apos : Pos} {ys : List Str} {pl : Sem Bool} (ho : EV c F Γ Ω o (TStr x)) (ha : EV c F Γ Ω a (TStr y)) (hn : noStar [a] = true)
    (h1 : (decide (x.length < y.length) || decide (Builtin.Str.strKind x < Builtin.Str.strKind y)) = false) (hy : (y.length == 0) = false)
    (hf : (Builtin.Str.occurrences x y 0 x.length (x.length + 1)).isEmpty = false) (hx : x.length ≤ 4096)
    (hp : Builtin.Str.partsBetween x (Builtin.Str.occurrences x y 0 x.length (x.length + 1)) y.length = ys) (hl : ys.length ≤ 4096)
    (he : eval (.Call (.Attribute o "split" apos) [a] [] pos) c.env = (do
      let ov ← eval o c.env
      standAt apos.atName
      let (f, first) ← holding [ov] (getMethod ov "split" pl)
      callWith pos f first (backTo pos (starEach [a] c.env)) [])) : NL c F Γ Ω (.Call (.Attribute o "split" apos) [a] [] pos) ys := fun s I Q E k => by
  have h4 : (4096 : Nat) ≤ sizeLine := by decide
  refine MethodCall_ (ho s I _ _ fun v s₁ k₁ p₁ => ?_) he
  obtain ⟨t, rfl⟩ := p₁
  refine ms_split c s₁ x t pl _ _ (callWith_builtin (star_plain hn) (evs_args (evs_cons ha evs_nil (by cases a <;> first | rfl | simp [noStar, isStarred] at hn)) hn (I.keeps k₁) fun vs s₂ k₂ p₂ => ?_))
  obtain ⟨v1, rfl⟩ := p₂.s1
  obtain ⟨⟨u, rfl⟩, _⟩ := p₂
  subst hp
  refine call_meets PySem.F.slot_str_split (typeIs_str _ _ _) PySem.F.entry_str_split (PySem.F.args_str_split_2 _ _) (meets_str_split_sep x y t u h1 hy hf (by omega) (by omega)) ?_
  have k12 := k₁.trans k₂
  refine k s₂.heap.objs.size _ (k12.trans ⟨⟨_, _, rfl⟩, fun _ _ e => Heap.get?_push_of_some _ e⟩) ?_ ⟨_, Heap.get?_push_size _ rfl, _, 0, rfl, SV.strsFrom _ _⟩
  cases e : s.heap.get? s₂.heap.objs.size with
  | none => rfl
  | some o => exact absurd (Heap.lt_size (k12.keep _ _ e)) (Nat.lt_irrefl _)
theorem LS.plain {h : Heap} {D : Addr} {ys : List Str} {o : Obj} (e : h.get? D = some o) (l : LS ys o) : ∃ vs, h.PlainList D vs.toArray ∧ SV vs ys := by
  obtain ⟨vs, n, rfl, sv⟩ := l
  exact ⟨vs, ⟨n, e⟩, sv⟩
theorem sub_own {value slice : Expr} {D : Addr} {ys : List Str} {k : Int} {y : Str} (hD : (D, LS ys) ∈ Ω) (hs : Plain slice) (h0 : 0 ≤ k) (hx : ys[k.toNat]? = some y) (hl : ys.length ≤ 4096) : SUB c F Γ Ω value slice (TVal (.ref D)) (TInt k) (TStr y) := fun s v1 v2 I p1 p2 Q E kk => by
  obtain rfl : v1 = .ref D := p1
  obtain ⟨t, rfl⟩ := p2
  obtain ⟨o, e, l⟩ := (I.own _ hD).1
  obtain ⟨vs, hp, sv⟩ := LS.plain e l
  obtain ⟨u, hv⟩ := sv.get hx
  have hk : k < 2 ^ 63 := by
    have := (List.getElem?_eq_some_iff.mp hx).1
    have h4 : k < 4096 := by omega
    exact Int.lt_of_lt_of_le h4 (by decide)
  exact tail_any hp.isList.typeIs slot_list_getitem.lookup (wpAny_getItem_list hp.isList h0 hk (by simpa using hv) (kk _ s (Kp.refl s) ⟨u, rfl⟩)) (hs D k t)
theorem sub_last {value slice : Expr} {D : Addr} {ys : List Str} {y : Str} (hD : (D, LS ys) ∈ Ω) (hs : Plain slice) (hx : ys[ys.length - 1]? = some y) (hl : ys.length ≤ 4096) : SUB c F Γ Ω value slice (TVal (.ref D)) (TInt (-1)) (TStr y) := fun s v1 v2 I p1 p2 Q E kk => by
  obtain rfl : v1 = .ref D := p1
  obtain ⟨t, rfl⟩ := p2
  obtain ⟨o, e, l⟩ := (I.own _ hD).1
  obtain ⟨vs, hp, sv⟩ := LS.plain e l
  obtain ⟨u, hv⟩ := sv.get hx
  have h1 := (List.getElem?_eq_some_iff.mp hx).1
  have h2 := sv.length
  exact tail_any hp.isList.typeIs slot_list_getitem.lookup (wpAny_getItem_list_neg hp.isList (by decide) (by rw [List.size_toArray]; omega) (by decide) (by rw [List.size_toArray, show (-1 + (vs.length : Int)).toNat = ys.length - 1 by omega]; simpa using hv) (kk _ s (Kp.refl s) ⟨u, rfl⟩)) (hs D (-1) t)
theorem f_lenO {D : Addr} {ys : List Str} (hD : (D, LS ys) ∈ Ω) (hl : ys.length ≤ 4096) : BF c F Γ Ω (.builtin "len") [TVal (.ref D)] (TInt ys.length) := fun s vals I p Q E k => by
  obtain ⟨v, rfl⟩ := p.s1
  obtain ⟨h1, _⟩ := p
  obtain rfl : v = .ref D := h1
  obtain ⟨o, e, l⟩ := (I.own _ hD).1
  obtain ⟨vs, hp, sv⟩ := LS.plain e l
  have hlen := sv.length
  refine call_len_list hp.isList ?_ ?_
  · rw [List.size_toArray, hlen]; exact Int.lt_of_le_of_lt (Int.ofNat_le.mpr hl) (by decide)
  · exact k _ _ (Kp.tok s _) ⟨s.toks + 1, by rw [List.size_toArray, hlen]⟩
theorem x_del {o i : Expr} {dpos pos : Pos} {Ω1 Ω2 : Own} {D : Addr} {ys : List Str} {k : Int} {j : Nat} {s : Shared} {Q : Flow → Shared → Prop} {E : Value → Shared → Prop} {rest : List Stmt} (I : Inv c F Γ (Ω1 ++ (D, LS ys) :: Ω2) s) (hD : D ∈ F.Y)
    (ho : EV c F Γ (Ω1 ++ (D, LS ys) :: Ω2) o (TVal (.ref D))) (hi : EV c F Γ (Ω1 ++ (D, LS ys) :: Ω2) i (TInt k)) (hk : seqIndex? k ys.length = some j) (hfit : Builtin.List.listFitsIndex k = true) (hl : ys.length ≤ 4096)
    (h : ∀ s', Inv c F Γ (Ω1 ++ (D, LS (ys.eraseIdx j)) :: Ω2) s' → wpAny (model PG c.w) c.A (execs rest c.env) Q E s') :
    wpAny (model PG c.w) c.A (execs (.Delete [.Subscript o i dpos] pos :: rest) c.env) Q E s := by
  refine wpAny_execs_cons (wpAny_Delete (wpAny_deleteEach_cons (wpAny_delete_Subscript ?_)))
  refine ho s I _ _ fun v2 s₂ k₂ p₂ => hi s₂ (I.keeps k₂) _ _ fun v3 s₃ k₃ p₃ => ?_
  have I₃ := (I.keeps k₂).keeps k₃
  obtain rfl : v2 = .ref D := p₂
  obtain ⟨t, rfl⟩ := p₃
  obtain ⟨ob, e, d⟩ := (I₃.own (D, LS ys) (List.mem_append_right _ (.head _))).1
  obtain ⟨vs, hp, sv⟩ := LS.plain e d
  have hlen := sv.length
  have h4 : (4096 : Nat) ≤ sizeLine := by decide
  refine wpAny_delItem_plain (k := j) hp hfit (by rw [List.size_toArray, hlen]; exact hk) (fun h' hp' hs' => ?_) (hsz := by rw [List.size_toArray]; omega)
  refine wpAny_deleteEach_nil (h { s₃ with heap := h' } (I₃.repin (h' := h') (tk := s₃.toks) hD (fun b o hb e => hs'.extBut b o hb e) ?_))
  obtain ⟨n, e'⟩ := hp'
  refine ⟨_, e', vs.eraseIdx j, n, ?_, sv.erase j⟩
  rw [show vs.toArray.eraseIdxIfInBounds j = (vs.eraseIdx j).toArray by
    unfold Array.eraseIdxIfInBounds
    split
    · simp
    · rename_i h
      rw [List.eraseIdx_of_length_le (by simpa using h)]]
theorem x_assert {test : Expr} {msg : Option Expr} {pos : Pos} {s : Shared} {Q : Flow → Shared → Prop} {E : Value → Shared → Prop} {rest : List Stmt} (I : Inv c F Γ Ω s) (ht : TR c F Γ Ω test true)
    (h : ∀ s', Inv c F Γ Ω s' → wpAny (model PG c.w) c.A (execs rest c.env) Q E s') : wpAny (model PG c.w) c.A (execs (.Assert test msg pos :: rest) c.env) Q E s :=
  wpAny_execs_cons (wpAny_Assert_holds (ht s I _ _ fun s' k => ⟨rfl, h s' (I.keeps k)⟩))
theorem op_ge_ii {a b : Int} : OP c F Γ Ω (TInt a) (TInt b) (compareOp .GtE) (TBool (decide (b ≤ a))) := op_icmp ge_int
/-- x += e, x -= e on an int name -/
theorem x_augn {x : Str} {px pos : Pos} {op : Operator} {value : Expr} {a b r : Int} {T : Ty} {s : Shared} {Q : Flow → Shared → Prop} {E : Value → Shared → Prop} {rest : List Stmt} (I : Inv c F Γ Ω s) (hx : Γ.lookup x = some T) (hT : ∀ h v, T.P h v → ∃ t, v = .int a t) (hsx : Slot F x)
    (he : EV c F Γ Ω value (TInt b)) (hop : ∀ {A : Around} {s : Shared} {Q : Value → Shared → Prop} {E : Value → Shared → Prop} {t1 t2 : Tok}, Q (.int r s.toks) { s with toks := s.toks + 1 } → wpAny (model PG c.w) A (inplaceOp op (.int a t1) (.int b t2)) Q E s)
    (h : ∀ s', Inv c F ((x, TInt r) :: Γ) Ω s' → wpAny (model PG c.w) c.A (execs rest c.env) Q E s') : wpAny (model PG c.w) c.A (execs (.AugAssign (.Name x px) op value pos :: rest) c.env) Q E s := by
  refine wpAny_execs_cons (wpAny_AugAssign_Name ?_)
  obtain ⟨v, r', p⟩ := I.vars x T hx
  obtain ⟨t, rfl⟩ := hT _ _ p
  have key : wpAny (model PG c.w) c.A (eval value c.env) (fun v s₂ => wpAny (model PG c.w) c.A (inplaceOp op (.int a t) v) (fun r s₃ => wpAny (model PG c.w) c.A (storeName c.env x r) (fun _ => fun s' => wpAny (model PG c.w) c.A (execs rest c.env) Q E s') E s₃) E s₂) E s := by
    refine he s I _ _ fun v s₂ k₂ p₂ => ?_
    obtain ⟨u, rfl⟩ := p₂
    refine hop (st_name (T := TInt r) (I.keeps (k₂.trans (Kp.tok s₂ _))) ⟨_, rfl⟩ hsx fun s' I' _ => h s' I')
  rcases r' with ⟨a', m', b', e⟩ | ⟨a' | a', k', b', d⟩
  · exact wpAny_loadName_local I.env.kind a' b' e key
  · exact wpAny_loadName_cell I.env.kind a' b' d key
  · refine wpAny_loadName_free I.env.kind a' b' d key ?_
    rcases hsx with q | ⟨q, _⟩ <;> (have := I.kindOf q; rw [this] at a'; cases a')
theorem x_add {x : Str} {px pos : Pos} {value : Expr} {a b : Int} {T : Ty} {s : Shared} {Q : Flow → Shared → Prop} {E : Value → Shared → Prop} {rest : List Stmt} (I : Inv c F Γ Ω s) (hx : Γ.lookup x = some T) (hT : ∀ h v, T.P h v → ∃ t, v = .int a t) (hsx : Slot F x)
    (he : EV c F Γ Ω value (TInt b))
    (h : ∀ s', Inv c F ((x, TInt (a + b)) :: Γ) Ω s' → wpAny (model PG c.w) c.A (execs rest c.env) Q E s') : wpAny (model PG c.w) c.A (execs (.AugAssign (.Name x px) .Add value pos :: rest) c.env) Q E s :=
  x_augn I hx hT hsx he (fun h => wpAny_iadd_int h) h
theorem x_subt {x : Str} {px pos : Pos} {value : Expr} {a b : Int} {T : Ty} {s : Shared} {Q : Flow → Shared → Prop} {E : Value → Shared → Prop} {rest : List Stmt} (I : Inv c F Γ Ω s) (hx : Γ.lookup x = some T) (hT : ∀ h v, T.P h v → ∃ t, v = .int a t) (hsx : Slot F x)
    (he : EV c F Γ Ω value (TInt b))
    (h : ∀ s', Inv c F ((x, TInt (a - b)) :: Γ) Ω s' → wpAny (model PG c.w) c.A (execs rest c.env) Q E s') : wpAny (model PG c.w) c.A (execs (.AugAssign (.Name x px) .Sub value pos :: rest) c.env) Q E s :=
  x_augn I hx hT hsx he (fun h => AutoIntOps.isub_0 h) h
theorem EV.weak {e : Expr} {T T' : Ty} (h : EV c F Γ Ω e T) (q : ∀ h v, T.P h v → T'.P h v) : EV c F Γ Ω e T' := fun s I Q E k => h s I Q E fun v s' k' p => k v s' k' (q _ _ p)
/-- x, y = (a, b): the stores in turn -/
theorem x_two {x y : Str} {px py tpos vpos pos : Pos} {kd kd' : Nat} {e1 e2 : Expr} {T1 T2 : Ty} {s : Shared} {Q : Flow → Shared → Prop} {E : Value → Shared → Prop} {rest : List Stmt} (I : Inv c F Γ Ω s) (hx : F.N.lookup x = some .local) (hy : F.N.lookup y = some .local)
    (he : EV c F Γ Ω (.Tuple [e1, e2] kd' vpos) (TTup [T1, T2]))
    (hw : c.env.blockKind = .function → c.env.kindOf x = some .local → c.env.kindOf y = some .local → swappedStores [.Tuple [.Name x px, .Name y py] kd tpos] (.Tuple [e1, e2] kd' vpos) c.env = pure (some [x, y]))
    (h : ∀ s', Inv c F ((x, T1) :: (y, T2) :: Γ) Ω s' → wpAny (model PG c.w) c.A (execs rest c.env) Q E s')
    (hs : swapsWithSole [.Tuple [.Name x px, .Name y py] kd tpos] (.Tuple [e1, e2] kd' vpos) pos.line c.env = pure false := by rfl) :
    wpAny (model PG c.w) c.A (execs (.Assign [.Tuple [.Name x px, .Name y py] kd tpos] (.Tuple [e1, e2] kd' vpos) pos :: rest) c.env) Q E s := by
  have hb : c.env.blockKind = .function := by unfold Env.blockKind; rw [I.env.kind]; rfl
  refine wpAny_execs_cons (Assign_Tuple_swapped (names := [x, y]) ?_ hs (hw hb (I.kindOf hx) (I.kindOf hy)))
  refine he s I _ _ fun v s₁ k₁ p => ?_
  have I₁ := I.keeps k₁
  obtain ⟨a, vs, rfl, t, al⟩ := TTup.isTup p
  obtain ⟨v1, v2, rfl⟩ := al.s2
  obtain ⟨p1, p2, _⟩ := al
  have t' : IsTup s₁.heap a #[v1, v2] := t.keeps hd_low
  show wpAny _ _ (unpackItems (.ref a) (#[v1, v2] : Array Value).size none) _ _ _
  refine unpackItems_tuple I.room.handled t' fun h' he' => ?_
  have kp : Kp s₁ { s₁ with heap := h' } := Kp.of' fun b o e => he' b o (Nat.ne_of_lt (Heap.lt_size e)) e
  have I₂ := I₁.keeps kp
  show wpAny _ _ (do holding [v1] (bindName c.env y v2); assignInOrder [bindName c.env x] [v1]) _ _ _
  refine wpAny_bind (wpAny_holding (wpAny_bindName (st_name I₂ (T2.up (hd_keep kp.keep) p2) (.inl hy) fun s₃ I₃ k₃ => ?_)))
  show wpAny _ _ (do holding [] (bindName c.env x v1); assignInOrder [] []) _ _ _
  refine wpAny_bind (wpAny_holding (wpAny_bindName (st_name I₃ (T1.up (k₃.hide I₂) (T1.up (hd_keep kp.keep) p1)) (.inl hx) fun s₄ I₄ k₄ => ?_)))
  exact wpAny_pure (h s₄ I₄)
/-- an own list of strs, done -/
theorem Inv.freezeS {x : Str} {D : Addr} {ys : List Str} {s : Shared} (I : Inv c { F with Y := D :: F.Y } Γ ((D, LS ys) :: Ω) s) (hx : Γ.lookup x = some (TVal (.ref D))) (hDY : D ∉ F.Y) :
    Inv c F ((x, TList (ys.map TStr)) :: Γ) Ω s := by
  have kk : Keep (hideAll s.heap ((D :: F.Y) ++ c.X)) (hideAll s.heap (F.Y ++ c.X)) := hd_sub fun a ha => by
    rcases List.mem_append.mp ha with q | q
    · exact List.mem_append_left _ (.tail _ q)
    · exact List.mem_append_right _ q
  have hDD := (I.own (D, LS ys) (.head _)).2
  obtain ⟨o, e, d⟩ := (I.own (D, LS ys) (.head _)).1
  have hDX : D ∉ c.X := fun q => by
    obtain ⟨o', e'⟩ := I.low D q
    rw [(I.fresh D (.head _)).1] at e'; cases e'
  have hDn : D ∉ F.Y ++ c.X := fun q => (List.mem_append.mp q).elim hDY hDX
  exact { top := I.top, room := I.room, env := I.env, names := I.names, clls := I.clls, low := I.low, same := I.same, keep := I.keep, ns := I.ns
          fresh := fun a ha => I.fresh a (.tail _ ha)
          loc := (List.mem_cons.mp I.loc).elim (fun q => absurd q.symm hDD.1) id
          cells := fun y k ek => ⟨(I.cells y k ek).1, by
            rcases List.mem_append.mp (I.cells y k ek).2 with q | q
            · rcases List.mem_cons.mp q with q | q
              · exact absurd q (hDD.2 y k ek)
              · exact List.mem_append_left _ q
            · exact List.mem_append_right _ q⟩
          own := fun p hp => I.own p (.tail _ hp)
          ownNd := ((List.pairwise_cons.mp I.ownNd).2).imp fun h e z => h e (.tail _ z)
          vars := fun y T ey => by
            by_cases q : y = x
            · subst q
              obtain rfl := lookup_eq ey
              obtain ⟨v, r, p⟩ := I.vars y _ hx
              obtain rfl : v = .ref D := p
              obtain ⟨vs, n, rfl, sv⟩ := d
              exact ⟨_, r, D, vs, rfl, ⟨n, hideAll_get _ e hDn⟩, sv.all⟩
            · obtain ⟨v, r, p⟩ := I.vars y T (lookup_ne q ey)
              exact ⟨v, r, T.up kk p⟩ }
/-- an int, and a fact -/
noncomputable def TIntP (n : Int) (p : Prop) : Ty := ⟨fun _ v => (∃ t, v = .int n t) ∧ p, fun _ h => h⟩
theorem Inv.fact {x : Str} {n : Int} {p : Prop} {s : Shared} (I : Inv c F Γ Ω s) (hx : Γ.lookup x = some (TIntP n p)) : p := by
  obtain ⟨v, r, q⟩ := I.vars x _ hx
  exact q.2
theorem Inv.addFact {x : Str} {n : Int} {p : Prop} {s : Shared} (I : Inv c F Γ Ω s) (hx : Γ.lookup x = some (TInt n)) (hp : p) : Inv c F ((x, TIntP n p) :: Γ) Ω s :=
  { I with
    vars := fun y T e => by
      by_cases q : y = x
      · subst q
        obtain rfl := lookup_eq e
        obtain ⟨v, r, z⟩ := I.vars y _ hx
        exact ⟨v, r, z, hp⟩
      · exact I.vars y T (lookup_ne q e) }
end
end Mine

end

section
open PySem PySem.W PyProof.Rows PySem.Calls PySem.Flt
set_option maxRecDepth 100000
set_option maxHeartbeats 1000000
set_option linter.unusedVariables false
namespace Mine
theorem tc_makes (w : World) : makesIn (KK w) 73 = true := by kernel_rfl
theorem tc_init (w : World) : findIn (KK w) (.ref 73) "__init__" = some (some (.ref 63)) := by kernel_rfl
theorem tc_initT (w : World) : typeIn (KK w) (.ref 63) = some (.type "function") := by kernel_rfl
theorem tc_cmp (w : World) : findIn (KK w) (.ref 73) "compare" = some (some (.ref 70)) := by kernel_rfl
theorem tc_cmpT (w : World) : typeIn (KK w) (.ref 70) = some (.type "function") := by kernel_rfl
theorem tc_ga (w : World) : findIn (KK w) (.ref 73) "__getattribute__" = some (some (.builtin "object.__getattribute__")) := by kernel_rfl
theorem tc_sa (w : World) : findIn (KK w) (.ref 73) "__setattr__" = some (some (.builtin "object.__setattr__")) := by kernel_rfl
theorem tc_gt (w : World) : findIn (KK w) (.ref 73) "__getattr__" = some none := by kernel_rfl
theorem tc_over (w : World) : plainOver (KK w) 73 = true := by kernel_rfl
theorem tc_taker (w : World) : takerIn (KK w) 73 "comp_select_list" = some none := by kernel_rfl
theorem tc_hasd (w : World) : (clsIn (KK w) 73).any (·.hasDict) = true := by kernel_rfl
noncomputable def tcDict (hash : Int) (tk : Tok) (v : Value) : Obj := Obj.putName "comp_select_list" hash (.str "comp_select_list" tk) v emptyDict
theorem tc_find (w : World) (hash : Int) (tk : Tok) (v : Value) : findObj (KK w) 73 (some (tcDict hash tk v)) "comp_select_list" = some (.value v) := by kernel_rfl
theorem tc_shadow (hash : Int) (tk : Tok) (v : Value) : shadowIn (some (tcDict hash tk v)) "compare" = some false := by kernel_rfl
theorem tc_inst {h : Heap} {x dx : Addr} {hash : Int} {tk : Tok} {v : Value} (e1 : h.get? x = some (instObj 73 dx)) (e2 : h.get? dx = some (tcDict hash tk v)) : InstAt h x (instObj 73 dx) 73 (some (tcDict hash tk v)) := ⟨e1, rfl, rfl, e2⟩
theorem tc_make {w : World} {A : Around} {s : Shared} {v : Value} {Q : Value → Shared → Prop} {E : Value → Shared → Prop} (hr : Room 1 A) (T : TopOk w s.heap)
    (h : ∀ x dx hash tk s', Kp s s' → s.heap.get? x = none → s.heap.get? dx = none → s'.heap.get? x = some (instObj 73 dx) → s'.heap.get? dx = some (tcDict hash tk v) → Q (.ref x) s') : wpAny (model PG w) A (call (.ref 73) [v]) Q E s := by
  obtain ⟨hh, g, d, t, os⟩ := s
  refine wpAny_call (make_core (init := .ref 63) (makes_of T.k (tc_makes w)) (looks_findIn T.k (tc_init w)) (fun self => bind_fn T.k self (tc_initT w)) (.inl rfl) ?_)
  have k : Keep hh ((hh.push emptyDict).push (instObj 73 hh.objs.size)) := fun b o e => Heap.get?_push_of_some _ (Heap.get?_push_of_some _ e)
  have T1 : TopOk w ((hh.push emptyDict).push (instObj 73 hh.objs.size)) := T.keeps k
  have hdx : ((hh.push emptyDict).push (instObj 73 hh.objs.size)).get? hh.objs.size = some emptyDict := Heap.get?_push_of_some _ (Heap.get?_push_size _ rfl)
  have hx : ((hh.push emptyDict).push (instObj 73 hh.objs.size)).get? (hh.objs.size + 1) = some (instObj 73 hh.objs.size) := by
    have := Heap.get?_push_size (hh.push emptyDict) (o := instObj 73 hh.objs.size) rfl
    rwa [Heap.size_push] at this
  have lup : ∀ a, hh.objs.size ≤ a → hh.get? a = none := fun a ha => by
    cases e : hh.get? a with
    | none => rfl
    | some o' => exact absurd (Heap.lt_size e) (Nat.not_lt.mpr ha)
  obtain ⟨oc, od, fd, osl, ho, hdat⟩ : ∃ oc od fd osl, (KK w).lookup 63 = some ⟨oc, od, .func fd, osl⟩ ∧ fd = fd := ⟨_, _, _, _, rfl, rfl⟩
  refine codeAny_call_cells (binds := [("self", .ref (hh.objs.size + 1)), ("comp_select_list", v)]) ?_ (T1.k 63 _ rfl) rfl T1.nolimit (codeRec_of T1.k (by kernel_rfl)) rfl rfl rfl ?_ fun s₁ x => ?_
  · show A.depth + 1 < recursionLimit
    exact hr.depth
  · intro y hy
    rcases List.mem_cons.mp hy with rfl | hy
    · exact .inl (by rfl)
    · obtain rfl := List.mem_singleton.mp hy; exact .inl (by rfl)
  have kk := x.toInCall.keep
  have T2 : TopOk w s₁.heap := T1.keeps kk
  have hL : ((hh.push emptyDict).push (instObj 73 hh.objs.size)).objs.size = hh.objs.size + 2 := by rw [Heap.size_push, Heap.size_push]
  obtain ⟨⟨h1, tk1, rfl⟩, hns, _, hfr⟩ := x.toInCall
  dsimp only at kk T2 hns hfr
  refine wpAny_execs_cons (plainObj_wpAny_Assign_Attribute ?_)
  refine wpAny_Name (wpAny_loadName_local (v := v) (by rfl) (by rfl) hns (by rfl) ?_) (by decide)
  refine wpAny_Name (wpAny_loadName_local (v := .ref (hh.objs.size + 1)) (by rfl) (by rfl) hns (by rfl) ?_) (by decide)
  have e1 : h1.get? (hh.objs.size + 1) = some (instObj 73 hh.objs.size) := kk _ _ hx
  have e2 : h1.get? hh.objs.size = some emptyDict := kk _ _ hdx
  have I : InstAt h1 (hh.objs.size + 1) (instObj 73 hh.objs.size) 73 (some emptyDict) := ⟨e1, rfl, rfl, e2⟩
  refine set_plain (K := KK w) T2.k I (tc_sa w) ?_
  have F : Fr hh (callEnvC _ ((hh.push emptyDict).push (instObj 73 hh.objs.size)).objs.size 63).locals h1 _ := ⟨hns, fun b o e => kk b o (k b o e), by
    show hh.objs.size ≤ ((hh.push emptyDict).push (instObj 73 hh.objs.size)).objs.size
    rw [hL]; omega⟩
  have N : News hh ((hh.push emptyDict).push (instObj 73 hh.objs.size)).objs.size h1 ([(hh.objs.size + 1, instObj 73 hh.objs.size)] ++ (hh.objs.size, emptyDict) :: []) := fun p hp => by
    rw [hL]
    rcases List.mem_append.mp hp with hp | hp
    · obtain rfl := List.mem_singleton.mp hp
      exact ⟨e1, by show hh.objs.size + 1 ≠ _; omega, lup _ (by show hh.objs.size ≤ hh.objs.size + 1; omega)⟩
    · obtain rfl := List.mem_singleton.mp hp
      exact ⟨e2, by show hh.objs.size ≠ _; omega, lup _ (Nat.le_refl _)⟩
  refine osa_dict (K := KK w) F N T2.k I rfl (tc_over w) (tc_taker w) (tc_hasd w) (by rfl) (fun p hp => by obtain rfl := List.mem_singleton.mp hp; show hh.objs.size + 1 ≠ hh.objs.size; omega) (fun p hp => (nomatch hp)) rfl rfl (Nat.le_of_ble_eq_true rfl) fun h' F' N' => ?_
  refine wpAny_execs_nil ⟨rfl, ?_⟩
  have n1 := (N' _ (List.mem_append_left _ (.head _))).1
  have n2 := (N' _ (List.mem_append_right _ (.head _))).1
  exact h (hh.objs.size + 1) hh.objs.size _ _ _ (Kp.of F'.keep) (lup _ (by show hh.objs.size ≤ hh.objs.size + 1; omega)) (lup _ (Nat.le_refl _)) n1 n2

/-- an object of TupleComp that holds a T -/
noncomputable def TComp (T : Ty) : Ty := ⟨fun h val => ∃ x dx hash tk v, val = .ref x ∧ h.get? x = some (instObj 73 dx) ∧ h.get? dx = some (tcDict hash tk v) ∧ T.P h v ∧ handedIn v = true,
  fun k ⟨x, dx, hash, tk, v, e, a, b, p, q⟩ => ⟨x, dx, hash, tk, v, e, k _ _ a, k _ _ b, T.up k p, q⟩⟩
/-- a type with a fact -/
noncomputable def TAnd (T : Ty) (p : Prop) : Ty := ⟨fun h v => T.P h v ∧ p, fun k ⟨a, b⟩ => ⟨T.up k a, b⟩⟩
section
variable {c : Cx} {F : Fx} {Γ : Gam} {Ω : Own}
theorem Inv.factA {x : Str} {T : Ty} {p : Prop} {s : Shared} (I : Inv c F Γ Ω s) (hx : Γ.lookup x = some (TAnd T p)) : p := by
  obtain ⟨v, r, q⟩ := I.vars x _ hx
  exact q.2
theorem Inv.addFactA {x : Str} {T : Ty} {p : Prop} {s : Shared} (I : Inv c F Γ Ω s) (hx : Γ.lookup x = some T) (hp : p) : Inv c F ((x, TAnd T p) :: Γ) Ω s :=
  { I with
    vars := fun y U e => by
      by_cases q : y = x
      · subst q
        obtain rfl := lookup_eq e
        obtain ⟨v, r, z⟩ := I.vars y _ hx
        exact ⟨v, r, z, hp⟩
      · exact I.vars y U (lookup_ne q e) }
theorem Inv.weakA {x : Str} {T : Ty} {p : Prop} {s : Shared} (I : Inv c F Γ Ω s) (hx : Γ.lookup x = some (TAnd T p)) : Inv c F ((x, T) :: Γ) Ω s :=
  { I with
    vars := fun y U e => by
      by_cases q : y = x
      · subst q
        obtain rfl := lookup_eq e
        obtain ⟨v, r, z⟩ := I.vars y _ hx
        exact ⟨v, r, z.1⟩
      · exact I.vars y U (lookup_ne q e) }
theorem ev_and {e : Expr} {T : Ty} {p : Prop} (h : EV c F Γ Ω e (TAnd T p)) : EV c F Γ Ω e T := EV.weak h fun _ _ z => z.1
theorem ev_sel {e : Expr} {T : Ty} {pos : Pos} (h : EV c F Γ Ω e (TComp T)) (he : eval (.Attribute e "comp_select_list" pos) c.env = (do
      let o ← eval e c.env
      standAt pos.atName
      let r ← holding [o] (getAttr o "comp_select_list" true)
      letTemporaryGo e o r
      pure r)) : EV c F Γ Ω (.Attribute e "comp_select_list" pos) T := fun s I Q E k => by
  refine Attribute_any_ (h s I _ _ fun o s₁ k₁ p => ?_) he
  obtain ⟨x, dx, hash, tk, v, rfl, e1, e2, p, q⟩ := p
  have I₁ := I.keeps k₁
  exact get_value (K := KK c.w) I₁.topS.k (tc_inst (of_hideAll _ e1) (of_hideAll _ e2)) (tc_ga _) (tc_find _ _ _ _) q (k v _ (k₁.trans (Kp.tok s₁ _)) p)
theorem ev_tc {e : Expr} {T : Ty} {p pos : Pos} (hf : F.N.lookup ("TupleComp" : Str) = some .globalImplicit) (h : EV c F Γ Ω e T) (hT : ∀ h v, T.P h v → handedIn v = true) (hr : Room 1 c.A) (hn : noStar [e] = true) :
    EV c F Γ Ω (.Call (.Name "TupleComp" p) [e] [] pos) (TComp T) := fun s I Q E k => by
  show wpAny _ _ (do callWith pos (← eval (.Name "TupleComp" p) c.env) [] (backTo pos (starEach [e] c.env)) (backToKw pos (keywordEach [] c.env))) _ _ _
  refine wpAny_bind (ev_glob hf (v := .ref 73) (by kernel_rfl) (by decide) s I _ _ fun v s₁ k₁ e₁ => ?_)
  obtain rfl : v = .ref 73 := e₁
  refine callWith_of (hplain := by rw [star_plain hn]; rfl) (keeps_K (K := KK c.w) (by kernel_rfl)) (evs_args (evs_cons h evs_nil (by cases e <;> first | rfl | simp [noStar, isStarred] at hn)) hn (I.keeps k₁) fun vs s₂ k₂ p₂ => ⟨((I.keeps k₁).keeps k₂).topS.k, ?_⟩)
  obtain ⟨v, rfl⟩ := p₂.s1
  have I₂ := (I.keeps k₁).keeps k₂
  refine tc_make hr I₂.topS fun x dx hash tk s₃ k₃ n1 n2 g1 g2 => k _ s₃ ((k₁.trans k₂).trans k₃) ?_
  have fr : ∀ a, s₂.heap.get? a = none → a ∉ F.Y ++ c.X := fun a e q => by
    obtain ⟨o, e'⟩ := I₂.lowS a q
    rw [e] at e'; cases e'
  exact ⟨x, dx, hash, tk, v, rfl, hideAll_get _ g1 (fr _ n1), hideAll_get _ g2 (fr _ n2), T.up (hd_keep k₃.keep) p₂.1, hT _ _ p₂.1⟩
theorem ev_compare {o e1 e2 : Expr} {apos pos : Pos} {T T1 T2 : Ty} {n : Int} {pl : Sem Bool} {k : Nat} (ho : EV c F Γ Ω o (TComp T)) (h1 : EV c F Γ Ω e1 T1) (h2 : EV c F Γ Ω e2 T2) (hn : noStar [e1, e2] = true) (hs : Spec k 70 [TComp T, T1, T2] (TInt n)) (hr : Room k c.A)
    (he : eval (.Call (.Attribute o "compare" apos) [e1, e2] [] pos) c.env = (do
      let ov ← eval o c.env
      standAt apos.atName
      let (f, first) ← holding [ov] (getMethod ov "compare" pl)
      callWith pos f first (backTo pos (starEach [e1, e2] c.env)) [])) : EV c F Γ Ω (.Call (.Attribute o "compare" apos) [e1, e2] [] pos) (TInt n) := fun s I Q E kk => by
  refine MethodCall_ (ho s I _ _ fun v s₁ k₁ p₁ => ?_) he
  obtain ⟨x, dx, hash, tk, v, rfl, g1, g2, p, q⟩ := p₁
  have I₁ := I.keeps k₁
  refine method_fn (K := KK c.w) I₁.topS.k (tc_inst (of_hideAll _ g1) (of_hideAll _ g2)) (tc_ga _) (tc_gt _) (tc_cmp _) (tc_cmpT _) (tc_shadow _ _ _) ?_
  refine callWith_of (hplain := by rw [star_plain hn]; rfl) (keeps_K (K := KK c.w) (by kernel_rfl)) (evs_args (evs_cons h1 (evs_cons h2 evs_nil (by cases e2 <;> first | rfl | simp [noStar, isStarred] at hn)) (by cases e1 <;> first | rfl | simp [noStar, isStarred] at hn)) hn I₁ fun vs s₂ k₂ p₂ => ⟨(I₁.keeps k₂).topS.k, ?_⟩)
  obtain ⟨v1, v2, rfl⟩ := p₂.s2
  have I₂ := I₁.keeps k₂
  refine hs _ _ _ s₂ [.ref x, v1, v2] hr I₂.topS I₂.lowS ⟨(TComp T).up (hd_keep k₂.keep) ⟨x, dx, hash, tk, v, rfl, g1, g2, p, q⟩, p₂⟩ _ _ fun v s₃ k₃ p₃ => kk v s₃ ((k₁.trans k₂).trans k₃) p₃
end
end Mine

end

section
open PySem PySem.W PyProof.Rows PySem.Calls PySem.Flt
set_option maxRecDepth 100000
set_option maxHeartbeats 1000000
set_option linter.unusedVariables false
namespace Mine
section
variable {c : Cx} {F : Fx} {Γ : Gam} {Ω : Own}
/-- dict == dict -/
noncomputable def dEq (a b : List (Int × Int)) : Bool := a.length == b.length && a.all fun p => dget b p.1 == some p.2
theorem iv_hits {A : Around} {s : Shared} {vb : List (Int × Value)} {kb : List (Int × Int)} (ib : IV vb kb) : ∀ {va : List (Int × Value)} {ka : List (Int × Int)}, IV va ka → KeqHits A s vb va (ka.all fun p => dget kb p.1 == some p.2)
  | [], [], _ => .nil
  | (k, v) :: r, (k', n) :: q, ⟨e, ⟨t, ev⟩, h⟩ => by
    subst e ev
    have g := ib.get k
    rw [List.all_cons]
    cases hk : dget kb k with
    | none =>
      rw [hk] at g
      exact .miss g
    | some m =>
      rw [hk] at g
      obtain ⟨u, hu⟩ := g
      refine .hit hu ?_ (iv_hits ib h)
      have : (some m == some n) = (n == m) := by
        rw [Bool.eq_iff_iff, beq_iff_eq, beq_iff_eq]; exact ⟨fun h => (Option.some.inj h).symm, fun h => by rw [h]⟩
      rw [this]
      exact SeqAt.EqAt.int_int n t m u
theorem op_ne_dd {a b : List (Int × Int)} : OP c F Γ Ω (TDict a) (TDict b) (compareOp .NotEq) (TBool (!dEq a b)) := fun s v1 v2 I p1 p2 Q E kk => by
  obtain ⟨x, o, rfl, e, d, hx⟩ := p1
  obtain ⟨y, o', rfl, e', d', hy⟩ := p2
  obtain ⟨vs, hd, iv⟩ := d.at (of_hideAll _ e) c.w
  obtain ⟨us, hd', iv'⟩ := d'.at (of_hideAll _ e') c.w
  refine keq_ne (knd := intKind PG c.w) hx hy hd hd' (by have := I.room.units; omega) (fun _ => iv_hits iv' iv) ?_
  rw [iv.length, iv'.length]
  exact kk _ s (Kp.refl s) rfl
/-- the keys of a dict -/
theorem itr_dict {kvs : List (Int × Int)} : ITR c F Γ Ω (TDict kvs) (kvs.map fun p => TInt p.1) := fun s v J p Q E k => by
  obtain ⟨a, o, rfl, ea, di, ha⟩ := p
  have ea' := of_hideAll _ ea
  obtain ⟨vs, hdict, iv⟩ := di
  have hdo : s.heap.DictOf (intKind PG c.w) a vs := Heap.dictOf_iff.mpr ⟨o, ea', hdict c.w⟩
  obtain ⟨ep, hat⟩ := hdo.dictAt
  have hlt : a ≠ s.heap.objs.size := Nat.ne_of_lt (Heap.lt_size ea')
  refine wpAny_pyIter_dict (knd := intKind PG c.w) (kvs := vs) (ep := ep) ha hat ?_
  have hlen : (kvs.map fun p => TInt p.1).length = vs.length := by rw [List.length_map, iv.length]
  have W : Walks PG c.w c.A s.heap.objs.size [s.heap.objs.size, a] [s.heap.objs.size] (kvs.map fun p => TInt p.1).length (fun i v => ∃ k x, vs[i]? = some (k, x) ∧ (intKind PG c.w).is k v = true) (fun i h => h.IsKeyIter s.heap.objs.size a i vs.length ep ∧ h.DictAt (intKind PG c.w) a vs ep) := by
    rw [hlen]; exact Walks.dictKeys J.room.handled _ _ hlt _ _
  have hst0 : (s.heap.push { cls := .type "dict_keyiterator", data := .fields #[.ref a, .int 0 0, .int vs.length 0, .int ep 0] }).IsKeyIter s.heap.objs.size a 0 vs.length ep := ⟨_, Heap.get?_push_size _ rfl, rfl, rfl⟩
  refine k s.heap.objs.size _ [s.heap.objs.size, a] [s.heap.objs.size] _ _ (Kp.push s _) ⟨W, ?_, ?_⟩ ⟨hst0, hat.push _⟩ ?_ ?_ (by simp [Ne.symm hlt]) ?_ ?_ ?_
  · rintro i h ⟨⟨o, e, _⟩, _⟩ b hb
    obtain rfl := List.mem_singleton.mp hb
    exact ⟨o, e⟩
  · rintro i s' target v Q E hP ⟨⟨o, e, hc, hd⟩, h2⟩ hk
    exact let_plain e hc rfl (hk s'.heap s'.toks ⟨⟨o, e, hc, hd⟩, h2⟩ fun _ _ _ e => e)
  · intro b hb
    rcases List.mem_cons.mp hb with rfl | hb
    · exact ⟨_, Heap.get?_push_size _ rfl⟩
    · obtain rfl := List.mem_singleton.mp hb; exact ⟨_, Heap.get?_push_of_some _ ea'⟩
  · intro b hb
    rcases List.mem_cons.mp hb with rfl | hb
    · exact J.newAddr
    · obtain rfl := List.mem_singleton.mp hb; exact hideAll_mem ea
  · intro b hb
    obtain rfl := List.mem_singleton.mp hb
    cases e : s.heap.get? s.heap.objs.size with
    | none => rfl
    | some o => exact absurd (Heap.lt_size e) (Nat.lt_irrefl _)
  · rintro i v U ⟨kk, x, hx, hkv⟩ hU
    rw [List.getElem?_map] at hU
    cases e : kvs[i]? with
    | none => rw [e] at hU; cases hU
    | some q =>
      obtain ⟨k1, n1⟩ := q
      rw [e] at hU; cases hU
      obtain ⟨t, ht⟩ := iv.at e
      rw [ht] at hx
      cases hx
      obtain ⟨tk, rfl⟩ := Value.isInt_shape hkv
      exact ⟨tk, rfl⟩
  · refine ⟨fun i => [(s.heap.objs.size, fun o => o.cls = .type "dict_keyiterator" ∧ o.data = .fields #[.ref a, .int i 0, .int vs.length 0, .int ep 0]), (a, fun o' => ∃ es, o'.ExactDict ∧ o'.data = .dict es ep ∧ KeysOf (intKind PG c.w) es ∧ Pairs (intKind PG c.w) es.toList vs ∧ (vs.map (·.1)).Nodup)], fun i => ⟨fun h => ⟨?_, ?_⟩, rfl⟩⟩
    · rintro ⟨⟨o, e, q⟩, ⟨o', es, e', q'⟩⟩ p hp
      rcases List.mem_cons.mp hp with rfl | hp
      · exact ⟨o, e, q⟩
      · obtain rfl := List.mem_singleton.mp hp; exact ⟨o', e', es, q'⟩
    · intro h
      obtain ⟨o, e, q⟩ := h _ (.head _)
      obtain ⟨o', e', es, q'⟩ := h _ (.tail _ (.head _))
      exact ⟨⟨o, e, q⟩, ⟨o', es, e', q'⟩⟩
theorem tuple_gt2 (l b : Addr) (x1 x2 y1 y2 : Int) (t1 t2 u1 u2 : Tok) (n n2 : Nat) (dd dd2 : Option Addr) (sl sl2 : Array (Option Value)) :
    Meets (Builtin.«tuple.__gt__» ⟨[.ref l, .ref b], []⟩)
      (fun A R s => s.heap.get? l = some { cls := .type "tuple", dict := dd, data := .seq #[.int x1 t1, .int x2 t2] n, slots := sl } ∧ s.heap.get? b = some { cls := .type "tuple", dict := dd2, data := .seq #[.int y1 u1, .int y2 u2] n2, slots := sl2 } ∧
        R (.ok (.ret (.bool (decide (y1 < x1 ∨ x1 = y1 ∧ y2 < x2))))) s) :=
  .of_wp fun prog w A R s h => by
    obtain ⟨hp, g, d, tk, os⟩ := s; obtain ⟨hl, hb, h⟩ := h
    have f2 := AutoSeq1.sub_tuple_tuple
    wp_walk using wpAny_loadPart' hl, wpAny_loadPart' hb
    show wpAny _ _ (eqBool (.int x1 t1) (.int y1 u1)) _ _ _
    refine wpAny_eqBool_int ?_
    have gt : ∀ (a b : Int) (t u : Tok) (s : Shared) (Q : Value → Shared → Prop) (E : Value → Shared → Prop), Q (.bool (decide (a > b))) s → wpAny (model prog w) A.in1 (richCompare .Gt (.int a t) (.int b u)) Q E s := fun a b t u s Q E h => gt_int h
    cases e1 : (x1 == y1) with
    | false =>
      have n1 : ¬ x1 = y1 := by simpa using e1
      have hv : decide (y1 < x1 ∨ x1 = y1 ∧ y2 < x2) = decide (x1 > y1) := by
        rw [decide_eq_decide]; omega
      rw [hv] at h
      refine wpAny_bind (wpAny_rule (wpAny_bind (gt _ _ _ _ _ _ _ ?_)))
      refine wpAny_bind (wpAny_pure (wpAny_pure ?_))
      exact wpAny_pure (wpAny_pure ⟨_, rfl, h⟩)
    | true =>
      have n1 : x1 = y1 := by simpa using e1
      subst n1
      refine wpAny_pure ?_
      refine wpAny_bind ?_
      refine wpAny_bind (wpAny_eqBool_int ?_)
      cases e2 : (x2 == y2) with
      | false =>
        have n2' : ¬ x2 = y2 := by simpa using e2
        have hv : decide (x1 < x1 ∨ x1 = x1 ∧ y2 < x2) = decide (x2 > y2) := by
          rw [decide_eq_decide]; omega
        rw [hv] at h
        refine wpAny_bind (wpAny_rule (wpAny_bind (gt _ _ _ _ _ _ _ ?_)))
        refine wpAny_bind (wpAny_pure (wpAny_pure ?_))
        exact wpAny_pure (wpAny_pure ⟨_, rfl, h⟩)
      | true =>
        have n2' : x2 = y2 := by simpa using e2
        subst n2'
        have hv : decide (x1 < x1 ∨ x1 = x1 ∧ x2 < x2) = false := by
          rw [decide_eq_false_iff_not]; omega
        rw [hv] at h
        refine wpAny_pure ?_
        refine wpAny_pure (wpAny_pure ⟨_, rfl, ?_⟩)
        exact h
end
end Mine

end

section
open PySem PySem.W PyProof.Rows PySem.Calls PySem.Flt
set_option maxRecDepth 100000
set_option maxHeartbeats 1000000
set_option linter.unusedVariables false
namespace Mine
section
variable {c : Cx} {F : Fx} {Γ : Gam} {Ω : Own}
theorem op_gt_tt {x1 x2 y1 y2 : Int} : OP c F Γ Ω (TTup [TInt x1, TInt x2]) (TTup [TInt y1, TInt y2]) (compareOp .Gt) (TBool (decide (y1 < x1 ∨ x1 = y1 ∧ y2 < x2))) := fun s v1 v2 I p1 p2 Q E kk => by
  obtain ⟨a, vs, n, rfl, ha, al⟩ := p1
  obtain ⟨b, us, n', rfl, hb, bl⟩ := p2
  obtain ⟨w1, w2, rfl⟩ := al.s2
  obtain ⟨z1, z2, rfl⟩ := bl.s2
  obtain ⟨⟨t1, rfl⟩, ⟨t2, rfl⟩, _⟩ := al
  obtain ⟨⟨u1, rfl⟩, ⟨u2, rfl⟩, _⟩ := bl
  have ha' := of_hideAll _ ha
  have hb' := of_hideAll _ hb
  exact richCompare_meets_room (op := .Gt) ⟨_, ha', rfl⟩ ⟨_, hb', rfl⟩ PySem.F.slot_tuple_gt PySem.F.entry_tuple_gt (PySem.F.args_tuple_gt_2 _ _) (tuple_gt2 a b x1 x2 y1 y2 t1 t2 u1 u2 n n' none none #[] #[])
    ⟨ha', hb', show Value.bool _ ≠ Value.notImplemented ∧ Q (.bool _) s from ⟨(fun x => nomatch x), kk _ s (Kp.refl s) rfl⟩⟩ (by have := I.room.units; omega)
theorem op_eq_tt {x1 x2 y1 y2 : Int} : OP c F Γ Ω (TTup [TInt x1, TInt x2]) (TTup [TInt y1, TInt y2]) (compareOp .Eq) (TBool ((x1 == y1) && (x2 == y2))) := fun s v1 v2 I p1 p2 Q E kk => by
  obtain ⟨a, vs, n, rfl, ha, al⟩ := p1
  obtain ⟨b, us, n', rfl, hb, bl⟩ := p2
  obtain ⟨w1, w2, rfl⟩ := al.s2
  obtain ⟨z1, z2, rfl⟩ := bl.s2
  obtain ⟨⟨t1, rfl⟩, ⟨t2, rfl⟩, _⟩ := al
  obtain ⟨⟨u1, rfl⟩, ⟨u2, rfl⟩, _⟩ := bl
  have ha' : s.heap.IsTuple a #[.int x1 t1, .int x2 t2] := ⟨_, of_hideAll _ ha, rfl, n, rfl⟩
  have hb' : s.heap.IsTuple b #[.int y1 u1, .int y2 u2] := ⟨_, of_hideAll _ hb, rfl, n', rfl⟩
  refine SeqAt.eq_tupleAt (e := fun j => if j = 0 then x1 == y1 else x2 == y2) ha' hb' (by have := I.room.units; omega) (fun j h1 h2 => ?_) (kk _ s (Kp.refl s) ?_)
  · have h3 : j < 2 := h1
    have hj : j = 0 ∨ j = 1 := by omega
    rcases hj with rfl | rfl
    · exact SeqAt.EqAt.int_int _ _ _ _
    · exact SeqAt.EqAt.int_int _ _ _ _
  · show Value.bool _ = Value.bool _
    congr 1
    show ((List.range 2).all _ && true) = _
    rw [show List.range 2 = [0, 1] from rfl]
    simp
theorem ev_ifT {test a b : Expr} {pos : Pos} {t : Bool} {T : Ty} (ht : TR c F Γ Ω test t) (h1 : t = true → EV c F Γ Ω a T) (h2 : t = false → EV c F Γ Ω b T) : EV c F Γ Ω (.IfExp test a b pos) T := by
  have := ev_if (pos := pos) ht h1 h2
  cases t <;> exact this
noncomputable def pickI (ns : List Int) (lo hi st : Option Int) : List Int :=
  (sliceRange (sliceBounds lo hi st ns.length).1 (sliceBounds lo hi st ns.length).2.1 (sliceBounds lo hi st ns.length).2.2).filterMap (ns[·]?)
theorem pickT_map (ns : List Int) (lo hi st : Option Int) : pickT (ns.map TInt) lo hi st = (pickI ns lo hi st).map TInt := by
  unfold pickT pickI
  rw [List.length_map, List.map_filterMap]
  congr 1
  funext j
  rw [List.getElem?_map]
theorem ev_step {value l u w : Expr} {p pos : Pos} {ns : List Int} {x y z : Int} (h1 : EV c F Γ Ω value (TList (ns.map TInt))) (hl : EV c F Γ Ω l (TInt x)) (hu : EV c F Γ Ω u (TInt y)) (hw : EV c F Γ Ω w (TInt z)) (hz : z ≠ 0) (hsz : ns.length ≤ 4096) (hs : SliceOp (some l) (some u) (some w) p) :
    EV c F Γ Ω (.Subscript value (.Slice (some l) (some u) (some w) p) pos) (TList ((pickI ns (some x) (some y) (some z)).map TInt)) := by
  have := ev_slice (pos := pos) h1 (part_some hl) (part_some hu) (part_some hw) (by simpa using hz) (by rw [List.length_map]; exact hsz) hs
  rwa [pickT_map] at this
end
end Mine

end

section
open PySem PySem.W PyProof.Rows PySem.Calls PySem.Flt
set_option maxRecDepth 100000
set_option maxHeartbeats 1000000
set_option linter.unusedVariables false
namespace Mine
/-- the script: a list of ints, of whatever make -/
noncomputable def TSc (ns : List Int) : Ty := ⟨fun h v => ∃ (a : Addr) (o : Obj) (vs : List Value) (n : Nat), v = .ref a ∧ h.get? a = some o ∧ o.cls = .type "list" ∧ o.data = .seq vs.toArray n ∧ IntsAre vs ns,
  fun k ⟨a, o, vs, n, e, g, r⟩ => ⟨a, o, vs, n, e, k _ _ g, r⟩⟩
section
variable {c : Cx} {F : Fx} {Γ : Gam} {Ω : Own}
theorem ev_sliceS {value : Expr} {lower upper step : Option Expr} {p pos : Pos} {ns : List Int} {lo hi st : Option Int} (h1 : EV c F Γ Ω value (TSc ns)) (hl : PART c F Γ Ω lower lo) (hu : PART c F Γ Ω upper hi) (hst : PART c F Γ Ω step st) (h0 : st ≠ some 0) (hsz : ns.length ≤ 4096)
    (hs : ∀ a b : Addr, ∃ ops, subscripted (.Slice lower upper step p) false (.ref a) (.ref b) = operate ops (getItem (.ref a) (.ref b)) := by intro a b; exact ⟨_, by with_unfolding_all rfl⟩) :
    EV c F Γ Ω (.Subscript value (.Slice lower upper step p) pos) (TList ((pickI ns lo hi st).map TInt)) := fun s I Q E k => by
  refine Subscript_ (h1 s I _ _ fun v1 s₁ k₁ p₁ => wpAny_Slice (hl s₁ (I.keeps k₁) _ _ fun vl s₂ k₂ q₂ => hu s₂ (I.keeps (k₁.trans k₂)) _ _ fun vu s₃ k₃ q₃ => hst s₃ (I.keeps ((k₁.trans k₂).trans k₃)) _ _ fun vs s₄ k₄ q₄ => ?_))
  have I4 := I.keeps (((k₁.trans k₂).trans k₃).trans k₄)
  have p4 := (TSc ns).up (hd_keep (((k₂.trans k₃).trans k₄)).keep) p₁
  obtain ⟨a, o, ws, n, rfl, hn, hcl, hdt, ia⟩ := p4
  have al : All2 (hideAll s₄.heap (F.Y ++ c.X)) ws (ns.map TInt) := All2.ofInts ia
  have hL : s₄.heap.IsList a ws.toArray := ⟨o, of_hideAll _ hn, hcl, n, hdt⟩
  obtain ⟨ops, hops⟩ := hs a s₄.heap.objs.size
  have hln : ws.length = ns.length := by rw [al.length, List.length_map]
  refine tail_any (Heap.IsList.typeIs (s := { s₄ with heap := s₄.heap.push { cls := .type "slice", data := .fields #[vl, vu, vs] } }) (hL.push _)) list_getitem_lookup
    (wpAny_getItem_list_slice (hL.push _) (Heap.IsSliceOf.new ..) q₂ q₃ q₄ h0 ?_ (by rw [List.size_toArray, hln]; exact Nat.le_trans hsz (by decide))) hops
  have k5 := Kp.push s₄ { cls := .type "slice", data := .fields #[vl, vu, vs] }
  have k6 := Kp.push { s₄ with heap := s₄.heap.push { cls := .type "slice", data := .fields #[vl, vu, vs] } } { cls := .type "list", data := .seq (slicePick ws.toArray lo hi st) }
  refine k _ _ ((((k₁.trans k₂).trans k₃).trans k₄).trans (k5.trans k6)) ?_
  rw [← pickT_map]
  refine ⟨_, (slicePick ws.toArray lo hi st).toList, rfl, ⟨0, ?_⟩, (al.pick lo hi st).up (hd_keep (k5.trans k6).keep)⟩
  have := hd_push (o := { cls := .type "list", data := .seq (slicePick ws.toArray lo hi st) }) (I4.keeps k5).newAddr rfl
  simpa using this
theorem ev_toS {value u : Expr} {p pos : Pos} {ns : List Int} {y : Int} (h1 : EV c F Γ Ω value (TSc ns)) (hu : EV c F Γ Ω u (TInt y)) (hsz : ns.length ≤ 4096) (hs : SliceOp none (some u) none p) :
    EV c F Γ Ω (.Subscript value (.Slice none (some u) none p) pos) (TList ((pickI ns none (some y) none).map TInt)) :=
  ev_sliceS (pos := pos) h1 part_none (part_some hu) part_none (by decide) hsz hs
theorem ev_stepS {value l u w : Expr} {p pos : Pos} {ns : List Int} {x y z : Int} (h1 : EV c F Γ Ω value (TSc ns)) (hl : EV c F Γ Ω l (TInt x)) (hu : EV c F Γ Ω u (TInt y)) (hw : EV c F Γ Ω w (TInt z)) (hz : z ≠ 0) (hsz : ns.length ≤ 4096) (hs : SliceOp (some l) (some u) (some w) p) :
    EV c F Γ Ω (.Subscript value (.Slice (some l) (some u) (some w) p) pos) (TList ((pickI ns (some x) (some y) (some z)).map TInt)) :=
  ev_sliceS (pos := pos) h1 (part_some hl) (part_some hu) (part_some hw) (by simpa using hz) hsz hs
theorem pick3_len (ns : List Int) : (pickI ns none (some 3) none).length ≤ 3 := by
  have h := congrArg List.length (pickT_map ns none (some 3) none)
  rw [List.length_map, pickT_y _ (by decide), List.length_take] at h
  rw [← h]
  exact Nat.min_le_left _ _
end
end Mine

end

section
open PySem PySem.W PyProof.Rows PySem.Calls PySem.Flt
set_option maxRecDepth 100000
set_option maxHeartbeats 1000000
set_option linter.unusedVariables false
namespace Mine
local macro_rules | `(tactic| tm_at "gi") => `(tactic| first | with_reducible exact gi_rgb | with_reducible exact gi_hls | with_reducible exact gi_v | with_reducible exact gi_hsv | with_reducible exact gi_em | with_reducible exact gi_ac | with_reducible exact gi_seen | with_reducible exact gi_sign | with_reducible exact gi_crib | with_reducible exact gi_takes | with_reducible exact gi_table | with_reducible exact gi_due)
local macro_rules | `(tactic| tm_at "bi") => `(tactic| first | with_reducible exact bi_max | with_reducible exact bi_min | with_reducible exact bi_int | with_reducible exact bi_len | with_reducible exact bi_chr | with_reducible exact bi_sum | with_reducible exact bi_sorted | with_reducible exact bi_range | with_reducible exact bi_isinstance)
local macro_rules | `(tactic| tm_at "op") => `(tactic| first
  | with_reducible exact op_add_ff | with_reducible exact op_sub_ff | with_reducible exact op_mul_ff | with_reducible exact op_eq_ff | with_reducible exact op_lt_ff | with_reducible exact op_le_ff
  | ((with_reducible refine op_div_ff ?_); first | assumption | decide +kernel) | ((with_reducible refine op_mod_ff ?_); first | assumption | decide +kernel)
  | with_reducible exact op_add_ii | with_reducible exact op_sub_ii | ((with_reducible refine op_mod_ii ?_); decide) | with_reducible exact op_lt_ii | with_reducible exact op_gt_ii | with_reducible exact op_eq_ii | with_reducible exact op_ne_ii
  | ((with_reducible refine op_sub_fi ?_); first | assumption | exact sml_of (by decide)) | ((with_reducible refine op_mul_fi ?_); first | assumption | exact sml_of (by decide))
  | ((with_reducible refine' op_div_ii ?q1 ?q2); (case q1 => decide); (case q2 => first | assumption | exact sml_of (by decide)))
  | ((with_reducible refine op_mul_ii ?_); tm_at "fits") | ((with_reducible refine op_fdiv_ii ?_ ?_) <;> first | assumption | decide +kernel) | ((with_reducible refine op_pow_ii ?_ ?_) <;> assumption) | with_reducible exact op_in | with_reducible exact op_eq_ll | with_reducible exact op_ne_ll
  | ((with_reducible refine op_cat ?_); tm_at "len"))
local macro_rules | `(tactic| tm_at "fits") => `(tactic| first | assumption | exact IntMulOk.of_right (intBits_le_64 (by decide) (by decide)) | exact IntMulOk.of_left (intBits_le_64 (by decide) (by decide)))
local macro_rules | `(tactic| tm_at "nn") => `(tactic| first | assumption | decide | omega)
local macro_rules | `(tactic| tm_at "slop") => `(tactic| (intro a b; exact ⟨_, by with_unfolding_all rfl⟩))
local macro_rules | `(tactic| tm_at "len") => `(tactic| first | exact Nat.le_of_ble_eq_true rfl | assumption | (simp; omega))
local macro_rules | `(tactic| tm_at "room") => `(tactic| first | assumption | exact Room.le (by assumption) (by decide))
local macro_rules | `(tactic| tm_at "spec") => `(tactic| fail "no spec")
local macro_rules | `(tactic| tm_at "built") => `(tactic| first
  | with_reducible exact f_max3 | with_reducible exact f_min3 | with_reducible exact f_max2 | with_reducible exact f_min2 | ((with_reducible refine' f_intf ?q); (case q => assumption)) | ((with_reducible refine' f_len ?q); (case q => tm_at "len")) | with_reducible exact f_range1 | with_reducible exact f_range2 | with_reducible exact f_sum | ((with_reducible refine' f_sorted ?q); (case q => first | decide | assumption | (simp; done))) | ((with_reducible refine' f_chr ?q1 ?q2); (case q1 => first | assumption | omega); (case q2 => first | assumption | omega)))
local macro_rules | `(tactic| tm_at "evs") => `(tactic| first
  | with_reducible exact evs_nil
  | ((with_reducible refine' evs_cons ?e1 ?e2 ?e3); (case e1 => tm_at "ev"); (case e2 => tm_at "evs"); (case e3 => rfl)))
local macro_rules | `(tactic| tm_at "ev") => `(tactic| first
  | with_reducible exact ev_flt | with_reducible exact ev_int | with_reducible exact ev_str | with_reducible exact ev_bool
  | ((with_reducible refine' ev_op ?e1 ?e2 ?e3); (case e1 => tm_at "ev"); (case e2 => tm_at "ev"); (case e3 => tm_at "op"))
  | ((with_reducible refine' ev_cmp ?e1 ?e2 ?e3 ?e4); (case e1 => tm_at "ev"); (case e2 => tm_at "ev"); (case e3 => tm_at "op"); (case e4 => with_unfolding_all rfl))
  | ((with_reducible refine' ev_tup ?e1 ?e2); (case e1 => tm_at "evs"); (case e2 => exact Nat.le_of_ble_eq_true rfl))
  | ((with_reducible refine' ev_list ?e1 ?e2); (case e1 => tm_at "evs"); (case e2 => exact Nat.le_of_ble_eq_true rfl))
  | ((with_reducible refine' ev_neg ?e1); (case e1 => tm_at "ev"))
  | ((with_reducible refine' ev_to ?e1 ?e2 ?e3 ?e4 ?e5); (case e1 => tm_at "ev"); (case e2 => tm_at "ev"); (case e3 => tm_at "nn"); (case e4 => tm_at "len"); (case e5 => tm_at "slop"))
  | ((with_reducible refine' ev_from ?e1 ?e2 ?e3 ?e4 ?e5); (case e1 => tm_at "ev"); (case e2 => tm_at "ev"); (case e3 => tm_at "nn"); (case e4 => tm_at "len"); (case e5 => tm_at "slop"))
  | ((with_reducible refine' ev_cut ?e1 ?e2 ?e3 ?e4 ?e5 ?e6 ?e7); (case e1 => tm_at "ev"); (case e2 => tm_at "ev"); (case e3 => tm_at "ev"); (case e4 => tm_at "nn"); (case e5 => tm_at "nn"); (case e6 => tm_at "len"); (case e7 => tm_at "slop"))
  | ((with_reducible refine' ev_sub ?e1 ?e2 ?e3); (case e1 => tm_at "ev"); (case e2 => tm_at "ev"); (case e3 => tm_at "sub"))
  | exact ev_name (by rfl)
  | exact ev_globf (by rfl) (by rfl)
  | exact ev_globs (by rfl) (by rfl)
  | ((with_reducible refine' ev_fn ?hs ?hr ?hg ?hf ?ha ?hn); (case hg => tm_at "gi"); (case hf => rfl); (case ha => tm_at "evs"); (case hn => rfl); (case hs => tm_at "spec"); (case hr => tm_at "room"))
  | ((with_reducible refine' ev_bfb ?hb ?hf ?ha ?hn ?hc); (case hb => tm_at "bi"); (case hf => rfl); (case ha => tm_at "evs"); (case hn => rfl); (case hc => tm_at "built"))
  | ((with_reducible refine' ev_bft ?hb ?hf ?ha ?hn ?hc); (case hb => tm_at "bi"); (case hf => rfl); (case ha => tm_at "evs"); (case hn => rfl); (case hc => tm_at "built")))
local macro_rules | `(tactic| tm_at "part") => `(tactic| first | with_reducible exact part_none | ((with_reducible refine' part_some ?e1); (case e1 => tm_at "ev")))
local macro_rules | `(tactic| tm_at "plain") => `(tactic| (intro a k u; with_unfolding_all rfl))
local macro_rules | `(tactic| tm_at "sub") => `(tactic| first
  | ((with_reducible refine' sub_list ?e1 ?e2 ?e3 ?e4); (case e1 => tm_at "plain"); (case e2 => tm_at "nn"); (case e3 => first | assumption | rfl); (case e4 => tm_at "len"))
  | ((with_reducible refine' sub_tup ?e1 ?e2 ?e3 ?e4); (case e1 => tm_at "plain"); (case e2 => tm_at "nn"); (case e3 => first | assumption | rfl); (case e4 => tm_at "len")))
local macro_rules | `(tactic| tm_at "tr") => `(tactic| first
  | ((with_reducible refine' tr_cmp ?e1 ?e2 ?e3 ?e4); (case e1 => tm_at "ev"); (case e2 => tm_at "ev"); (case e3 => tm_at "op"); (case e4 => with_unfolding_all rfl)))


noncomputable def vF (m1 m2 hue0 : UInt64) : UInt64 :=
  let hue := (Float64.divmod hue0 4607182418800017408).snd
  bif fLt hue 4595172819793696085 then Float64.add m1 (Float64.mul (Float64.mul (Float64.sub m2 m1) hue) 4618441417868443648)
  else bif fLt hue 4602678819172646912 then m2
  else bif fLt hue 4604180019048437077 then Float64.add m1 (Float64.mul (Float64.mul (Float64.sub m2 m1) (Float64.sub 4604180019048437077 hue)) 4618441417868443648)
  else m1

theorem v_spec (m1 m2 hue : UInt64) : Spec 1 35 [TFlt m1, TFlt m2, TFlt hue] (TFlt (vF m1 m2 hue)) := by
  refine spec_of ["m1", "m2", "hue"] (fun _ => rfl) (fun _ => rfl) (fun h vals p => by obtain ⟨v1, v2, v3, rfl⟩ := p.s3; rfl) rfl (by rfl) (by decide) (by decide) ?_
  intro L c s₁ hr I
  dsimp only [List.zip, List.zipWith] at I
  refine x_assign I (by tm_at "ev") (.inl rfl) fun s₂ I₂ => ?_
  clear I
  refine x_if I₂ (by tm_at "tr") (fun b1 s₃ I₃ => ?_) (fun b1 s₃ I₃ => ?_)
  · refine x_ret I₃ (EV.cast (by tm_at "ev") (by unfold vF; simp only [b1, cond_true])) fun v s' k p => ret_mk k p
  refine x_nil (x_if I₃ (by tm_at "tr") (fun b2 s₃ I₃ => ?_) (fun b2 s₃ I₃ => ?_))
  · refine x_ret I₃ (EV.cast (by tm_at "ev") (by unfold vF; simp only [b1, b2, cond_true, cond_false])) fun v s' k p => ret_mk k p
  refine x_nil (x_if I₃ (by tm_at "tr") (fun b3 s₃ I₃ => ?_) (fun b3 s₃ I₃ => ?_))
  · refine x_ret I₃ (EV.cast (by tm_at "ev") (by unfold vF; simp only [b1, b2, b3, cond_true, cond_false])) fun v s' k p => ret_mk k p
  · exact x_nil (x_ret I₃ (EV.cast (by tm_at "ev") (by unfold vF; simp only [b1, b2, b3, cond_false])) fun v s' k p => ret_mk k p)

noncomputable abbrev fAdd := Float64.add
noncomputable abbrev fSub := Float64.sub
noncomputable abbrev fMul := Float64.mul
noncomputable abbrev fDiv := Float64.div
noncomputable def fMod1 (x : UInt64) : UInt64 := (Float64.divmod x 4607182418800017408).snd
noncomputable def m2F (l s : UInt64) : UInt64 := bif fLe l 4602678819172646912 then fMul l (fAdd 4607182418800017408 s) else fSub (fAdd l s) (fMul l s)
noncomputable def hlsF (h l s : UInt64) : UInt64 × UInt64 × UInt64 :=
  bif fEq s 0 then (l, l, l) else
    (vF (fSub (fMul 4611686018427387904 l) (m2F l s)) (m2F l s) (fAdd h 4599676419421066581), vF (fSub (fMul 4611686018427387904 l) (m2F l s)) (m2F l s) h, vF (fSub (fMul 4611686018427387904 l) (m2F l s)) (m2F l s) (fSub h 4599676419421066581))

local macro_rules | `(tactic| tm_at "spec") => `(tactic| exact v_spec _ _ _)
theorem hls_spec (h l s : UInt64) : Spec 2 28 [TFlt h, TFlt l, TFlt s] (T3 (hlsF h l s)) := by
  refine spec_of ["h", "l", "s"] (fun _ => rfl) (fun _ => rfl) (fun h vals p => by obtain ⟨v1, v2, v3, rfl⟩ := p.s3; rfl) rfl (by rfl) (by decide) (by decide) ?_
  intro L c s₁ hr I
  dsimp only [List.zip, List.zipWith] at I
  refine x_if I (by tm_at "tr") (fun b1 s₃ I₃ => ?_) (fun b1 s₃ I₃ => x_nil ?_)
  · refine x_ret I₃ (EV.cast (by tm_at "ev") (by unfold hlsF T3; simp only [b1, cond_true])) fun v s' k p => ret_mk k p
  refine x_ifv "m2" (TFlt (m2F l s)) I₃ (by tm_at "tr") (fun b2 s₃ I₃ => ?_) (fun b2 s₃ I₃ => ?_) fun s₄ I₄ => ?_
  · exact x_assign I₃ (EV.cast (by tm_at "ev") (by unfold m2F; simp only [b2, cond_true])) (.inl rfl) fun s₄ I₄ => x_done I₄
  · exact x_assign I₃ (EV.cast (by tm_at "ev") (by unfold m2F; simp only [b2, cond_false])) (.inl rfl) fun s₄ I₄ => x_done I₄
  refine x_assign I₄ (by tm_at "ev") (.inl rfl) fun s₅ I₅ => ?_
  exact x_ret I₅ (EV.cast (by tm_at "ev") (by unfold hlsF T3; simp only [b1, cond_false])) fun v s' k p => ret_mk k p

noncomputable def hsvF (h s v : UInt64) (i : Int) : UInt64 × UInt64 × UInt64 :=
  bif fEq s 0 then (v, v, v) else
    let f := fSub (fMul h 4618441417868443648) (Float64.ofInt i)
    let p := fMul v (fSub 4607182418800017408 s)
    let q := fMul v (fSub 4607182418800017408 (fMul s f))
    let t := fMul v (fSub 4607182418800017408 (fMul s (fSub 4607182418800017408 f)))
    bif i.fmod 6 == 0 then (v, t, p) else bif i.fmod 6 == 1 then (q, v, p) else bif i.fmod 6 == 2 then (p, v, t) else bif i.fmod 6 == 3 then (p, q, v) else bif i.fmod 6 == 4 then (t, p, v) else (v, p, q)

theorem hsv_spec {h s v : UInt64} {i : Int} (hi : fInt (fMul h 4618441417868443648) = some i) (hb : Sml i) : Spec 1 42 [TFlt h, TFlt s, TFlt v] (T3 (hsvF h s v i)) := by
  refine spec_of ["h", "s", "v"] (fun _ => rfl) (fun _ => rfl) (fun h vals p => by obtain ⟨v1, v2, v3, rfl⟩ := p.s3; rfl) rfl (by rfl) (by decide) (by decide) ?_
  intro L c s₁ hr I
  dsimp only [List.zip, List.zipWith] at I
  refine x_if I (by tm_at "tr") (fun b1 s₃ I₃ => ?_) (fun b1 s₃ I₃ => x_nil ?_)
  · refine x_ret I₃ (EV.cast (by tm_at "ev") (by unfold hsvF T3; simp only [b1, cond_true])) fun v s' k p => ret_mk k p
  clear I
  refine x_assign I₃ (by tm_at "ev") (.inl rfl) fun s₅ I₅ => ?_
  refine x_assign I₅ (by tm_at "ev") (.inl rfl) fun s₅ I₅ => ?_
  refine x_assign I₅ (by tm_at "ev") (.inl rfl) fun s₅ I₅ => ?_
  refine x_assign I₅ (by tm_at "ev") (.inl rfl) fun s₅ I₅ => ?_
  refine x_assign I₅ (by tm_at "ev") (.inl rfl) fun s₅ I₅ => ?_
  refine x_assign I₅ (by tm_at "ev") (.inl rfl) fun s₅ I₅ => ?_
  refine x_if I₅ (by tm_at "tr") (fun c1 s₃ I₃ => x_ret I₃ (EV.cast (by tm_at "ev") (by unfold hsvF T3; simp only [b1, c1, cond_false, cond_true])) fun v s' k p => ret_mk k p) (fun c1 s₃ I₃ => x_nil ?_)
  refine x_if I₃ (by tm_at "tr") (fun c2 s₃ I₃ => x_ret I₃ (EV.cast (by tm_at "ev") (by unfold hsvF T3; simp only [b1, c1, c2, cond_false, cond_true])) fun v s' k p => ret_mk k p) (fun c2 s₃ I₃ => x_nil ?_)
  refine x_if I₃ (by tm_at "tr") (fun c3 s₃ I₃ => x_ret I₃ (EV.cast (by tm_at "ev") (by unfold hsvF T3; simp only [b1, c1, c2, c3, cond_false, cond_true])) fun v s' k p => ret_mk k p) (fun c3 s₃ I₃ => x_nil ?_)
  refine x_if I₃ (by tm_at "tr") (fun c4 s₃ I₃ => x_ret I₃ (EV.cast (by tm_at "ev") (by unfold hsvF T3; simp only [b1, c1, c2, c3, c4, cond_false, cond_true])) fun v s' k p => ret_mk k p) (fun c4 s₃ I₃ => x_nil ?_)
  refine x_if I₃ (by tm_at "tr") (fun c5 s₃ I₃ => x_ret I₃ (EV.cast (by tm_at "ev") (by unfold hsvF T3; simp only [b1, c1, c2, c3, c4, c5, cond_false, cond_true])) fun v s' k p => ret_mk k p) (fun c5 s₃ I₃ => x_nil ?_)
  refine x_if I₃ (by tm_at "tr") (fun c6 s₃ I₃ => x_ret I₃ (EV.cast (by tm_at "ev") (by unfold hsvF T3; simp only [b1, c1, c2, c3, c4, c5, cond_false])) fun v s' k p => ret_mk k p) (fun c6 s₃ I₃ => ?_)
  exfalso
  rw [Int.fmod_eq_emod_of_nonneg _ (by decide)] at c1 c2 c3 c4 c5 c6
  simp only [beq_eq_false_iff_ne] at c1 c2 c3 c4 c5 c6
  omega

noncomputable def lF (r g b : UInt64) : UInt64 := fDiv (fAdd (mx3 r g b) (mn3 r g b)) 4611686018427387904
noncomputable def sF (r g b : UInt64) : UInt64 := bif fLe (lF r g b) 4602678819172646912 then fDiv (fSub (mx3 r g b) (mn3 r g b)) (fAdd (mx3 r g b) (mn3 r g b)) else fDiv (fSub (mx3 r g b) (mn3 r g b)) (fSub (fSub 4611686018427387904 (mx3 r g b)) (mn3 r g b))
noncomputable def kF (x r g b : UInt64) : UInt64 := fDiv (fSub (mx3 r g b) x) (fSub (mx3 r g b) (mn3 r g b))
noncomputable def h0F (r g b : UInt64) : UInt64 := bif fEq r (mx3 r g b) then fSub (kF b r g b) (kF g r g b) else bif fEq g (mx3 r g b) then fSub (fAdd 4611686018427387904 (kF r r g b)) (kF b r g b) else fSub (fAdd 4616189618054758400 (kF g r g b)) (kF r r g b)
noncomputable def rgbF (r g b : UInt64) : UInt64 × UInt64 × UInt64 :=
  bif fEq (mn3 r g b) (mx3 r g b) then (0, lF r g b, 0) else ((Float64.divmod (fDiv (h0F r g b) 4618441417868443648) 4607182418800017408).snd, lF r g b, sF r g b)

theorem rgb_spec {r g b : UInt64} (z1 : ¬ Float64.isZero (fSub (mx3 r g b) (mn3 r g b)) = true) (z2 : ¬ Float64.isZero (fAdd (mx3 r g b) (mn3 r g b)) = true)
    (z3 : ¬ Float64.isZero (fSub (fSub 4611686018427387904 (mx3 r g b)) (mn3 r g b)) = true ∨ fLe (lF r g b) 4602678819172646912 = true) : Spec 1 21 [TFlt r, TFlt g, TFlt b] (T3 (rgbF r g b)) := by
  refine spec_of ["r", "g", "b"] (fun _ => rfl) (fun _ => rfl) (fun h vals p => by obtain ⟨v1, v2, v3, rfl⟩ := p.s3; rfl) rfl (by rfl) (by decide) (by decide) ?_
  intro L c s₁ hr I
  dsimp only [List.zip, List.zipWith] at I
  refine x_assign I (by tm_at "ev") (.inl rfl) fun s₅ I₅ => ?_
  refine x_assign I₅ (by tm_at "ev") (.inl rfl) fun s₅ I₅ => ?_
  refine x_assign I₅ (by tm_at "ev") (.inl rfl) fun s₅ I₅ => ?_
  refine x_assign I₅ (by tm_at "ev") (.inl rfl) fun s₅ I₅ => ?_
  refine x_assign I₅ (by tm_at "ev") (.inl rfl) fun s₅ I₅ => ?_
  refine x_if I₅ (by tm_at "tr") (fun b1 s₃ I₃ => x_ret I₃ (EV.cast (by tm_at "ev") (by unfold rgbF T3; simp only [b1, cond_true]; rfl)) fun v s' k p => ret_mk k p) (fun b1 s₃ I₃ => x_nil ?_)
  refine x_ifv "s" (TFlt (sF r g b)) I₃ (by tm_at "tr") (fun b2 s₃ I₃ => ?_) (fun b2 s₃ I₃ => ?_) fun s₄ I₄ => ?_
  · exact x_assign I₃ (EV.cast (by tm_at "ev") (by unfold sF lF; simp only [b2, cond_true])) (.inl rfl) fun s₄ I₄ => x_done I₄
  · have z4 := z3.resolve_right (by rw [show fLe (lF r g b) 4602678819172646912 = false from b2]; exact Bool.false_ne_true)
    exact x_assign I₃ (EV.cast (by tm_at "ev") (by unfold sF lF; simp only [b2, cond_false])) (.inl rfl) fun s₄ I₄ => x_done I₄
  refine x_assign I₄ (EV.cast (T' := TFlt (kF r r g b)) (by tm_at "ev") (by rfl)) (.inl rfl) fun s₅ I₅ => ?_
  refine x_assign I₅ (EV.cast (T' := TFlt (kF g r g b)) (by tm_at "ev") (by rfl)) (.inl rfl) fun s₅ I₅ => ?_
  refine x_assign I₅ (EV.cast (T' := TFlt (kF b r g b)) (by tm_at "ev") (by rfl)) (.inl rfl) fun s₅ I₅ => ?_
  refine x_ifv "h" (TFlt (h0F r g b)) I₅ (by tm_at "tr") (fun b3 s₃ I₃ => ?_) (fun b3 s₃ I₃ => ?_) fun s₆ I₆ => ?_
  · exact x_assign I₃ (EV.cast (by tm_at "ev") (by unfold h0F; simp only [b3, cond_true])) (.inl rfl) fun s₄ I₄ => x_done I₄
  · refine x_ifv "h" (TFlt (h0F r g b)) I₃ (by tm_at "tr") (fun b4 s₃ I₃ => ?_) (fun b4 s₃ I₃ => ?_) fun s₆ I₆ => x_done I₆
    · exact x_assign I₃ (EV.cast (by tm_at "ev") (by unfold h0F; simp only [b3, b4, cond_true, cond_false])) (.inl rfl) fun s₄ I₄ => x_done I₄
    · exact x_assign I₃ (EV.cast (by tm_at "ev") (by unfold h0F; simp only [b3, b4, cond_false])) (.inl rfl) fun s₄ I₄ => x_done I₄
  refine x_assign I₆ (by tm_at "ev") (.inl rfl) fun s₅ I₅ => ?_
  exact x_ret I₅ (EV.cast (by tm_at "ev") (by unfold rgbF T3; simp only [b1, cond_false]; rfl)) fun v s' k p => ret_mk k p



local macro_rules | `(tactic| tm_at "spec") => `(tactic| first | exact hsv_spec (by assumption) (by assumption) | exact rgb_spec (by assumption) (by assumption) (by assumption))
noncomputable def seenF (n : Int) (sh lv : UInt64) (i : Int) : UInt64 × UInt64 × UInt64 := rgbF (hsvF (iDiv n 8) sh lv i).1 (hsvF (iDiv n 8) sh lv i).2.1 (hsvF (iDiv n 8) sh lv i).2.2
structure SeenOk (n : Int) (sh lv : UInt64) (i : Int) : Prop where
  hn : Sml n
  hi : fInt (fMul (iDiv n 8) 4618441417868443648) = some i
  hb : Sml i
  z1 : ¬ Float64.isZero (fSub (mx3 (hsvF (iDiv n 8) sh lv i).1 (hsvF (iDiv n 8) sh lv i).2.1 (hsvF (iDiv n 8) sh lv i).2.2) (mn3 (hsvF (iDiv n 8) sh lv i).1 (hsvF (iDiv n 8) sh lv i).2.1 (hsvF (iDiv n 8) sh lv i).2.2)) = true
  z2 : ¬ Float64.isZero (fAdd (mx3 (hsvF (iDiv n 8) sh lv i).1 (hsvF (iDiv n 8) sh lv i).2.1 (hsvF (iDiv n 8) sh lv i).2.2) (mn3 (hsvF (iDiv n 8) sh lv i).1 (hsvF (iDiv n 8) sh lv i).2.1 (hsvF (iDiv n 8) sh lv i).2.2)) = true
  z3 : ¬ Float64.isZero (fSub (fSub 4611686018427387904 (mx3 (hsvF (iDiv n 8) sh lv i).1 (hsvF (iDiv n 8) sh lv i).2.1 (hsvF (iDiv n 8) sh lv i).2.2)) (mn3 (hsvF (iDiv n 8) sh lv i).1 (hsvF (iDiv n 8) sh lv i).2.1 (hsvF (iDiv n 8) sh lv i).2.2)) = true ∨ fLe (lF (hsvF (iDiv n 8) sh lv i).1 (hsvF (iDiv n 8) sh lv i).2.1 (hsvF (iDiv n 8) sh lv i).2.2) 4602678819172646912 = true
theorem seen_spec {n : Int} {sh lv : UInt64} {i : Int} (O : SeenOk n sh lv i) : Spec 2 91 [TInt n, TFlt sh, TFlt lv] (T3 (seenF n sh lv i)) := by
  obtain ⟨hn, hi, hb, z1, z2, z3⟩ := O
  refine spec_of ["hue", "share", "level"] (fun _ => rfl) (fun _ => rfl) (fun h vals p => by obtain ⟨v1, v2, v3, rfl⟩ := p.s3; rfl) rfl (by rfl) (by decide) (by decide) ?_
  intro L c s₁ hr I
  dsimp only [List.zip, List.zipWith] at I
  refine x_unpack I (by tm_at "ev") (.cons (.cons (.cons .nil))) rfl (by intro x hx; simp at hx; rcases hx with rfl | rfl | rfl <;> exact .inl rfl) fun s₂ I₂ => ?_
  dsimp only [addAll] at I₂
  exact x_ret I₂ (by tm_at "ev") fun v s' k p => ret_mk k p

theorem sign_spec {r : UInt64 × UInt64 × UInt64} {a b d : Int} (h1 : fInt (fAdd (fMul r.1 (Float64.ofInt 32)) 4602678819172646912) = some a) (h2 : fInt (fAdd (fMul r.2.1 (Float64.ofInt 32)) 4602678819172646912) = some b) (h3 : fInt (fAdd (fMul r.2.2 (Float64.ofInt 32)) 4602678819172646912) = some d)
    (ha : 0 ≤ a ∧ a ≤ 100) (hb : 0 ≤ b ∧ b ≤ 100) (hd : 0 ≤ d ∧ d ≤ 100) : Spec 1 96 [T3 r] (TStr ⟨#[(65 + a * 1089 + b * 33 + d).toNat]⟩) := by
  refine spec_of ["parts"] (fun _ => rfl) (fun _ => rfl) (fun h vals p => by obtain ⟨v1, rfl⟩ := p.s1; rfl) rfl (by rfl) (by decide) (by decide) ?_
  intro L c s₁ hr I
  dsimp only [List.zip, List.zipWith] at I
  refine x_unpackL I (Ts := [TInt a, TInt b, TInt d]) (ev_comp (Us := [(r.1, a), (r.2.1, b), (r.2.2, d)].map fun x => some (TInt x.2)) (Ts := [(r.1, a), (r.2.1, b), (r.2.2, d)].map fun x => TFlt x.1) (Γc := [])
    ⟨ev_name (by rfl), itr_tup, rfl, rfl, rfl, trivial, by decide, by decide, fun _ _ => rfl, rfl, Nat.le_of_ble_eq_true rfl, turns_map fun x hx c' C Y' hr' hC hY => ?_⟩) (.cons (.cons (.cons .nil))) rfl (by intro x hx; simp at hx; rcases hx with rfl | rfl | rfl <;> exact .inl rfl) fun s₂ I₂ => ?_
  · have hx' : fInt (fAdd (fMul x.1 (Float64.ofInt 32)) 4602678819172646912) = some x.2 := by
      simp at hx; rcases hx with rfl | rfl | rfl <;> assumption
    exact ⟨_, true, asg_name (.inl rfl), sub_cons rfl, trs_nil, rfl, by tm_at "ev"⟩
  · dsimp only [addAll] at I₂
    exact x_ret I₂ (by tm_at "ev") fun v s' k p => ret_mk k p



theorem EV.castL {c : Cx} {F : Fx} {Γ : Gam} {Ω : Own} {e : Expr} {T T' : Ty} (h : EV c F Γ Ω e T) (q : T = T') : EV c F Γ Ω e T' := q ▸ h
theorem mem_rngL {a b k : Int} (h : k ∈ rngL a b) : a ≤ k ∧ k < b := by
  unfold rngL at h
  obtain ⟨i, hi, rfl⟩ := List.mem_map.mp h
  have := List.mem_range.mp hi
  omega

theorem cases4 {k : Int} (h0 : 0 ≤ k) (h4 : k < 4) : k = 0 ∨ k = 1 ∨ k = 2 ∨ k = 3 := by omega
noncomputable def cutL (d n : Int) : List Int := (rngL 0 4).map fun k => min ((d.fdiv (7 ^ k.toNat)).fmod 7) n
noncomputable def bkF (j : Int) : Int := if j = 2 then 1 else if j = 3 then 2 else 0
noncomputable def cribQ (d : Int) (pl : List Int) (q0 q1 q2 q3 : Int) : List Int :=
  pl.take q0.toNat ++ [-1] ++ (pl.take q2.toNat).drop q1.toNat ++ [-1] ++ pl.drop (max (q3 - bkF ((d.fdiv 2401).fmod 4)) 0).toNat
noncomputable def cribF (d : Int) (pl : List Int) : List Int := match srt (cutL d pl.length) with
  | [q0, q1, q2, q3] => cribQ d pl q0 q1 q2 q3
  | _ => []

theorem fmod_bd (a : Int) {b : Int} (hb : 0 < b) : 0 ≤ a.fmod b ∧ a.fmod b < b := by
  rw [Int.fmod_eq_emod_of_nonneg _ (Int.le_of_lt hb)]
  exact ⟨Int.emod_nonneg _ (by omega), Int.emod_lt_of_pos _ hb⟩

theorem srt_four (d n : Int) (hn : 0 ≤ n) : ∃ q0 q1 q2 q3, srt (cutL d n) = [q0, q1, q2, q3] ∧ 0 ≤ q0 ∧ 0 ≤ q1 ∧ 0 ≤ q2 ∧ 0 ≤ q3 ∧ q0 ≤ n ∧ q1 ≤ n ∧ q2 ≤ n ∧ q3 ≤ n ∧ q0 ≤ q1 ∧ q1 ≤ q2 ∧ q2 ≤ q3 := by
  have hp : (srt (cutL d n)).Perm (cutL d n) := List.mergeSort_perm _ _
  have hs := List.pairwise_mergeSort (le := fun a b : Int => decide (a ≤ b)) (fun a b c h h' => by simp only [decide_eq_true_eq] at *; omega) (fun a b => by simp only [Bool.or_eq_true, decide_eq_true_eq]; omega) (cutL d n)
  have hl : (srt (cutL d n)).length = 4 := by rw [hp.length_eq]; rfl
  have hb : ∀ q ∈ srt (cutL d n), 0 ≤ q ∧ q ≤ n := fun q hq => by
    have := hp.mem_iff.mp hq
    obtain ⟨k, _, rfl⟩ := List.mem_map.mp this
    have := fmod_bd (d.fdiv (7 ^ k.toNat)) (b := 7) (by decide)
    omega
  have hs' : (srt (cutL d n)).Pairwise (· ≤ ·) := hs.imp fun h => of_decide_eq_true h
  match hm : srt (cutL d n), hl with
  | [q0, q1, q2, q3], _ =>
    rw [hm] at hb hs'
    have h0 := hb q0 (by simp)
    have h1 := hb q1 (by simp)
    have h2 := hb q2 (by simp)
    have h3 := hb q3 (by simp)
    simp only [List.pairwise_cons, List.mem_cons, List.not_mem_nil, or_false, forall_eq_or_imp, forall_eq] at hs'
    exact ⟨q0, q1, q2, q3, rfl, h0.1, h1.1, h2.1, h3.1, h0.2, h1.2, h2.2, h3.2, hs'.1.1, hs'.2.1.1, hs'.2.2.1⟩

theorem crib_spec {d : Int} {pl : List Int} (hl : pl.length ≤ 6) : Spec 1 101 [TInt d, TList (pl.map TInt)] (TList ((cribF d pl).map TInt)) := by
  refine spec_of ["d", "plain"] (fun _ => rfl) (fun _ => rfl) (fun h vals p => by obtain ⟨v1, v2, rfl⟩ := p.s2; rfl) rfl (by rfl) (by decide) (by decide) ?_
  intro L c s₁ hr I
  dsimp only [List.zip, List.zipWith] at I
  obtain ⟨q0, q1, q2, q3, hq, h0, h1, h2, h3, -⟩ := srt_four d pl.length (by omega)
  have hlen : (pl.map TInt).length ≤ 4096 := by rw [List.length_map]; omega
  refine x_assign I (T := TList [TInt q0, TInt q1, TInt q2, TInt q3]) (EV.castL (ev_bfb bi_sorted rfl (evs_cons (ev_compI (rngL 0 4) TInt (fun k => min ((d.fdiv (7 ^ k.toNat)).fmod 7) pl.length) (Γc := [("d", TInt d), ("plain", TList (pl.map TInt))])
    ⟨by tm_at "ev", itr_rng (by omega) (by omega), rfl, rfl, rfl, ⟨⟨rfl, .inl rfl, ⟨_, rfl⟩, .inl rfl⟩, ⟨rfl, .inl rfl, ⟨_, rfl⟩, .inl rfl⟩, trivial⟩, by decide, by decide, fun _ _ => rfl, by rw [List.length_map, List.length_map], Nat.le_of_ble_eq_true rfl, turns_map fun k hk c' C Y' hr' hC hY => ?_⟩) evs_nil rfl) rfl (f_sorted (show (4 : Nat) < 64 by decide))) ?_) (.inl rfl) fun s₂ I₂ => ?_
  · have hk' := mem_rngL hk
    have k0 : 0 ≤ k := hk'.1
    have k1 : (Builtin.Int.intBits 7 : Int) * k ≤ 2 ^ 27 := by
      rw [show Builtin.Int.intBits 7 = 3 by decide +kernel]; omega
    have hk4 := cases4 hk'.1 hk'.2
    have k2 : (7 : Int) ^ k.toNat ≠ 0 := by rcases hk4 with rfl | rfl | rfl | rfl <;> decide
    have k3 : ((7 : Int) ^ k.toNat).natAbs < 1073741824 := by rcases hk4 with rfl | rfl | rfl | rfl <;> decide
    exact ⟨_, true, asg_name (.inl rfl), sub_cons rfl, trs_nil, rfl, EV.castL (by tm_at "ev") (by rw [List.length_map])⟩
  · show TList ((srt (cutL d pl.length)).map TInt) = _
    rw [hq]; rfl
  have hj := fmod_bd (d.fdiv 2401) (b := 4) (by decide)
  have hj0 := hj.1
  have hjx : [TInt 0, TInt 0, TInt 1, TInt 2][((d.fdiv 2401).fmod 4).toNat]? = some (TInt (bkF ((d.fdiv 2401).fmod 4))) := by
    generalize (d.fdiv 2401).fmod 4 = j at *
    have := cases4 hj.1 hj.2
    rcases this with rfl | rfl | rfl | rfl <;> rfl
  refine x_assign I₂ (by tm_at "ev") (.inl rfl) fun s₃ I₃ => ?_
  have hm : 0 ≤ max (q3 - bkF ((d.fdiv 2401).fmod 4)) 0 := Int.le_max_right _ _
  have lt : ∀ k : Nat, ((pl.map TInt).take k).length ≤ 6 := fun k => Nat.le_trans (List.take_sublist _ _).length_le (by rw [List.length_map]; exact hl)
  have ld : ∀ k j : Nat, (((pl.map TInt).take k).drop j).length ≤ 6 := fun k j => Nat.le_trans (List.drop_sublist _ _).length_le (lt k)
  have le : ∀ k : Nat, ((pl.map TInt).drop k).length ≤ 6 := fun k => Nat.le_trans (List.drop_sublist _ _).length_le (by rw [List.length_map]; exact hl)
  have z1 : ((pl.map TInt).take q0.toNat).length + [TInt (-1)].length ≤ 4096 := Nat.le_trans (Nat.add_le_add (lt _) (Nat.le_refl 1)) (by decide)
  have z2 : ((pl.map TInt).take q0.toNat ++ [TInt (-1)]).length ≤ 7 := by rw [List.length_append]; exact Nat.add_le_add (lt _) (Nat.le_refl 1)
  have z3 : ((pl.map TInt).take q0.toNat ++ [TInt (-1)]).length + (((pl.map TInt).take q2.toNat).drop q1.toNat).length ≤ 4096 := Nat.le_trans (Nat.add_le_add z2 (ld _ _)) (by decide)
  have z4 : ((pl.map TInt).take q0.toNat ++ [TInt (-1)] ++ ((pl.map TInt).take q2.toNat).drop q1.toNat).length ≤ 13 := by rw [List.length_append]; exact Nat.add_le_add z2 (ld _ _)
  have z5 : ((pl.map TInt).take q0.toNat ++ [TInt (-1)] ++ ((pl.map TInt).take q2.toNat).drop q1.toNat).length + [TInt (-1)].length ≤ 4096 := Nat.le_trans (Nat.add_le_add z4 (Nat.le_refl 1)) (by decide)
  have z6 : ((pl.map TInt).take q0.toNat ++ [TInt (-1)] ++ ((pl.map TInt).take q2.toNat).drop q1.toNat ++ [TInt (-1)]).length ≤ 14 := by rw [List.length_append]; exact Nat.add_le_add z4 (Nat.le_refl 1)
  have z7 : ((pl.map TInt).take q0.toNat ++ [TInt (-1)] ++ ((pl.map TInt).take q2.toNat).drop q1.toNat ++ [TInt (-1)]).length + ((pl.map TInt).drop (max (q3 - bkF ((d.fdiv 2401).fmod 4)) 0).toNat).length ≤ 4096 := Nat.le_trans (Nat.add_le_add z6 (le _)) (by decide)
  refine x_ret I₃ (EV.castL (by tm_at "ev") ?_) fun v s' k p => ret_mk k p
  unfold cribF
  rw [hq]
  simp [cribQ]



noncomputable def SubAll (Γ' : Gam) : Gam → Prop
  | [] => True
  | (x, T) :: r => Γ'.lookup x = some T ∧ SubAll Γ' r
theorem SubAll.sub {Γ' : Gam} : ∀ {Γ : Gam}, SubAll Γ' Γ → ∀ x V, Γ.lookup x = some V → Γ'.lookup x = some V
  | [], _, x, V, e => by simp at e
  | (y, T) :: r, ⟨a, b⟩, x, V, e => by
    by_cases q : x = y
    · subst q; obtain rfl := lookup_eq e; exact a
    · exact b.sub x V (lookup_ne q e)

noncomputable def tkStep (row : List Int) (ps : List Int) (mark : Int) : List Int :=
  if mark = -1 then (ps.take 1).flatMap fun f => rngL f (row.length + 1) else (ps.filter fun p => decide ((row.take (p + 1).toNat).drop p.toNat = [mark])).map (· + 1)
noncomputable def takesF (crib row : List Int) : Bool := (crib.foldl (tkStep row) [0]).any (· == (row.length : Int))

theorem tk_inv {row : List Int} {ps : List Int} {m : Int} (h : (∀ p ∈ ps, 0 ≤ p ∧ p ≤ row.length) ∧ ps.length ≤ row.length + 1) : (∀ p ∈ tkStep row ps m, 0 ≤ p ∧ p ≤ row.length) ∧ (tkStep row ps m).length ≤ row.length + 1 := by
  unfold tkStep
  split
  · match ps, h with
    | [], _ => simp
    | f :: r, h =>
      have hf := h.1 f (.head _)
      simp only [List.take_succ_cons, List.take_zero, List.flatMap_cons, List.flatMap_nil, List.append_nil]
      refine ⟨fun p hp => ?_, ?_⟩
      · have := mem_rngL hp; omega
      · simp [rngL]; omega
  · refine ⟨fun p hp => ?_, ?_⟩
    · obtain ⟨q, hq, rfl⟩ := List.mem_map.mp hp
      obtain ⟨h1, h2⟩ := List.mem_filter.mp hq
      have h3 := of_decide_eq_true h2
      have h4 := congrArg List.length h3
      have := h.1 q h1
      simp at h4
      omega
    · rw [List.length_map]
      exact Nat.le_trans (List.length_filter_le _ _) h.2
theorem tk_fold {row : List Int} : ∀ (crib ps : List Int), ((∀ p ∈ ps, 0 ≤ p ∧ p ≤ row.length) ∧ ps.length ≤ row.length + 1) → (∀ p ∈ crib.foldl (tkStep row) ps, 0 ≤ p ∧ p ≤ row.length) ∧ (crib.foldl (tkStep row) ps).length ≤ row.length + 1
  | [], ps, h => h
  | m :: r, ps, h => tk_fold r _ (tk_inv h)

theorem takes_spec {crib row : List Int} (hl : row.length ≤ 6) : Spec 1 106 [TList (crib.map TInt), TList (row.map TInt)] (TBool (takesF crib row)) := by
  refine spec_of ["crib", "row"] (fun _ => rfl) (fun _ => rfl) (fun h vals p => by obtain ⟨v1, v2, rfl⟩ := p.s2; rfl) rfl (by rfl) (by decide) (by decide) ?_
  intro L c s₁ hr I
  dsimp only [List.zip, List.zipWith] at I
  have hlen : (row.map TInt).length ≤ 4096 := by rw [List.length_map]; omega
  refine x_assign I (by tm_at "ev") (.inl rfl) fun s₂ I₂ => ?_
  let tk : Nat → List Int := fun i => (crib.take i).foldl (tkStep row) [0]
  have htk : ∀ i, (∀ p ∈ tk i, 0 ≤ p ∧ p ≤ row.length) ∧ (tk i).length ≤ row.length + 1 := fun i => tk_fold _ _ (by simp)
  refine x_for (fun i => [("places", TList ((tk i).map TInt)), ("crib", TList (crib.map TInt)), ("row", TList (row.map TInt))]) (fun _ => []) I₂ (by tm_at "ev") itr_list (fun _ => rfl) (fun i U hU b wr ob E' => ?_) fun s₃ I₃ => ?_
  · rw [List.getElem?_map] at hU
    obtain ⟨m, hm, rfl⟩ := Option.map_eq_some_iff.mp hU
    refine ⟨_, asg_name (.inr ⟨rfl, _, rfl, ?_⟩), fun s₄ I₄ => ?_⟩
    · exact List.mem_append_right _ (by simp [cellsFrom])
    have hti : ((tk i).map TInt).length ≤ 4096 := by have := (htk i).2; rw [List.length_map]; omega
    have hstep : tk (i + 1) = tkStep row (tk i) m := by
      show (crib.take (i + 1)).foldl _ _ = _
      rw [List.take_add_one, hm, List.foldl_append]; rfl
    refine x_if (c := { c with s₀ := b }) I₄ (by tm_at "tr") (fun hb s₅ I₅ => ?_) (fun hb s₅ I₅ => ?_)
    · have hm1 : m = -1 := by simpa using hb
      have e1 : ((tk i).map TInt).take (1 : Int).toNat = ((tk i).take 1).map TInt := by rw [List.map_take]; rfl
      have e2 : (((tk i).take 1).map fun f => (rngL f (row.length + 1)).map TInt).flatten = (tk (i + 1)).map TInt := by
        rw [hstep, tkStep, if_pos hm1, List.map_flatMap, List.flatMap_def]
      have hps : ∀ f ∈ (tk i).take 1, 0 ≤ f ∧ f ≤ row.length := fun f hf => (htk i).1 f (List.mem_of_mem_take hf)
      refine x_comp2 (c := { c with s₀ := b }) (Γc := [("row", TList (row.map TInt))]) (Ts := ((tk i).take 1).map TInt) (Zs := ((tk i).take 1).map fun f => (rngL f (row.length + 1)).map TInt) I₅ ⟨EV.castL (T' := TList (((tk i).take 1).map TInt)) (by tm_at "ev") (by rw [e1]), itr_list, rfl, rfl, rfl, ⟨⟨rfl, .inl rfl, ⟨_, rfl⟩, .inl rfl⟩, trivial⟩, by decide, by decide, fun _ _ => rfl, by simp, ?_, ?_⟩ rfl rfl rfl fun s₆ I₆ => ?_
      · rw [e2, List.length_map]; have := (htk (i + 1)).2; omega
      · intro j T Z hT hZ c' C Y' hr' hC hY
        rw [List.getElem?_map] at hT hZ
        cases e : ((tk i).take 1)[j]? with
        | none => rw [e] at hT; cases hT
        | some f =>
          rw [e] at hT hZ
          cases hT; cases hZ
          have hf := hps f (List.mem_of_getElem? e)
          refine ⟨_, TRng f (row.length + 1), (rngL f (row.length + 1)).map TInt, asg_name (.inl rfl), sub_cons rfl, EV.castL (by tm_at "ev") (by rw [List.length_map]), itr_rng (by omega) (by omega), rfl, ?_, fun _ => rfl, ?_⟩
          · simp [rngL]; omega
          · intro l T U hT hU Y'
            rw [hT] at hU; cases hU
            rw [List.getElem?_map] at hT
            obtain ⟨e', he', rfl⟩ := Option.map_eq_some_iff.mp hT
            exact ⟨_, asg_name (.inl rfl), sub_cons rfl, by tm_at "ev"⟩
      · rw [e2] at I₆
        exact x_nil (wpAny_execs_nil (I₆.sub (SubAll.sub (Γ := [("places", TList ((tk (i + 1)).map TInt)), ("crib", TList (crib.map TInt)), ("row", TList (row.map TInt))]) ⟨rfl, rfl, rfl, trivial⟩)))
    · have hm1 : ¬ m = -1 := by simpa using hb
      have e2 : ((tk i).filterMap fun p => if (row.take (p + 1).toNat).drop p.toNat = [m] then some (TInt (p + 1)) else none) = (tk (i + 1)).map TInt := by
        rw [hstep, tkStep, if_neg hm1]
        generalize tk i = ps
        induction ps with
        | nil => rfl
        | cons p r ih => by_cases hp : (row.take (p + 1).toNat).drop p.toNat = [m] <;> simp [hp, ih]
      refine x_compF (c := { c with s₀ := b }) (tk i) TInt (fun p => if (row.take (p + 1).toNat).drop p.toNat = [m] then some (TInt (p + 1)) else none) (Γc := [("row", TList (row.map TInt)), ("mark", TInt m)]) I₅ ⟨by tm_at "ev", itr_list, rfl, rfl, rfl, ⟨⟨rfl, .inl rfl, ⟨_, rfl⟩, .inl rfl⟩, ⟨rfl, .inl rfl, ⟨_, rfl⟩, .inl rfl⟩, trivial⟩, by decide, by decide, fun _ _ => rfl, by simp, hti, turns_map fun p hp c' C Y' hr' hC hY => ?_⟩ rfl rfl rfl fun s₆ I₆ => ?_
      · have hp0 : 0 ≤ p := ((htk i).1 p hp).1
        have hp1 : 0 ≤ p + 1 := by omega
        refine ⟨_, decide ((row.take (p + 1).toNat).drop p.toNat = [m]), asg_name (.inl rfl), sub_cons rfl, trs_one (tr_cmp (T1 := TList (((row.take (p + 1).toNat).drop p.toNat).map TInt)) (T2 := TList ([m].map TInt)) (EV.castL (by tm_at "ev") (by rw [List.map_drop, List.map_take])) (EV.castL (by tm_at "ev") (show TList [TInt m] = _ from rfl)) op_eq_ll (by with_unfolding_all rfl)), ?_⟩
        by_cases hc : (row.take (p + 1).toNat).drop p.toNat = [m]
        · rw [if_pos hc]
          exact ⟨decide_eq_true hc, by tm_at "ev"⟩
        · rw [if_neg hc]
          exact decide_eq_false hc
      · rw [e2] at I₆
        exact x_nil (wpAny_execs_nil (I₆.sub (SubAll.sub (Γ := [("places", TList ((tk (i + 1)).map TInt)), ("crib", TList (crib.map TInt)), ("row", TList (row.map TInt))]) ⟨rfl, rfl, rfl, trivial⟩)))
  · refine x_ret I₃ (EV.castL (by tm_at "ev") ?_) fun v s' k p => ret_mk k p
    simp only [takesF, tk, List.length_map, List.take_length]



noncomputable abbrev TCrib (p : Int × List Int) : Ty := TTup [TInt p.1, TList (p.2.map TInt)]
noncomputable def turnF (row : List Int) (key : Int) : List Int := row.map fun hue => (hue - key).fmod 8
noncomputable def wtF (cribs : List (Int × List Int)) (row : List Int) (key : Int) : List Int := (cribs.filter fun p => takesF p.2 (turnF row key)).map (·.1)
noncomputable def dueStep (cribs : List (Int × List Int)) (row : List Int) (due : List (Int × Int)) (key : Int) : List (Int × Int) := if wtF cribs row key = [] then due else dput due key (wtF cribs row key).sum
noncomputable def dueF (cribs : List (Int × List Int)) (row : List Int) : List (Int × Int) := (rngL 0 8).foldl (dueStep cribs row) []

theorem wt_eq (cribs : List (Int × List Int)) (row : List Int) (k : Int) : (cribs.filterMap fun p => if takesF p.2 (turnF row k) then some (TInt p.1) else none) = (wtF cribs row k).map TInt := by
  unfold wtF
  induction cribs with
  | nil => rfl
  | cons p r ih => cases hp : takesF p.2 (turnF row k) <;> simp [hp, ih]

theorem dput_len (kvs : List (Int × Int)) (k n : Int) : (dput kvs k n).length ≤ kvs.length + 1 := by
  unfold dput
  split <;> simp
theorem due_len (cribs : List (Int × List Int)) (row : List Int) : ∀ (ks : List Int) (due : List (Int × Int)), (ks.foldl (dueStep cribs row) due).length ≤ due.length + ks.length
  | [], due => by simp
  | k :: r, due => by
    have h1 := due_len cribs row r (dueStep cribs row due k)
    have h2 : (dueStep cribs row due k).length ≤ due.length + 1 := by
      unfold dueStep
      split
      · omega
      · exact dput_len _ _ _
    simp only [List.foldl_cons, List.length_cons]
    omega

theorem due_spec {cribs : List (Int × List Int)} {row : List Int} (hl : row.length ≤ 6) (hc : cribs.length ≤ 64) : Spec 2 118 [TList (cribs.map TCrib), TList (row.map TInt)] (TDict (dueF cribs row)) := by
  refine spec_of ["cribs", "row"] (fun _ => rfl) (fun _ => rfl) (fun h vals p => by obtain ⟨v1, v2, rfl⟩ := p.s2; rfl) rfl (by rfl) (by decide) (by decide) ?_
  intro L c s₁ hr I
  dsimp only [List.zip, List.zipWith] at I
  have hlen : (row.map TInt).length ≤ 4096 := by rw [List.length_map]; omega
  have hlen2 : (cribs.map TCrib).length ≤ 4096 := by rw [List.length_map]; omega
  refine x_newdict I (.inl rfl) fun D s₂ hb hDY I₂ => ?_
  let dk : Nat → List (Int × Int) := fun i => ((rngL 0 8).take i).foldl (dueStep cribs row) []
  have hdk : ∀ i, (dk i).length ≤ 4096 := fun i => by
    have h1 := due_len cribs row ((rngL 0 8).take i) []
    have h2 : ((rngL 0 8).take i).length ≤ 8 := by rw [List.length_take]; have : (rngL 0 8).length = 8 := rfl; omega
    have h3 : (dk i).length ≤ ([] : List (Int × Int)).length + ((rngL 0 8).take i).length := h1
    simp only [List.length_nil] at h3
    omega
  refine x_for (fun i => [("due", TVal (.ref D)), ("cribs", TList (cribs.map TCrib)), ("row", TList (row.map TInt))]) (fun i => [(D, DI (dk i))]) I₂ (by tm_at "ev") (itr_rng (by omega) (by omega)) (fun _ => rfl) (fun i U hU b wr ob E' => ?_) fun s₃ I₃ => ?_
  · rw [List.getElem?_map] at hU
    obtain ⟨k, hk, rfl⟩ := Option.map_eq_some_iff.mp hU
    refine ⟨_, asg_name (slot_up (slot_more (slot_fn rfl)) fun a h => List.mem_append_right _ h), fun s₄ I₄ => ?_⟩
    have hstep : dk (i + 1) = dueStep cribs row (dk i) k := by
      show ((rngL 0 8).take (i + 1)).foldl _ _ = _
      rw [List.take_add_one, hk, List.foldl_append]; rfl
    refine x_assign (c := { c with s₀ := b }) (T := TList ((turnF row k).map TInt)) I₄ (ev_compI row TInt (fun hue => (hue - k).fmod 8) (Γc := [("key", TInt k)]) ⟨by tm_at "ev", itr_list, rfl, rfl, rfl, ⟨⟨rfl, .inl rfl, ⟨_, rfl⟩, .inl rfl⟩, trivial⟩, by decide, by decide, fun _ _ => rfl, by rw [List.length_map, List.length_map], hlen, turns_map fun x hx c' C Y' hr' hC hY => ?_⟩) (slot_up (slot_more (slot_fn rfl)) fun a h => List.mem_append_right _ h) (hs := sw_cell I₄ rfl) fun s₅ I₅ => ?_
    · exact ⟨_, true, asg_name (.inl rfl), sub_cons rfl, trs_nil, rfl, by tm_at "ev"⟩
    have htl : (turnF row k).length ≤ 6 := by unfold turnF; rw [List.length_map]; exact hl
    have e2 := wt_eq cribs row k
    refine x_compF (c := { c with s₀ := b }) cribs TCrib (fun p => if takesF p.2 (turnF row k) then some (TInt p.1) else none) (Γc := [("turned", TList ((turnF row k).map TInt))]) I₅ ⟨by tm_at "ev", itr_list, rfl, rfl, rfl, ⟨⟨rfl, .inl rfl, ⟨_, rfl⟩, .inl rfl⟩, trivial⟩, by decide, by decide, fun _ _ => rfl, by simp, hlen2, turns_map fun p hp c' C Y' hr' hC hY => ?_⟩ rfl rfl rfl fun s₆ I₆ => ?_
    · refine ⟨_, takesF p.2 (turnF row k), asg_tup (xs := ["weight", "crib"]) (.cons (.cons .nil)) rfl (fun x hx => ?_), ?_, trs_one (tr_bool (ev_fn (takes_spec htl) (hr' _ hr) gi_takes rfl (by tm_at "evs") rfl)), ?_⟩
      · rcases List.mem_cons.mp hx with rfl | hx
        · exact .inl rfl
        · obtain rfl := List.mem_singleton.mp hx
          exact .inl rfl
      · exact sub_trans (sub_cons (x := "weight") rfl) (sub_cons (x := "crib") rfl)
      · cases hp2 : takesF p.2 (turnF row k) with
        | true => rw [if_pos rfl]; exact ⟨rfl, by tm_at "ev"⟩
        | false => rw [if_neg (by decide)]
    rw [e2] at I₆
    refine x_if (c := { c with s₀ := b }) I₆ (b := !decide (wtF cribs row k = [])) (tr_cmp (T2 := TList (([] : List Int).map TInt)) (by tm_at "ev") (EV.castL (by tm_at "ev") (show TList [] = _ from rfl)) op_ne_ll (by with_unfolding_all rfl)) (fun hb s₇ I₇ => ?_) (fun hb s₇ I₇ => ?_)
    · have hb' : ¬ wtF cribs row k = [] := by simpa using hb
      have e3 : dk (i + 1) = dput (dk i) k (wtF cribs row k).sum := by rw [hstep, dueStep, if_neg hb']
      refine x_setd (c := { c with s₀ := b }) (D := D) (Ω1 := ob) (Ω2 := []) I₇ (List.mem_append_right _ (.head _)) (by tm_at "ev") (by tm_at "ev") (by tm_at "ev") (hdk i) fun s₈ I₈ => ?_
      rw [← e3] at I₈
      exact x_nil (wpAny_execs_nil (I₈.sub (SubAll.sub (Γ := [("due", TVal (.ref D)), ("cribs", TList (cribs.map TCrib)), ("row", TList (row.map TInt))]) ⟨rfl, rfl, rfl, trivial⟩)))
    · have hb' : wtF cribs row k = [] := by simpa using hb
      have e3 : dk (i + 1) = dk i := by rw [hstep, dueStep, if_pos hb']
      rw [← e3] at I₇
      exact x_nil (wpAny_execs_nil (I₇.sub (SubAll.sub (Γ := [("due", TVal (.ref D)), ("cribs", TList (cribs.map TCrib)), ("row", TList (row.map TInt))]) ⟨rfl, rfl, rfl, trivial⟩)))
  · have e4 : dk ((rngL 0 8).map TInt).length = dueF cribs row := by
      show ((rngL 0 8).take _).foldl _ _ = _
      rw [List.length_map, List.take_length]; rfl
    have I₄ := Inv.freeze (x := "due") I₃ rfl hb hDY
    rw [e4] at I₄
    exact x_ret I₄ (by tm_at "ev") fun v s' k p => ret_mk k p



noncomputable def acCopy (t : List (Int × Int)) : List (Int × Int) := t.foldl (fun d p => dput d p.1 p.2) []
noncomputable def acStep (d : List (Int × Int)) (p : Int × Int) : List (Int × Int) := match dget d p.1 with | some m => dput d p.1 (m + p.2) | none => dput d p.1 p.2
noncomputable def acF (t s : List (Int × Int)) : List (Int × Int) := s.foldl acStep (acCopy t)
theorem cp_len : ∀ (t d : List (Int × Int)), (t.foldl (fun d p => dput d p.1 p.2) d).length ≤ d.length + t.length
  | [], d => by simp
  | p :: r, d => by
    have h1 := cp_len r (dput d p.1 p.2)
    have h2 := dput_len d p.1 p.2
    simp only [List.foldl_cons, List.length_cons]
    omega
theorem st_len : ∀ (t d : List (Int × Int)), (t.foldl acStep d).length ≤ d.length + t.length
  | [], d => by simp
  | p :: r, d => by
    have h1 := st_len r (acStep d p)
    have h2 : (acStep d p).length ≤ d.length + 1 := by unfold acStep; split <;> exact dput_len _ _ _
    simp only [List.foldl_cons, List.length_cons]
    omega

theorem ac_spec {t s : List (Int × Int)} (ht : t.length ≤ 64) (hs : s.length ≤ 64) : Spec 1 84 [TDict t, TDict s] (TDict (acF t s)) := by
  refine spec_of ["target", "source"] (fun _ => rfl) (fun _ => rfl) (fun h vals p => by obtain ⟨v1, v2, rfl⟩ := p.s2; rfl) rfl (by rfl) (by decide) (by decide) ?_
  intro L c s₁ hr I
  dsimp only [List.zip, List.zipWith] at I
  refine x_newdict I (.inl rfl) fun D s₂ hb hDY I₂ => ?_
  let d1 : Nat → List (Int × Int) := fun i => (t.take i).foldl (fun d p => dput d p.1 p.2) []
  let d2 : Nat → List (Int × Int) := fun i => (s.take i).foldl acStep (acCopy t)
  have h1 : ∀ i, (d1 i).length ≤ 64 := fun i => by
    have a := cp_len (t.take i) []
    have b : (t.take i).length ≤ t.length := by rw [List.length_take]; omega
    have e : (d1 i).length ≤ ([] : List (Int × Int)).length + (t.take i).length := a
    simp only [List.length_nil] at e
    omega
  have h2 : ∀ i, (d2 i).length ≤ 4096 := fun i => by
    have a := st_len (s.take i) (acCopy t)
    have a2 := cp_len t []
    have b : (s.take i).length ≤ s.length := by rw [List.length_take]; omega
    have e : (d2 i).length ≤ (acCopy t).length + (s.take i).length := a
    have e2 : (acCopy t).length ≤ ([] : List (Int × Int)).length + t.length := a2
    simp only [List.length_nil] at e2
    omega
  refine x_items (fun i => [("new_callers", TVal (.ref D)), ("target", TDict t), ("source", TDict s)]) (fun i => [(D, DI (d1 i))]) I₂ rfl (by decide) (by decide) (by rfl) rfl (.inl rfl) (.inl rfl) (fun _ => rfl) (fun i k n hk b wr ob E' s₃ I₃ => ?_) fun s₃ I₃ => ?_
  · have hstep : d1 (i + 1) = dput (d1 i) k n := by
      show (t.take (i + 1)).foldl _ _ = _
      rw [List.take_add_one, hk, List.foldl_append]; rfl
    refine x_setd (c := { c with s₀ := b }) (D := D) (Ω1 := ob) (Ω2 := []) I₃ (List.mem_append_right _ (.head _)) (by tm_at "ev") (by tm_at "ev") (by tm_at "ev") (Nat.le_trans (h1 i) (by decide)) fun s₈ I₈ => ?_
    rw [← hstep] at I₈
    exact wpAny_execs_nil (I₈.sub (SubAll.sub (Γ := [("new_callers", TVal (.ref D)), ("target", TDict t), ("source", TDict s)]) ⟨rfl, rfl, rfl, trivial⟩))
  · have e1 : d1 t.length = d2 0 := by
      show (t.take t.length).foldl _ _ = acCopy t
      rw [List.take_length]; rfl
    rw [e1] at I₃
    refine x_items (fun i => [("new_callers", TVal (.ref D)), ("target", TDict t), ("source", TDict s)]) (fun i => [(D, DI (d2 i))]) I₃ rfl (by decide) (by decide) (by rfl) rfl (.inl rfl) (.inl rfl) (fun _ => rfl) (fun i k n hk b wr ob E' s₄ I₄ => ?_) fun s₄ I₄ => ?_
    · have hstep : d2 (i + 1) = acStep (d2 i) (k, n) := by
        show (s.take (i + 1)).foldl _ _ = _
        rw [List.take_add_one, hk, List.foldl_append]; rfl
      refine x_if (c := { c with s₀ := b }) I₄ (b := (dget (d2 i) k).isSome) (tr_cmp (by tm_at "ev") (by tm_at "ev") (op_in_own (List.mem_append_right _ (.head _)) hb) (by with_unfolding_all rfl)) (fun hq s₅ I₅ => ?_) (fun hq s₅ I₅ => ?_)
      · obtain ⟨m, hm⟩ := Option.isSome_iff_exists.mp hq
        have hst : d2 (i + 1) = dput (d2 i) k (m + n) := by rw [hstep]; unfold acStep; simp only [hm]
        refine x_if (c := { c with s₀ := b }) I₅ (b := false) (tr_bool (ev_bfb bi_isinstance rfl (evs_cons (by tm_at "ev") (evs_cons (ev_built rfl (by kernel_rfl) (by kernel_rfl) (by decide)) evs_nil rfl) rfl) rfl f_isi)) (fun hq s₆ I₆ => by cases hq) (fun hq s₆ I₆ => ?_)
        refine x_augd (c := { c with s₀ := b }) (D := D) (Ω1 := ob) (Ω2 := []) I₆ (List.mem_append_right _ (.head _)) (by tm_at "ev") (by tm_at "ev") (by tm_at "ev") hm (h2 i) fun s₈ I₈ => ?_
        rw [← hst] at I₈
        exact x_nil (x_nil (wpAny_execs_nil (I₈.sub (SubAll.sub (Γ := [("new_callers", TVal (.ref D)), ("target", TDict t), ("source", TDict s)]) ⟨rfl, rfl, rfl, trivial⟩))))
      · have hm : dget (d2 i) k = none := by cases e : dget (d2 i) k with | none => rfl | some m => rw [e] at hq; cases hq
        have hst : d2 (i + 1) = dput (d2 i) k n := by rw [hstep]; unfold acStep; simp only [hm]
        refine x_setd (c := { c with s₀ := b }) (D := D) (Ω1 := ob) (Ω2 := []) I₅ (List.mem_append_right _ (.head _)) (by tm_at "ev") (by tm_at "ev") (by tm_at "ev") (h2 i) fun s₈ I₈ => ?_
        rw [← hst] at I₈
        exact x_nil (wpAny_execs_nil (I₈.sub (SubAll.sub (Γ := [("new_callers", TVal (.ref D)), ("target", TDict t), ("source", TDict s)]) ⟨rfl, rfl, rfl, trivial⟩)))
    · have e4 : d2 s.length = acF t s := by
        show (s.take _).foldl _ _ = _
        rw [List.take_length]; rfl
      have I₅ := Inv.freeze (x := "new_callers") I₄ rfl hb hDY
      rw [e4] at I₅
      exact x_ret I₅ (by tm_at "ev") fun v s' k p => ret_mk k p



noncomputable def NxR (c : Cx) (F : Fx) (Γ : Gam) (Ω : Own) (Q : Flow → Shared → Prop) : Flow → Shared → Prop
  | .next, s => Inv c F Γ Ω s
  | .brk, s => Q .brk s
  | .cont, s => Q .cont s
  | .ret v, s => Q (.ret v) s
section
variable {c : Cx} {F : Fx} {Γ : Gam} {Ω : Own} {s : Shared} {Q : Flow → Shared → Prop} {E : Value → Shared → Prop} {rest : List Stmt}
theorem x_doneR (I : Inv c F Γ Ω s) : wpAny (model PG c.w) c.A (execs [] c.env) (NxR c F Γ Ω Q) E s := wpAny_execs_nil I
theorem x_ifR {test : Expr} {body orelse : List Stmt} {pos : Pos} {b : Bool} (Γ' : Gam) (Ω' : Own) (I : Inv c F Γ Ω s) (ht : TR c F Γ Ω test b)
    (h1 : b = true → ∀ s', Inv c F Γ Ω s' → wpAny (model PG c.w) c.A (execs body c.env) (NxR c F Γ' Ω' Q) E s')
    (h2 : b = false → ∀ s', Inv c F Γ Ω s' → wpAny (model PG c.w) c.A (execs orelse c.env) (NxR c F Γ' Ω' Q) E s')
    (h : ∀ s', Inv c F Γ' Ω' s' → wpAny (model PG c.w) c.A (execs rest c.env) Q E s') :
    wpAny (model PG c.w) c.A (execs (.If test body orelse pos :: rest) c.env) Q E s := by
  refine wpAny_execs_cons (wpAny_If (ht s I _ _ fun s₁ k₁ => ?_))
  have hm : ∀ f s', NxR c F Γ' Ω' Q f s' → (match f with | .next => wpAny (model PG c.w) c.A (execs rest c.env) Q E s' | f => Q f s') := fun f s' x => by
    cases f with
    | next => exact h s' x
    | brk => exact x
    | cont => exact x
    | ret v => exact x
  cases b with
  | true => exact wpAny_mono (h1 rfl s₁ (I.keeps k₁)) hm fun _ _ x => x
  | false => exact wpAny_mono (h2 rfl s₁ (I.keeps k₁)) hm fun _ _ x => x
end

noncomputable def emLoop (got : Str) (e : Int) : List Str → Int → Bool
  | [], _ => true
  | w :: r, p => if find4 got w p e < 0 then false else emLoop got e r (find4 got w p e + w.length)
noncomputable def emA (a : Str) : List Str := if (a.length : Int) = 0 then [a] else []
noncomputable def emF (a b d got : Str) : Bool :=
  if ¬ (a.length : Int) = 0 ∧ Txt.startswith got a = false then false
  else if ¬ (d.length : Int) = 0 ∧ Txt.endswith got d = false then false
  else if (got.length : Int) - d.length < a.length then false
  else emLoop got ((got.length : Int) - d.length) (emA a ++ [b] ++ emA d) a.length
noncomputable def dots : Str := "..."
structure SplitOk (want a b d : Str) : Prop where
  l : want.length ≤ 4096
  ni : (Builtin.Str.occurrences want dots 0 want.length 1).isEmpty = false
  h1 : (decide (want.length < dots.length) || decide (Builtin.Str.strKind want < Builtin.Str.strKind dots)) = false
  hf : (Builtin.Str.occurrences want dots 0 want.length (want.length + 1)).isEmpty = false
  hp : Builtin.Str.partsBetween want (Builtin.Str.occurrences want dots 0 want.length (want.length + 1)) dots.length = [a, b, d]
  la : a.length ≤ 4096
  lb : b.length ≤ 4096
  ld : d.length ≤ 4096

theorem emA_len (a : Str) : (emA a).length ≤ 1 := by unfold emA; split <;> simp
theorem len_zero {a : Str} (h : (a.length : Int) = 0) : (a.length : Int) = 0 := h

theorem em_spec {want got a b d : Str} (S : SplitOk want a b d) (hg : got.length ≤ 4096) : Spec 1 49 [TStr want, TStr got] (TBool (emF a b d got)) := by
  obtain ⟨hl, hni, h1, hf, hp, la, lb, ld⟩ := S
  refine spec_of ["want", "got"] (fun _ => rfl) (fun _ => rfl) (fun h vals p => by obtain ⟨v1, v2, rfl⟩ := p.s2; rfl) rfl (by rfl) (by decide) (by decide) ?_
  intro L c s₁ hr I
  dsimp only [List.zip, List.zipWith] at I
  refine x_if I (b := false) (tr_cmp (by tm_at "ev") (by tm_at "ev") (hni ▸ op_ni_ss) (by with_unfolding_all rfl)) (fun hb => by cases hb) (fun _ s₂ I₂ => x_nil ?_)
  refine x_newlist I₂ (.inl rfl) (nl_split (by tm_at "ev") (by tm_at "ev") rfl h1 (by rfl) hf hl hp (Nat.le_of_ble_eq_true rfl) (by rfl)) fun D s₃ hDY I₃ => ?_
  refine x_assert I₃ (tr_cmp (ev_bfb bi_len rfl (evs_cons (by tm_at "ev") evs_nil rfl) rfl (f_lenO (.head _) (Nat.le_of_ble_eq_true rfl))) (by tm_at "ev") op_ge_ii (by with_unfolding_all rfl)) fun s₄ I₄ => ?_
  refine x_two I₄ rfl rfl (ev_tup (evs_cons (by tm_at "ev") (evs_cons (ev_bfb bi_len rfl (evs_cons (by tm_at "ev") evs_nil rfl) rfl (f_lens hg)) evs_nil rfl) rfl) (Nat.le_of_ble_eq_true rfl)) (fun e1 e2 e3 => ?_) fun s₅ I₅ => ?_
  · unfold swappedStores
    simp only [List.filterMap_cons, e2, e3, e1, List.filterMap_nil]
    rfl
  refine x_assign I₅ (ev_sub (by tm_at "ev") (by tm_at "ev") (sub_own (y := a) (.head _) (by tm_at "plain") (by decide) rfl (Nat.le_of_ble_eq_true rfl))) (.inl rfl) fun s₆ I₆ => ?_
  have el0 : ∀ ys : List Str, ys.length ≤ 3 → ys.length ≤ 4096 := fun ys h => by omega
  by_cases hsa : ¬ (a.length : Int) = 0 ∧ Txt.startswith got a = false
  · refine x_if I₆ (tr_str la (by tm_at "ev")) (fun hb s₇ I₇ => ?_) (fun hb s₇ I₇ => absurd (by simpa using hb) hsa.1)
    refine x_if I₇ (b := Txt.startswith got a) (tr_bool (ev_meth ms_startswith (by tm_at "ev") (evs_cons (by tm_at "ev") evs_nil rfl) rfl m_starts (by rfl))) (fun hq s₈ I₈ => by rw [hsa.2] at hq; cases hq) (fun hq s₈ I₈ => ?_)
    refine x_ret I₈ (EV.cast (by tm_at "ev") ?_) fun v s' k p => ret_mk k p
    unfold emF
    rw [if_pos hsa]
  refine x_ifR [("startpos", TInt a.length), ("endpos", TInt got.length), ("ws", TVal (.ref D)), ("got", TStr got)] [(D, LS (emA a ++ [b, d]))] I₆ (tr_str la (by tm_at "ev")) (fun hb s₇ I₇ => ?_) (fun hb s₇ I₇ => ?_) fun s₇ I₇ => ?_
  · have ha : ¬ (a.length : Int) = 0 := by simpa using hb
    refine x_if I₇ (b := Txt.startswith got a) (tr_bool (ev_meth ms_startswith (by tm_at "ev") (evs_cons (by tm_at "ev") evs_nil rfl) rfl m_starts (by rfl))) (fun hq s₈ I₈ => ?_) (fun hq s₈ I₈ => ?_)
    · refine x_assign I₈ (ev_bfb bi_len rfl (evs_cons (by tm_at "ev") evs_nil rfl) rfl (f_lens la)) (.inl rfl) fun s₉ I₉ => ?_
      refine x_del (Ω1 := []) (D := D) (ys := [a, b, d]) (j := 0) I₉ (.head _) (by tm_at "ev") (by tm_at "ev") (by rfl) (by decide) (Nat.le_of_ble_eq_true rfl) fun s₁₀ I₁₀ => ?_
      refine x_nil (x_doneR ?_)
      have e : emA a ++ [b, d] = [a, b, d].eraseIdx 0 := by unfold emA; rw [if_neg ha]; rfl
      rw [e]
      exact I₁₀.sub (SubAll.sub (Γ := [("startpos", TInt a.length), ("endpos", TInt got.length), ("ws", TVal (.ref D)), ("got", TStr got)]) ⟨rfl, rfl, rfl, rfl, trivial⟩)
    · refine x_ret I₈ (EV.cast (by tm_at "ev") ?_) fun v s' k p => ret_mk k p
      unfold emF
      rw [if_pos ⟨ha, hq⟩]
  · have ha : (a.length : Int) = 0 := by simpa using hb
    refine x_doneR ?_
    have e : emA a ++ [b, d] = [a, b, d] := by unfold emA; rw [if_pos ha]; rfl
    rw [e, ha]
    exact I₇.sub (SubAll.sub (Γ := [("startpos", TInt 0), ("endpos", TInt got.length), ("ws", TVal (.ref D)), ("got", TStr got)]) ⟨rfl, rfl, rfl, rfl, trivial⟩)
  have hA : emA a = [] ∨ emA a = [a] := by unfold emA; split <;> simp
  have q1 : (emA a ++ [b, d])[(emA a ++ [b, d]).length - 1]? = some d := by rcases hA with h | h <;> rw [h] <;> rfl
  have q2 : seqIndex? (-1) (emA a ++ [b, d]).length = some ((emA a ++ [b, d]).length - 1) := by rcases hA with h | h <;> rw [h] <;> rfl
  have q3 : (emA a ++ [b, d]).eraseIdx ((emA a ++ [b, d]).length - 1) = emA a ++ [b] := by rcases hA with h | h <;> rw [h] <;> rfl
  have q4 : (emA a ++ [b, d]).length ≤ 4096 := by rcases hA with h | h <;> rw [h] <;> exact Nat.le_of_ble_eq_true rfl
  have q5 : (emA a ++ [b] ++ emA d).length ≤ 4096 := by have := emA_len a; have := emA_len d; simp only [List.length_append, List.length_singleton]; omega
  have q6 : ∀ w ∈ emA a ++ [b] ++ emA d, w.length ≤ 4096 := fun w hw => by
    have ea : ∀ {x : Str}, w ∈ emA x → w = x := fun {x} h => by
      unfold emA at h; split at h
      · exact List.mem_singleton.mp h
      · cases h
    rcases List.mem_append.mp hw with hw | hw
    · rcases List.mem_append.mp hw with hw | hw
      · rw [ea hw]; exact la
      · rw [List.mem_singleton.mp hw]; exact lb
    · rw [ea hw]; exact ld
  have qF : ¬ (a.length : Int) = 0 ∧ Txt.startswith got a = false → emF a b d got = false := fun h => by unfold emF; rw [if_pos h]
  generalize hws : emA a ++ [b, d] = ws at I₇ q1 q2 q3 q4
  refine x_assign I₇ (ev_sub (by tm_at "ev") (by tm_at "ev") (sub_last (y := d) (.head _) (by tm_at "plain") q1 q4)) (.inl rfl) fun s₈ I₈ => ?_
  by_cases hsd : ¬ (d.length : Int) = 0 ∧ Txt.endswith got d = false
  · refine x_if I₈ (tr_str ld (by tm_at "ev")) (fun hb s₇ I₇ => ?_) (fun hb s₇ I₇ => absurd (by simpa using hb) hsd.1)
    refine x_if I₇ (b := Txt.endswith got d) (tr_bool (ev_meth ms_endswith (by tm_at "ev") (evs_cons (by tm_at "ev") evs_nil rfl) rfl m_ends (by rfl))) (fun hq s₈ I₈ => by rw [hsd.2] at hq; cases hq) (fun hq s₈ I₈ => ?_)
    refine x_ret I₈ (EV.cast (by tm_at "ev") ?_) fun v s' k p => ret_mk k p
    unfold emF
    rw [if_neg hsa, if_pos hsd]
  refine x_ifR [("startpos", TInt a.length), ("endpos", TInt ((got.length : Int) - d.length)), ("ws", TVal (.ref D)), ("got", TStr got)] [(D, LS (emA a ++ [b] ++ emA d))] I₈ (tr_str ld (by tm_at "ev")) (fun hb s₇ I₇ => ?_) (fun hb s₇ I₇ => ?_) fun s₇ I₇ => ?_
  · have ha : ¬ (d.length : Int) = 0 := by simpa using hb
    refine x_if I₇ (b := Txt.endswith got d) (tr_bool (ev_meth ms_endswith (by tm_at "ev") (evs_cons (by tm_at "ev") evs_nil rfl) rfl m_ends (by rfl))) (fun hq s₈ I₈ => ?_) (fun hq s₈ I₈ => ?_)
    · refine x_subt I₈ (T := TInt got.length) rfl (fun _ _ h => h) (.inl rfl) (ev_bfb bi_len rfl (evs_cons (by tm_at "ev") evs_nil rfl) rfl (f_lens ld)) fun s₉ I₉ => ?_
      refine x_del (Ω1 := []) (D := D) (ys := ws) (k := -1) I₉ (.head _) (by tm_at "ev") (by tm_at "ev") q2 (by decide) q4 fun s₁₀ I₁₀ => ?_
      refine x_nil (x_doneR ?_)
      rw [q3] at I₁₀
      have e : emA a ++ [b] ++ emA d = emA a ++ [b] := by rw [show emA d = [] by unfold emA; rw [if_neg ha], List.append_nil]
      rw [e]
      exact I₁₀.sub (SubAll.sub (Γ := [("startpos", TInt a.length), ("endpos", TInt ((got.length : Int) - d.length)), ("ws", TVal (.ref D)), ("got", TStr got)]) ⟨rfl, rfl, rfl, rfl, trivial⟩)
    · refine x_ret I₈ (EV.cast (by tm_at "ev") ?_) fun v s' k p => ret_mk k p
      unfold emF
      rw [if_neg hsa, if_pos ⟨ha, hq⟩]
  · have ha : (d.length : Int) = 0 := by simpa using hb
    refine x_doneR ?_
    have e : emA a ++ [b] ++ emA d = ws := by rw [← hws, show emA d = [d] by unfold emA; rw [if_pos ha], List.append_assoc]; rfl
    rw [e, ha, Int.sub_zero]
    exact I₇.sub (SubAll.sub (Γ := [("startpos", TInt a.length), ("endpos", TInt got.length), ("ws", TVal (.ref D)), ("got", TStr got)]) ⟨rfl, rfl, rfl, rfl, trivial⟩)
  refine x_if I₇ (tr_cmp (by tm_at "ev") (by tm_at "ev") op_gt_ii (by with_unfolding_all rfl)) (fun hb s₈ I₈ => ?_) (fun hb s₈ I₈ => x_nil ?_)
  · have hb' := of_decide_eq_true hb
    refine x_ret I₈ (EV.cast (by tm_at "ev") ?_) fun v s' k p => ret_mk k p
    unfold emF
    rw [if_neg hsa, if_neg hsd, if_pos hb']
  have hb' := of_decide_eq_false hb
  have hF : emF a b d got = emLoop got ((got.length : Int) - d.length) (emA a ++ [b] ++ emA d) a.length := by
    unfold emF
    rw [if_neg hsa, if_neg hsd, if_neg hb']
  rw [hF]
  clear hF hsa hsd
  generalize emA a ++ [b] ++ emA d = vs at *
  generalize (got.length : Int) - d.length = e at *
  generalize (a.length : Int) = p0 at *
  have I₉ := Inv.freezeS (x := "ws") I₈ rfl hDY
  let pp : Nat → Int := fun i => (vs.take i).foldl (fun p w => find4 got w p e + w.length) p0
  have I₁₀ := Inv.addFact (x := "startpos") (n := p0) (p := emLoop got e vs p0 = emLoop got e (vs.drop 0) (pp 0)) I₉ rfl rfl
  refine x_for (fun i => [("startpos", TIntP (pp i) (emLoop got e vs p0 = emLoop got e (vs.drop i) (pp i))), ("endpos", TInt e), ("ws", TList (vs.map TStr)), ("got", TStr got)]) (fun i => []) (I₁₀.sub (SubAll.sub (Γ := [("startpos", TIntP (pp 0) (emLoop got e vs p0 = emLoop got e (vs.drop 0) (pp 0))), ("endpos", TInt e), ("ws", TList (vs.map TStr)), ("got", TStr got)]) ⟨rfl, rfl, rfl, rfl, trivial⟩)) (by tm_at "ev") itr_list (fun _ => rfl) (fun i U hU bb wr ob E' => ?_) fun s₁₁ I₁₁ => ?_
  · rw [List.getElem?_map] at hU
    obtain ⟨w, hw, rfl⟩ := Option.map_eq_some_iff.mp hU
    have lw : w.length ≤ 4096 := q6 w (List.mem_of_getElem? hw)
    refine ⟨_, asg_name (.inl rfl), fun s₁₂ I₁₂ => ?_⟩
    have hfact := I₁₂.fact (x := "startpos") rfl
    have hdrop : vs.drop i = w :: vs.drop (i + 1) := by
      obtain ⟨hlt, rfl⟩ := List.getElem?_eq_some_iff.mp hw
      exact List.drop_eq_getElem_cons hlt
    have hpp : pp (i + 1) = find4 got w (pp i) e + w.length := by
      show (vs.take (i + 1)).foldl _ _ = _
      rw [List.take_add_one, hw, List.foldl_append]; rfl
    rw [hdrop] at hfact
    have hfact : emLoop got e vs p0 = if find4 got w (pp i) e < 0 then false else emLoop got e (vs.drop (i + 1)) (find4 got w (pp i) e + w.length) := hfact
    refine x_assign (c := { c with s₀ := bb }) I₁₂ (ev_meth ms_find (by tm_at "ev") (evs_cons (by tm_at "ev") (evs_cons (EV.weak (T := TIntP (pp i) (emLoop got e vs p0 = emLoop got e (vs.drop i) (pp i))) (T' := TInt (pp i)) (by tm_at "ev") fun _ _ h => h.1) (evs_cons (by tm_at "ev") evs_nil rfl) rfl) rfl) rfl m_find4 (by rfl)) (.inl rfl) fun s₁₃ I₁₃ => ?_
    refine x_if (c := { c with s₀ := bb }) I₁₃ (tr_cmp (by tm_at "ev") (by tm_at "ev") op_lt_ii (by with_unfolding_all rfl)) (fun hq s₁₄ I₁₄ => ?_) (fun hq s₁₄ I₁₄ => x_nil ?_)
    · have hq' := of_decide_eq_true hq
      rw [if_pos hq'] at hfact
      rw [hfact]
      refine x_ret (c := { c with s₀ := bb }) I₁₄ (by tm_at "ev") fun v s' k p => ?_
      exact fun kb => ret_mk (kb.trans k) p
    · have hq' := of_decide_eq_false hq
      rw [if_neg hq'] at hfact
      refine x_add (c := { c with s₀ := bb }) I₁₄ (T := TInt (find4 got w (pp i) e)) rfl (fun _ _ h => h) (.inl rfl) (ev_bfb bi_len rfl (evs_cons (by tm_at "ev") evs_nil rfl) rfl (f_lens lw)) fun s₁₅ I₁₅ => ?_
      rw [← hpp] at I₁₅ hfact
      have I₁₆ := Inv.addFact (x := "startpos") (n := pp (i + 1)) (p := emLoop got e vs p0 = emLoop got e (vs.drop (i + 1)) (pp (i + 1))) I₁₅ rfl hfact
      exact wpAny_execs_nil (I₁₆.sub (SubAll.sub (Γ := [("startpos", TIntP (pp (i + 1)) (emLoop got e vs p0 = emLoop got e (vs.drop (i + 1)) (pp (i + 1)))), ("endpos", TInt e), ("ws", TList (vs.map TStr)), ("got", TStr got)]) ⟨rfl, rfl, rfl, rfl, trivial⟩))
  · have hfact := I₁₁.fact (x := "startpos") rfl
    rw [List.length_map, List.drop_length] at hfact
    refine x_ret I₁₁ (EV.cast (by tm_at "ev") ?_) fun v s' k p => ret_mk k p
    rw [hfact]; rfl



noncomputable abbrev TWant (p : Int × Str) : Ty := TTup [TInt p.1, TStr p.2]
noncomputable def fdStep (m : Str → Str → Bool) (ts : List Str) (p : Int × Str) (d : List (Int × Int)) (k : Int) : List (Int × Int) := if m p.2 (ts.getD k.toNat Str.empty) then dput d k p.1 else d
noncomputable def foundF (m : Str → Str → Bool) (ts : List Str) (p : Int × Str) : List (Int × Int) := (rngL 0 8).foldl (fdStep m ts p) []
noncomputable def tableF (m : Str → Str → Bool) (ts : List Str) (ws : List (Int × Str)) : List (Int × Int) := ws.foldl (fun t p => acF t (foundF m ts p)) []
theorem fd_len (m : Str → Str → Bool) (ts : List Str) (p : Int × Str) : ∀ (ks : List Int) (d : List (Int × Int)), (ks.foldl (fdStep m ts p) d).length ≤ d.length + ks.length
  | [], d => by simp
  | k :: r, d => by
    have h1 := fd_len m ts p r (fdStep m ts p d k)
    have h2 : (fdStep m ts p d k).length ≤ d.length + 1 := by
      unfold fdStep
      split
      · exact dput_len _ _ _
      · omega
    simp only [List.foldl_cons, List.length_cons]
    omega
theorem found_len (m : Str → Str → Bool) (ts : List Str) (p : Int × Str) : (foundF m ts p).length ≤ 8 := by
  have := fd_len m ts p (rngL 0 8) []
  have h : (rngL 0 8).length = 8 := rfl
  rw [h, List.length_nil, Nat.zero_add] at this
  exact this
theorem ac_len (t s : List (Int × Int)) : (acF t s).length ≤ t.length + s.length := by
  have h1 := st_len s (acCopy t)
  have h2 : (acCopy t).length ≤ ([] : List (Int × Int)).length + t.length := cp_len t []
  simp only [List.length_nil] at h2
  unfold acF
  omega
theorem tb_len (m : Str → Str → Bool) (ts : List Str) : ∀ (ws : List (Int × Str)) (t : List (Int × Int)), (ws.foldl (fun t p => acF t (foundF m ts p)) t).length ≤ t.length + 8 * ws.length
  | [], t => by simp
  | p :: r, t => by
    have h1 := tb_len m ts r (acF t (foundF m ts p))
    have h2 := ac_len t (foundF m ts p)
    have h3 := found_len m ts p
    simp only [List.foldl_cons, List.length_cons]
    omega

theorem table_spec {m : Str → Str → Bool} {ts : List Str} {ws : List (Int × Str)} (hts : ts.length = 8) (hws : ws.length ≤ 7) (hm : ∀ p ∈ ws, ∀ t ∈ ts, Spec 1 49 [TStr p.2, TStr t] (TBool (m p.2 t))) :
    Spec 2 113 [TList (ws.map TWant), TList (ts.map TStr)] (TDict (tableF m ts ws)) := by
  refine spec_of ["cribs", "texts"] (fun _ => rfl) (fun _ => rfl) (fun h vals p => by obtain ⟨v1, v2, rfl⟩ := p.s2; rfl) rfl (by rfl) (by decide) (by decide) ?_
  intro L c s₁ hr I
  dsimp only [List.zip, List.zipWith] at I
  have hlt : (ts.map TStr).length ≤ 4096 := by rw [List.length_map]; omega
  refine x_assign I ev_dict0 (.inl rfl) fun s₂ I₂ => ?_
  let tb : Nat → List (Int × Int) := fun i => (ws.take i).foldl (fun t p => acF t (foundF m ts p)) []
  have htb : ∀ i, (tb i).length ≤ 64 := fun i => by
    have h1 := tb_len m ts (ws.take i) []
    have h2 : (ws.take i).length ≤ ws.length := by rw [List.length_take]; omega
    have h3 : (tb i).length ≤ ([] : List (Int × Int)).length + 8 * (ws.take i).length := h1
    simp only [List.length_nil] at h3
    omega
  refine x_for (fun i => [("table", TDict (tb i)), ("cribs", TList (ws.map TWant)), ("texts", TList (ts.map TStr))]) (fun i => []) I₂ (by tm_at "ev") itr_list (fun _ => rfl) (fun i U hU b wr ob E' => ?_) fun s₃ I₃ => ?_
  · rw [List.getElem?_map] at hU
    obtain ⟨p, hp, rfl⟩ := Option.map_eq_some_iff.mp hU
    have hpm := hm p (List.mem_of_getElem? hp)
    refine ⟨_, asg_tup (xs := ["weight", "want"]) (.cons (.cons .nil)) rfl (fun x hx => ?_), fun s₄ I₄ => ?_⟩
    · rcases List.mem_cons.mp hx with rfl | hx
      · exact .inl rfl
      · obtain rfl := List.mem_singleton.mp hx
        exact .inl rfl
    dsimp only [addAll] at I₄
    have hstep : tb (i + 1) = acF (tb i) (foundF m ts p) := by
      show (ws.take (i + 1)).foldl _ _ = _
      rw [List.take_add_one, hp, List.foldl_append]; rfl
    refine x_newdict (c := { c with s₀ := b }) I₄ (.inl rfl) fun D s₅ hb hDY I₅ => ?_
    let fk : Nat → List (Int × Int) := fun j => ((rngL 0 8).take j).foldl (fdStep m ts p) []
    have hfk : ∀ j, (fk j).length ≤ 4096 := fun j => by
      have h1 := fd_len m ts p ((rngL 0 8).take j) []
      have h2 : ((rngL 0 8).take j).length ≤ 8 := by rw [List.length_take]; have : (rngL 0 8).length = 8 := rfl; omega
      have h3 : (fk j).length ≤ ([] : List (Int × Int)).length + ((rngL 0 8).take j).length := h1
      simp only [List.length_nil] at h3
      omega
    refine x_for (c := { c with s₀ := b }) (fun j => [("found", TVal (.ref D)), ("want", TStr p.2), ("weight", TInt p.1), ("table", TDict (tb i)), ("cribs", TList (ws.map TWant)), ("texts", TList (ts.map TStr))]) (fun j => (D, DI (fk j)) :: (ob ++ [])) I₅ (by tm_at "ev") (itr_rng (by omega) (by omega)) (fun _ => rfl) (fun j U hU b2 wr2 ob2 E2 => ?_) fun s₆ I₆ => ?_
    · rw [List.getElem?_map] at hU
      obtain ⟨k, hk, rfl⟩ := Option.map_eq_some_iff.mp hU
      have hk' := mem_rngL (List.mem_of_getElem? hk)
      have k0 : 0 ≤ k := hk'.1
      have hget : ts[k.toNat]? = some (ts.getD k.toNat Str.empty) := by
        rw [List.getD_eq_getElem?_getD]
        cases e : ts[k.toNat]? with
        | none => rw [List.getElem?_eq_none_iff] at e; omega
        | some t => rfl
      have hget2 : (ts.map TStr)[k.toNat]? = some (TStr (ts.getD k.toNat Str.empty)) := by rw [List.getElem?_map, hget]; rfl
      have hpk := hpm _ (List.mem_of_getElem? hget)
      refine ⟨_, asg_name (.inl rfl), fun s₇ I₇ => ?_⟩
      have hst : fk (j + 1) = fdStep m ts p (fk j) k := by
        show ((rngL 0 8).take (j + 1)).foldl _ _ = _
        rw [List.take_add_one, hk, List.foldl_append]; rfl
      refine x_if (c := { c with s₀ := b2 }) I₇ (b := m p.2 (ts.getD k.toNat Str.empty)) (tr_bool (ev_fn hpk hr gi_em rfl (by tm_at "evs") rfl)) (fun hq s₈ I₈ => ?_) (fun hq s₈ I₈ => ?_)
      · have e3 : fk (j + 1) = dput (fk j) k p.1 := by rw [hst, fdStep, if_pos hq]
        refine x_setd (c := { c with s₀ := b2 }) (D := D) (Ω1 := ob2) (Ω2 := ob ++ []) I₈ (List.mem_append_right _ (.head _)) (by tm_at "ev") (by tm_at "ev") (by tm_at "ev") (hfk j) fun s₉ I₉ => ?_
        rw [← e3] at I₉
        exact x_nil (wpAny_execs_nil (I₉.sub (SubAll.sub (Γ := [("found", TVal (.ref D)), ("want", TStr p.2), ("weight", TInt p.1), ("table", TDict (tb i)), ("cribs", TList (ws.map TWant)), ("texts", TList (ts.map TStr))]) ⟨rfl, rfl, rfl, rfl, rfl, rfl, trivial⟩)))
      · have e3 : fk (j + 1) = fk j := by rw [hst, fdStep, if_neg (by rw [hq]; decide)]
        rw [← e3] at I₈
        exact x_nil (wpAny_execs_nil (I₈.sub (SubAll.sub (Γ := [("found", TVal (.ref D)), ("want", TStr p.2), ("weight", TInt p.1), ("table", TDict (tb i)), ("cribs", TList (ws.map TWant)), ("texts", TList (ts.map TStr))]) ⟨rfl, rfl, rfl, rfl, rfl, rfl, trivial⟩)))
    · have e4 : fk ((rngL 0 8).map TInt).length = foundF m ts p := by
        show ((rngL 0 8).take _).foldl _ _ = _
        rw [List.length_map, List.take_length]; rfl
      have I₇ := Inv.freeze (x := "found") I₆ rfl hb hDY
      rw [e4] at I₇
      refine x_assign (c := { c with s₀ := b }) I₇ (ev_fn (ac_spec (htb i) (Nat.le_trans (found_len m ts p) (by decide))) hr gi_ac rfl (by tm_at "evs") rfl) (.inl rfl) fun s₈ I₈ => ?_
      rw [← hstep] at I₈
      exact wpAny_execs_nil (I₈.sub (SubAll.sub (Γ := [("table", TDict (tb (i + 1))), ("cribs", TList (ws.map TWant)), ("texts", TList (ts.map TStr))]) ⟨rfl, rfl, rfl, trivial⟩))
  · have e4 : tb (ws.map TWant).length = tableF m ts ws := by
      show (ws.take _).foldl _ _ = _
      rw [List.length_map, List.take_length]; rfl
    rw [e4] at I₃
    exact x_ret I₃ (by tm_at "ev") fun v s' k p => ret_mk k p



noncomputable abbrev T2I (p : Int × Int) : Ty := TTup [TInt p.1, TInt p.2]
noncomputable def cmpF (l r : List Int) : List (Int × Int) → Int
  | [] => 0
  | p :: ds => if l.getD p.1.toNat 0 < r.getD p.1.toNat 0 then -p.2 else if r.getD p.1.toNat 0 < l.getD p.1.toNat 0 then p.2 else cmpF l r ds
theorem getD_at {l : List Int} {k : Int} (h0 : 0 ≤ k) (h1 : k < l.length) : (l.map TInt)[k.toNat]? = some (TInt (l.getD k.toNat 0)) := by
  rw [List.getElem?_map, List.getD_eq_getElem?_getD]
  cases e : l[k.toNat]? with
  | none => rw [List.getElem?_eq_none_iff] at e; omega
  | some t => rfl

theorem compare_spec {l r : List Int} {ds : List (Int × Int)} (hl : l.length = 2) (hr2 : r.length = 2) (hds : ∀ p ∈ ds, 0 ≤ p.1 ∧ p.1 < 2) :
    Spec 1 70 [TComp (TList (ds.map T2I)), TTup (l.map TInt), TTup (r.map TInt)] (TInt (cmpF l r ds)) := by
  refine spec_of ["self", "left", "right"] (fun _ => rfl) (fun _ => rfl) (fun h vals p => by obtain ⟨v1, v2, v3, rfl⟩ := p.s3; rfl) rfl (by rfl) (by decide) (by decide) ?_
  intro L c s₁ hr I
  dsimp only [List.zip, List.zipWith] at I
  have hll : (l.map TInt).length ≤ 4096 := by rw [List.length_map]; omega
  have hlr : (r.map TInt).length ≤ 4096 := by rw [List.length_map]; omega
  have I₀ := Inv.addFactA (x := "left") (T := TTup (l.map TInt)) (p := cmpF l r ds = cmpF l r (ds.drop 0)) I rfl rfl
  refine x_for (fun i => [("left", TAnd (TTup (l.map TInt)) (cmpF l r ds = cmpF l r (ds.drop i))), ("right", TTup (r.map TInt)), ("self", TComp (TList (ds.map T2I)))]) (fun i => []) (I₀.sub (SubAll.sub (Γ := [("left", TAnd (TTup (l.map TInt)) (cmpF l r ds = cmpF l r (ds.drop 0))), ("right", TTup (r.map TInt)), ("self", TComp (TList (ds.map T2I)))]) ⟨rfl, rfl, rfl, trivial⟩)) (ev_sel (by tm_at "ev") (by with_unfolding_all rfl)) itr_list (fun _ => rfl) (fun i U hU b wr ob E' => ?_) fun s₃ I₃ => ?_
  · rw [List.getElem?_map] at hU
    obtain ⟨p, hp, rfl⟩ := Option.map_eq_some_iff.mp hU
    have hp2 := hds p (List.mem_of_getElem? hp)
    have p0 : 0 ≤ p.1 := hp2.1
    have gl := getD_at (l := l) p0 (by omega)
    have gr := getD_at (l := r) p0 (by omega)
    refine ⟨_, asg_tup (xs := ["index", "direction"]) (.cons (.cons .nil)) rfl (fun x hx => ?_), fun s₄ I₄ => ?_⟩
    · rcases List.mem_cons.mp hx with rfl | hx
      · exact .inl rfl
      · obtain rfl := List.mem_singleton.mp hx
        exact .inl rfl
    dsimp only [addAll] at I₄
    have hfact := I₄.factA (x := "left") rfl
    have hdrop : ds.drop i = p :: ds.drop (i + 1) := by
      obtain ⟨hlt, rfl⟩ := List.getElem?_eq_some_iff.mp hp
      exact List.drop_eq_getElem_cons hlt
    rw [hdrop] at hfact
    have hfact : cmpF l r ds = if l.getD p.1.toNat 0 < r.getD p.1.toNat 0 then -p.2 else if r.getD p.1.toNat 0 < l.getD p.1.toNat 0 then p.2 else cmpF l r (ds.drop (i + 1)) := hfact
    have I₅ := Inv.weakA (x := "left") (T := TTup (l.map TInt)) I₄ rfl
    refine x_assign (c := { c with s₀ := b }) I₅ (by tm_at "ev") (.inl rfl) fun s₆ I₆ => ?_
    refine x_assign (c := { c with s₀ := b }) I₆ (by tm_at "ev") (.inl rfl) fun s₇ I₇ => ?_
    refine x_if (c := { c with s₀ := b }) I₇ (by tm_at "tr") (fun hq s₈ I₈ => ?_) (fun hq s₈ I₈ => x_nil ?_)
    · rw [if_pos (of_decide_eq_true hq)] at hfact
      rw [hfact]
      exact x_ret (c := { c with s₀ := b }) I₈ (by tm_at "ev") fun v s' k p kb => ret_mk (kb.trans k) p
    rw [if_neg (of_decide_eq_false hq)] at hfact
    refine x_if (c := { c with s₀ := b }) I₈ (by tm_at "tr") (fun hq s₈ I₈ => ?_) (fun hq s₈ I₈ => x_nil ?_)
    · rw [if_pos (of_decide_eq_true hq)] at hfact
      rw [hfact]
      exact x_ret (c := { c with s₀ := b }) I₈ (by tm_at "ev") fun v s' k p kb => ret_mk (kb.trans k) p
    rw [if_neg (of_decide_eq_false hq)] at hfact
    have I₉ := Inv.addFactA (x := "left") (T := TTup (l.map TInt)) (p := cmpF l r ds = cmpF l r (ds.drop (i + 1))) I₈ rfl hfact
    exact wpAny_execs_nil (I₉.sub (SubAll.sub (Γ := [("left", TAnd (TTup (l.map TInt)) (cmpF l r ds = cmpF l r (ds.drop (i + 1)))), ("right", TTup (r.map TInt)), ("self", TComp (TList (ds.map T2I)))]) ⟨rfl, rfl, rfl, trivial⟩))
  · have hfact := I₃.factA (x := "left") rfl
    rw [List.length_map, List.drop_length] at hfact
    rw [hfact, show cmpF l r [] = 0 from rfl]
    exact x_ret I₃ (by tm_at "ev") fun v s' k p => ret_mk k p



noncomputable def iF (n : Int) : Int := match fInt (fMul (iDiv n 8) 4618441417868443648) with | some i => i | none => 0
noncomputable def shF (j : Int) : UInt64 := if j = 0 then 4607182418800017408 else if j = 1 then 4607182418800017408 else 4602678819172646912
noncomputable def lvF (j : Int) : UInt64 := if j = 0 then 4607182418800017408 else if j = 1 then 4602678819172646912 else if j = 2 then 4604930618986332160 else 4602678819172646912
noncomputable def Sgn (r : UInt64 × UInt64 × UInt64) (cd : Nat) : Prop := ∃ a b d : Int, fInt (fAdd (fMul r.1 (Float64.ofInt 32)) 4602678819172646912) = some a ∧ fInt (fAdd (fMul r.2.1 (Float64.ofInt 32)) 4602678819172646912) = some b ∧ fInt (fAdd (fMul r.2.2 (Float64.ofInt 32)) 4602678819172646912) = some d ∧
    (0 ≤ a ∧ a ≤ 100) ∧ (0 ≤ b ∧ b ≤ 100) ∧ (0 ≤ d ∧ d ≤ 100) ∧ cd = (65 + a * 1089 + b * 33 + d).toNat
theorem sgn_spec {r : UInt64 × UInt64 × UInt64} {cd : Nat} (h : Sgn r cd) : Spec 1 96 [T3 r] (TStr ⟨#[cd]⟩) := by
  obtain ⟨a, b, d, h1, h2, h3, ha, hb, hd, rfl⟩ := h
  exact sign_spec h1 h2 h3 ha hb hd
structure RingOk (sh lv : UInt64) (sg : Int → Nat) : Prop where
  seen : ∀ n : Int, 0 ≤ n → n ≤ 14 → SeenOk n sh lv (iF n) ∧ fInt (fAdd (fMul (seenF n sh lv (iF n)).1 (Float64.ofInt 48)) 4602678819172646912) = some (n.fmod 8 * 6)
  turn : ∀ n key : Int, 0 ≤ n → n ≤ 14 → 0 ≤ key → key < 8 → Sgn (hlsF (fSub (seenF n sh lv (iF n)).1 (iDiv key 8)) (seenF n sh lv (iF n)).2.1 (seenF n sh lv (iF n)).2.2) (sg ((n - key).fmod 8))
  base : ∀ m : Int, 0 ≤ m → m < 8 → fInt (fMul (iDiv m 8) 4618441417868443648) = some (iF m) ∧ Sml (iF m) ∧ Sgn (hsvF (iDiv m 8) sh lv (iF m)) (sg m)

noncomputable def totF (sc : List Int) : Int := (pickI sc none (some 63) none).sum + 53
noncomputable def plainF (sc : List Int) : List Int := (pickI sc none (some 3) none).map (fun x => x.fmod 8) ++ [1, 4, 1]
noncomputable def rowF (sc : List Int) : List Int := (plainF sc).map fun hue => hue + (totF sc).fmod 8
noncomputable def ringF (sc : List Int) : Int := ((totF sc).fdiv 8).fmod 4
noncomputable def one (n : Nat) : Str := ⟨#[n]⟩
noncomputable def textF (sg : Int → Nat) (row : List Int) (key : Int) : Str := Txt.join "" (row.map fun n => one (sg ((n - key).fmod 8)))
noncomputable def textsF (sg : Int → Nat) (row : List Int) : List Str := (rngL 0 8).map (textF sg row)
noncomputable def cstF (k : Int) : Int := if k = 0 then 792 else if k = 1 then 1134 else 5880
noncomputable def drawnF (sc : List Int) : List Int := (rngL 0 3).map fun k => (pickI sc (some (3 + k)) (some 63) (some 3)).sum + cstF k
noncomputable def cribsF (sc : List Int) : List (Int × List Int) := (drawnF sc).map fun d => (d, cribF d (plainF sc))
noncomputable def markF (sg : Int → Nat) (m : Int) : Str := if m = -1 then dots else one (sg m)
noncomputable def wantF (sg : Int → Nat) (crib : List Int) : Str := Txt.join "" (crib.map (markF sg))
noncomputable def wantsF (sg : Int → Nat) (sc : List Int) : List (Int × Str) := (cribsF sc).map fun p => (p.1, wantF sg p.2)

theorem rng_get {α : Type} (f : Int → α) {n k : Int} (h0 : 0 ≤ k) (h1 : k < n) : ((rngL 0 n).map f)[k.toNat]? = some (f k) := by
  have e : (0 : Int) + (k.toNat : Int) = k := by omega
  unfold rngL
  rw [List.map_map, List.getElem?_map, List.getElem?_range (by omega)]
  show some (f (0 + (k.toNat : Int))) = _
  rw [e]
theorem plain_len (sc : List Int) : (plainF sc).length ≤ 6 := by unfold plainF; have := pick3_len sc; simp; omega
theorem plain_bd (sc : List Int) : ∀ n ∈ plainF sc, 0 ≤ n ∧ n < 8 := fun n hn => by
  unfold plainF at hn
  rcases List.mem_append.mp hn with hn | hn
  · obtain ⟨x, _, rfl⟩ := List.mem_map.mp hn
    exact fmod_bd x (by decide)
  · simp at hn; omega
theorem row_bd (sc : List Int) : ∀ n ∈ rowF sc, 0 ≤ n ∧ n ≤ 14 := fun n hn => by
  obtain ⟨h, hh, rfl⟩ := List.mem_map.mp hn
  have := plain_bd sc h hh
  have := fmod_bd (totF sc) (b := 8) (by decide)
  omega
theorem row_len (sc : List Int) : (rowF sc).length ≤ 6 := by unfold rowF; rw [List.length_map]; exact plain_len sc
theorem rngL_mem {a b k : Int} (h : k ∈ rngL a b) : a ≤ k ∧ k < b := mem_rngL h

theorem join_ok {ys : List Str} (h : ∀ y ∈ ys, y.length ≤ 3) (hl : ys.length ≤ 1000) : (ys.map (·.length)).sum + ys.length * ("" : Str).length ≤ 16777216 := by
  have key : ∀ zs : List Str, (∀ y ∈ zs, y.length ≤ 3) → (zs.map (·.length)).sum ≤ 3 * zs.length := fun zs => by
    induction zs with
    | nil => intro _; simp
    | cons y r ih =>
      intro hh
      have h1 := hh y (.head _)
      have h2 := ih fun z hz => hh z (.tail _ hz)
      simp only [List.map_cons, List.sum_cons, List.length_cons]
      omega
  have h1 := key ys h
  have h2 : ("" : Str).length = 0 := rfl
  rw [h2]
  omega
theorem crib_mem {d : Int} {pl : List Int} : ∀ x ∈ cribF d pl, x = -1 ∨ x ∈ pl := fun x hx => by
  unfold cribF at hx
  split at hx
  · unfold cribQ at hx
    simp only [List.mem_append, List.mem_singleton] at hx
    rcases hx with (((hx | hx) | hx) | hx) | hx
    · exact .inr (List.mem_of_mem_take hx)
    · exact .inl hx
    · exact .inr (List.mem_of_mem_take (List.mem_of_mem_drop hx))
    · exact .inl hx
    · exact .inr (List.mem_of_mem_drop hx)
  · cases hx
theorem crib_len {d : Int} {pl : List Int} (h : pl.length ≤ 6) : (cribF d pl).length ≤ 20 := by
  unfold cribF
  split
  · have ht : ∀ k : Nat, (pl.take k).length ≤ 6 := fun k => Nat.le_trans (List.take_sublist _ _).length_le h
    have hd : ∀ k j : Nat, ((pl.take k).drop j).length ≤ 6 := fun k j => Nat.le_trans (List.drop_sublist _ _).length_le (ht k)
    have he : ∀ k : Nat, (pl.drop k).length ≤ 6 := fun k => Nat.le_trans (List.drop_sublist _ _).length_le h
    unfold cribQ
    rw [List.length_append, List.length_append, List.length_append, List.length_append]
    exact Nat.add_le_add (Nat.add_le_add (Nat.add_le_add (Nat.add_le_add (ht _) (Nat.le_refl 1)) (hd _ _)) (Nat.le_refl 1)) (he _)
  · exact Nat.zero_le _
theorem cst_at (k : Int) (h0 : 0 ≤ k) (h3 : k < 3) : [TInt 792, TInt 1134, TInt 5880][k.toNat]? = some (TInt (cstF k)) := by
  have : k = 0 ∨ k = 1 ∨ k = 2 := by omega
  rcases this with rfl | rfl | rfl <;> rfl
noncomputable def keyF (t : Int) : Int := if t = 1 then -1 else 1
theorem key_pm (t : Int) : keyF t = 1 ∨ keyF t = -1 := by unfold keyF; split <;> simp
theorem dget_mem {p : Int × Int} : ∀ {kvs : List (Int × Int)}, p ∈ kvs → ∃ n, dget kvs p.1 = some n := fun {kvs} h => by
  unfold dget
  cases e : kvs.find? fun kv => kv.1 = p.1 with
  | none => have := List.find?_eq_none.mp e p h; simp at this
  | some q => exact ⟨q.2, rfl⟩
theorem handed_list {Ts : List Ty} : ∀ (h : Heap) (v : Value), (TList Ts).P h v → handedIn v = true := fun h v p => by
  obtain ⟨a, vs, rfl, _⟩ := p
  rfl
noncomputable def sgnF (x y : Int) (q : Int × Int) : Int := if ((x == q.1) && (y == q.2)) = true then 0 else if decide (q.1 < x ∨ x = q.1 ∧ q.2 < y) = true then 1 else -1
noncomputable def orderF (k0 k1 : Int) (du : List (Int × Int)) : List (Int × Int) := (rngL 0 8).filterMap fun r => if (dget du r).isSome then some (k0 * (dget du r).getD 0, k1 * r) else none
noncomputable def toldF (w left k0 k1 : Int) (du : List (Int × Int)) : List Int := (rngL 0 8).filterMap fun r => if (dget du r).isSome then some (cmpF [w, left] [(dget du r).getD 0, r] [(0, k0), (1, k1)]) else none
theorem told_eq {tb du : List (Int × Int)} {w left k0 k1 : Int} (h : ∀ r, dget tb r = dget du r) : ((rngL 0 8).filterMap fun r => if (dget tb r).isSome then some (TInt (cmpF [w, left] [(dget du r).getD 0, r] [(0, k0), (1, k1)])) else none) = (toldF w left k0 k1 du).map TInt := by
  unfold toldF
  rw [List.map_filterMap]
  congr 1
  funext r
  rw [h r]
  cases (dget du r).isSome <;> rfl
theorem order_eq {du : List (Int × Int)} {k0 k1 : Int} : ((rngL 0 8).filterMap fun r => if (dget du r).isSome then some (T2I (k0 * (dget du r).getD 0, k1 * r)) else none) = (orderF k0 k1 du).map T2I := by
  unfold orderF
  rw [List.map_filterMap]
  congr 1
  funext r
  cases (dget du r).isSome <;> rfl
theorem order_len (k0 k1 : Int) (du : List (Int × Int)) : (orderF k0 k1 du).length ≤ 8 := List.length_filterMap_le _ _
theorem cmp_sgn {w l w' r k0 k1 : Int} (h0 : k0 = 1 ∨ k0 = -1) (h1 : k1 = 1 ∨ k1 = -1) : cmpF [w, l] [w', r] [(0, k0), (1, k1)] = sgnF (k0 * w) (k1 * l) (k0 * w', k1 * r) := by
  have e : cmpF [w, l] [w', r] [(0, k0), (1, k1)] = if w < w' then -k0 else if w' < w then k0 else if l < r then -k1 else if r < l then k1 else 0 := rfl
  rw [e]
  unfold sgnF
  simp only [Bool.and_eq_true, beq_iff_eq, decide_eq_true_eq]
  rcases h0 with rfl | rfl <;> rcases h1 with rfl | rfl <;> (repeat' split) <;> omega
theorem told_order {w left k0 k1 : Int} {du : List (Int × Int)} (h0 : k0 = 1 ∨ k0 = -1) (h1 : k1 = 1 ∨ k1 = -1) : toldF w left k0 k1 du = (orderF k0 k1 du).map (sgnF (k0 * w) (k1 * left)) := by
  unfold toldF orderF
  rw [List.map_filterMap]
  congr 1
  funext r
  cases (dget du r).isSome
  · rfl
  · exact congrArg some (cmp_sgn h0 h1)
theorem via {c : Cx} {F : Fx} {Γ : Gam} {Ω : Own} {e : Expr} {T : Ty} {s : Shared} {Q : Value → Shared → Prop} {E : Value → Shared → Prop} (he : EV c F Γ Ω e T) (I : Inv c F Γ Ω s) (k : ∀ v s', Inv c F Γ Ω s' → T.P (hideAll s'.heap (F.Y ++ c.X)) v → Q v s') : wpAny (model PG c.w) c.A (eval e c.env) Q E s :=
  he s I _ _ fun v s₁ k₁ p₁ => k v s₁ (I.keeps k₁) p₁
theorem ring_at (j : Int) (h0 : 0 ≤ j) (h4 : j < 4) : [TTup [TFlt 4607182418800017408, TFlt 4607182418800017408], TTup [TFlt 4607182418800017408, TFlt 4602678819172646912], TTup [TFlt 4602678819172646912, TFlt 4604930618986332160], TTup [TFlt 4602678819172646912, TFlt 4602678819172646912]][j.toNat]? = some (TTup [TFlt (shF j), TFlt (lvF j)]) := by
  have := cases4 h0 h4
  rcases this with rfl | rfl | rfl | rfl <;> rfl
theorem law_walk {sc : List Int} {sg : Int → Nat} {m : Str → Str → Bool} (hsc : sc.length ≤ 63) {sh lv : UInt64} (hsh : shF (ringF sc) = sh) (hlv : lvF (ringF sc) = lv) (R : RingOk sh lv sg)
    (hm : ∀ p ∈ wantsF sg sc, ∀ t ∈ textsF sg (rowF sc), Spec 1 49 [TStr p.2, TStr t] (TBool (m p.2 t)))
    (heq : dEq (tableF m (textsF sg (rowF sc)) (wantsF sg sc)) (dueF (cribsF sc) (rowF sc)) = true)
    (hget : ∀ k, dget (tableF m (textsF sg (rowF sc)) (wantsF sg sc)) k = dget (dueF (cribsF sc) (rowF sc)) k) :
    Spec 3 123 [TSc sc] (TBool true) := by
  refine spec_of ["script"] (fun _ => rfl) (fun _ => rfl) (fun h vals p => by obtain ⟨v1, rfl⟩ := p.s1; rfl) rfl (by rfl) (by decide) (by decide) ?_
  intro L c s₁ hr I
  dsimp only [List.zip, List.zipWith] at I
  have hl : sc.length ≤ 4096 := by omega
  have h3l := pick3_len sc
  have hr1 : Room 1 c.A := hr.le (by decide)
  refine x_assign I (T := TInt (totF sc)) (ev_op (ev_bfb bi_sum rfl (evs_cons (ev_toS (y := 63) (by tm_at "ev") (by tm_at "ev") hl (by tm_at "slop")) evs_nil rfl) rfl f_sum) (by tm_at "ev") op_add_ii) (slot_fn rfl) fun s₂ I₂ => ?_
  clear I
  refine x_assign I₂ (T := TList ((plainF sc).map TInt)) (EV.castL (ev_op (ev_compI (pickI sc none (some 3) none) TInt (fun x => x.fmod 8) (Γc := []) ⟨ev_toS (y := 3) (by tm_at "ev") (by tm_at "ev") hl (by tm_at "slop"), itr_list, rfl, rfl, rfl, trivial, by decide, by decide, fun _ _ => rfl, by rw [List.length_map, List.length_map], by rw [List.length_map]; omega, turns_map fun x hx c' C Y' hr' hC hY => ?_⟩) (by tm_at "ev") (op_cat ?_)) ?_) (slot_fn rfl) fun s₃ I₃ => ?_
  · exact ⟨_, true, asg_name (.inl rfl), sub_cons rfl, trs_nil, rfl, by tm_at "ev"⟩
  · rw [List.length_map, List.length_map]; simp; omega
  · unfold plainF; rw [List.map_append]; rfl
  clear I₂
  have hpl : ((plainF sc).map TInt).length ≤ 4096 := by rw [List.length_map]; have := plain_len sc; omega
  refine x_compI (plainF sc) TInt (fun hue => hue + (totF sc).fmod 8) (Γc := [("total", TInt (totF sc))]) I₃ ⟨by tm_at "ev", itr_list, rfl, rfl, rfl, ⟨⟨rfl, .inl rfl, ⟨_, rfl⟩, .inl rfl⟩, trivial⟩, by decide, by decide, fun _ _ => rfl, by rw [List.length_map, List.length_map], hpl, turns_map fun x hx c' C Y' hr' hC hY => ?_⟩ rfl rfl rfl fun s₄ I₄ => ?_
  · exact ⟨_, true, asg_name (.inl rfl), sub_cons rfl, trs_nil, rfl, by tm_at "ev"⟩
  clear I₃
  change Inv c _ (("row", TList ((rowF sc).map TInt)) :: _) _ _ at I₄
  have hj := fmod_bd ((totF sc).fdiv 8) (b := 4) (by decide)
  have hj0 : 0 ≤ ((totF sc).fdiv 8).fmod 4 := hj.1
  have hjx := ring_at (ringF sc) hj.1 hj.2
  rw [hsh, hlv] at hjx
  unfold ringF at hjx
  with_reducible refine' x_unpack I₄ (Ts := [TFlt sh, TFlt lv]) (xs := ["share", "level"]) ?e ?N rfl ?g ?f ?h1 ?h2
  case h1 => rfl
  case h2 => rfl
  case N => exact .cons (.cons .nil)
  case e =>
    with_reducible refine' ev_sub ?a ?b ?c
    case a => tm_at "ev"
    case b => tm_at "ev"
    case c => exact sub_tup (by tm_at "plain") hj0 hjx (Nat.le_of_ble_eq_true rfl)
  case g =>
    intro x hx
    rcases List.mem_cons.mp hx with rfl | hx
    · exact slot_fn rfl
    · obtain rfl := List.mem_singleton.mp hx
      exact slot_fn rfl
  intro s₅ I₅
  dsimp only [addAll] at I₅
  clear I₄ hjx
  have hrl : ((rowF sc).map TInt).length ≤ 4096 := by rw [List.length_map]; have := row_len sc; omega
  refine x_assign I₅ (T := TList ((rowF sc).map fun n => T3 (seenF n sh lv (iF n)))) (ev_compM (rowF sc) TInt (fun n => T3 (seenF n sh lv (iF n))) (Γc := [("share", TFlt sh), ("level", TFlt lv)]) ⟨by tm_at "ev", itr_list, rfl, rfl, rfl, ⟨⟨rfl, .inl rfl, ⟨_, rfl⟩, .inl rfl⟩, ⟨rfl, .inl rfl, ⟨_, rfl⟩, .inl rfl⟩, trivial⟩, by decide, by decide, fun _ _ => rfl, by rw [List.length_map, List.length_map], hrl, turns_map fun n hn c' C Y' hr' hC hY => ?_⟩) (slot_fn rfl) (hs := sw_cell I₅ rfl) fun s₆ I₆ => ?_
  · have hb := row_bd sc n hn
    exact ⟨_, true, asg_name (.inl rfl), sub_cons rfl, trs_nil, rfl, ev_fn (seen_spec (R.seen n hb.1 hb.2).1) (hr' _ hr) gi_seen rfl (by tm_at "evs") rfl⟩
  clear I₅
  have hsl : ((rowF sc).map fun n => T3 (seenF n sh lv (iF n))).length ≤ 4096 := by rw [List.length_map]; have := row_len sc; omega
  have sl3 : ∀ {F : Fx}, F.N.lookup ("h" : Str) = some .local → F.N.lookup ("l" : Str) = some .local → F.N.lookup ("s" : Str) = some .local → ∀ x ∈ (["h", "l", "s"] : List Str), Slot F x := fun h1 h2 h3 x hx => by
    rcases List.mem_cons.mp hx with rfl | hx
    · exact .inl h1
    · rcases List.mem_cons.mp hx with rfl | hx
      · exact .inl h2
      · obtain rfl := List.mem_singleton.mp hx
        exact .inl h3
  refine x_if I₆ (b := !decide ((rowF sc).map (fun n => n.fmod 8 * 6) = (rowF sc).map (fun n => n.fmod 8 * 6))) (tr_cmp (ev_compI (rowF sc) (fun n => T3 (seenF n sh lv (iF n))) (fun n => n.fmod 8 * 6) (Γc := []) ⟨by tm_at "ev", itr_list, rfl, rfl, rfl, trivial, by decide, by decide, fun _ _ => rfl, by rw [List.length_map, List.length_map], hsl, turns_map fun n hn c' C Y' hr' hC hY => ?_⟩)
    (ev_compI (rowF sc) TInt (fun n => n.fmod 8 * 6) (Γc := []) ⟨by tm_at "ev", itr_list, rfl, rfl, rfl, trivial, by decide, by decide, fun _ _ => rfl, by rw [List.length_map, List.length_map], hrl, turns_map fun n hn c' C Y' hr' hC hY => ?_⟩) op_ne_ll (by with_unfolding_all rfl)) (fun hb s₇ I₇ => by simp at hb) (fun _ s₇ I₇ => x_nil ?_)
  · have hb := row_bd sc n hn
    have hf := (R.seen n hb.1 hb.2).2
    exact ⟨_, true, asg_tup (xs := ["h", "l", "s"]) (.cons (.cons (.cons .nil))) rfl (sl3 rfl rfl rfl), sub_trans (sub_cons (x := "h") rfl) (sub_trans (sub_cons (x := "l") rfl) (sub_cons (x := "s") rfl)), trs_nil, rfl, by tm_at "ev"⟩
  · exact ⟨_, true, asg_name (.inl rfl), sub_cons rfl, trs_nil, rfl, by tm_at "ev"⟩
  clear I₆
  have hsep8 : ∀ (a : Addr) (x : Str), List.lookup x [(("seen" : Str), a)] ≠ none → List.lookup x [(("key" : Str), 0)] = none := fun a x hx => by
    by_cases q : x = "key"
    · subst q; exact absurd (by rfl) hx
    · rw [List.lookup_cons, beq_eq_false_iff_ne.mpr q]; rfl
  refine x_compM (rngL 0 8) TInt (fun key => TStr (textF sg (rowF sc) key)) (Γc := [("seen", TList ((rowF sc).map fun n => T3 (seenF n sh lv (iF n))))]) I₇ ⟨by tm_at "ev", itr_rng (by omega) (by omega), rfl, rfl, rfl, ⟨⟨rfl, .inl rfl, ⟨_, rfl⟩, .inl rfl⟩, trivial⟩, by decide, by decide, hsep8 _, by rw [List.length_map, List.length_map], Nat.le_of_ble_eq_true rfl, turns_map fun key hk c' C Y' hr' hC hY => ?_⟩ rfl rfl rfl fun s₈ I₈ => ?_
  · have hkb := rngL_mem hk
    have hsm : Sml key := sml_of (by omega)
    refine ⟨_, true, asg_name (.inr ⟨rfl, _, rfl, hY _ (by simp [cellsFrom])⟩), sub_cons rfl, trs_nil, rfl, EV.castL (ev_meth ms_join ev_str (evs_cons (ev_compS (rowF sc) (fun n => T3 (seenF n sh lv (iF n))) (fun n => one (sg ((n - key).fmod 8))) (Γc := [("key", TInt key)]) ⟨by tm_at "ev", itr_list, rfl, rfl, rfl, ⟨⟨rfl, .inl rfl, ⟨_, rfl⟩, .inl rfl⟩, trivial⟩, by decide, by decide, fun _ _ => rfl, by rw [List.length_map, List.length_map], hsl, turns_map fun n hn c2 C2 Y2 hr2 hC2 hY2 => ?_⟩) evs_nil rfl) rfl (m_join ?_) (by rfl)) rfl⟩
    · have hb := row_bd sc n hn
      refine ⟨_, true, asg_tup (xs := ["h", "l", "s"]) (.cons (.cons (.cons .nil))) rfl (sl3 rfl rfl rfl), sub_trans (sub_cons (x := "h") rfl) (sub_trans (sub_cons (x := "l") rfl) (sub_cons (x := "s") rfl)), trs_nil, rfl, ?_⟩
      exact ev_fn (sgn_spec (R.turn n key hb.1 hb.2 hkb.1 hkb.2)) ((hr2 _ (hr' _ hr)).le (by decide)) gi_sign rfl (evs_cons (ev_fn (hls_spec _ _ _) (hr2 _ (hr' _ hr)) gi_hls rfl (by tm_at "evs") rfl) evs_nil rfl) rfl
    · refine join_ok (fun y hy => ?_) ?_
      · obtain ⟨n, _, rfl⟩ := List.mem_map.mp hy
        exact Nat.le_of_ble_eq_true rfl
      · rw [List.length_map]; have := row_len sc; omega
  clear I₇
  rw [show (rngL 0 8).map (fun key => TStr (textF sg (rowF sc) key)) = (textsF sg (rowF sc)).map TStr by unfold textsF; rw [List.map_map]; rfl] at I₈
  refine x_compI (rngL 0 3) TInt (fun k => (pickI sc (some (3 + k)) (some 63) (some 3)).sum + cstF k) (Γc := [("script", TSc sc)]) I₈ ⟨by tm_at "ev", itr_rng (by omega) (by omega), rfl, rfl, rfl, ⟨⟨rfl, .inl rfl, ⟨_, rfl⟩, .inl rfl⟩, trivial⟩, by decide, by decide, fun _ _ => rfl, by rw [List.length_map, List.length_map], Nat.le_of_ble_eq_true rfl, turns_map fun k hk c' C Y' hr' hC hY => ?_⟩ rfl rfl rfl fun s₉ I₉ => ?_
  · have hkb := rngL_mem hk
    have hk0 : 0 ≤ k := hkb.1
    have hcx := cst_at k hkb.1 hkb.2
    refine ⟨_, true, asg_name (.inl rfl), sub_cons rfl, trs_nil, rfl, ?_⟩
    refine ev_op ?q1 ?q2 op_add_ii
    case q1 => exact ev_bfb bi_sum rfl (evs_cons (ev_stepS (x := 3 + k) (y := 63) (z := 3) (by tm_at "ev") (by tm_at "ev") (by tm_at "ev") (by tm_at "ev") (by decide) (by omega) (by tm_at "slop")) evs_nil rfl) rfl f_sum
    case q2 => exact ev_sub (by tm_at "ev") (by tm_at "ev") (sub_tup (by tm_at "plain") hk0 hcx (Nat.le_of_ble_eq_true rfl))
  clear I₈
  change Inv c _ (("drawn", TList ((drawnF sc).map TInt)) :: _) _ _ at I₉
  have hdl : ((drawnF sc).map TInt).length ≤ 4096 := Nat.le_of_ble_eq_true rfl
  refine x_compM (drawnF sc) TInt (fun d => TCrib (d, cribF d (plainF sc))) (Γc := [("plain", TList ((plainF sc).map TInt))]) I₉ ⟨by tm_at "ev", itr_list, rfl, rfl, rfl, ⟨⟨rfl, .inl rfl, ⟨_, rfl⟩, .inl rfl⟩, trivial⟩, by decide, by decide, fun _ _ => rfl, by rw [List.length_map, List.length_map], hdl, turns_map fun d hd c' C Y' hr' hC hY => ?_⟩ rfl rfl rfl fun s₁₀ I₁₀ => ?_
  · exact ⟨_, true, asg_name (.inl rfl), sub_cons rfl, trs_nil, rfl, ev_tup (evs_cons (by tm_at "ev") (evs_cons (ev_fn (crib_spec (plain_len sc)) ((hr' _ hr).le (by decide)) gi_crib rfl (by tm_at "evs") rfl) evs_nil rfl) rfl) (Nat.le_of_ble_eq_true rfl)⟩
  clear I₉
  rw [show (drawnF sc).map (fun d => TCrib (d, cribF d (plainF sc))) = (cribsF sc).map TCrib by unfold cribsF; rw [List.map_map]; rfl] at I₁₀
  refine x_assign I₁₀ (ev_compS (rngL 0 8) TInt (fun m => one (sg m)) (Γc := [("share", TFlt sh), ("level", TFlt lv)]) ⟨by tm_at "ev", itr_rng (by omega) (by omega), rfl, rfl, rfl, ⟨⟨rfl, .inl rfl, ⟨_, rfl⟩, .inl rfl⟩, ⟨rfl, .inl rfl, ⟨_, rfl⟩, .inl rfl⟩, trivial⟩, by decide, by decide, fun _ _ => rfl, by rw [List.length_map, List.length_map], Nat.le_of_ble_eq_true rfl, turns_map fun n hn c' C Y' hr' hC hY => ?_⟩) (slot_fn rfl) (hs := sw_cell I₁₀ rfl) fun s₁₁ I₁₁ => ?_
  · have hb := rngL_mem hn
    obtain ⟨b1, b2, b3⟩ := R.base n hb.1 hb.2
    have hsm : Sml n := sml_of (by omega)
    exact ⟨_, true, asg_name (.inl rfl), sub_cons rfl, trs_nil, rfl, ev_fn (sgn_spec b3) ((hr' _ hr).le (by decide)) gi_sign rfl (evs_cons (ev_fn (hsv_spec b1 b2) ((hr' _ hr).le (by decide)) gi_hsv rfl (by tm_at "evs") rfl) evs_nil rfl) rfl⟩
  clear I₁₀
  have hcl : ((cribsF sc).map TCrib).length ≤ 4096 := Nat.le_of_ble_eq_true rfl
  have hsg : ∀ m : Int, m ≠ -1 → (0 ≤ m ∧ m < 8) → (((rngL 0 8).map fun m => one (sg m)).map TStr)[m.toNat]? = some (TStr (markF sg m)) := fun m h1 h2 => by
    unfold markF
    rw [if_neg h1, List.getElem?_map, rng_get _ h2.1 h2.2]
    rfl
  refine x_compM (cribsF sc) TCrib (fun p => TWant (p.1, wantF sg p.2)) (Γc := [("signs", TList (((rngL 0 8).map fun m => one (sg m)).map TStr))]) I₁₁ ⟨by tm_at "ev", itr_list, rfl, rfl, rfl, ⟨⟨rfl, .inl rfl, ⟨_, rfl⟩, .inl rfl⟩, trivial⟩, by decide, by decide, fun _ _ => rfl, by rw [List.length_map, List.length_map], hcl, turns_map fun p hp c' C Y' hr' hC hY => ?_⟩ rfl rfl rfl fun s₁₂ I₁₂ => ?_
  · obtain ⟨d, hd, rfl⟩ := List.mem_map.mp hp
    have hcb : ((cribF d (plainF sc)).map TInt).length ≤ 4096 := by rw [List.length_map]; have := crib_len (d := d) (plain_len sc); omega
    refine ⟨_, true, asg_tup (xs := ["d", "crib"]) (.cons (.cons .nil)) rfl (fun x hx => ?_), sub_trans (sub_cons (x := "d") rfl) (sub_cons (x := "crib") rfl), trs_nil, rfl, ?_⟩
    · rcases List.mem_cons.mp hx with rfl | hx
      · exact .inl rfl
      · obtain rfl := List.mem_singleton.mp hx
        exact .inl rfl
    refine ev_tup (evs_cons (by tm_at "ev") (evs_cons (EV.castL (ev_meth ms_join ev_str (evs_cons (ev_compS (cribF d (plainF sc)) TInt (markF sg) (Γc := [("signs", TList (((rngL 0 8).map fun m => one (sg m)).map TStr))]) ⟨by tm_at "ev", itr_list, rfl, rfl, rfl, ⟨⟨rfl, .inl rfl, ⟨_, rfl⟩, .inl rfl⟩, trivial⟩, by decide, by decide, fun _ _ => rfl, by rw [List.length_map, List.length_map], hcb, turns_map fun m hm2 c2 C2 Y2 hr2 hC2 hY2 => ?_⟩) evs_nil rfl) rfl (m_join ?_) (by rfl)) rfl) evs_nil rfl) rfl) (Nat.le_of_ble_eq_true rfl)
    · refine ⟨_, true, asg_name (.inl rfl), sub_cons rfl, trs_nil, rfl, ?_⟩
      refine ev_ifT (tr_cmp (by tm_at "ev") (by tm_at "ev") op_eq_ii (by with_unfolding_all rfl)) (fun hb => ?_) (fun hb => ?_)
      · have hb' : m = -1 := by simpa using hb
        exact EV.castL ev_str (by unfold markF; rw [if_pos hb']; rfl)
      · have hb' : m ≠ -1 := by simpa using hb
        have h8 : 0 ≤ m ∧ m < 8 := (crib_mem m hm2).elim (fun h => absurd h hb') (plain_bd sc m)
        exact ev_sub (by tm_at "ev") (by tm_at "ev") (sub_list (by tm_at "plain") h8.1 (hsg m hb' h8) (Nat.le_of_ble_eq_true rfl))
    · refine join_ok (fun y hy => ?_) ?_
      · obtain ⟨n, _, rfl⟩ := List.mem_map.mp hy
        unfold markF
        split <;> exact Nat.le_of_ble_eq_true rfl
      · rw [List.length_map]; have := crib_len (d := d) (plain_len sc); omega
  clear I₁₁
  rw [show (cribsF sc).map (fun p => TWant (p.1, wantF sg p.2)) = (wantsF sg sc).map TWant by unfold wantsF; rw [List.map_map]; rfl] at I₁₂
  refine x_assign I₁₂ (ev_fn (table_spec (m := m) (ts := textsF sg (rowF sc)) (ws := wantsF sg sc) rfl (Nat.le_of_ble_eq_true rfl) hm) hr gi_table rfl (by tm_at "evs") rfl) (slot_fn rfl) fun s₁₃ I₁₃ => ?_
  clear I₁₂
  refine x_assign I₁₃ (ev_fn (due_spec (cribs := cribsF sc) (row := rowF sc) (row_len sc) (Nat.le_of_ble_eq_true rfl)) hr gi_due rfl (by tm_at "evs") rfl) (slot_fn rfl) fun s₁₄ I₁₄ => ?_
  clear I₁₃
  refine x_if I₁₄ (tr_cmp (by tm_at "ev") (by tm_at "ev") op_ne_dd (by with_unfolding_all rfl)) (fun hb s₁₅ I₁₅ => by rw [heq] at hb; cases hb) (fun _ s₁₅ I₁₅ => x_nil ?_)
  clear I₁₄
  generalize htb : tableF m (textsF sg (rowF sc)) (wantsF sg sc) = tb at I₁₅ heq hget
  generalize hdu : dueF (cribsF sc) (rowF sc) = du at I₁₅ heq hget
  refine x_assign I₁₅ (T := TList [TTup [TInt 0, TInt (keyF (((totF sc).fdiv 32).fmod 2))], TTup [TInt 1, TInt (keyF (((totF sc).fdiv 64).fmod 2))]]) (ev_list (evs_cons (ev_tup (evs_cons (by tm_at "ev") (evs_cons (ev_ifT (tr_cmp (by tm_at "ev") (by tm_at "ev") op_eq_ii (by with_unfolding_all rfl)) (fun hb => ?_) (fun hb => ?_)) evs_nil rfl) rfl) (Nat.le_of_ble_eq_true rfl)) (evs_cons (ev_tup (evs_cons (by tm_at "ev") (evs_cons (ev_ifT (tr_cmp (by tm_at "ev") (by tm_at "ev") op_eq_ii (by with_unfolding_all rfl)) (fun hb => ?_) (fun hb => ?_)) evs_nil rfl) rfl) (Nat.le_of_ble_eq_true rfl)) evs_nil rfl) rfl) (Nat.le_of_ble_eq_true rfl)) (slot_fn rfl) fun s₁₆ I₁₆ => ?_
  · exact EV.castL (ev_neg ev_int) (by unfold keyF; rw [if_pos (by simpa using hb)])
  · exact EV.castL ev_int (by unfold keyF; rw [if_neg (by simpa using hb)])
  · exact EV.castL (ev_neg ev_int) (by unfold keyF; rw [if_pos (by simpa using hb)])
  · exact EV.castL ev_int (by unfold keyF; rw [if_neg (by simpa using hb)])
  clear I₁₅
  have hk0 := key_pm (((totF sc).fdiv 32).fmod 2)
  have hk1 := key_pm (((totF sc).fdiv 64).fmod 2)
  generalize keyF (((totF sc).fdiv 32).fmod 2) = k0 at I₁₆ hk0
  generalize keyF (((totF sc).fdiv 64).fmod 2) = k1 at I₁₆ hk1
  have hmul0 : ∀ z, IntMulOk k0 z := fun z => IntMulOk.of_left (intBits_le_64 (by omega) (by omega))
  have hmul1 : ∀ z, IntMulOk k1 z := fun z => IntMulOk.of_left (intBits_le_64 (by omega) (by omega))
  refine x_for (fun i => [("keys", TList [TTup [TInt 0, TInt k0], TTup [TInt 1, TInt k1]]), ("due", TDict du), ("table", TDict tb)]) (fun i => []) (I₁₆.sub (SubAll.sub (Γ := [("keys", TList [TTup [TInt 0, TInt k0], TTup [TInt 1, TInt k1]]), ("due", TDict du), ("table", TDict tb)]) ⟨rfl, rfl, rfl, trivial⟩)) (by tm_at "ev") itr_dict (fun _ => rfl) (fun i U hU b wr ob E' => ?_) fun s₁₇ I₁₇ => ?_
  · rw [List.getElem?_map] at hU
    obtain ⟨p, hp, rfl⟩ := Option.map_eq_some_iff.mp hU
    obtain ⟨w, hw⟩ := dget_mem (List.mem_of_getElem? hp)
    have hwt : dget tb p.1 = some w := by rw [hget]; exact hw
    have hall : ∀ r, (dget tb r).isSome = true → dget tb r = some ((dget du r).getD 0) := fun r h => by
      rw [← hget r]
      cases e : dget tb r with
      | none => rw [e] at h; cases h
      | some n => rfl
    have hall2 : ∀ r, (dget du r).isSome = true → dget du r = some ((dget du r).getD 0) := fun r h => by
      cases e : dget du r with
      | none => rw [e] at h; cases h
      | some n => rfl
    generalize p.1 = left at hw hwt ⊢
    refine ⟨_, asg_name (slot_up (slot_fn rfl) fun a h => List.mem_append_right _ h), fun s₁₈ I₁₈ => ?_⟩
    refine x_compF (c := { c with s₀ := b }) (rngL 0 8) TInt (fun r => if (dget tb r).isSome then some (TInt (cmpF [w, left] [(dget du r).getD 0, r] [(0, k0), (1, k1)])) else none) (Γc := [("keys", TList [TTup [TInt 0, TInt k0], TTup [TInt 1, TInt k1]]), ("left", TInt left), ("table", TDict tb)]) I₁₈ ⟨by tm_at "ev", itr_rng (by omega) (by omega), rfl, rfl, rfl, ⟨⟨rfl, .inl rfl, ⟨_, rfl⟩, .inl rfl⟩, ⟨rfl, .inl rfl, ⟨_, rfl⟩, .inl rfl⟩, ⟨rfl, .inl rfl, ⟨_, rfl⟩, .inl rfl⟩, trivial⟩, by decide, by decide, fun _ _ => rfl, by simp, Nat.le_of_ble_eq_true rfl, turns_map fun r hrr c' C Y' hr' hC hY => ?_⟩ rfl rfl rfl fun s₁₉ I₁₉ => ?_
    · refine ⟨_, (dget tb r).isSome, asg_name (.inl rfl), sub_cons rfl, trs_one (tr_cmp (by tm_at "ev") (by tm_at "ev") op_in_d (by with_unfolding_all rfl)), ?_⟩
      cases hs : (dget tb r).isSome with
      | false => rw [if_neg (by decide)]
      | true =>
        rw [if_pos rfl]
        refine ⟨rfl, ?_⟩
        have hcs : Spec 1 70 [TComp (TList [TTup [TInt 0, TInt k0], TTup [TInt 1, TInt k1]]), TTup [TInt w, TInt left], TTup [TInt ((dget du r).getD 0), TInt r]] (TInt (cmpF [w, left] [(dget du r).getD 0, r] [(0, k0), (1, k1)])) :=
          compare_spec (l := [w, left]) (r := [(dget du r).getD 0, r]) (ds := [(0, k0), (1, k1)]) rfl rfl (fun q hq => by
            simp at hq
            rcases hq with rfl | rfl
            · exact ⟨(by decide : (0 : Int) ≤ 0), (by decide : (0 : Int) < 2)⟩
            · exact ⟨(by decide : (0 : Int) ≤ 1), (by decide : (1 : Int) < 2)⟩)
        refine ev_compare (ev_tc rfl (by tm_at "ev") handed_list ((hr' _ hr).le (by decide)) rfl) (ev_tup (evs_cons (ev_sub (by tm_at "ev") (by tm_at "ev") (sub_dict (by tm_at "plain") hwt)) (evs_cons (by tm_at "ev") evs_nil rfl) rfl) (Nat.le_of_ble_eq_true rfl)) (ev_tup (evs_cons (ev_sub (by tm_at "ev") (by tm_at "ev") (sub_dict (by tm_at "plain") (hall r hs))) (evs_cons (by tm_at "ev") evs_nil rfl) rfl) (Nat.le_of_ble_eq_true rfl)) rfl hcs ((hr' _ hr).le (by decide)) (by rfl)
    clear I₁₈
    refine x_compF (c := { c with s₀ := b }) (rngL 0 8) TInt (fun r => if (dget du r).isSome then some (T2I (k0 * (dget du r).getD 0, k1 * r)) else none) (Γc := [("keys", TList [TTup [TInt 0, TInt k0], TTup [TInt 1, TInt k1]]), ("due", TDict du)]) I₁₉ ⟨by tm_at "ev", itr_rng (by omega) (by omega), rfl, rfl, rfl, ⟨⟨rfl, .inl rfl, ⟨_, rfl⟩, .inl rfl⟩, ⟨rfl, .inl rfl, ⟨_, rfl⟩, .inl rfl⟩, trivial⟩, by decide, by decide, fun _ _ => rfl, by simp, Nat.le_of_ble_eq_true rfl, turns_map fun r hrr c' C Y' hr' hC hY => ?_⟩ rfl rfl rfl fun s₂₀ I₂₀ => ?_
    · refine ⟨_, (dget du r).isSome, asg_name (.inl rfl), sub_cons rfl, trs_one (tr_cmp (by tm_at "ev") (by tm_at "ev") op_in_d (by with_unfolding_all rfl)), ?_⟩
      cases hs : (dget du r).isSome with
      | false => rw [if_neg (by decide)]
      | true =>
        rw [if_pos rfl]
        exact ⟨rfl, ev_tup (evs_cons (ev_op (ev_sub (ev_sub (by tm_at "ev") (by tm_at "ev") (sub_list (U := TTup [TInt 0, TInt k0]) (by tm_at "plain") (by decide) rfl (Nat.le_of_ble_eq_true rfl))) (by tm_at "ev") (sub_tup (U := TInt k0) (by tm_at "plain") (by decide) rfl (Nat.le_of_ble_eq_true rfl))) (ev_sub (by tm_at "ev") (by tm_at "ev") (sub_dict (by tm_at "plain") (hall2 r hs))) (op_mul_ii (hmul0 _)))
          (evs_cons (ev_op (ev_sub (ev_sub (by tm_at "ev") (by tm_at "ev") (sub_list (U := TTup [TInt 1, TInt k1]) (by tm_at "plain") (by decide) rfl (Nat.le_of_ble_eq_true rfl))) (by tm_at "ev") (sub_tup (U := TInt k1) (by tm_at "plain") (by decide) rfl (Nat.le_of_ble_eq_true rfl))) (by tm_at "ev") (op_mul_ii (hmul1 _))) evs_nil rfl) rfl) (Nat.le_of_ble_eq_true rfl)⟩
    clear I₁₉
    refine x_assign (c := { c with s₀ := b }) I₂₀ (T := TTup [TInt (k0 * w), TInt (k1 * left)]) (ev_tup (evs_cons (ev_op (ev_sub (ev_sub (by tm_at "ev") (by tm_at "ev") (sub_list (U := TTup [TInt 0, TInt k0]) (by tm_at "plain") (by decide) rfl (Nat.le_of_ble_eq_true rfl))) (by tm_at "ev") (sub_tup (U := TInt k0) (by tm_at "plain") (by decide) rfl (Nat.le_of_ble_eq_true rfl))) (ev_sub (by tm_at "ev") (by tm_at "ev") (sub_dict (by tm_at "plain") hw)) (op_mul_ii (hmul0 _)))
          (evs_cons (ev_op (ev_sub (ev_sub (by tm_at "ev") (by tm_at "ev") (sub_list (U := TTup [TInt 1, TInt k1]) (by tm_at "plain") (by decide) rfl (Nat.le_of_ble_eq_true rfl))) (by tm_at "ev") (sub_tup (U := TInt k1) (by tm_at "plain") (by decide) rfl (Nat.le_of_ble_eq_true rfl))) (by tm_at "ev") (op_mul_ii (hmul1 _))) evs_nil rfl) rfl) (Nat.le_of_ble_eq_true rfl)) (slot_up (slot_fn rfl) fun a h => List.mem_append_right _ h) fun s₂₁ I₂₁ => ?_
    clear I₂₀
    rw [told_eq hget] at I₂₁
    rw [order_eq] at I₂₁
    have hol : ((orderF k0 k1 du).map T2I).length ≤ 4096 := by rw [List.length_map]; have := order_len k0 k1 du; omega
    refine x_if (c := { c with s₀ := b }) I₂₁ (tr_cmp (by tm_at "ev") (ev_compI (orderF k0 k1 du) T2I (sgnF (k0 * w) (k1 * left)) (Γc := [("mine", TTup [TInt (k0 * w), TInt (k1 * left)])]) ⟨by tm_at "ev", itr_list, rfl, rfl, rfl, ⟨⟨rfl, .inl rfl, ⟨_, rfl⟩, .inl rfl⟩, trivial⟩, by decide, by decide, fun _ _ => rfl, by rw [List.length_map, List.length_map], hol, turns_map fun q hq c' C Y' hr' hC hY => ?_⟩) op_ne_ll (by with_unfolding_all rfl)) (fun hb s₂₂ I₂₂ => ?_) (fun _ s₂₂ I₂₂ => ?_)
    · refine ⟨_, true, asg_name (.inl rfl), sub_cons rfl, trs_nil, rfl, ?_⟩
      refine ev_ifT (tr_cmp (by tm_at "ev") (by tm_at "ev") op_eq_tt (by with_unfolding_all rfl)) (fun hb => ?_) (fun hb => ev_ifT (tr_cmp (by tm_at "ev") (by tm_at "ev") op_gt_tt (by with_unfolding_all rfl)) (fun hb2 => ?_) (fun hb2 => ?_))
      · exact EV.castL ev_int (by unfold sgnF; rw [hb]; rfl)
      · exact EV.castL ev_int (by unfold sgnF; rw [hb, hb2]; rfl)
      · exact EV.castL (ev_neg ev_int) (by unfold sgnF; rw [hb, hb2]; rfl)
    · rw [told_order hk0 hk1] at hb
      simp at hb
    · exact x_nil (wpAny_execs_nil (I₂₂.sub (SubAll.sub (Γ := [("keys", TList [TTup [TInt 0, TInt k0], TTup [TInt 1, TInt k1]]), ("due", TDict du), ("table", TDict tb)]) ⟨rfl, rfl, rfl, trivial⟩)))
  · exact x_ret I₁₇ (by tm_at "ev") fun v s' k p => ret_mk k p
end Mine
end

section
open PySem PySem.W PyProof.Rows PySem.Calls PySem.Flt
open Builtin Builtin.Str StrLaws
set_option maxRecDepth 100000
set_option maxHeartbeats 1000000
set_option linter.unusedVariables false
namespace Mine
noncomputable def ostep (s sub : Str) (hi limit : Nat) (st : Array Nat × Nat) (i : Nat) : Array Nat × Nat :=
  if ((st.fst.size < limit ∧ st.snd ≤ i) ∧ i + sub.length ≤ hi) ∧ subAt s sub i = true then (st.fst.push i, i + sub.length) else st
theorem occ_foldl (s sub : Str) (lo hi limit : Nat) : occurrences s sub lo hi limit = ((List.range' lo (hi + 1 - lo)).foldl (ostep s sub hi limit) (#[], lo)).1.toList := by
  rw [occ_eq]
  have key : ∀ (l : List Nat) (st : Array Nat × Nat), (forIn (m := Id) l st (occBody s sub hi limit)).run = l.foldl (ostep s sub hi limit) st := fun l => by
    induction l with
    | nil => intro st; rfl
    | cons a r ih =>
      intro st
      rw [List.forIn_cons, List.foldl_cons]
      unfold occBody ostep
      split
      · exact ih _
      · exact ih _
  rw [key]
theorem foldl_skip {s sub : Str} {hi limit : Nat} : ∀ {l : List Nat} {st : Array Nat × Nat}, (∀ i ∈ l, ¬ (st.2 ≤ i ∧ i + sub.length ≤ hi ∧ subAt s sub i = true)) → l.foldl (ostep s sub hi limit) st = st
  | [], st, _ => rfl
  | a :: r, st, h => by
    rw [List.foldl_cons]
    have h1 : ostep s sub hi limit st a = st := by
      unfold ostep
      rw [if_neg fun c => h a (.head _) ⟨c.1.1.2, c.1.2, c.2⟩]
    rw [h1]
    exact foldl_skip fun i hi => h i (.tail _ hi)
theorem foldl_hit {s sub : Str} {hi limit : Nat} {st : Array Nat × Nat} {i : Nat} (h1 : st.1.size < limit) (h2 : st.2 ≤ i) (h3 : i + sub.length ≤ hi) (h4 : subAt s sub i = true) : ostep s sub hi limit st i = (st.1.push i, i + sub.length) := by
  unfold ostep
  rw [if_pos ⟨⟨⟨h1, h2⟩, h3⟩, h4⟩]
theorem foldl_full {s sub : Str} {hi limit : Nat} : ∀ {l : List Nat} {st : Array Nat × Nat}, limit ≤ st.1.size → l.foldl (ostep s sub hi limit) st = st
  | [], st, _ => rfl
  | a :: r, st, h => by
    rw [List.foldl_cons]
    have h1 : ostep s sub hi limit st a = st := by
      unfold ostep
      rw [if_neg fun c => by have := c.1.1.1; omega]
    rw [h1]
    exact foldl_full h
/-- the first place -/
theorem occ_first {s sub : Str} {lo hi i : Nat} (h1 : lo ≤ i) (h3 : i + sub.length ≤ hi) (h4 : subAt s sub i = true) (hn : ∀ k, lo ≤ k → k < i → ¬ (k + sub.length ≤ hi ∧ subAt s sub k = true)) : occurrences s sub lo hi 1 = [i] := by
  rw [occ_foldl]
  obtain ⟨a, rfl⟩ := Nat.exists_eq_add_of_le h1
  obtain ⟨b, rfl⟩ := Nat.exists_eq_add_of_le (show lo + a ≤ hi by omega)
  have e : List.range' lo (lo + a + b + 1 - lo) = List.range' lo a ++ (lo + a) :: List.range' (lo + a + 1) b := by
    rw [show lo + a + b + 1 = lo + (a + (b + 1)) by ac_rfl, Nat.add_sub_cancel_left, ← List.range'_append_1, List.range'_succ]
  have s1 : (List.range' lo a).foldl (ostep s sub (lo + a + b) 1) (#[], lo) = (#[], lo) := foldl_skip fun k hk c => by
    rw [List.mem_range'_1] at hk
    exact hn k hk.1 (by omega) ⟨c.2.1, c.2.2⟩
  have s2 : ostep s sub (lo + a + b) 1 (#[], lo) (lo + a) = (#[lo + a], lo + a + sub.length) := foldl_hit (show 0 < 1 by omega) h1 h3 h4
  have s3 : (List.range' (lo + a + 1) b).foldl (ostep s sub (lo + a + b) 1) (#[lo + a], lo + a + sub.length) = (#[lo + a], lo + a + sub.length) := foldl_full (show 1 ≤ 1 by omega)
  rw [e, List.foldl_append, s1, List.foldl_cons, s2, s3]
theorem occ_none' {s sub : Str} {lo hi limit : Nat} (hn : ∀ k, lo ≤ k → ¬ (k + sub.length ≤ hi ∧ subAt s sub k = true)) : occurrences s sub lo hi limit = [] := by
  have s1 : (List.range' lo (hi + 1 - lo)).foldl (ostep s sub hi limit) (#[], lo) = (#[], lo) := foldl_skip fun k hk c => by
    rw [List.mem_range'_1] at hk
    exact hn k hk.1 ⟨c.2.1, c.2.2⟩
  rw [occ_foldl, s1]
/-- two places, and no other -/
theorem occ_two {s sub : Str} {hi limit p q : Nat} (hl : 2 ≤ limit) (hp : p + sub.length ≤ q) (hq : q + sub.length ≤ hi) (h1 : subAt s sub p = true) (h2 : subAt s sub q = true)
    (n1 : ∀ k, k < p → subAt s sub k = false) (n2 : ∀ k, p + sub.length ≤ k → k < q → subAt s sub k = false) (n3 : ∀ k, q + sub.length ≤ k → k + sub.length ≤ hi → subAt s sub k = false) (hw : 0 < sub.length) :
    occurrences s sub 0 hi limit = [p, q] := by
  rw [occ_foldl]
  obtain ⟨a, rfl⟩ := Nat.exists_eq_add_of_le (show p + 1 ≤ q by omega)
  obtain ⟨b, rfl⟩ := Nat.exists_eq_add_of_le (show p + 1 + a ≤ hi by omega)
  have e : List.range' 0 (p + 1 + a + b + 1 - 0) = List.range' 0 p ++ p :: (List.range' (p + 1) a ++ (p + 1 + a) :: List.range' (p + 1 + a + 1) b) := by
    rw [Nat.sub_zero, show p + 1 + a + b + 1 = p + ((a + (b + 1)) + 1) by ac_rfl, ← List.range'_append_1, Nat.zero_add, List.range'_succ, ← List.range'_append_1, List.range'_succ]
  have s1 : (List.range' 0 p).foldl (ostep s sub (p + 1 + a + b) limit) (#[], 0) = (#[], 0) := foldl_skip fun k hk c => by
    rw [List.mem_range'_1] at hk
    have c3 := n1 k (by omega)
    rw [c.2.2] at c3; cases c3
  have s2 : (List.range' (p + 1) a).foldl (ostep s sub (p + 1 + a + b) limit) (#[p], p + sub.length) = (#[p], p + sub.length) := foldl_skip fun k hk c => by
    rw [List.mem_range'_1] at hk
    have c2 := c.1
    have c3 := n2 k c2 (by omega)
    rw [c.2.2] at c3; cases c3
  have s3 : (List.range' (p + 1 + a + 1) b).foldl (ostep s sub (p + 1 + a + b) limit) (#[p, p + 1 + a], p + 1 + a + sub.length) = (#[p, p + 1 + a], p + 1 + a + sub.length) := foldl_skip fun k hk c => by
    rw [List.mem_range'_1] at hk
    have c2 := c.1
    have c3 := n3 k c2 c.2.1
    rw [c.2.2] at c3; cases c3
  have s4 : ostep s sub (p + 1 + a + b) limit (#[], 0) p = (#[p], p + sub.length) := foldl_hit (show 0 < limit by omega) (Nat.zero_le _) (by omega) h1
  have s5 : ostep s sub (p + 1 + a + b) limit (#[p], p + sub.length) (p + 1 + a) = (#[p, p + 1 + a], p + 1 + a + sub.length) := foldl_hit (show 1 < limit by omega) hp hq h2
  rw [e, List.foldl_append, s1, List.foldl_cons, s4, List.foldl_append, s2, List.foldl_cons, s5, s3]
end Mine

end

section
open PySem PySem.W PyProof.Rows PySem.Calls PySem.Flt
open Builtin Builtin.Str StrLaws
set_option maxRecDepth 100000
set_option maxHeartbeats 1000000
set_option linter.unusedVariables false
namespace Mine
/-- a text of these signs -/
noncomputable def tx (l : List Nat) : Str := ⟨l.toArray⟩
theorem tx_len (l : List Nat) : (tx l).length = l.length := by simp [tx, Str.length]
theorem tx_sub (l b : List Nat) (i : Nat) : subAt (tx l) (tx b) i = ((l.drop i).take b.length == b) := by
  rw [subAt_eq, tx_len]; rfl
theorem tx_strSub (l : List Nat) (i j : Nat) : strSub (tx l) i j = tx ((l.drop i).take (j - i)) := by
  apply Str.ext'
  apply Array.toList_inj.mp
  rw [strSub_toList]
  rfl
theorem join_nil (ys : List Str) : Txt.join "" ys = tx ((ys.map fun y => y.cps.toList).flatten) := by
  unfold Txt.join
  have key : ∀ (r : List Str) (acc : Array Nat), (r.foldl (fun acc p => acc ++ ("" : Str).cps ++ p.cps) acc).toList = acc.toList ++ (r.map fun y => y.cps.toList).flatten := fun r => by
    induction r with
    | nil => intro acc; simp
    | cons y r ih =>
      intro acc
      rw [List.foldl_cons, ih]
      have e0 : ("" : Str).cps = #[] := rfl
      rw [e0]
      simp
  apply Str.ext'
  apply Array.toList_inj.mp
  show ((ys.drop 1).foldl (fun acc p => acc ++ ("" : Str).cps ++ p.cps) (ys.headD Str.empty).cps).toList = _
  rw [key]
  cases ys with
  | nil => rfl
  | cons y r => simp [tx]
theorem dots_tx : dots = tx [46, 46, 46] := rfl
theorem text_tx (sg : Int → Nat) (row : List Int) (key : Int) : textF sg row key = tx ((turnF row key).map sg) := by
  unfold textF turnF
  rw [join_nil]
  congr 1
  rw [List.map_map, List.map_map]
  induction row with
  | nil => rfl
  | cons n r ih => simp only [List.map_cons, List.flatten_cons]; rw [ih]; rfl
theorem want_tx (sg : Int → Nat) (A B C : List Int) (hA : ∀ m ∈ A, m ≠ -1) (hB : ∀ m ∈ B, m ≠ -1) (hC : ∀ m ∈ C, m ≠ -1) :
    wantF sg (A ++ [-1] ++ B ++ [-1] ++ C) = tx (A.map sg ++ [46, 46, 46] ++ B.map sg ++ [46, 46, 46] ++ C.map sg) := by
  unfold wantF
  rw [join_nil]
  congr 1
  have key : ∀ X : List Int, (∀ m ∈ X, m ≠ -1) → ((X.map (markF sg)).map fun y => y.cps.toList).flatten = X.map sg := fun X => by
    induction X with
    | nil => intro _; rfl
    | cons m r ih =>
      intro h
      have h1 : markF sg m = one (sg m) := by unfold markF; rw [if_neg (h m (.head _))]
      simp only [List.map_cons, List.flatten_cons]
      rw [ih fun x hx => h x (.tail _ hx), h1]; rfl
  have hd : (([-1].map (markF sg)).map fun y => y.cps.toList).flatten = [46, 46, 46] := by
    have : markF sg (-1) = dots := by unfold markF; rw [if_pos rfl]
    simp only [List.map_cons, List.map_nil, this]; rfl
  simp only [List.map_append, List.flatten_append, key A hA, key B hB, key C hC, hd]
/-- the split of a text at its two rows of dots -/
theorem split_ok {a b d : List Nat} (ha : ∀ x ∈ a, x ≠ 46) (hb : ∀ x ∈ b, x ≠ 46) (hd : ∀ x ∈ d, x ≠ 46) (la : a.length ≤ 100) (lb : b.length ≤ 100) (ld : d.length ≤ 100) :
    SplitOk (tx (a ++ [46, 46, 46] ++ b ++ [46, 46, 46] ++ d)) (tx a) (tx b) (tx d) := by
  have hlen : (a ++ [46, 46, 46] ++ b ++ [46, 46, 46] ++ d).length = a.length + 3 + b.length + 3 + d.length := by simp only [List.length_append, List.length_cons, List.length_nil]
  have hl : (tx (a ++ [46, 46, 46] ++ b ++ [46, 46, 46] ++ d)).length = a.length + 3 + b.length + 3 + d.length := by rw [tx_len, hlen]
  have h3 : dots.length = 3 := rfl
  have at1 : subAt (tx (a ++ [46, 46, 46] ++ b ++ [46, 46, 46] ++ d)) dots a.length = true := by
    rw [dots_tx, tx_sub, beq_iff_eq]
    simp [List.append_assoc]
  have at2 : subAt (tx (a ++ [46, 46, 46] ++ b ++ [46, 46, 46] ++ d)) dots (a.length + 3 + b.length) = true := by
    rw [dots_tx, tx_sub, beq_iff_eq]
    have e : a ++ [46, 46, 46] ++ b ++ [46, 46, 46] ++ d = (a ++ [46, 46, 46] ++ b) ++ ([46, 46, 46] ++ d) := by simp [List.append_assoc]
    rw [e, List.drop_append_of_le_length (by simp only [List.length_append, List.length_cons, List.length_nil]; omega), List.drop_eq_nil_of_le (by simp only [List.length_append, List.length_cons, List.length_nil]; omega)]
    rfl
  have not_at : ∀ k x, (a ++ [46, 46, 46] ++ b ++ [46, 46, 46] ++ d)[k]? = some x → x ≠ 46 → subAt (tx (a ++ [46, 46, 46] ++ b ++ [46, 46, 46] ++ d)) dots k = false := fun k x hx hne => by
    rw [dots_tx, tx_sub, beq_eq_false_iff_ne]
    intro e
    have h0 := congrArg (·[0]?) e
    simp only [List.length_cons, List.length_nil, List.getElem?_take, List.getElem?_drop, Nat.add_zero] at h0
    rw [hx] at h0
    simp at h0
    exact hne h0
  have occ : occurrences (tx (a ++ [46, 46, 46] ++ b ++ [46, 46, 46] ++ d)) dots 0 (tx (a ++ [46, 46, 46] ++ b ++ [46, 46, 46] ++ d)).length ((tx (a ++ [46, 46, 46] ++ b ++ [46, 46, 46] ++ d)).length + 1) = [a.length, a.length + 3 + b.length] := by
    refine occ_two (by omega) (by rw [h3]; omega) (by rw [h3, hl]; omega) at1 at2 (fun k hk => ?_) (fun k h1 h2 => ?_) (fun k h1 h2 => ?_) (by rw [h3]; omega)
    · refine not_at k a[k] ?_ (ha _ (List.getElem_mem hk))
      simp only [List.append_assoc]
      rw [List.getElem?_append_left hk]
      simp
    · rw [h3] at h1
      have hk : k - (a.length + 3) < b.length := by omega
      refine not_at k b[k - (a.length + 3)] ?_ (hb _ (List.getElem_mem hk))
      have e : a ++ [46, 46, 46] ++ b ++ [46, 46, 46] ++ d = (a ++ [46, 46, 46]) ++ (b ++ ([46, 46, 46] ++ d)) := by simp [List.append_assoc]
      rw [e, List.getElem?_append_right (by simp; omega), List.getElem?_append_left (by simp; omega)]
      simp
    · rw [h3] at h1 h2
      rw [hl] at h2
      have hk : k - (a.length + 3 + b.length + 3) < d.length := by omega
      refine not_at k d[k - (a.length + 3 + b.length + 3)] ?_ (hd _ (List.getElem_mem hk))
      rw [List.getElem?_append_right (by simp only [List.length_append, List.length_cons, List.length_nil]; omega)]
      have e : (a ++ [46, 46, 46] ++ b ++ [46, 46, 46]).length = a.length + 3 + b.length + 3 := by simp only [List.length_append, List.length_cons, List.length_nil]
      rw [e]
      exact List.getElem?_eq_getElem hk
  refine ⟨by rw [hl]; omega, ?_, ?_, by rw [occ]; rfl, ?_, by rw [tx_len]; omega, by rw [tx_len]; omega, by rw [tx_len]; omega⟩
  · have := (found_iff (tx (a ++ [46, 46, 46] ++ b ++ [46, 46, 46] ++ d)) dots).mpr ⟨a.length, by rw [h3, hl]; omega, at1⟩
    simpa using this
  · rw [Bool.or_eq_false_iff]
    refine ⟨decide_eq_false (by rw [h3, hl]; omega), decide_eq_false ?_⟩
    have h1 : Builtin.Str.strKind dots = 1 := by decide +kernel
    rw [h1]
    unfold Builtin.Str.strKind
    split
    · omega
    · split <;> omega
  · rw [occ, partsBetween_eq, h3]
    show [strSub (tx (a ++ [46, 46, 46] ++ b ++ [46, 46, 46] ++ d)) 0 a.length, strSub (tx (a ++ [46, 46, 46] ++ b ++ [46, 46, 46] ++ d)) (a.length + 3) (a.length + 3 + b.length), strSub (tx (a ++ [46, 46, 46] ++ b ++ [46, 46, 46] ++ d)) (a.length + 3 + b.length + 3) (tx (a ++ [46, 46, 46] ++ b ++ [46, 46, 46] ++ d)).length] = _
    rw [hl, tx_strSub, tx_strSub, tx_strSub]
    have e1 : ((a ++ [46, 46, 46] ++ b ++ [46, 46, 46] ++ d).drop 0).take (a.length - 0) = a := by simp [List.append_assoc]
    have e2 : ((a ++ [46, 46, 46] ++ b ++ [46, 46, 46] ++ d).drop (a.length + 3)).take (a.length + 3 + b.length - (a.length + 3)) = b := by
      have e : a ++ [46, 46, 46] ++ b ++ [46, 46, 46] ++ d = (a ++ [46, 46, 46]) ++ (b ++ ([46, 46, 46] ++ d)) := by simp [List.append_assoc]
      rw [e, List.drop_append_of_le_length (by simp), List.drop_eq_nil_of_le (by simp)]
      simp
    have e3 : ((a ++ [46, 46, 46] ++ b ++ [46, 46, 46] ++ d).drop (a.length + 3 + b.length + 3)).take (a.length + 3 + b.length + 3 + d.length - (a.length + 3 + b.length + 3)) = d := by
      rw [List.drop_append_of_le_length (by simp only [List.length_append, List.length_cons, List.length_nil]; omega), List.drop_eq_nil_of_le (by simp only [List.length_append, List.length_cons, List.length_nil]; omega)]
      rw [Nat.add_sub_cancel_left]
      simp
    rw [e1, e2, e3]
end Mine

end

section
open PySem PySem.W PyProof.Rows PySem.Calls PySem.Flt
open Builtin Builtin.Str StrLaws
set_option maxRecDepth 100000
set_option maxHeartbeats 1000000
set_option linter.unusedVariables false
namespace Mine
noncomputable def mt (T B : List Int) (i : Nat) : Bool := decide ((T.drop i).take B.length = B)
theorem mt_len {T B : List Int} {i : Nat} (h : mt T B i = true) : B = [] ∨ i + B.length ≤ T.length := by
  have e := congrArg List.length (of_decide_eq_true h)
  rw [List.length_take, List.length_drop] at e
  by_cases hb : B.length = 0
  · exact .inl (List.length_eq_zero_iff.mp hb)
  · exact .inr (by omega)
noncomputable def OkL (X : List Int) : Prop := ∀ x ∈ X, 0 ≤ x ∧ x < 8
noncomputable def Inj (sg : Int → Nat) : Prop := ∀ x y : Int, (0 ≤ x ∧ x < 8) → (0 ≤ y ∧ y < 8) → sg x = sg y → x = y
theorem map_inj {sg : Int → Nat} (hi : Inj sg) : ∀ {xs ys : List Int}, OkL xs → OkL ys → xs.map sg = ys.map sg → xs = ys
  | [], [], _, _, _ => rfl
  | [], _ :: _, _, _, h => by simp at h
  | _ :: _, [], _, _, h => by simp at h
  | x :: xs, y :: ys, h1, h2, h => by
    rw [List.map_cons, List.map_cons, List.cons.injEq] at h
    rw [hi x y (h1 x (.head _)) (h2 y (.head _)) h.1, map_inj hi (fun z hz => h1 z (.tail _ hz)) (fun z hz => h2 z (.tail _ hz)) h.2]
theorem sub_mt {sg : Int → Nat} (hi : Inj sg) {T B : List Int} (hT : OkL T) (hB : OkL B) (i : Nat) : subAt (tx (T.map sg)) (tx (B.map sg)) i = mt T B i := by
  rw [tx_sub, Bool.eq_iff_iff, beq_iff_eq, mt, decide_eq_true_eq, List.length_map, ← List.map_drop, ← List.map_take]
  exact ⟨fun h => map_inj hi (fun x hx => hT x (List.mem_of_mem_drop (List.mem_of_mem_take hx))) hB h, fun h => by rw [h]⟩
theorem fi_nat (n k : Nat) : fromIndex n (k : Int) = k := by
  unfold fromIndex
  have : ¬ (k : Int) < 0 := by omega
  rw [if_neg this]
  omega
theorem least {Q : Nat → Prop} : ∀ n, Q n → ∃ i, Q i ∧ ∀ k, k < i → ¬ Q k := fun n => by
  induction n using Nat.strongRecOn with
  | _ n ih =>
    intro h
    by_cases hx : ∃ k, k < n ∧ Q k
    · obtain ⟨k, hk, hq⟩ := hx
      exact ih k hk hq
    · exact ⟨n, h, fun k hk hq => hx ⟨k, hk, hq⟩⟩
theorem find_hit {sg : Int → Nat} (hi : Inj sg) {T B : List Int} (hT : OkL T) (hB : OkL B) {p e f : Nat} (he : e ≤ T.length) (h1 : p ≤ f) (h2 : f + B.length ≤ e) (h3 : mt T B f = true) :
    ∃ i : Nat, find4 (tx (T.map sg)) (tx (B.map sg)) p e = i ∧ p ≤ i ∧ i + B.length ≤ e := by
  obtain ⟨i, ⟨q1, q2, q3⟩, q4⟩ := least (Q := fun i => p ≤ i ∧ i + B.length ≤ e ∧ mt T B i = true) f ⟨h1, h2, h3⟩
  refine ⟨i, ?_, q1, q2⟩
  unfold find4
  rw [fi_nat, fi_nat, tx_len, List.length_map, Nat.min_eq_left he, occ_first (i := i) q1 (by rw [tx_len, List.length_map]; exact q2) (by rw [sub_mt hi hT hB]; exact q3) (fun k k1 k2 c => q4 k k2 ⟨k1, by have := c.1; rw [tx_len, List.length_map] at this; exact this, by rw [← sub_mt hi hT hB]; exact c.2⟩)]
theorem find_miss {sg : Int → Nat} (hi : Inj sg) {T B : List Int} (hT : OkL T) (hB : OkL B) {p e : Nat} (he : e ≤ T.length) (h : ∀ f, p ≤ f → f + B.length ≤ e → mt T B f = false) :
    find4 (tx (T.map sg)) (tx (B.map sg)) p e = -1 := by
  unfold find4
  rw [fi_nat, fi_nat, tx_len, List.length_map, Nat.min_eq_left he, occ_none' (fun k k1 c => by
    have h1 := c.1
    rw [tx_len, List.length_map] at h1
    have h2 := c.2
    rw [sub_mt hi hT hB, h k k1 h1] at h2; cases h2)]
/-- what both say -/
noncomputable def EX (T A B C : List Int) : Prop := mt T A 0 = true ∧ C.length ≤ T.length ∧ mt T C (T.length - C.length) = true ∧ ∃ f, A.length ≤ f ∧ f + B.length + C.length ≤ T.length ∧ mt T B f = true

theorem loop_emA {sg : Int → Nat} (hi : Inj sg) {T X : List Int} (hT : OkL T) (hX : OkL X) {p e : Nat} (he : e ≤ T.length) (hp : p ≤ e) (r : List Str) :
    emLoop (tx (T.map sg)) e (emA (tx (X.map sg)) ++ r) p = emLoop (tx (T.map sg)) e r p := by
  unfold emA
  split
  · rename_i h0
    rw [tx_len, List.length_map] at h0
    have hX0 : X = [] := List.length_eq_zero_iff.mp (by omega)
    subst hX0
    have hf : ∃ i : Nat, find4 (tx (T.map sg)) (tx (([] : List Int).map sg)) p e = i ∧ i = p := by
      refine ⟨p, ?_, rfl⟩
      unfold find4
      rw [fi_nat, fi_nat, tx_len, List.length_map, Nat.min_eq_left he, occ_first (i := p) (Nat.le_refl _) (by rw [tx_len]; simpa using hp) (by rw [sub_mt hi hT hX]; simp [mt]) (fun k k1 k2 => by omega)]
    obtain ⟨i, e1, rfl⟩ := hf
    show (if find4 _ _ _ _ < 0 then false else emLoop _ _ _ _) = _
    rw [e1, if_neg (by omega), tx_len]
    simp
  · rfl
theorem em_iff {sg : Int → Nat} (hi : Inj sg) {T A B C : List Int} (hT : OkL T) (hA : OkL A) (hB : OkL B) (hC : OkL C) :
    emF (tx (A.map sg)) (tx (B.map sg)) (tx (C.map sg)) (tx (T.map sg)) = true ↔ EX T A B C := by
  have lA : ((tx (A.map sg)).length : Int) = A.length := by rw [tx_len, List.length_map]
  have lB : ((tx (B.map sg)).length : Int) = B.length := by rw [tx_len, List.length_map]
  have lC : ((tx (C.map sg)).length : Int) = C.length := by rw [tx_len, List.length_map]
  have lT : ((tx (T.map sg)).length : Int) = T.length := by rw [tx_len, List.length_map]
  have c1 : (¬ ((tx (A.map sg)).length : Int) = 0 ∧ Txt.startswith (tx (T.map sg)) (tx (A.map sg)) = false) ↔ ¬ mt T A 0 = true := by
    rw [lA, Txt.startswith, sub_mt hi hT hA, tx_len, tx_len, List.length_map, List.length_map]
    constructor
    · rintro ⟨h1, h2⟩ h3
      rw [h3, Bool.and_true, decide_eq_false_iff_not] at h2
      rcases mt_len h3 with h | h
      · subst h; simp at h1
      · omega
    · intro h
      have h' : mt T A 0 = false := by simpa using h
      refine ⟨fun h0 => h ?_, by rw [h', Bool.and_false]⟩
      have : A = [] := List.length_eq_zero_iff.mp (by omega)
      subst this; simp [mt]
  have c2 : (¬ ((tx (C.map sg)).length : Int) = 0 ∧ Txt.endswith (tx (T.map sg)) (tx (C.map sg)) = false) ↔ ¬ (C.length ≤ T.length ∧ mt T C (T.length - C.length) = true) := by
    rw [lC, Txt.endswith, tx_len, tx_len, List.length_map, List.length_map, sub_mt hi hT hC]
    constructor
    · rintro ⟨h1, h2⟩ ⟨h3, h4⟩
      rw [h4, Bool.and_true, decide_eq_false_iff_not] at h2
      omega
    · intro h
      refine ⟨fun h0 => h ?_, ?_⟩
      · have : C = [] := List.length_eq_zero_iff.mp (by omega)
        subst this; simp [mt]
      · rw [Bool.and_eq_false_iff, decide_eq_false_iff_not]
        by_cases hx : C.length ≤ T.length
        · right
          cases hm : mt T C (T.length - C.length) with
          | false => rfl
          | true => exact absurd ⟨hx, hm⟩ h
        · left; omega
  unfold emF
  by_cases h1 : mt T A 0 = true
  · rw [if_neg (by rw [c1]; exact fun h => h h1)]
    by_cases h2 : C.length ≤ T.length ∧ mt T C (T.length - C.length) = true
    · rw [if_neg (by rw [c2]; exact fun h => h h2), lA, lC, lT]
      by_cases h3 : (T.length : Int) - C.length < A.length
      · rw [if_pos h3]
        constructor
        · intro h; cases h
        · rintro ⟨_, _, _, f, f1, f2, _⟩; omega
      · rw [if_neg h3]
        have he : (T.length : Int) - C.length = ((T.length - C.length : Nat) : Int) := by omega
        rw [he, List.append_assoc, loop_emA hi hT hA (by omega) (by omega)]
        by_cases h4 : ∃ f, A.length ≤ f ∧ f + B.length + C.length ≤ T.length ∧ mt T B f = true
        · obtain ⟨f, f1, f2, f3⟩ := h4
          obtain ⟨i, e1, i1, i2⟩ := find_hit hi hT hB (p := A.length) (e := T.length - C.length) (f := f) (by omega) f1 (by omega) f3
          refine ⟨fun _ => ⟨h1, h2.1, h2.2, f, f1, f2, f3⟩, fun _ => ?_⟩
          show (if find4 _ _ _ _ < 0 then false else emLoop _ _ _ _) = true
          rw [e1, if_neg (by omega), lB]
          have e2 : (i : Int) + B.length = ((i + B.length : Nat) : Int) := by omega
          have := loop_emA hi hT hC (p := i + B.length) (e := T.length - C.length) (by omega) i2 []
          rw [List.append_nil] at this
          rw [e2]
          exact this
        · have hm := find_miss hi hT hB (p := A.length) (e := T.length - C.length) (by omega) (fun f f1 f2 => by
            cases hq : mt T B f with
            | false => rfl
            | true => exact absurd ⟨f, f1, by omega, hq⟩ h4)
          constructor
          · intro h
            have h : (if find4 (tx (T.map sg)) (tx (B.map sg)) A.length ((T.length - C.length : Nat) : Int) < 0 then false else emLoop _ _ _ _) = true := h
            rw [hm, if_pos (by decide)] at h; cases h
          · rintro ⟨_, _, _, hf⟩; exact absurd hf h4
    · rw [if_pos (by rw [c2]; exact h2)]
      constructor
      · intro h; cases h
      · rintro ⟨_, a, b, _⟩; exact absurd ⟨a, b⟩ h2
  · rw [if_pos (by rw [c1]; exact h1)]
    constructor
    · intro h; cases h
    · rintro ⟨a, _⟩; exact absurd a h1
theorem step_mt {T : List Int} {a : Int} {r : List Int} {p : Int} (hp : 0 ≤ p) : (decide ((T.take (p + 1).toNat).drop p.toNat = [a]) && mt T r (p + 1).toNat) = mt T (a :: r) p.toNat := by
  have e1 : (p + 1).toNat = p.toNat + 1 := by omega
  rw [e1]
  generalize p.toNat = q
  unfold mt
  rw [List.drop_take, Nat.add_sub_cancel_left, List.length_cons, Bool.eq_iff_iff, Bool.and_eq_true, decide_eq_true_eq, decide_eq_true_eq, decide_eq_true_eq, ← List.drop_drop]
  cases T.drop q with
  | nil => simp
  | cons x l => simp
theorem tk_run {T : List Int} : ∀ {A : List Int} {ps : List Int}, (∀ m ∈ A, m ≠ -1) → (∀ p ∈ ps, 0 ≤ p) → A.foldl (tkStep T) ps = (ps.filter fun p => mt T A p.toNat).map (· + (A.length : Int))
  | [], ps, _, _ => by
    have : (ps.filter fun p => mt T [] p.toNat) = ps := List.filter_eq_self.mpr fun p _ => by simp [mt]
    rw [this]
    simp
  | a :: r, ps, hA, hp => by
    have h1 : tkStep T ps a = (ps.filter fun p => decide ((T.take (p + 1).toNat).drop p.toNat = [a])).map (· + 1) := by unfold tkStep; rw [if_neg (hA a (.head _))]
    have h2 : ∀ p ∈ tkStep T ps a, 0 ≤ p := fun p hq => by
      rw [h1] at hq
      obtain ⟨q, hq2, rfl⟩ := List.mem_map.mp hq
      have := hp q (List.mem_filter.mp hq2).1
      omega
    rw [List.foldl_cons, tk_run (fun m hm => hA m (.tail _ hm)) h2, h1, List.filter_map, List.filter_filter, List.map_map]
    have h3 : (ps.filter fun p => ((fun p => mt T r p.toNat) ∘ fun x => x + 1) p && decide ((T.take (p + 1).toNat).drop p.toNat = [a])) = ps.filter fun p => mt T (a :: r) p.toNat := by
      refine List.filter_congr fun p hq => ?_
      rw [Bool.and_comm]
      exact step_mt (hp p hq)
    rw [h3]
    refine List.map_congr_left fun p _ => ?_
    simp only [Function.comp, List.length_cons]
    omega
theorem rngL_sorted (a b : Int) : (rngL a b).Pairwise (· < ·) := by
  unfold rngL
  rw [List.pairwise_map]
  exact List.pairwise_lt_range.imp fun h => by omega
theorem mem_rng {a b k : Int} : k ∈ rngL a b ↔ a ≤ k ∧ k < b := by
  refine ⟨mem_rngL, fun h => ?_⟩
  unfold rngL
  exact List.mem_map.mpr ⟨(k - a).toNat, List.mem_range.mpr (by omega), by omega⟩
theorem takes_iff {T A B C : List Int} (hA : OkL A) (hB : OkL B) (hC : OkL C) : takesF (A ++ [-1] ++ B ++ [-1] ++ C) T = true ↔ EX T A B C := by
  have nm : ∀ {X : List Int}, OkL X → ∀ m ∈ X, m ≠ -1 := fun h m hm e => by have := h m hm; omega
  unfold takesF
  rw [List.foldl_append, List.foldl_append, List.foldl_append, List.foldl_append, tk_run (nm hA) (by simp)]
  have hneg : ∀ ps : List Int, [-1].foldl (tkStep T) ps = (ps.take 1).flatMap fun f => rngL f (T.length + 1) := fun ps => by
    show tkStep T ps (-1) = _
    unfold tkStep; rw [if_pos rfl]
  rw [hneg, hneg]
  cases hA0 : mt T A 0 with
  | false =>
    have e0 : ([0].filter fun p : Int => mt T A p.toNat) = [] := by simp [hA0]
    rw [e0]
    rw [List.map_nil, List.take_nil, List.flatMap_nil, tk_run (nm hB) (by simp), List.filter_nil, List.map_nil, List.take_nil, List.flatMap_nil, tk_run (nm hC) (by simp)]
    constructor
    · intro h; simp at h
    · rintro ⟨h, _⟩; rw [hA0] at h; cases h
  | true =>
    have e0 : ([0].filter fun p : Int => mt T A p.toNat) = [0] := by simp [hA0]
    have e1 : ((([0] : List Int).map (· + (A.length : Int))).take 1).flatMap (fun f => rngL f (T.length + 1)) = rngL A.length (T.length + 1) := by simp
    rw [e0, e1, tk_run (nm hB) (fun p hp => by have := mem_rngL hp; omega)]
    cases hS : (rngL A.length (T.length + 1)).filter fun p => mt T B p.toNat with
    | nil =>
      rw [List.map_nil, List.take_nil, List.flatMap_nil, tk_run (nm hC) (by simp)]
      constructor
      · intro h; simp at h
      · rintro ⟨_, _, _, f, f1, f2, f3⟩
        have : (f : Int) ∈ (rngL A.length (T.length + 1)).filter fun p => mt T B p.toNat := List.mem_filter.mpr ⟨mem_rng.mpr (by omega), by simpa using f3⟩
        rw [hS] at this; cases this
    | cons f0 r =>
      have hf0 : f0 ∈ (rngL A.length (T.length + 1)).filter fun p => mt T B p.toNat := by rw [hS]; exact .head _
      obtain ⟨g1, g2⟩ := List.mem_filter.mp hf0
      have g3 := mem_rngL g1
      have hmin : ∀ k ∈ (rngL A.length (T.length + 1)).filter (fun p => mt T B p.toNat), f0 ≤ k := fun k hk => by
        have hp := (rngL_sorted A.length (T.length + 1)).filter fun p => mt T B p.toNat
        rw [hS] at hp hk
        rcases List.mem_cons.mp hk with rfl | hk
        · omega
        · have := (List.pairwise_cons.mp hp).1 k hk; omega
      have e2 : (((f0 :: r).map (· + (B.length : Int))).take 1).flatMap (fun f => rngL f (T.length + 1)) = rngL (f0 + B.length) (T.length + 1) := by simp
      rw [e2, tk_run (nm hC) (fun p hp => by have := mem_rngL hp; omega), List.any_eq_true]
      constructor
      · rintro ⟨x, hx, hxe⟩
        obtain ⟨q, hq, rfl⟩ := List.mem_map.mp hx
        obtain ⟨q1, q2⟩ := List.mem_filter.mp hq
        have q3 := mem_rngL q1
        have q4 : q + C.length = T.length := by simpa using hxe
        have q5 : q.toNat = T.length - C.length := by omega
        rw [q5] at q2
        exact ⟨hA0, by omega, q2, f0.toNat, by omega, by omega, g2⟩
      · rintro ⟨_, h2, h3, f, f1, f2, f3⟩
        have hk := hmin f (List.mem_filter.mpr ⟨mem_rng.mpr (by omega), by simpa using f3⟩)
        refine ⟨T.length, List.mem_map.mpr ⟨((T.length - C.length : Nat) : Int), List.mem_filter.mpr ⟨mem_rng.mpr (by omega), by simpa using h3⟩, by omega⟩, by simp⟩
end Mine

end

section
open PySem PySem.W PyProof.Rows PySem.Calls PySem.Flt
set_option maxRecDepth 100000
set_option maxHeartbeats 1000000
set_option linter.unusedVariables false
namespace Mine
noncomputable abbrev Kvs := List (Int × Int)
noncomputable def ND (d : Kvs) : Prop := (d.map (·.1)).Nodup
theorem dget_nil (k : Int) : dget [] k = none := rfl
theorem dget_cons (p : Int × Int) (r : Kvs) (k : Int) : dget (p :: r) k = if p.1 = k then some p.2 else dget r k := by
  unfold dget
  rw [List.find?_cons]
  by_cases h : p.1 = k <;> simp [h]
theorem dget_none {d : Kvs} {k : Int} : dget d k = none ↔ k ∉ d.map (·.1) := by
  induction d with
  | nil => simp [dget_nil]
  | cons p r ih =>
    rw [dget_cons, List.map_cons, List.mem_cons, not_or]
    by_cases h : p.1 = k
    · rw [if_pos h]
      constructor
      · intro e; cases e
      · rintro ⟨a, _⟩; exact absurd h.symm a
    · rw [if_neg h, ih]
      exact ⟨fun a => ⟨fun e => h e.symm, a⟩, fun a => a.2⟩
theorem dget_app (d e : Kvs) (k : Int) : dget (d ++ e) k = match dget d k with | some n => some n | none => dget e k := by
  induction d with
  | nil => rfl
  | cons p r ih =>
    rw [List.cons_append, dget_cons, dget_cons, ih]
    by_cases h : p.1 = k <;> simp [h]
theorem dget_upd (d : Kvs) (k n k' : Int) : dget (d.map fun kv => if kv.1 = k then (kv.1, n) else kv) k' = if k = k' then (dget d k').map (fun _ => n) else dget d k' := by
  induction d with
  | nil => simp [dget_nil]
  | cons p r ih =>
    rw [List.map_cons, dget_cons, dget_cons, ih]
    by_cases h : p.1 = k
    · rw [if_pos h]
      by_cases h2 : k = k'
      · subst h2; simp [h]
      · have h3 : ¬ p.1 = k' := fun e => h2 (h.symm.trans e)
        simp [h2, h3]
    · rw [if_neg h]
      by_cases h2 : k = k'
      · subst h2; simp [h]
      · simp [h2]
theorem any_key {d : Kvs} {k : Int} : d.any (fun kv => kv.1 = k) = (dget d k).isSome := by
  induction d with
  | nil => rfl
  | cons p r ih =>
    rw [List.any_cons, dget_cons, ih]
    by_cases h : p.1 = k <;> simp [h]
theorem dget_put (d : Kvs) (k n k' : Int) : dget (dput d k n) k' = if k = k' then some n else dget d k' := by
  unfold dput
  rw [any_key]
  cases e : dget d k with
  | none =>
    simp only [Option.isSome_none, Bool.false_eq_true, if_false]
    rw [dget_app, dget_cons, dget_nil]
    by_cases h : k = k'
    · subst h; simp [e]
    · simp [h]
      cases dget d k' <;> rfl
  | some m =>
    simp only [Option.isSome_some, if_true]
    rw [dget_upd]
    by_cases h : k = k'
    · subst h; simp [e]
    · simp [h]
theorem nd_put {d : Kvs} (h : ND d) (k n : Int) : ND (dput d k n) := by
  unfold dput
  rw [any_key]
  cases e : dget d k with
  | none =>
    simp only [Option.isSome_none, Bool.false_eq_true, if_false]
    unfold ND
    rw [List.map_append, List.nodup_append]
    refine ⟨h, by simp, fun a ha b hb => ?_⟩
    have : b = k := by simpa using hb
    subst this
    intro q; subst q
    exact dget_none.mp e ha
  | some m =>
    simp only [Option.isSome_some, if_true]
    unfold ND
    have : (d.map fun kv => if kv.1 = k then (kv.1, n) else kv).map (·.1) = d.map (·.1) := by
      rw [List.map_map]
      refine List.map_congr_left fun p _ => ?_
      simp only [Function.comp]
      split <;> rfl
    rw [this]; exact h
theorem dget_mem' {d : Kvs} (h : ND d) {p : Int × Int} (hp : p ∈ d) : dget d p.1 = some p.2 := by
  induction d with
  | nil => cases hp
  | cons q r ih =>
    rw [dget_cons]
    unfold ND at h
    rw [List.map_cons, List.nodup_cons] at h
    rcases List.mem_cons.mp hp with rfl | hp
    · rw [if_pos rfl]
    · have : ¬ q.1 = p.1 := fun e => h.1 (e ▸ List.mem_map.mpr ⟨p, hp, rfl⟩)
      rw [if_neg this]
      exact ih h.2 hp
theorem copy_get (k : Int) : ∀ (t d : Kvs), ND t → dget (t.foldl (fun d p => dput d p.1 p.2) d) k = match dget t k with | some n => some n | none => dget d k
  | [], d, _ => rfl
  | p :: r, d, h => by
    unfold ND at h
    rw [List.map_cons, List.nodup_cons] at h
    rw [List.foldl_cons, copy_get k r _ h.2, dget_put, dget_cons]
    by_cases e : p.1 = k
    · have : dget r k = none := dget_none.mpr (e ▸ h.1)
      rw [this, if_pos e, if_pos e]
    · rw [if_neg e, if_neg e]
theorem copy_nd : ∀ (t d : Kvs), ND d → ND (t.foldl (fun d p => dput d p.1 p.2) d)
  | [], d, h => h
  | p :: r, d, h => copy_nd r _ (nd_put h _ _)
theorem step_get (d : Kvs) (p : Int × Int) (k : Int) : dget (acStep d p) k = if p.1 = k then some ((dget d k).getD 0 + p.2) else dget d k := by
  unfold acStep
  by_cases h : p.1 = k
  · subst h
    cases e : dget d p.1 with
    | none => simp only; rw [dget_put]; simp
    | some m => simp only; rw [dget_put]; simp
  · cases e : dget d p.1 with
    | none => simp only; rw [dget_put]; simp [h]
    | some m => simp only; rw [dget_put]; simp [h]
theorem step_nd {d : Kvs} (h : ND d) (p : Int × Int) : ND (acStep d p) := by
  unfold acStep
  split <;> exact nd_put h _ _
theorem steps_get (k : Int) : ∀ (s d : Kvs), ND s → dget (s.foldl acStep d) k = match dget s k with | some n => some ((dget d k).getD 0 + n) | none => dget d k
  | [], d, _ => rfl
  | p :: r, d, h => by
    unfold ND at h
    rw [List.map_cons, List.nodup_cons] at h
    rw [List.foldl_cons, steps_get k r _ h.2, step_get, dget_cons]
    by_cases e : p.1 = k
    · have : dget r k = none := dget_none.mpr (e ▸ h.1)
      rw [this, if_pos e, if_pos e]
    · rw [if_neg e, if_neg e]
theorem steps_nd : ∀ (s d : Kvs), ND d → ND (s.foldl acStep d)
  | [], d, h => h
  | p :: r, d, h => steps_nd r _ (step_nd h p)
theorem ac_get {t s : Kvs} (ht : ND t) (hs : ND s) (k : Int) : dget (acF t s) k = match dget s k with | some n => some ((dget t k).getD 0 + n) | none => dget t k := by
  have hc : dget (acCopy t) k = dget t k := by
    have h : dget (acCopy t) k = match dget t k with | some n => some n | none => dget [] k := copy_get k t [] ht
    rw [h, dget_nil]
    cases dget t k <;> rfl
  show dget (s.foldl acStep (acCopy t)) k = _
  rw [steps_get k s _ hs, hc]
theorem ac_nd (t s : Kvs) : ND (acF t s) := steps_nd s _ (copy_nd t [] List.nodup_nil)
theorem fd_get (m : Str → Str → Bool) (ts : List Str) (p : Int × Str) (k : Int) : ∀ (ks : List Int) (d : Kvs), dget (ks.foldl (fdStep m ts p) d) k = if k ∈ ks ∧ m p.2 (ts.getD k.toNat Str.empty) = true then some p.1 else dget d k
  | [], d => by simp
  | a :: r, d => by
    rw [List.foldl_cons, fd_get m ts p k r]
    have h1 : dget (fdStep m ts p d a) k = if a = k ∧ m p.2 (ts.getD k.toNat Str.empty) = true then some p.1 else dget d k := by
      unfold fdStep
      by_cases hm : m p.2 (ts.getD a.toNat Str.empty) = true
      · rw [if_pos hm, dget_put]
        by_cases e : a = k
        · subst e; rw [if_pos rfl, if_pos ⟨rfl, hm⟩]
        · rw [if_neg e, if_neg fun c => e c.1]
      · rw [if_neg hm, if_neg]
        rintro ⟨rfl, c⟩; exact hm c
    rw [h1]
    by_cases hr : k ∈ r ∧ m p.2 (ts.getD k.toNat Str.empty) = true
    · rw [if_pos hr, if_pos ⟨List.mem_cons_of_mem _ hr.1, hr.2⟩]
    · rw [if_neg hr]
      by_cases ha : a = k ∧ m p.2 (ts.getD k.toNat Str.empty) = true
      · rw [if_pos ha, if_pos ⟨ha.1 ▸ List.mem_cons_self, ha.2⟩]
      · rw [if_neg ha, if_neg]
        rintro ⟨c1, c2⟩
        rcases List.mem_cons.mp c1 with c1 | c1
        · exact ha ⟨c1.symm, c2⟩
        · exact hr ⟨c1, c2⟩
theorem fd_nd (m : Str → Str → Bool) (ts : List Str) (p : Int × Str) : ∀ (ks : List Int) (d : Kvs), ND d → ND (ks.foldl (fdStep m ts p) d)
  | [], d, h => h
  | a :: r, d, h => fd_nd m ts p r _ (by unfold fdStep; split; exact nd_put h _ _; exact h)
theorem nd_nil : ND [] := List.nodup_nil
theorem found_nd (m : Str → Str → Bool) (ts : List Str) (p : Int × Str) : ND (foundF m ts p) := fd_nd m ts p _ _ nd_nil
theorem tb_get (m : Str → Str → Bool) (ts : List Str) (k : Int) (hk : k ∈ rngL 0 8) : ∀ (ws : List (Int × Str)) (t : Kvs), ND t →
    dget (ws.foldl (fun t p => acF t (foundF m ts p)) t) k = if (ws.filter fun p => m p.2 (ts.getD k.toNat Str.empty)) = [] then dget t k else some ((dget t k).getD 0 + ((ws.filter fun p => m p.2 (ts.getD k.toNat Str.empty)).map (·.1)).sum)
  | [], t, _ => by simp
  | p :: r, t, h => by
    rw [List.foldl_cons, tb_get m ts k hk r _ (ac_nd _ _), ac_get h (found_nd m ts p)]
    have hf : dget (foundF m ts p) k = if m p.2 (ts.getD k.toNat Str.empty) = true then some p.1 else none := by
      unfold foundF
      rw [fd_get, dget_nil]
      by_cases hm : m p.2 (ts.getD k.toNat Str.empty) = true
      · rw [if_pos ⟨hk, hm⟩, if_pos hm]
      · rw [if_neg fun c => hm c.2, if_neg hm]
    rw [hf]
    by_cases hm : m p.2 (ts.getD k.toNat Str.empty) = true
    · rw [if_pos hm, List.filter_cons, if_pos hm]
      generalize (r.filter fun p => m p.2 (ts.getD k.toNat Str.empty)) = L
      rw [if_neg (List.cons_ne_nil p L)]
      cases L with
      | nil => simp
      | cons q l =>
        rw [if_neg (List.cons_ne_nil q l)]
        simp only [Option.getD_some, List.map_cons, List.sum_cons]
        congr 1; omega
    · rw [if_neg hm, List.filter_cons, if_neg hm]
theorem tb_out (m : Str → Str → Bool) (ts : List Str) (k : Int) (hk : k ∉ rngL 0 8) : ∀ (ws : List (Int × Str)) (t : Kvs), ND t → dget (ws.foldl (fun t p => acF t (foundF m ts p)) t) k = dget t k
  | [], t, _ => rfl
  | p :: r, t, h => by
    rw [List.foldl_cons, tb_out m ts k hk r _ (ac_nd _ _), ac_get h (found_nd m ts p)]
    have hf : dget (foundF m ts p) k = none := by
      unfold foundF
      rw [fd_get, dget_nil, if_neg fun c => hk c.1]
    rw [hf]
theorem tb_nd (m : Str → Str → Bool) (ts : List Str) : ∀ (ws : List (Int × Str)) (t : Kvs), ND t → ND (ws.foldl (fun t p => acF t (foundF m ts p)) t)
  | [], t, h => h
  | p :: r, t, h => tb_nd m ts r _ (ac_nd _ _)
theorem du_get (cribs : List (Int × List Int)) (row : List Int) (k : Int) : ∀ (ks : List Int) (d : Kvs), dget (ks.foldl (dueStep cribs row) d) k = if k ∈ ks ∧ wtF cribs row k ≠ [] then some (wtF cribs row k).sum else dget d k
  | [], d => by simp
  | a :: r, d => by
    rw [List.foldl_cons, du_get cribs row k r]
    have h1 : dget (dueStep cribs row d a) k = if a = k ∧ wtF cribs row k ≠ [] then some (wtF cribs row k).sum else dget d k := by
      unfold dueStep
      by_cases hm : wtF cribs row a = []
      · rw [if_pos hm, if_neg]
        rintro ⟨rfl, c⟩; exact c hm
      · rw [if_neg hm, dget_put]
        by_cases e : a = k
        · subst e; rw [if_pos rfl, if_pos ⟨rfl, hm⟩]
        · rw [if_neg e, if_neg fun c => e c.1]
    rw [h1]
    by_cases hr : k ∈ r ∧ wtF cribs row k ≠ []
    · rw [if_pos hr, if_pos ⟨List.mem_cons_of_mem _ hr.1, hr.2⟩]
    · rw [if_neg hr]
      by_cases ha : a = k ∧ wtF cribs row k ≠ []
      · rw [if_pos ha, if_pos ⟨ha.1 ▸ List.mem_cons_self, ha.2⟩]
      · rw [if_neg ha, if_neg]
        rintro ⟨c1, c2⟩
        rcases List.mem_cons.mp c1 with c1 | c1
        · exact ha ⟨c1.symm, c2⟩
        · exact hr ⟨c1, c2⟩
theorem du_nd (cribs : List (Int × List Int)) (row : List Int) : ∀ (ks : List Int) (d : Kvs), ND d → ND (ks.foldl (dueStep cribs row) d)
  | [], d, h => h
  | a :: r, d, h => du_nd cribs row r _ (by unfold dueStep; split; exact h; exact nd_put h _ _)
theorem dict_law {m : Str → Str → Bool} {ts : List Str} {ws : List (Int × Str)} {cribs : List (Int × List Int)} {row : List Int}
    (h : ∀ k ∈ rngL 0 8, (ws.filter fun p => m p.2 (ts.getD k.toNat Str.empty)).map (·.1) = wtF cribs row k) (k : Int) : dget (tableF m ts ws) k = dget (dueF cribs row) k := by
  unfold tableF dueF
  rw [du_get, dget_nil]
  by_cases hk : k ∈ rngL 0 8
  · rw [tb_get m ts k hk ws [] List.nodup_nil, h k hk, dget_nil]
    by_cases hw : wtF cribs row k = []
    · have : (ws.filter fun p => m p.2 (ts.getD k.toNat Str.empty)) = [] := by
        have := h k hk
        rw [hw] at this
        exact List.map_eq_nil_iff.mp this
      rw [if_pos this, if_neg fun c => c.2 hw]
    · have : ¬ (ws.filter fun p => m p.2 (ts.getD k.toNat Str.empty)) = [] := fun e => hw (by rw [← h k hk, e]; rfl)
      rw [if_neg this, if_pos ⟨hk, hw⟩]
      simp
  · rw [tb_out m ts k hk ws [] List.nodup_nil, if_neg fun c => hk c.1, dget_nil]
theorem dict_eq {a b : Kvs} (ha : ND a) (hb : ND b) (h : ∀ k, dget a k = dget b k) : dEq a b = true := by
  have hp : (a.map (·.1)).Perm (b.map (·.1)) := (List.perm_ext_iff_of_nodup ha hb).mpr fun k => by
    have := h k
    constructor
    · intro hk
      refine Classical.byContradiction fun hn => ?_
      rw [dget_none.mpr hn] at this
      exact dget_none.mp this hk
    · intro hk
      refine Classical.byContradiction fun hn => ?_
      rw [dget_none.mpr hn] at this
      exact dget_none.mp this.symm hk
  have hl := hp.length_eq
  rw [List.length_map, List.length_map] at hl
  unfold dEq
  rw [Bool.and_eq_true, beq_iff_eq, List.all_eq_true]
  exact ⟨hl, fun p hp => by rw [← h, dget_mem' ha hp]; simp⟩
end Mine

end

section
open PySem PySem.W PyProof.Rows PySem.Calls PySem.Flt
set_option maxRecDepth 100000
set_option maxHeartbeats 1000000
set_option linter.unusedVariables false
namespace Mine
noncomputable def okSgn (r : UInt64 × UInt64 × UInt64) (cd : Nat) : Bool :=
  match fInt (fAdd (fMul r.1 (Float64.ofInt 32)) 4602678819172646912), fInt (fAdd (fMul r.2.1 (Float64.ofInt 32)) 4602678819172646912), fInt (fAdd (fMul r.2.2 (Float64.ofInt 32)) 4602678819172646912) with
  | some a, some b, some d => decide (0 ≤ a ∧ a ≤ 100) && decide (0 ≤ b ∧ b ≤ 100) && decide (0 ≤ d ∧ d ≤ 100) && decide (cd = (65 + a * 1089 + b * 33 + d).toNat)
  | _, _, _ => false
theorem sgn_ok {r : UInt64 × UInt64 × UInt64} {cd : Nat} (h : okSgn r cd = true) : Sgn r cd := by
  unfold okSgn at h
  split at h
  · rename_i a b d h1 h2 h3
    simp only [Bool.and_eq_true, decide_eq_true_eq] at h
    exact ⟨a, b, d, h1, h2, h3, h.1.1.1, h.1.1.2, h.1.2, h.2⟩
  · cases h
/-- the signs, as numbers -/
noncomputable def sgL (j : Int) : List Nat := if j = 0 then [34913, 35705, 18545, 1129, 1153, 361, 17521, 34937] else if j = 1 then [17489, 17885, 9305, 597, 609, 213, 8793, 17501] else if j = 2 then [26609, 26906, 20471, 13940, 13949, 13652, 20087, 26618] else [17761, 17959, 13669, 9315, 9321, 9123, 13413, 17767]
noncomputable def sgn (j m : Int) : Nat := (sgL j).getD m.toNat 0
noncomputable def okZ (t : UInt64 × UInt64 × UInt64) : Bool := !Float64.isZero (fSub (mx3 t.1 t.2.1 t.2.2) (mn3 t.1 t.2.1 t.2.2)) && !Float64.isZero (fAdd (mx3 t.1 t.2.1 t.2.2) (mn3 t.1 t.2.1 t.2.2)) && (!Float64.isZero (fSub (fSub 4611686018427387904 (mx3 t.1 t.2.1 t.2.2)) (mn3 t.1 t.2.1 t.2.2)) || fLe (lF t.1 t.2.1 t.2.2) 4602678819172646912)
noncomputable def hT (m : Int) : UInt64 := [0, 4593671619917905920, 4598175219545276416, 4600427019358961664, 4602678819172646912, 4603804719079489536, 4604930618986332160, 4606056518893174784].getD m.toNat 0
noncomputable def dT (e : Int) : UInt64 := if e < 0 then [0, 13817043656772681728, 13821547256400052224, 13823799056213737472, 13826050856027422720, 13827176755934265344, 13828302655841107968, 13829428555747950592].getD (-e).toNat 0 else hT e
noncomputable def lT (j : Int) : UInt64 := if j = 0 then 4602678819172646912 else if j = 1 then 4598175219545276416 else if j = 2 then 4603241769126068224 else 4600427019358961664
noncomputable def sT (j : Int) : UInt64 := if j = 0 then 4607182418800017408 else if j = 1 then 4607182418800017408 else if j = 2 then 4601392076421969627 else 4599676419421066581
noncomputable def qT (n : Int) : UInt64 := [0, 4593671619917905920, 4598175219545276416, 4600427019358961664, 4602678819172646912, 4603804719079489536, 4604930618986332160, 4606056518893174784, 4607182418800017408, 4607745368753438720, 4608308318706860032, 4608871268660281344, 4609434218613702656, 4609997168567123968, 4610560118520545280].getD n.toNat 0
noncomputable def iT (n : Int) : Int := (n * 6).fdiv 8
noncomputable def rgbL (j : Int) : List (UInt64 × UInt64 × UInt64) :=
  if j = 0 then [(4607182418800017408, 0, 0), (4607182418800017408, 4604930618986332160, 0), (4602678819172646912, 4607182418800017408, 0), (0, 4607182418800017408, 4598175219545276416), (0, 4607182418800017408, 4607182418800017408), (0, 4598175219545276416, 4607182418800017408), (4602678819172646912, 0, 4607182418800017408), (4607182418800017408, 0, 4604930618986332160)]
  else if j = 1 then [(4602678819172646912, 0, 0), (4602678819172646912, 4600427019358961664, 0), (4598175219545276416, 4602678819172646912, 0), (0, 4602678819172646912, 4593671619917905920), (0, 4602678819172646912, 4602678819172646912), (0, 4593671619917905920, 4602678819172646912), (4598175219545276416, 0, 4602678819172646912), (4602678819172646912, 0, 4600427019358961664)]
  else if j = 2 then [(4604930618986332160, 4600427019358961664, 4600427019358961664), (4604930618986332160, 4604086194056200192, 4600427019358961664), (4603241769126068224, 4604930618986332160, 4600427019358961664), (4600427019358961664, 4604930618986332160, 4602115869219225600), (4600427019358961664, 4604930618986332160, 4604930618986332160), (4600427019358961664, 4602115869219225600, 4604930618986332160), (4603241769126068224, 4600427019358961664, 4604930618986332160), (4604930618986332160, 4600427019358961664, 4604086194056200192)]
  else [(4602678819172646912, 4598175219545276416, 4598175219545276416), (4602678819172646912, 4601552919265804288, 4598175219545276416), (4600427019358961664, 4602678819172646912, 4598175219545276416), (4598175219545276416, 4602678819172646912, 4599301119452119040), (4598175219545276416, 4602678819172646912, 4602678819172646912), (4598175219545276416, 4599301119452119040, 4602678819172646912), (4600427019358961664, 4598175219545276416, 4602678819172646912), (4602678819172646912, 4598175219545276416, 4601552919265804288)]
noncomputable def rgbT (j m : Int) : UInt64 × UInt64 × UInt64 := (rgbL j).getD m.toNat (0, 0, 0)
noncomputable def okHsv (j n : Int) : Bool := decide (hsvF (qT n) (shF j) (lvF j) (iT n) = rgbT j (n.fmod 8))
noncomputable def okBase (j m : Int) : Bool := okZ (rgbT j m) && decide (rgbF (rgbT j m).1 (rgbT j m).2.1 (rgbT j m).2.2 = (hT m, lT j, sT j)) && okSgn (rgbT j m) (sgn j m)
noncomputable def okHls (j e : Int) : Bool := okSgn (hlsF (dT e) (lT j) (sT j)) (sgn j (e.fmod 8))
noncomputable def r15 : List Int := rngL 0 15
noncomputable def r8 : List Int := rngL 0 8
noncomputable def rE : List Int := rngL (-7) 8
noncomputable def okRow (j : Int) : Bool := (r15.all fun n => okHsv j n) && (rE.all fun e => okHls j e) && r8.all fun m => okBase j m
theorem allI : (r15.all fun n => decide (iDiv n 8 = qT n) && decide (fInt (fMul (qT n) 4618441417868443648) = some (iT n)) && decide ((iT n).natAbs < 1000000)) = true := by decide +kernel
theorem all48 : (r8.all fun m => decide (fInt (fAdd (fMul (hT m) (Float64.ofInt 48)) 4602678819172646912) = some (m * 6))) = true := by decide +kernel
theorem allD : (r8.all fun m => r8.all fun k => decide (fSub (hT m) (iDiv k 8) = dT (m - k))) = true := by decide +kernel
theorem row0 : okRow 0 = true := by decide +kernel
theorem row1 : okRow 1 = true := by decide +kernel
theorem row2 : okRow 2 = true := by decide +kernel
theorem row3 : okRow 3 = true := by decide +kernel
theorem row_ok {j : Int} (h0 : 0 ≤ j) (h4 : j < 4) : okRow j = true := by
  have := cases4 h0 h4
  rcases this with rfl | rfl | rfl | rfl
  · exact row0
  · exact row1
  · exact row2
  · exact row3
theorem mem15 {n : Int} (h0 : 0 ≤ n) (h1 : n ≤ 14) : n ∈ r15 := mem_rng.mpr ⟨h0, by omega⟩
theorem mem8 {n : Int} (h0 : 0 ≤ n) (h1 : n < 8) : n ∈ r8 := mem_rng.mpr ⟨h0, h1⟩
theorem memE {n : Int} (h0 : -8 < n) (h1 : n < 8) : n ∈ rE := mem_rng.mpr ⟨by omega, h1⟩
theorem qT_ok {n : Int} (h0 : 0 ≤ n) (h1 : n ≤ 14) : iDiv n 8 = qT n ∧ iF n = iT n ∧ fInt (fMul (iDiv n 8) 4618441417868443648) = some (iF n) ∧ Sml (iF n) := by
  have h := List.all_eq_true.mp allI n (mem15 h0 h1)
  rw [Bool.and_eq_true, Bool.and_eq_true, decide_eq_true_eq, decide_eq_true_eq, decide_eq_true_eq] at h
  obtain ⟨⟨e1, e2⟩, e3⟩ := h
  have e4 : iF n = iT n := by unfold iF; rw [e1, e2]
  exact ⟨e1, e4, by rw [e1, e4]; exact e2, by rw [e4]; exact sml_of e3⟩
theorem fmod_sub (n key : Int) : (n - key).fmod 8 = (n.fmod 8 - key).fmod 8 := by
  rw [Int.fmod_eq_emod_of_nonneg _ (by decide), Int.fmod_eq_emod_of_nonneg _ (by decide), Int.fmod_eq_emod_of_nonneg _ (by decide)]
  omega
theorem ring_ok {j : Int} (h0 : 0 ≤ j) (h4 : j < 4) : RingOk (shF j) (lvF j) (sgn j) := by
  have h := row_ok h0 h4
  unfold okRow at h
  rw [Bool.and_eq_true, Bool.and_eq_true, List.all_eq_true, List.all_eq_true, List.all_eq_true] at h
  obtain ⟨⟨ha, hb⟩, hc⟩ := h
  have rgb : ∀ n : Int, 0 ≤ n → n ≤ 14 → hsvF (iDiv n 8) (shF j) (lvF j) (iF n) = rgbT j (n.fmod 8) := fun n n0 n1 => by
    obtain ⟨e1, e2, _⟩ := qT_ok n0 n1
    rw [e1, e2]
    exact of_decide_eq_true (ha n (mem15 n0 n1))
  have base : ∀ m : Int, 0 ≤ m → m < 8 → okZ (rgbT j m) = true ∧ rgbF (rgbT j m).1 (rgbT j m).2.1 (rgbT j m).2.2 = (hT m, lT j, sT j) ∧ Sgn (rgbT j m) (sgn j m) := fun m m0 m1 => by
    have hs := hc m (mem8 m0 m1)
    unfold okBase at hs
    rw [Bool.and_eq_true, Bool.and_eq_true, decide_eq_true_eq] at hs
    exact ⟨hs.1.1, hs.1.2, sgn_ok hs.2⟩
  have seen : ∀ n : Int, 0 ≤ n → n ≤ 14 → seenF n (shF j) (lvF j) (iF n) = (hT (n.fmod 8), lT j, sT j) := fun n n0 n1 => by
    have hm := fmod_bd n (b := 8) (by decide)
    unfold seenF
    rw [rgb n n0 n1]
    exact (base _ hm.1 hm.2).2.1
  refine ⟨fun n n0 n1 => ?_, fun n key n0 n1 k0 k1 => ?_, fun m m0 m1 => ?_⟩
  · have hm := fmod_bd n (b := 8) (by decide)
    have hz := (base _ hm.1 hm.2).1
    rw [← rgb n n0 n1] at hz
    unfold okZ at hz
    rw [Bool.and_eq_true, Bool.and_eq_true, Bool.or_eq_true, Bool.not_eq_true', Bool.not_eq_true', Bool.not_eq_true'] at hz
    obtain ⟨⟨z1, z2⟩, z3⟩ := hz
    obtain ⟨_, _, i1, i2⟩ := qT_ok n0 n1
    have h48 := of_decide_eq_true (List.all_eq_true.mp all48 (n.fmod 8) (mem8 hm.1 hm.2))
    refine ⟨⟨sml_of (by omega), i1, i2, (by rw [z1]; decide), (by rw [z2]; decide), z3.elim (fun z => .inl (by rw [z]; decide)) .inr⟩, ?_⟩
    rw [seen n n0 n1]
    exact h48
  · rw [seen n n0 n1]
    have hm := fmod_bd n (b := 8) (by decide)
    have hd := of_decide_eq_true (List.all_eq_true.mp (List.all_eq_true.mp allD (n.fmod 8) (mem8 hm.1 hm.2)) key (mem8 k0 k1))
    show Sgn (hlsF (fSub (hT (n.fmod 8)) (iDiv key 8)) (lT j) (sT j)) _
    rw [hd, fmod_sub]
    exact sgn_ok (hb (n.fmod 8 - key) (memE (by omega) (by omega)))
  · obtain ⟨_, _, i1, i2⟩ := qT_ok m0 (show m ≤ 14 by omega)
    have e : m.fmod 8 = m := by rw [Int.fmod_eq_emod_of_nonneg _ (by decide)]; exact Int.emod_eq_of_lt m0 m1
    refine ⟨i1, i2, ?_⟩
    rw [rgb m m0 (by omega), e]
    exact (base m m0 m1).2.2
theorem sgn_inj {j m m' : Int} (h0 : 0 ≤ j) (h4 : j < 4) (m0 : 0 ≤ m) (m8 : m < 8) (n0 : 0 ≤ m') (n8 : m' < 8) (e : sgn j m = sgn j m') : m = m' := by
  have key : ∀ j ∈ rngL 0 4, ∀ m ∈ r8, ∀ m' ∈ r8, sgn j m = sgn j m' → m = m' := by decide +kernel
  exact key j (mem_rng.mpr ⟨h0, h4⟩) m (mem8 m0 m8) m' (mem8 n0 n8) e
theorem sgn_dot {j m : Int} (h0 : 0 ≤ j) (h4 : j < 4) (m0 : 0 ≤ m) (m8 : m < 8) : sgn j m ≠ 46 := by
  have key : ∀ j ∈ rngL 0 4, ∀ m ∈ r8, sgn j m ≠ 46 := by decide +kernel
  exact key j (mem_rng.mpr ⟨h0, h4⟩) m (mem8 m0 m8)
end Mine

end

section
open PySem PySem.W PyProof.Rows PySem.Calls PySem.Flt
set_option maxRecDepth 100000
set_option maxHeartbeats 1000000
set_option linter.unusedVariables false
namespace Mine
noncomputable def mF (want got : Str) : Bool := match Builtin.Str.partsBetween want (Builtin.Str.occurrences want dots 0 want.length (want.length + 1)) dots.length with
  | [a, b, d] => emF a b d got
  | _ => false
theorem crib_shape (d : Int) {pl : List Int} (hl : pl.length ≤ 6) (hp : OkL pl) : ∃ A B C, cribF d pl = A ++ [-1] ++ B ++ [-1] ++ C ∧ OkL A ∧ OkL B ∧ OkL C ∧ A.length ≤ 6 ∧ B.length ≤ 6 ∧ C.length ≤ 6 := by
  obtain ⟨q0, q1, q2, q3, hq, -⟩ := srt_four d pl.length (by omega)
  refine ⟨pl.take q0.toNat, (pl.take q2.toNat).drop q1.toNat, pl.drop (max (q3 - bkF ((d.fdiv 2401).fmod 4)) 0).toNat, ?_, fun x hx => hp x (List.mem_of_mem_take hx), fun x hx => hp x (List.mem_of_mem_take (List.mem_of_mem_drop hx)), fun x hx => hp x (List.mem_of_mem_drop hx), ?_, ?_, ?_⟩
  · unfold cribF
    rw [hq]
    rfl
  · rw [List.length_take]; omega
  · rw [List.length_drop, List.length_take]; omega
  · rw [List.length_drop]; omega
theorem turn_ok (row : List Int) (k : Int) : OkL (turnF row k) := fun x hx => by
  obtain ⟨h, _, rfl⟩ := List.mem_map.mp hx
  exact fmod_bd _ (by decide)
theorem texts_at (sg : Int → Nat) (row : List Int) {k : Int} (hk : k ∈ rngL 0 8) : (textsF sg row).getD k.toNat Str.empty = textF sg row k := by
  have h := mem_rngL hk
  unfold textsF
  rw [List.getD_eq_getElem?_getD, rng_get _ h.1 h.2]
  rfl
theorem law_all (sc : List Int) (h : sc.length ≤ 63) : Spec 3 123 [TSc sc] (TBool true) := by
  have hj : 0 ≤ ringF sc ∧ ringF sc < 4 := fmod_bd ((totF sc).fdiv 8) (by decide)
  have hi : Inj (sgn (ringF sc)) := fun x y hx hy e => sgn_inj hj.1 hj.2 hx.1 hx.2 hy.1 hy.2 e
  have hd : ∀ X : List Int, OkL X → ∀ x ∈ X.map (sgn (ringF sc)), x ≠ 46 := fun X hX x hx => by
    obtain ⟨m, hm, rfl⟩ := List.mem_map.mp hx
    exact sgn_dot hj.1 hj.2 (hX m hm).1 (hX m hm).2
  have hne : ∀ {X : List Int}, OkL X → ∀ m ∈ X, m ≠ -1 := fun hX m hm e => by have := hX m hm; omega
  have key : ∀ d : Int, ∀ k ∈ rngL 0 8, ∃ a b c, SplitOk (wantF (sgn (ringF sc)) (cribF d (plainF sc))) a b c ∧ (emF a b c (textF (sgn (ringF sc)) (rowF sc) k) = true ↔ takesF (cribF d (plainF sc)) (turnF (rowF sc) k) = true) := fun d k hk => by
    obtain ⟨A, B, C, e, hA, hB, hC, lA, lB, lC⟩ := crib_shape d (plain_len sc) (plain_bd sc)
    rw [e, want_tx _ A B C (hne hA) (hne hB) (hne hC), text_tx]
    refine ⟨_, _, _, split_ok (hd A hA) (hd B hB) (hd C hC) (by rw [List.length_map]; omega) (by rw [List.length_map]; omega) (by rw [List.length_map]; omega), ?_⟩
    rw [em_iff hi (turn_ok _ _) hA hB hC, takes_iff hA hB hC]
  have mfe : ∀ {want a b c : Str} (got : Str), SplitOk want a b c → mF want got = emF a b c got := fun got S => by
    unfold mF
    rw [S.hp]
  have hget := dict_law (m := mF) (ts := textsF (sgn (ringF sc)) (rowF sc)) (ws := wantsF (sgn (ringF sc)) sc) (cribs := cribsF sc) (row := rowF sc) (fun k hk => by
    unfold wantsF wtF
    rw [List.filter_map, List.map_map, texts_at _ _ hk]
    have : ((cribsF sc).filter ((fun p => mF p.2 (textF (sgn (ringF sc)) (rowF sc) k)) ∘ fun p => (p.1, wantF (sgn (ringF sc)) p.2))) = (cribsF sc).filter fun p => takesF p.2 (turnF (rowF sc) k) := by
      refine List.filter_congr fun p hp => ?_
      obtain ⟨d, _, rfl⟩ := List.mem_map.mp hp
      obtain ⟨a, b, c, S, hs⟩ := key d k hk
      rw [Bool.eq_iff_iff]
      show mF (wantF _ (cribF d (plainF sc))) _ = true ↔ _
      rw [mfe _ S]
      exact hs
    rw [this]
    rfl)
  refine law_walk h rfl rfl (ring_ok hj.1 hj.2) (m := mF) (fun p hp t ht => ?_) (dict_eq (tb_nd _ _ _ _ nd_nil) (du_nd _ _ _ _ nd_nil) hget) hget
  obtain ⟨q, hq, rfl⟩ := List.mem_map.mp hp
  obtain ⟨d, _, rfl⟩ := List.mem_map.mp hq
  obtain ⟨k, hk, rfl⟩ := List.mem_map.mp ht
  obtain ⟨a, b, c, S, _⟩ := key d k hk
  have hl : (textF (sgn (ringF sc)) (rowF sc) k).length ≤ 4096 := by
    rw [text_tx, tx_len, List.length_map]
    unfold turnF
    rw [List.length_map]
    have := row_len sc
    omega
  show Spec 1 49 [TStr (wantF (sgn (ringF sc)) (cribF d (plainF sc))), TStr _] (TBool (mF (wantF (sgn (ringF sc)) (cribF d (plainF sc))) _))
  rw [mfe _ S]
  exact em_spec S hl
end Mine

end

section
open PySem PySem.W PyProof.Rows PySem.Calls PySem.Flt
set_option maxRecDepth 100000
set_option maxHeartbeats 1000000
set_option linter.unusedVariables false
namespace Mine
theorem joined : PySem.Challenge.rw_ph0120_01.Holds := by
  refine hd ?_
  intro w s₀ s₁ mg mb G Y fa o pm cd doc dV kV ho hdd hcd hD hmg hg args vals as hpre hlay hrd hwl hlo
  have KX : (KK w).In s₁.heap := kIn_of Y
  have T := G.T
  have top : TopOk w s₁.heap := ⟨KX, ⟨_, T.g⟩, ⟨_, T.b, T.builtins⟩, T.nolimit, T.nodigits⟩
  have hfa : fa = 123 := by
    have e := mg_of (n := "law") KX T.g (by kernel_rfl : nsIn (KK w) mainGlobals "law" = some (some (.ref 123)))
    have e2 : mg "law" = some (.ref fa) := hmg
    rw [e2] at e
    cases e; rfl
  subst hfa
  clear hD hdd ho hcd hmg
  wrow_args hpre hlay hrd hwl hlo
  rename_i ns _ _ _ _ _ _ _ a vs _ hL _ _ _ hI _ hc _
  obtain ⟨ol, e1, e2, n, e3⟩ := hL
  refine law_all ns (by omega) w callerA [] s₁ [.ref a] ⟨rfl, by decide, by decide⟩ top (fun _ h => nomatch h) ⟨⟨a, ol, vs, n, rfl, e1, e2, e3, hI⟩, trivial⟩ _ _ fun v s' k p => ?_
  obtain rfl : v = .bool true := p
  obtain ⟨h', tk, rfl⟩ := k.same
  refine GoodW.toG ⟨.inl ⟨.bool true, .bool true, [], rfl, fun _ => rfl, .bool true, ?_, fun _ => ⟨List.nodup_nil, fun _ h => nomatch h⟩⟩, k.keep, rfl, hg⟩
  wrow_post
end Mine

end

set_option maxRecDepth 100000 in
set_option maxHeartbeats 4000000 in
theorem PySem.Challenge.cw_ph0120_01_holds : PySem.Challenge.rw_ph0120_01.Holds := by
  exact Mine.joined
