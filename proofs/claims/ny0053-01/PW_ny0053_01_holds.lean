import PyProof.Rows.All
import Wide.All
import OpenK.AllK
import Wide.FinOn
import PySem.Challenge.RW_ny0053_01
open PySem PySem.W PyProof.Rows
set_option Elab.async false
set_option linter.all false
set_option maxRecDepth 100000

/-! # HD -/
section
set_option maxHeartbeats 8000000
namespace Mine
open_top hd for PySem.Challenge.rw_ny0053_01
end Mine

end

/-! # B1 -/
namespace Mine

/-! ## the ledger logic -/

abbrev Led := List (Addr × (Obj → Prop))

/-- what is known of elder objects -/
abbrev Base := Addr → Option Obj
def NsO (m : Str → Option Value) (o : Obj) : Prop := ∃ es ep, o.data = .dict es ep ∧ StrKeys es ∧ ∀ name, nsFind es name = m name

/-- what is written at the top -/
structure Top0 (w : World) (h : Base) : Prop where
  K : ∀ a o, (hd.heap_39 w.params).lookup a = some o → h a = some o
  b : ∃ o mb, h builtinsNs = some o ∧ NsO mb o ∧ ∀ x : Str, x ≠ "__name__" → mb x = bootBuiltins x
  g : ∃ o mg, h mainGlobals = some o ∧ NsO mg o

theorem Top0.keeps {w : World} {h h' : Base} (T : Top0 w h) (hk : ∀ b o, h b = some o → h' b = some o) : Top0 w h' :=
  ⟨fun a o e => hk _ _ (T.K a o e), let ⟨o, mb, h1, h2⟩ := T.b; ⟨o, mb, hk _ _ h1, h2⟩, let ⟨o, mg, h1, h2⟩ := T.g; ⟨o, mg, hk _ _ h1, h2⟩⟩

structure St (w : World) (h₀ : Base) (os : OsState) (gs : Array GenState) (led : Led) (s : Shared) : Prop where
  top : Top0 w h₀
  keep : ∀ b o, h₀ b = some o → s.heap.get? b = some o
  has : ∀ p ∈ led, ∃ o, s.heap.get? p.1 = some o ∧ p.2 o
  new : ∀ p ∈ led, h₀ p.1 = none
  nodup : (led.map (·.1)).Nodup
  os : s.os = os
  gens : s.gens = gs

/-- one entry of the ledger put anew -/
inductive Put (a : Addr) (P' : Obj → Prop) : (Obj → Prop) → Led → Led → Prop
  | head {P r} : Put a P' P ((a, P) :: r) ((a, P') :: r)
  | tail {P q r r'} : Put a P' P r r' → Put a P' P (q :: r) (q :: r')

theorem Put.mem {a : Addr} {P P' : Obj → Prop} : ∀ {l l' : Led}, Put a P' P l l' → (a, P) ∈ l
  | _, _, .head => .head _
  | _, _, .tail h => .tail _ h.mem
theorem Put.keys {a : Addr} {P P' : Obj → Prop} : ∀ {l l' : Led}, Put a P' P l l' → l'.map (·.1) = l.map (·.1)
  | _, _, .head => rfl
  | _, _, .tail h => by simp [h.keys]
theorem Put.spec {a : Addr} {P P' : Obj → Prop} : ∀ {l l' : Led}, Put a P' P l l' → (l.map (·.1)).Nodup → ∀ p ∈ l', p = (a, P') ∨ (p.1 ≠ a ∧ p ∈ l)
  | _, _, .head (r := r), nd, p, hp => by
    rcases List.mem_cons.mp hp with rfl | hp
    · exact .inl rfl
    · refine .inr ⟨fun e => ?_, .tail _ hp⟩
      have := (List.nodup_cons.mp nd).1
      exact this (List.mem_map.mpr ⟨p, hp, e⟩)
  | _, _, .tail (q := q) (r := r) h, nd, p, hp => by
    rcases List.mem_cons.mp hp with rfl | hp
    · refine .inr ⟨fun e => ?_, .head _⟩
      have := (List.nodup_cons.mp nd).1
      exact this (List.mem_map.mpr ⟨(a, P), h.mem, e.symm⟩)
    · rcases h.spec (List.nodup_cons.mp nd).2 p hp with h | ⟨h1, h2⟩
      · exact .inl h
      · exact .inr ⟨h1, .tail _ h2⟩

namespace St
variable {w : World} {h₀ : Base} {os : OsState} {gs : Array GenState} {led led' : Led} {s : Shared}

theorem topNow (S : St w h₀ os gs led s) : Top0 w s.heap.get? := S.top.keeps S.keep

/-- the same heap -/
theorem same (S : St w h₀ os gs led s) {s' : Shared} (h : s'.heap = s.heap) (hg : s'.gens = s.gens) (ho : s'.os = s.os) : St w h₀ os gs led s' :=
  ⟨S.top, fun b o e => h ▸ S.keep b o e, fun p hp => h ▸ S.has p hp, S.new, S.nodup, ho.trans S.os, hg.trans S.gens⟩
theorem toks (S : St w h₀ os gs led s) (n : Nat) : St w h₀ os gs led { s with toks := n } := S.same rfl rfl rfl

theorem lt (S : St w h₀ os gs led s) {a : Addr} {P} (h : (a, P) ∈ led) : a < s.heap.objs.size := let ⟨_, ho, _⟩ := S.has _ h; Heap.lt_size ho

/-- a new object -/
theorem push (S : St w h₀ os gs led s) {P : Obj → Prop} {o : Obj} (hP : P o) (hf : o.isFreed = false := by rfl) :
    St w h₀ os gs ((s.heap.objs.size, P) :: led) { s with heap := s.heap.push o } := by
  refine ⟨S.top, fun b o' e => Heap.get?_push_of_some _ (S.keep b o' e), fun p hp => ?_, fun p hp => ?_, ?_, S.os, S.gens⟩
  · rcases List.mem_cons.mp hp with rfl | hp
    · exact ⟨o, Heap.get?_push_size _ hf, hP⟩
    · obtain ⟨o', h1, h2⟩ := S.has p hp
      exact ⟨o', Heap.get?_push_of_some _ h1, h2⟩
  · rcases List.mem_cons.mp hp with rfl | hp
    · cases q : h₀ s.heap.objs.size with
      | none => rfl
      | some o' => exact absurd (Heap.lt_size (S.keep _ _ q)) (Nat.lt_irrefl _)
    · exact S.new p hp
  · refine List.nodup_cons.mpr ⟨fun hm => ?_, S.nodup⟩
    obtain ⟨p, hp, e⟩ := List.mem_map.mp hm
    obtain ⟨o', h1, _⟩ := S.has p hp
    have := Heap.lt_size h1
    rw [e] at this
    exact Nat.lt_irrefl _ this

/-- one object changed, the rest kept (it may have grown) -/
theorem put (S : St w h₀ os gs led s) {a : Addr} {P P' : Obj → Prop} {s' : Shared} (U : Put a P' P led led') (hx : Heap.ExtBut a s.heap s'.heap) (ha : ∃ o, s'.heap.get? a = some o ∧ P' o)
    (hg : s'.gens = s.gens) (ho : s'.os = s.os) : St w h₀ os gs led' s' := by
  have hn : h₀ a = none := S.new _ U.mem
  refine ⟨S.top, fun b o e => hx b o (fun q => ?_) (S.keep b o e), fun p hp => ?_, fun p hp => ?_, U.keys ▸ S.nodup, ho.trans S.os, hg.trans S.gens⟩
  · rw [q, hn] at e; cases e
  · rcases U.spec S.nodup p hp with rfl | ⟨h1, h2⟩
    · exact ha
    · obtain ⟨o, h3, h4⟩ := S.has p h2
      exact ⟨o, hx _ _ h1 h3, h4⟩
  · rcases U.spec S.nodup p hp with rfl | ⟨h1, h2⟩
    · exact hn
    · exact S.new p h2

/-- one object given up -/
theorem lose (S : St w h₀ os gs led s) {a : Addr} {P : Obj → Prop} {s' : Shared} (ha : (a, P) ∈ led) (hx : Heap.ExtBut a s.heap s'.heap) (hs : ∀ p ∈ led', p ∈ led ∧ p.1 ≠ a) (nd : (led'.map (·.1)).Nodup)
    (hg : s'.gens = s.gens) (ho : s'.os = s.os) : St w h₀ os gs led' s' :=
  ⟨S.top, fun b o e => hx b o (fun q => by have := S.new _ ha; rw [← q, e] at this; cases this) (S.keep b o e), fun p hp => let ⟨o, h1, h2⟩ := S.has p (hs p hp).1; ⟨o, hx _ _ (hs p hp).2 h1, h2⟩, fun p hp => S.new p (hs p hp).1, nd, ho.trans S.os, hg.trans S.gens⟩

/-- grown alone -/
theorem grow (S : St w h₀ os gs led s) {s' : Shared} (hx : ∀ b o, s.heap.get? b = some o → s'.heap.get? b = some o) (hg : s'.gens = s.gens) (ho : s'.os = s.os) : St w h₀ os gs led s' :=
  ⟨S.top, fun b o e => hx _ _ (S.keep b o e), fun p hp => let ⟨o, h1, h2⟩ := S.has p hp; ⟨o, hx _ _ h1, h2⟩, S.new, S.nodup, ho.trans S.os, hg.trans S.gens⟩

/-- fewer entries, weaker words -/
theorem sub (S : St w h₀ os gs led s) (hs : ∀ p ∈ led', ∃ q ∈ led, p.1 = q.1 ∧ ∀ o, q.2 o → p.2 o) (nd : (led'.map (·.1)).Nodup) : St w h₀ os gs led' s :=
  ⟨S.top, S.keep, fun p hp => let ⟨q, hq, e, h⟩ := hs p hp; let ⟨o, h1, h2⟩ := S.has q hq; ⟨o, e ▸ h1, h o h2⟩, fun p hp => let ⟨q, hq, e, _⟩ := hs p hp; e ▸ S.new q hq, nd, S.os, S.gens⟩

theorem tail {p} (S : St w h₀ os gs (p :: led) s) : St w h₀ os gs led s := S.sub (fun q hq => ⟨q, .tail _ hq, rfl, fun _ h => h⟩) (List.nodup_cons.mp S.nodup).2
theorem drop2 {p q} (S : St w h₀ os gs (p :: q :: led) s) : St w h₀ os gs (p :: led) s := by
  refine S.sub (fun x hx => ?_) ?_
  · rcases List.mem_cons.mp hx with rfl | hx
    · exact ⟨x, .head _, rfl, fun _ h => h⟩
    · exact ⟨x, .tail _ (.tail _ hx), rfl, fun _ h => h⟩
  · have := S.nodup
    simp only [List.map_cons, List.nodup_cons, List.mem_cons, not_or] at this ⊢
    exact ⟨this.1.2, this.2.2⟩
theorem swap {p q} (S : St w h₀ os gs (p :: q :: led) s) : St w h₀ os gs (q :: p :: led) s := by
  refine S.sub (fun x hx => ⟨x, ?_, rfl, fun _ h => h⟩) ?_
  · simp only [List.mem_cons] at hx ⊢; rcases hx with h | h | h <;> simp [h]
  · have := S.nodup
    simp only [List.map_cons, List.nodup_cons, List.mem_cons, not_or] at this ⊢
    exact ⟨⟨fun e => this.1.1 e.symm, this.2.1⟩, this.1.2, this.2.2⟩

/-- back from a call that kept all -/
theorem back (S : St w h₀ os gs led s) {gs' : Array GenState} {led₁ : Led} {s' : Shared} (S' : St w s.heap.get? os gs' led₁ s') : St w h₀ os gs' led s' :=
  ⟨S.top, fun b o e => S'.keep _ _ (S.keep b o e), fun p hp => let ⟨o, h1, h2⟩ := S.has p hp; ⟨o, S'.keep _ _ h1, h2⟩, S.new, S.nodup, S'.os, S'.gens⟩
theorem backWith (S : St w h₀ os gs led s) {gs' : Array GenState} {led₁ led₂ : Led} {s' : Shared} (S' : St w s.heap.get? os gs' (led₁ ++ led₂) s') : St w h₀ os gs' (led₁ ++ led) s' := by
  have B := S.back S'
  refine ⟨B.top, B.keep, fun p hp => ?_, fun p hp => ?_, ?_, B.os, B.gens⟩
  · rcases List.mem_append.mp hp with h | h
    · exact S'.has p (List.mem_append_left _ h)
    · exact B.has p h
  · rcases List.mem_append.mp hp with h | h
    · have n := S'.new p (List.mem_append_left _ h)
      cases q : h₀ p.1 with
      | none => rfl
      | some o => rw [S.keep _ _ q] at n; cases n
    · exact B.new p h
  · rw [List.map_append, List.nodup_append]
    refine ⟨?_, S.nodup, fun a ha b hb e => ?_⟩
    · have := S'.nodup
      rw [List.map_append, List.nodup_append] at this
      exact this.1
    · obtain ⟨p, hp, rfl⟩ := List.mem_map.mp ha
      obtain ⟨q, hq, rfl⟩ := List.mem_map.mp hb
      have n := S'.new p (List.mem_append_left _ hp)
      obtain ⟨o, h1, _⟩ := S.has q hq
      rw [e, h1] at n; cases n
/-- own entries alone, all else as it lies -/
theorem hide {own : Led} (S : St w h₀ os gs (own ++ led) s) {h₁ : Base} (hsub : ∀ b o, h₁ b = some o → s.heap.get? b = some o) (hno : ∀ p ∈ own, h₁ p.1 = none) (hup : ∀ b o, h₀ b = some o → h₁ b = some o) :
    St w h₁ os gs own s :=
  ⟨S.top.keeps hup, hsub, fun p hp => S.has p (List.mem_append_left _ hp), hno, by
    have := S.nodup; rw [List.map_append, List.nodup_append] at this; exact this.1, S.os, S.gens⟩

theorem merge {own own' : Led} (S : St w h₀ os gs (own ++ led) s) {h₁ : Base} {gs' : Array GenState} {s' : Shared} (hup : ∀ b o, h₀ b = some o → h₁ b = some o) (hled : ∀ p ∈ led, ∀ o, s.heap.get? p.1 = some o → h₁ p.1 = some o)
    (S' : St w h₁ os gs' own' s') : St w h₀ os gs' (own' ++ led) s' := by
  refine ⟨S.top, fun b o e => S'.keep _ _ (hup b o e), fun p hp => ?_, fun p hp => ?_, ?_, S'.os, S'.gens⟩
  · rcases List.mem_append.mp hp with h | h
    · exact S'.has p h
    · obtain ⟨o, h1, h2⟩ := S.has p (List.mem_append_right _ h)
      exact ⟨o, S'.keep _ _ (hled p h o h1), h2⟩
  · rcases List.mem_append.mp hp with h | h
    · have n := S'.new p h
      cases q : h₀ p.1 with
      | none => rfl
      | some o => rw [hup _ _ q] at n; cases n
    · exact S.new p (List.mem_append_right _ h)
  · rw [List.map_append, List.nodup_append]
    refine ⟨S'.nodup, ?_, fun a ha b hb e => ?_⟩
    · have := S.nodup; rw [List.map_append, List.nodup_append] at this; exact this.2.1
    · obtain ⟨p, hp, rfl⟩ := List.mem_map.mp ha
      obtain ⟨q, hq, rfl⟩ := List.mem_map.mp hb
      have n := S'.new p hp
      obtain ⟨o, h1, _⟩ := S.has q (List.mem_append_right _ hq)
      rw [e, hled q hq o h1] at n; cases n
theorem comm {led₂ : Led} (S : St w h₀ os gs (led ++ led₂) s) : St w h₀ os gs (led₂ ++ led) s := by
  refine S.sub (fun p hp => ⟨p, ?_, rfl, fun _ h => h⟩) ?_
  · simp only [List.mem_append] at hp ⊢; exact hp.symm
  · have := S.nodup
    rw [List.map_append, List.nodup_append] at this ⊢
    exact ⟨this.2.1, this.1, fun a ha b hb e => this.2.2 b hb a ha e.symm⟩
end St

/-! ## objects by what they are -/
def LocO (kvs : List (Str × Value)) (o : Obj) : Prop := ∃ m, NsO m o ∧ ∀ x v, kvs.lookup x = some v → m x = some v
def ListO (items : List Value) (o : Obj) : Prop := ∃ n, o = { cls := .type "list", data := .seq items.toArray n }
theorem ListO.at {h : Heap} {l : Addr} {o : Obj} {items : List Value} (h1 : h.get? l = some o) (h2 : ListO items o) : h.IsList l items.toArray := by
  obtain ⟨n, rfl⟩ := h2
  exact ⟨_, h1, rfl, n, rfl⟩
def CellO (v : Option Value) (o : Obj) : Prop := o.data = .cell v

def putK (x : Str) (v : Value) : List (Str × Value) → List (Str × Value)
  | [] => [(x, v)]
  | p :: r => if x == p.1 then (x, v) :: r else p :: putK x v r
theorem putK_lookup (x : Str) (v : Value) (y : Str) : ∀ l : List (Str × Value), (putK x v l).lookup y = if y == x then some v else l.lookup y
  | [] => by simp only [putK, List.lookup]; split <;> simp_all
  | p :: r => by
    unfold putK
    by_cases h : x = p.1
    · simp only [h, beq_self_eq_true, if_true, List.lookup]
      cases hy : y == p.1 <;> simp
    · have hx : (x == p.1) = false := by simpa using h
      simp only [hx, Bool.false_eq_true, if_false, List.lookup]
      cases hy : y == p.1 with
      | true =>
        have : (y == x) = false := by
          have e := beq_iff_eq.mp hy
          rw [e]; simpa using fun q => h q.symm
        simp only [this, Bool.false_eq_true, if_false]
      | false => simp only [putK_lookup x v y r]

def AllLook (kvs : List (Str × Value)) : List (Str × Value) → Prop
  | [] => True
  | p :: r => kvs.lookup p.1 = some p.2 ∧ AllLook kvs r
theorem AllLook.get {kvs : List (Str × Value)} : ∀ {l : List (Str × Value)}, AllLook kvs l → ∀ x v, l.lookup x = some v → kvs.lookup x = some v
  | p :: r, ⟨h, t⟩, x, v, e => by
    simp only [List.lookup] at e
    cases q : x == p.1 with
    | true => rw [q] at e; cases e; rw [beq_iff_eq.mp q]; exact h
    | false => rw [q] at e; exact AllLook.get t x v e
theorem LocO.sub {kvs kvs' : List (Str × Value)} (h : AllLook kvs kvs') {o : Obj} : LocO kvs o → LocO kvs' o :=
  fun ⟨m, h1, h2⟩ => ⟨m, h1, fun x v e => h2 x v (h.get x v e)⟩

theorem St.ns {w h₀ os gs s} {led : Led} {L : Addr} {kvs} (S : St w h₀ os gs led s) (hL : (L, LocO kvs) ∈ led) : ∃ m, s.heap.Ns L m ∧ ∀ x v, kvs.lookup x = some v → m x = some v := by
  obtain ⟨o, h1, m, ⟨es, ep, h2, h3, h4⟩, h5⟩ := S.has _ hL
  exact ⟨m, ⟨o, es, ep, h1, h2, h3, h4⟩, h5⟩
theorem St.isList {w h₀ os gs s} {led : Led} {l : Addr} {its} (S : St w h₀ os gs led s) (hL : (l, ListO its) ∈ led) : s.heap.IsList l its.toArray := by
  obtain ⟨o, h1, h2⟩ := S.has _ hL
  exact h2.at h1

example : (putK (Str.ofString "figures") (.int 4 0) [(Str.ofString "number", .int 1 0), (Str.ofString "figures", .int 2 0), (Str.ofString "groups", .int 3 0)]).lookup (Str.ofString "groups") = some (.int 3 0) := rfl

end Mine


/-! # B2 -/
namespace Mine

/-! ## the program's parts -/
noncomputable abbrev KH (w : World) : Frag := hd.heap_39 w.params
def stmtAt (i : Nat) : Stmt := PySem.Challenge.pw_ny0053_01.main.body.getD i (.Pass default)
def fBody : Stmt → List Stmt | .FunctionDef _ _ b _ _ _ _ _ _ _ => b | _ => []
def fScope : Stmt → Scope | .FunctionDef _ _ _ _ _ _ sc _ _ _ => sc | _ => default
def cBody : Stmt → List Stmt | .ClassDef _ _ _ b _ _ _ _ _ _ _ => b | _ => []
noncomputable def objAt (w : World) (a : Addr) : Obj := ((KH w).lookup a).getD default
noncomputable def fdAt (w : World) (a : Addr) : FuncData := match (objAt w a).data with | .func fd => fd | _ => default

section
variable {w : World} {h : Heap}
theorem Top0.obj {h : Base} (T : Top0 w h) {a : Addr} {o : Obj} (e : (KH w).lookup a = some o) : h a = some o := T.K _ _ e
theorem Top0.gNs (T : Top0 w h.get?) : ∃ mg, h.Ns mainGlobals mg := let ⟨o, mg, h1, es, ep, h2, h3, h4⟩ := T.g; ⟨mg, o, es, ep, h1, h2, h3, h4⟩
theorem Top0.bNs (T : Top0 w h.get?) : ∃ mb, h.Ns builtinsNs mb ∧ ∀ x : Str, x ≠ "__name__" → mb x = bootBuiltins x := let ⟨o, mg, h1, ⟨es, ep, h2, h3, h4⟩, h5⟩ := T.b; ⟨mg, ⟨o, es, ep, h1, h2, h3, h4⟩, h5⟩
theorem Top0.statics (T : Top0 w h.get?) : h.Ns cStatics (fun _ => none) :=
  ⟨_, #[], 0, T.obj (a := 2) rfl, rfl, fun e he => by simp at he, fun _ => rfl⟩
theorem Top0.noLimit (T : Top0 w h.get?) : h.NoLimit := ⟨_, T.statics, rfl⟩
end

structure Room (A : Around) (n : Nat) : Prop where
  h : A.handled = none
  d : A.depth + n < recursionLimit
  u : A.units + 8 * n < cLine
theorem Room.deeper {A : Around} {n : Nat} (R : Room A (n + 1)) (env : Env) : Room (A.deeper env) n :=
  ⟨R.h, by show A.depth + 1 + n < recursionLimit; have := R.d; omega, by show A.units + 3 + 8 * n < cLine; have := R.u; omega⟩
theorem Room.dep {A : Around} {n : Nat} (R : Room A n) : A.depth < recursionLimit := by have := R.d; omega
theorem Room.unit {A : Around} {n : Nat} (R : Room A n) : A.units < cLine := by have := R.u; omega
theorem Room.le {A : Around} {n m : Nat} (R : Room A n) (h : m ≤ n) : Room A m := ⟨R.h, by have := R.d; omega, by have := R.u; omega⟩

section
variable {prog : Program} {w : World} {A : Around} {E : Value → Shared → Prop} {s : Shared} {h₀ : Base} {os : OsState} {gs : Array GenState} {led led' : Led} {env : Env} {kvs : List (Str × Value)}

/-! ## names -/
theorem nmL {x : Str} {pos : Pos} {v : Value} {Q : Value → Shared → Prop} (S : St w h₀ os gs ((env.locals, LocO kvs) :: led) s) (hv : kvs.lookup x = some v) (h : Q v s)
    (hk : env.scope.kind = .function := by rfl) (hl : env.kindOf x = some .local := by rfl) (hd : (x == ("__debug__" : Str)) = false := by rfl) :
    wpAny (model prog w) A (eval (.Name x pos) env) Q E s := by
  obtain ⟨m, hn, hm⟩ := S.ns (.head _)
  exact wpAny_Name (wpAny_loadName_local hk hl hn (hm x v hv) h) hd
theorem ldL {x : Str} {v : Value} {Q : Value → Shared → Prop} (S : St w h₀ os gs ((env.locals, LocO kvs) :: led) s) (hv : kvs.lookup x = some v) (h : Q v s)
    (hk : env.scope.kind = .function := by rfl) (hl : env.kindOf x = some .local := by rfl) :
    wpAny (model prog w) A (loadName env x) Q E s := by
  obtain ⟨m, hn, hm⟩ := S.ns (.head _)
  exact wpAny_loadName_local hk hl hn (hm x v hv) h
theorem nmG {x : Str} {pos : Pos} {v : Value} {Q : Value → Shared → Prop} (S : St w h₀ os gs led s) (hv : nsIn (KH w) mainGlobals x = some (some v)) (h : Q v s)
    (hk : env.scope.kind = .function := by rfl) (hl : env.kindOf x = some .globalImplicit := by rfl) (hg : env.globals = mainGlobals := by rfl) (hd : (x == ("__debug__" : Str)) = false := by rfl) :
    wpAny (model prog w) A (eval (.Name x pos) env) Q E s := by
  have T := S.topNow
  obtain ⟨mg, G⟩ := T.gNs
  exact Calls.Name_function_global hk hl (Calls.loadGlobal_global (env := env) (mg := mg) (by rw [hg]; exact G) (mg_of T.K G hv) h) hd
theorem nmB {x : Str} {pos : Pos} {v : Value} {Q : Value → Shared → Prop} (S : St w h₀ os gs led s) (hm : nsIn (KH w) mainGlobals x = some none) (hv : bootBuiltins x = some v) (h : Q v s)
    (hn : x ≠ "__name__" := by decide) (hk : env.scope.kind = .function := by rfl) (hl : env.kindOf x = some .globalImplicit := by rfl) (hg : env.globals = mainGlobals := by rfl) (hb : env.builtins = builtinsNs := by rfl)
    (hd : (x == ("__debug__" : Str)) = false := by rfl) :
    wpAny (model prog w) A (eval (.Name x pos) env) Q E s := by
  have T := S.topNow
  obtain ⟨mg, G⟩ := T.gNs
  obtain ⟨mb, B, hB⟩ := T.bNs
  exact Calls.Name_function_global hk hl (Calls.loadGlobal_builtin (env := env) (mg := mg) (mb := mb) (by rw [hg]; exact G) (mg_none_of T.K G hm) (by rw [hb]; exact B) ((hB x hn).trans hv) h) hd
theorem nmC {x : Str} {pos : Pos} {c : Addr} {v : Value} {Q : Value → Shared → Prop} (S : St w h₀ os gs led s) (hc : env.cells.lookup x = some c) (hm : (c, CellO (some v)) ∈ led) (h : Q v s)
    (hk : env.scope.kind = .function := by rfl) (hl : env.kindOf x = some .cell := by rfl) (hd : (x == ("__debug__" : Str)) = false := by rfl) :
    wpAny (model prog w) A (eval (.Name x pos) env) Q E s := by
  obtain ⟨o, ho, hv⟩ := S.has _ hm
  exact wpAny_Name (wpAny_loadName_cell hk hl hc ⟨o, ho, hv⟩ h) hd

/-! ## stores -/
theorem stL {x : Str} {v : Value} {Q : Unit → Shared → Prop} (S : St w h₀ os gs ((env.locals, LocO kvs) :: led) s)
    (h : ∀ s', St w h₀ os gs ((env.locals, LocO (putK x v kvs)) :: led) s' → Q () s')
    (hl : env.kindOf x = some .local := by rfl) (hp : (env.scope.kind == .class || (env.scope.kind == .module && env.locals != env.globals)) = false := by rfl) :
    wpAny (model prog w) A (storeName env x v) Q E s := by
  obtain ⟨m, hn, hm⟩ := S.ns (.head _)
  refine wpAny_storeName_local hl hn (fun h' hn' hs => h _ ?_) hp
  refine S.put (s' := { s with heap := h', toks := s.toks + 1 }) .head hs.extBut ?_ rfl rfl
  obtain ⟨o, es, ep, h1, h2, h3, h4⟩ := hn'
  refine ⟨o, h1, _, ⟨es, ep, h2, h3, h4⟩, fun y u e => ?_⟩
  rw [putK_lookup] at e
  by_cases q : y = x
  · rw [if_pos q]; rw [if_pos (by simpa using q)] at e; exact e
  · rw [if_neg q]; rw [if_neg (by simpa using q)] at e; exact hm y u e
theorem stC {x : Str} {c : Addr} {v₀ : Option Value} {v : Value} {Q : Unit → Shared → Prop} (S : St w h₀ os gs led s) (hc : env.cells.lookup x = some c) (U : Put c (CellO (some v)) (CellO v₀) led led')
    (h : ∀ s', St w h₀ os gs led' s' → Q () s')
    (hk : env.scope.kind = .function := by rfl) (hl : env.kindOf x = some .cell := by rfl) :
    wpAny (model prog w) A (storeName env x v) Q E s := by
  obtain ⟨o, ho, hv⟩ := S.has _ U.mem
  refine wpAny_storeName_cell hk hl hc ⟨o, ho, hv⟩ fun h' hc' hs => h _ ?_
  exact S.put (s' := { s with heap := h' }) U hs.extBut hc' rfl rfl

/-! ## entering a def -/
theorem enterB {f : Addr} {fd : FuncData} {o : Obj} {body : List Stmt} {args : List Value} {kw : List (Str × Value)} {binds : List (Str × Value)} {Q : Value → Shared → Prop} {n : Nat}
    (S : St w h₀ os gs led s) (R : Room A n) (ho : (KH w).lookup f = some o) (hdata : o.data = .func fd) (hcd : codeIn (KH w) fd.code fd.qualname = true) (hbody : fd.body = .stmts body)
    (hbind : BindsTo s fd ⟨args, kw⟩ binds) (hcell : ∀ x ∈ fd.scope.names, x.2 ≠ .cell) (hloc : ∀ x ∈ binds, fd.scope.names.lookup x.1 = some .local)
    (h : ∀ E' s', St w s.heap.get? os gs [(s.heap.objs.size, LocO binds.reverse)] s' →
      wpAny (model prog w) (A.deeper (callEnv fd s.heap.objs.size f)) (execs body (callEnv fd s.heap.objs.size f)) (fun fl s'' => Q (match fl with | .ret v => v | _ => .none) s'') E' s')
    (hco : fd.scope.isCoroutine = false := by rfl) (hgen : fd.scope.isGenerator = false := by rfl) (hk : fd.scope.kind = .function := by rfl) :
    wpAny (model prog w) A (call (.ref f) args kw) Q E s := by
  have T := S.topNow
  refine wpAny_call (codeAny_call_def R.dep (T.obj ho) hdata T.noLimit (codeRec_of T.K hcd) hbody hbind hcell hloc (fun h₁ hn hkp => ?_) hco hgen hk)
  refine h _ _ ⟨T, hkp, fun p hp => ?_, fun p hp => ?_, by simp, S.os, S.gens⟩
  · obtain rfl := List.mem_singleton.mp hp
    obtain ⟨o, es, ep, h1, h2, h3, h4⟩ := hn
    exact ⟨o, h1, _, ⟨es, ep, h2, h3, h4⟩, fun x v e => e⟩
  · obtain rfl := List.mem_singleton.mp hp
    cases q : s.heap.get? s.heap.objs.size with
    | none => rfl
    | some o' => exact absurd (Heap.lt_size q) (Nat.lt_irrefl _)
theorem enter {f : Addr} {fd : FuncData} {o : Obj} {body : List Stmt} {args : List Value} {kw : List (Str × Value)} {binds : List (Str × Value)} {Q : Value → Shared → Prop} {n : Nat}
    (S : St w h₀ os gs led s) (R : Room A n) (ho : (KH w).lookup f = some o) (hdata : o.data = .func fd) (hcd : codeIn (KH w) fd.code fd.qualname = true) (hbody : fd.body = .stmts body)
    (hbind : bindArgs fd ⟨args, kw⟩ = pure binds) (hcell : ∀ x ∈ fd.scope.names, x.2 ≠ .cell) (hloc : ∀ x ∈ binds, fd.scope.names.lookup x.1 = some .local)
    (h : ∀ E' s', St w s.heap.get? os gs [(s.heap.objs.size, LocO binds.reverse)] s' →
      wpAny (model prog w) (A.deeper (callEnv fd s.heap.objs.size f)) (execs body (callEnv fd s.heap.objs.size f)) (fun fl s'' => Q (match fl with | .ret v => v | _ => .none) s'') E' s')
    (hco : fd.scope.isCoroutine = false := by rfl) (hgen : fd.scope.isGenerator = false := by rfl) (hk : fd.scope.kind = .function := by rfl) :
    wpAny (model prog w) A (call (.ref f) args kw) Q E s :=
  enterB S R ho hdata hcd hbody (BindsTo.of_eq hbind) hcell hloc h hco hgen hk
end

end Mine


/-! # G1 -/
namespace Mine

/-! ## stretches of a generator: For, If, plain statements -/
section
variable {M : Model} {A : Around} {R : GenEnd} {Y : Protocol} {n : Nat} {s₀ : Shared} {c : Code} {fs : List Frame} {s : Shared} {env : Env}
  {K : Flow → Sem Fin} {H : Value → Sem Fin} {gd : Bool → Bool} {lv : List Value → List Value}

def backOwn (env : Env) (K : Flow → Sem Fin) (H : Value → Sem Fin) (gd : Bool → Bool) (lv : List Value → List Value) (r : Result) : Sem Fin :=
  ((match r with | .ok f => (.pure f : Sem Flow) | .error e => .raise e).onRaise fun (x : Value) => do
    if (← field x 1) == Value.none then unsupported "frame.own-activation:exception-without-traceback"
    setFlight x env.frame).wrap K H gd lv

theorem seg_plain {st : Stmt} (h : wpAny M (A.over c fs) (exec st env) (fun f s' => Seg M A R Y n s₀ c (K f) fs s') (fun x s' => Seg M A R Y n s₀ c (H x) fs s') s) :
    Seg M A R Y n s₀ c ((exec st env).wrap K H gd lv) fs s := seg_wrap h

theorem seg_If {test : Expr} {body orelse : List Stmt} {pos : Pos}
    (h : wpAny M (A.over c fs) (isTrue test env (eval test env)) (fun b s' => if b = true then Seg M A R Y n s₀ c ((execs body env).wrap K H gd lv) fs s' else Seg M A R Y n s₀ c ((execs orelse env).wrap K H gd lv) fs s')
      (fun x s' => Seg M A R Y n s₀ c (H x) fs s') s) :
    Seg M A R Y n s₀ c ((exec (.If test body orelse pos) env).wrap K H gd lv) fs s := by
  rw [exec_If]
  show Seg M A R Y n s₀ c (.at pos fun _ => (isTrue test env (eval test env) >>= fun b => if b = true then execs body env else execs orelse env).wrap K H gd lv) fs s
  refine seg_at ?_
  rw [Sem.bind_eq_wrap', Sem.wrap_wrap]
  refine seg_wrap (wpAny_mono h (fun b s' hb => ?_) fun _ _ x => x)
  cases b
  · exact hb
  · exact hb

theorem seg_For {target iter : Expr} {body orelse : List Stmt} {pos : Pos}
    (h : wpAny M (A.over c fs) (eval iter env) (fun x s₁ => wpAny M (A.over c fs) (pyIter x) (fun it s₂ =>
        ∀ p, Seg M A R Y n s₀ (.forLoop target it body orelse env) (M.den (.forLoop target it body orelse env)) (.ret (backOwn env K H gd lv) none (gd false) (lv []) c p [] :: fs) s₂)
      (fun x s' => Seg M A R Y n s₀ c (H x) fs s') s₁) (fun x s' => Seg M A R Y n s₀ c (H x) fs s') s)
    (hs : ∀ x, foldedSetIterable iter env x = pure x := by intro _; rfl) :
    Seg M A R Y n s₀ c ((exec (.For target iter body orelse pos) env).wrap K H gd lv) fs s := by
  rw [exec_For]
  show Seg M A R Y n s₀ c (.at pos fun _ => (eval iter env >>= fun v => foldedSetIterable iter env v >>= fun x => standAt iter.pos >>= fun _ => holding [x] (pyIter x) >>= fun it => runOwn (.forLoop target it body orelse env) env).wrap K H gd lv) fs s
  refine seg_at ?_
  rw [Sem.bind_eq_wrap', Sem.wrap_wrap]
  refine seg_wrap (wpAny_mono h (fun x s₁ h₁ => ?_) fun _ _ x => x)
  rw [hs x]
  show Seg M A R Y n s₀ c (.at iter.pos fun _ => (holding [x] (pyIter x) >>= fun it => runOwn (.forLoop target it body orelse env) env).wrap K H gd lv) fs s₁
  refine seg_at ?_
  rw [Sem.bind_eq_wrap', Sem.wrap_wrap]
  refine seg_wrap (wpAny_holding (wpAny_mono h₁ (fun it s₂ h₂ => ?_) fun _ _ x => x))
  exact seg_call h₂
end

section
variable {prog : Program} {w : World} {A : Around} {R : GenEnd} {Y : Protocol} {n : Nat} {s₀ : Shared} {fs : List Frame} {s : Shared} {env : Env}

def noted (env : Env) (e : Value) : Sem Fin := (do noteFrame e env; theTreesLotGoes e : Sem Unit).wrap (fun _ => .raise e) .raise id id
def turnEnd (target : Expr) (it : Value) (body orelse : List Stmt) (env : Env) (f : Flow) : Sem Fin := match f with
  | .next | .cont => .pure (.again (.forLoop target it body orelse env))
  | .brk => .pure (.done .next)
  | .ret v => .pure (.done (.ret v))

theorem seg_forLoop {x : Str} {px : Pos} {it : Value} {body orelse : List Stmt}
    (h : wpAny (model prog w) (A.over (.forLoop (.Name x px) it body orelse env) fs) (pyNext it) (fun r s' => match r with
        | none => Seg (model prog w) A R Y n s₀ (.block orelse env) ((model prog w).den (.block orelse env)) fs s'
        | some v => wpAny (model prog w) (A.over (.forLoop (.Name x px) it body orelse env) fs) (storeName env x v) (fun _ s'' =>
            Seg (model prog w) A R Y n s₀ (.forLoop (.Name x px) it body orelse env) ((execs body env).wrap (turnEnd (.Name x px) it body orelse env) (noted env) id id) fs s'')
            (fun x' s'' => Seg (model prog w) A R Y n s₀ (.forLoop (.Name x px) it body orelse env) (noted env x') fs s'') s')
      (fun x' s' => Seg (model prog w) A R Y n s₀ (.forLoop (.Name x px) it body orelse env) (noted env x') fs s') s) :
    Seg (model prog w) A R Y n s₀ (.forLoop (.Name x px) it body orelse env) ((model prog w).den (.forLoop (.Name x px) it body orelse env)) fs s := by
  show Seg _ A R Y n s₀ _ ((forTurn (.Name x px) it body orelse env).onRaise (fun x => do noteFrame x env; theTreesLotGoes x)) fs s
  unfold forTurn
  rw [Sem.onRaise_eq_wrap]
  have eN : ∀ e, (do noteFrame e env; theTreesLotGoes e : Sem Unit).bind (fun _ => (.raise e : Sem Fin)) = noted env e := fun e => by rw [Sem.bind_eq_wrap]; rfl
  simp only [eN]
  show Seg _ A R Y n s₀ _ (.at (Expr.Name x px).pos fun _ => (((pyNext it).onRaise (fun _ => standAt { (Expr.Name x px).pos with line := 0 })) >>= _).wrap _ _ _ _) fs s
  refine seg_at ?_
  rw [Sem.bind_eq_wrap', Sem.wrap_wrap]
  refine seg_wrap (wpAny_onRaise (wpAny_mono h (fun r s' hr => ?_) fun x' s' hx => wpAny_standAt hx))
  cases r with
  | none => exact seg_again rfl hr
  | some v =>
    show Seg _ A R Y n s₀ _ ((letOwnedTupleGo (.Name x px) it v >>= fun _ => assign (.Name x px) env v >>= fun _ => execs body env >>= _).wrap _ _ _ _) fs s'
    rw [show letOwnedTupleGo (.Name x px) it v = pure () from rfl]
    show Seg _ A R Y n s₀ _ ((assign (.Name x px) env v >>= fun _ => execs body env >>= _).wrap _ _ _ _) fs s'
    rw [Sem.bind_eq_wrap', Sem.wrap_wrap]
    refine seg_wrap ?_
    show wpAny _ _ (standAt px >>= fun _ => bindName env x v) _ _ _
    refine wpAny_bind (wpAny_standAt (wpAny_bindName (wpAny_mono hr (fun _ s'' hs => ?_) fun _ _ e => e)))
    rw [Sem.bind_eq_wrap', Sem.wrap_wrap]
    refine Eq.mp (congrArg (fun t => Seg (model prog w) A R Y n s₀ _ t fs s'') (Sem.wrap_congr (execs body env) id id (fun f => ?_) (fun e => ?_))) hs
    · cases f <;> rfl
    · rfl
end
end Mine


/-! # G2 -/
namespace Mine

/-! ## _grouping_intervals -/
noncomputable def eG (w : World) (L : Addr) : Env := callEnv (fdAt w 28) L 28
def bG : List Stmt := fBody (stmtAt 3)
def IterO (l : Addr) (i : Nat) (o : Obj) : Prop := o.cls = .type "list_iterator" ∧ o.data = .fields #[.ref l, .int i 0]

theorem St.isIter {w h₀ os gs s} {led : Led} {it l : Addr} {i : Nat} (S : St w h₀ os gs led s) (h : (it, IterO l i) ∈ led) : s.heap.IsListIter it l i := S.has _ h

/-- how many sizes stand ahead of the first 127 or 0 -/
def hl : List Int → Nat
  | [] => 0
  | x :: r => if x = 127 ∨ x = 0 then 0 else hl r + 1
theorem hl_le : ∀ ns : List Int, hl ns ≤ ns.length
  | [] => Nat.le_refl _
  | x :: r => by unfold hl; split <;> simp [hl_le r]
theorem hl_in : ∀ {ns : List Int} {i : Nat} {x : Int}, i < hl ns → ns[i]? = some x → x ≠ 127 ∧ x ≠ 0
  | y :: r, i, x, h, e => by
    unfold hl at h
    split at h
    · omega
    · rename_i hn
      cases i with
      | zero => simp only [List.getElem?_cons_zero, Option.some.injEq] at e; subst e; exact ⟨fun q => hn (.inl q), fun q => hn (.inr q)⟩
      | succ i => simp only [List.getElem?_cons_succ] at e; exact hl_in (by omega) e
theorem hl_at : ∀ {ns : List Int} {x : Int}, ns[hl ns]? = some x → x = 127 ∨ x = 0
  | y :: r, x, e => by
    unfold hl at e
    split at e
    · rename_i h; simp only [List.getElem?_cons_zero, Option.some.injEq] at e; subst e; exact h
    · simp only [List.getElem?_cons_succ] at e; exact hl_at e

/-- the k-th size that comes -/
def yv (items : List Value) (ns : List Int) (k : Nat) : Option Value :=
  if k < hl ns then items[k]? else if ns[hl ns]? = some 0 then items[hl ns - 1]? else none
def lastv (items : List Value) (k : Nat) : Value := if k = 0 then .none else items.getD (k - 1) .none

structure GP where
  w : World
  L : Addr
  l : Addr
  B : Nat
  items : List Value
  ns : List Int
  N : Nat

namespace GP
def trunc (g : GP) (s : Shared) : Base := fun b => if b < g.B ∧ b ≠ g.L then s.heap.get? b else none
def kv (g : GP) (k : Nat) : List (Str × Value) :=
  if k = 0 then [("grouping", .ref g.l)] else if k ≤ hl g.ns then [("grouping", .ref g.l), ("last_interval", lastv g.items (k - 1)), ("interval", g.items.getD (k - 1) .none)] else [("last_interval", lastv g.items (hl g.ns))]
def led (g : GP) (k : Nat) (it : Addr) : Led := if 1 ≤ k ∧ k ≤ hl g.ns then [(g.L, LocO (g.kv k)), (it, IterO g.l k)] else [(g.L, LocO (g.kv k))]
structure Res (g : GP) (k : Nat) (it : Addr) (s : Shared) : Prop where
  top : Top0 g.w (g.trunc s)
  lst : ∃ o, g.trunc s g.l = some o ∧ ListO g.items o
  tip : ∃ b o, b + 1 = g.B ∧ g.trunc s b = some o
  le : g.B ≤ it
  lt : g.L < g.B
  own : ∀ p ∈ g.led k it, ∃ o, s.heap.get? p.1 = some o ∧ p.2 o
def After (g : GP) (s₀ : Shared) (k : Nat) (it : Addr) (s' : Shared) : Prop := g.B ≤ it ∧ St g.w (g.trunc s₀) s₀.os s₀.gens (g.led k it) s'
def Y (g : GP) : Protocol := fun n s₀ v s' kap => ∃ k it, k + n + 1 = g.N ∧ yv g.items g.ns k = some v ∧ g.After s₀ (k + 1) it s' ∧ (n ≠ 0 → ∀ s'', g.Res (k + 1) it s'' → kap (.send .none) s'')
def P (g : GP) : Nat → Shared → Shared → Prop := fun n s₀ s₁ => ∃ k, k + n = g.N ∧ yv g.items g.ns k = none ∧ ∃ led, St g.w (g.trunc s₀) s₀.os s₀.gens led s₁
def R (g : GP) : GenEnd := fun n s₀ r s₁ => r = .ok (.ret .none) ∧ g.P n s₀ s₁
structure Ok (g : GP) : Prop where
  ia : IntsAre g.items g.ns
  pos : g.ns[0]? ≠ some 0

theorem trunc_keep (g : GP) (s : Shared) : ∀ b o, g.trunc s b = some o → s.heap.get? b = some o := by
  intro b o h; unfold trunc at h; split at h
  · exact h
  · cases h
theorem Res.st {g : GP} {k : Nat} {it : Addr} {s : Shared} (r : g.Res k it s) : St g.w (g.trunc s) s.os s.gens (g.led k it) s := by
  have h1 := r.le
  have h2 := r.lt
  refine ⟨r.top, g.trunc_keep s, r.own, fun p hp => ?_, ?_, rfl, rfl⟩
  · unfold led at hp; unfold trunc
    split at hp
    · simp only [List.mem_cons, List.not_mem_nil, or_false] at hp
      rcases hp with rfl | rfl
      · simp
      · rw [if_neg]; rintro ⟨h, _⟩; exact absurd h (Nat.not_lt.mpr h1)
    · simp only [List.mem_cons, List.not_mem_nil, or_false] at hp
      subst hp; simp
  · unfold led
    split
    · show List.Nodup [g.L, it]
      exact List.nodup_cons.mpr ⟨fun h => Nat.ne_of_lt (Nat.lt_of_lt_of_le h2 h1) (List.mem_singleton.mp h), List.nodup_cons.mpr ⟨List.not_mem_nil, List.nodup_nil⟩⟩
    · show List.Nodup [g.L]
      exact List.nodup_cons.mpr ⟨List.not_mem_nil, List.nodup_nil⟩
end GP
end Mine


/-! # G3 -/
namespace Mine
def fBodyOf : Stmt → List Stmt | .For _ _ b _ _ => b | _ => []
def gFor : Stmt := bG.getD 1 (.Pass default)
def gBody : List Stmt := fBodyOf gFor
def gPx : Pos := match gFor with | .For (.Name _ p) _ _ _ _ => p | _ => default
noncomputable abbrev gCode (w : World) (L it : Addr) : Code := .forLoop (.Name "interval" gPx) (.ref it) gBody [] (eG w L)
noncomputable abbrev gFunc (w : World) (L : Addr) : Code := .func bG (eG w L)

def funK (f : Flow) : Sem Fin := .pure (.done (.ret (match f with | .ret v => v | _ => .none)))
noncomputable def funH (env : Env) (e : Value) : Sem Fin := (leaving env e).wrap (fun _ => .raise e) .raise id id
noncomputable def forK (env : Env) (f : Flow) : Sem Fin := match f with | .next => (execs [] env).wrap funK (funH env) id id | f => funK f
noncomputable abbrev gFrame (w : World) (L : Addr) (p : Pos) : Frame := .ret (backOwn (eG w L) (forK (eG w L)) (funH (eG w L)) id id) none false [] (gFunc w L) p []

theorem IntsAre.get {vs : List Value} {ns : List Int} (h : IntsAre vs ns) : ∀ i : Nat, ∀ v, vs[i]? = some v → ∃ x t, ns[i]? = some x ∧ v = .int x t := by
  induction h with
  | nil => intro i v e; simp at e
  | cons n t h ih =>
    intro i v e
    cases i with
    | zero => simp only [List.getElem?_cons_zero, Option.some.injEq] at e; subst e; exact ⟨n, t, rfl, rfl⟩
    | succ i => simp only [List.getElem?_cons_succ] at e ⊢; exact ih i v e

section
variable {prog : Program} {A : Around} {g : GP} {s₀ s : Shared} {n : Nat}

/-- the end of the whole -/
theorem seg_fin {it : Addr} {p : Pos} {c : Code} {k : Nat} {led : Led} (hk : k + n = g.N) (hy : yv g.items g.ns k = none) (S : St g.w (g.trunc s₀) s₀.os s₀.gens led s) (f : Flow) (hf : f = .next ∨ f = .ret .none) :
    Seg (model prog g.w) A g.R g.Y n s₀ c (.pure (.done f)) [gFrame g.w g.L p] s := by
  refine seg_leaf (k := backOwn (eG g.w g.L) (forK (eG g.w g.L)) (funH (eG g.w g.L)) id id) (.ok f) ?_
  have : backOwn (eG g.w g.L) (forK (eG g.w g.L)) (funH (eG g.w g.L)) id id (.ok f) = leafOf (.ok (.ret .none)) := by
    rcases hf with rfl | rfl <;> rfl
  rw [this]
  exact seg_end _ ⟨rfl, k, hk, hy, led, S⟩

def gIf0 : Stmt := gBody.getD 1 (.Pass default)
def gIf0B : List Stmt := match gIf0 with | .If _ b _ _ => b | _ => []
def gWh : Stmt := gIf0B.getD 1 (.Pass default)
def gWhB : List Stmt := match gWh with | .While _ b _ _ => b | _ => []
def gWhT : Expr := match gWh with | .While t _ _ _ => t | _ => .Constant .none 0 default
noncomputable abbrev wCode (w : World) (L : Addr) : Code := .whileLoop gWhT gWhB [] (eG w L)

theorem ListO.isList {h : Heap} {l : Addr} {items : List Value} (x : ∃ o, h.get? l = some o ∧ ListO items o) : h.IsList l items.toArray :=
  let ⟨o, h1, h2⟩ := x; h2.at h1

section
variable {K : Flow → Sem Fin} {H : Value → Sem Fin}
/-- the endless loop behind a 0 -/
theorem seg_wh (O : g.Ok) (hh : A.handled = none) (hz : g.ns[hl g.ns]? = some 0) (hp : hl g.ns ≠ 0) (hL : g.L < g.B) : ∀ (n k : Nat) (s₀ s : Shared) (p q : Pos) (it : Addr), n ≠ 0 → k + n = g.N → hl g.ns ≤ k → 
    St g.w (g.trunc s₀) s₀.os s₀.gens [(g.L, LocO [("last_interval", lastv g.items (hl g.ns))])] s → g.B ≤ it →
    Seg (model prog g.w) A g.R g.Y n s₀ (wCode g.w g.L) ((model prog g.w).den (wCode g.w g.L)) [.ret (backOwn (eG g.w g.L) K H id id) none false [] (gCode g.w g.L it) q [], gFrame g.w g.L p] s := by
  intro n
  induction n with
  | zero => intro k s₀ s p q it h; exact absurd rfl h
  | succ n ih =>
    intro k s₀ s p q it _ hk hkl S hB
    refine seg_whileLoop ?_
    refine isTrue_plain (e := gWhT) (wpAny_Constant_bool (wpAny_truthy_bool ?_))
    rw [if_pos rfl]
    refine seg_execs_cons ?_
    refine seg_Expr_Yield rfl rfl rfl ?_
    refine nmL S rfl ?_
    intro kap hkap
    have hy : yv g.items g.ns k = some (lastv g.items (hl g.ns)) := by
      unfold yv lastv
      rw [if_neg (Nat.not_lt.mpr hkl), if_pos hz, if_neg hp]
      have hlen := O.ia.length
      have : hl g.ns - 1 < g.items.length := by have := hl_le g.ns; omega
      rw [List.getElem?_eq_getElem this, List.getD_eq_getElem?_getD, List.getElem?_eq_getElem this]; rfl
    have hled : g.led (k + 1) it = [(g.L, LocO [("last_interval", lastv g.items (hl g.ns))])] := by
      unfold GP.led GP.kv
      rw [if_neg (by omega), if_neg (by omega), if_neg (by omega)]
    refine ⟨k, it, by omega, hy, ⟨hB, ?_⟩, fun hn s'' r => ?_⟩
    · rw [hled]; exact S
    · refine hkap .none s'' ?_
      dsimp only
      have S' := r.st
      rw [hled] at S'
      refine seg_execs_nil ?_
      dsimp only
      exact seg_again rfl (ih (k + 1) s'' s'' p q it hn (by omega) (by omega) S' hB)
end

theorem seg_for (O : g.Ok) (hh : A.handled = none) (hL : g.L < g.B) : ∀ (n i : Nat) (s₀ s : Shared) (it : Addr) (p : Pos), n ≠ 0 → i + n = g.N → i ≤ hl g.ns → g.B ≤ it →
    (∃ o, g.trunc s₀ g.l = some o ∧ ListO g.items o) →
    St g.w (g.trunc s₀) s₀.os s₀.gens [(g.L, LocO [("grouping", .ref g.l), ("last_interval", lastv g.items i)]), (it, IterO g.l i)] s →
    Seg (model prog g.w) A g.R g.Y n s₀ (gCode g.w g.L it) ((model prog g.w).den (gCode g.w g.L it)) [gFrame g.w g.L p] s := by
  intro n
  induction n with
  | zero => intro i s₀ s it p h; exact absurd rfl h
  | succ n ih =>
    intro i s₀ s it p _ hi hil hB hlst S
    have hlist : s.heap.IsList g.l g.items.toArray := by
      obtain ⟨o, h1, h2⟩ := hlst
      exact h2.at (S.keep _ _ h1)
    have hlen := O.ia.length
    have hA : (A.over (gCode g.w g.L it) [gFrame g.w g.L p]).handled = none := by
      show (marksOver _ (A.handled, A.handled)).1 = none
      rw [hh]; rfl
    refine seg_forLoop ?_
    cases hx : g.items[i]? with
    | none =>
      refine wpAny_pyNext_list_end hA (S.isIter (.tail _ (.head _))) hlist (by simpa using hx) fun h' hx' => ?_
      dsimp only
      have S' := S.lose (s' := { s with heap := h' }) (led' := []) (.tail _ (.head _)) hx' (fun p hp => nomatch hp) List.nodup_nil rfl rfl
      have hge : g.items.length ≤ i := List.getElem?_eq_none_iff.mp hx
      have hle := hl_le g.ns
      have hy : yv g.items g.ns i = none := by
        unfold yv
        rw [if_neg (by omega), if_neg]
        rw [List.getElem?_eq_none (by omega)]; nofun
      exact seg_fin (it := it) hi hy S' .next (.inl rfl)
    | some v =>
      refine wpAny_pyNext_list_item (S.isIter (.tail _ (.head _))) hlist (by simpa using hx) fun h' hit' hs' => ?_
      dsimp only
      have S1 := S.put (s' := { s with heap := h' }) (P' := IterO g.l (i + 1)) (.tail .head) hs'.extBut hit' rfl rfl
      obtain ⟨x, t, hns, rfl⟩ := IntsAre.get O.ia i v hx
      refine stL S1 fun s2 S2 => ?_
      refine seg_execs_cons (seg_If ?_)
      refine wpAny_isTrue_Compare1 (nmL S2 rfl (nmG S2 (v := .int 127 196) rfl (eq_int (wpAny_truthy_bool ?_))))
      by_cases h127 : x = 127
      · subst h127
        rw [if_pos (by rfl)]
        refine seg_execs_cons (seg_plain (wpAny_Return_none ?_))
        dsimp only
        have hge : i = hl g.ns := by
          rcases Nat.lt_or_ge i (hl g.ns) with h | h
          · exact absurd rfl (hl_in h hns).1
          · omega
        have hy : yv g.items g.ns i = none := by
          unfold yv
          rw [if_neg (by omega), if_neg]
          rw [← hge, hns]; simp
        exact seg_fin (it := it) hi hy S2 (.ret .none) (.inr rfl)
      · rw [if_neg (by simpa using h127)]
        refine seg_execs_nil ?_
        dsimp only
        refine seg_execs_cons (seg_If ?_)
        refine wpAny_isTrue_Compare1 (nmL S2 rfl (wpAny_Constant_int (eq_int (wpAny_truthy_bool ?_))))
        have S3 := S2.toks (s2.toks + 1)
        by_cases h0 : x = 0
        · subst h0
          rw [if_pos (by rfl)]
          have hge : i = hl g.ns := by
            rcases Nat.lt_or_ge i (hl g.ns) with h | h
            · exact absurd rfl (hl_in h hns).2
            · omega
          have hp : hl g.ns ≠ 0 := by
            intro q
            rw [q] at hge; subst hge
            exact O.pos hns
          refine seg_execs_cons (seg_If ?_)
          refine wpAny_isTrue_Compare1 (nmL S3 rfl (wpAny_Constant_none (is_none (wpAny_truthy_bool ?_))))
          have hlast : (lastv g.items i == Value.none) = false := by
            unfold lastv
            rw [if_neg (by omega)]
            have hi1 : i - 1 < g.items.length := by have := hl_le g.ns; omega
            rw [List.getD_eq_getElem?_getD, List.getElem?_eq_getElem hi1]
            obtain ⟨y, ty, _, e⟩ := IntsAre.get O.ia (i - 1) _ (List.getElem?_eq_getElem hi1)
            rw [e]; rfl
          rw [hlast, if_neg (by simp)]
          refine seg_execs_nil ?_
          dsimp only
          refine seg_execs_cons (seg_While fun q => ?_)
          have S4 := S3.sub (led' := [(g.L, LocO [("last_interval", lastv g.items (hl g.ns))])]) (fun p hp => by
            obtain rfl := List.mem_singleton.mp hp
            exact ⟨_, .head _, rfl, fun o h => LocO.sub (kvs' := [("last_interval", lastv g.items (hl g.ns))]) ⟨by rw [← hge]; rfl, trivial⟩ h⟩) (List.nodup_cons.mpr ⟨List.not_mem_nil, List.nodup_nil⟩)
          exact seg_wh O hh (by rw [← hge]; exact hns) hp hL (n + 1) i s₀ _ p q it (by omega) hi (by omega) S4 hB
        · rw [if_neg (by simpa using h0)]
          refine seg_execs_nil ?_
          dsimp only
          have hlt : i < hl g.ns := by
            rcases Nat.lt_or_ge i (hl g.ns) with h | h
            · exact h
            · have : i = hl g.ns := by omega
              rcases hl_at (this ▸ hns) with q | q
              · exact absurd q h127
              · exact absurd q h0
          refine seg_execs_cons (seg_Expr_Yield rfl rfl rfl ?_)
          refine nmL S3 rfl ?_
          intro kap hkap
          have hled : g.led (i + 1) it = [(g.L, LocO [("grouping", .ref g.l), ("last_interval", lastv g.items i), ("interval", .int x t)]), (it, IterO g.l (i + 1))] := by
            unfold GP.led GP.kv
            rw [if_pos (by omega), if_neg (by omega), if_pos (by omega)]
            simp only [Nat.add_sub_cancel]
            rw [List.getD_eq_getElem?_getD, hx]; rfl
          refine ⟨i, it, by omega, ?_, ⟨hB, ?_⟩, fun hn s'' r => ?_⟩
          · unfold yv; rw [if_pos hlt]; exact hx
          · rw [hled]; exact S3
          · refine hkap .none s'' ?_
            dsimp only
            have S' := r.st
            rw [hled] at S'
            refine seg_execs_cons (seg_plain ?_)
            refine wpAny_Assign_Name (nmL S' rfl (stL S' fun s5 S5 => ?_))
            refine seg_execs_nil ?_
            have S6 := S5.sub (led' := [(g.L, LocO [("grouping", .ref g.l), ("last_interval", lastv g.items (i + 1))]), (it, IterO g.l (i + 1))]) (fun p hp => by
              rcases List.mem_cons.mp hp with rfl | hp
              · refine ⟨_, .head _, rfl, fun o h => LocO.sub (kvs' := [("grouping", .ref g.l), ("last_interval", lastv g.items (i + 1))]) ⟨rfl, ?_, trivial⟩ h⟩
                have : lastv g.items (i + 1) = .int x t := by
                  unfold lastv
                  rw [if_neg (by omega), Nat.add_sub_cancel, List.getD_eq_getElem?_getD, hx]; rfl
                rw [this]; rfl
              · exact ⟨_, .tail _ hp, rfl, fun _ h => h⟩) S5.nodup
            exact seg_again rfl (ih (i + 1) s'' s5 it p hn (by omega) (by omega) hB r.lst S6)

theorem seg_start (O : g.Ok) (hh : A.handled = none) (hN : g.N ≠ 0) {it : Addr} (r : g.Res 0 it s) :
    Seg (model prog g.w) A g.R g.Y g.N s (gFunc g.w g.L) ((model prog g.w).den (gFunc g.w g.L)) [] s := by
  have S := r.st
  have hled : g.led 0 it = [(g.L, LocO [("grouping", .ref g.l)])] := rfl
  rw [hled] at S
  refine seg_func ?_
  refine seg_execs_cons (seg_plain ?_)
  refine wpAny_Assign_Name (wpAny_Constant_none (stL S fun s1 S1 => ?_))
  dsimp only
  refine seg_execs_cons (seg_For ?_)
  have hlist : s1.heap.IsList g.l g.items.toArray := by
    obtain ⟨o, h1, h2⟩ := r.lst
    exact h2.at (S1.keep _ _ h1)
  refine nmL S1 rfl (wpAny_pyIter_list hlist ?_)
  intro p
  have S2 := S1.push (P := IterO g.l 0) (o := { cls := .type "list_iterator", data := .fields #[.ref g.l, .int 0 0] }) ⟨rfl, rfl⟩
  have hB : g.B ≤ s1.heap.objs.size := by
    obtain ⟨b, o, e, h⟩ := r.tip
    rw [← e]; exact Heap.lt_size (S1.keep _ _ h)
  have S3 := S2.sub (led' := [(g.L, LocO [("grouping", .ref g.l), ("last_interval", lastv g.items 0)]), (s1.heap.objs.size, IterO g.l 0)]) (fun p hp => by
    rcases List.mem_cons.mp hp with rfl | hp
    · exact ⟨_, .tail _ (.head _), rfl, fun o h => LocO.sub (kvs' := [("grouping", .ref g.l), ("last_interval", lastv g.items 0)]) ⟨rfl, rfl, trivial⟩ h⟩
    · obtain rfl := List.mem_singleton.mp hp
      exact ⟨_, .head _, rfl, fun _ h => h⟩) (by
    have := S2.swap.nodup
    exact this)
  exact seg_for O hh r.lt g.N 0 s _ _ p hN (by omega) (Nat.zero_le _) hB r.lst S3
end
end Mine


/-! # X1 -/
namespace Mine
/-! ## the next of an iterator, in two halves: the slot's own work, and what its exception comes to -/
section
variable {prog : Program} {w : World} {A : Around} {E : Value → Shared → Prop} {s : Shared}

/-- what the next of an iterator makes of an exception -/
abbrev AtEnd (prog : Program) (w : World) (A : Around) (Q : Option Value → Shared → Prop) (E : Value → Shared → Prop) (e : Value) (s : Shared) : Prop :=
  wpAny (model prog w) A (isInstance e (.type "StopIteration") >>= fun b => if b = true then pure none else throw e) Q E s

theorem nextBy {T id : String} {b : Builtin} {it : Value} {Q : Option Value → Shared → Prop} (hT : s.TypeIs it T) (sl : Slot T "__next__" id) (en : entryFor table id = some b) (ok : argsOk id ⟨[it], []⟩)
    (h : wpAny (model prog w) A.in1 (b ⟨[it], []⟩) (fun fin s' => ∃ v, fin = .done (.ret v) ∧ Q (some v) s') (AtEnd prog w A Q E) s) :
    wpAny (model prog w) A (pyNext it) Q E s :=
  have said := wpAny_mono h (fun fin s' (x : ∃ v, fin = .done (.ret v) ∧ Q (some v) s') => x.imp fun v y => ⟨y.1, wpAny_pure (Q := Q) y.2⟩) fun _ _ x => x
  wpAny_bind (wpAny_attempt (wpAny_callSpecial?_slot hT sl (wpAny_call_entry sl hT en said ok)))

/-- a StopIteration without arguments -/
theorem stopMade {Q : Value → Shared → Prop} (h : ∀ e h', Shared.TypeIs { s with heap := h' } (.ref e) "StopIteration" → (∀ b o, s.heap.get? b = some o → h'.get? b = some o) → Q (.ref e) { s with heap := h' }) :
    wpAny (model prog w) A (newExc (.type "StopIteration") []) Q E s := by
  unfold newExc newTuple
  have up (x y : Obj) : ∀ b o, s.heap.get? b = some o → ((s.heap.push x).push y).get? b = some o := fun b o e => Heap.get?_push_of_some _ (Heap.get?_push_of_some _ e)
  exact wpAny_bind (wpAny_newObj_type (wpAny_bind (wpAny_of_eq (a := .none) rfl (wpAny_newObj_type (h _ _ ⟨_, Heap.get?_push_size _ rfl, rfl⟩ (up _ _)) (by size_fits)))) (by size_fits))

/-- .. raised (by m): the walk is at its end -/
theorem stops {α : Type} {m : Value → Sem α} {P : α → Shared → Prop} {Q : Option Value → Shared → Prop} (hm : ∀ {e s} {X : Value → Shared → Prop}, X e s → wpAny (model prog w) A.in1 (m e) P X s)
    (h : ∀ h', (∀ b o, s.heap.get? b = some o → h'.get? b = some o) → Q none { s with heap := h' }) :
    wpAny (model prog w) A.in1 (newExc (.type "StopIteration") [] >>= m) P (AtEnd prog w A Q E) s :=
  wpAny_bind (stopMade fun e h' hT up => hm (wpAny_bind (wpAny_isInstance hT isSubtype_stop (wpAny_pure (h h' up)))))
end
end Mine


/-! # X2 -/
namespace Mine
section
variable {prog : Program} {w : World} {A : Around} {E : Value → Shared → Prop} {s : Shared}

/-- a generator that is asked to go on: it yields, returns None, or raises -/
theorem genWoken {a : Addr} {gi n : Nat} {gst : GenState} {R : GenEnd} {Y : Protocol} {Q : Fin → Shared → Prop} (hl : s.heap.NoLimit) (hroom : A.depth < recursionLimit) (hg : s.heap.IsGen a gi) (hgs : s.gens[gi]? = some gst)
    (hgo : gst.Goes (model prog w) A.in1 R Y n (.send .none) (s.setGen gi .running))
    (over : ∀ x s₁, R n (s.setGen gi .running) x s₁ →
      (x = .ok (.ret .none) ∧ ∀ K : Unit → Sem Fin, wpAny (model prog w) A.in1 (newExc (.type "StopIteration") [] >>= fun e => raiseNew e >>= K) Q E (s₁.setGen gi .finished)) ∨
      ∃ e, x = .error e ∧ wpAny (model prog w) A.in1 (Builtin.Generator.genLeft (.ref a) e) Q E (s₁.setGen gi .finished))
    (out : ∀ v s₁ gs', gs'.bare = true → Y (n - 1) (s.setGen gi .running) v s₁ (fun r' s'' => match n with | 0 => False | m + 1 => gs'.Goes (model prog w) A.in1 R Y m r' s'') → Q (.done (.ret v)) (s₁.setGen gi gs')) :
    wpAny (model prog w) A.in1 (Builtin.Generator.genWake (.ref a) (.send .none)) Q E s := by
  have go : ∀ {k : GenResult → Sem Fin}, (∀ v s', Q (.done (.ret v)) s' → wpAny (model prog w) A.in1 (k (.yielded v)) Q E s') →
      (∀ s', (∀ K : Unit → Sem Fin, wpAny (model prog w) A.in1 (newExc (.type "StopIteration") [] >>= fun e => raiseNew e >>= K) Q E s') → wpAny (model prog w) A.in1 (k (.returned .none)) Q E s') →
      (∀ e s', wpAny (model prog w) A.in1 (Builtin.Generator.genLeft (.ref a) e) Q E s' → wpAny (model prog w) A.in1 (k (.raised e)) Q E s') →
      wpAny (model prog w) A.in1 (.resume gi (.send .none) [] k) Q E s := fun h1 h2 h3 =>
    wpAny_resumeQ hgs hgo (fun x s₁ hx => (over x s₁ hx).elim (fun ⟨e, hw⟩ => by subst e; exact h2 _ hw) fun ⟨e, q, hw⟩ => by subst q; exact h3 e _ hw) fun v s₁ gs' hb hv => h1 v _ (out v s₁ gs' hb hv)
  unfold Builtin.Generator.genWake
  refine wpAny_bind <| wpAny_holding <| wpAny_genNumber hg <| wpAny_bind <| wpAny_genState hgs ?_
  cases gst with
  | fresh c => exact wpAny_bind <| wpAny_roomToWake hl hroom <| go (fun v s' q => wpAny_pure q) (fun s' q => q _) fun e s' q => q
  | suspended k l c p fs cl => exact wpAny_bind <| wpAny_roomToWake hl hroom <| go (fun v s' q => wpAny_pure q) (fun s' q => q _) fun e s' q => q
  | running => cases hgo
  | finished => cases hgo
end
end Mine


/-! # G4 -/
namespace Mine

def GenO (g : Nat) (o : Obj) : Prop := ∃ nm qn, o.cls = .type "generator" ∧ o.data = .fields #[.int g 0, nm, qn] ∧ o.slots = #[]
theorem St.isGen {w h₀ os gs s} {led : Led} {a : Addr} {g : Nat} (S : St w h₀ os gs led s) (h : (a, GenO g) ∈ led) : s.heap.IsGen a g := by
  obtain ⟨o, h1, nm, qn, h2⟩ := S.has _ h
  exact ⟨o, nm, qn, h1, h2⟩

section
variable {prog : Program} {A : Around} {E : Value → Shared → Prop} {s : Shared}

/-- the next of a generator that returns None at its end -/
theorem pyNext_genR {w : World} {a : Addr} {gi n : Nat} {gst : GenState} {P : Nat → Shared → Shared → Prop} {Y : Protocol} {Q : Option Value → Shared → Prop} (hh : A.handled = none) (hl : s.heap.NoLimit)
    (hroom : A.depth < recursionLimit) (hg : s.heap.IsGen a gi) (hgs : s.gens[gi]? = some gst)
    (hgo : gst.Goes (model prog w) A.in1 (fun n s₀ r s₁ => r = .ok (.ret .none) ∧ P n s₀ s₁) Y n (.send .none) (s.setGen gi .running))
    (hY : ∀ v s₁ gs', gs'.bare = true → Y (n - 1) (s.setGen gi .running) v s₁ (fun r' s'' => match n with
        | 0 => False
        | m + 1 => gs'.Goes (model prog w) A.in1 (fun n s₀ r s₁ => r = .ok (.ret .none) ∧ P n s₀ s₁) Y m r' s'') → Q (some v) (s₁.setGen gi gs'))
    (hP : ∀ s₁, P n (s.setGen gi .running) s₁ → ∀ h', (∀ b o, s₁.heap.get? b = some o → h'.get? b = some o) → Q none { s₁.setGen gi .finished with heap := h' }) : wpAny (model prog w) A (pyNext (.ref a)) Q E s :=
  nextBy hg.typeIs slot_gen_next entry_gen_next (args_gen_next _) <| genWoken hl hroom hg hgs hgo
    (fun x s₁ hx => .inl ⟨hx.1, fun K => stops (fun q => wpAny_bind (wpAny_raiseNew_none hh q)) (hP s₁ hx.2)⟩)
    fun v s₁ gs' hb hv => ⟨v, rfl, hY v s₁ gs' hb hv⟩

/-- the caller's side -/
structure Con (g : GP) (h₀ : Base) (led : Led) : Prop where
  low : ∀ b o, h₀ b = some o → b < g.B
  lst : ∃ o, h₀ g.l = some o ∧ ListO g.items o
  all : ∀ p ∈ led, p.1 < g.B
  tip : ∃ p ∈ led, p.1 + 1 = g.B
  lt : g.L < g.B

theorem Con.up {g : GP} {h₀ : Base} {os gs} {led : Led} (C : Con g h₀ led) {k it} (S : St g.w h₀ os gs (g.led k it ++ led) s) : ∀ b o, h₀ b = some o → g.trunc s b = some o := by
  intro b o e
  unfold GP.trunc
  have hm : ∃ P, (g.L, P) ∈ g.led k it := by unfold GP.led; split <;> exact ⟨_, .head _⟩
  have hne : b ≠ g.L := fun q => by
    obtain ⟨P, hm⟩ := hm
    have : h₀ g.L = none := S.new _ (List.mem_append_left _ hm)
    rw [← q, e] at this; cases this
  rw [if_pos ⟨C.low b o e, hne⟩]
  exact S.keep _ _ e
theorem Con.led' {g : GP} {h₀ : Base} {os gs} {led : Led} (C : Con g h₀ led) {k it} (S : St g.w h₀ os gs (g.led k it ++ led) s) : ∀ p ∈ led, ∀ o, s.heap.get? p.1 = some o → g.trunc s p.1 = some o := by
  intro p hp o e
  unfold GP.trunc
  have hm : ∃ P, (g.L, P) ∈ g.led k it := by unfold GP.led; split <;> exact ⟨_, .head _⟩
  have hne : p.1 ≠ g.L := fun q => by
    obtain ⟨P, hm⟩ := hm
    have nd := S.nodup
    rw [List.map_append, List.nodup_append] at nd
    exact nd.2.2 g.L (List.mem_map.mpr ⟨_, hm, rfl⟩) p.1 (List.mem_map.mpr ⟨p, hp, rfl⟩) q.symm
  rw [if_pos ⟨C.all p hp, hne⟩]
  exact e

theorem Con.res {g : GP} {h₀ : Base} {os gs} {led : Led} (C : Con g h₀ led) {k it} (hit : g.B ≤ it) (S : St g.w h₀ os gs (g.led k it ++ led) s) : g.Res k it s :=
  ⟨S.top.keeps (C.up S), let ⟨o, h1, h2⟩ := C.lst; ⟨o, C.up S _ _ h1, h2⟩,
    let ⟨p, hp, e⟩ := C.tip; let ⟨o, h1, _⟩ := S.has p (List.mem_append_right _ hp); ⟨p.1, o, e, C.led' S p hp o h1⟩, hit, C.lt, fun p hp => S.has p (List.mem_append_left _ hp)⟩
abbrev Cap (prog : Program) (A : Around) (g : GP) (k : Nat) (it : Addr) (n : Nat) (gst : GenState) : Prop := ∀ s'', g.Res k it s'' → gst.Goes (model prog g.w) A.in1 g.R g.Y n (.send .none) s''

theorem next_gen {g : GP} {h₀ : Base} {os : OsState} {gs : Array GenState} {led : Led} {k n gi : Nat} {it a : Addr} {gst : GenState} {Q : Option Value → Shared → Prop}
    (hh : A.handled = none) (hroom : A.depth < recursionLimit) (C : Con g h₀ led) (hit : g.B ≤ it)
    (S : St g.w h₀ os gs (g.led k it ++ led) s) (ha : (a, GenO gi) ∈ led) (hgs : gs[gi]? = some gst) (hb : AllBare gs) (cap : Cap prog A g k it n gst) (hkn : k + n = g.N) (hn : n ≠ 0)
    (hY : ∀ v it' gst' gs' s', yv g.items g.ns k = some v → g.B ≤ it' → St g.w h₀ os gs' (g.led (k + 1) it' ++ led) s' → gs'[gi]? = some gst' → AllBare gs' → (n - 1 ≠ 0 → Cap prog A g (k + 1) it' (n - 1) gst') → Q (some v) s')
    (hP : ∀ gs' s', yv g.items g.ns k = none → AllBare gs' → St g.w h₀ os gs' led s' → Q none s') :
    wpAny (model prog g.w) A (pyNext (.ref a)) Q E s := by
  have hg0 : s.gens[gi]? = some gst := by rw [S.gens]; exact hgs
  have S0 : St g.w h₀ os (s.setGen gi .running).gens (g.led k it ++ led) (s.setGen gi .running) := ⟨S.top, S.keep, S.has, S.new, S.nodup, S.os, rfl⟩
  refine pyNext_genR (n := n) (P := g.P) hh S.topNow.noLimit hroom (S.isGen (List.mem_append_right _ ha)) hg0 (cap _ (C.res hit S0)) (fun v s₁ gs' hbr hv => ?_) (fun s₁ hp h' hk => ?_)
  · obtain ⟨k', it', e, hy, ⟨hit', S1⟩, kap⟩ := hv
    obtain rfl : k' = k := by omega
    have S1' : St g.w (g.trunc (s.setGen gi .running)) os (s.setGen gi .running).gens (g.led (k' + 1) it') s₁ := ⟨S1.top, S1.keep, S1.has, S1.new, S1.nodup, S1.os.trans S0.os, S1.gens⟩
    have S2 := S0.merge (C.up S0) (C.led' S0) S1'
    have hg1 : s₁.gens[gi]? = some .running := by rw [S1.gens]; exact setGen_self hg0
    refine hY v it' gs' (s₁.setGen gi gs').gens _ hy hit' ⟨S2.top, S2.keep, S2.has, S2.new, S2.nodup, S2.os, rfl⟩ (setGen_self hg1) ?_ fun hn1 s'' r => ?_
    · have b1 : AllBare s.gens := by rw [S.gens]; exact hb
      refine (GenOnlyQ.of (g := gi) (GenOnly.trans (GenOnly.setGen s gi .running) ?_) (setGen_self hg1) hbr).bare b1
      have := GenOnly.setGen s₁ gi gs'
      rw [S1.gens] at this
      exact this
    · have := kap (by omega) s'' r
      cases n with
      | zero => exact this.elim
      | succ m => exact this
  · obtain ⟨k', e, hy, led₁, S1⟩ := hp
    obtain rfl : k' = k := by omega
    have S1' : St g.w (g.trunc (s.setGen gi .running)) os (s.setGen gi .running).gens led₁ s₁ := ⟨S1.top, S1.keep, S1.has, S1.new, S1.nodup, S1.os.trans S0.os, S1.gens⟩
    have S2 := (S0.merge (C.up S0) (C.led' S0) S1').comm
    have S3 : St g.w h₀ os (s.setGen gi .running).gens led s₁ := S2.sub (fun p hp => ⟨p, List.mem_append_left _ hp, rfl, fun _ h => h⟩) (by
      have := S2.nodup; rw [List.map_append, List.nodup_append] at this; exact this.1)
    have hg1 : s₁.gens[gi]? = some .running := by rw [S1.gens]; exact setGen_self hg0
    refine hP (s₁.setGen gi .finished).gens _ hy ?_ ⟨S3.top, fun b o e => hk _ _ (S3.keep b o e), fun p hp => let ⟨o, h1, h2⟩ := S3.has p hp; ⟨o, hk _ _ h1, h2⟩, S3.new, S3.nodup, S3.os, rfl⟩
    have b1 : AllBare s.gens := by rw [S.gens]; exact hb
    refine (GenOnlyQ.of (g := gi) (GenOnly.trans (GenOnly.setGen s gi .running) ?_) (setGen_self hg1) rfl).bare b1
    have := GenOnly.setGen s₁ gi .finished
    rw [S1.gens] at this
    exact this
end
end Mine


/-! # B3 -/
namespace Mine

/-! ## the built-in names -/
theorem bb_str : bootBuiltins "str" = some (.type "str") := by kernel_rfl
theorem bb_list : bootBuiltins "list" = some (.type "list") := by kernel_rfl
theorem bb_len : bootBuiltins "len" = some (.builtin "len") := by kernel_rfl
theorem bb_sum : bootBuiltins "sum" = some (.builtin "sum") := by kernel_rfl
theorem bb_abs : bootBuiltins "abs" = some (.builtin "abs") := by kernel_rfl
theorem bb_range : bootBuiltins "range" = some (.type "range") := by kernel_rfl
theorem bb_enumerate : bootBuiltins "enumerate" = some (.type "enumerate") := by kernel_rfl
theorem bb_set : bootBuiltins "set" = some (.type "set") := by kernel_rfl
theorem bb_type : bootBuiltins "type" = some (.type "type") := by kernel_rfl
theorem bb_ve : bootBuiltins "ValueError" = some (.type "ValueError") := by kernel_rfl

/-! ## texts as lists of codes -/
def mkS (l : List Nat) : Str := ⟨l.toArray⟩
theorem mkS_cps (l : List Nat) : (mkS l).cps = l.toArray := rfl
theorem mkS_length (l : List Nat) : (mkS l).length = l.length := by simp [mkS, Str.length]
theorem mkS_toList (x : Str) : mkS x.cps.toList = x := by cases x; simp [mkS]
theorem mkS_inj {a b : List Nat} (h : mkS a = mkS b) : a = b := by simpa [mkS] using h
theorem mkS_append (a b : List Nat) : mkS a ++ mkS b = mkS (a ++ b) := by
  apply Str.ext'
  rw [Str.cps_append]; simp [mkS]

theorem slice_to (l : List Nat) (k : Nat) : Txt.slice (mkS l) none (some (k : Int)) = mkS (l.take k) := by
  have h := slice_to_min_closes (x := mkS l) (n := (k : Int)) (m := if ((mkS l).length : Int) < k then ((mkS l).length : Int) else k) (by omega) rfl
  rw [beq_iff_eq.mp h, mkS_length]
  show mkS _ = _
  congr 1
  simp only [mkS_cps, Int.toNat_zero, List.drop_zero, Int.sub_zero]
  split
  · rw [List.take_of_length_le (by omega), List.take_of_length_le (by omega)]
  · simp
theorem slice_fr (l : List Nat) (k : Nat) : Txt.slice (mkS l) (some (k : Int)) none = mkS (l.drop k) := by
  rcases Nat.lt_or_ge l.length k with h | h
  · rw [slice_beyond (by rw [mkS_length]; omega), List.drop_eq_nil_of_le (by omega)]; rfl
  · rw [slice_from_eq (b := (l.length : Int)) (by omega) (by rw [mkS_length]; omega) (by rw [mkS_length])]
    show mkS _ = _
    congr 1
    simp only [mkS_cps, Int.toNat_natCast]
    rw [List.take_of_length_le (by simp)]

section
variable {prog : Program} {w : World} {A : Around} {E : Value → Shared → Prop} {s : Shared} {h₀ : Base} {os : OsState} {gs : Array GenState} {led led' : Led} {env : Env} {kvs : List (Str × Value)}

theorem St.keptH (S : St w h₀ os gs led s) : KeptH (fun h => ∀ k, St w h₀ os gs led { s with heap := h, toks := k }) :=
  fun h ob hS k => (hS k).grow (s' := { s with heap := h.push ob, toks := k }) (fun b o e => Heap.get?_push_of_some _ e) rfl rfl

/-! ## slices of texts -/
theorem tail_ns {value slice : Expr} {x : List Nat} {t uj : Tok} {j : Nat} {Q : Value → Shared → Prop} (S : St w h₀ os gs led s)
    (h : ∀ t' s', St w h₀ os gs led s' → Q (.str (mkS (x.take j)) t') s') (hsz : x.length ≤ 10000)
    (hs : subscripted slice false (.str (mkS x) t) (.ref s.heap.objs.size) = operate [.ref s.heap.objs.size, .str (mkS x) t] (getItem (.str (mkS x) t) (.ref s.heap.objs.size)) := by with_unfolding_all rfl)
    (ht : ∀ r, letTemporaryGo value (.str (mkS x) t) r = pure () := by intro _; with_unfolding_all rfl) :
    wpAny (model prog w) A (subscriptTail value slice (.str (mkS x) t) (.ref s.heap.objs.size)) Q E { s with heap := s.heap.push { cls := .type "slice", data := .fields #[.none, .int j uj, .none] } } :=
  tail_of_ItemOn (SBH.sliceItem_ns S.keptH (fun k => S.toks k) (fun h' t' k hP => by rw [slice_to]; exact h t' _ (hP k)) (by rw [mkS_length, sizeLine_eq]; omega)) hs ht
theorem tail_sn {value slice : Expr} {x : List Nat} {t ui : Tok} {i : Nat} {Q : Value → Shared → Prop} (S : St w h₀ os gs led s)
    (h : ∀ t' s', St w h₀ os gs led s' → Q (.str (mkS (x.drop i)) t') s') (hsz : x.length ≤ 10000)
    (hs : subscripted slice false (.str (mkS x) t) (.ref s.heap.objs.size) = operate [.ref s.heap.objs.size, .str (mkS x) t] (getItem (.str (mkS x) t) (.ref s.heap.objs.size)) := by with_unfolding_all rfl)
    (ht : ∀ r, letTemporaryGo value (.str (mkS x) t) r = pure () := by intro _; with_unfolding_all rfl) :
    wpAny (model prog w) A (subscriptTail value slice (.str (mkS x) t) (.ref s.heap.objs.size)) Q E { s with heap := s.heap.push { cls := .type "slice", data := .fields #[.int i ui, .none, .none] } } :=
  tail_of_ItemOn (SBH.sliceItem_sn S.keptH (fun k => S.toks k) (fun h' t' k hP => by rw [slice_fr]; exact h t' _ (hP k)) (by rw [mkS_length, sizeLine_eq]; omega)) hs ht

/-! ## lists -/
theorem nwList {vs : List Value} {Q : Value → Shared → Prop} (S : St w h₀ os gs led s) (h : ∀ l s', l = s.heap.objs.size → St w h₀ os gs ((l, ListO vs) :: led) s' → Q (.ref l) s') (hsz : vs.length ≤ 10000) :
    wpAny (model prog w) A (newList vs) Q E s :=
  wpAny_newObj_type (h _ _ rfl (S.push (P := ListO vs) (o := { cls := .type "list", data := .seq vs.toArray }) ⟨_, rfl⟩)) (by show vs.toArray.size ≤ sizeLine; rw [List.size_toArray, sizeLine_eq]; omega)
theorem St.plainList {l : Addr} {its : List Value} (S : St w h₀ os gs led s) (h : (l, ListO its) ∈ led) : s.heap.PlainList l its.toArray := by
  obtain ⟨o, h1, n, rfl⟩ := S.has _ h
  exact ⟨n, h1⟩
theorem St.plainL {l : Addr} {its : List Value} (S : St w h₀ os gs led s) (h : (l, ListO its) ∈ led) : PlainL s.heap l its.toArray := by
  obtain ⟨o, h1, n, rfl⟩ := S.has _ h
  exact ⟨_, n, h1, rfl, rfl, rfl⟩
theorem apL {l : Addr} {its : List Value} {x : Value} {Q : Value → Shared → Prop} (S : St w h₀ os gs led s) (U : Put l (ListO (its ++ [x])) (ListO its) led led')
    (h : ∀ s', St w h₀ os gs led' s' → Q .none s') (hsz : its.length ≤ 10000) : wpAny (model prog w) A (call (.builtin "list.append") [.ref l, x]) Q E s :=
  wpAny_list_append_plain (S.plainList U.mem) (fun h' hp hs => h _ (S.put (s' := { s with heap := h' }) U hs.extBut (by
    obtain ⟨n, h1⟩ := hp
    exact ⟨_, h1, n, by simp⟩) rfl rfl)) (by rw [List.size_toArray, sizeLine_eq]; omega)
/-- xs.append(e) -/
theorem evAppend {o elt : Expr} {apos pos : Pos} {Q : Value → Shared → Prop}
    (h : wpAny (model prog w) A (eval o env) (fun ov s₁ => ∃ D its, ov = .ref D ∧ PlainL s₁.heap D its ∧
      wpAny (model prog w) A (eval elt env) (fun y s₂ => wpAny (model prog w) A (call (.builtin "list.append") [.ref D, y]) Q E s₂) E s₁) E s)
    (hbase : attributeBase o "append" env (eval o env) = eval o env := by rfl)
    (hline : (apos.endLine == pos.line) = true := by rfl)
    (htrees : backTo pos (starEach [elt] env) = [(false, eval elt env)] := by rfl) :
    wpAny (model prog w) A (eval (.Call (.Attribute o "append" apos) [elt] [] pos) env) Q E s :=
  wpAny_Call_append hbase (by rw [htrees]; rfl) hline htrees h

/-- list(text) -/
theorem lstStr {x : List Nat} {t : Tok} {Q : Value → Shared → Prop} (hh : A.handled = none) (S : St w h₀ os gs led s)
    (h : ∀ l s' (vs : List Value), l = s.heap.objs.size → vs.length = x.length → (∀ (i : Nat) (v : Value), vs[i]? = some v → ∃ (c : Nat) (u : Tok), x[i]? = some c ∧ v = Value.str (mkS [c]) u) → St w h₀ os gs ((l, ListO vs) :: led) s' → Q (.ref l) s')
    (hsz : x.length ≤ 10000) : wpAny (model prog w) A (call (.type "list") [.str (mkS x) t]) Q E s := by
  refine call_list_str hh (mkS x) t (fun h' tk acc' c' hk hl hi => ?_) (by rw [mkS_cps, List.size_toArray, sizeLine_eq]; omega)
  refine h _ _ acc'.toList rfl (by rw [Array.length_toList, hi.1]; simp [mkS]) (fun i v e => ?_) ?_
  · obtain ⟨c, u, h1, h2⟩ := hi.2 i v (by simpa using e)
    exact ⟨c, u, by simpa [mkS] using h1, h2⟩
  · have S1 := S.grow (s' := { s with heap := h', toks := tk }) hk rfl rfl
    refine ⟨S1.top, S1.keep, fun p hp => ?_, fun p hp => ?_, ?_, S1.os, S1.gens⟩
    · rcases List.mem_cons.mp hp with rfl | hp
      · exact ⟨_, hl, c', by simp⟩
      · exact S1.has p hp
    · rcases List.mem_cons.mp hp with rfl | hp
      · cases q : h₀ s.heap.objs.size with
        | none => rfl
        | some o => exact absurd (Heap.lt_size (S.keep _ _ q)) (Nat.lt_irrefl _)
      · exact S1.new p hp
    · exact (S.push (P := ListO []) (o := { cls := .type "list", data := .seq #[] }) ⟨_, rfl⟩).nodup
/-- two lists added -/
theorem addL {a b : Addr} {xs ys : List Value} {Q : Value → Shared → Prop} (S : St w h₀ os gs led s) (ha : s.heap.IsList a xs.toArray) (hb : s.heap.IsList b ys.toArray)
    (h : ∀ l s', l = s.heap.objs.size → St w h₀ os gs ((l, ListO (xs ++ ys)) :: led) s' → Q (.ref l) s') (hsz : xs.length + ys.length ≤ 10000) :
    wpAny (model prog w) A (binaryOp .Add (.ref a) (.ref b)) Q E s := by
  have whole {a : Addr} {zs : Array Value} : s.heap.IsList a zs → ∃ d n l, s.heap.get? a = some { cls := .type "list", dict := d, data := .seq zs n, slots := l } := by
    rintro ⟨⟨_, d, _, l⟩, at_, rfl, n, rfl⟩
    exact ⟨d, n, l, at_⟩
  obtain ⟨d1, n1, l1, at1⟩ := whole ha
  obtain ⟨d2, n2, l2, at2⟩ := whole hb
  have fits : xs.toArray.size + ys.toArray.size ≤ sizeLine := by rw [sizeLine_eq]; simp; omega
  have row := S.push (P := ListO (xs ++ ys)) (o := { cls := .type "list", data := .seq (xs.toArray ++ ys.toArray) }) ⟨0, by simp⟩
  exact concat_meets ⟨_, at1, rfl⟩ ⟨_, at2, rfl⟩ noFill_list_add seq_list_add PySem.F.slot_list_add PySem.F.entry_list_add (PySem.F.args_list_add_2 _ _) (list_addW a b _ _ n1 n2 d1 d2 l1 l2 fits) ⟨at1, at2, h _ _ rfl row⟩
theorem asN {x : Str} {px : Pos} {v : Value} {Q : Unit → Shared → Prop} (h : wpAny (model prog w) A (storeName env x v) Q E s) : wpAny (model prog w) A (assign (.Name x px) env v) Q E s := by
  show wpAny _ _ (standAt px >>= fun _ => bindName env x v) _ _ _
  exact wpAny_bind (wpAny_standAt (wpAny_bindName h))
end
end Mine


/-! # W1 -/
namespace Mine
section
variable {prog : Program} {w : World} {A : Around} {E : Value → Shared → Prop} {s : Shared} {h₀ : Base} {os : OsState} {gs : Array GenState} {led led' : Led} {env : Env} {kvs : List (Str × Value)}

theorem noCell {names : List (Str × NameKind)} (h : (names.all fun x => decide (x.2 ≠ .cell)) = true) : ∀ x ∈ names, x.2 ≠ .cell := fun x hx => of_decide_eq_true (List.all_eq_true.mp h x hx)

theorem call_gen {l : Addr} {Q : Value → Shared → Prop} {n : Nat} (S : St w h₀ os gs led s) (R : Room A n)
    (h : ∀ L a s', L + 1 = a → L = s.heap.objs.size → St w h₀ os (gs.push (.fresh (gFunc w L))) ((a, GenO gs.size) :: (L, LocO [("grouping", .ref l)]) :: led) s' → Q (.ref a) s') :
    wpAny (model prog w) A (call (.ref 28) [.ref l]) Q E s := by
  have T := S.topNow
  refine wpAny_call (codeAny_call_generator (fd := fdAt w 28) (body := bG) R.dep (T.obj (a := 28) rfl) rfl rfl rfl rfl (codeRec_of T.K (cd := .ref 27) (q := "_grouping_intervals") rfl) ?_)
  show wpAny _ _ (pure [(Str.ofString "grouping", Value.ref l)]) _ _ s
  refine wpAny_pure ?_
  refine wpAny_newFunctionEnv (noCell rfl) (locs rfl) fun h' hn hs => ?_
  have S1 := S.push (P := fun _ => True) (o := { cls := .type "frame", data := .dict #[] }) trivial
  have S2 := S1.put (P' := LocO [("grouping", .ref l)]) (s' := { s with heap := h', toks := s.toks + 1 }) .head hs.extBut (by
    obtain ⟨o, es, ep, h1, h2, h3, h4⟩ := hn
    exact ⟨o, h1, _, ⟨es, ep, h2, h3, h4⟩, fun x v e => e⟩) rfl rfl
  refine ⟨S2.topNow.noLimit, ?_⟩
  have hsz : h'.objs.size = s.heap.objs.size + 1 := by rw [hs.1, Heap.size_push]
  have S3 := S2.push (P := GenO gs.size) (o := { cls := .type "generator", data := .fields #[.int s.gens.size 0, .str (fdAt w 28).name (s.toks + 1), .str (fdAt w 28).qualname (s.toks + 1 + 1)] }) ⟨_, _, rfl, by rw [S.gens], rfl⟩
  refine h s.heap.objs.size h'.objs.size _ hsz.symm rfl ?_
  exact ⟨S3.top, S3.keep, S3.has, S3.new, S3.nodup, S3.os, by show s.gens.push _ = _; rw [S.gens]; rfl⟩
end
end Mine


/-! # W2 -/
namespace Mine

/-! ## _law_written -/
def bW : List Stmt := fBody (stmtAt 14)
noncomputable def eW (w : World) (L : Addr) : Env := callEnv (fdAt w 97) L 97

def szOf (ns : List Int) (k : Nat) : Option Nat :=
  if k < hl ns then ns[k]?.map Int.toNat else if ns[hl ns]? = some 0 then ns[hl ns - 1]?.map Int.toNat else none
def grp (sz : Nat → Option Nat) : Nat → Nat → List Nat → List (List Nat)
  | 0, _, fig => fig.map fun c => [c]
  | f + 1, k, fig => match sz k with
    | none => fig.map fun c => [c]
    | some z => if fig = [] then [] else fig.take z :: grp sz f (k + 1) (fig.drop z)
theorem grp_nil (sz : Nat → Option Nat) (f k : Nat) : grp sz f k [] = [] := by
  cases f with
  | zero => rfl
  | succ f => unfold grp; cases sz k <;> rfl
def digs (n : Int) : List Nat := (Str.ofString (toString n)).cps.toList
theorem mkS_digs (n : Int) : mkS (digs n) = Str.ofString (toString n) := mkS_toList _

theorem yv_sz {items : List Value} {ns : List Int} (hi : IntsAre items ns) (hp : ∀ x ∈ ns, 0 ≤ x) (h0 : ns[0]? ≠ some 0) {k : Nat} {v : Value} (h : yv items ns k = some v) : ∃ x t, v = .int x t ∧ szOf ns k = some x.toNat ∧ 0 < x := by
  unfold yv at h
  unfold szOf
  split at h
  · rename_i hk
    obtain ⟨x, t, e1, e2⟩ := IntsAre.get hi k v h
    refine ⟨x, t, e2, by rw [if_pos hk, e1]; rfl, ?_⟩
    have a := (hl_in hk e1).2
    have b := hp x (List.mem_of_getElem? e1)
    omega
  · rename_i hk
    split at h
    · rename_i hz
      obtain ⟨x, t, e1, e2⟩ := IntsAre.get hi _ v h
      refine ⟨x, t, e2, by rw [if_neg hk, if_pos hz, e1]; rfl, ?_⟩
      have hne : hl ns ≠ 0 := fun q => h0 (by rw [q] at hz; exact hz)
      have a := (hl_in (by omega) e1).2
      have b := hp x (List.mem_of_getElem? e1)
      omega
    · cases h
theorem yv_none {items : List Value} {ns : List Int} (hi : IntsAre items ns) {k : Nat} (h : yv items ns k = none) : szOf ns k = none := by
  have hlen := hi.length
  have hle := hl_le ns
  unfold yv at h
  unfold szOf
  split at h
  · rename_i hk
    rw [List.getElem?_eq_none_iff] at h
    omega
  · rename_i hk
    rw [if_neg hk]
    split at h
    · rename_i hz
      rw [if_pos hz]
      rw [List.getElem?_eq_none_iff] at h
      rw [List.getElem?_eq_none (by omega)]; rfl
    · rename_i hz
      rw [if_neg hz]

theorem log2_small {n : Nat} (h : n < 10 ^ 12) : n.log2 < 1920 := by
  rcases Nat.eq_zero_or_pos n with rfl | hp
  · decide
  · refine (Nat.log2_lt (by omega)).mpr (Nat.lt_trans h (Nat.lt_of_lt_of_le (m := 2 ^ 40) (by decide) (Nat.pow_le_pow_right (by decide) (by decide))))

section
variable {prog : Program} {w : World} {A : Around} {E : Value → Shared → Prop} {s : Shared} {h₀ : Base} {os : OsState} {gs : Array GenState} {led led' : Led} {env : Env} {kvs : List (Str × Value)}

theorem StrsAre.snoc {vs : List Value} {ys : List Str} (h : StrsAre vs ys) (y : Str) (t : Tok) : StrsAre (vs ++ [.str y t]) (ys ++ [y]) := by
  induction h with
  | nil => exact .cons y t .nil
  | cons z u h ih => exact .cons z u ih
theorem StrsAre.len {vs : List Value} {ys : List Str} (h : StrsAre vs ys) : vs.length = ys.length := by
  induction h with
  | nil => rfl
  | cons z u h ih => simp [ih]
theorem StrsAre.app {vs ws : List Value} {ys zs : List Str} (h : StrsAre vs ys) (h' : StrsAre ws zs) : StrsAre (vs ++ ws) (ys ++ zs) := by
  induction h with
  | nil => exact h'
  | cons z u h ih => exact .cons z u ih
theorem StrsAre.signs : ∀ {x : List Nat} {vs : List Value}, vs.length = x.length → (∀ (i : Nat) (v : Value), vs[i]? = some v → ∃ (c : Nat) (u : Tok), x[i]? = some c ∧ v = Value.str (mkS [c]) u) → StrsAre vs ((x.map fun c => [c]).map mkS)
  | [], [], _, _ => .nil
  | c :: x, v :: vs, hlen, h => by
    obtain ⟨c', u, h1, rfl⟩ := h 0 v rfl
    cases h1
    exact .cons _ _ (StrsAre.signs (by simpa using hlen) fun i v e => h (i + 1) v (by simpa using e))
  | [], _ :: _, hlen, _ => by simp at hlen
  | _ :: _, [], hlen, _ => by simp at hlen

/-- the state between the turns of _law_written's loop -/
structure LoopW (prog : Program) (A : Around) (g : GP) (h₀ : Base) (os : OsState) (L gl a : Addr) (gi : Nat) (mk : List Nat) (tm : Tok) (fig₀ : List Nat) (m : Nat) (s : Shared) : Prop where
  ex : ∃ (k n : Nat) (it : Addr) (gst : GenState) (gs : Array GenState) (fig : List Nat) (tf : Tok) (gr : List (List Nat)) (acc : List Value),
    m = fig.length ∧ k + n = g.N ∧ fig.length + 1 ≤ n ∧ g.B ≤ it ∧ gs[gi]? = some gst ∧ AllBare gs ∧ Cap prog A g k it n gst ∧ StrsAre acc (gr.map mkS) ∧
    (∃ f, fig.length < f ∧ gr ++ grp (szOf g.ns) f k fig = grp (szOf g.ns) (fig₀.length + 1) 0 fig₀) ∧ gr.length + fig.length ≤ fig₀.length ∧ gr.flatten.length + fig.length = fig₀.length ∧
    St g.w h₀ os gs ([(L, LocO [("mark", .str (mkS mk) tm), ("figures", .str (mkS fig) tf), ("groups", .ref gl)]), (gl, ListO acc), (a, GenO gi)] ++ g.led k it) s

theorem sum_map_len (gr : List (List Nat)) : ((gr.map mkS).map (·.length)).sum = gr.flatten.length := by
  induction gr with
  | nil => rfl
  | cons a r ih => simp only [List.map_cons, List.sum_cons, mkS_length, List.flatten_cons, List.length_append]; rw [← ih]
theorem flat_single (x : List Nat) : (x.map fun c => [c]).flatten = x := by
  induction x with
  | nil => rfl
  | cons a r ih => simp [ih]

theorem written_tail {L gl : Addr} {tm tf : Tok} {mk fig : List Nat} {gr : List (List Nat)} {acc : List Value} {kvs : List (Str × Value)} {Q : Flow → Shared → Prop} {n : Nat}
    (R : Room A n) (S : St w h₀ os gs ((L, LocO kvs) :: (gl, ListO acc) :: led) s) (hk : AllLook kvs [("mark", .str (mkS mk) tm), ("figures", .str (mkS fig) tf), ("groups", .ref gl)])
    (hacc : StrsAre acc (gr.map mkS)) (hle : gr.length + fig.length ≤ 1000) (hle2 : gr.flatten.length + fig.length ≤ 1000) (hm : mk.length ≤ 1)
    (h : ∀ t s' led', St w h₀ os gs led' s' → Q (.ret (.str (Txt.join (mkS mk) ((gr ++ fig.map fun c => [c]).map mkS)) t)) s') :
    wpAny (model prog w) A (execs (bW.drop 3) (eW w L)) Q E s := by
  have S := S.sub (led' := (L, LocO [("mark", .str (mkS mk) tm), ("figures", .str (mkS fig) tf), ("groups", .ref gl)]) :: (gl, ListO acc) :: led) (fun p hp => by
    rcases List.mem_cons.mp hp with rfl | hp
    · exact ⟨_, .head _, rfl, fun o => LocO.sub hk⟩
    · exact ⟨p, .tail _ hp, rfl, fun _ h => h⟩) S.nodup
  refine wpAny_execs_cons (wpAny_Return_some ?_)
  refine Call_method1 rfl rfl rfl (nmL S rfl ⟨"str", "str.join", F.plainAttrs_str, F.slot_str_join, F.type_str_join, typeIs_str _ _ _, (fun _ e => nomatch e), ?_⟩)
  refine Calls.callWith_builtin rfl (Calls.evalArgs_plain (Calls.spliced_cons ?_))
  refine wpAny_BinOp (nmL S rfl (Call_name1 rfl (nmB S (v := .type "list") rfl bb_list (callWith_type1 (nmL S rfl ?_)))))
  refine lstStr R.h S (fun fl s1 vs hfl hvl hvs S1 => ?_) (by omega)
  refine addL S1 (S1.isList (.tail _ (.tail _ (.head _)))) (S1.isList (.head _)) (fun sl s2 hsl S2 => ?_) (by have := StrsAre.len hacc; rw [List.length_map] at this; omega)
  refine Calls.spliced_nil ?_
  refine join_list (S2.isList (.head _)) (ys := (gr ++ fig.map fun c => [c]).map mkS) ?_ ?_ ?_
  · simp only [List.map_append]
    exact StrsAre.app hacc (StrsAre.signs hvl hvs)
  · rw [sum_map_len, List.length_map, List.flatten_append, List.length_append, flat_single, List.length_append, List.length_map, mkS_length]
    have : (gr.length + fig.length) * mk.length ≤ 1000 * 1 := Nat.mul_le_mul hle hm
    omega
  · intro t' k
    exact h t' _ _ (S2.toks k)

set_option maxHeartbeats 4000000 in
theorem written_body {L : Addr} {n : Int} {tn tm : Tok} {l : Addr} {items : List Value} {ns : List Int} {mk : List Nat} {Q : Flow → Shared → Prop}
    (R : Room A 3) (S : St w h₀ os gs [(L, LocO [("mark", .str (mkS mk) tm), ("sizes", .ref l), ("number", .int n tn)])] s) (hL : ∀ b o, h₀ b = some o → b < L)
    (hl : ∃ o, h₀ l = some o ∧ ListO items o) (hi : IntsAre items ns) (hp : ∀ x ∈ ns, 0 ≤ x) (h0 : ns[0]? ≠ some 0) (hb : AllBare gs) (hn : n.natAbs < 10 ^ 12) (hd : (digs n).length ≤ 1000) (hm : mk.length ≤ 1)
    (h : ∀ t gs' s' led', AllBare gs' → St w h₀ os gs' led' s' → Q (.ret (.str (Txt.join (mkS mk) ((grp (szOf ns) ((digs n).length + 1) 0 (digs n)).map mkS)) t)) s') :
    wpAny (model prog w) A (execs bW (eW w L)) Q E s := by
  refine wpAny_execs_cons (wpAny_Assign_Name ?_)
  refine Call_name1 rfl (nmB S (v := .type "str") rfl bb_str (callWith_type1 (nmL S rfl ?_)))
  refine P.str_of_int (log2_small hn) ?_
  have S1 := S.toks (s.toks + 1)
  refine stL S1 fun s2 S2 => ?_
  refine wpAny_execs_cons (wpAny_Assign_Name (List_ (spliced_none ?_)))
  refine nwList S2 (fun gl s3 hgl S3 => ?_) (by simp)
  refine stL S3.swap fun s4 S4 => ?_
  dsimp only
  refine wpAny_execs_cons (wpAny_Try_except ?_)
  refine wpAny_execs_cons (wpAny_For ?_)
  refine Call_ (nmG S4 (v := .ref 28) rfl (callWith_def (o := objAt w 28) (fd := fdAt w 28) rfl (spliced_more (nmL S4 rfl (spliced_none ⟨S4.topNow.obj rfl, ?_⟩)))))
  refine call_gen S4 R fun Lg a s5 hLa hLs S5 => ?_
  refine wpAny_pyIter_gen (S5.isGen (.head _)) ?_
  let g : GP := { w := w, L := Lg, l := l, B := a + 1, items := items, ns := ns, N := (digs n).length + 2 }
  have O : g.Ok := ⟨hi, h0⟩
  have hgL : gl < Lg := by
    rw [hLs]; exact S4.lt (.tail _ (.head _))
  have hLL : L < Lg := by
    rw [hLs]; exact S4.lt (.head _)
  have C : ∀ (P1 P2 P3 : Obj → Prop), Con g h₀ [(L, P1), (gl, P2), (a, P3)] := fun P1 P2 P3 => by
    refine ⟨fun b o e => ?_, hl, fun p hp => ?_, ⟨(a, P3), .tail _ (.tail _ (.head _)), rfl⟩, ?_⟩
    · have := hL b o e; exact Nat.lt_trans this (Nat.lt_succ_of_lt (Nat.lt_trans hLL (by rw [← hLa]; exact Nat.lt_succ_self _)))
    · simp only [List.mem_cons, List.not_mem_nil, or_false] at hp
      rcases hp with rfl | rfl | rfl
      · exact Nat.lt_succ_of_lt (Nat.lt_trans hLL (by rw [← hLa]; exact Nat.lt_succ_self _))
      · exact Nat.lt_succ_of_lt (Nat.lt_trans hgL (by rw [← hLa]; exact Nat.lt_succ_self _))
      · exact Nat.lt_succ_self _
    · show Lg < a + 1
      rw [← hLa]; exact Nat.lt_succ_of_lt (Nat.lt_succ_self _)
  refine codeAny_forLoop (LoopW prog A g h₀ os L gl a gs.size mk tm (digs n)) ?_ (digs n).length ?_
  · rintro m s ⟨k, n', it, gst, gs', fig, tf, gr, acc, hm', hkn, hfn, hit, hgs, hbare, cap, hacc, hgr, hle1, hle2, S⟩
    refine next_gen R.h R.dep (C _ _ _) hit S.comm (.tail _ (.tail _ (.head _))) hgs hbare cap hkn (by omega) (fun v it' gst' gs'' s' hy hit' S' hgs' hb' cap' => ?_) (fun gs'' s' hy hb' S' => ?_)
    · dsimp only
      obtain ⟨x, tx, rfl, hsz, hx⟩ := yv_sz hi hp h0 hy
      refine asN (stL S'.comm fun s6 S6 => ?_)
      refine wpAny_execs_cons (wpAny_If (wpAny_isTrue_Compare1 (nmL S6 rfl (wpAny_Constant_str (eq_str (wpAny_truthy_bool ?_))))))
      have S7 := S6.toks (s6.toks + 1)
      by_cases hf : fig = []
      · subst hf
        rw [if_pos (by decide)]
        refine wpAny_execs_cons (wpAny_Break ?_)
        dsimp only
        refine wpAny_execs_nil (wpAny_execs_nil ?_)
        refine written_tail R S7 (fig := []) (gr := gr) (tf := tf) ⟨rfl, rfl, rfl, trivial⟩ hacc (by omega) (by omega) hm fun t s' led' S' => ?_
        obtain ⟨f, hf1, hf2⟩ := hgr
        rw [grp_nil, List.append_nil] at hf2
        rw [List.map_nil, List.append_nil, hf2]
        exact h t gs'' s' led' hb' S'
      · have hne : (mkS fig == (Str.ofString "" : Str)) = false := by
          rw [beq_eq_false_iff_ne]
          intro q
          exact hf (mkS_inj (b := []) (q.trans (by decide)))
        rw [hne, if_neg (by simp)]
        refine wpAny_execs_nil ?_
        dsimp only
        obtain ⟨z, rfl⟩ : ∃ z : Nat, x = (z : Int) := ⟨x.toNat, by omega⟩
        rw [Int.toNat_natCast] at hsz
        have hz : 0 < z := by omega
        have hfl : 0 < fig.length := List.length_pos_iff.mpr hf
        refine wpAny_execs_cons (wpAny_Expr (evAppend (nmL S7 rfl ⟨gl, _, rfl, S7.plainL (.tail _ (.head _)), ?_⟩)))
        refine Subscript_ (nmL S7 rfl (wpAny_Slice (wpAny_pure ?_)))
        refine nmL S7 rfl (wpAny_pure ?_)
        refine tail_ns S7 (fun t8 s8 S8 => ?_) (by omega)
        have hal := StrsAre.len hacc
        rw [List.length_map] at hal
        refine apL S8 (.tail .head) (fun s9 S9 => ?_) (by omega)
        dsimp only
        refine wpAny_execs_cons (wpAny_Assign_Name (Subscript_ (nmL S9 rfl (wpAny_Slice (nmL S9 rfl ?_)))))
        refine wpAny_pure (wpAny_pure ?_)
        refine tail_sn S9 (fun t10 s10 S10 => ?_) (by omega)
        refine stL S10 fun s11 S11 => ?_
        refine wpAny_execs_nil ?_
        dsimp only
        refine ⟨(fig.drop z).length, by rw [List.length_drop]; omega, ⟨k + 1, n' - 1, it', gst', gs'', fig.drop z, t10, gr ++ [fig.take z], acc ++ [.str (mkS (fig.take z)) t8], rfl, by omega, by rw [List.length_drop]; omega, hit', hgs', hb', cap' (by omega), ?_, ?_, ?_, ?_, ?_⟩⟩
        · rw [List.map_append]
          exact StrsAre.snoc hacc _ t8
        · obtain ⟨f, hf1, hf2⟩ := hgr
          obtain ⟨f', rfl⟩ : ∃ f', f = f' + 1 := ⟨f - 1, by omega⟩
          refine ⟨f', by rw [List.length_drop]; omega, ?_⟩
          unfold grp at hf2
          simp only [show szOf g.ns k = some z from hsz, if_neg hf] at hf2
          rw [List.append_assoc]
          exact hf2
        · rw [List.length_append, List.length_drop, List.length_singleton]; omega
        · rw [List.flatten_append, List.length_append, List.length_drop, List.flatten_singleton, List.length_take]; omega
        · refine S11.sub (fun p hp => ?_) S11.nodup
          rcases List.mem_cons.mp hp with rfl | hp
          · exact ⟨_, .head _, rfl, fun o => LocO.sub (kvs' := [("mark", .str (mkS mk) tm), ("figures", .str (mkS (fig.drop z)) t10), ("groups", .ref gl)]) ⟨rfl, rfl, rfl, trivial⟩⟩
          · exact ⟨p, .tail _ hp, rfl, fun _ h => h⟩
    · dsimp only
      refine wpAny_execs_nil ?_
      refine wpAny_execs_nil (wpAny_execs_nil ?_)
      refine written_tail R S' (fig := fig) (gr := gr) (tf := tf) ⟨rfl, rfl, rfl, trivial⟩ hacc (by omega) (by omega) hm fun t s' led' S' => ?_
      obtain ⟨f, hf1, hf2⟩ := hgr
      obtain ⟨f', rfl⟩ : ∃ f', f = f' + 1 := ⟨f - 1, by omega⟩
      unfold grp at hf2
      rw [yv_none hi hy] at hf2
      rw [hf2]
      exact h t gs'' s' led' hb' S'
  · refine ⟨0, (digs n).length + 2, g.B, .fresh (gFunc w Lg), _, digs n, s.toks, [], [], rfl, Nat.zero_add _, by omega, Nat.le_refl _, Array.getElem?_push_size .., AllBare.push hb rfl, fun s'' r => ⟨rfl, seg_start O R.h (by show (digs n).length + 2 ≠ 0; omega) r⟩, .nil, ⟨(digs n).length + 1, by omega, rfl⟩, by simp, by simp, ?_⟩
    refine S5.sub (fun p hp => ?_) ?_
    · simp only [List.mem_append, List.mem_cons, List.not_mem_nil, or_false] at hp
      rcases hp with (rfl | rfl | rfl) | hp
      · refine ⟨_, .tail _ (.tail _ (.head _)), rfl, fun o => LocO.sub (kvs' := [("mark", .str (mkS mk) tm), ("figures", .str (mkS (digs n)) s.toks), ("groups", .ref gl)]) ⟨rfl, by rw [mkS_digs]; rfl, rfl, trivial⟩⟩
      · exact ⟨_, .tail _ (.tail _ (.tail _ (.head _))), rfl, fun _ h => h⟩
      · exact ⟨_, .head _, rfl, fun _ h => h⟩
      · obtain rfl : p = (Lg, LocO [("grouping", .ref l)]) := List.mem_singleton.mp hp
        exact ⟨_, .tail _ (.head _), rfl, fun _ h => h⟩
    · have nd : [a, Lg, L, gl].Nodup := S5.nodup
      show [L, gl, a, Lg].Nodup
      simp only [List.nodup_cons, List.mem_cons, List.not_mem_nil, or_false, not_or, not_false_eq_true, List.nodup_nil, and_true] at nd ⊢
      refine ⟨⟨nd.2.2, ?_, ?_⟩, ⟨?_, ?_⟩, nd.1.1⟩
      · exact fun e => nd.1.2.1 e.symm
      · exact fun e => nd.2.1.1 e.symm
      · exact fun e => nd.1.2.2 e.symm
      · exact fun e => nd.2.1.2 e.symm

end
end Mine


/-! # W3 -/
namespace Mine

section
variable {prog : Program} {w : World} {A : Around} {E : Value → Shared → Prop} {s : Shared} {h₀ : Base} {os : OsState} {gs : Array GenState} {led led' : Led} {env : Env} {kvs : List (Str × Value)}
theorem bind97 {w : World} (a b c : Value) : bindArgs (fdAt w 97) ⟨[a, b, c], []⟩ = pure [((Str.ofString "number" : Str), a), (Str.ofString "sizes", b), (Str.ofString "mark", c)] := by kernel_rfl
theorem written_call {n : Int} {tn tm : Tok} {l : Addr} {items : List Value} {ns : List Int} {mk : List Nat} {Q : Value → Shared → Prop}
    (R : Room A 4) (S : St w h₀ os gs led s)
    (hl : ∃ o, s.heap.get? l = some o ∧ ListO items o) (hi : IntsAre items ns) (hp : ∀ x ∈ ns, 0 ≤ x) (h0 : ns[0]? ≠ some 0) (hb : AllBare gs) (hn : n.natAbs < 10 ^ 12) (hd : (digs n).length ≤ 1000) (hm : mk.length ≤ 1)
    (h : ∀ t gs' s', AllBare gs' → St w h₀ os gs' led s' → Q (.str (Txt.join (mkS mk) ((grp (szOf ns) ((digs n).length + 1) 0 (digs n)).map mkS)) t) s') :
    wpAny (model prog w) A (call (.ref 97) [.int n tn, .ref l, .str (mkS mk) tm]) Q E s := by
  refine enter S R (f := 97) (o := objAt w 97) (fd := fdAt w 97) (body := bW) rfl rfl rfl rfl (bind97 _ _ _) (noCell rfl) (locs rfl) fun E' s1 S1 => ?_
  refine written_body (R.deeper _) S1 (fun b o e => Heap.lt_size e) hl hi hp h0 hb hn hd hm fun t gs' s' led' hb' S' => ?_
  exact h t gs' s' hb' (S.back S')
end
end Mine


/-! # C1 -/
namespace Mine
section
variable {prog : Program} {w : World} {A : Around} {E : Value → Shared → Prop} {s : Shared} {h₀ : Base} {os : OsState} {gs : Array GenState} {led led' : Led} {env : Env} {kvs : List (Str × Value)} {R : Result → Shared → Prop}

/-! ## list comprehensions -/
abbrev NB (prog : Program) (w : World) (A : Around) (env : Env) (R : Result → Shared → Prop) : Value → Shared → Prop := notedBy (model prog w) A env fun e s' => R (.error e) s'

theorem comp_start {elt target iter : Expr} {ifs : List Expr} {rest : List Comprehension} {scope : Scope} {pos : Pos} {it : Addr} {acc : Value} {env : Env} (I0 : Shared → Prop) (h0 : I0 s)
    (hit : ∀ (E : Value → Shared → Prop) (Q : Value → Shared → Prop) s, I0 s → Q (.ref it) s → wpAny (model prog w) A (pyIter (.ref it)) Q E s)
    (hloop : ∀ s, I0 s → codeAny (model prog w) A (.compLoop (.ListComp elt (⟨target, iter, ifs, 0⟩ :: rest) scope pos) 0 (.ref it) acc env) R s) :
    codeAny (model prog w) A (.compStart (.ListComp elt (⟨target, iter, ifs, 0⟩ :: rest) scope pos) 0 (.ref it) acc env) R s :=
  codeAny_compStart_list (hloop s h0) (hit _ _ s h0 (hloop s h0))

/-- what a comprehension must come to -/
def CompEnd (w : World) (h₀ : Base) (os : OsState) (C : Addr) (Q : Shared → Prop) (r : Result) (s' : Shared) : Prop :=
  ∃ f, r = .ok f ∧ ∃ gs' kvs led', St w h₀ os gs' ((C, LocO kvs) :: led') s' ∧ ∀ s'', St w h₀ os gs' led' s'' → Q s''

theorem list_comp {elt target iter : Expr} {ifs : List Expr} {rest : List Comprehension} {scope : Scope} {pos : Pos} {cl : List (Str × Addr)} {Q : Value → Shared → Prop}
    (h : wpAny (model prog w) A (eval iter env) (fun x s₁ => wpAny (model prog w) A (pyIter x) (fun it s₂ => ∃ gs led, St w h₀ os gs led s₂ ∧
      ∀ C acc s₄, acc = s₂.heap.objs.size → St w h₀ os gs ((C, LocO []) :: (acc, ListO []) :: led) s₄ →
        codeAny (model prog w) A (.compStart (.ListComp elt (⟨target, iter, ifs, 0⟩ :: rest) scope pos) 0 it (.ref acc) (compEnvC scope cl C env)) (CompEnd w h₀ os C (Q (.ref acc))) s₄) E s₁) E s)
    (hclos : closureFor scope env = pure cl := by rfl) (hcell : ∀ y ∈ scope.names, y.2 ≠ .cell := by exact noCell rfl) (hkind : scope.kind = .function := by rfl)
    (hnames : ∀ x ∈ scope.names, x.2 = .local → scope.names.lookup x.1 = some .local := by decide)
    (hs : ∀ x, foldedSetIterable iter env x = pure x := by intro _; rfl) :
    wpAny (model prog w) A (eval (.ListComp elt (⟨target, iter, ifs, 0⟩ :: rest) scope pos) env) Q E s := by
  show wpAny _ _ (comprehension (.ListComp elt (⟨target, iter, ifs, 0⟩ :: rest) scope pos) scope env _ (newList []) false (eval iter env)) _ _ s
  refine wpAny_comprehension_free (g := ⟨target, iter, ifs, 0⟩) (gs := rest) rfl hs hclos hkind hnames (wpAny_mono h (fun x s₁ h₁ => wpAny_mono h₁ (fun it s₂ h₂ => ?_) fun _ _ e => e) fun _ _ e => e)
  obtain ⟨gs, led, S, hgo⟩ := h₂
  refine nwList S (fun acc s₃ hacc S3 => ?_) (by simp)
  refine wpAny_newFunctionEnv hcell (fun x hx => nomatch hx) (fun h' hn hs => ?_) hkind
  have S4 := S3.push (P := fun _ => True) (o := { cls := .type "dict", data := .dict #[] }) trivial
  have S5 := S4.put (P' := LocO []) (s' := { s₃ with heap := h', toks := s₃.toks + ([] : List (Str × Value)).length }) .head hs.extBut (by
    obtain ⟨o, es, ep, h1, h2, h3, h4⟩ := hn
    exact ⟨o, h1, _, ⟨es, ep, h2, h3, h4⟩, fun x v e => nomatch e⟩) rfl rfl
  refine codeAny_mono (hgo s₃.heap.objs.size acc _ hacc S5) fun r s' hr => ?_
  obtain ⟨f, rfl, gs', kvs, led', S6, hQ⟩ := hr
  obtain ⟨m, hm, _⟩ := S6.ns (.head _)
  refine ⟨m, hm, fun h'' hs'' => hQ _ ?_⟩
  have S7 := S6.lose (led' := led') (s' := { s' with heap := h'' }) (.head _) hs''.extBut (fun p hp => ⟨.tail _ hp, fun e => ?_⟩) (List.nodup_cons.mp S6.nodup).2 rfl rfl
  · exact S7
  · exact (List.nodup_cons.mp S6.nodup).1 (List.mem_map.mpr ⟨p, hp, e⟩)

/-- what a comprehension that is stored at once must come to -/
def AsgEnd (w : World) (h₀ : Base) (os : OsState) (L : Addr) (y : Str) (acc C : Addr) (Q : Shared → Prop) (r : Result) (s' : Shared) : Prop :=
  ∃ f, r = .ok f ∧ ∃ gs' kvs kvs₀ led', St w h₀ os gs' ((C, LocO kvs) :: (L, LocO kvs₀) :: led') s' ∧ ∀ s'', St w h₀ os gs' ((L, LocO (putK y (.ref acc) kvs₀)) :: led') s'' → Q s''

theorem asg_comp {elt target iter : Expr} {ifs : List Expr} {rest : List Comprehension} {scope : Scope} {pos spos py : Pos} {y : Str} {cl : List (Str × Addr)} {Q : Flow → Shared → Prop}
    (h : wpAny (model prog w) A (eval iter env) (fun x s₁ => wpAny (model prog w) A (pyIter x) (fun it s₂ => ∃ gs led, St w h₀ os gs led s₂ ∧
      ∀ C acc s₄, acc = s₂.heap.objs.size → St w h₀ os gs ((C, LocO []) :: (acc, ListO []) :: led) s₄ →
        codeAny (model prog w) A (.compStart (.ListComp elt (⟨target, iter, ifs, 0⟩ :: rest) scope pos) 0 it (.ref acc) (compEnvC scope cl C env)) (AsgEnd w h₀ os env.locals y acc C (Q .next)) s₄) E s₁) E s)
    (hclos : closureFor scope env = pure cl := by rfl) (hcell : ∀ y ∈ scope.names, y.2 ≠ .cell := by exact noCell rfl) (hkind : scope.kind = .function := by rfl)
    (hnames : ∀ x ∈ scope.names, x.2 = .local → scope.names.lookup x.1 = some .local := by decide)
    (hs : ∀ x, foldedSetIterable iter env x = pure x := by intro _; rfl)
    (hsw : swapsWith (.ListComp elt (⟨target, iter, ifs, 0⟩ :: rest) scope pos) (some (.Name y py)) spos.line env = pure true := by rfl)
    (hy : env.kindOf y = some .local := by rfl) (hp : (env.scope.kind == .class || (env.scope.kind == .module && env.locals != env.globals)) = false := by rfl) :
    wpAny (model prog w) A (exec (.Assign [.Name y py] (.ListComp elt (⟨target, iter, ifs, 0⟩ :: rest) scope pos) spos) env) Q E s := by
  rw [exec_Assign_Name_used _ _ _ _ hsw]
  have same : ∀ {α : Type} {P : α → Shared → Prop} {x s}, P x s → P x s := fun q => q
  refine wpAny_bind <| wpAny_standAt <| wpAny_bind <| wpAny_bind <| wpAny_mono (Q := fun _ s' => Q .next s') (wpAny_comprehension_free (e := .ListComp elt (⟨target, iter, ifs, 0⟩ :: rest) scope pos) (g := ⟨target, iter, ifs, 0⟩) (gs := rest) (use := some (assign (.Name y py) env)) rfl hs hclos hkind hnames <|
    wpAny_mono h (fun _ _ x => wpAny_mono x (fun it s₂ h₂ => ?_) fun _ _ => same) fun _ _ => same) (fun _ _ q => wpAny_pure <| wpAny_pure q) fun _ _ => same
  obtain ⟨gs, led, S, hgo⟩ := h₂
  refine nwList S (fun acc s₃ hacc S3 => ?_) (by simp)
  refine wpAny_newFunctionEnv hcell (fun x hx => nomatch hx) (fun h' hn hs => ?_) hkind
  have S4 := S3.push (P := fun _ => True) (o := { cls := .type "dict", data := .dict #[] }) trivial
  have S5 := S4.put (P' := LocO []) (s' := { s₃ with heap := h', toks := s₃.toks + ([] : List (Str × Value)).length }) .head hs.extBut (by
    obtain ⟨o, es, ep, h1, h2, h3, h4⟩ := hn
    exact ⟨o, h1, _, ⟨es, ep, h2, h3, h4⟩, fun x v e => nomatch e⟩) rfl rfl
  refine codeAny_mono (hgo s₃.heap.objs.size acc _ hacc S5) fun r s' hr => ?_
  obtain ⟨f, rfl, gs', kvs, kvs₀, led', S6, hQ⟩ := hr
  show wpAny _ A (assign (.Name y py) env (.ref acc)) _ _ _
  refine asN (stL S6.swap (fun s7 S7 => ?_) hy hp)
  have S8 := S7.swap
  obtain ⟨m, hm, _⟩ := S8.ns (.head _)
  refine ⟨m, hm, fun h'' hs'' => hQ _ ?_⟩
  have S9 := S8.lose (led' := (env.locals, LocO (putK y (.ref acc) kvs₀)) :: led') (s' := { s7 with heap := h'' }) (.head _) hs''.extBut (fun p hp => ⟨.tail _ hp, fun e => ?_⟩) (List.nodup_cons.mp S8.nodup).2 rfl rfl
  · exact S9
  · exact (List.nodup_cons.mp S8.nodup).1 (List.mem_map.mpr ⟨p, hp, e⟩)

theorem St.weakenHead {C : Addr} {P P' : Obj → Prop} (S : St w h₀ os gs ((C, P) :: led) s) (h : ∀ o, P o → P' o) : St w h₀ os gs ((C, P') :: led) s :=
  S.sub (fun p hp => by
    rcases List.mem_cons.mp hp with rfl | hp
    · exact ⟨_, .head _, rfl, h⟩
    · exact ⟨p, .tail _ hp, rfl, fun _ h => h⟩) S.nodup

/-- [elt for x in xs] -/
theorem comp_map {elt iter : Expr} {x : Str} {px : Pos} {scope : Scope} {pos : Pos} {cl : List (Str × Addr)} {Q : Value → Shared → Prop} (F : Value → Value → Prop) (hh : A.handled = none)
    (h : wpAny (model prog w) A (eval iter env) (fun xv s₁ => ∃ gs led l items, xv = .ref l ∧ AllBare gs ∧ St w h₀ os gs led s₁ ∧ items.length ≤ 1000 ∧
      (∀ gs led' s, (∀ p ∈ led, p ∈ led') → St w h₀ os gs led' s → s.heap.IsList l items.toArray) ∧
      (∀ C E' gs led' v s (Q' : Value → Shared → Prop), v ∈ items → AllBare gs → (∀ p ∈ led, p ∈ led') → St w h₀ os gs ((C, LocO [(x, v)]) :: led') s →
        (∀ y gs' s', AllBare gs' → F v y → St w h₀ os gs' ((C, LocO [(x, v)]) :: led') s' → Q' y s') → wpAny (model prog w) A (eval elt (compEnvC scope cl C env)) Q' E' s) ∧
      (∀ acc ys gs' s', AllBare gs' → Paired F items ys → St w h₀ os gs' ((acc, ListO ys) :: led) s' → Q (.ref acc) s')) E s)
    (hx : ∀ C, (compEnvC scope cl C env).kindOf x = some .local := by intro _; rfl)
    (hp : ∀ C, ((compEnvC scope cl C env).scope.kind == .class || ((compEnvC scope cl C env).scope.kind == .module && (compEnvC scope cl C env).locals != (compEnvC scope cl C env).globals)) = false := by intro _; rfl)
    (hclos : closureFor scope env = pure cl := by rfl) (hcell : ∀ y ∈ scope.names, y.2 ≠ .cell := by exact noCell rfl) (hkind : scope.kind = .function := by rfl)
    (hnames : ∀ x ∈ scope.names, x.2 = .local → scope.names.lookup x.1 = some .local := by decide)
    (hs : ∀ x, foldedSetIterable iter env x = pure x := by intro _; rfl) :
    wpAny (model prog w) A (eval (.ListComp elt [⟨.Name x px, iter, [], 0⟩] scope pos) env) Q E s := by
  refine list_comp (h₀ := h₀) (os := os) (cl := cl) (wpAny_mono h (fun xv s₁ h₁ => ?_) fun _ _ e => e) hclos hcell hkind hnames hs
  obtain ⟨gs, led, l, items, rfl, hb, S, hlen, hl, helt, hQ⟩ := h₁
  refine wpAny_pyIter_list (hl _ _ _ (fun _ h => h) S) ?_
  have S2 := S.push (P := IterO l 0) (o := { cls := .type "list_iterator", data := .fields #[.ref l, .int 0 0] }) ⟨rfl, rfl⟩
  refine ⟨gs, _, S2, fun C acc s₄ hacc S4 => ?_⟩
  have S5 : St w h₀ os gs ((C, LocO []) :: (s₁.heap.objs.size, IterO l 0) :: (acc, ListO []) :: led) s₄ := S4.sub (fun p hp => ⟨p, by simp only [List.mem_cons] at hp ⊢; rcases hp with h | h | h | h <;> simp [h], rfl, fun _ h => h⟩) (by
    have nd := S4.nodup
    simp only [List.map_cons, List.nodup_cons, List.mem_cons, not_or] at nd ⊢
    exact ⟨⟨nd.1.2.1, nd.1.1, nd.1.2.2⟩, ⟨fun e => nd.2.1.1 e.symm, nd.2.2.1⟩, nd.2.1.2, nd.2.2.2⟩)
  generalize s₁.heap.objs.size = it at S5
  have loop : ∀ s₄, St w h₀ os gs ((C, LocO []) :: (it, IterO l 0) :: (acc, ListO []) :: led) s₄ → codeAny (model prog w) A (.compLoop (.ListComp elt [⟨.Name x px, iter, [], 0⟩] scope pos) 0 (.ref it) (.ref acc) (compEnvC scope cl C env)) (CompEnd w h₀ os C (Q (.ref acc))) s₄ := by
    intro s₄ S5
    refine codeAny_compLoop_list (fun m s => ∃ i gs ys, m = items.length - i ∧ i ≤ items.length ∧ AllBare gs ∧ Paired F (items.take i) ys ∧ St w h₀ os gs ((C, LocO []) :: (it, IterO l i) :: (acc, ListO ys) :: led) s) ?_ items.length ⟨0, gs, [], rfl, Nat.zero_le _, hb, .nil, S5⟩
    rintro n s ⟨i, gs, ys, rfl, hi, hb, hpr, S⟩
    have hlist := hl gs _ s (fun p hp => .tail _ (.tail _ (.tail _ hp))) S
    cases hx' : items[i]? with
    | none =>
      refine wpAny_pyNext_list_end hh (S.isIter (.tail _ (.head _))) hlist (by simpa using hx') fun h' hk => ?_
      dsimp only
      have hge : items.length ≤ i := List.getElem?_eq_none_iff.mp hx'
      rw [List.take_of_length_le hge] at hpr
      have S6 := S.lose (s' := { s with heap := h' }) (led' := (C, LocO []) :: (acc, ListO ys) :: led) (.tail _ (.head _)) hk (fun p hp => by
        have nd := S.nodup
        simp only [List.map_cons, List.nodup_cons, List.mem_cons, not_or] at nd
        rcases List.mem_cons.mp hp with rfl | hp
        · exact ⟨.head _, nd.1.1⟩
        · refine ⟨.tail _ (.tail _ hp), fun e => ?_⟩
          rcases List.mem_cons.mp hp with rfl | hp
          · exact nd.2.1.1 e.symm
          · exact nd.2.1.2 (List.mem_map.mpr ⟨p, hp, e⟩)) (by
        have nd := S.nodup
        simp only [List.map_cons, List.nodup_cons, List.mem_cons, not_or] at nd ⊢
        exact ⟨⟨nd.1.2.1, nd.1.2.2⟩, nd.2.2⟩) rfl rfl
      exact ⟨.next, rfl, gs, [], _, S6, fun s'' S'' => hQ acc ys gs s'' hb hpr S''⟩
    | some v =>
      have hmem : v ∈ items := List.mem_of_getElem? hx'
      have hlt : i < items.length := (List.getElem?_eq_some_iff.mp hx').1
      refine wpAny_pyNext_list_item (S.isIter (.tail _ (.head _))) hlist (by simpa using hx') fun h' hit' hs' => ?_
      dsimp only
      have S6 := S.put (s' := { s with heap := h' }) (P' := IterO l (i + 1)) (.tail .head) hs'.extBut hit' rfl rfl
      show wpAny _ _ (standAt px >>= fun _ => bindName (compEnvC scope cl C env) x v) _ _ _
      refine wpAny_bind (wpAny_standAt (wpAny_bindName ?_))
      refine stL (env := compEnvC scope cl C env) S6 (fun s7 S7 => ?_) (hx C) (hp C)
      refine helt C _ gs _ v s7 _ hmem hb (fun p hp => .tail _ (.tail _ hp)) S7 fun y gs' s8 hb' hF S8 => ?_
      have hyl : ys.length = i := by
        have := hpr.length
        rw [List.length_take] at this; omega
      refine apL S8 (.tail (.tail .head)) (fun s9 S9 => ?_) (by omega)
      refine ⟨items.length - (i + 1), by omega, i + 1, gs', ys ++ [y], rfl, by omega, hb', ?_, S9.weakenHead fun o h => LocO.sub (kvs' := []) trivial h⟩
      rw [List.take_add_one, hx']
      exact hpr.snoc hF
  refine codeAny_compStart_list (loop _ S5) ?_
  exact wpAny_pyIter_listiter (S5.isIter (.tail _ (.head _))) (loop _ S5)
end
end Mine


/-! # C2 -/
namespace Mine
section
variable {prog : Program} {w : World} {A : Around} {E : Value → Shared → Prop} {s : Shared} {h₀ : Base} {os : OsState} {gs : Array GenState} {led led' : Led} {env : Env} {kvs : List (Str × Value)} {R : Result → Shared → Prop}

def AllM (m : Str → Option Value) : List (Str × Value) → Prop
  | [] => True
  | p :: r => m p.1 = some p.2 ∧ AllM m r
theorem AllM.get {m : Str → Option Value} : ∀ {l : List (Str × Value)}, AllM m l → ∀ x v, l.lookup x = some v → m x = some v
  | p :: r, ⟨h, t⟩, x, v, e => by
    simp only [List.lookup] at e
    cases q : x == p.1 with
    | true => rw [q] at e; cases e; rw [beq_iff_eq.mp q]; exact h
    | false => rw [q] at e; exact AllM.get t x v e

theorem lookup_mem_nodup : ∀ {l : List (Str × Addr)} {n : Str} {c : Addr}, (l.map (·.1)).Nodup → (n, c) ∈ l → l.lookup n = some c
  | p :: r, n, c, nd, h => by
    simp only [List.lookup]
    rcases List.mem_cons.mp h with rfl | h
    · simp
    · have hne : (n == p.1) = false := by
        rw [beq_eq_false_iff_ne]
        intro e
        exact (List.nodup_cons.mp nd).1 (List.mem_map.mpr ⟨(n, c), h, e⟩)
      rw [hne]
      exact lookup_mem_nodup (List.nodup_cons.mp nd).2 h

/-- entering a def some of whose names are kept in cells -/
theorem enterC {f : Addr} {fd : FuncData} {o : Obj} {body : List Stmt} {args : List Value} {binds kvs : List (Str × Value)} {cs : List (Str × Addr)} {Q : Value → Shared → Prop} {n : Nat}
    (S : St w h₀ os gs led s) (R : Room A n) (ho : (KH w).lookup f = some o) (hdata : o.data = .func fd) (hcd : codeIn (KH w) fd.code fd.qualname = true) (hbody : fd.body = .stmts body)
    (hbind : bindArgs fd ⟨args, []⟩ = pure binds) (hclo : fd.closure = [])
    (hkind : ∀ x ∈ binds, fd.scope.names.lookup x.1 = some .local ∨ (fd.scope.names.lookup x.1 = some .cell ∧ ((cellsFrom (s.heap.objs.size + 1) fd.scope.names []).lookup x.1).isSome = true))
    (hcs : cellsFrom (s.heap.objs.size + 1) fd.scope.names [] = cs) (hnd : (cs.map (·.1)).Nodup)
    (hk : AllM (bindL (callEnvC fd s.heap.objs.size f).kindOf binds fun _ => none) kvs)
    (h : ∀ E' s', St w s.heap.get? os gs ((s.heap.objs.size, LocO kvs) :: cs.map fun p => (p.2, CellO (bindC (callEnvC fd s.heap.objs.size f).kindOf binds (fun _ => none) p.1))) s' →
      wpAny (model prog w) (A.deeper (callEnvC fd s.heap.objs.size f)) (execs body (callEnvC fd s.heap.objs.size f)) (fun fl s'' => Q (match fl with | .ret v => v | _ => .none) s'') E' s')
    (hco : fd.scope.isCoroutine = false := by rfl) (hgen : fd.scope.isGenerator = false := by rfl) (hkd : fd.scope.kind = .function := by rfl) :
    wpAny (model prog w) A (call (.ref f) args) Q E s := by
  have T := S.topNow
  refine wpAny_call (codeAny_call_cells R.dep (T.obj ho) hdata T.noLimit (codeRec_of T.K hcd) hbody hbind hclo hkind (fun s₁ I => ?_) hco hgen hkd)
  have hcells : (callEnvC fd s.heap.objs.size f).cells = cs := hcs
  rw [hcells] at I
  obtain ⟨⟨h₁, tk, rfl⟩, hns, hkp, hfr⟩ := I.toInCall
  refine h _ _ ⟨T, hkp, fun p hp => ?_, fun p hp => ?_, ?_, S.os, S.gens⟩
  · rcases List.mem_cons.mp hp with rfl | hp
    · obtain ⟨o, es, ep, h1, h2, h3, h4⟩ := hns
      exact ⟨o, h1, _, ⟨es, ep, h2, h3, h4⟩, hk.get⟩
    · obtain ⟨q, hq, rfl⟩ := List.mem_map.mp hp
      exact I.cell q.1 q.2 (lookup_mem_nodup hnd hq)
  · have key : ∀ a, s.heap.objs.size ≤ a → s.heap.get? a = none := fun a ha => by
      cases q : s.heap.get? a with
      | none => rfl
      | some o' => exact absurd (Heap.lt_size q) (Nat.not_lt.mpr ha)
    rcases List.mem_cons.mp hp with rfl | hp
    · exact key _ (Nat.le_refl _)
    · obtain ⟨q, hq, rfl⟩ := List.mem_map.mp hp
      exact key _ (Nat.le_of_lt (I.above q.1 q.2 hq))
  · rw [List.map_cons, List.map_map]
    refine List.nodup_cons.mpr ⟨fun hm => ?_, ?_⟩
    · obtain ⟨q, hq, e⟩ := List.mem_map.mp hm
      have := I.above q.1 q.2 hq
      have e' : q.2 = s.heap.objs.size := e
      rw [e'] at this
      exact Nat.lt_irrefl _ this
    · exact List.pairwise_map.mpr I.apart
end
end Mine


/-! # B4 -/
namespace Mine
section
variable {prog : Program} {w : World} {A : Around} {E : Value → Shared → Prop} {s : Shared} {h₀ : Base} {os : OsState} {gs : Array GenState} {led led' : Led} {env : Env} {kvs : List (Str × Value)} {R : Result → Shared → Prop}

theorem St.change (S : St w h₀ os gs led s) {W : List Addr} {s' : Shared} (hx : ∀ b o, b ∉ W → s.heap.get? b = some o → s'.heap.get? b = some o) (hW : ∀ b ∈ W, h₀ b = none)
    (hled : ∀ p ∈ led', (p ∈ led ∧ p.1 ∉ W) ∨ (h₀ p.1 = none ∧ ∃ o, s'.heap.get? p.1 = some o ∧ p.2 o)) (nd : (led'.map (·.1)).Nodup) (hg : s'.gens = s.gens) (ho : s'.os = s.os) : St w h₀ os gs led' s' :=
  ⟨S.top, fun b o e => hx b o (fun hb => by rw [hW b hb] at e; cases e) (S.keep b o e), fun p hp => by
    rcases hled p hp with ⟨h1, h2⟩ | ⟨h1, h2⟩
    · obtain ⟨o, h3, h4⟩ := S.has p h1
      exact ⟨o, hx _ _ h2 h3, h4⟩
    · exact h2, fun p hp => by
    rcases hled p hp with ⟨h1, h2⟩ | ⟨h1, h2⟩
    · exact S.new p h1
    · exact h1, nd, ho.trans S.os, hg.trans S.gens⟩

theorem St.perm (S : St w h₀ os gs led s) (h : led.Perm led') : St w h₀ os gs led' s :=
  S.sub (fun p hp => ⟨p, h.mem_iff.mpr hp, rfl, fun _ h => h⟩) ((h.map _).nodup_iff.mp S.nodup)
/-- bring one entry to the head -/
theorem St.front {pre post : Led} {p : Addr × (Obj → Prop)} (S : St w h₀ os gs (pre ++ p :: post) s) : St w h₀ os gs (p :: (pre ++ post)) s := S.perm List.perm_middle
theorem St.unfront {pre post : Led} {p : Addr × (Obj → Prop)} (S : St w h₀ os gs (p :: (pre ++ post)) s) : St w h₀ os gs (pre ++ p :: post) s := S.perm List.perm_middle.symm
/-- a list that is known, elder or in the ledger -/
def Lst (h₀ : Base) (led : Led) (l : Addr) (items : List Value) : Prop := (∃ o, h₀ l = some o ∧ ListO items o) ∨ (l, ListO items) ∈ led
theorem Lst.is {l : Addr} {items : List Value} (h : Lst h₀ led l items) (S : St w h₀ os gs led s) : s.heap.IsList l items.toArray := by
  rcases h with ⟨o, h1, h2⟩ | h
  · exact h2.at (S.keep _ _ h1)
  · exact S.isList h
theorem Lst.up {l : Addr} {items : List Value} (h : Lst h₀ led l items) (hs : ∀ p ∈ led, p ∈ led') : Lst h₀ led' l items := h.imp id fun h => hs _ h
theorem Lst.obj {l : Addr} {items : List Value} (h : Lst h₀ led l items) (S : St w h₀ os gs led s) : ∃ o, s.heap.get? l = some o ∧ ListO items o := by
  rcases h with ⟨o, h1, h2⟩ | h
  · exact ⟨o, S.keep _ _ h1, h2⟩
  · exact S.has _ h

/-! ## slices of lists -/
theorem pick_to (xs : List Value) (k : Nat) : slicePick xs.toArray none (some (k : Int)) none = (xs.take k).toArray := by
  rw [slicePick_upto']
theorem pick_fr (xs : List Value) (k : Nat) : slicePick xs.toArray (some (k : Int)) none none = (xs.drop k).toArray := by
  rw [slicePick_from']
theorem tailL_ns {value slice : Expr} {l : Addr} {xs : List Value} {uj : Tok} {j : Nat} {Q : Value → Shared → Prop} (S : St w h₀ os gs led s) (hl : Lst h₀ led l xs)
    (h : ∀ r s', St w h₀ os gs ((r, ListO (xs.take j)) :: led) s' → Q (.ref r) s') (hsz : xs.length ≤ 10000)
    (hs : subscripted slice false (.ref l) (.ref s.heap.objs.size) = operate [.ref s.heap.objs.size, .ref l] (getItem (.ref l) (.ref s.heap.objs.size)) := by with_unfolding_all rfl)
    (ht : ∀ r, letTemporaryGo value (.ref l) r = pure () := by intro _; with_unfolding_all rfl) :
    wpAny (model prog w) A (subscriptTail value slice (.ref l) (.ref s.heap.objs.size)) Q E { s with heap := s.heap.push { cls := .type "slice", data := .fields #[.none, .int j uj, .none] } } := by
  have S1 := S.grow (s' := { s with heap := s.heap.push { cls := .type "slice", data := .fields #[.none, .int j uj, .none] } }) (fun b o e => Heap.get?_push_of_some _ e) rfl rfl
  have hL := (hl.is S1)
  refine subscriptTail_ops hL.typeIs list_getitem_lookup (wpAny_getItem_list_slice hL (Heap.IsSliceOf.new ..) .none (.int _ _) .none (by simp) ?_ (by rw [List.size_toArray, sizeLine_eq]; omega)) hs ht
  rw [pick_to]
  exact h _ _ (S1.push (P := ListO (xs.take j)) (o := { cls := .type "list", data := .seq (xs.take j).toArray }) ⟨_, rfl⟩)
theorem tailL_sn {value slice : Expr} {l : Addr} {xs : List Value} {uj : Tok} {j : Nat} {Q : Value → Shared → Prop} (S : St w h₀ os gs led s) (hl : Lst h₀ led l xs)
    (h : ∀ r s', St w h₀ os gs ((r, ListO (xs.drop j)) :: led) s' → Q (.ref r) s') (hsz : xs.length ≤ 10000)
    (hs : subscripted slice false (.ref l) (.ref s.heap.objs.size) = operate [.ref s.heap.objs.size, .ref l] (getItem (.ref l) (.ref s.heap.objs.size)) := by with_unfolding_all rfl)
    (ht : ∀ r, letTemporaryGo value (.ref l) r = pure () := by intro _; with_unfolding_all rfl) :
    wpAny (model prog w) A (subscriptTail value slice (.ref l) (.ref s.heap.objs.size)) Q E { s with heap := s.heap.push { cls := .type "slice", data := .fields #[.int j uj, .none, .none] } } := by
  have S1 := S.grow (s' := { s with heap := s.heap.push { cls := .type "slice", data := .fields #[.int j uj, .none, .none] } }) (fun b o e => Heap.get?_push_of_some _ e) rfl rfl
  have hL := (hl.is S1)
  refine subscriptTail_ops hL.typeIs list_getitem_lookup (wpAny_getItem_list_slice hL (Heap.IsSliceOf.new ..) (.int _ _) .none .none (by simp) ?_ (by rw [List.size_toArray, sizeLine_eq]; omega)) hs ht
  rw [pick_fr]
  exact h _ _ (S1.push (P := ListO (xs.drop j)) (o := { cls := .type "list", data := .seq (xs.drop j).toArray }) ⟨_, rfl⟩)

/-! ## in, for lists of ints -/
def isI (k : Int) (v : Value) : Bool := match v with | .int n _ => n == k | _ => false
theorem any_isI (k : Int) {vs : List Value} {ns : List Int} (h : IntsAre vs ns) : vs.any (isI k) = ns.contains k := by
  induction h with
  | nil => rfl
  | cons n t h ih =>
    rw [List.any_cons, List.contains_cons, ih]
    congr 1
    show (n == k) = (k == n)
    exact BEq.comm
theorem inI {l : Addr} {xs : List Value} {ns : List Int} {k : Int} {t : Tok} {Q : Value → Shared → Prop} (S : St w h₀ os gs led s) (hl : Lst h₀ led l xs) (hi : IntsAre xs ns) (h : Q (.bool (ns.contains k)) s) :
    wpAny (model prog w) A (compareOp .In (.int k t) (.ref l)) Q E s := by
  refine SeqAt.in_listAt (isI k) (hl.is S) (fun y hy => ?_) ?_
  · obtain ⟨i, hi'⟩ := List.mem_iff_getElem?.mp (List.mem_toArray.mp hy)
    obtain ⟨x, u, _, rfl⟩ := IntsAre.get hi i y hi'
    exact SeqAt.EqAt.int_int x u k t
  · rw [List.any_toArray, any_isI k hi]; exact h
theorem notInI {l : Addr} {xs : List Value} {ns : List Int} {k : Int} {t : Tok} {Q : Value → Shared → Prop} (S : St w h₀ os gs led s) (hl : Lst h₀ led l xs) (hi : IntsAre xs ns) (h : Q (.bool (!ns.contains k)) s) :
    wpAny (model prog w) A (compareOp .NotIn (.int k t) (.ref l)) Q E s := by
  refine SeqAt.notIn_listAt (isI k) (hl.is S) (fun y hy => ?_) ?_
  · obtain ⟨i, hi'⟩ := List.mem_iff_getElem?.mp (List.mem_toArray.mp hy)
    obtain ⟨x, u, _, rfl⟩ := IntsAre.get hi i y hi'
    exact SeqAt.EqAt.int_int x u k t
  · rw [List.any_toArray, any_isI k hi]; exact h
end
end Mine


/-! # B5 -/
namespace Mine
def RangeO (x left : Int) (o : Obj) : Prop := o = { cls := .type "range_iterator", dict := none, data := .fields #[rawInt x, rawInt left, rawInt 1], slots := #[] }
section
variable {prog : Program} {w : World} {A : Around} {E : Value → Shared → Prop} {s : Shared} {h₀ : Base} {os : OsState} {gs : Array GenState} {led led' : Led} {env : Env} {kvs : List (Str × Value)} {R : Result → Shared → Prop}

/-- sum of a list of ints -/
theorem sumI {l : Addr} {xs : List Value} {ns : List Int} {Q : Value → Shared → Prop} (hh : A.handled = none) (S : St w h₀ os gs led s) (hl : s.heap.IsList l xs.toArray) (hi : IntsAre xs ns)
    (h : ∀ t s', St w h₀ os gs led s' → Q (.int ns.sum t) s') : wpAny (model prog w) A (call (.builtin "sum") [.ref l]) Q E s := by
  obtain ⟨ys, hy⟩ := hi.allInts.items
  rw [hy] at hl
  have hn : ns = numsOf (intItems ys).toList := by rw [← hy]; exact (hi.numsOf).symm
  refine sum_intListG hh hl fun h' tk t' hk => ?_
  have e : preSum (numAt ys) ys.size = ns.sum := by
    rw [hn, nums_intItems, preSum_eq, List.take_of_length_le (by simp)]
  rw [e]
  exact h t' _ (S.grow (s' := { s with heap := h', toks := tk }) hk rfl rfl)

theorem idxOf_min : ∀ {ns : List Int} {m : Nat} {x : Int}, ns[m]? = some x → ns.idxOf x ≤ m
  | y :: r, m, x, h => by
    rw [List.idxOf_cons]
    cases hq : y == x with
    | true => simp
    | false =>
      cases m with
      | zero => simp only [List.getElem?_cons_zero, Option.some.injEq] at h; subst h; simp at hq
      | succ m =>
        simp only [List.getElem?_cons_succ] at h
        have := idxOf_min h
        simp only [cond_false]; omega
/-- xs.index(k) of ints -/
theorem idxI {l : Addr} {xs : List Value} {ns : List Int} {k : Int} {t : Tok} {Q : Value → Shared → Prop} (S : St w h₀ os gs led s) (hl : ∃ o, s.heap.get? l = some o ∧ ListO xs o) (hi : IntsAre xs ns) (hk : k ∈ ns) (hlen : xs.length ≤ 10000)
    (h : ∀ t s', St w h₀ os gs led s' → Q (.int (ns.idxOf k : Nat) t) s') : wpAny (model prog w) A (call (.builtin "list.index") [.ref l, .int k t]) Q E s := by
  obtain ⟨o, ho, n, rfl⟩ := hl
  have hlen2 := hi.length
  have hj : ns.idxOf k < ns.length := List.idxOf_lt_length_of_mem hk
  refine call_meets F.slot_list_index ⟨_, ho, rfl⟩ F.entry_list_index (F.args_list_index_2 _ _)
    (MeetsSeq.list_index l xs.toArray n (.int k t) (isI k) (fun y hy => ?_) (ns.idxOf k) (by rw [List.size_toArray]; omega) (by omega) ?_ ?_) ⟨ho, h _ _ (S.toks _)⟩
  · obtain ⟨i, hi'⟩ := List.mem_iff_getElem?.mp (List.mem_toArray.mp hy)
    obtain ⟨x, u, _, rfl⟩ := IntsAre.get hi i y hi'
    exact MeetsSeq.EqGives.int x k u t
  · obtain ⟨x, u, h1, h2⟩ := IntsAre.get hi (ns.idxOf k) xs[ns.idxOf k] (List.getElem?_eq_getElem (by omega))
    rw [List.getElem_toArray, h2]
    show (x == k) = true
    have : ns[ns.idxOf k]? = some k := by rw [List.getElem?_eq_getElem hj, List.getElem_idxOf hj]
    rw [this] at h1; cases h1; simp
  · intro m hm hlt
    rw [List.size_toArray] at hm
    obtain ⟨x, u, h1, h2⟩ := IntsAre.get hi m xs[m] (List.getElem?_eq_getElem hm)
    rw [List.getElem_toArray, h2]
    show (x == k) = false
    rw [beq_eq_false_iff_ne]
    rintro rfl
    have := idxOf_min h1
    omega

/-- range(n) and its iterator -/
theorem rng1 {n : Nat} {t : Tok} {Q : Value → Shared → Prop} (S : St w h₀ os gs led s) (hn : n ≤ 10000)
    (h : ∀ it s', St w h₀ os gs ((it, RangeO 0 n) :: led) s' → Q (.ref it) s') :
    wpAny (model prog w) A (call (.type "range") [.int (n : Int) t]) (fun x s₁ => wpAny (model prog w) A (pyIter x) Q E s₁) E s := by
  refine call_range_1 ?_
  have S1 := S.grow (s' := { s with heap := s.heap.push { cls := .type "range", data := .fields #[.int 0 s.toks, .int n t, .int 1 (s.toks + 1)] }, toks := s.toks + 1 + 1 }) (fun b o e => Heap.get?_push_of_some _ e) rfl rfl
  refine wpAny_pyIter_range (IsRange.new ..) (small_one (by decide) (by decide) (by omega) (by omega)) ?_
  have e : Builtin.Range.rangeSize 0 (n : Int) 1 = n := by rw [rangeSize_one]; split <;> omega
  rw [e]
  exact h _ _ (S1.push (P := RangeO 0 n) rfl)
theorem rng2 {a b : Nat} {t u : Tok} {Q : Value → Shared → Prop} (S : St w h₀ os gs led s) (hab : a ≤ b) (hn : b ≤ 10000)
    (h : ∀ it s', St w h₀ os gs ((it, RangeO a (b - a : Nat)) :: led) s' → Q (.ref it) s') :
    wpAny (model prog w) A (call (.type "range") [.int (a : Int) t, .int (b : Int) u]) (fun x s₁ => wpAny (model prog w) A (pyIter x) Q E s₁) E s := by
  refine call_range_2 ?_
  have S1 := S.grow (s' := { s with heap := s.heap.push { cls := .type "range", data := .fields #[.int a t, .int b u, .int 1 s.toks] }, toks := s.toks + 1 }) (fun b o e => Heap.get?_push_of_some _ e) rfl rfl
  refine wpAny_pyIter_range (IsRange.new ..) (small_one (by omega) (by omega) (by omega) (by omega)) ?_
  have e : Builtin.Range.rangeSize (a : Int) (b : Int) 1 = (b - a : Nat) := by rw [rangeSize_one]; split <;> omega
  rw [e]
  exact h _ _ (S1.push (P := RangeO a (b - a : Nat)) rfl)
theorem rngNext {it : Addr} {x : Int} {left : Nat} {Q : Option Value → Shared → Prop} (S : St w h₀ os gs led s) (U : Put it (RangeO (x + 1) left) (RangeO x (left + 1 : Nat)) led led')
    (h : ∀ t s', St w h₀ os gs led' s' → Q (some (.int x t)) s') : wpAny (model prog w) A (pyNext (.ref it)) Q E s := by
  obtain ⟨o, ho, rfl⟩ := S.has _ U.mem
  refine wpAny_pyNext_range_item ho (by omega) fun h' hit hs => ?_
  rw [show ((left + 1 : Nat) : Int) - 1 = (left : Int) by omega] at hit
  exact h _ _ (S.put (s' := { s with heap := h', toks := s.toks + 1 }) U hs.extBut ⟨_, hit, rfl⟩ rfl rfl)
theorem rngEnd {it : Addr} {x : Int} {Q : Option Value → Shared → Prop} (hh : A.handled = none) (S : St w h₀ os gs ((it, RangeO x (0 : Nat)) :: led) s)
    (h : ∀ s', St w h₀ os gs led s' → Q none s') : wpAny (model prog w) A (pyNext (.ref it)) Q E s := by
  obtain ⟨o, ho, rfl⟩ := S.has _ (.head _)
  refine wpAny_pyNext_range_end hh ho (by simp) fun h' hx => h _ (S.lose (s' := { s with heap := h' }) (.head _) hx (fun p hp => ⟨.tail _ hp, fun e => ?_⟩) (List.nodup_cons.mp S.nodup).2 rfl rfl)
  exact (List.nodup_cons.mp S.nodup).1 (List.mem_map.mpr ⟨p, hp, e⟩)
end
end Mine


/-! # O1 -/
namespace Mine

/-! ## _law_once -/
def bO : List Stmt := fBody (stmtAt 16)
noncomputable def eO (w : World) (L : Addr) : Env := callEnvC (fdAt w 107) L 107
def EnumO (it : Addr) (i : Int) (o : Obj) : Prop := ∃ old, o = { cls := .type "enumerate", dict := none, data := .fields #[.none, .bool false, .ref it, rawInt i, .none, old], slots := #[] }

/-- what is kept: each item that none ahead of it equals -/
def onceV : Nat → List Int → List Value → List Value
  | _, _, [] => []
  | i, ns, v :: r => match v with
    | .int x _ => if (ns.take i).contains x then onceV (i + 1) ns r else v :: onceV (i + 1) ns r
    | _ => onceV (i + 1) ns r

section
variable {prog : Program} {w : World} {A : Around} {E : Value → Shared → Prop} {s : Shared} {h₀ : Base} {os : OsState} {gs : Array GenState} {led led' : Led} {env : Env} {kvs : List (Str × Value)} {R : Result → Shared → Prop}

theorem once_body {L l : Addr} {items : List Value} {ns : List Int} {Q : Flow → Shared → Prop} {n : Nat}
    (R : Room A n) (S : St w h₀ os gs [(L, LocO []), (L + 1, CellO (some (.ref l)))] s) (hl : ∃ o, h₀ l = some o ∧ ListO items o) (hi : IntsAre items ns) (hlen : items.length ≤ 1000) (hb : AllBare gs)
    (h : ∀ r s', St w h₀ os gs [(r, ListO (onceV 0 ns items))] s' → Q (.ret (.ref r)) s') :
    wpAny (model prog w) A (execs bO (eO w L)) Q E s := by
  refine wpAny_execs_cons (wpAny_Return_some ?_)
  refine list_comp (h₀ := h₀) (os := os) (cl := [("numbers", L + 1)]) ?_
  refine Call_name1 rfl (nmB S (v := .type "enumerate") rfl bb_enumerate (callWith_type1 (nmC S (c := L + 1) (v := .ref l) rfl (.tail _ (.head _)) ?_)))
  have hL0 : Lst h₀ ([] : Led) l items := .inl hl
  refine call_enumerate_list (((hL0.up (led' := [(L, LocO []), (L + 1, CellO (some (.ref l)))]) (fun _ h => nomatch h)).is S)) fun h1 he hit hsz1 hk1 => ?_
  have S1 := S.grow (s' := { s with heap := h1 }) hk1 rfl rfl
  have hnew : ∀ a, s.heap.objs.size ≤ a → h₀ a = none := fun a ha => by
    cases q : h₀ a with
    | none => rfl
    | some o => exact absurd (Heap.lt_size (S.keep _ _ q)) (Nat.not_lt.mpr ha)
  have hLlt := S.lt (.head _)
  have hClt := S.lt (.tail _ (.head _))
  generalize hi0 : s.heap.objs.size = it at he hit hnew hLlt hClt
  have S2 : St w h₀ os gs [(it + 1, EnumO it 0), (it, IterO l 0), (L + 1, CellO (some (.ref l)))] { s with heap := h1 } := by
    refine S1.change (W := []) (fun b o _ e => e) (fun b hb => nomatch hb) (fun p hp => ?_) ?_ rfl rfl
    · simp only [List.mem_cons, List.not_mem_nil, or_false] at hp
      rcases hp with rfl | rfl | rfl
      · exact .inr ⟨hnew _ (Nat.le_succ _), _, he, .none, rfl⟩
      · exact .inr ⟨hnew _ (Nat.le_refl _), hit⟩
      · exact .inl ⟨.tail _ (.head _), by simp⟩
    · show [it + 1, it, L + 1].Nodup
      simp only [List.nodup_cons, List.mem_cons, List.not_mem_nil, or_false, not_or, not_false_eq_true, List.nodup_nil, and_true]
      exact ⟨⟨Nat.succ_ne_self _, (Nat.ne_of_gt (Nat.lt_succ_of_lt hClt))⟩, Nat.ne_of_gt hClt⟩
  refine wpAny_pyIter_enum he ⟨gs, _, S2, fun C acc s₄ hacc S4 => ?_⟩
  refine comp_start (fun s₄ => St w h₀ os gs ((C, LocO []) :: (acc, ListO []) :: [(it + 1, EnumO it 0), (it, IterO l 0), (L + 1, CellO (some (.ref l)))]) s₄) S4 (fun E Q s S hq => ?_) fun s₄ S4 => ?_
  · obtain ⟨o, ho, old, rfl⟩ := S.has _ (.tail _ (.tail _ (.head _)))
    exact wpAny_pyIter_enum ho hq
  refine kct_loop (fun m s => ∃ i ys, m = items.length - i ∧ i ≤ items.length ∧ ys ++ onceV i ns (items.drop i) = onceV 0 ns items ∧ ys.length ≤ i ∧
    St w h₀ os gs ((C, LocO []) :: (acc, ListO ys) :: [(it + 1, EnumO it i), (it, IterO l i), (L + 1, CellO (some (.ref l)))]) s) ?_ items.length ⟨0, [], rfl, Nat.zero_le _, rfl, Nat.le_refl _, S4⟩
  rintro m s ⟨i, ys, rfl, hile, hys, hyl, S5⟩
  have hlist := (hL0.up (led' := (C, LocO []) :: (acc, ListO ys) :: [(it + 1, EnumO it i), (it, IterO l i), (L + 1, CellO (some (.ref l)))]) (fun _ h => nomatch h)).is S5
  obtain ⟨oe, hoe, old, rfl⟩ := S5.has _ (.tail _ (.tail _ (.head _)))
  have hoi := S5.isIter (.tail _ (.tail _ (.tail _ (.head _))))
  cases hx : items[i]? with
  | none =>
    refine wpAny_pyNext_enum_end R.h hoe hoi hlist (by simpa using hx) fun h' hk => ?_
    dsimp only
    have hge : items.length ≤ i := List.getElem?_eq_none_iff.mp hx
    rw [List.drop_eq_nil_of_le hge] at hys
    simp only [onceV, List.append_nil] at hys
    subst hys
    have S6 := S5.lose (s' := { s with heap := h' }) (led' := [(C, LocO []), (acc, ListO (onceV 0 ns items))]) (.tail _ (.tail _ (.tail _ (.head _)))) hk (fun p hp => by
      have nd : [C, acc, it + 1, it, L + 1].Nodup := S5.nodup
      simp only [List.nodup_cons, List.mem_cons, List.not_mem_nil, or_false, not_or] at nd
      simp only [List.mem_cons, List.not_mem_nil, or_false] at hp
      rcases hp with rfl | rfl
      · exact ⟨.head _, nd.1.2.2.1⟩
      · exact ⟨.tail _ (.head _), nd.2.1.2.1⟩) (by
      have nd : [C, acc, it + 1, it, L + 1].Nodup := S5.nodup
      show [C, acc].Nodup
      simp only [List.nodup_cons, List.mem_cons, List.not_mem_nil, or_false, not_or, not_false_eq_true, List.nodup_nil, and_true] at nd ⊢
      exact nd.1.1) rfl rfl
    exact ⟨.next, rfl, gs, [], _, S6, fun s'' S'' => h acc s'' S''⟩
  | some v =>
    obtain ⟨x, tx, hnx, rfl⟩ := IntsAre.get hi i v hx
    refine wpAny_pyNext_enum_item hoe hoi hlist (by simpa using hx) (Nat.succ_ne_self _) fun h2 heo hit2 ht2 hz2 hk2 => ?_
    dsimp only
    refine wpAny_letOwnedTupleGo_enum heo fun h3 he3 hs3 => ?_
    replace hs3 : Heap.SameBut (it + 1) h2 h3 := hs3
    have hlt : i < items.length := (List.getElem?_eq_some_iff.mp hx).1
    have hen : it + 1 < s.heap.objs.size := S5.lt (.tail _ (.tail _ (.head _)))
    have S6 : St w h₀ os gs ((C, LocO []) :: (acc, ListO ys) :: [(it + 1, EnumO it ((i : Nat) + 1 : Nat)), (it, IterO l (i + 1)), (L + 1, CellO (some (.ref l)))]) { s with heap := h3, toks := s.toks + 1 } := by
      have nd : [C, acc, it + 1, it, L + 1].Nodup := S5.nodup
      refine S5.change (W := [it + 1, it]) (fun b o hb e => ?_) (fun b hb => ?_) (fun p hp => ?_) nd rfl rfl
      · simp only [List.mem_cons, List.not_mem_nil, or_false, not_or] at hb
        exact hs3.extBut b o hb.1 (hk2 b o hb.1 hb.2 e)
      · simp only [List.mem_cons, List.not_mem_nil, or_false] at hb
        rcases hb with rfl | rfl
        · exact S5.new _ (.tail _ (.tail _ (.head _)))
        · exact S5.new _ (.tail _ (.tail _ (.tail _ (.head _))))
      · simp only [List.nodup_cons, List.mem_cons, List.not_mem_nil, or_false, not_or] at nd
        simp only [List.mem_cons, List.not_mem_nil, or_false] at hp
        rcases hp with rfl | rfl | rfl | rfl | rfl
        · exact .inl ⟨.head _, by simp only [List.mem_cons, List.not_mem_nil, or_false, not_or]; exact ⟨nd.1.2.1, nd.1.2.2.1⟩⟩
        · exact .inl ⟨.tail _ (.head _), by simp only [List.mem_cons, List.not_mem_nil, or_false, not_or]; exact ⟨nd.2.1.1, nd.2.1.2.1⟩⟩
        · exact .inr ⟨S5.new (it + 1, EnumO it (i : Int)) (.tail _ (.tail _ (.head _))), _, he3, _, rfl⟩
        · refine .inr ⟨S5.new (it, IterO l i) (.tail _ (.tail _ (.tail _ (.head _)))), ?_⟩
          obtain ⟨o2, ho2, hr2⟩ := hit2
          exact ⟨o2, hs3.extBut _ _ (fun e => nd.2.2.1.1 e.symm) ho2, hr2⟩
        · exact .inl ⟨.tail _ (.tail _ (.tail _ (.tail _ (.head _)))), by simp only [List.mem_cons, List.not_mem_nil, or_false, not_or]; exact ⟨fun e => nd.2.2.1.2 e.symm, fun e => nd.2.2.2.1 e.symm⟩⟩
    have htup : h3.IsTuple s.heap.objs.size #[.int i s.toks, .int x tx] := ⟨_, (hs3.2 _ (Nat.ne_of_gt hen)).trans ht2, rfl, _, rfl⟩
    refine wpAny_assign_Tuple R.h htup rfl rfl fun h4 hx4 => ?_
    have S7 := S6.grow (s' := { s with heap := h4, toks := s.toks + 1 }) (fun b o e => hx4 b o (Nat.ne_of_lt (Heap.lt_size e)) e) rfl rfl
    show wpAny _ A (do holding _ (assign (.Name "k" _) _ (.int i s.toks)); do holding _ (assign (.Name "x" _) _ (.int x tx)); pure ()) _ _ _
    refine wpAny_bind (wpAny_holding (asN (stL S7 fun s8 S8 => ?_)))
    refine wpAny_bind (wpAny_holding (asN (stL S8 fun s9 S9 => wpAny_pure ?_)))
    refine wpAny_isTrue_Compare1 (nmL S9 rfl (Subscript_ (nmC S9 (c := L + 1) (v := .ref l) rfl (.tail _ (.tail _ (.tail _ (.tail _ (.head _))))) (wpAny_Slice (wpAny_pure (nmL S9 rfl (wpAny_pure ?_)))))))
    refine tailL_ns S9 (hL0.up fun _ h => nomatch h) (fun r s10 S10 => ?_) (by omega)
    refine notInI S10 (.inr (.head _)) (IntsAre.take hi i) (wpAny_truthy_bool ?_)
    have S11 := S10.tail
    have hdrop : items.drop i = .int x tx :: items.drop (i + 1) := by
      rw [List.drop_eq_getElem_cons hlt]
      congr 1
      exact Option.some.inj ((List.getElem?_eq_getElem hlt).symm.trans hx)
    rw [hdrop] at hys
    simp only [onceV] at hys
    cases hc : (ns.take i).contains x with
    | true =>
      rw [hc, if_pos rfl] at hys
      simp only [Bool.not_true, Bool.false_eq_true, if_false]
      refine ⟨items.length - (i + 1), by omega, i + 1, ys, rfl, by omega, hys, by omega, S11.weakenHead (P' := LocO []) fun o h => LocO.sub (kvs' := []) trivial h⟩
    | false =>
      rw [hc, if_neg (by simp)] at hys
      simp only [Bool.not_false, if_true]
      refine nmL S11 rfl ?_
      refine apL S11 (.tail .head) (fun s12 S12 => ?_) (by omega)
      refine ⟨items.length - (i + 1), by omega, i + 1, ys ++ [Value.int x tx], rfl, by omega, by rw [List.append_assoc]; exact hys, by rw [List.length_append, List.length_singleton]; omega, S12.weakenHead (P' := LocO []) fun o h => LocO.sub (kvs' := []) trivial h⟩

theorem bind107 {w : World} (a : Value) : bindArgs (fdAt w 107) ⟨[a], []⟩ = pure [((Str.ofString "numbers" : Str), a)] := by kernel_rfl
theorem once_call {l : Addr} {items : List Value} {ns : List Int} {Q : Value → Shared → Prop} {n : Nat}
    (R : Room A (n + 1)) (S : St w h₀ os gs led s) (hl : Lst h₀ led l items) (hi : IntsAre items ns) (hlen : items.length ≤ 1000) (hb : AllBare gs)
    (h : ∀ r s', St w h₀ os gs ((r, ListO (onceV 0 ns items)) :: led) s' → Q (.ref r) s') :
    wpAny (model prog w) A (call (.ref 107) [.ref l]) Q E s := by
  refine enterC (kvs := []) (cs := [("numbers", s.heap.objs.size + 1)]) S R (f := 107) (o := objAt w 107) (fd := fdAt w 107) (body := bO) rfl rfl rfl rfl (bind107 _) rfl ?_ rfl (by show [Str.ofString "numbers"].Nodup; decide) trivial fun E' s1 S1 => ?_
  · intro x hx
    obtain rfl := List.mem_singleton.mp hx
    exact .inr ⟨rfl, rfl⟩
  · refine once_body (R.deeper _) S1 (hl.obj S) hi hlen hb fun r s' S' => ?_
    exact h r s' (S.backWith (led₁ := [(r, ListO (onceV 0 ns items))]) (led₂ := []) S')
end
end Mine


/-! # M1 -/
namespace Mine

/-! ## _law_marks -/
def bM : List Stmt := fBody (stmtAt 15)
noncomputable def eM (w : World) (L : Addr) : Env := callEnvC (fdAt w 102) L 102

def cutV (k : Int) (ns : List Int) : List Int := if k ∈ ns then ns.take (ns.idxOf k) else ns
def endedV (ns : List Int) : List Int := cutV 127 ns
def headV (ns : List Int) : List Int := cutV 0 (endedV ns)
def sumsV (H : List Int) : List Int := (List.range H.length).map fun k => (H.take (k + 1)).sum
def lastD (xs : List Int) : Int := xs.getD ((-1 : Int) + xs.length).toNat 0
def markV (ns : List Int) (count : Int) : Bool :=
  (sumsV (headV ns)).contains count || (decide (count - lastD (sumsV (headV ns)) > 0) && (!(endedV ns).contains 0 || (count - lastD (sumsV (headV ns))).fmod (lastD (headV ns)) == 0))
def marksV (ns : List Int) (n : Nat) : List Value := (List.range n).map fun (j : Nat) => .bool (markV ns ((j : Int) + 1))

section
variable {prog : Program} {w : World} {A : Around} {E : Value → Shared → Prop} {s : Shared} {h₀ : Base} {os : OsState} {gs : Array GenState} {led led' : Led} {env : Env} {kvs : List (Str × Value)} {R : Result → Shared → Prop}

theorem cell_ne_list {v : Option Value} {its : List Value} : CellO v ≠ ListO its := fun e => by
  have h : CellO v { cls := .type "list", data := .seq its.toArray 0 } := by rw [e]; exact ⟨0, rfl⟩
  cases h
/-- the written int -/
theorem negK {k : Nat} {kk : Nat} {p1 p2 : Pos} {Q : Value → Shared → Prop} (S : St w h₀ os gs led s) (h : ∀ t s', St w h₀ os gs led s' → Q (.int (-(k : Int)) t) s') :
    wpAny (model prog w) A (eval (.UnaryOp .USub (.Constant (.int (k : Int)) kk p1) p2) env) Q E s := by
  exact wpAny_UnaryOp (wpAny_Constant_int (neg_int (h _ _ (S.toks _))))
/-- xs[:xs.index(k)] if k in xs else xs -/
theorem cutE {l : Addr} {x : Str} {k : Nat} {items : List Value} {ns : List Int} {p1 p2 p3 p4 p5 p6 p7 p8 p9 p10 p11 p12 : Pos} {k1 k2 : Nat} {Q : Value → Shared → Prop}
    (S : St w h₀ os gs ((env.locals, LocO kvs) :: led) s) (hx : kvs.lookup x = some (.ref l)) (hl : Lst h₀ led l items) (hi : IntsAre items ns) (hlen : items.length ≤ 1000)
    (h : ∀ l' items' ext s', St w h₀ os gs ((env.locals, LocO kvs) :: (led ++ ext)) s' → Lst h₀ (led ++ ext) l' items' → IntsAre items' (cutV k ns) → items'.length ≤ 1000 → Q (.ref l') s')
    (hk : env.scope.kind = .function := by rfl) (hkl : env.kindOf x = some .local := by rfl) (hd : (x == ("__debug__" : Str)) = false := by rfl) (hpos : (p8.endLine == p10.line) = true := by rfl)
    (hb : attributeBase (.Name x p7) "index" env (eval (.Name x p7) env) = eval (.Name x p7) env := by rfl) :
    wpAny (model prog w) A (eval (.IfExp (.Compare (.Constant (.int (k : Int)) k1 p1) [.In] [.Name x p2] p3)
      (.Subscript (.Name x p4) (.Slice none (some (.Call (.Attribute (.Name x p7) "index" p8) [.Constant (.int (k : Int)) k2 p9] [] p10)) none p5) p6) (.Name x p11) p12) env) Q E s := by
  refine wpAny_IfExp (wpAny_isTrue_Compare1 (wpAny_Constant_int ?_) rfl)
  have S1 := S.toks (s.toks + 1)
  refine nmL S1 hx ?_ hk hkl hd
  refine inI S1 (hl.up fun p hp => .tail _ hp) hi (wpAny_truthy_bool ?_)
  by_cases hm : (k : Int) ∈ ns
  · rw [if_pos (by simpa using hm)]
    refine Subscript_ (nmL S1 hx ?_ hk hkl hd)
    refine wpAny_Slice (wpAny_pure ?_)
    refine Call_method1 hb rfl hpos (nmL S1 hx ⟨"list", "list.index", F.plainAttrs_list, F.slot_list_index, F.type_list_index, ?_, ?_, ?_⟩ hk hkl hd)
    · exact ((hl.up (led' := (env.locals, LocO kvs) :: led) fun p hp => .tail _ hp).is S1).typeIs
    · intro a e
      cases e
      obtain ⟨o, ho, n, rfl⟩ := (hl.up (led' := (env.locals, LocO kvs) :: led) fun p hp => .tail _ hp).obj S1
      exact ⟨_, ho, rfl⟩
    · refine Calls.callWith_builtin rfl (Calls.evalArgs_plain (Calls.spliced_cons (wpAny_Constant_int (Calls.spliced_nil ?_))))
      have S2 := S1.toks (s.toks + 1 + 1)
      refine idxI S2 ((hl.up (led' := (env.locals, LocO kvs) :: led) fun p hp => .tail _ hp).obj S2) hi hm (by omega) fun t s3 S3 => ?_
      refine wpAny_pure ?_
      refine tailL_ns S3 (hl.up fun p hp => .tail _ hp) (fun r s4 S4 => ?_) (by omega)
      refine h r _ [(r, ListO (items.take (ns.idxOf (k : Int))))] s4 (St.comm (led := [(r, ListO (items.take (ns.idxOf (k : Int))))]) (led₂ := (env.locals, LocO kvs) :: led) S4) (.inr (List.mem_append_right _ (.head _))) ?_ ?_
      · unfold cutV; rw [if_pos hm]; exact hi.take _
      · rw [List.length_take]; omega
  · rw [if_neg (by simpa using hm)]
    refine nmL S1 hx ?_ hk hkl hd
    refine h l items [] _ (by rw [List.append_nil]; exact S1) (by rw [List.append_nil]; exact hl) ?_ hlen
    unfold cutV; rw [if_neg hm]; exact hi

theorem append_marks (ns : List Int) (i : Nat) : marksV ns i ++ [.bool (markV ns ((i : Int) + 1))] = marksV ns (i + 1) := by
  unfold marksV
  rw [List.range_succ, List.map_append]; rfl

set_option maxHeartbeats 4000000 in
theorem marks_rest {L le lh acc : Addr} {ie ih ys : List Value} {ns : List Int} {ledc : Led} {Q : Flow → Shared → Prop} {n : Nat}
    (R : Room A n) (S9 : St w h₀ os gs ((L, LocO [("ended", .ref le), ("sums", .ref acc)]) :: (acc, ListO ys) :: ledc) s)
    (hel : Lst h₀ ledc le ie) (hie : IntsAre ie (endedV ns)) (hlee : ie.length ≤ 1000) (hll : Lst h₀ ledc lh ih) (hih : IntsAre ih (headV ns)) (hlhe : ih.length ≤ 1000)
    (hys : IntsAre ys (sumsV (headV ns))) (hcl : (L + 1, CellO (some (.ref lh))) ∈ ledc) (hne : headV ns ≠ []) (hz : lastD (headV ns) ≠ 0)
    (h : ∀ r s', St w h₀ os gs [(r, ListO (marksV ns 9))] s' → Q (.ret (.ref r)) s') :
    wpAny (model prog w) A (execs (bM.drop 3) (eM w L)) Q E s := by
  have hHpos : 0 < (headV ns).length := List.length_pos_iff.mpr hne
  have hsumlen : (sumsV (headV ns)).length = (headV ns).length := by unfold sumsV; rw [List.length_map, List.length_range]
  have hyl := hys.length
  have hhl := hih.length
  refine wpAny_execs_cons (wpAny_Assign_Name (List_ (spliced_none ?_)))
  refine nwList S9 (fun ml s10 _ S10 => ?_) (by simp)
  refine stL S10.swap fun s11 S11 => ?_
  dsimp only
  have S12 : St w h₀ os gs ((L, LocO [("ended", .ref le), ("sums", .ref acc), ("marks", .ref ml)]) :: (ml, ListO []) :: (acc, ListO ys) :: ledc) s11 :=
    S11.weakenHead (P' := LocO [("ended", .ref le), ("sums", .ref acc), ("marks", .ref ml)]) fun o h => LocO.sub (kvs' := [("ended", .ref le), ("sums", .ref acc), ("marks", .ref ml)]) ⟨rfl, rfl, rfl, trivial⟩ h
  clear S9 S10 S11
  refine wpAny_execs_cons (wpAny_For ?_)
  refine Call_Name2 (nmB S12 (v := .type "range") rfl bb_range (PyProof.Rows.callWith_type rfl (Calls.evalArgs_plain (Calls.spliced_cons (wpAny_Constant_int (Calls.spliced_cons (wpAny_Constant_int (Calls.spliced_nil ?_))))))))
  refine rng2 (a := 1) (b := 10) (S12.toks _) (by decide) (by decide) fun it2 s13 S13 => ?_
  refine codeAny_forLoop (fun m s => ∃ i, m = 9 - i ∧ i ≤ 9 ∧ St w h₀ os gs ((L, LocO [("ended", .ref le), ("sums", .ref acc), ("marks", .ref ml)]) :: (ml, ListO (marksV ns i)) :: (acc, ListO ys) :: (it2, RangeO ((i : Int) + 1) (9 - i : Nat)) :: ledc) s) ?_ 9 ⟨0, rfl, by decide, ?_⟩
  · rintro m s ⟨i, rfl, hi9, S14⟩
    rcases Nat.lt_or_ge i 9 with hlt | hge
    · obtain ⟨left, hleft⟩ : ∃ left, 9 - i = left + 1 := ⟨9 - i - 1, by omega⟩
      rw [hleft] at S14
      refine rngNext S14 (.tail (.tail (.tail .head))) fun t s15 S15 => ?_
      dsimp only
      refine asN (stL S15 fun s16 S16 => ?_)
      refine wpAny_execs_cons (wpAny_Assign_Name (wpAny_BinOp (nmL S16 rfl (Subscript_ (nmL S16 rfl ?_)))))
      refine negK (k := 1) S16 fun t1 s17 S17 => ?_
      refine item_list_ints_neg (S17.isList (.tail _ (.tail _ (.head _)))) hys (by decide) (by omega) (by decide) fun t2 => ?_
      rw [show (sumsV (headV ns)).getD (-((1 : Nat) : Int) + ((sumsV (headV ns)).length : Nat)).toNat 0 = lastD (sumsV (headV ns)) from rfl]
      refine sub_int (stL (S17.toks _) fun s18 S18 => ?_)
      dsimp only
      refine wpAny_execs_cons (wpAny_Expr (evAppend (nmL S18 rfl ⟨ml, _, rfl, S18.plainL (.tail _ (.head _)), ?_⟩)))
      refine wpAny_mono (Q := fun y s' => y = .bool (markV ns ((i : Int) + 1)) ∧ St w h₀ os gs (((eM w L).locals, LocO (putK "over" (.int ((i : Int) + 1 - lastD (sumsV (headV ns))) s17.toks) (putK "count" (.int ((i : Int) + 1) t) [("ended", .ref le), ("sums", .ref acc), ("marks", .ref ml)]))) :: (ml, ListO (marksV ns i)) :: (acc, ListO ys) :: (it2, RangeO ((i : Int) + 1 + 1) left) :: ledc) s') ?_ (fun y s' hy => ?_) (fun _ _ e => e)
      · refine wpAny_Or2 (wpAny_Compare1 (nmL S18 rfl (nmL S18 rfl (inI S18 (.inr (.tail _ (.tail _ (.head _)))) hys (wpAny_truthy_bool ?_)))))
        cases hc1 : (sumsV (headV ns)).contains ((i : Int) + 1) with
        | true => rw [if_pos rfl]; exact ⟨by unfold markV; rw [hc1]; rfl, S18⟩
        | false =>
          rw [if_neg (by simp)]
          refine wpAny_And2 (wpAny_Compare1 (nmL S18 rfl (wpAny_Constant_int (gt_int (wpAny_truthy_bool ?_)))))
          have S19 := S18.toks (s18.toks + 1)
          cases hc2 : decide ((i : Int) + 1 - lastD (sumsV (headV ns)) > 0) with
          | false => rw [if_neg (by simp)]; exact ⟨by unfold markV; rw [hc1, hc2]; rfl, S19⟩
          | true =>
            rw [if_pos rfl]
            refine wpAny_Or2 (wpAny_Compare1 (wpAny_Constant_int (nmL (S19.toks _) rfl (notInI (S19.toks _) (hel.up fun p hp => .tail _ (.tail _ (.tail _ (.tail _ hp)))) hie (wpAny_truthy_bool ?_)))))
            have S20 := S19.toks (s18.toks + 1 + 1)
            cases hc3 : (!(endedV ns).contains 0) with
            | true => rw [if_pos rfl]; exact ⟨by unfold markV; rw [hc1, hc2, hc3]; rfl, S20⟩
            | false =>
              rw [if_neg (by simp)]
              refine wpAny_Compare1 (wpAny_BinOp (nmL S20 rfl (Subscript_ (nmC S20 (c := L + 1) (v := .ref lh) rfl (.tail _ (.tail _ (.tail _ (.tail _ hcl)))) ?_))))
              refine negK (k := 1) S20 fun t3 s21 S21 => ?_
              refine item_list_ints_neg ((hll.up (fun p hp => .tail _ (.tail _ (.tail _ (.tail _ hp))))).is S21) hih (by decide) (by omega) (by decide) fun t4 => ?_
              rw [show (headV ns).getD (-((1 : Nat) : Int) + ((headV ns).length : Nat)).toNat 0 = lastD (headV ns) from rfl]
              refine mod_int hz (wpAny_Constant_int (eq_int ?_))
              exact ⟨by unfold markV; rw [hc1, hc2, hc3]; rfl, S21.toks _⟩
      · obtain ⟨rfl, S'⟩ := hy
        refine apL S' (.tail .head) (fun s19 S19 => ?_) (by unfold marksV; rw [List.length_map, List.length_range]; omega)
        refine wpAny_execs_nil ?_
        dsimp only
        refine ⟨9 - (i + 1), by omega, i + 1, rfl, by omega, ?_⟩
        rw [append_marks] at S19
        have hl2 : 9 - (i + 1) = left := by omega
        rw [hl2]
        exact S19.weakenHead (P' := LocO [("ended", .ref le), ("sums", .ref acc), ("marks", .ref ml)]) fun o h => LocO.sub (kvs' := [("ended", .ref le), ("sums", .ref acc), ("marks", .ref ml)]) ⟨rfl, rfl, rfl, trivial⟩ h
    · obtain rfl : i = 9 := by omega
      refine rngEnd R.h (St.front (pre := [(L, LocO [("ended", .ref le), ("sums", .ref acc), ("marks", .ref ml)]), (ml, ListO (marksV ns 9)), (acc, ListO ys)]) S14) fun s15 S15 => ?_
      dsimp only
      refine wpAny_execs_nil ?_
      dsimp only
      refine wpAny_execs_cons (wpAny_Return_some (nmL S15 rfl ?_))
      refine h ml s15 (S15.sub (fun p hp => ?_) (List.nodup_cons.mpr ⟨List.not_mem_nil, List.nodup_nil⟩))
      obtain rfl := List.mem_singleton.mp hp
      exact ⟨_, .tail _ (.head _), rfl, fun _ h => h⟩
  · exact St.unfront (pre := [(L, LocO [("ended", .ref le), ("sums", .ref acc), ("marks", .ref ml)]), (ml, ListO []), (acc, ListO ys)]) S13

set_option maxHeartbeats 4000000 in
theorem marks_body {L l : Addr} {items : List Value} {ns : List Int} {Q : Flow → Shared → Prop} {n : Nat}
    (R : Room A n) (S : St w h₀ os gs [(L, LocO [("sizes", .ref l)]), (L + 1, CellO none)] s) (hl : ∃ o, h₀ l = some o ∧ ListO items o) (hi : IntsAre items ns) (hlen : items.length ≤ 1000)
    (hne : headV ns ≠ []) (hz : lastD (headV ns) ≠ 0)
    (h : ∀ r s', St w h₀ os gs [(r, ListO (marksV ns 9))] s' → Q (.ret (.ref r)) s') :
    wpAny (model prog w) A (execs bM (eM w L)) Q E s := by
  refine wpAny_execs_cons (wpAny_Assign_Name ?_)
  refine cutE (env := eM w L) (k := 127) S rfl (.inl hl) hi hlen fun le ie ext s1 S1 hle hie hlee => ?_
  refine stL S1 fun s2 S2 => ?_
  dsimp only
  refine wpAny_execs_cons (wpAny_Assign_Name ?_)
  refine cutE (env := eM w L) (k := 0) S2 rfl hle hie hlee fun lh ih ext2 s3 S3 hlh hih hlhe => ?_
  refine stC S3 (c := L + 1) rfl (.tail .head) fun s4 S4 => ?_
  dsimp only
  have hel : Lst h₀ ([(L + 1, CellO (some (.ref lh)))] ++ ext ++ ext2) le ie := by
    rcases hle with h | h
    · exact .inl h
    · refine .inr ?_
      rcases List.mem_append.mp h with h | h
      · exact absurd (congrArg Prod.snd (List.mem_singleton.mp h)).symm cell_ne_list
      · exact List.mem_append_left _ (List.mem_append_right _ h)
  have S4' : St w h₀ os gs ((L, LocO [("ended", .ref le)]) :: ([(L + 1, CellO (some (.ref lh)))] ++ ext ++ ext2)) s4 := S4.weakenHead (P' := LocO [("ended", .ref le)]) fun o h => LocO.sub (kvs' := [("ended", .ref le)]) ⟨rfl, trivial⟩ h
  have hll : Lst h₀ ([(L + 1, CellO (some (.ref lh)))] ++ ext ++ ext2) lh ih := by
    rcases hlh with h | h
    · exact .inl h
    · refine .inr ?_
      rcases List.mem_append.mp h with h | h
      · rcases List.mem_append.mp h with h | h
        · exact absurd (congrArg Prod.snd (List.mem_singleton.mp h)).symm cell_ne_list
        · exact List.mem_append_left _ (List.mem_append_right _ h)
      · exact List.mem_append_right _ h
  have hcl : (L + 1, CellO (some (.ref lh))) ∈ ([(L + 1, CellO (some (.ref lh)))] ++ ext ++ ext2 : Led) := .head _
  generalize ([(L + 1, CellO (some (.ref lh)))] ++ ext ++ ext2 : Led) = ledc at S4' hel hll hcl
  clear S S1 S2 S3 S4 hle hlh
  refine wpAny_execs_cons (asg_comp (h₀ := h₀) (os := os) (cl := [("head", L + 1)]) ?_)
  refine Call_name1 rfl (nmB S4' (v := .type "range") rfl bb_range (callWith_type1 ?_))
  refine Call_name1 rfl (nmB S4' (v := .builtin "len") rfl bb_len (callWith_builtin1 (nmC S4' (c := L + 1) (v := .ref lh) rfl (.tail _ hcl) ?_)))
  have hlh0 := hih.length
  refine len_list ((hll.up (led' := (L, LocO [("ended", .ref le)]) :: ledc) fun p hp => .tail _ hp).is S4') (by rw [List.size_toArray]; omega) ?_
  rw [List.size_toArray]
  refine rng1 (S4'.toks _) (by omega) fun it s5 S5 => ?_
  refine ⟨gs, _, S5, fun C acc s6 _ S6 => ?_⟩
  refine comp_start (fun s => St w h₀ os gs ((C, LocO []) :: (acc, ListO []) :: (it, RangeO 0 ih.length) :: (L, LocO [("ended", .ref le)]) :: ledc) s) S6 (fun E Q s S hq => ?_) fun s6 S6 => ?_
  · obtain ⟨o, ho, rfl⟩ := S.has _ (.tail _ (.tail _ (.head _)))
    exact wpAny_pyIter_rangeiter ho hq
  have hH : headV ns = cutV (0 : Nat) (cutV (127 : Nat) ns) := rfl
  rw [← hH] at hih
  replace hlh0 := hih.length
  have hE : endedV ns = cutV (127 : Nat) ns := rfl
  rw [← hE] at hie
  refine codeAny_compLoop_list (fun m s => ∃ i ys, m = ih.length - i ∧ i ≤ ih.length ∧ IntsAre ys ((sumsV (headV ns)).take i) ∧ ys.length = i ∧
    St w h₀ os gs ((C, LocO []) :: (acc, ListO ys) :: (it, RangeO i (ih.length - i : Nat)) :: (L, LocO [("ended", .ref le)]) :: ledc) s) ?_ ih.length ⟨0, [], rfl, Nat.zero_le _, .nil, rfl, S6⟩
  · rintro m s ⟨i, ys, rfl, hile, hys, hyl, S7⟩
    rcases Nat.lt_or_ge i ih.length with hlt | hge
    · obtain ⟨left, hleft⟩ : ∃ left, ih.length - i = left + 1 := ⟨ih.length - i - 1, by omega⟩
      rw [hleft] at S7
      refine rngNext S7 (.tail (.tail .head)) fun t s8 S8 => ?_
      dsimp only
      refine asN (stL S8 fun s9 S9 => ?_)
      refine Call_name1 rfl (nmB S9 (v := .builtin "sum") rfl bb_sum (callWith_builtin1 ?_))
      refine Subscript_ (nmC S9 (c := L + 1) (v := .ref lh) rfl (.tail _ (.tail _ (.tail _ (.tail _ hcl)))) ?_)
      refine wpAny_Slice (wpAny_pure ?_)
      refine wpAny_BinOp (nmL S9 rfl (wpAny_Constant_int (add_int (wpAny_pure ?_))))
      have S10 := S9.toks (s9.toks + 1 + 1)
      rw [show ((i : Int) + 1) = ((i + 1 : Nat) : Int) by omega]
      refine tailL_ns S10 (hll.up fun p hp => .tail _ (.tail _ (.tail _ (.tail _ hp)))) (fun r s11 S11 => ?_) (by omega)
      refine sumI R.h S11 (S11.isList (.head _)) (hih.take (i + 1)) fun t2 s12 S12 => ?_
      have S13 := S12.tail
      refine apL S13 (.tail .head) (fun s14 S14 => ?_) (by omega)
      refine ⟨ih.length - (i + 1), by omega, i + 1, ys ++ [.int ((headV ns).take (i + 1)).sum t2], rfl, by omega, ?_, by rw [List.length_append, List.length_singleton]; omega, ?_⟩
      · rw [List.take_add_one (l := sumsV (headV ns))]
        have : (sumsV (headV ns))[i]? = some ((headV ns).take (i + 1)).sum := by
          unfold sumsV
          rw [List.getElem?_map, List.getElem?_range (by omega)]; rfl
        rw [this]
        exact IntsAre.append hys (.cons _ _ .nil)
      · have hl2 : ih.length - (i + 1) = left := by omega
        rw [hl2]
        exact S14.weakenHead (P' := LocO []) fun o h => LocO.sub (kvs' := []) trivial h
    · obtain rfl : i = ih.length := by omega
      rw [Nat.sub_self] at S7
      refine rngEnd R.h (St.front (pre := [(C, LocO []), (acc, ListO ys)]) S7) fun s8 S8 => ?_
      dsimp only
      refine ⟨.next, rfl, gs, [], [("ended", .ref le)], (acc, ListO ys) :: ledc, S8.perm (List.Perm.cons _ (List.Perm.swap ..)), fun s9 S9 => ?_⟩
      rw [List.take_of_length_le (by unfold sumsV; rw [List.length_map, List.length_range]; omega)] at hys
      have hsl : ys.length = (headV ns).length := by omega
      have hHpos : 0 < (headV ns).length := List.length_pos_iff.mpr hne
      have hsumlen : (sumsV (headV ns)).length = (headV ns).length := by unfold sumsV; rw [List.length_map, List.length_range]
      exact marks_rest R S9 hel hie hlee hll hih hlhe hys hcl hne hz h
end
end Mine


/-! # M2 -/
namespace Mine
section
variable {prog : Program} {w : World} {A : Around} {E : Value → Shared → Prop} {s : Shared} {h₀ : Base} {os : OsState} {gs : Array GenState} {led led' : Led} {env : Env} {kvs : List (Str × Value)} {R : Result → Shared → Prop}
theorem bind102 {w : World} (a : Value) : bindArgs (fdAt w 102) ⟨[a], []⟩ = pure [((Str.ofString "sizes" : Str), a)] := by kernel_rfl
theorem marks_call {l : Addr} {items : List Value} {ns : List Int} {Q : Value → Shared → Prop} {n : Nat}
    (R : Room A (n + 1)) (S : St w h₀ os gs led s) (hl : Lst h₀ led l items) (hi : IntsAre items ns) (hlen : items.length ≤ 1000) (hne : headV ns ≠ []) (hz : lastD (headV ns) ≠ 0)
    (h : ∀ r s', St w h₀ os gs ((r, ListO (marksV ns 9)) :: led) s' → Q (.ref r) s') :
    wpAny (model prog w) A (call (.ref 102) [.ref l]) Q E s := by
  refine enterC (kvs := [("sizes", .ref l)]) (cs := [("head", s.heap.objs.size + 1)]) S R (f := 102) (o := objAt w 102) (fd := fdAt w 102) (body := bM) rfl rfl rfl rfl (bind102 _) rfl ?_ rfl (by show [Str.ofString "head"].Nodup; decide) ⟨rfl, trivial⟩ fun E' s1 S1 => ?_
  · intro x hx
    obtain rfl := List.mem_singleton.mp hx
    exact .inl rfl
  · refine marks_body (R.deeper _) S1 (hl.obj S) hi hlen hne hz fun r s' S' => ?_
    exact h r s' (S.backWith (led₁ := [(r, ListO (marksV ns 9))]) (led₂ := []) S')
end
end Mine


/-! # P1 -/
namespace Mine

/-! ## joined and split texts, plainly -/
def joinL (m : List Nat) : List (List Nat) → List Nat
  | [] => []
  | [x] => x
  | x :: y :: r => x ++ m ++ joinL m (y :: r)

theorem join_mk (m : List Nat) : ∀ parts : List (List Nat), Txt.join (mkS m) (parts.map mkS) = mkS (joinL m parts) := by
  intro parts
  show Builtin.Str.glued (mkS m) (parts.map mkS) = _
  rw [StrLaws.glued_eq_join]
  induction parts with
  | nil => rfl
  | cons x r ih =>
    cases r with
    | nil => rfl
    | cons y r =>
      show mkS x ++ mkS m ++ Str.join (mkS m) ((y :: r).map mkS) = _
      rw [ih, mkS_append, mkS_append]; rfl

theorem append_free {c : Nat} : ∀ {a b u v : List Nat}, c ∉ a → c ∉ b → a ++ c :: u = b ++ c :: v → a = b ∧ u = v
  | [], [], u, v, _, _, h => ⟨rfl, (List.cons.inj h).2⟩
  | [], y :: b, u, v, _, hb, h => absurd (by rw [(List.cons.inj h).1]; exact .head _) hb
  | x :: a, [], u, v, ha, _, h => absurd (by rw [← (List.cons.inj h).1]; exact .head _) ha
  | x :: a, y :: b, u, v, ha, hb, h => by
    obtain ⟨h1, h2⟩ := List.cons.inj h
    obtain ⟨h3, h4⟩ := append_free (fun h => ha (.tail _ h)) (fun h => hb (.tail _ h)) h2
    exact ⟨by rw [h1, h3], h4⟩

theorem joinL_inj {c : Nat} : ∀ {P R : List (List Nat)}, P ≠ [] → R ≠ [] → (∀ p ∈ P, c ∉ p) → (∀ p ∈ R, c ∉ p) → joinL [c] P = joinL [c] R → P = R
  | [x], [y], _, _, _, _, h => by rw [show x = y from h]
  | [x], y :: z :: r, _, _, hP, _, h => by
    have h' : x = y ++ [c] ++ joinL [c] (z :: r) := h
    exact absurd (by rw [h']; simp) (hP x (.head _))
  | x :: z :: r, [y], _, _, _, hR, h => by
    have h' : x ++ [c] ++ joinL [c] (z :: r) = y := h
    exact absurd (by rw [← h']; simp) (hR y (.head _))
  | x :: z :: r, y :: u :: t, _, _, hP, hR, h => by
    have h' : x ++ [c] ++ joinL [c] (z :: r) = y ++ [c] ++ joinL [c] (u :: t) := h
    rw [List.append_assoc, List.append_assoc] at h'
    obtain ⟨rfl, h2⟩ := append_free (hP x (.head _)) (hR y (.head _)) h'
    rw [joinL_inj (P := z :: r) (R := u :: t) (by simp) (by simp) (fun p hp => hP p (.tail _ hp)) (fun p hp => hR p (.tail _ hp)) h2]

theorem split_mk {c : Nat} {parts : List (List Nat)} (hne : parts ≠ []) (hf : ∀ p ∈ parts, c ∉ p) : Txt.split (mkS (joinL [c] parts)) (mkS [c]) = parts.map mkS := by
  have h1 := StrLaws.join_split (mkS (joinL [c] parts)) (mkS [c])
  have h2 := StrLaws.split_free (mkS (joinL [c] parts)) c
  have hc : (⟨#[c]⟩ : Str) = mkS [c] := rfl
  rw [hc] at h2
  have h3 := split_pos (mkS (joinL [c] parts)) (mkS [c])
  generalize Txt.split (mkS (joinL [c] parts)) (mkS [c]) = P at h1 h2 h3
  have e : P = (P.map fun p => p.cps.toList).map mkS := by
    rw [List.map_map]
    conv => lhs; rw [← List.map_id P]
    apply List.map_congr_left
    intro p _
    exact (mkS_toList p).symm
  rw [e] at h1
  rw [← StrLaws.glued_eq_join] at h1
  have h4 := join_mk [c] (P.map fun p => p.cps.toList)
  rw [show Txt.join (mkS [c]) ((P.map fun p => p.cps.toList).map mkS) = Builtin.Str.glued (mkS [c]) ((P.map fun p => p.cps.toList).map mkS) from rfl, h1] at h4
  have h5 := mkS_inj h4
  have h6 := joinL_inj (c := c) (P := parts) (R := P.map fun p => p.cps.toList) hne (by
    intro q
    have := congrArg List.length q
    rw [List.length_map] at this
    simp only [List.length_nil] at this
    omega) hf (by
    intro p hp
    obtain ⟨q, hq, rfl⟩ := List.mem_map.mp hp
    exact h2 q hq) h5
  rw [e, ← h6]
end Mine


/-! # N1 -/
namespace Mine
def bKind : List Stmt := fBody (stmtAt 6)
noncomputable def eKind (w : World) (L : Addr) : Env := callEnv (fdAt w 35) L 35
def TupO (items : List Value) (o : Obj) : Prop := ∃ n, o = { cls := .type "tuple", data := .seq items.toArray n }
def EDictO (o : Obj) : Prop := o = { cls := .type "dict", data := .dict #[] }

section
variable {prog : Program} {w : World} {A : Around} {E : Value → Shared → Prop} {s : Shared} {h₀ : Base} {os : OsState} {gs : Array GenState} {led led' : Led} {env : Env} {kvs : List (Str × Value)} {R : Result → Shared → Prop}

theorem bind35 {w : World} (a b : Value) : bindArgs (fdAt w 35) ⟨[a, b], []⟩ = pure [((Str.ofString "name" : Str), a), (Str.ofString "x", b)] := by kernel_rfl
theorem kind_call {a : Value} {x : Str} {t : Tok} {Q : Value → Shared → Prop} {n : Nat} (R : Room A (n + 1)) (S : St w h₀ os gs led s)
    (h : ∀ t s', St w h₀ os gs led s' → Q (.str (Str.ofString "") t) s') : wpAny (model prog w) A (call (.ref 35) [a, .str x t]) Q E s := by
  refine enter S R (f := 35) (o := objAt w 35) (fd := fdAt w 35) (body := bKind) rfl rfl rfl rfl (bind35 _ _) (noCell rfl) (locs rfl) fun E' s1 S1 => ?_
  refine wpAny_execs_cons (wpAny_Assign_Name (Call_name1 rfl (nmB S1 (v := .type "type") rfl bb_type (callWith_type1 (nmL S1 rfl ?_)))))
  refine call_type_of (typeIs_str _ _ _) (by decide) (stL S1 fun s2 S2 => ?_)
  refine wpAny_execs_cons (wpAny_If (wpAny_isTrue_Compare1 (nmL S2 rfl (nmB S2 (v := .type "str") rfl bb_str (wpAny_is_self rfl (wpAny_truthy_bool ?_))))))
  rw [if_pos rfl]
  refine wpAny_execs_cons (wpAny_Return_some (wpAny_Constant_str ?_))
  exact h _ _ (S.back (S2.toks _))

/-! ## _c_path -/
def bCp : List Stmt := fBody (stmtAt 7)
theorem bind42 {w : World} (a b c d e : Value) : bindArgs (fdAt w 42) ⟨[a, b, c, d, e], []⟩ = pure [((Str.ofString "name" : Str), a), (Str.ofString "cname", b), (Str.ofString "argname", c), (Str.ofString "args", d), (Str.ofString "kwargs", e)] := by kernel_rfl
theorem cpath_call {a b c : Value} {x : Str} {t : Tok} {T D : Addr} {Q : Value → Shared → Prop} {n : Nat} (R : Room A (n + 2)) (S : St w h₀ os gs led s) (hT : (T, TupO [.str x t]) ∈ led) (hD : (D, EDictO) ∈ led) (hsys : D ≠ sysModules)
    (h : ∀ s', St w h₀ os gs led s' → Q (.str x t) s') : wpAny (model prog w) A (call (.ref 42) [a, b, c, .ref T, .ref D]) Q E s := by
  refine enter S R (f := 42) (o := objAt w 42) (fd := fdAt w 42) (body := bCp) rfl rfl rfl rfl (bind42 _ _ _ _ _) (noCell rfl) (locs rfl) fun E' s1 S1 => ?_
  obtain ⟨oT, hoT, n1, rfl⟩ := S.has _ hT
  obtain ⟨oD, hoD, rfl⟩ := S.has _ hD
  refine wpAny_execs_cons (wpAny_If (wpAny_isTrue_BoolOp (wpAny_allTrue_And_cons ?_)))
  refine wpAny_isTrue_Compare1 (Call_name1 rfl (nmB S1 (v := .builtin "len") rfl bb_len (callWith_builtin1 (nmL S1 rfl ?_))))
  refine len_tuple ⟨_, S1.keep _ _ hoT, rfl, _, rfl⟩ (by simp) (wpAny_Constant_int (eq_int (wpAny_truthy_bool ?_)))
  rw [if_pos (by rfl)]
  have S2 := S1.toks (s1.toks + 1 + 1 + 1)
  refine wpAny_allTrue_And_cons (wpAny_isTrue_Not (isTrue_plain (nmL S2 rfl ?_)))
  have hdict : s1.heap.DictOf (strKind prog w) D [] := ⟨_, #[], 0, S1.keep _ _ hoD, ⟨rfl, rfl, rfl⟩, rfl, (fun e he => by simp at he), .nil, List.nodup_nil⟩
  refine wpAny_truthy_dict (beq_eq_false_iff_ne.mpr hsys) hdict (by simp) ?_
  rw [if_pos (by rfl)]
  refine wpAny_allTrue_And_nil ?_
  rw [if_pos rfl]
  have S3 := S2.toks (s1.toks + 1 + 1 + 1 + 1 + 1)
  refine wpAny_execs_cons (wpAny_Assign_Name (Subscript_ (nmL S3 rfl (wpAny_Constant_int ?_))))
  refine item_tuple (items := #[.str x t]) (j := 0) ⟨_, S1.keep _ _ hoT, rfl, _, rfl⟩ (by decide) (by decide) rfl rfl ?_
  refine stL (S3.toks _) fun s4 S4 => ?_
  refine wpAny_execs_nil ?_
  refine wpAny_execs_cons (wpAny_Assign_Name ?_)
  refine Call_ (nmG S4 (v := .ref 35) rfl (callWith_def (o := objAt w 35) (fd := fdAt w 35) rfl (spliced_more (nmL S4 rfl (spliced_more (nmL S4 rfl (spliced_none ⟨S4.topNow.obj rfl, ?_⟩)))))))
  refine kind_call (R.deeper _) S4 fun t5 s5 S5 => ?_
  refine stL S5 fun s6 S6 => ?_
  refine wpAny_execs_cons (wpAny_If (isTrue_plain (nmL S6 rfl (P.truthy_str (by decide) ?_))))
  rw [if_neg (by decide)]
  refine wpAny_execs_nil ?_
  refine wpAny_execs_cons (wpAny_Return_some (nmL (S6.toks _) rfl ?_))
  exact h _ (S.back (S6.toks _))
end
end Mine


/-! # N2 -/
namespace Mine
section
variable {prog : Program} {w : World} {A : Around} {E : Value → Shared → Prop} {s : Shared} {h₀ : Base} {os : OsState} {gs : Array GenState} {led led' : Led} {env : Env} {kvs : List (Str × Value)} {R : Result → Shared → Prop}

/-! ## _splitroot -/
def bSr : List Stmt := fBody (stmtAt 8)
theorem ofS_slash : (Str.ofString "/" : Str) = mkS [47] := by decide
theorem ofS_empty : (Str.ofString "" : Str) = mkS [] := by decide
theorem ofS_dot : (Str.ofString "." : Str) = mkS [46] := by decide
theorem ofS_dotdot : (Str.ofString ".." : Str) = mkS [46, 46] := by decide

theorem nwTup {vs : List Value} {Q : Value → Shared → Prop} (S : St w h₀ os gs led s) (h : ∀ l s', St w h₀ os gs ((l, TupO vs) :: led) s' → Q (.ref l) s') (hsz : vs.length ≤ 10000) :
    wpAny (model prog w) A (newTuple vs) Q E s :=
  wpAny_newObj_type (h _ _ (S.push (P := TupO vs) (o := { cls := .type "tuple", data := .seq vs.toArray }) ⟨_, rfl⟩)) (by show vs.toArray.size ≤ sizeLine; rw [List.size_toArray, sizeLine_eq]; omega)

theorem bind49 {w : World} (a : Value) : bindArgs (fdAt w 49) ⟨[a], []⟩ = pure [((Str.ofString "p" : Str), a)] := by kernel_rfl
theorem splitroot_call {x : List Nat} {t : Tok} {Q : Value → Shared → Prop} {n : Nat} (R : Room A (n + 1)) (S : St w h₀ os gs led s) (hx : x ≠ []) (h0 : x.head? ≠ some 47) (hlen : x.length ≤ 10000)
    (h : ∀ T t1 t2 s', St w h₀ os gs ((T, TupO [.str (mkS []) t1, .str (mkS []) t2, .str (mkS x) t]) :: led) s' → Q (.ref T) s') : wpAny (model prog w) A (call (.ref 49) [.str (mkS x) t]) Q E s := by
  refine enter S R (f := 49) (o := objAt w 49) (fd := fdAt w 49) (body := bSr) rfl rfl rfl rfl (bind49 _) (noCell rfl) (locs rfl) fun E' s1 S1 => ?_
  refine wpAny_execs_cons (wpAny_Assign_Name (wpAny_Constant_str (stL (S1.toks _) fun s2 S2 => ?_)))
  refine wpAny_execs_cons (wpAny_Assign_Name (wpAny_Constant_str (stL (S2.toks _) fun s3 S3 => ?_)))
  refine wpAny_execs_cons (wpAny_If (wpAny_isTrue_Compare1 (Subscript_ (nmL S3 rfl (wpAny_Slice (wpAny_pure ?_))))))
  rw [evalPart_some]
  refine wpAny_Constant_int (wpAny_pure ?_)
  refine tail_ns (j := 1) (S3.toks _) (fun t4 s4 S4 => ?_) hlen
  refine nmL S4 rfl (ne_str (wpAny_truthy_bool ?_))
  rw [ofS_slash]
  have hne : (mkS (x.take 1) != mkS [47]) = true := by
    rw [bne_iff_ne]
    intro e
    have e := mkS_inj e
    cases x with
    | nil => exact hx rfl
    | cons a r => simp at e; exact h0 (by rw [e]; rfl)
  rw [hne, if_pos rfl]
  refine wpAny_execs_cons (wpAny_Return_some (Tuple_ (spliced_more (nmL S4 rfl (spliced_more (nmL S4 rfl (spliced_more (nmL S4 rfl (spliced_none ?_)))))))))
  refine nwTup S4 (fun T s5 S5 => ?_) (by simp)
  rw [ofS_empty] at S5
  exact h T _ _ s5 (S.backWith (led₁ := [(T, _)]) (led₂ := _) S5)

/-- what text.split(sep) hands back, in every case: a new list of the parts -/
def Splits (x y : Str) : PySem.Spec := fun _ R s => ∀ (l : List (Str × Tok)) (k : Nat), l.map (·.1) = Txt.split x y → R (.ok (.ret (.ref s.heap.objs.size))) { s with toks := k, heap := s.heap.push { cls := .type "list", data := .seq (strValues l).toArray } }
theorem splits {x y : Str} (t u : Tok) (hy : (y.length == 0) = false) (hlen : x.length ≤ 10000) : Meets (Builtin.«str.split» ⟨[.str x t, .str y u], []⟩) (Splits x y) := by
  have whole (e : Txt.split x y = [x]) (A R s) (h : Splits x y A R s) : listOfItself x t A R s := h [(x, t)] s.toks e.symm
  by_cases c : (decide (x.length < y.length) || decide (Builtin.Str.strKind x < Builtin.Str.strKind y)) = true
  · exact (meets_str_split_cannot_occur x y t u c).of_imp fun A R s => whole (by unfold Txt.split; rw [if_pos c]) A R s
  by_cases f : (Builtin.Str.occurrences x y 0 x.length (x.length + 1)).isEmpty = true
  · exact (meets_str_split_not_found x y t u (eq_false_of_ne_true c) hy f).of_imp fun A R s => whole (by unfold Txt.split; rw [if_neg c, if_pos f]) A R s
  have parts : Txt.split x y = Builtin.Str.partsBetween x (Builtin.Str.occurrences x y 0 x.length (x.length + 1)) y.length := by unfold Txt.split; rw [if_neg c, if_neg f]
  have few := StrLaws.occ_length_le x y 0 x.length (x.length + 1)
  refine (meets_str_split_sep x y t u (eq_false_of_ne_true c) hy (eq_false_of_ne_true f) (by rw [sizeLine_eq]; omega) (by rw [length_partsBetween, sizeLine_eq]; omega)).of_imp fun A R s h => ?_
  rw [← parts, strsFrom_eq]
  exact h _ _ (numbered_texts _ _)

/-- text.split(sep) -/
theorem splS {x y : Str} {t u : Tok} {Q : Value → Shared → Prop} (S : St w h₀ os gs led s) (hy : (y.length == 0) = false) (hlen : x.length ≤ 10000)
    (h : ∀ r l s', l.map (·.1) = Txt.split x y → St w h₀ os gs ((r, ListO (strValues l)) :: led) s' → Q (.ref r) s') : wpAny (model prog w) A (call (.builtin "str.split") [.str x t, .str y u]) Q E s :=
  call_meets F.slot_str_split (typeIs_str _ _ _) F.entry_str_split (F.args_str_split_2 _ _) (splits t u hy hlen) fun l k e =>
    h _ l _ e ((S.push (P := ListO (strValues l)) (o := { cls := .type "list", data := .seq (strValues l).toArray }) ⟨_, rfl⟩).toks k)
end
end Mine


/-! # N3 -/
namespace Mine
section
variable {prog : Program} {w : World} {A : Around} {E : Value → Shared → Prop} {s : Shared} {h₀ : Base} {os : OsState} {gs : Array GenState} {led led' : Led} {env : Env} {kvs : List (Str × Value)} {R : Result → Shared → Prop}

/-! ## _normpath -/
def bNp : List Stmt := fBody (stmtAt 9)
noncomputable def eNp (w : World) (L : Addr) : Env := callEnv (fdAt w 56) L 56
structure PathOk (parts : List (List Nat)) : Prop where
  ne : parts ≠ []
  part : ∀ p ∈ parts, p ≠ [] ∧ 47 ∉ p ∧ 46 ∉ p
  len : (joinL [47] parts).length ≤ 1000
  num : parts.length ≤ 1000
  sum : parts.flatten.length ≤ 1000

theorem PathOk.head {parts : List (List Nat)} (P : PathOk parts) : joinL [47] parts ≠ [] ∧ (joinL [47] parts).head? ≠ some 47 := by
  cases parts with
  | nil => exact absurd rfl P.ne
  | cons x r =>
    obtain ⟨h1, h2, _⟩ := P.part x (.head _)
    cases x with
    | nil => exact absurd rfl h1
    | cons a y =>
      cases r with
      | nil => exact ⟨by simp [joinL], by simp [joinL]; rintro rfl; exact h2 (.head _)⟩
      | cons z r => exact ⟨by simp [joinL], by simp [joinL]; rintro rfl; exact h2 (.head _)⟩

theorem getStr {l : List (Str × Tok)} {parts : List (List Nat)} (e : l.map (·.1) = parts.map mkS) {i : Nat} {v : Value} (h : (strValues l)[i]? = some v) : ∃ p t, parts[i]? = some p ∧ v = .str (mkS p) t := by
  unfold strValues at h
  rw [List.getElem?_map] at h
  cases hl : l[i]? with
  | none => rw [hl] at h; cases h
  | some q =>
    rw [hl] at h
    have h' : Value.str q.1 q.2 = v := Option.some.inj h
    have e2 := congrArg (·[i]?) e
    simp only [List.getElem?_map, hl, Option.map_some] at e2
    cases hp : parts[i]? with
    | none => rw [hp] at e2; cases e2
    | some p =>
      rw [hp] at e2
      have e3 : q.1 = mkS p := Option.some.inj e2
      exact ⟨p, q.2, rfl, by rw [← h', e3]⟩
theorem strsOf {l : List (Str × Tok)} {ys : List Str} (e : l.map (·.1) = ys) : StrsAre (strValues l) ys := by
  induction l generalizing ys with
  | nil => subst e; exact .nil
  | cons q r ih => subst e; exact .cons _ _ (ih rfl)

set_option maxHeartbeats 4000000 in
theorem normp_body {L : Addr} {parts : List (List Nat)} {t : Tok} {Q : Flow → Shared → Prop} {n : Nat} (R : Room A (n + 1)) (PK : PathOk parts) (S : St w h₀ os gs [(L, LocO [("path", .str (mkS (joinL [47] parts)) t)])] s)
    (h : ∀ t s' led', St w h₀ os gs led' s' → Q (.ret (.str (mkS (joinL [47] parts)) t)) s') :
    wpAny (model prog w) A (execs bNp (eNp w L)) Q E s := by
  have hpl := PK.len
  have hpsz : ∀ p ∈ parts, p.length ≤ 1000 := fun p hp => Nat.le_trans (by
    obtain ⟨a, b, rfl⟩ := List.append_of_mem hp
    rw [List.flatten_append, List.flatten_cons, List.length_append, List.length_append]
    omega) PK.sum
  refine wpAny_execs_cons (wpAny_Assign_Name (wpAny_Constant_str (stL (S.toks _) fun s2 S2 => ?_)))
  refine wpAny_execs_cons (wpAny_Assign_Name (wpAny_Constant_str (stL (S2.toks _) fun s3 S3 => ?_)))
  refine wpAny_execs_cons (wpAny_Assign_Name (wpAny_Constant_str (stL (S3.toks _) fun s4 S4 => ?_)))
  refine wpAny_execs_cons (wpAny_If (wpAny_isTrue_Not (isTrue_plain (nmL S4 rfl (PySem.P.truthy_str (by rw [mkS_length]; omega) ?_)))))
  have hne : (((mkS (joinL [47] parts)).length : Int) != 0) = true := by
    rw [mkS_length, bne_iff_ne]
    have := List.length_pos_iff.mpr PK.head.1
    omega
  rw [hne, if_neg (by simp)]
  refine wpAny_execs_nil ?_
  dsimp only
  have S5 := S4.toks (s4.toks + 1 + 1)
  refine wpAny_execs_cons (Assign_Tuple ?_)
  refine Call_ (nmG S5 (v := .ref 49) rfl (callWith_def (o := objAt w 49) (fd := fdAt w 49) rfl (spliced_more (nmL S5 rfl (spliced_none ⟨S5.topNow.obj rfl, ?_⟩)))))
  refine splitroot_call R S5 PK.head.1 PK.head.2 (by omega) fun T t1 t2 s6 S6 => ?_
  obtain ⟨oT, hoT, n1, rfl⟩ := S6.has _ (.head _)
  refine wpAny_assign_Tuple (items := #[.str (mkS []) t1, .str (mkS []) t2, .str (mkS (joinL [47] parts)) t]) R.h ⟨_, hoT, rfl, _, rfl⟩ rfl rfl fun h7 hx7 => ?_
  have S7 := S6.tail.grow (s' := { s6 with heap := h7 }) (fun b o e => hx7 b o (Nat.ne_of_lt (Heap.lt_size e)) e) rfl rfl
  show wpAny _ A (do holding _ (assign (.Name "_" _) _ _); do holding _ (assign (.Name "initial_slashes" _) _ _); do holding _ (assign (.Name "path" _) _ _); pure ()) _ _ _
  refine wpAny_bind (wpAny_holding (asN (stL S7 fun s8 S8 => ?_)))
  refine wpAny_bind (wpAny_holding (asN (stL S8 fun s9 S9 => ?_)))
  refine wpAny_bind (wpAny_holding (asN (stL S9 fun s10 S10 => wpAny_pure ?_)))
  dsimp only
  refine wpAny_execs_cons (wpAny_Assign_Name ?_)
  refine Call_method1 rfl rfl rfl (nmL S10 rfl ⟨"str", "str.split", F.plainAttrs_str, F.slot_str_split, F.type_str_split, typeIs_str _ _ _, (fun _ e => nomatch e), ?_⟩)
  refine Calls.callWith_builtin rfl (Calls.evalArgs_plain (Calls.spliced_cons (nmL S10 rfl (Calls.spliced_nil ?_))))
  refine splS S10 (by decide) (by rw [mkS_length]; omega) fun cl l s11 hl S11 => ?_
  rw [ofS_slash, split_mk PK.ne fun p hp => (PK.part p hp).2.1] at hl
  refine stL S11.swap fun s12 S12 => ?_
  dsimp only
  refine wpAny_execs_cons (wpAny_Assign_Name (List_ (spliced_none ?_)))
  refine nwList S12 (fun nl s13 _ S13 => ?_) (by simp)
  refine stL S13.swap fun s14 S14 => ?_
  dsimp only
  have hll : (strValues l).length = parts.length := by
    unfold strValues
    rw [List.length_map]
    have := congrArg List.length hl
    simpa using this
  have hnum := PK.num
  have S15 : St w h₀ os gs ((L, LocO [("sep", .str (mkS [47]) s.toks), ("dot", .str (mkS [46]) s2.toks), ("dotdot", .str (mkS [46, 46]) s3.toks), ("initial_slashes", .str (mkS []) t2), ("comps", .ref cl), ("new_comps", .ref nl)]) :: (nl, ListO []) :: (cl, ListO (strValues l)) :: []) s14 :=
    S14.weakenHead (P' := LocO [("sep", .str (mkS [47]) s.toks), ("dot", .str (mkS [46]) s2.toks), ("dotdot", .str (mkS [46, 46]) s3.toks), ("initial_slashes", .str (mkS []) t2), ("comps", .ref cl), ("new_comps", .ref nl)]) fun o h => LocO.sub (kvs' := [("sep", .str (mkS [47]) s.toks), ("dot", .str (mkS [46]) s2.toks), ("dotdot", .str (mkS [46, 46]) s3.toks), ("initial_slashes", .str (mkS []) t2), ("comps", .ref cl), ("new_comps", .ref nl)]) ⟨by rw [← ofS_slash]; rfl, by rw [← ofS_dot]; rfl, by rw [← ofS_dotdot]; rfl, rfl, rfl, rfl, trivial⟩ h
  clear S S2 S3 S4 S5 S6 S7 S8 S9 S10 S11 S12 S13 S14
  generalize s.toks = a1 at S15
  generalize s2.toks = a2 at S15
  generalize s3.toks = a3 at S15
  refine wpAny_execs_cons (wpAny_For (nmL S15 rfl (wpAny_pyIter_list (S15.isList (.tail _ (.tail _ (.head _)))) ?_)))
  have S16 := S15.push (P := IterO cl 0) (o := { cls := .type "list_iterator", data := .fields #[.ref cl, .int 0 0] }) ⟨rfl, rfl⟩
  generalize s14.heap.objs.size = it at S16
  refine codeAny_forLoop (fun m s => ∃ i, m = parts.length - i ∧ i ≤ parts.length ∧ St w h₀ os gs ((L, LocO [("sep", .str (mkS [47]) a1), ("dot", .str (mkS [46]) a2), ("dotdot", .str (mkS [46, 46]) a3), ("initial_slashes", .str (mkS []) t2), ("comps", .ref cl), ("new_comps", .ref nl)]) :: (nl, ListO ((strValues l).take i)) :: (cl, ListO (strValues l)) :: (it, IterO cl i) :: []) s) ?_ parts.length ⟨0, rfl, Nat.zero_le _, S16.perm ?_⟩
  · rintro m s ⟨i, rfl, hi, S17⟩
    cases hx : (strValues l)[i]? with
    | none =>
      refine wpAny_pyNext_list_end R.h (S17.isIter (.tail _ (.tail _ (.tail _ (.head _))))) (S17.isList (.tail _ (.tail _ (.head _)))) (by simpa using hx) fun h' hx' => ?_
      dsimp only
      have hge : parts.length ≤ i := by rw [← hll]; exact List.getElem?_eq_none_iff.mp hx
      rw [List.take_of_length_le (by omega)] at S17
      have S18 := S17.lose (s' := { s with heap := h' }) (led' := [(L, LocO [("sep", .str (mkS [47]) a1), ("dot", .str (mkS [46]) a2), ("dotdot", .str (mkS [46, 46]) a3), ("initial_slashes", .str (mkS []) t2), ("comps", .ref cl), ("new_comps", .ref nl)]), (nl, ListO (strValues l))]) (.tail _ (.tail _ (.tail _ (.head _)))) hx' (fun p hp => by
        have nd : [L, nl, cl, it].Nodup := S17.nodup
        simp only [List.nodup_cons, List.mem_cons, List.not_mem_nil, or_false, not_or] at nd
        simp only [List.mem_cons, List.not_mem_nil, or_false] at hp
        rcases hp with rfl | rfl
        · exact ⟨.head _, nd.1.2.2⟩
        · exact ⟨.tail _ (.head _), nd.2.1.2⟩) (by
        have nd : [L, nl, cl, it].Nodup := S17.nodup
        show [L, nl].Nodup
        simp only [List.nodup_cons, List.mem_cons, List.not_mem_nil, or_false, not_or, not_false_eq_true, List.nodup_nil, and_true] at nd ⊢
        exact nd.1.1) rfl rfl
      refine wpAny_execs_nil ?_
      dsimp only
      refine wpAny_execs_cons (wpAny_Assign_Name (nmL S18 rfl (stL S18 fun s19 S19 => ?_)))
      refine wpAny_execs_cons (wpAny_Assign_Name (wpAny_BinOp (nmL S19 rfl ?_)))
      refine Call_method1 rfl rfl rfl (nmL S19 rfl ⟨"str", "str.join", F.plainAttrs_str, F.slot_str_join, F.type_str_join, typeIs_str _ _ _, (fun _ e => nomatch e), ?_⟩)
      refine Calls.callWith_builtin rfl (Calls.evalArgs_plain (Calls.spliced_cons (nmL S19 rfl (Calls.spliced_nil ?_))))
      refine join_list (S19.isList (.tail _ (.head _))) (ys := parts.map mkS) (strsOf hl) ?_ fun t20 k20 => ?_
      · rw [sum_map_len, List.length_map, mkS_length]
        have := PK.sum
        have hq : ([47] : List Nat).length = 1 := rfl
        rw [hq]; omega
      rw [join_mk]
      have S20 := S19.toks k20
      refine add_str (fun t21 k21 => ?_) (by rw [mkS_length, mkS_length, sizeLine_eq]; simp; omega)
      rw [mkS_append, List.nil_append]
      refine stL (S20.toks k21) fun s22 S22 => ?_
      refine wpAny_execs_cons (wpAny_Return_some (wpAny_Or2 (nmL S22 rfl (PySem.P.truthy_str (by rw [mkS_length]; omega) ?_))))
      rw [hne, if_pos rfl]
      exact h t21 _ _ (S22.toks _)
    | some v =>
      obtain ⟨p, tp, hp, rfl⟩ := getStr hl hx
      obtain ⟨hp1, hp2, hp3⟩ := PK.part p (List.mem_of_getElem? hp)
      have hlt : i < parts.length := (List.getElem?_eq_some_iff.mp hp).1
      refine wpAny_pyNext_list_item (S17.isIter (.tail _ (.tail _ (.tail _ (.head _))))) (S17.isList (.tail _ (.tail _ (.head _)))) (by simpa using hx) fun h' hit' hs' => ?_
      dsimp only
      have S18 := S17.put (s' := { s with heap := h' }) (P' := IterO cl (i + 1)) (.tail (.tail (.tail .head))) hs'.extBut hit' rfl rfl
      refine asN (stL S18 fun s19 S19 => ?_)
      refine wpAny_execs_cons (wpAny_If (wpAny_isTrue_BoolOp (wpAny_allTrue_Or_cons (wpAny_isTrue_Not (isTrue_plain (nmL S19 rfl (PySem.P.truthy_str (by rw [mkS_length]; have := hpsz p (List.mem_of_getElem? hp); omega) ?_)))))))
      have hpne : (((mkS p).length : Int) != 0) = true := by
        rw [mkS_length, bne_iff_ne]
        have := List.length_pos_iff.mpr hp1
        omega
      rw [hpne, if_neg (by simp)]
      have S20 := S19.toks (s19.toks + 1 + 1)
      refine wpAny_allTrue_Or_cons (wpAny_isTrue_Compare1 (nmL S20 rfl (nmL S20 rfl (eq_str (wpAny_truthy_bool ?_)))))
      have hd1 : (mkS p == mkS [46]) = false := by
        rw [beq_eq_false_iff_ne]
        intro e
        rw [mkS_inj e] at hp3
        exact hp3 (.head _)
      rw [hd1, if_neg (by simp)]
      refine wpAny_allTrue_Or_nil ?_
      rw [if_neg (by simp)]
      refine wpAny_execs_nil ?_
      dsimp only
      refine wpAny_execs_cons (wpAny_If (wpAny_isTrue_BoolOp (wpAny_allTrue_Or_cons (wpAny_isTrue_Compare1 (nmL S20 rfl (nmL S20 rfl (ne_str (wpAny_truthy_bool ?_))))))))
      have hd2 : (mkS p != mkS [46, 46]) = true := by
        rw [bne_iff_ne]
        intro e
        rw [mkS_inj e] at hp3
        exact hp3 (.head _)
      rw [hd2, if_pos rfl, if_pos rfl]
      refine wpAny_execs_cons (wpAny_Expr (evAppend (nmL S20 rfl ⟨nl, _, rfl, S20.plainL (.tail _ (.head _)), nmL S20 rfl ?_⟩)))
      refine apL S20 (.tail .head) (fun s21 S21 => ?_) (by rw [List.length_take]; omega)
      refine wpAny_execs_nil ?_
      dsimp only
      refine wpAny_execs_nil ?_
      dsimp only
      refine ⟨parts.length - (i + 1), by omega, i + 1, rfl, by omega, ?_⟩
      have e : (strValues l).take i ++ [.str (mkS p) tp] = (strValues l).take (i + 1) := by rw [List.take_add_one, hx]; rfl
      rw [e] at S21
      exact S21.weakenHead (P' := LocO [("sep", .str (mkS [47]) a1), ("dot", .str (mkS [46]) a2), ("dotdot", .str (mkS [46, 46]) a3), ("initial_slashes", .str (mkS []) t2), ("comps", .ref cl), ("new_comps", .ref nl)]) fun o h => LocO.sub (kvs' := [("sep", .str (mkS [47]) a1), ("dot", .str (mkS [46]) a2), ("dotdot", .str (mkS [46, 46]) a3), ("initial_slashes", .str (mkS []) t2), ("comps", .ref cl), ("new_comps", .ref nl)]) ⟨rfl, rfl, rfl, rfl, rfl, rfl, trivial⟩ h
  · exact (List.perm_append_comm (l₁ := [(it, IterO cl 0)]) (l₂ := [(L, LocO [("sep", .str (mkS [47]) a1), ("dot", .str (mkS [46]) a2), ("dotdot", .str (mkS [46, 46]) a3), ("initial_slashes", .str (mkS []) t2), ("comps", .ref cl), ("new_comps", .ref nl)]), (nl, ListO []), (cl, ListO (strValues l))]))

theorem bind56 {w : World} (a : Value) : bindArgs (fdAt w 56) ⟨[a], []⟩ = pure [((Str.ofString "path" : Str), a)] := by kernel_rfl
theorem normp_call {parts : List (List Nat)} {t : Tok} {Q : Value → Shared → Prop} {n : Nat} (R : Room A (n + 2)) (PK : PathOk parts) (S : St w h₀ os gs led s)
    (h : ∀ t s', St w h₀ os gs led s' → Q (.str (mkS (joinL [47] parts)) t) s') : wpAny (model prog w) A (call (.ref 56) [.str (mkS (joinL [47] parts)) t]) Q E s := by
  refine enter S R (f := 56) (o := objAt w 56) (fd := fdAt w 56) (body := bNp) rfl rfl rfl rfl (bind56 _) (noCell rfl) (locs rfl) fun E' s1 S1 => ?_
  exact normp_body (R.deeper _) PK S1 fun t s' led' S' => h t s' (S.back S')

/-! ## normpath -/
def bNn : List Stmt := fBody (stmtAt 10)
theorem bind63 {w : World} (v : Value) : bindArgs (fdAt w 63) ⟨[v], []⟩ = (newTuple [v] >>= fun t => newDict >>= fun d => pure [((Str.ofString "args" : Str), t), (Str.ofString "kwargs", d)]) := by kernel_rfl
theorem normpath_call {parts : List (List Nat)} {t : Tok} {Q : Value → Shared → Prop} {n : Nat} (R : Room A (n + 4)) (PK : PathOk parts) (S : St w h₀ os gs led s)
    (h : ∀ t s', St w h₀ os gs led s' → Q (.str (mkS (joinL [47] parts)) t) s') : wpAny (model prog w) A (call (.ref 63) [.str (mkS (joinL [47] parts)) t]) Q E s := by
  have T := S.topNow
  refine wpAny_call (codeAny_call_function (fd := fdAt w 63) (body := bNn) R.dep (T.obj (a := 63) rfl) rfl rfl rfl rfl (codeRec_of T.K (cd := .ref 62) (q := "normpath") rfl) ?_)
  rw [bind63]
  have S0 : St w s.heap.get? os gs [] s := ⟨T, fun b o e => e, (fun p hp => nomatch hp), (fun p hp => nomatch hp), List.nodup_nil, S.os, S.gens⟩
  refine wpAny_bind (nwTup S0 (fun tl s1 S1 => ?_) (by simp))
  have h112 : 112 < s1.heap.objs.size := Heap.lt_size (S1.topNow.obj (a := 112) (o := objAt w 112) rfl)
  refine wpAny_bind (wpAny_newObj_type ?_ (by size_fits))
  have S2 := S1.push (P := EDictO) (o := { cls := .type "dict", data := .dict #[] }) rfl
  have hsys : s1.heap.objs.size ≠ sysModules := by
    intro e; rw [e] at h112; exact absurd h112 (by decide)
  generalize s1.heap.objs.size = dl at S2 hsys
  refine wpAny_pure ?_
  refine wpAny_newFunctionEnv (noCell rfl) (locs rfl) fun h' hn hs => ?_
  have S3 := S2.push (P := fun _ => True) (o := { cls := .type "frame", data := .dict #[] }) trivial
  have S4 := S3.put (P' := LocO [("kwargs", .ref dl), ("args", .ref tl)]) (s' := { s1 with heap := h', toks := s1.toks + 2 }) .head hs.extBut (by
    obtain ⟨o, es, ep, h1, h2, h3, h4⟩ := hn
    exact ⟨o, h1, _, ⟨es, ep, h2, h3, h4⟩, fun x v e => e⟩) rfl rfl
  refine ⟨S4.topNow.noLimit, codeAny_func ?_⟩
  refine wpAny_execs_cons (wpAny_Return_some ?_)
  refine Call_ (nmG S4 (v := .ref 56) rfl (callWith_def (o := objAt w 56) (fd := fdAt w 56) rfl (spliced_more ?_)))
  refine Call_ (nmG S4 (v := .ref 42) rfl (callWith_def (o := objAt w 42) (fd := fdAt w 42) rfl (spliced_more (wpAny_Constant_str ?_))))
  refine spliced_more (wpAny_Constant_str (spliced_more (wpAny_Constant_str ?_)))
  have S5 := S4.toks (s1.toks + 2 + 1 + 1 + 1)
  refine spliced_more (nmL S5 rfl (spliced_more (nmL S5 rfl (spliced_none ⟨S5.topNow.obj rfl, ?_⟩))))
  refine cpath_call (R.deeper _) S5 (.tail _ (.tail _ (.head _))) (.tail _ (.head _)) hsys fun s6 S6 => ?_
  refine spliced_none ⟨S6.topNow.obj rfl, ?_⟩
  refine normp_call (n := n + 1) (R.deeper _) PK S6 fun t7 s7 S7 => ?_
  exact h t7 s7 (S.back S7)
end
end Mine


/-! # I1 -/
namespace Mine
def Is (o' : Obj) (o : Obj) : Prop := o = o'
section
variable {prog : Program} {w : World} {A : Around} {E : Value → Shared → Prop} {s : Shared} {h₀ : Base} {os : OsState} {gs : Array GenState} {led led' : Led} {env : Env} {kvs : List (Str × Value)}

/-! ## instances -/
theorem St.inst {x dx C : Addr} {es : List DictEntry} {n : Nat} (S : St w h₀ os gs led s) (hx : (x, Is (instObj C dx)) ∈ led) (hd : (dx, Is (dictOf es n)) ∈ led) : InstAt s.heap x (instObj C dx) C (some (dictOf es n)) := by
  obtain ⟨o, h1, rfl⟩ := S.has _ hx
  obtain ⟨o', h2, rfl⟩ := S.has _ hd
  exact ⟨h1, rfl, rfl, h2⟩
theorem St.KIn (S : St w h₀ os gs led s) : (KH w).In s.heap := S.topNow.K

theorem noRef {name : Str} {es : List DictEntry} (h : (getL name es).isSome = true) : aRefKeyMayBeTheName name es.toArray = false := by
  rw [aRefKeyMayBeTheName_at, List.any_toArray, List.any_toArray]
  by_cases k : es.any (·.key.isStr name) = true
  · rw [k]; rfl
  · have no : es.find? (·.key.isStr name) = none := List.find?_eq_none.mpr fun x hx hs => k (List.any_eq_true.mpr ⟨x, hx, hs⟩)
    unfold getL at h
    rw [no] at h
    cases r : es.any (·.refKey) with
    | false => exact Bool.and_false _
    | true => rw [r] at h; exact absurd h (by simp)

/-- a name is stored in a dict of the ledger -/
theorem putIn {dx : Addr} {es : List DictEntry} {n : Nat} {name : Str} {v : Value} {Q : Unit → Shared → Prop} (S : St w h₀ os gs led s) (hl : (getL name es).isSome = true)
    (U : Put dx (Is (dictOf (putL name (PyData.keyHash w.params name) (.str name s.toks) v es) (putN name es n))) (Is (dictOf es n)) led led')
    (h : ∀ s', St w h₀ os gs led' s' → s'.heap.get? dx = some (dictOf (putL name (PyData.keyHash w.params name) (.str name s.toks) v es) (putN name es n)) → Q () s') :
    wpAny (model prog w) A (nsSet dx name v) Q E s := by
  obtain ⟨_, old, rfl⟩ := S.has _ U.mem
  have eq := putName_dict name (PyData.keyHash w.params name) (.str name s.toks) v es n
  have new := Heap.get?_update_self (Obj.putName name (PyData.keyHash w.params name) (.str name s.toks) v) old (by rw [eq]; rfl)
  rw [eq] at new
  have stored := h { s with heap := s.heap.update dx (Obj.putName name (PyData.keyHash w.params name) (.str name s.toks) v), toks := s.toks + 1 } (S.put U (Heap.SameBut.update ..).extBut ⟨_, new, rfl⟩ rfl rfl) new
  unfold nsSet
  refine wpAny_bind <| wpAny_bind <| wpAny_askSetting <| wpAny_pure <| wpAny_bind <| wpAny_mkText <| wpAny_bind <| wpAny_loadPart old ?_
  show wpAny _ _ (if aRefKeyMayBeTheName name es.toArray = true then _ else _) _ _ _
  rw [noRef hl]
  exact wpAny_updatePart old stored

theorem store_own {x dx C : Addr} {es : List DictEntry} {n : Nat} {name : Str} {tk : Tok} {v : Value} {R : Result → Shared → Prop} (S : St w h₀ os gs led s) (hx : (x, Is (instObj C dx)) ∈ led)
    (U : Put dx (Is (dictOf (putL name (PyData.keyHash w.params name) (.str name s.toks) v es) (putN name es n))) (Is (dictOf es n)) led led')
    (hp : plainOver (KH w) C = true) (ht : takerIn (KH w) C name = some none) (hh : hasDictIn (KH w) C = true) (hl : (getL name es).isSome = true)
    (hz : (putL name (PyData.keyHash w.params name) (.str name s.toks) v es).length ≤ 1000) (h : ∀ s', St w h₀ os gs led' s' → R (.ok (.ret .none)) s') :
    codeAny (model prog w) A (.call (.builtin "object.__setattr__") ⟨[.ref x, .str name tk, v], []⟩) R s := by
  obtain ⟨cd, hc, own⟩ := any_some hh
  have at_ := S.inst hx U.mem
  refine osa_open S.KIn at_ hp ht fun _ => wpAny_bind <| wpAny_pure <| wpAny_bind <| wpAny_bind <| wpAny_loadPart at_.at_ <| wpAny_bind <| (looks_clsIn S.KIn hc).here ?_
  rw [own]
  refine wpAny_pure (a := some dx) <| wpAny_bind <| wpAny_pure <| wpAny_bind <| putIn S hl U fun s' S' new => ?_
  exact wpAny_bind <| wpAny_lookBehind new (pastItsLine_dict (by rw [List.size_toArray, sizeLine_eq]; omega)) <| wpAny_pure <| h s' S'

theorem setA {x dx C : Addr} {es : List DictEntry} {n : Nat} {name : Str} {v : Value} {Q : Unit → Shared → Prop} {led' : Tok → Led} (S : St w h₀ os gs led s) (hx : (x, Is (instObj C dx)) ∈ led)
    (U : ∀ tk, Put dx (Is (dictOf (putL name (PyData.keyHash w.params name) (.str name tk) v es) (putN name es n))) (Is (dictOf es n)) led (led' tk))
    (hs : findIn (KH w) (.ref C) "__setattr__" = some (some (.builtin "object.__setattr__")))
    (hp : plainOver (KH w) C = true) (ht : takerIn (KH w) C name = some none) (hh : hasDictIn (KH w) C = true) (hl : (getL name es).isSome = true) (hz : ∀ tk, (putL name (PyData.keyHash w.params name) (.str name tk) v es).length ≤ 1000)
    (h : ∀ tk s', St w h₀ os gs (led' tk) s' → Q () s') :
    wpAny (model prog w) A (setAttr (.ref x) name v) Q E s :=
  set_plain S.KIn (S.inst hx (U 0).mem) hs (store_own (S.toks _) hx (U _) hp ht hh hl (hz _) fun s' S' => h _ s' S')

theorem getA {x dx C : Addr} {es : List DictEntry} {n : Nat} {name : Str} {v : Value} {attr : Option Value} {expr : Bool} {Q : Value → Shared → Prop} (S : St w h₀ os gs led s) (hx : (x, Is (instObj C dx)) ∈ led) (hd : (dx, Is (dictOf es n)) ∈ led)
    (hg : plainGet (KH w) C name = true) (hh : hasDictIn (KH w) C = true) (ha : findIn (KH w) (.ref C) name = some attr) (hn : noGet (KH w) attr = true) (hl : getL name es = some (some v)) (hv : handedIn v = true)
    (h : ∀ s', St w h₀ os gs led s' → Q v s') : wpAny (model prog w) A (getAttr (.ref x) name expr) Q E s :=
  get_value S.KIn (S.inst hx hd) (plainGet_of hg).1 (findObj_own hh ha hn hl) hv (h _ (S.toks _))
end
end Mine


/-! # I2 -/
namespace Mine
/-! ## facts of the tables -/
theorem owner_seti : Manifest.owners.lookup (String.ofList ['r', 'o', 't', 'a', 'r', 'e', 't', 'i', '_', 't', 'e', 's'].reverse) = some Manifest.sig_set_iterator := by kernel_rfl
theorem slot_seti_next : Slot "set_iterator" "__next__" "set_iterator.__next__" :=
  .of (owner := "set_iterator") (n := "__next__") (by rw [typeLookup_type, builtinLookup_eq_fast]; kernel_rfl) (by decide +kernel) (by decide +kernel) (by decide +kernel)
    (by first | exact .inl (by decide +kernel) | exact .inr (by decide +kernel)) (by rw [isSubtype_type]; kernel_rfl)
theorem entry_seti_next : entryFor table "set_iterator.__next__" = some Builtin.«set_iterator.__next__» := entryFor_of_tree (by kernel_rfl)
theorem args_seti_next (a : Value) : argsOk "set_iterator.__next__" ⟨[a], []⟩ := by
  unfold argsOk; rw [signature?_of (id := "set_iterator.__next__") (n := ['_', '_', 't', 'x', 'e', 'n', '_', '_']) (o := ['r', 'o', 't', 'a', 'r', 'e', 't', 'i', '_', 't', 'e', 's']) (by kernel_rfl) owner_seti]; kernel_rfl
theorem entry_set_iter : entryFor table "set.__iter__" = some Builtin.«frozenset.__iter__» :=
  entryFor_alias (id' := "frozenset.__iter__") (by kernel_rfl) (by first | rfl | decide +kernel | (unfold String.splitOn; simp +decide [String.splitOnAux])) (by decide +kernel) (by kernel_rfl)

/-! ## sets of one str -/
def Set1 (w : World) (x : Str) (o : Obj) : Prop := ∃ t ep tb, o = { cls := .type "set", data := .set #[(hashStr w x, .str x t)] ep tb } ∧ tb.fits 1 = true ∧ tb.led = !(w.params.followText "set-order")

theorem layNew_one (led : Bool) (h : Int) (x : Value) : ∃ tb d g, layNew (.fresh 0 0 led) #[] h x = (#[(h, x)], tb, d, g) ∧ tb.fits 1 = true ∧ tb.led = led ∧ tb.tooFull = false := by
  unfold layNew
  split
  · rename_i slot wd he
    have h4 : (SetTable.insertAt (#[] : Array (Int × Value)) ((SetTable.fresh 0 0 led).put slot).2 (h, x)).size = 1 := by simp [SetTable.insertAt]
    have h5 : SetTable.insertAt (#[] : Array (Int × Value)) ((SetTable.fresh 0 0 led).put slot).2 (h, x) = #[(h, x)] := by simp [SetTable.insertAt]
    refine ⟨((SetTable.fresh 0 0 led).put slot).1.orStandIn 1, wd, _, by dsimp only; rw [h4, h5], ?_⟩
    refine ⟨SetTable.orStandIn_fits _ _, ?_, ?_⟩
    · unfold SetTable.orStandIn
      split <;> rfl
    · unfold SetTable.orStandIn
      split
      · rename_i hf
        simp only [SetTable.fits, Bool.and_eq_true, beq_iff_eq] at hf
        have h1 := hf.1
        have h2 : (((SetTable.fresh 0 0 led).put slot).1.dummies).size = 0 := by simp [SetTable.put, SetTable.fresh, SetTable.has]
        have h3 : (((SetTable.fresh 0 0 led).put slot).1.mask) = 7 := rfl
        simp only [SetTable.tooFull, SetTable.fill, h1, h2, h3]; rfl
      · simp [SetTable.tooFull, SetTable.fill, SetTable.standIn]
  · exact ⟨_, _, _, rfl, SetTable.standIn_fits _ _, rfl, rfl⟩

section
variable {prog : Program} {w : World} {A : Around} {E : Value → Shared → Prop} {s : Shared} {h₀ : Base} {os : OsState} {gs : Array GenState} {led led' : Led} {env : Env} {kvs : List (Str × Value)}

def fresh1 (w : World) : Obj := { cls := .type "set", dict := none, data := .set #[] 0 (.fresh 0 0 (!(w.params.followText "set-order"))) }

theorem Set1.of {h : Heap} {a : Addr} {o : Obj} {x : Str} (h1 : h.get? a = some o) (h2 : Set1 w x o) : h.SetOf (strKind prog w) a (fun k => decide (k = x)) 1 := by
  obtain ⟨t, ep, tb, rfl, hf, _⟩ := h2
  refine ⟨_, _, _, _, h1, ⟨rfl, rfl, rfl⟩, rfl, ?_, ?_, by simp [scanBound], hf, rfl⟩
  · intro e he
    simp only [List.mem_singleton] at he
    subst he
    exact ⟨⟨x, strKind_is _ _ _ _, rfl⟩, rfl⟩
  · intro k
    simp only [decide_eq_true_eq, List.mem_singleton, exists_eq_left]
    constructor
    · rintro rfl; exact strKind_is _ _ _ _
    · intro h; exact (strKind prog w).inj _ _ _ h (strKind_is _ _ _ _)

/-! ## set([x]): made, then filled -/
theorem newSet1 {Q : Value → Shared → Prop} (h : Q (.ref s.heap.objs.size) { s with heap := s.heap.push (fresh1 w) }) : wpAny (model prog w) A (newSet (.type "set")) Q E s := by
  unfold newSet setsByText
  exact wpAny_bind <| wpAny_bind <| wpAny_askSetting <| wpAny_pure <| wpAny_newObj_type h
theorem set_new_eq (a : Value) : Builtin.«set.__new__» ⟨[.type "set", a], []⟩ = (newSet (.type "set") >>= fun v => ret v) := by
  unfold Builtin.«set.__new__» Builtin.Frozenset.newClass
  dsimp only
  rw [sub_set_self]
  rfl
theorem newCalled {a : Value} {Q : Value → Shared → Prop} (h : Q (.ref s.heap.objs.size) { s with heap := s.heap.push (fresh1 w) }) : wpAny (model prog w) A (call (.builtin "set.__new__") [.type "set", a]) Q E s :=
  wpAny_call <| codeAny_call_builtin F.plain_set_new F.entry_set_new <| wpAny_of_eq (F.newCall_set_1 a) <| by
    rw [set_new_eq]
    exact wpAny_bind <| newSet1 <| wpAny_pure h

theorem typeCalled {l : Addr} {Q : Value → Shared → Prop} 
    (h : wpAny (model prog w) A.in1 (call (.builtin "set.__init__") [.ref s.heap.objs.size, .ref l]) (fun r s' => r = .none ∧ Q (.ref s.heap.objs.size) s') E { s with heap := s.heap.push (fresh1 w) }) :
    wpAny (model prog w) A (call (.type "set") [.ref l]) Q E s := by
  refine wpAny_call <| codeAny_of_tree <| wpAny_pure ⟨Code.quiet_builtin _ (by decide +kernel), codeAny_builtin F.entry_type_call ?_⟩
  rw [Around.under_plain (weight_type_call_type "set" [.ref l] []) rfl]
  have made : Shared.TypeIs { s with heap := s.heap.push (fresh1 w) } (.ref s.heap.objs.size) "set" := ⟨_, Heap.get?_push_size _ rfl, rfl⟩
  obtain ⟨_, _, mro⟩ := F.called_set.mro
  unfold Builtin.«type.__call__»
  dsimp only
  rw [F.called_set.notType, if_neg Bool.false_ne_true]
  rw [F.called_set.canCreate, if_neg Bool.false_ne_true]
  refine wpAny_bind <| wpAny_of_eq (F.typeCall_set_1 _) ?_
  refine wpAny_bind <| wpAny_of_eq mro ?_
  rw [show List.isEmpty (_ :: _) = false from rfl, if_neg Bool.false_ne_true]
  refine wpAny_bind <| wpAny_of_eq F.called_set.made <| wpAny_bind <| wpAny_pure <| wpAny_bind <| wpAny_holding <| newCalled <| wpAny_bind <| wpAny_isInstance made F.called_set.sub ?_
  rw [show (!true) = false from rfl, if_neg Bool.false_ne_true]
  refine wpAny_bind <| wpAny_holding <| wpAny_callSpecial?_slot made F.called_set.init <| wpAny_mono h (fun r s' x => ?_) fun _ _ x => x
  obtain ⟨rfl, q⟩ := x
  exact wpAny_pure q

theorem nameCut {a : Addr} {Q : String → Shared → Prop} (t : s.TypeIs (.ref a) "set") (h : ∀ n, Q n s) : wpAny (model prog w) A (typeNameOfCut 200 (.ref a)) Q E s := by
  unfold typeNameOfCut shownTypeOf
  refine wpAny_bind <| wpAny_bind <| wpAny_typeOf t ?_
  rw [if_neg (by decide)]
  exact wpAny_pure <| wpAny_pure <| h _

theorem listGoesIn {id : String} {a l : Addr} {Q : Unit → Shared → Prop} (t : s.TypeIs (.ref l) "list")
    (h : wpAny (model prog w) A (pyIter (.ref l)) (fun it s' => wpAny (model prog w) A (runValue (.builtin "set.update.loop" ⟨[.ref a, it], []⟩)) (fun _ s'' => Q () s'') E s') E s) :
    wpAny (model prog w) A (Builtin.Frozenset.updateFrom id a (.ref l)) Q E s := by
  unfold Builtin.Frozenset.updateFrom Builtin.Frozenset.isAnySet
  refine wpAny_bind <| wpAny_bind <| wpAny_isInstance t F.sub_list_set <| wpAny_isInstance t F.sub_list_frozenset ?_
  rw [if_neg Bool.false_ne_true]
  refine wpAny_bind <| wpAny_typeOf t ?_
  rw [if_neg (by decide)]
  exact wpAny_bind <| wpAny_mono h (fun it s' x => wpAny_bind <| wpAny_mono x (fun _ s'' q => wpAny_pure q) fun _ _ e => e) fun _ _ e => e

theorem initCalled {a l : Addr} {Q : Value → Shared → Prop} (at_ : s.heap.get? a = some (fresh1 w)) (t : s.TypeIs (.ref l) "list")
    (h : wpAny (model prog w) A.in1 (pyIter (.ref l)) (fun it s' => wpAny (model prog w) A.in1 (runValue (.builtin "set.update.loop" ⟨[.ref a, it], []⟩)) (fun _ s'' => Q .none s'') E s') E s) :
    wpAny (model prog w) A (call (.builtin "set.__init__") [.ref a, .ref l]) Q E s := by
  have me : s.TypeIs (.ref a) "set" := ⟨_, at_, rfl⟩
  refine wpAny_call <| codeAny_call_builtin F.called_set.init.plain F.entry_set_init <| check_set_init_1 me ?_
  unfold Builtin.«set.__init__» setUsed
  refine wpAny_bind <| wpAny_of_eq (a := ()) rfl <| wpAny_bind <| nameCut me fun n => wpAny_bind <| wpAny_of_eq (a := ()) rfl <| wpAny_bind <| wpAny_of_eq (a := a) rfl <| wpAny_bind <| wpAny_bind <| wpAny_setState_of at_ rfl rfl <| wpAny_pure ?_
  rw [if_neg (by simp [SetTable.fill, SetTable.fresh])]
  exact wpAny_bind <| listGoesIn t <| wpAny_mono h (fun it s' x => wpAny_mono x (fun _ s'' q => wpAny_pure q) fun _ _ e => e) fun _ _ e => e

/-- one round of the loop that fills a set -/
theorem fill {a it : Addr} {R : Result → Shared → Prop}
    (h : wpAny (model prog w) A.in1 (pyNext (.ref it)) (fun r s' => match r with
      | none => R (.ok (.ret .none)) s'
      | some x => wpAny (model prog w) A.in1 (setAdd a x) (fun _ s'' => codeAny (model prog w) A (.builtin "set.update.loop" ⟨[.ref a, .ref it], []⟩) R s'') (fun e s'' => R (.error e) s'') s') (fun e s' => R (.error e) s') s) :
    codeAny (model prog w) A (.builtin "set.update.loop" ⟨[.ref a, .ref it], []⟩) R s := by
  have calm := F.plain_set_update_loop
  refine codeAny_builtin F.entry_set_update_loop (Around.under_plainId calm _ ▸ ?_)
  refine wpAny_bind <| wpAny_mono h (fun r s' x => ?_) fun _ _ e => e
  match r, x with
  | none, x => exact wpAny_pure x
  | some v, x => exact wpAny_bind <| wpAny_holding <| wpAny_mono x (fun _ s'' q => wpAny_pure ⟨plainId_quiet calm _, q⟩) fun _ _ e => e

/-- the first element of a set -/
theorem add1 {a : Addr} {x : Str} {t : Tok} {Q : Bool → Shared → Prop} (S : St w h₀ os gs led s) (U : Put a (Set1 w x) (Is (fresh1 w)) led led') (h : ∀ s', St w h₀ os gs led' s' → Q true s') :
    wpAny (model prog w) A (setAddHashed a (.str x t) (hashStr w x)) Q E s := by
  obtain ⟨_, at_, rfl⟩ := S.has _ U.mem
  obtain ⟨tb, d, g, lay, fits, led1, full⟩ := layNew_one (!(w.params.followText "set-order")) (hashStr w x) (.str x t)
  have stored (tb' : SetTable) (f : tb'.fits 1 = true) (l : tb'.led = !(w.params.followText "set-order")) (e : tb'.tooFull = false) (more : Sem (Option Bool)) :
      wpAny (model prog w) A (storeSet a #[(hashStr w x, .str x t)] tb' >>= fun _ => if (!d && tb'.tooFull) = true then more else pure (some true)) (fun r s' => r = some true ∧ St w h₀ os gs led' s') E s := by
    refine wpAny_bind <| wpAny_storeSet_of at_ rfl ?_
    rw [e, Bool.and_false, if_neg Bool.false_ne_true]
    have one := putSet_of (o := fresh1 w) #[(hashStr w x, Value.str x t)] tb' rfl
    exact wpAny_pure ⟨rfl, S.put U (Heap.SameBut.update ..).extBut ⟨_, Heap.get?_update_self _ at_ (by rw [one]; rfl), by rw [one]; exact ⟨t, _, tb', rfl, f, l⟩⟩ rfl rfl⟩
  have scanned : wpAny (model prog w) A (setAddByScan a (.str x t) (hashStr w x) #[] (.fresh 0 0 (!(w.params.followText "set-order")))) (fun r s' => r = some true ∧ St w h₀ os gs led' s') E s := by
    unfold setAddByScan
    refine wpAny_bind <| wpAny_rule <| wpAny_bind <| wpAny_of_eq (a := ScanMet.absent) (by simp [setScan, setScanStrs]) ?_
    dsimp only
    rw [lay]
    refine wpAny_bind <| wpAny_mono (Q := fun _ s' => s' = s) ?_ (fun _ s' e => ?_) fun _ _ e => e
    · cases g with
      | false => exact wpAny_pure rfl
      | true => exact wpAny_rule rfl
    · subst e
      by_cases p : tb.plain = true
      · rw [if_pos p]
        exact wpAny_bind <| wpAny_of_eq (a := false) rfl <| stored { tb with plain := false } (SetTable.fits_plain_off fits) led1 full _
      · rw [if_neg p]
        exact wpAny_bind <| wpAny_pure <| stored tb fits led1 full _
  unfold setAddHashed setAddHashedIn
  refine wpAny_holding <| wpAny_bind <| wpAny_setState_of at_ rfl rfl ?_
  dsimp only
  rw [if_pos (by simp [byScan, Value.scannable, scanBound])]
  exact wpAny_bind <| wpAny_mono scanned (fun r s' q => by obtain ⟨rfl, S'⟩ := q; exact wpAny_pure (h s' S')) fun _ _ e => e

theorem setLoop1 {a it l : Addr} {x : Str} {t : Tok} {R : Result → Shared → Prop} (hh : A.handled = none) (hl : ∃ o, h₀ l = some o ∧ ListO [.str x t] o)
    (S : St w h₀ os gs ((it, IterO l 0) :: (a, Is (fresh1 w)) :: led) s) (h : ∀ s', St w h₀ os gs ((a, Set1 w x) :: led) s' → R (.ok (.ret .none)) s') :
    codeAny (model prog w) A (.builtin "set.update.loop" ⟨[.ref a, .ref it], []⟩) R s := by
  obtain ⟨ol, base, row⟩ := hl
  refine fill <| wpAny_pyNext_list_item (S.isIter (.head _)) (ListO.at (S.keep _ _ base) row) (x := .str x t) rfl fun h' moved same => ?_
  have S1 := S.put (s' := { s with heap := h' }) (P' := IterO l 1) .head same.extBut moved rfl rfl
  refine wpAny_holding <| wpAny_bind <| (strKind prog w).pyHash (k := x) (strKind_is _ _ _ _) <| add1 (S1.toks _) (.tail .head) fun s2 S2 => ?_
  refine fill <| wpAny_pyNext_list_end (by simpa using hh) (S2.isIter (.head _)) (ListO.at (S2.keep _ _ base) row) rfl fun h3 kept => ?_
  have nd := List.nodup_cons.mp S2.nodup
  exact h _ <| S2.lose (s' := { s2 with heap := h3 }) (led' := (a, Set1 w x) :: led) (.head _) kept (fun p hp => ⟨.tail _ hp, fun e => nd.1 (List.mem_map.mpr ⟨p, hp, e⟩)⟩) nd.2 rfl rfl

/-- set([x]) -/
theorem setOf1 {l : Addr} {x : Str} {t : Tok} {Q : Value → Shared → Prop} (hh : A.handled = none) (S : St w h₀ os gs led s) (hl : ∃ o, h₀ l = some o ∧ ListO [.str x t] o)
    (h : ∀ a s', St w h₀ os gs ((a, Set1 w x) :: led) s' → Q (.ref a) s') : wpAny (model prog w) A (call (.type "set") [.ref l]) Q E s := by
  have S1 : St w h₀ os gs ((s.heap.objs.size, Is (fresh1 w)) :: led) { s with heap := s.heap.push (fresh1 w) } := S.push rfl
  obtain ⟨ol, base, row⟩ := id hl
  have list := ListO.at (S1.keep _ _ base) row
  refine typeCalled <| initCalled (Heap.get?_push_size _ rfl) list.typeIs <| wpAny_pyIter_list list <| wpAny_runValue ?_
  have S2 := S1.push (P := IterO l 0) (o := { cls := .type "list_iterator", data := .fields #[.ref l, .int 0 0] }) ⟨rfl, rfl⟩
  exact setLoop1 (by simpa using hh) hl S2 fun s3 S3 => ⟨rfl, h _ s3 S3⟩

/-! ## iteration over a set of one str -/
def setIt (S : Addr) (slot k : Int) (ep : Nat) : Obj := { cls := .type "set_iterator", data := .fields #[.int slot 0, .int k 0, .ref S, .int 1 0, .int ep 0] }
def epOf (o : Obj) : Nat := match o.data with | .set _ ep _ => ep | _ => 0
def nextSlot (w : World) (o : Obj) : Nat := if w.params.followText "set-order" then 0 else match o.data with | .set _ _ tb => tb.place.getD 0 0 + 1 | _ => 0

theorem setIter1 {a : Addr} {so : Obj} {x : Str} {Q : Value → Shared → Prop} (S : St w h₀ os gs led s) (ha : s.heap.get? a = some so) (hso : Set1 w x so)
    (h : ∀ it s', St w h₀ os gs ((it, Is (setIt a 0 0 (epOf so))) :: led) s' → Q (.ref it) s') : wpAny (model prog w) A (pyIter (.ref a)) Q E s := by
  obtain ⟨t, ep, tb, rfl, hf, hled⟩ := id hso
  have hT : s.TypeIs (.ref a) "set" := ⟨_, ha, rfl⟩
  refine wpAny_pyIter_slot hT F.slot_set_iter (wpAny_call_entry F.slot_set_iter hT entry_set_iter ?_ (F.args_set_iter_1 _))
  unfold Builtin.«frozenset.__iter__»
  refine wpAny_bind (wpAny_of_eq (a := a) (by rfl) ?_)
  unfold Builtin.Frozenset.sizeOf setEntries
  refine wpAny_bind (wpAny_bind (wpAny_bind (wpAny_setState_of ha rfl hf (wpAny_pure (wpAny_pure ?_)))))
  refine wpAny_bind ?_
  unfold setDrawn
  refine wpAny_bind (wpAny_setState_of ha rfl hf ?_)
  refine wpAny_bind (wpAny_bind (wpAny_askSetting (wpAny_pure ?_)))
  refine wpAny_pure ?_
  rw [if_neg (by simp; intro _; show (!tb.plain && decide (1 > 1)) = false; simp)]
  refine wpAny_bind (wpAny_pure ?_)
  refine wpAny_bind (wpAny_setEpoch_of ha rfl hf ?_)
  refine wpAny_bind (wpAny_newObj_type (wpAny_pure ⟨_, rfl, "set_iterator", _, ⟨_, Heap.get?_push_size _ rfl, rfl⟩, slot_seti_next.lookup, ?_⟩))
  exact h _ _ (S.push rfl)

theorem pick1 {α : Type} (f : Nat → Nat) (e : α) : pickOrder f #[e] = #[e] := by
  simp [pickOrder, pickOrder.go, Nat.mod_one]

theorem below0 (j : Nat) : SetTable.below #[j] 0 = 0 := by simp [SetTable.below, SetTable.below.go]
theorem below1 (j : Nat) : SetTable.below #[j] (j + 1) = 1 := by simp [SetTable.below, SetTable.below.go]

theorem fits1 {tb : SetTable} (h : tb.fits 1 = true) : ∃ j, tb.place = #[j] := by
  simp only [SetTable.fits, Bool.and_eq_true, beq_iff_eq] at h
  obtain ⟨m, ⟨l⟩, d, f, ld, mv, pl⟩ := tb
  match l, h.1 with
  | [j], _ => exact ⟨j, rfl⟩

theorem setNextA {a : Addr} {so : Obj} {x : Str} {Q : Option (Value × Nat) → Shared → Prop} (ha : s.heap.get? a = some so) (hso : Set1 w x so)
    (h : ∀ t, Q (some (.str x t, nextSlot w so)) s) : wpAny (model prog w) A (setNext a 0 0 (epOf so)) Q E s := by
  obtain ⟨t, ep, tb, rfl, hf, hled⟩ := id hso
  obtain ⟨j, hj⟩ := fits1 hf
  unfold setNext
  refine wpAny_bind (wpAny_setState_of ha rfl hf ?_)
  refine wpAny_bind (wpAny_bind (wpAny_askSetting (wpAny_pure ?_)))
  dsimp only
  have h := h t
  cases hq : w.params.followText "set-order" with
  | true =>
    rw [show nextSlot w _ = 0 by unfold nextSlot; rw [hq]; rfl] at h
    have hq' : (model prog w).w.params.followText "set-order" = true := hq
    rw [if_pos hq', if_neg (by simp [epOf])]
    unfold setWalk
    refine wpAny_bind (wpAny_bind (wpAny_setState_of ha rfl hf (wpAny_bind (wpAny_bind (wpAny_askSetting (wpAny_pure ?_))))))
    rw [if_pos hq']
    refine wpAny_bind (wpAny_askSetting (wpAny_pure ?_))
    rw [pick1]
    exact wpAny_pure h
  | false =>
    rw [show nextSlot w _ = tb.place.getD 0 0 + 1 by unfold nextSlot; rw [hq]; rfl, hj] at h
    rw [if_neg (by rw [show (model prog w).w.params = w.params from rfl, hq]; simp)]
    rw [if_neg (by show ¬ ((!tb.plain && decide (1 > 1)) = true); simp)]
    refine wpAny_bind (wpAny_of_eq (a := ()) (by show (if (!tb.led && !(#[(hashStr w x, Value.str x t)] : Array (Int × Value)).isEmpty) = true then _ else _) = _; rw [hled, hq]; rfl) ?_)
    refine wpAny_pure ?_
    rw [hj, below0]
    exact h

theorem setNextB {a : Addr} {so : Obj} {x : Str} {Q : Option (Value × Nat) → Shared → Prop} (ha : s.heap.get? a = some so) (hso : Set1 w x so)
    (h : Q none s) : wpAny (model prog w) A (setNext a (nextSlot w so) 1 (epOf so)) Q E s := by
  obtain ⟨t, ep, tb, rfl, hf, hled⟩ := id hso
  obtain ⟨j, hj⟩ := fits1 hf
  unfold setNext
  refine wpAny_bind (wpAny_setState_of ha rfl hf ?_)
  refine wpAny_bind (wpAny_bind (wpAny_askSetting (wpAny_pure ?_)))
  dsimp only
  cases hq : w.params.followText "set-order" with
  | true =>
    have hq' : (model prog w).w.params.followText "set-order" = true := hq
    rw [if_pos hq', if_neg (by simp [epOf])]
    unfold setWalk
    refine wpAny_bind (wpAny_bind (wpAny_setState_of ha rfl hf (wpAny_bind (wpAny_bind (wpAny_askSetting (wpAny_pure ?_))))))
    rw [if_pos hq']
    refine wpAny_bind (wpAny_askSetting (wpAny_pure ?_))
    rw [pick1]
    exact wpAny_pure h
  | false =>
    rw [if_neg (by rw [show (model prog w).w.params = w.params from rfl, hq]; simp)]
    rw [if_neg (by show ¬ ((!tb.plain && decide (1 > 1)) = true); simp)]
    refine wpAny_bind (wpAny_of_eq (a := ()) (by show (if (!tb.led && !(#[(hashStr w x, Value.str x t)] : Array (Int × Value)).isEmpty) = true then _ else _) = _; rw [hled, hq]; rfl) ?_)
    refine wpAny_pure ?_
    rw [show nextSlot w _ = tb.place.getD 0 0 + 1 by unfold nextSlot; rw [hq]; rfl]
    rw [hj, show (#[j] : Array Nat).getD 0 0 = j from rfl, below1]
    exact h

/-- the first turn -/
theorem setItA {a it : Addr} {so : Obj} {x : Str} {Q : Option Value → Shared → Prop} (S : St w h₀ os gs led s) (ha : s.heap.get? a = some so) (hso : Set1 w x so) (hne : a ≠ it)
    (U : Put it (Is (setIt a (nextSlot w so) 1 (epOf so))) (Is (setIt a 0 0 (epOf so))) led led')
    (h : ∀ t s', St w h₀ os gs led' s' → Q (some (.str x t)) s') : wpAny (model prog w) A (pyNext (.ref it)) Q E s := by
  obtain ⟨oi, hoi, rfl⟩ := S.has _ U.mem
  have hT : s.TypeIs (.ref it) "set_iterator" := ⟨_, hoi, rfl⟩
  have hent : ∀ {A' E'} {Q' : Nat → Shared → Prop}, Q' 1 s → wpAny (model prog w) A' (do let e ← setEntries a; pure e.size) Q' E' s := by
    intro A' E' Q' hq
    obtain ⟨t, ep, tb, rfl, hf, hled⟩ := id hso
    unfold setEntries
    exact wpAny_bind (wpAny_bind (wpAny_setState_of ha rfl hf (wpAny_pure (wpAny_pure hq))))
  refine nextBy hT slot_seti_next entry_seti_next (args_seti_next _) ?_
  unfold Builtin.«set_iterator.__next__»
  refine wpAny_bind (wpAny_of_eq (a := (Value.ref it, [])) rfl ?_)
  dsimp only
  refine wpAny_bind (wpAny_fieldsOf hoi rfl ?_)
  dsimp only
  obtain ⟨t, ep, tb, rfl, hf, hled⟩ := id hso
  unfold setEntries
  refine wpAny_bind (wpAny_bind (wpAny_setState_of ha rfl hf (wpAny_pure ?_)))
  rw [if_neg (by simp)]
  refine wpAny_bind (m := setNext a 0 0 ep) (setNextA ha hso fun t' => ?_)
  dsimp only
  refine wpAny_bind (wpAny_setField hoi rfl (by simp) ?_)
  have h1 := Heap.get?_update_self (Obj.mapFields (·.setIfInBounds 0 (rawInt (nextSlot w { cls := .type "set", data := .set #[(hashStr w x, .str x t)] ep tb })))) hoi rfl
  refine wpAny_bind (wpAny_setField h1 rfl (by simp) ?_)
  refine wpAny_pure ⟨_, rfl, h t' _ (S.put U ((Heap.SameBut.update ..).extBut.trans (Heap.SameBut.update ..).extBut) ⟨_, Heap.get?_update_self _ h1 rfl, ?_⟩ rfl rfl)⟩
  rfl
/-- the end -/
theorem setItB {a it : Addr} {so : Obj} {x : Str} {Q : Option Value → Shared → Prop} (hh : A.handled = none) (S : St w h₀ os gs ((it, Is (setIt a (nextSlot w so) 1 (epOf so))) :: led) s) (ha : s.heap.get? a = some so) (hso : Set1 w x so)
    (h : ∀ s', St w h₀ os gs led s' → Q none s') : wpAny (model prog w) A (pyNext (.ref it)) Q E s := by
  obtain ⟨oi, hoi, rfl⟩ := S.has _ (.head _)
  have hT : s.TypeIs (.ref it) "set_iterator" := ⟨_, hoi, rfl⟩
  refine nextBy hT slot_seti_next entry_seti_next (args_seti_next _) ?_
  unfold Builtin.«set_iterator.__next__»
  refine wpAny_bind (wpAny_of_eq (a := (Value.ref it, [])) rfl ?_)
  dsimp only
  refine wpAny_bind (wpAny_fieldsOf hoi rfl ?_)
  dsimp only
  obtain ⟨t, ep, tb, rfl, hf, hled⟩ := id hso
  unfold setEntries
  refine wpAny_bind (wpAny_bind (wpAny_setState_of ha rfl hf (wpAny_pure ?_)))
  rw [if_neg (by simp)]
  rw [show ((nextSlot w { cls := .type "set", data := .set #[(hashStr w x, .str x t)] ep tb } : Nat) : Int).toNat = nextSlot w { cls := .type "set", data := .set #[(hashStr w x, .str x t)] ep tb } from Int.toNat_natCast _]
  refine wpAny_bind (m := setNext a _ 1 ep) (setNextB ha hso ?_)
  dsimp only
  refine wpAny_bind (wpAny_setField hoi rfl (by simp) ?_)
  have nd := List.nodup_cons.mp S.nodup
  exact stops (fun q => wpAny_raiseNew_none hh q) fun h' up => h _ (S.lose (.head _) (fun b o ne e => up b o ((Heap.SameBut.update ..).extBut b o ne e)) (fun p hp => ⟨.tail _ hp, fun e => nd.1 (List.mem_map.mpr ⟨p, hp, e⟩)⟩) nd.2 rfl rfl)
end
end Mine


/-! # I3 -/
namespace Mine
/-- the heap without some addresses -/
noncomputable def but (h : Heap) (own : Led) : Base := fun b => open Classical in if b ∈ own.map (·.1) then none else h.get? b
section
variable {prog : Program} {w : World} {A : Around} {E : Value → Shared → Prop} {s : Shared} {h₀ : Base} {os : OsState} {gs : Array GenState} {led led' own own' : Led} {env : Env} {kvs : List (Str × Value)}

theorem but_of {h : Heap} {b : Addr} {o : Obj} (e : h.get? b = some o) (hn : b ∉ own.map (·.1)) : but h own b = some o := by unfold but; rw [if_neg hn]; exact e
theorem St.mine (S : St w h₀ os gs (own ++ led) s) : St w (but s.heap own) os gs own s := by
  refine S.hide (fun b o e => ?_) (fun p hp => ?_) (fun b o e => ?_)
  · unfold but at e; split at e
    · cases e
    · exact e
  · unfold but; rw [if_pos (List.mem_map.mpr ⟨p, hp, rfl⟩)]
  · refine but_of (S.keep _ _ e) fun hm => ?_
    obtain ⟨p, hp, rfl⟩ := List.mem_map.mp hm
    rw [S.new p (List.mem_append_left _ hp)] at e; cases e
theorem St.unmine (S : St w h₀ os gs (own ++ led) s) {gs' : Array GenState} {s' : Shared} (S' : St w (but s.heap own) os gs' own' s') : St w h₀ os gs' (own' ++ led) s' := by
  refine S.merge (fun b o e => ?_) (fun p hp o e => ?_) S'
  · refine but_of (S.keep _ _ e) fun hm => ?_
    obtain ⟨p, hp, rfl⟩ := List.mem_map.mp hm
    rw [S.new p (List.mem_append_left _ hp)] at e; cases e
  · refine but_of e fun hm => ?_
    have nd := S.nodup
    rw [List.map_append, List.nodup_append] at nd
    exact nd.2.2 _ hm _ (List.mem_map.mpr ⟨p, hp, rfl⟩) rfl
/-- what lies outside `own` lies in the base -/
theorem St.inBut (S : St w h₀ os gs (own ++ led) s) {b : Addr} {o : Obj} (e : s.heap.get? b = some o) (h : h₀ b = some o ∨ b ∈ led.map (·.1)) : but s.heap own b = some o := by
  refine but_of e fun hm => ?_
  rcases h with h | h
  · obtain ⟨p, hp, rfl⟩ := List.mem_map.mp hm
    rw [S.new p (List.mem_append_left _ hp)] at h; cases h
  · have nd := S.nodup
    rw [List.map_append, List.nodup_append] at nd
    exact nd.2.2 _ hm _ h rfl

/-- entering a def, the ledger kept -/
theorem enterO {f : Addr} {fd : FuncData} {o : Obj} {body : List Stmt} {args : List Value} {kw : List (Str × Value)} {binds : List (Str × Value)} {R : Result → Shared → Prop} {n : Nat}
    (S : St w h₀ os gs led s) (RM : Room A n) (ho : (KH w).lookup f = some o) (hdata : o.data = .func fd) (hcd : codeIn (KH w) fd.code fd.qualname = true) (hbody : fd.body = .stmts body)
    (hbind : BindsTo s fd ⟨args, kw⟩ binds) (hcell : ∀ x ∈ fd.scope.names, x.2 ≠ .cell) (hloc : ∀ x ∈ binds, fd.scope.names.lookup x.1 = some .local)
    (h : ∀ E' s', St w h₀ os gs ((s.heap.objs.size, LocO binds.reverse) :: led) s' →
      wpAny (model prog w) (A.deeper (callEnv fd s.heap.objs.size f)) (execs body (callEnv fd s.heap.objs.size f)) (fun fl s'' => R (.ok (.ret (match fl with | .ret v => v | _ => .none))) s'') E' s')
    (hco : fd.scope.isCoroutine = false := by rfl) (hgen : fd.scope.isGenerator = false := by rfl) (hk : fd.scope.kind = .function := by rfl) :
    codeAny (model prog w) A (.call (.ref f) ⟨args, kw⟩) R s := by
  have T := S.topNow
  refine codeAny_call_def RM.dep (T.obj ho) hdata T.noLimit (codeRec_of T.K hcd) hbody hbind hcell hloc (fun h₁ hn hkp => ?_) hco hgen hk
  have S1 := S.grow (s' := { s with heap := h₁, toks := s.toks + binds.length }) hkp rfl rfl
  have key : ∀ a, s.heap.objs.size ≤ a → s.heap.get? a = none := fun a ha => by
    cases q : s.heap.get? a with
    | none => rfl
    | some o' => exact absurd (Heap.lt_size q) (Nat.not_lt.mpr ha)
  refine h _ _ ⟨S1.top, S1.keep, fun p hp => ?_, fun p hp => ?_, ?_, S1.os, S1.gens⟩
  · rcases List.mem_cons.mp hp with rfl | hp
    · obtain ⟨o, es, ep, h1, h2, h3, h4⟩ := hn
      exact ⟨o, h1, _, ⟨es, ep, h2, h3, h4⟩, fun x v e => e⟩
    · exact S1.has p hp
  · rcases List.mem_cons.mp hp with rfl | hp
    · cases q : h₀ s.heap.objs.size with
      | none => rfl
      | some o' => exact absurd (Heap.lt_size (S.keep _ _ q)) (Nat.lt_irrefl _)
    · exact S1.new p hp
  · refine List.nodup_cons.mpr ⟨fun hm => ?_, S.nodup⟩
    obtain ⟨p, hp, e⟩ := List.mem_map.mp hm
    have := S.lt (a := p.1) (P := p.2) hp
    rw [e] at this; exact Nat.lt_irrefl _ this

/-! ## _Ignore.__init__ -/
def DO (prog : Program) (w : World) (kvs : List (Str × Value)) (o : Obj) : Prop := o.IsDictOf (strKind prog w) kvs
theorem St.dictAt {d : Addr} (S : St w h₀ os gs led s) (h : (d, DO prog w kvs) ∈ led) : s.heap.DictOf (strKind prog w) d kvs := Heap.dictOf_iff.mpr (S.has _ h)
structure RdEs (m d ig : Addr) (es : List DictEntry) : Prop where
  big : 112 < ig
  m : getL "_mods" es = some (some (.ref m))
  d : getL "_dirs" es = some (some (.ref d))
  ig : getL "_ignore" es = some (some (.ref ig))
  no : getL "names" es = some none
def rdLed (prog : Program) (w : World) (x dx m d ig : Addr) (nm : Str) (dir : Value) (es : List DictEntry) (n : Nat) (kvs : List (Str × Value)) : Led :=
  [(ig, DO prog w kvs), (d, ListO [dir]), (m, Set1 w nm), (x, Is (instObj 86 dx)), (dx, Is (dictOf es n))]
def bIn : List Stmt := match cBody (stmtAt 12) with | a :: _ => fBody a | _ => []
noncomputable def fEnv76 (w : World) (L : Addr) : Env := callEnv (fdAt w 76) L 76

set_option maxHeartbeats 4000000 in
theorem init_body {L x dx lm ld : Addr} {nm : Str} {tm td : Tok} {parts : List (List Nat)} {n : Nat} {Q : Flow → Shared → Prop} (R : Room A (n + 4)) (hb : AllBare gs) (PK : PathOk parts)
    (hlm : ∃ o, h₀ lm = some o ∧ ListO [.str nm tm] o) (hld : ∃ o, h₀ ld = some o ∧ ListO [.str (mkS (joinL [47] parts)) td] o)
    (S : St w h₀ os gs [(L, LocO [("dirs", .ref ld), ("modules", .ref lm), ("self", .ref x)]), (x, Is (instObj 86 dx)), (dx, Is (dictOf [] 0))] s)
    (h : ∀ m d ig es n gs' t t' s', RdEs m d ig es → AllBare gs' → St w h₀ os gs' (rdLed prog w x dx m d ig nm (.str (mkS (joinL [47] parts)) t) es n [("<string>", .int 1 t')]) s' → Q .next s') :
    wpAny (model prog w) A (execs bIn (fEnv76 w L)) Q E s := by
  obtain ⟨om, hm1, hm2⟩ := id hlm
  obtain ⟨od, hd1, hd2⟩ := id hld
  refine wpAny_execs_cons (plainObj_wpAny_Assign_Attribute (wpAny_IfExp (wpAny_isTrue_Not (isTrue_plain (nmL S rfl (wpAny_truthy_list (ListO.at (S.keep _ _ hm1) hm2) (by simp) ?_))))))
  rw [if_neg (by simp)]
  have S1 := S.toks (s.toks + 1 + 1)
  refine Call_name1 rfl (nmB S1 (v := .type "set") rfl bb_set (callWith_type1 (nmL S1 rfl ?_)))
  refine setOf1 R.h S1 hlm fun m s2 S2 => ?_
  have S3 := S2.swap
  refine nmL S3 rfl ?_
  refine setA (n := 0) (es := []) (C := 86) (dx := dx) S3 (.tail _ (.tail _ (.head _))) (fun tk => .tail (.tail (.tail .head))) rfl rfl rfl rfl rfl (fun tk => Nat.le_trans (Nat.le_of_eq (rfl : _ = 1)) (by decide)) fun tk s4 S4 => ?_
  refine wpAny_execs_cons (plainObj_wpAny_Assign_Attribute (wpAny_IfExp (wpAny_isTrue_Not (isTrue_plain (nmL S4 rfl (wpAny_truthy_list (ListO.at (S4.keep _ _ hd1) hd2) (by simp) ?_))))))
  rw [if_neg (by simp)]
  have S5 := S4.toks (s4.toks + 1 + 1)
  refine comp_map (h₀ := h₀) (os := os) (cl := []) (fun v y => ∃ t t', v = .str (mkS (joinL [47] parts)) t ∧ y = .str (mkS (joinL [47] parts)) t') R.h (nmL S5 rfl ⟨gs, _, ld, [.str (mkS (joinL [47] parts)) td], rfl, hb, S5, by simp, fun gs led' s hs S => ListO.at (S.keep _ _ hd1) hd2, ?_, ?_⟩)
  · intro C E' gs led' v s Q' hv hb hs S6 hQ
    simp only [List.mem_singleton] at hv
    subst hv
    refine Call_ (nmG S6 (v := .ref 63) rfl (callWith_def (o := objAt w 63) (fd := fdAt w 63) rfl (spliced_more (nmL S6 rfl (spliced_none ⟨S6.topNow.obj rfl, ?_⟩)))))
    exact normpath_call R PK S6 fun t' s' S' => hQ _ _ _ hb ⟨td, t', rfl, rfl⟩ S'
  intro acc ys gs7 s7 hb7 hp7 S7
  obtain ⟨t7, rfl⟩ : ∃ t7, ys = [.str (mkS (joinL [47] parts)) t7] := by
    cases hp7 with
    | cons h1 h2 => cases h2; obtain ⟨_, t', _, rfl⟩ := h1; exact ⟨t', rfl⟩
  have S8 := S7.swap
  refine nmL S8 rfl ?_
  refine setA (C := 86) (dx := dx) S8 (.tail _ (.tail _ (.tail _ (.head _)))) (fun tk => .tail (.tail (.tail (.tail .head)))) rfl rfl rfl rfl rfl (fun tk => Nat.le_trans (Nat.le_of_eq (rfl : _ = 2)) (by decide)) fun tk9 s9 S9 => ?_
  refine wpAny_execs_cons (plainObj_wpAny_Assign_Attribute (wpAny_Dict_walk (knd := strKind prog w) rfl rfl (by simp) (by simp) ?_))
  refine pairTrees_cons_walk (wpAny_Constant_str (wpAny_Constant_int (pairTrees_nil_walk ?_)))
  have S10 := S9.push (P := DO prog w []) (o := { cls := .type "dict", data := .dict #[] }) ⟨#[], 0, ⟨rfl, rfl, rfl⟩, rfl, (by intro e he; simp at he), .nil, List.nodup_nil⟩
  refine display_done_str (by rfl) (by simp [strPairs]) (S10.dictAt (.head _)) fun h11 hd11 hs11 => ?_
  have S11 := (S10.toks (s9.toks + 1 + 1)).put (s' := { s9 with heap := h11, toks := s9.toks + 1 + 1 + 1 }) (P' := DO prog w [("<string>", .int 1 (s9.toks + 1))]) .head hs11.extBut (Heap.dictOf_iff.mp hd11) rfl rfl
  have h112 : 112 < s9.heap.objs.size := Heap.lt_size (S9.topNow.obj (a := 112) (o := objAt w 112) rfl)
  generalize s9.heap.objs.size = ig at S11 h112
  have S12 := S11.swap
  refine nmL S12 rfl ?_
  refine setA (C := 86) (dx := dx) S12 (.tail _ (.tail _ (.tail _ (.tail _ (.head _))))) (fun tk => .tail (.tail (.tail (.tail (.tail .head))))) rfl rfl rfl rfl rfl (fun tk => Nat.le_trans (Nat.le_of_eq (rfl : _ = 3)) (by decide)) fun tk13 s13 S13 => ?_
  refine wpAny_execs_nil ?_
  exact h m acc ig _ _ gs7 t7 (s9.toks + 1) s13 ⟨h112, rfl, rfl, rfl, rfl⟩ hb7 S13.tail

/-! ## _Ignore(..) -/
theorem lookup71 {w : World} : (KH w).lookup 71 = some (objAt w 71) := rfl
theorem bind76 {w : World} {s : Shared} (a b c : Value) (hT : s.heap.get? 71 = some (objAt w 71)) : BindsTo s (fdAt w 76) ⟨[a, b, c], []⟩ [((Str.ofString "self" : Str), a), (Str.ofString "modules", b), (Str.ofString "dirs", c)] :=
  BindsTo.of_defaults (T := 71) (items := #[.none, .none]) rfl hT rfl rfl (by kernel_rfl)


theorem Room.under {c : Code} {n : Nat} (R : Room A (n + 1)) (h1 : c.weight ≤ 1) (h2 : c.cUnits ≤ 8) : Room (A.under c) n :=
  ⟨R.h, by show A.depth + c.weight + n < recursionLimit; have := R.d; omega, by show A.units + c.cUnits + 8 * n < cLine; have := R.u; omega⟩

set_option maxHeartbeats 4000000 in
/-- _Ignore([nm], [dir]) -/
theorem ignore_call {lm ld : Addr} {nm : Str} {tm td : Tok} {parts : List (List Nat)} {n : Nat} {Q : Value → Shared → Prop} (R : Room A (n + 6)) (hb : AllBare gs) (PK : PathOk parts)
    (hlm : ∃ o, s.heap.get? lm = some o ∧ ListO [.str nm tm] o) (hld : ∃ o, s.heap.get? ld = some o ∧ ListO [.str (mkS (joinL [47] parts)) td] o) (S : St w h₀ os gs led s)
    (h : ∀ x dx m d ig es n gs' t t' s', RdEs m d ig es → AllBare gs' → St w h₀ os gs' (rdLed prog w x dx m d ig nm (.str (mkS (joinL [47] parts)) t) es n [("<string>", .int 1 t')] ++ led) s' → Q (.ref x) s') :
    wpAny (model prog w) A (call (.ref 86) [.ref lm, .ref ld]) Q E s := by
  have X : (KH w).In s.heap := S.KIn
  obtain ⟨om, hm1, hm2⟩ := hlm
  obtain ⟨od, hd1, hd2⟩ := hld
  have lt1 := Heap.lt_size hm1
  have lt2 := Heap.lt_size hd1
  refine wpAny_call ?_
  have S1 := S.push (P := Is (dictOf [] 0)) (o := emptyDict) rfl
  have S2 := S1.push (P := Is (instObj 86 s.heap.objs.size)) (o := instObj 86 s.heap.objs.size) rfl
  obtain ⟨hp, g, d, t, os'⟩ := s
  refine make_core (init := .ref 76) (makes_of X (by rfl)) (looks_findIn X rfl) (fun self => bind_fn X self rfl) (.inl rfl) ?_
  have e1 : (hp.push emptyDict).objs.size = hp.objs.size + 1 := Heap.size_push ..
  simp only [e1] at S2
  have S3 := St.mine (own := [(hp.objs.size + 1, Is (instObj 86 hp.objs.size)), (hp.objs.size, Is (dictOf [] 0))]) (led := led) S2
  have R' : Room (A.under (.builtin "type.__call__" ⟨[.ref 86, .ref lm, .ref ld], []⟩)) (n + 5) := R.under (Nat.le_of_ble_eq_true rfl) (Nat.le_of_ble_eq_true rfl)
  have hin : ∀ a o, a < hp.objs.size → hp.get? a = some o → but ((hp.push emptyDict).push (instObj 86 hp.objs.size)) [(hp.objs.size + 1, Is (instObj 86 hp.objs.size)), (hp.objs.size, Is (dictOf [] 0))] a = some o := by
    intro a o ha e
    refine but_of (Heap.get?_push_of_some _ (Heap.get?_push_of_some _ e)) ?_
    simp only [List.map_cons, List.map_nil, List.mem_cons, List.not_mem_nil, or_false, not_or]
    have ha' : a < hp.objs.size := ha
    exact ⟨fun e => absurd (show a = hp.objs.size + 1 from e) (by omega), fun e => absurd (show a = hp.objs.size from e) (by omega)⟩
  refine enterO S3 R' (f := 76) (o := objAt w 76) (fd := fdAt w 76) (body := bIn) rfl rfl rfl rfl (bind76 _ _ _ (S3.topNow.obj rfl)) (noCell rfl) (locs rfl) fun E' s4 S4 => ?_
  refine init_body (n := n) (R'.deeper _) hb PK ⟨om, hin _ _ lt1 hm1, hm2⟩ ⟨od, hin _ _ lt2 hd1, hd2⟩ S4 fun m d ig es n' gs' t1 t2 s' hes hb' S' => ?_
  exact ⟨rfl, h _ _ m d ig es n' gs' t1 t2 s' hes hb' (St.unmine (own := [(hp.objs.size + 1, Is (instObj 86 hp.objs.size)), (hp.objs.size, Is (dictOf [] 0))]) (led := led) S2 S')⟩
end
end Mine


/-! # I4 -/
namespace Mine
def bNames : List Stmt := match cBody (stmtAt 12) with | _ :: b :: _ => fBody b | _ => []
noncomputable def fEnv83 (w : World) (L : Addr) : Env := callEnv (fdAt w 83) L 83
def namesV (nm dir fn k : Str) : Bool := decide (k = nm) || Txt.startswith k (nm ++ Str.ofString ".") || Txt.startswith fn (dir ++ Str.ofString "/")
section
variable {prog : Program} {w : World} {A : Around} {E : Value → Shared → Prop} {s : Shared} {h₀ : Base} {os : OsState} {gs : Array GenState} {led led' own own' : Led} {env : Env} {kvs : List (Str × Value)}
theorem RdEs.notSys {m d ig : Addr} {es : List DictEntry} (h : RdEs m d ig es) : (ig == sysModules) = false := by
  rw [beq_eq_false_iff_ne]
  rintro rfl
  exact absurd h.big (by decide)

theorem St.isAt (S : St w h₀ os gs led s) {a : Addr} {o : Obj} (h : (a, Is o) ∈ led) : s.heap.get? a = some o := by
  obtain ⟨o', h1, rfl⟩ := S.has _ h
  exact h1
theorem sepAt : ∃ t, nsIn (KH w) mainGlobals "sep" = some (some (.str (Str.ofString "/") t)) := ⟨_, rfl⟩
theorem put_ret {L x dx m d ig : Addr} {nm k : Str} {tk : Tok} {dir : Value} {es : List DictEntry} {n : Nat} {kvs ls : List (Str × Value)} {more : Led} {c : Int} {p1 p2 p3 p4 p5 p6 p7 p8 : Pos} {Q : Flow → Shared → Prop}
    (hes : RdEs m d ig es) (hk : k ∉ kvs.map (·.1)) (hlen : kvs.length ≤ 1000) (hself : ls.lookup (Str.ofString "self") = some (.ref x)) (hmn : ls.lookup (Str.ofString "modulename") = some (.str k tk))
    (S : St w h₀ os gs ((L, LocO ls) :: (rdLed prog w x dx m d ig nm dir es n kvs ++ more)) s)
    (h : ∀ t t' s', St w h₀ os gs ((L, LocO ls) :: (rdLed prog w x dx m d ig nm dir es n (kvs ++ [(k, .int c t')]) ++ more)) s' → Q (.ret (.int c t)) s') :
    wpAny (model prog w) A (execs [.Assign [.Subscript (.Attribute (.Name "self" p1) "_ignore" p2) (.Name "modulename" p3) p4] (.Constant (.int c) 0 p5) p6, .Return (some (.Constant (.int c) 0 p7)) p8] (fEnv83 w L)) Q E s := by
  refine wpAny_execs_cons (wpAny_Assign_Subscript (wpAny_Constant_int ?_))
  have S1 := S.toks (s.toks + 1)
  refine Attribute_name (nmL S1 hself (getA (C := 86) (x := x) (dx := dx) (es := es) (n := n) S1 (.tail _ (.tail _ (.tail _ (.tail _ (.head _))))) (.tail _ (.tail _ (.tail _ (.tail _ (.tail _ (.head _)))))) rfl rfl (attr := none) rfl rfl hes.ig rfl fun s2 S2 => nmL S2 hmn ?_))
  refine wpAny_setItem_pairs (knd := strKind prog w) (k := k) (strKind_is _ _ _ _) (S2.dictAt (prog := prog) (d := ig) (kvs := kvs) (.tail _ (.head _))) (fun h' hd hs => ?_) (by rw [sizeLine_eq]; omega)
  have hst : stored kvs k (.int c s.toks) = kvs ++ [(k, .int c s.toks)] := by
    unfold stored
    rw [if_neg]
    simp only [List.any_eq_true, decide_eq_true_eq, not_exists, not_and]
    intro kv hkv e
    exact hk (List.mem_map.mpr ⟨kv, hkv, e⟩)
  rw [hst] at hd
  have S3 := S2.put (s' := { s2 with heap := h', toks := s2.toks + 1 }) (led' := (L, LocO ls) :: (rdLed prog w x dx m d ig nm dir es n (kvs ++ [(k, .int c s.toks)]) ++ more)) (P' := DO prog w (kvs ++ [(k, .int c s.toks)])) (.tail .head) hs.extBut (Heap.dictOf_iff.mp hd) rfl rfl
  refine wpAny_execs_cons (wpAny_Return_some (wpAny_Constant_int ?_))
  exact h _ _ _ (S3.toks _)

set_option maxHeartbeats 4000000 in
theorem names_body {L x dx m d ig : Addr} {nm dir fn k : Str} {tf tk td : Tok} {es : List DictEntry} {n r : Nat} {kvs : List (Str × Value)} {Q : Value → Shared → Prop} (R : Room A r)
    (hes : RdEs m d ig es) (hk : k ∉ kvs.map (·.1)) (hlen : kvs.length ≤ 1000) (h1 : nm.length ≤ 10000) (h2 : dir.length ≤ 10000)
    (S : St w h₀ os gs ((L, LocO [("modulename", .str k tk), ("filename", .str fn tf), ("self", .ref x)]) :: (rdLed prog w x dx m d ig nm (.str dir td) es n kvs)) s)
    (h : ∀ t t' s', St w h₀ os gs (rdLed prog w x dx m d ig nm (.str dir td) es n (kvs ++ [(k, .int (if namesV nm dir fn k then 1 else 0) t')])) s' → Q (.int (if namesV nm dir fn k then 1 else 0) t) s') :
    wpAny (model prog w) A (execs bNames (fEnv83 w L)) (fun fl s'' => Q (match fl with | .ret v => v | _ => .none) s'') E s := by
  have ret : ∀ {led'' : Led} {s' : Shared} {t t' : Tok} (c : Int), c = (if namesV nm dir fn k then 1 else 0) → St w h₀ os gs ((L, LocO [("modulename", .str k tk), ("filename", .str fn tf), ("self", .ref x)]) :: (rdLed prog w x dx m d ig nm (.str dir td) es n (kvs ++ [(k, .int c t')]) ++ led'')) s' → Q (.int c t) s' := by
    rintro led'' s' t t' c rfl S'
    exact h t t' s' (S'.tail.comm.sub (fun p hp => ⟨p, List.mem_append_right _ hp, rfl, fun _ h => h⟩) (by
      have := S'.tail.nodup
      rw [List.map_append, List.nodup_append] at this
      exact this.1))
  refine wpAny_execs_cons (wpAny_If (wpAny_isTrue_Compare1 (nmL S rfl (Attribute_name (nmL S rfl (getA (C := 86) (x := x) (dx := dx) (es := es) (n := n) S (.tail _ (.tail _ (.tail _ (.tail _ (.head _))))) (.tail _ (.tail _ (.tail _ (.tail _ (.tail _ (.head _)))))) rfl rfl (attr := none) rfl rfl hes.ig rfl fun s2 S2 => ?_))))))
  refine wpAny_in_of (knd := strKind prog w) (k := k) (strKind_is _ _ _ _) hes.notSys (S2.dictAt (prog := prog) (d := ig) (kvs := kvs) (.tail _ (.head _))).mapOf (wpAny_truthy_bool ?_)
  have hva : (valueAt kvs k).isSome = false := by
    unfold valueAt
    rw [List.find?_eq_none.mpr]
    · rfl
    · intro kv hkv e
      exact hk (List.mem_map.mpr ⟨kv, hkv, by simpa using e⟩)
  rw [hva, if_neg (by simp)]
  refine wpAny_execs_nil ?_
  dsimp only
  have S3 := S2.toks (s2.toks + 1)
  refine wpAny_execs_cons (wpAny_If (wpAny_isTrue_Compare1 (nmL S3 rfl (Attribute_name (nmL S3 rfl (getA (C := 86) (x := x) (dx := dx) (es := es) (n := n) S3 (.tail _ (.tail _ (.tail _ (.tail _ (.head _))))) (.tail _ (.tail _ (.tail _ (.tail _ (.tail _ (.head _)))))) rfl rfl (attr := none) rfl rfl hes.m rfl fun s4 S4 => ?_))))))
  obtain ⟨so, hso1, hso2⟩ := S4.has (m, Set1 w nm) (.tail _ (.tail _ (.tail _ (.head _))))
  refine wpAny_inSet_of (knd := strKind prog w) (k := k) (strKind_is _ _ _ _) rfl (Set1.of hso1 hso2) (wpAny_truthy_bool ?_)
  have S5 := S4.toks (s4.toks + 1)
  cases hq : decide (k = nm) with
  | true =>
    rw [if_pos rfl]
    refine put_ret (more := []) hes hk hlen rfl rfl (by rw [List.append_nil]; exact S5) fun t t' s6 S6 => ?_
    exact ret 1 (by unfold namesV; rw [hq]; rfl) S6
  | false =>
  rw [if_neg (by simp)]
  refine wpAny_execs_nil ?_
  dsimp only
  have S6 := S5.put (s' := { s4 with toks := s4.toks + 1 }) (P' := Is so) (.tail (.tail (.tail .head))) (Heap.ExtBut.refl _ _) ⟨so, hso1, rfl⟩ rfl rfl
  refine wpAny_execs_cons (wpAny_For (Attribute_name (nmL S6 rfl (getA (C := 86) (x := x) (dx := dx) (es := es) (n := n) S6 (.tail _ (.tail _ (.tail _ (.tail _ (.head _))))) (.tail _ (.tail _ (.tail _ (.tail _ (.tail _ (.head _)))))) rfl rfl (attr := none) rfl rfl hes.m rfl fun s7 S7 => ?_))))
  have hso7 := S7.isAt (a := m) (o := so) (.tail _ (.tail _ (.tail _ (.head _))))
  refine setIter1 S7 hso7 hso2 fun it s8 S8 => ?_
  have S8' := (S8.perm (led' := (L, LocO [("modulename", .str k tk), ("filename", .str fn tf), ("self", .ref x)]) :: [(ig, DO prog w kvs), (d, ListO [.str dir td]), (m, Is so), (x, Is (instObj 86 dx)), (dx, Is (dictOf es n)), (it, Is (setIt m 0 0 (epOf so)))])
    (List.perm_append_comm (l₁ := [(it, Is (setIt m 0 0 (epOf so)))]) (l₂ := [(L, LocO [("modulename", .str k tk), ("filename", .str fn tf), ("self", .ref x)]), (ig, DO prog w kvs), (d, ListO [.str dir td]), (m, Is so), (x, Is (instObj 86 dx)), (dx, Is (dictOf es n))])))
  refine codeAny_forLoop (fun c s => (c = 1 ∧ St w h₀ os gs ((L, LocO [("modulename", .str k tk), ("filename", .str fn tf), ("self", .ref x)]) :: [(ig, DO prog w kvs), (d, ListO [.str dir td]), (m, Is so), (x, Is (instObj 86 dx)), (dx, Is (dictOf es n)), (it, Is (setIt m 0 0 (epOf so)))]) s) ∨
      (c = 0 ∧ Txt.startswith k (nm ++ Str.ofString ".") = false ∧ St w h₀ os gs ((L, LocO [("modulename", .str k tk), ("filename", .str fn tf), ("self", .ref x)]) :: [(ig, DO prog w kvs), (d, ListO [.str dir td]), (m, Is so), (x, Is (instObj 86 dx)), (dx, Is (dictOf es n)), (it, Is (setIt m (nextSlot w so) 1 (epOf so)))]) s)) ?_ 1 (.inl ⟨rfl, S8'⟩)
  rintro c s9 (⟨rfl, S9⟩ | ⟨rfl, hsw, S9⟩)
  · have hso9 := S9.isAt (a := m) (o := so) (.tail _ (.tail _ (.tail _ (.head _))))
    have hne : m ≠ it := by
      have nd : [L, ig, d, m, x, dx, it].Nodup := S9.nodup
      simp only [List.nodup_cons, List.mem_cons, List.not_mem_nil, or_false, not_or] at nd
      exact nd.2.2.2.1.2.2
    refine setItA S9 hso9 hso2 hne (.tail (.tail (.tail (.tail (.tail (.tail .head)))))) fun t10 s10 S10 => ?_
    dsimp only
    refine asN (stL S10 fun s11 S11 => ?_)
    refine wpAny_execs_cons (wpAny_If (isTrue_plain ?_))
    refine Call_method1 rfl rfl rfl (nmL S11 rfl ⟨"str", "str.startswith", F.plainAttrs_str, F.slot_str_startswith, F.type_str_startswith, typeIs_str _ _ _, (fun _ e => nomatch e), ?_⟩)
    refine Calls.callWith_builtin rfl (Calls.evalArgs_plain (Calls.spliced_cons (wpAny_BinOp (nmL S11 rfl (wpAny_Constant_str ?_)))))
    refine PyProof.Rows.add_str (fun t12 k12 => ?_) (by rw [sizeLine_eq]; have : (Str.ofString ".").length = 1 := rfl; omega)
    refine Calls.spliced_nil (SC.startswith (wpAny_truthy_bool ?_))
    have S12 := (S11.toks k12).weakenHead (P' := LocO [("modulename", .str k tk), ("filename", .str fn tf), ("self", .ref x)]) fun o h => LocO.sub (kvs' := [("modulename", .str k tk), ("filename", .str fn tf), ("self", .ref x)]) ⟨rfl, rfl, rfl, trivial⟩ h
    cases hw : Txt.startswith k (nm ++ Str.ofString ".") with
    | true =>
      rw [if_pos rfl]
      have S13 := S12.put (s' := { s11 with toks := k12 }) (P' := Set1 w nm) (.tail (.tail (.tail .head))) (Heap.ExtBut.refl _ _) (let ⟨o, h1, h2⟩ := S12.has (m, Is so) (.tail _ (.tail _ (.tail _ (.head _)))); ⟨o, h1, by rw [show o = so from h2]; exact hso2⟩) rfl rfl
      refine put_ret (more := [(it, Is (setIt m (nextSlot w so) 1 (epOf so)))]) hes hk hlen rfl rfl S13 fun t t' s6 S6 => ?_
      exact ret 1 (by unfold namesV; rw [hw]; simp) S6
    | false =>
      rw [if_neg (by simp)]
      refine wpAny_execs_nil ?_
      dsimp only
      refine wpAny_execs_nil ?_
      dsimp only
      exact ⟨0, by omega, .inr ⟨rfl, rfl, S12⟩⟩
  · have S9' := S9.perm (List.perm_append_comm (l₁ := [(L, LocO [("modulename", .str k tk), ("filename", .str fn tf), ("self", .ref x)]), (ig, DO prog w kvs), (d, ListO [.str dir td]), (m, Is so), (x, Is (instObj 86 dx)), (dx, Is (dictOf es n))]) (l₂ := [(it, Is (setIt m (nextSlot w so) 1 (epOf so)))]))
    have hso9 := S9.isAt (a := m) (o := so) (.tail _ (.tail _ (.tail _ (.head _))))
    refine setItB R.h S9' hso9 hso2 fun s10 S10 => ?_
    dsimp only
    refine wpAny_execs_nil ?_
    dsimp only
    have S11 := S10.put (s' := s10) (P' := Set1 w nm) (.tail (.tail (.tail .head))) (Heap.ExtBut.refl _ _) (let ⟨o, h1, h2⟩ := S10.has (m, Is so) (.tail _ (.tail _ (.tail _ (.head _)))); ⟨o, h1, by rw [show o = so from h2]; exact hso2⟩) rfl rfl
    clear S S2 S3 S4 S5 S6 S7 S8 S8' S9 S9' S10
    refine wpAny_execs_cons (wpAny_If (wpAny_isTrue_Compare1 (nmL S11 rfl (wpAny_Constant_none (wpAny_is_other rfl (fun e => nomatch e) (wpAny_truthy_bool ?_))))))
    rw [if_neg (by simp)]
    refine wpAny_execs_nil ?_
    dsimp only
    refine wpAny_execs_cons (wpAny_For (Attribute_name (nmL S11 rfl (getA (C := 86) (x := x) (dx := dx) (es := es) (n := n) S11 (.tail _ (.tail _ (.tail _ (.tail _ (.head _))))) (.tail _ (.tail _ (.tail _ (.tail _ (.tail _ (.head _)))))) rfl rfl (attr := none) rfl rfl hes.d rfl fun s12 S12 => ?_))))
    refine wpAny_pyIter_list (S12.isList (.tail _ (.tail _ (.head _)))) ?_
    have S13 := S12.push (P := IterO d 0) (o := { cls := .type "list_iterator", data := .fields #[.ref d, .int 0 0] }) ⟨rfl, rfl⟩
    generalize s12.heap.objs.size = it2 at S13
    have S13' := S13.perm (List.perm_append_comm (l₁ := [(it2, IterO d 0)]) (l₂ := [(L, LocO [("modulename", .str k tk), ("filename", .str fn tf), ("self", .ref x)]), (ig, DO prog w kvs), (d, ListO [.str dir td]), (m, Set1 w nm), (x, Is (instObj 86 dx)), (dx, Is (dictOf es n))]))
    refine codeAny_forLoop (fun c s => (c = 1 ∧ St w h₀ os gs ((L, LocO [("modulename", .str k tk), ("filename", .str fn tf), ("self", .ref x)]) :: (rdLed prog w x dx m d ig nm (.str dir td) es n kvs ++ [(it2, IterO d 0)])) s) ∨
      (c = 0 ∧ Txt.startswith fn (dir ++ Str.ofString "/") = false ∧ St w h₀ os gs ((L, LocO [("modulename", .str k tk), ("filename", .str fn tf), ("self", .ref x)]) :: (rdLed prog w x dx m d ig nm (.str dir td) es n kvs ++ [(it2, IterO d 1)])) s)) ?_ 1 (.inl ⟨rfl, S13'⟩)
    rintro c s14 (⟨rfl, S14⟩ | ⟨rfl, hsw2, S14⟩)
    · refine wpAny_pyNext_list_item (S14.isIter (.tail _ (.tail _ (.tail _ (.tail _ (.tail _ (.tail _ (.head _)))))))) (S14.isList (.tail _ (.tail _ (.head _)))) (x := .str dir td) rfl fun h' hit' hs' => ?_
      dsimp only
      have S15 := S14.put (s' := { s14 with heap := h' }) (led' := (L, LocO [("modulename", .str k tk), ("filename", .str fn tf), ("self", .ref x)]) :: (rdLed prog w x dx m d ig nm (.str dir td) es n kvs ++ [(it2, IterO d 1)])) (P' := IterO d 1) (.tail (.tail (.tail (.tail (.tail (.tail .head)))))) hs'.extBut hit' rfl rfl
      refine asN (stL S15 fun s16 S16 => ?_)
      refine wpAny_execs_cons (wpAny_If (isTrue_plain ?_))
      refine Call_method1 rfl rfl rfl (nmL S16 rfl ⟨"str", "str.startswith", F.plainAttrs_str, F.slot_str_startswith, F.type_str_startswith, typeIs_str _ _ _, (fun _ e => nomatch e), ?_⟩)
      obtain ⟨tsep, hsep⟩ := sepAt (w := w)
      refine Calls.callWith_builtin rfl (Calls.evalArgs_plain (Calls.spliced_cons (wpAny_BinOp (nmL S16 rfl (nmG S16 hsep ?_)))))
      refine PyProof.Rows.add_str (fun t12 k12 => ?_) (by rw [sizeLine_eq]; have : (Str.ofString "/").length = 1 := rfl; omega)
      refine Calls.spliced_nil (SC.startswith (wpAny_truthy_bool ?_))
      have S17 := (S16.toks k12).weakenHead (P' := LocO [("modulename", .str k tk), ("filename", .str fn tf), ("self", .ref x)]) fun o h => LocO.sub (kvs' := [("modulename", .str k tk), ("filename", .str fn tf), ("self", .ref x)]) ⟨rfl, rfl, rfl, trivial⟩ h
      cases hw : Txt.startswith fn (dir ++ Str.ofString "/") with
      | true =>
        rw [if_pos rfl]
        refine put_ret (more := [(it2, IterO d 1)]) hes hk hlen rfl rfl S17 fun t t' s6 S6 => ?_
        exact ret 1 (by unfold namesV; rw [hw]; simp) S6
      | false =>
        rw [if_neg (by simp)]
        refine wpAny_execs_nil ?_
        dsimp only
        refine wpAny_execs_nil ?_
        dsimp only
        exact ⟨0, by omega, .inr ⟨rfl, rfl, S17⟩⟩
    · have S14' := S14.perm (List.perm_append_comm (l₁ := [(L, LocO [("modulename", .str k tk), ("filename", .str fn tf), ("self", .ref x)]), (ig, DO prog w kvs), (d, ListO [.str dir td]), (m, Set1 w nm), (x, Is (instObj 86 dx)), (dx, Is (dictOf es n))]) (l₂ := [(it2, IterO d 1)]))
      refine wpAny_pyNext_list_end R.h (S14'.isIter (.head _)) (S14'.isList (.tail _ (.tail _ (.tail _ (.head _))))) rfl fun h' hx' => ?_
      dsimp only
      have S15 := S14'.lose (s' := { s14 with heap := h' }) (led' := [(L, LocO [("modulename", .str k tk), ("filename", .str fn tf), ("self", .ref x)]), (ig, DO prog w kvs), (d, ListO [.str dir td]), (m, Set1 w nm), (x, Is (instObj 86 dx)), (dx, Is (dictOf es n))]) (.head _) hx' (fun p hp => ⟨.tail _ hp, fun e => (List.nodup_cons.mp S14'.nodup).1 (List.mem_map.mpr ⟨p, hp, e⟩)⟩) (List.nodup_cons.mp S14'.nodup).2 rfl rfl
      refine wpAny_execs_nil ?_
      dsimp only
      refine put_ret (more := []) hes hk hlen rfl rfl (by rw [List.append_nil]; exact S15) fun t t' s6 S6 => ?_
      exact ret 0 (by unfold namesV; rw [hq, hsw, hsw2]; rfl) S6

theorem bind83 {w : World} (a b c : Value) : bindArgs (fdAt w 83) ⟨[a, b, c], []⟩ = pure [((Str.ofString "self" : Str), a), (Str.ofString "filename", b), (Str.ofString "modulename", c)] := by kernel_rfl
theorem enterE {f : Addr} {fd : FuncData} {o : Obj} {body : List Stmt} {args : List Value} {kw : List (Str × Value)} {binds : List (Str × Value)} {R : Result → Shared → Prop} {n : Nat}
    (S : St w h₀ os gs led s) (RM : Room A n) (ho : (KH w).lookup f = some o) (hdata : o.data = .func fd) (hcd : codeIn (KH w) fd.code fd.qualname = true) (hbody : fd.body = .stmts body)
    (hbind : bindArgs fd ⟨args, kw⟩ = pure binds) (hcell : ∀ x ∈ fd.scope.names, x.2 ≠ .cell) (hloc : ∀ x ∈ binds, fd.scope.names.lookup x.1 = some .local)
    (h : ∀ E' s', St w h₀ os gs ((s.heap.objs.size, LocO binds.reverse) :: led) s' →
      wpAny (model prog w) (A.deeper (callEnv fd s.heap.objs.size f)) (execs body (callEnv fd s.heap.objs.size f)) (fun fl s'' => R (.ok (.ret (match fl with | .ret v => v | _ => .none))) s'') E' s')
    (hco : fd.scope.isCoroutine = false := by rfl) (hgen : fd.scope.isGenerator = false := by rfl) (hk : fd.scope.kind = .function := by rfl) :
    codeAny (model prog w) A (.call (.ref f) ⟨args, kw⟩) R s := enterO S RM ho hdata hcd hbody (BindsTo.of_eq hbind) hcell hloc h hco hgen hk
theorem names_call {x dx m d ig : Addr} {nm dir fn k : Str} {tf tk td : Tok} {es : List DictEntry} {n r : Nat} {kvs : List (Str × Value)} {Q : Value → Shared → Prop} (R : Room A (r + 1))
    (hes : RdEs m d ig es) (hk : k ∉ kvs.map (·.1)) (hlen : kvs.length ≤ 1000) (h1 : nm.length ≤ 10000) (h2 : dir.length ≤ 10000)
    (S : St w h₀ os gs (rdLed prog w x dx m d ig nm (.str dir td) es n kvs ++ led) s)
    (h : ∀ t t' s', St w h₀ os gs (rdLed prog w x dx m d ig nm (.str dir td) es n (kvs ++ [(k, .int (if namesV nm dir fn k then 1 else 0) t')]) ++ led) s' → Q (.int (if namesV nm dir fn k then 1 else 0) t) s') :
    wpAny (model prog w) A (call (.ref 83) [.ref x, .str fn tf, .str k tk]) Q E s := by
  refine wpAny_call ?_
  refine enterE S.mine R (f := 83) (o := objAt w 83) (fd := fdAt w 83) (body := bNames) rfl rfl rfl rfl (bind83 _ _ _) (noCell rfl) (locs rfl) fun E' s1 S1 => ?_
  exact names_body (R.deeper _) hes hk hlen h1 h2 S1 fun t t' s' S' => h t t' s' (S.unmine S')

theorem getNames {x dx m d ig : Addr} {nm : Str} {dir : Value} {es : List DictEntry} {n : Nat} {kvs : List (Str × Value)} {pl : Sem Bool} {Q : Value × List Value → Shared → Prop}
    (S : St w h₀ os gs led s) (hx : (x, Is (instObj 86 dx)) ∈ led) (hd : (dx, Is (dictOf es n)) ∈ led) (hes : RdEs m d ig es) (h : Q (.ref 83, [.ref x]) s) :
    wpAny (model prog w) A (getMethod (.ref x) "names" pl) Q E s :=
  method_fn S.KIn (S.inst hx hd) (plainGet_of (K := KH w) (C := 86) (name := "names") rfl).1 (plainGet_of (K := KH w) (C := 86) (name := "names") rfl).2 rfl rfl (by show (lookIn "names" (dictOf es n)).map _ = _; rw [lookIn_dict, hes.no]; rfl) h
end
end Mine


/-! # R1 -/
namespace Mine
/-! ## exceptions on their way -/
section
variable {M : Model} {A : Around} {E : Value → Shared → Prop} {s : Shared}

theorem noteFirst {base : Heap} {env : Env} {outer : List Env} {L e : Addr} {oe : Obj} {vs : Array Value} {a0 : Value} {Q : Unit → Shared → Prop}
    (hfr : A.frames = some (env :: outer)) (hl : s.heap.FunFrames base (env :: outer)) (hf : env.frame = some L)
    (he : s.heap.get? e = some oe) (hkb : base.StaysIn s.heap) (hen : base.get? e = none) (hd : oe.data = .fields vs) (h1 : vs[1]? = some .none) (h0 : vs[0]? = some a0)
    (h : ∀ h', Heap.HeldW base (env :: outer) e oe.cls a0 L h' → s.heap.UpToSlots h' → Q () { s with heap := h' }) : wpAny M A (noteFrame (.ref e) env) Q E s := by
  unfold noteFrame
  simp only [hf]
  refine wpAny_bind (wpAny_field he hd h1 ?_)
  rw [if_neg (by decide)]
  exact wpAny_entryW hfr hl hf he hkb hen hd (Array.getElem?_eq_some_iff.mp h1).1 h0 fun h' ⟨x1, x2, x3, x4⟩ => h h' ⟨x1, hen, x2, x3⟩ x4

/-- the traceback's record changes at its place of flight alone -/
theorem flySome {base : Heap} {l : List Env} {e L : Addr} {cls a0 : Value} {Q : Unit → Shared → Prop} (hh : Heap.HeldW base l e cls a0 L s.heap)
    (h : ∀ h', Heap.HeldW base l e cls a0 L h' → s.heap.UpToSlots h' → Q () { s with heap := h' }) :
    wpAny M A (setFlight (.ref e) (some L)) Q E s := by
  obtain ⟨stay, fresh, frs, oe, vs, T, oT, ts, atE, isE, dE, tbE, newT, apart, atT, dT, fl⟩ := hh
  have room : 3 < ts.size := (Array.getElem?_eq_some_iff.mp fl).1
  have now : ∀ f : Obj → Obj, (∀ b o, b ≠ T → s.heap.get? b = some o → (s.heap.update T f).get? b = some o) ∧ ∀ b o, s.heap.get? b = some o → (∀ vs, o.data ≠ .fields vs) → (s.heap.update T f).get? b = some o := by
    intro f
    have keep := (Heap.SameBut.update s.heap T f).extBut
    refine ⟨fun b o ne at_ => keep b o ne at_, fun b o at_ no => keep b o ?_ at_⟩
    rintro rfl
    exact no ts ((Option.some.inj (at_.symm.trans atT)) ▸ dT)
  unfold setFlight
  refine wpAny_bind (wpAny_field atE dE tbE ?_)
  rw [show (Value.ref T != Value.none) = true by simp, if_pos rfl]
  refine wpAny_setField atT dT room (h _ ⟨fun b o at_ => (now _).1 b o ?_ (stay b o at_), fresh, frs.of_keeps fun b o at_ no => ⟨o, (now _).2 b o at_ no, rfl⟩, ?_⟩ (fun b o at_ no => ⟨_, (now _).2 b o at_ no⟩))
  · rintro rfl
    rw [newT] at at_; cases at_
  · have d' := Obj.data_mapFields dT (·.setIfInBounds 3 (rawInt L))
    exact ⟨oe, vs, T, _, _, (now _).1 e oe (Ne.symm apart) atE, isE, dE, tbE, newT, apart, Heap.get?_update_self _ atT (Obj.isFreed_of_fields d'), d', by simp [room]⟩

theorem cameBack {base : Heap} {l : List Env} {e L : Addr} {cls a0 : Value} {env : Env} {Q : Unit → Shared → Prop} {what : String} (hf : env.frame = some L) (hh : Heap.HeldW base l e cls a0 L s.heap)
    (h : ∀ h', Heap.HeldW base l e cls a0 L h' → s.heap.UpToSlots h' → Q () { s with heap := h' }) :
    wpAny M A (do
      if (← field (.ref e) 1) == Value.none then unsupported what
      setFlight (.ref e) env.frame) Q E s := by
  obtain ⟨-, -, -, oe, vs, T, -, -, atE, -, dE, tbE, -⟩ := id hh
  refine wpAny_bind <| wpAny_field atE dE tbE ?_
  rw [show (Value.ref T == Value.none) = false by simp, if_neg Bool.false_ne_true, hf]
  exact flySome hh h
theorem leaveHeld {base : Heap} {env : Env} {outer : List Env} {L e : Addr} {cls a0 : Value} {Q : Unit → Shared → Prop} (hf : env.frame = some L) (hh : Heap.HeldW base (env :: outer) e cls a0 L s.heap)
    (hQ : ∀ h', Heap.FlyingW base outer e cls a0 h' → s.heap.UpToSlots h' → Q () { s with heap := h' }) : wpAny M A (leaving env (.ref e)) Q E s :=
  wpAny_bind (wpAny_noteFrame_againW hf hh.2.2.2 (wpAny_landsW hh fun h' x u => hQ h' ⟨x.1, x.2.1, x.2.2.1.2.2, x.2.2.2⟩ u))
end

section
variable {prog : Program} {w : World} {A : Around} {E : Value → Shared → Prop} {s : Shared} {h₀ : Base} {os : OsState} {gs : Array GenState} {led led' : Led} {env : Env} {kvs : List (Str × Value)} {B : Heap}
def Locs (led : Led) : Prop := ∀ p ∈ led, ∃ k, p.2 = LocO k
theorem LocO.slots {kvs : List (Str × Value)} {o : Obj} (h : LocO kvs o) : (∀ vs, o.data ≠ .fields vs) ∧ ∀ sl, LocO kvs { o with slots := sl } := by
  obtain ⟨m, ⟨es, ep, hd, h1, h2⟩, h3⟩ := h
  exact ⟨fun vs q => (by rw [hd] at q; cases q), fun sl => ⟨m, ⟨es, ep, hd, h1, h2⟩, h3⟩⟩
theorem St.flown (S : St w B.get? os gs led s) (hl : Locs led) {h' : Heap} (k : B.StaysIn h') (u : s.heap.UpToSlots h') : St w B.get? os gs led { s with heap := h' } := by
  refine ⟨S.top, k, fun p hp => ?_, S.new, S.nodup, S.os, S.gens⟩
  obtain ⟨kv, e⟩ := hl p hp
  obtain ⟨o, h1, h2⟩ := S.has p hp
  rw [e] at h2
  obtain ⟨h3, h4⟩ := h2.slots
  obtain ⟨sl, h5⟩ := u _ _ h1 h3
  exact ⟨_, h5, by rw [e]; exact h4 sl⟩
theorem St.frames (S : St w B.get? os gs led s) : ∀ {l : List Env}, (∀ env ∈ l, env.scope.kind ≠ .module ∧ ∃ L k, env.frame = some L ∧ (L, LocO k) ∈ led) → s.heap.FunFrames B l
  | [], _ => trivial
  | env :: r, h => by
    obtain ⟨h1, L, k, h2, h3⟩ := h env (.head _)
    obtain ⟨o, h4, h5⟩ := S.has _ h3
    exact ⟨h1, ⟨L, o, h2, S.new _ h3, h4, h5.slots.1⟩, S.frames fun e he => h e (.tail _ he)⟩
end
end Mine


/-! # R2 -/
namespace Mine
section
variable {prog : Program} {w : World} {A : Around} {E : Value → Shared → Prop} {s s₀ : Shared} {os : OsState} {gs : Array GenState} {fl : Led} {B : Heap} {outer : List Env}

def BoomR (w : World) (B : Heap) (outer : List Env) (os : OsState) (gs : Array GenState) (fl : Led) : GenEnd := fun n s₀ r s₁ => ∃ e a0, r = .error (.ref e) ∧ Heap.FlyingW B outer e (.type "ValueError") a0 s₁.heap ∧ St w B.get? os gs fl s₁

set_option maxHeartbeats 4000000 in
theorem seg_boom {Y : Protocol} {n : Nat} {L l : Addr} {t0 : Tok} {rest : List Value} (hh : A.handled = none) (hfr : A.frames = some outer)
    (hout : ∀ env ∈ outer, env.scope.kind ≠ .module ∧ ∃ L k, env.frame = some L ∧ (L, LocO k) ∈ fl) (hfl : Locs fl)
    (hl : ∃ o, B.get? l = some o ∧ ListO (.int 0 t0 :: rest) o) (S : St w B.get? os gs ((L, LocO [("grouping", .ref l)]) :: fl) s) :
    Seg (model prog w) A (BoomR w B outer os gs fl) Y n s₀ (gFunc w L) ((model prog w).den (gFunc w L)) [] s := by
  obtain ⟨ol, hl1, hl2⟩ := hl
  refine seg_func ?_
  refine seg_execs_cons (seg_plain ?_)
  refine wpAny_Assign_Name (wpAny_Constant_none (stL S fun s1 S1 => ?_))
  dsimp only
  refine seg_execs_cons (seg_For ?_)
  refine nmL S1 rfl (wpAny_pyIter_list (hl2.at (S1.keep _ _ hl1)) ?_)
  intro p
  have S2 := (S1.push (P := IterO l 0) (o := { cls := .type "list_iterator", data := .fields #[.ref l, .int 0 0] }) ⟨rfl, rfl⟩).swap
  generalize s1.heap.objs.size = it at S2
  have hA : (A.over (gCode w L it) [gFrame w L p]).handled = none := by
    show (marksOver _ (A.handled, A.handled)).1 = none
    rw [hh]; rfl
  have hF : (A.over (gCode w L it) [gFrame w L p]).frames = some (eG w L :: outer) := by
    unfold Around.over
    dsimp only
    rw [hfr]; rfl
  refine seg_forLoop ?_
  refine wpAny_pyNext_list_item (S2.isIter (.tail _ (.head _))) (hl2.at (S2.keep _ _ hl1)) (x := .int 0 t0) (by simp) fun h' hit' hs' => ?_
  dsimp only
  have S3 := S2.put (s' := { s1 with heap := h' }) (P' := IterO l 1) (.tail .head) hs'.extBut hit' rfl rfl
  refine stL S3 fun s4 S4 => ?_
  refine seg_execs_cons (seg_If ?_)
  refine wpAny_isTrue_Compare1 (nmL S4 rfl (nmG S4 (v := .int 127 196) rfl (eq_int (wpAny_truthy_bool ?_))))
  rw [if_neg (by decide)]
  refine seg_execs_nil ?_
  dsimp only
  refine seg_execs_cons (seg_If ?_)
  refine wpAny_isTrue_Compare1 (nmL S4 rfl (wpAny_Constant_int (eq_int (wpAny_truthy_bool ?_))))
  rw [if_pos (by rfl)]
  have S5 := S4.toks (s4.toks + 1)
  refine seg_execs_cons (seg_If ?_)
  refine wpAny_isTrue_Compare1 (nmL S5 rfl (wpAny_Constant_none (is_none (wpAny_truthy_bool ?_))))
  rw [if_pos (by rfl)]
  refine seg_execs_cons (seg_plain ?_)
  refine wpAny_Raise_call F.excCall_ValueError F.excRaise_ValueError hA rfl ?_
  refine nmB S5 (v := .type "ValueError") rfl bb_ve ⟨rfl, ?_⟩
  refine Calls.evalArgs_plain (spliced_more (wpAny_Constant_str (spliced_none ⟨rfl, by simp [sizeLine_eq], fun h6 e hm => ?_⟩)))
  have S6 := (S5.toks (s4.toks + 1 + 1)).grow (s' := { s4 with heap := h6, toks := s4.toks + 1 + 1 }) hm.keeps rfl rfl
  obtain ⟨t6, he6, _, _⟩ := hm.there
  have hBe : B.get? e = none := by
    cases q : B.get? e with
    | none => rfl
    | some o => have := S4.keep _ _ q; rw [hm.new] at this; cases this
  have S7 : St w B.get? os gs ((L, LocO [("grouping", .ref l)]) :: fl) { s4 with heap := h6, toks := s4.toks + 1 + 1 } := S6.drop2.weakenHead (P' := LocO [("grouping", .ref l)]) fun o h => LocO.sub (kvs' := [("grouping", .ref l)]) ⟨rfl, trivial⟩ h
  have hL' : Locs ((L, LocO [("grouping", .ref l)]) :: fl) := fun p hp => by
    rcases List.mem_cons.mp hp with rfl | hp
    · exact ⟨_, rfl⟩
    · exact hfl p hp
  have hfun := S7.frames (l := eG w L :: outer) (fun env he => by
    rcases List.mem_cons.mp he with rfl | he
    · exact ⟨(fun e => nomatch (show ScopeKind.function = .module from e)), L, _, rfl, .head _⟩
    · obtain ⟨h1, L', k', h2, h3⟩ := hout env he
      exact ⟨h1, L', k', h2, .tail _ h3⟩)
  show Seg _ _ _ _ _ _ _ (noted (eG w L) (.ref e)) _ _
  unfold noted
  refine seg_wrap (wpAny_bind (noteFirst hF hfun rfl he6 S7.keep hBe rfl rfl rfl fun h8 hh8 u8 => wpAny_theTreesLotGoes ?_))
  have S8 := S7.flown hL' hh8.1 u8
  refine seg_leaf (k := backOwn (eG w L) (forK (eG w L)) (funH (eG w L)) id id) (.error (.ref e)) ?_
  unfold backOwn
  refine seg_wrap (wpAny_onRaise (wpAny_throw (cameBack rfl hh8 fun h9 hh9 u9 => ?_)))
  have S9 := S8.flown hL' hh9.1 u9
  unfold funH
  refine seg_wrap (leaveHeld rfl hh9 fun h10 hh10 u10 => ?_)
  have S10 := S9.flown hL' hh10.1 u10
  exact seg_end (.error (.ref e)) ⟨e, _, rfl, hh10, S10.tail⟩

theorem sub_ve_stop : isSubtype (.type "ValueError") (.type "StopIteration") = pure false := by rw [isSubtype_type]; kernel_rfl

/-- the first next of a generator over a row that opens with 0 -/
theorem next_boom {L l a : Addr} {gi : Nat} {t0 : Tok} {rest : List Value} {Q : Option Value → Shared → Prop} (hh : A.handled = none) (hfr : A.frames = some outer) (hroom : A.depth < recursionLimit)
    (hout : ∀ env ∈ outer, env.scope.kind ≠ .module ∧ ∃ L k, env.frame = some L ∧ (L, LocO k) ∈ fl) (hfl : Locs fl)
    (hl : ∃ o, B.get? l = some o ∧ ListO (.int 0 t0 :: rest) o) (ha : ∃ o, B.get? a = some o ∧ GenO gi o) (hgs : gs[gi]? = some (.fresh (gFunc w L)))
    (S : St w B.get? os gs ((L, LocO [("grouping", .ref l)]) :: fl) s)
    (h : ∀ e a0 gs' s', (AllBare gs → AllBare gs') → Heap.FlyingW B outer e (.type "ValueError") a0 s'.heap → St w B.get? os gs' fl s' → E (.ref e) s') :
    wpAny (model prog w) A (pyNext (.ref a)) Q E s := by
  obtain ⟨oa, ha1, ha2⟩ := ha
  have hg0 : s.gens[gi]? = some (.fresh (gFunc w L)) := by rw [S.gens]; exact hgs
  have hg : s.heap.IsGen a gi := by obtain ⟨nm, qn, h2⟩ := ha2; exact ⟨oa, nm, qn, S.keep _ _ ha1, h2⟩
  have S0 : St w B.get? os (s.setGen gi .running).gens ((L, LocO [("grouping", .ref l)]) :: fl) (s.setGen gi .running) := ⟨S.top, S.keep, S.has, S.new, S.nodup, S.os, rfl⟩
  refine nextBy hg.typeIs slot_gen_next entry_gen_next (args_gen_next _) ?_
  refine genWoken (n := 0) (R := BoomR w B outer os (s.setGen gi .running).gens fl) (Y := fun _ _ _ _ _ => False) S.topNow.noLimit hroom hg hg0 ⟨rfl, seg_boom (s₀ := s.setGen gi .running) (A := A.in1) hh hfr hout hfl hl S0⟩ (fun x s₁ hx => ?_) (fun v s₁ gs' hb hv => hv.elim)
  obtain ⟨e, a0, rfl, hfly, S1⟩ := hx
  refine .inr ⟨_, rfl, ?_⟩
  have hg1 : s₁.gens[gi]? = some .running := by rw [S1.gens]; exact setGen_self hg0
  have S2 : St w B.get? os (s₁.setGen gi .finished).gens fl (s₁.setGen gi .finished) := ⟨S1.top, S1.keep, S1.has, S1.new, S1.nodup, S1.os, rfl⟩
  obtain ⟨oe, he, hcls⟩ := hfly.there
  have hT : Shared.TypeIs (s₁.setGen gi .finished) (.ref e) "ValueError" := ⟨oe, he, hcls⟩
  unfold Builtin.Generator.genLeft Builtin.Generator.madeByALambda Builtin.Generator.genEscaped
  refine wpAny_bind (wpAny_bind (wpAny_load (S2.keep _ _ ha1) (wpAny_pure ?_)))
  obtain ⟨nm, qn, h2, h3, _⟩ := ha2
  rw [h2, h3]
  refine wpAny_bind (wpAny_isInstance hT sub_ve_stop ?_)
  rw [if_neg (by simp)]
  refine wpAny_bind (wpAny_isInstance hT sub_ve_stop ?_)
  dsimp only
  rw [if_pos (by rfl)]
  refine wpAny_bind (wpAny_throw ?_)
  refine wpAny_bind (wpAny_isInstance hT sub_ve_stop ?_)
  rw [if_neg (by simp)]
  refine wpAny_throw (h e a0 _ _ (fun hb => ?_) hfly S2)
  have b1 : AllBare s.gens := by rw [S.gens]; exact hb
  refine (GenOnlyQ.of (g := gi) (GenOnly.trans (GenOnly.setGen s gi .running) ?_) (setGen_self hg1) rfl).bare b1
  have := GenOnly.setGen s₁ gi .finished
  rw [S1.gens] at this
  exact this
end
end Mine


/-! # R3 -/
namespace Mine
/-! ## a heap without some addresses -/
def freeAt (h : Heap) (a : Addr) : Heap := h.update a fun o => { o with data := .freed }
def freeAll (h : Heap) : List Addr → Heap
  | [] => h
  | a :: r => freeAt (freeAll h r) a
theorem freeAt_self (h : Heap) (a : Addr) : (freeAt h a).get? a = none := by
  obtain ⟨objs, l⟩ := h
  show (match (objs.modify a _)[a]? with | some ⟨_, _, .freed, _⟩ => none | o => o) = none
  rw [Array.getElem?_modify, if_pos rfl]
  cases objs[a]? with
  | none => rfl
  | some o => rfl
theorem freeAll_get (h : Heap) : ∀ (as : List Addr) (b : Addr), (freeAll h as).get? b = (open Classical in if b ∈ as then none else h.get? b)
  | [], b => by simp [freeAll]
  | a :: r, b => by
    by_cases e : b = a
    · subst e; rw [freeAll, freeAt_self, if_pos (.head _)]
    · rw [freeAll, freeAt, Heap.get?_update_other _ _ (Ne.symm e), freeAll_get h r b]
      by_cases hr : b ∈ r
      · rw [if_pos hr, if_pos (.tail _ hr)]
      · rw [if_neg hr, if_neg]; intro hm; rcases List.mem_cons.mp hm with q | q
        · exact e q
        · exact hr q
theorem but_heap (h : Heap) (own : Led) : but h own = (freeAll h (own.map (·.1))).get? := by
  funext b; rw [freeAll_get]; rfl

section
variable {prog : Program} {w : World} {A : Around} {E : Value → Shared → Prop} {s : Shared} {h₀ : Base} {os : OsState} {gs : Array GenState} {led led' : Led} {env : Env} {kvs : List (Str × Value)}

theorem sub_ve_ve : isSubtype (.type "ValueError") (.type "ValueError") = pure true := by rw [isSubtype_type]; kernel_rfl
theorem sub_ve_base : isSubtype (.type "ValueError") (.type "BaseException") = pure true := by rw [isSubtype_type]; kernel_rfl
theorem sub_ve_tup : isSubtype (.type ((Manifest.find? "ValueError").elim "type" fun x => x.metatype)) (.type "tuple") = pure false := by rw [isSubtype_type]; kernel_rfl

set_option maxHeartbeats 8000000 in
theorem boom_body {L Ll : Addr} {el : Env} {n : Int} {tn t0 : Tok} {l : Addr} {rest : List Value} {mkv : Value} {kl : List (Str × Value)} {Q : Flow → Shared → Prop}
    (R : Room A 3) (hfr : A.frames = some [eW w L, el]) (hel : el.frame = some Ll) (hek : el.scope.kind = .function) (S : St w h₀ os gs [(L, LocO [("mark", mkv), ("sizes", .ref l), ("number", .int n tn)]), (Ll, LocO kl)] s)
    (hl : ∃ o, h₀ l = some o ∧ ListO (.int 0 t0 :: rest) o) (hb : AllBare gs) (hn : n.natAbs < 10 ^ 12)
    (h : ∀ gs' s', AllBare gs' → St w h₀ os gs' [(Ll, LocO kl)] s' → Q (.ret .none) s') :
    wpAny (model prog w) A (execs bW (eW w L)) Q E s := by
  refine wpAny_execs_cons (wpAny_Assign_Name ?_)
  refine Call_name1 rfl (nmB S (v := .type "str") rfl bb_str (callWith_type1 (nmL S rfl ?_)))
  refine P.str_of_int (log2_small hn) ?_
  have S1 := S.toks (s.toks + 1)
  refine stL S1 fun s2 S2 => ?_
  refine wpAny_execs_cons (wpAny_Assign_Name (List_ (spliced_none ?_)))
  refine nwList S2 (fun gl s3 hgl S3 => ?_) (by simp)
  refine stL S3.swap fun s4 S4 => ?_
  dsimp only
  refine wpAny_execs_cons (wpAny_Try_except ?_)
  refine wpAny_execs_cons (wpAny_For ?_)
  refine Call_ (nmG S4 (v := .ref 28) rfl (callWith_def (o := objAt w 28) (fd := fdAt w 28) rfl (spliced_more (nmL S4 rfl (spliced_none ⟨S4.topNow.obj rfl, ?_⟩)))))
  refine call_gen S4 R fun Lg a s5 hLa hLs S5 => ?_
  refine wpAny_pyIter_gen (S5.isGen (.head _)) ?_
  have S6 : St w h₀ os (gs.push (.fresh (gFunc w Lg))) ([(Lg, LocO [("grouping", .ref l)]), (L, LocO [("sizes", .ref l)]), (Ll, LocO kl)] ++ [(a, GenO gs.size), (gl, ListO [])]) s5 := by
    refine S5.sub (fun p hp => ?_) ?_
    · simp only [List.cons_append, List.nil_append, List.mem_cons, List.not_mem_nil, or_false] at hp
      rcases hp with rfl | rfl | rfl | rfl | rfl
      · exact ⟨_, .tail _ (.head _), rfl, fun _ h => h⟩
      · exact ⟨_, .tail _ (.tail _ (.head _)), rfl, fun o h => LocO.sub (kvs' := [("sizes", .ref l)]) ⟨rfl, trivial⟩ h⟩
      · exact ⟨_, .tail _ (.tail _ (.tail _ (.tail _ (.head _)))), rfl, fun _ h => h⟩
      · exact ⟨_, .head _, rfl, fun _ h => h⟩
      · exact ⟨_, .tail _ (.tail _ (.tail _ (.head _))), rfl, fun _ h => h⟩
    · have nd : [a, Lg, L, gl, Ll].Nodup := S5.nodup
      show [Lg, L, Ll, a, gl].Nodup
      simp only [List.nodup_cons, List.mem_cons, List.not_mem_nil, or_false, not_or, not_false_eq_true, List.nodup_nil, and_true] at nd ⊢
      obtain ⟨⟨n1, n2, n3, n4⟩, ⟨n5, n6, n7⟩, ⟨n8, n9⟩, n10⟩ := nd
      exact ⟨⟨n5, n7, fun e => n1 e.symm, n6⟩, ⟨n9, fun e => n2 e.symm, n8⟩, ⟨fun e => n4 e.symm, fun e => n10 e.symm⟩, n3⟩
  have S7 := S6.mine
  rw [but_heap] at S7
  obtain ⟨ol, hl1, hl2⟩ := hl
  have hlB : ∃ o, (freeAll s5.heap ([(Lg, LocO [("grouping", .ref l)]), (L, LocO [("sizes", .ref l)]), (Ll, LocO kl)].map (·.1))).get? l = some o ∧ ListO (.int 0 t0 :: rest) o := by
    rw [← but_heap]; exact ⟨ol, S6.inBut (S6.keep _ _ hl1) (.inl hl1), hl2⟩
  have haB : ∃ o, (freeAll s5.heap ([(Lg, LocO [("grouping", .ref l)]), (L, LocO [("sizes", .ref l)]), (Ll, LocO kl)].map (·.1))).get? a = some o ∧ GenO gs.size o := by
    rw [← but_heap]
    obtain ⟨o, h1, h2⟩ := S6.has (a, GenO gs.size) (.tail _ (.tail _ (.tail _ (.head _))))
    exact ⟨o, S6.inBut h1 (.inr (.head _)), h2⟩
  have fin : ∀ gs' s', St w (freeAll s5.heap ([(Lg, LocO [("grouping", .ref l)]), (L, LocO [("sizes", .ref l)]), (Ll, LocO kl)].map (·.1))).get? os gs' [(L, LocO [("sizes", .ref l)]), (Ll, LocO kl)] s' → St w h₀ os gs' [(Ll, LocO kl)] s' := by
    intro gs' s' S'
    rw [← but_heap] at S'
    have S'' := S6.unmine S'
    exact S''.sub (fun p hp => ⟨p, by obtain rfl := List.mem_singleton.mp hp; exact .tail _ (.head _), rfl, fun _ h => h⟩) (List.nodup_cons.mpr ⟨List.not_mem_nil, List.nodup_nil⟩)
  generalize freeAll s5.heap ([(Lg, LocO [("grouping", .ref l)]), (L, LocO [("sizes", .ref l)]), (Ll, LocO kl)].map (·.1)) = B at S7 hlB haB fin
  have hloc : Locs [(L, LocO [("sizes", .ref l)]), (Ll, LocO kl)] := by
    intro p hp
    simp only [List.mem_cons, List.not_mem_nil, or_false] at hp
    rcases hp with rfl | rfl <;> exact ⟨_, rfl⟩
  refine codeAny_forLoop (fun _ s => s = s5) ?_ 0 rfl
  rintro _ _ rfl
  refine next_boom (outer := [eW w L, el]) (fl := [(L, LocO [("sizes", .ref l)]), (Ll, LocO kl)]) (gi := gs.size) R.h hfr R.dep ?_ hloc hlB haB (by simp) S7 ?_
  · intro env he
    simp only [List.mem_cons, List.not_mem_nil, or_false] at he
    rcases he with rfl | rfl
    · exact ⟨(fun e => nomatch (show ScopeKind.function = .module from e)), L, _, rfl, .head _⟩
    · exact ⟨by rw [hek]; decide, Ll, kl, hel, .tail _ (.head _)⟩
  intro e a0 gs8 s8 hb8 hfly S8
  have hbare : AllBare gs8 := hb8 (AllBare.push hb rfl)
  show wpAny _ _ (noteFrame (.ref e) (eW w L)) _ _ _
  refine wpAny_looks_onW hfr rfl hfly fun h9 hh9 u9 => ?_
  have S9 := S8.flown hloc hh9.1 u9
  show wpAny _ _ _ _ _ _
  refine cameBack rfl hh9 fun h10 hh10 u10 => ?_
  have S10 := S9.flown hloc hh10.1 u10
  refine wpAny_noteFrame_againW rfl hh10.2.2.2 ?_
  refine wpAny_landsW hh10 fun h11 hh11 u11 => ?_
  have S11 := S10.flown hloc hh11.1 u11
  refine wpAny_handleBy_builtin (X := "ValueError") (T := "ValueError") (b := true) sub_ve_base sub_ve_tup sub_ve_ve ?_
  refine nmB S11 (v := .type "ValueError") rfl bb_ve ⟨rfl, ?_, ?_⟩
  · obtain ⟨ob, h1, h2⟩ := hh11.there
    exact ⟨ob, h1, h2⟩
  rw [if_pos rfl]
  refine wpAny_setFlight_noneW hh11.1 hh11.2.2.1 hh11.2.2.2.at fun h12 k1 k2 k3 k4 => ?_
  have S12 := S11.flown hloc k1 fun b o e hn => ⟨o.slots, k4 b o e hn⟩
  refine wpAny_execs_cons (wpAny_Return_some (wpAny_Constant_none ?_))
  exact h gs8 _ hbare (fin _ _ S12)

/-- _law_written over a row that opens with 0 -/
theorem boom_call {Ll l : Addr} {el : Env} {n : Int} {tn t0 : Tok} {rest : List Value} {mkv : Value} {kl : List (Str × Value)} {Q : Value → Shared → Prop}
    (R : Room A 4) (hfr : A.frames = some [el]) (hel : el.frame = some Ll) (hek : el.scope.kind = .function) (S : St w h₀ os gs ((Ll, LocO kl) :: led) s)
    (hl : ∃ o, s.heap.get? l = some o ∧ ListO (.int 0 t0 :: rest) o) (hlm : h₀ l ≠ none ∨ l ∈ led.map (·.1)) (hb : AllBare gs) (hn : n.natAbs < 10 ^ 12)
    (h : ∀ gs' s', AllBare gs' → St w h₀ os gs' ((Ll, LocO kl) :: led) s' → Q .none s') :
    wpAny (model prog w) A (call (.ref 97) [.int n tn, .ref l, mkv]) Q E s := by
  refine wpAny_call ?_
  have S' : St w h₀ os gs ([(Ll, LocO kl)] ++ led) s := S
  obtain ⟨ol, h1, h2⟩ := hl
  have hlB : but s.heap [(Ll, LocO kl)] l = some ol := S'.inBut h1 (hlm.imp (fun hne => by
    cases q : h₀ l with
    | none => exact absurd q hne
    | some o => have := S.keep _ _ q; rw [h1] at this; exact this.symm) id)
  refine enterE S'.mine R (f := 97) (o := objAt w 97) (fd := fdAt w 97) (body := bW) rfl rfl rfl rfl (bind97 _ _ _) (noCell rfl) (locs rfl) fun E' s1 S1 => ?_
  refine boom_body (Ll := Ll) (el := el) (R.deeper _) ?_ hel hek S1 ⟨ol, hlB, h2⟩ hb hn fun gs' s' hb' S2 => ?_
  · show A.frames.map _ = _
    rw [hfr]; rfl
  · exact h gs' s' hb' (S'.unmine S2)
end
end Mine


/-! # L1 -/
namespace Mine
def tblV (k : Int) : Int := [2, 1, 3, 0, 127].getD k.toNat 0
def rowV (ns : List Int) : List Int := [1, 2] ++ (ns.take 4).map fun x => tblV (x.fmod 5)
def totV (ns : List Int) : Int := (ns.take 4).sum
def lenV (ns : List Int) : Int := (rowV ns).length - 1
def placeV (ns : List Int) : Nat := (1 + (totV ns).fmod (lenV ns)).toNat
def otherV (ns : List Int) : List Int := (rowV ns).take (placeV ns) ++ [tblV (((totV ns).fdiv (lenV ns)).fmod 5)] ++ (rowV ns).drop (placeV ns + 1)
noncomputable def eL (w : World) (L : Addr) : Env := callEnvC (fdAt w 112) L 112
def bL : List Stmt := fBody (stmtAt 17)

section
variable {prog : Program} {w : World} {A : Around} {E : Value → Shared → Prop} {s : Shared} {h₀ : Base} {os : OsState} {gs : Array GenState} {led led' : Led} {env : Env} {kvs : List (Str × Value)}

def tabs (a b c d e : Tok) : List Value := [.int 2 a, .int 1 b, .int 3 c, .int 0 d, .int 127 e]

theorem tbl_get {a b c d e : Tok} (x : Int) : ∃ t, (tabs a b c d e).toArray[(x.fmod 5).toNat]? = some (.int (tblV (x.fmod 5)) t) := by
  have h1 := Int.fmod_nonneg_of_pos x (b := 5) (by decide)
  have h2 := Int.fmod_lt_of_pos x (b := 5) (by decide)
  generalize x.fmod 5 = k at h1 h2
  obtain ⟨n, rfl⟩ := Int.eq_ofNat_of_zero_le h1
  have : n < 5 := by omega
  match n, this with
  | 0, _ => exact ⟨_, rfl⟩
  | 1, _ => exact ⟨_, rfl⟩
  | 2, _ => exact ⟨_, rfl⟩
  | 3, _ => exact ⟨_, rfl⟩
  | 4, _ => exact ⟨_, rfl⟩

theorem pairedTbl {vs ys : List Value} {f : Int → Int} (h : Paired (fun v y => ∃ x t t', v = Value.int x t ∧ y = Value.int (f x) t') vs ys) : ∀ {ns : List Int}, IntsAre vs ns → IntsAre ys (ns.map f) := by
  induction h with
  | nil => intro ns h; cases h; exact .nil
  | cons h1 h2 ih =>
    intro ns h
    cases h with
    | cons n t h =>
      obtain ⟨x, t1, t2, e1, rfl⟩ := h1
      cases e1
      exact .cons _ _ (ih h)
theorem seqIx {k : Int} {n : Nat} (h1 : 0 ≤ k) (h2 : k < n) : seqIndex? k n = some k.toNat := by
  unfold seqIndex?
  have e : (if k < 0 then k + (n : Int) else k) = k := if_neg (by omega)
  simp only [e]
  rw [if_pos (by simp [h1, h2])]
theorem lenV_pos (ns : List Int) : 1 ≤ lenV ns ∧ lenV ns ≤ 5 := by
  unfold lenV rowV
  simp only [List.length_append, List.length_cons, List.length_nil, List.length_map, List.length_take]
  omega
theorem placeV_cast (ns : List Int) : (1 + (totV ns).fmod (lenV ns)) = ((placeV ns : Nat) : Int) := by
  unfold placeV
  have h1 := Int.fmod_nonneg_of_pos (totV ns) (b := lenV ns) (by have := lenV_pos ns; omega)
  omega
def leds (L tt rl ol : Addr) (tv rv ov : List Value) : Led := [(L + 1, CellO (some (.ref tt))), (L + 2, CellO (some (.ref ol))), (tt, TupO tv), (rl, ListO rv), (ol, ListO ov)]

set_option maxHeartbeats 4000000 in
theorem law_a {L sl : Addr} {items : List Value} {ns : List Int} {Q : Flow → Shared → Prop} (R : Room A 8) (hi : IntsAre items ns) (hsl : ∃ o, h₀ sl = some o ∧ ListO items o) (hlen : items.length ≤ 1000) (hb : AllBare gs)
    (S : St w h₀ os gs [(L, LocO [("script", .ref sl)]), (L + 1, CellO none), (L + 2, CellO none)] s)
    (h : ∀ rl ol rv ov gs' s', AllBare gs' → IntsAre rv (rowV ns) → IntsAre ov (otherV ns) → St w h₀ os gs' ((L, LocO [("script", .ref sl), ("row", .ref rl)]) :: [(L + 2, CellO (some (.ref ol))), (rl, ListO rv), (ol, ListO ov)]) s' →
      wpAny (model prog w) A (execs (bL.drop 5) (eL w L)) Q E s')
    : wpAny (model prog w) A (execs bL (eL w L)) Q E s := by
  refine wpAny_execs_cons (wpAny_Assign_Name ?_)
  refine Tuple_ (spliced_more (wpAny_Constant_int (spliced_more (wpAny_Constant_int (spliced_more (wpAny_Constant_int (spliced_more (wpAny_Constant_int (spliced_more (wpAny_Constant_int (spliced_none ?_)))))))))))
  refine nwTup (S.toks _) (fun tt s1 S1 => ?_) (by simp)
  obtain ⟨a1, a2, a3, a4, a5, S1⟩ : ∃ a1 a2 a3 a4 a5, St w h₀ os gs ((tt, TupO (tabs a1 a2 a3 a4 a5)) :: [(L, LocO [("script", .ref sl)]), (L + 1, CellO none), (L + 2, CellO none)]) s1 := ⟨_, _, _, _, _, S1⟩
  refine stC (c := L + 1) (v₀ := none) S1 rfl (.tail (.tail .head)) fun s2 S2 => ?_
  dsimp only
  have S3 := S2.swap
  refine wpAny_execs_cons (wpAny_Assign_Name ?_)
  refine wpAny_BinOp (List_ (spliced_more (wpAny_Constant_int (spliced_more (wpAny_Constant_int (spliced_none ?_))))))
  refine nwList (S3.toks _) (fun l12 s4 _ S4 => ?_) (by simp)
  obtain ⟨b1, b2, S4⟩ : ∃ b1 b2, St w h₀ os gs ((l12, ListO [.int 1 b1, .int 2 b2]) :: (L, LocO [("script", .ref sl)]) :: (tt, TupO (tabs a1 a2 a3 a4 a5)) :: (L + 1, CellO (some (.ref tt))) :: [(L + 2, CellO none)]) s4 := ⟨_, _, S4⟩
  have S5 := S4.swap
  refine comp_map (h₀ := h₀) (os := os) (cl := [("table", L + 1)]) (fun v y => ∃ x t t', v = Value.int x t ∧ y = Value.int (tblV (x.fmod 5)) t') R.h ?_
  refine Subscript_ (nmL S5 rfl ?_)
  refine wpAny_Slice (wpAny_pure ?_)
  rw [evalPart_some]
  refine wpAny_Constant_int (wpAny_pure ?_)
  have hs1 : Lst h₀ ((L, LocO [("script", .ref sl)]) :: (l12, ListO [.int 1 b1, .int 2 b2]) :: (tt, TupO (tabs a1 a2 a3 a4 a5)) :: (L + 1, CellO (some (.ref tt))) :: [(L + 2, CellO none)]) sl items := .inl hsl
  refine tailL_ns (j := 4) (S5.toks _) hs1 (fun r s6 S6 => ?_) (by omega)
  refine ⟨gs, _, r, items.take 4, rfl, hb, S6, by rw [List.length_take]; omega, fun gs led' s hs S => S.isList (hs _ (.head _)), ?_, ?_⟩
  · intro C E' gs' led' v s Q' hv hb' hs S7 hQ
    obtain ⟨i, hiv⟩ := List.mem_iff_getElem?.mp hv
    obtain ⟨x, tx, _, rfl⟩ := IntsAre.get (hi.take 4) i v hiv
    refine Subscript_ (nmC S7 (c := L + 1) (v := .ref tt) rfl (.tail _ (hs _ (by simp))) ?_)
    refine wpAny_BinOp (nmL S7 rfl (wpAny_Constant_int (mod_int (by decide) ?_)))
    obtain ⟨ot, hot, nt, rfl⟩ := S7.has (tt, TupO (tabs a1 a2 a3 a4 a5)) (.tail _ (hs _ (by simp)))
    obtain ⟨tr, htr⟩ := tbl_get (a := a1) (b := a2) (c := a3) (d := a4) (e := a5) x
    have h1 := Int.fmod_nonneg_of_pos x (b := 5) (by decide)
    have h2 := Int.fmod_lt_of_pos x (b := 5) (by decide)
    refine item_tuple (items := (tabs a1 a2 a3 a4 a5).toArray) (j := (x.fmod 5).toNat) ⟨_, hot, rfl, _, rfl⟩ (by omega) (by omega) ?_ htr ?_
    · exact seqIx h1 (by show x.fmod 5 < (5 : Nat); omega)
    · exact hQ _ _ _ hb' ⟨x, tx, tr, rfl, rfl⟩ (S7.toks _)
  intro acc ys gs7 s7 hb7 hp7 S7
  have hr : IntsAre ([.int 1 b1, .int 2 b2] ++ ys) (rowV ns) := IntsAre.append (.cons _ _ (.cons _ _ .nil)) (pairedTbl hp7 (hi.take 4))
  refine addL S7 (S7.isList (.tail _ (.tail _ (.tail _ (.head _))))) (S7.isList (.head _)) (fun rl s8 _ S8 => ?_) (by have := hr.length; have := lenV_pos ns; unfold lenV at this; rw [← List.length_append]; omega)
  have hrl := hr.length
  have hrl2 : (([.int 1 b1, .int 2 b2] ++ ys : List Value).length : Int) - 1 = lenV ns := by unfold lenV; omega
  generalize ([.int 1 b1, .int 2 b2] ++ ys : List Value) = rv at S8 hr hrl hrl2
  have hlv := lenV_pos ns
  have S9 : St w h₀ os gs7 [(L, LocO [("script", .ref sl)]), (rl, ListO rv), (tt, TupO (tabs a1 a2 a3 a4 a5)), (L + 1, CellO (some (.ref tt))), (L + 2, CellO none)] s8 := by
    refine S8.sub (fun p hp => ⟨p, ?_, rfl, fun _ h => h⟩) ?_
    · simp only [List.mem_cons, List.not_mem_nil, or_false] at hp ⊢
      rcases hp with rfl | rfl | rfl | rfl | rfl <;> simp
    · have nd : [rl, acc, r, L, l12, tt, L + 1, L + 2].Nodup := S8.nodup
      show [L, rl, tt, L + 1, L + 2].Nodup
      simp only [List.nodup_cons, List.mem_cons, List.not_mem_nil, or_false, not_or, not_false_eq_true, List.nodup_nil, and_true] at nd ⊢
      obtain ⟨⟨_, _, n1, _, n2, n3, n4⟩, _, _, ⟨_, n5, n6, n7⟩, _, ⟨n8, n9⟩, n10⟩ := nd
      exact ⟨⟨fun e => n1 e.symm, n5, n6, n7⟩, ⟨n2, n3, n4⟩, ⟨n8, n9⟩, n10⟩
  clear S S1 S2 S3 S4 S5 S6 S7 S8
  refine stL S9 fun s10 S10 => ?_
  dsimp only
  refine wpAny_execs_cons (wpAny_Assign_Name ?_)
  refine Call_name1 rfl (nmB S10 (v := .builtin "sum") rfl bb_sum (callWith_builtin1 ?_))
  refine Subscript_ (nmL S10 rfl ?_)
  refine wpAny_Slice (wpAny_pure ?_)
  rw [evalPart_some]
  refine wpAny_Constant_int (wpAny_pure ?_)
  refine tailL_ns (j := 4) (S10.toks _) (.inl hsl) (fun r2 s11 S11 => ?_) (by omega)
  refine sumI R.h S11 (S11.isList (.head _)) (hi.take 4) fun t12 s12 S12 => ?_
  have S13 := S12.tail
  refine stL S13 fun s14 S14 => ?_
  dsimp only
  refine wpAny_execs_cons (wpAny_Assign_Name ?_)
  refine wpAny_BinOp (wpAny_Constant_int (wpAny_BinOp (nmL (S14.toks _) rfl (wpAny_BinOp ?_))))
  refine Call_name1 rfl (nmB (S14.toks _) (v := .builtin "len") rfl bb_len (callWith_builtin1 (nmL (S14.toks _) rfl ?_)))
  refine len_list ((S14.toks _).isList (.tail _ (.head _))) (by rw [List.size_toArray]; omega) ?_
  rw [List.size_toArray]
  refine wpAny_Constant_int (sub_int ?_)
  rw [hrl2]
  refine mod_int (by omega) (add_int ?_)
  rw [show (List.take 4 ns).sum = totV ns from rfl, placeV_cast ns]
  refine stL (S14.toks _) fun s15 S15 => ?_
  dsimp only
  obtain ⟨tp, S15⟩ : ∃ tp, St w h₀ os gs7 ((L, LocO [("script", .ref sl), ("row", .ref rl), ("total", .int (totV ns) t12), ("place", .int (placeV ns : Nat) tp)]) :: [(rl, ListO rv), (tt, TupO (tabs a1 a2 a3 a4 a5)), (L + 1, CellO (some (.ref tt))), (L + 2, CellO none)]) s15 :=
    ⟨_, S15.weakenHead fun o h => LocO.sub (kvs' := [("script", .ref sl), ("row", .ref rl), ("total", .int (totV ns) t12), ("place", .int (placeV ns : Nat) _)]) ⟨rfl, rfl, rfl, rfl, trivial⟩ h⟩
  refine wpAny_execs_cons (wpAny_Assign_Name ?_)
  refine wpAny_BinOp (wpAny_BinOp (Subscript_ (nmL S15 rfl ?_)))
  refine wpAny_Slice (wpAny_pure ?_)
  rw [evalPart_some]
  refine nmL S15 rfl (wpAny_pure ?_)
  refine tailL_ns (j := placeV ns) S15 (.inr (.tail _ (.head _))) (fun p1 s16 S16 => ?_) (by omega)
  have S17 := S16.swap
  refine List_ (spliced_more (Subscript_ (nmC S17 (c := L + 1) (v := .ref tt) rfl (by simp) ?_)))
  refine wpAny_BinOp (wpAny_BinOp (nmL S17 rfl (wpAny_BinOp ?_)))
  refine Call_name1 rfl (nmB S17 (v := .builtin "len") rfl bb_len (callWith_builtin1 (nmL S17 rfl ?_)))
  refine len_list (S17.isList (.tail _ (.tail _ (.head _)))) (by rw [List.size_toArray]; omega) ?_
  rw [List.size_toArray]
  refine wpAny_Constant_int (sub_int ?_)
  rw [hrl2]
  refine floordiv_int (by omega) (wpAny_Constant_int (mod_int (by decide) ?_)) (Or.inl (PyProof.noPylong_small (by omega)))
  have S18 := S17.toks (s16.toks + 1 + 1 + 1 + 1 + 1 + 1)
  obtain ⟨ot, hot, nt, rfl⟩ := S17.has (tt, TupO (tabs a1 a2 a3 a4 a5)) (by simp)
  obtain ⟨tr, htr⟩ := tbl_get (a := a1) (b := a2) (c := a3) (d := a4) (e := a5) ((totV ns).fdiv (lenV ns))
  have h1 := Int.fmod_nonneg_of_pos ((totV ns).fdiv (lenV ns)) (b := 5) (by decide)
  have h2 := Int.fmod_lt_of_pos ((totV ns).fdiv (lenV ns)) (b := 5) (by decide)
  refine item_tuple (items := (tabs a1 a2 a3 a4 a5).toArray) (j := (((totV ns).fdiv (lenV ns)).fmod 5).toNat) ⟨_, hot, rfl, _, rfl⟩ (by show -(2 ^ 63) ≤ ((totV ns).fdiv (lenV ns)).fmod 5; omega) (by show ((totV ns).fdiv (lenV ns)).fmod 5 < 2 ^ 63; omega) (seqIx h1 (by show ((totV ns).fdiv (lenV ns)).fmod 5 < (5 : Nat); omega)) htr ?_
  refine spliced_none (nwList (S17.toks _) (fun p2 s19 _ S19 => ?_) (by simp))
  refine addL S19 (S19.isList (.tail _ (.tail _ (.head _)))) (S19.isList (.head _)) (fun p3 s20 _ S20 => ?_) (by rw [List.length_take]; simp; omega)
  have S21 : St w h₀ os gs7 [(L, LocO [("script", .ref sl), ("row", .ref rl), ("total", .int (totV ns) t12), ("place", .int (placeV ns : Nat) tp)]), (p3, ListO (rv.take (placeV ns) ++ [.int (tblV (((totV ns).fdiv (lenV ns)).fmod 5)) tr])), (rl, ListO rv), (L + 1, CellO (some (.ref tt))), (L + 2, CellO none)] s20 := by
    refine S20.sub (fun p hp => ⟨p, ?_, rfl, fun _ h => h⟩) ?_
    · simp only [List.mem_cons, List.not_mem_nil, or_false] at hp ⊢
      rcases hp with rfl | rfl | rfl | rfl | rfl <;> simp
    · have nd : [p3, p2, L, p1, rl, tt, L + 1, L + 2].Nodup := S20.nodup
      show [L, p3, rl, L + 1, L + 2].Nodup
      simp only [List.nodup_cons, List.mem_cons, List.not_mem_nil, or_false, not_or, not_false_eq_true, List.nodup_nil, and_true] at nd ⊢
      obtain ⟨⟨_, n1, _, n2, _, n3, n4⟩, _, ⟨_, n5, _, n6, n7⟩, _, ⟨_, n8, n9⟩, _, n10⟩ := nd
      exact ⟨⟨fun e => n1 e.symm, n5, n6, n7⟩, ⟨n2, n3, n4⟩, ⟨n8, n9⟩, n10⟩
  refine Subscript_ (nmL S21 rfl ?_)
  refine wpAny_Slice ?_
  rw [evalPart_some]
  refine wpAny_BinOp (nmL S21 rfl (wpAny_Constant_int (add_int ?_)))
  refine wpAny_pure (wpAny_pure ?_)
  rw [show ((placeV ns : Nat) : Int) + 1 = ((placeV ns + 1 : Nat) : Int) by omega]
  refine tailL_sn (j := placeV ns + 1) (S21.toks _) (.inr (.tail _ (.tail _ (.head _)))) (fun p4 s22 S22 => ?_) (by omega)
  have ho : IntsAre ((rv.take (placeV ns) ++ [.int (tblV (((totV ns).fdiv (lenV ns)).fmod 5)) tr]) ++ rv.drop (placeV ns + 1)) (otherV ns) := ((hr.take _).append (.cons _ _ .nil)).append (hr.drop _)
  refine addL S22 (S22.isList (.tail _ (.tail _ (.head _)))) (S22.isList (.head _)) (fun ol s23 _ S23 => ?_) (by rw [List.length_append, List.length_take, List.length_drop]; simp; omega)
  generalize ((rv.take (placeV ns) ++ [.int (tblV (((totV ns).fdiv (lenV ns)).fmod 5)) tr]) ++ rv.drop (placeV ns + 1)) = ov at S23 ho
  refine stC (c := L + 2) (v₀ := none) S23 rfl (.tail (.tail (.tail (.tail (.tail (.tail .head)))))) fun s24 S24 => ?_
  dsimp only
  refine h rl ol rv ov gs7 s24 hb7 hr ho (S24.sub (fun p hp => ?_) ?_)
  · simp only [List.mem_cons, List.not_mem_nil, or_false] at hp
    rcases hp with rfl | rfl | rfl | rfl
    · exact ⟨_, .tail _ (.tail _ (.head _)), rfl, fun o h => LocO.sub (kvs' := [("script", .ref sl), ("row", .ref rl)]) ⟨rfl, rfl, trivial⟩ h⟩
    · exact ⟨_, .tail _ (.tail _ (.tail _ (.tail _ (.tail _ (.tail _ (.head _)))))), rfl, fun _ h => h⟩
    · exact ⟨_, .tail _ (.tail _ (.tail _ (.tail _ (.head _)))), rfl, fun _ h => h⟩
    · exact ⟨_, .head _, rfl, fun _ h => h⟩
  · have nd : [ol, p4, L, p3, rl, L + 1, L + 2].Nodup := S24.nodup
    show [L, L + 2, rl, ol].Nodup
    simp only [List.nodup_cons, List.mem_cons, List.not_mem_nil, or_false, not_or, not_false_eq_true, List.nodup_nil, and_true] at nd ⊢
    obtain ⟨⟨_, n1, _, n2, _, n3⟩, _, ⟨_, n4, _, n5⟩, _, ⟨_, n6⟩, _⟩ := nd
    exact ⟨⟨n5, n4, fun e => n1 e.symm⟩, ⟨fun e => n6 e.symm, fun e => n3 e.symm⟩, fun e => n2 e.symm⟩
end
end Mine


/-! # L2 -/
namespace Mine
def absV (a : Int) : Int := if a < 0 then -a else a
def numsV (ns : List Int) : List Int := [12345678] ++ (ns.take 2).map fun x => 12345678 + (absV x).fmod 100000000
def onceI : Nat → List Int → List Int → List Int
  | _, _, [] => []
  | i, ns, x :: r => if (ns.take i).contains x then onceI (i + 1) ns r else x :: onceI (i + 1) ns r
theorem onceI_ints : ∀ {vs : List Value} {xs : List Int} (i : Nat) (ns : List Int), IntsAre vs xs → IntsAre (onceV i ns vs) (onceI i ns xs)
  | _, _, i, ns, .nil => .nil
  | _, _, i, ns, .cons n t h => by
    unfold onceV onceI
    dsimp only
    split
    · exact onceI_ints (i + 1) ns h
    · exact .cons _ _ (onceI_ints (i + 1) ns h)
theorem onceI_len : ∀ (xs : List Int) (i : Nat) (ns : List Int), (onceI i ns xs).length ≤ xs.length
  | [], _, _ => Nat.le_refl _
  | x :: r, i, ns => by
    unfold onceI
    split
    · have := onceI_len r (i + 1) ns; simp only [List.length_cons]; omega
    · have := onceI_len r (i + 1) ns; simp only [List.length_cons]; omega

theorem cut_cons {k x : Int} {r : List Int} (h : x ≠ k) : cutV k (x :: r) = x :: cutV k r := by
  unfold cutV
  by_cases hk : k ∈ r
  · rw [if_pos hk, if_pos (.tail _ hk), List.idxOf_cons]
    have : (x == k) = false := by simpa using h
    rw [this]; rfl
  · rw [if_neg hk, if_neg]; intro hm; rcases List.mem_cons.mp hm with e | e
    · exact h e.symm
    · exact hk e
theorem cut_self {k : Int} {r : List Int} : cutV k (k :: r) = [] := by
  unfold cutV
  rw [if_pos (.head _), List.idxOf_cons]; simp
theorem cut_nil {k : Int} : cutV k [] = [] := rfl
theorem cut_not : ∀ (k : Int) (l : List Int), k ∉ cutV k l
  | k, [] => by simp [cut_nil]
  | k, x :: r => by
    by_cases h : x = k
    · subst h; rw [cut_self]; simp
    · rw [cut_cons h]; intro hm; rcases List.mem_cons.mp hm with e | e
      · exact h e.symm
      · exact cut_not k r e
theorem head1 (r : List Int) : headV (1 :: r) = 1 :: headV r := by
  unfold headV endedV
  rw [cut_cons (by decide), cut_cons (by decide)]
theorem head1_ne (r : List Int) : headV (1 :: r) ≠ [] := by rw [head1]; simp
theorem lastD_mem {l : List Int} (h : l ≠ []) : lastD l ∈ l := by
  unfold lastD
  have := List.length_pos_iff.mpr h
  have hlt : ((-1 : Int) + l.length).toNat < l.length := by omega
  rw [List.getD_eq_getElem?_getD, List.getElem?_eq_getElem hlt]
  exact List.getElem_mem hlt
theorem last1_ne (r : List Int) : lastD (headV (1 :: r)) ≠ 0 := by
  intro e
  have := lastD_mem (head1_ne r)
  rw [e] at this
  exact cut_not 0 _ this
theorem row1 (ns : List Int) : ∃ r, rowV ns = 1 :: r := ⟨_, rfl⟩
theorem placeV_pos (ns : List Int) : 1 ≤ placeV ns := by
  have := placeV_cast ns
  have h1 := Int.fmod_nonneg_of_pos (totV ns) (b := lenV ns) (by have := lenV_pos ns; omega)
  omega
theorem other1 (ns : List Int) : ∃ r, otherV ns = 1 :: r := by
  unfold otherV
  obtain ⟨m, hm⟩ : ∃ m, placeV ns = m + 1 := ⟨placeV ns - 1, by have := placeV_pos ns; omega⟩
  rw [hm]
  exact ⟨_, rfl⟩

section
variable {prog : Program} {w : World} {A : Around} {E : Value → Shared → Prop} {s : Shared} {h₀ : Base} {os : OsState} {gs : Array GenState} {led led' : Led} {env : Env} {kvs : List (Str × Value)}
theorem St.subl (S : St w h₀ os gs led s) (h : led'.Sublist led) : St w h₀ os gs led' s :=
  S.sub (fun p hp => ⟨p, h.subset hp, rfl, fun _ h => h⟩) ((h.map _).nodup S.nodup)

set_option maxHeartbeats 4000000 in
theorem law_b {L sl rl ol : Addr} {items rv ov : List Value} {ns : List Int} {Q : Flow → Shared → Prop} (R : Room A 8) (hfr : A.frames = some [eL w L]) (hi : IntsAre items ns) (hsl : ∃ o, h₀ sl = some o ∧ ListO items o) (hlen : items.length ≤ 1000) (hb : AllBare gs)
    (hr : IntsAre rv (rowV ns)) (ho : IntsAre ov (otherV ns))
    (S : St w h₀ os gs ((L, LocO [("script", .ref sl), ("row", .ref rl)]) :: [(L + 2, CellO (some (.ref ol))), (rl, ListO rv), (ol, ListO ov)]) s)
    (h : ∀ ml mo nl nv gs' s', AllBare gs' → IntsAre nv (onceI 0 (numsV ns) (numsV ns)) → St w h₀ os gs' ((L, LocO [("row", .ref rl), ("marks", .ref ml), ("others", .ref mo), ("numbers", .ref nl)]) :: [(nl, ListO nv), (mo, ListO (marksV (otherV ns) 9)), (ml, ListO (marksV (rowV ns) 9)), (L + 2, CellO (some (.ref ol))), (rl, ListO rv), (ol, ListO ov)]) s' →
      wpAny (model prog w) A (execs (bL.drop 9) (eL w L)) Q E s')
    : wpAny (model prog w) A (execs (bL.drop 5) (eL w L)) Q E s := by
  have hrl := hr.length
  have hol := ho.length
  have hrb : rv.length ≤ 6 := by have := lenV_pos ns; unfold lenV at this; omega
  have hob : ov.length ≤ 100 := by
    have := lenV_pos ns; unfold lenV at this
    rw [hol]; unfold otherV
    rw [List.length_append, List.length_append, List.length_take, List.length_drop]
    simp; omega
  refine wpAny_execs_cons (wpAny_If (wpAny_isTrue_Compare1 ?_))
  refine Call_ (nmG S (v := .ref 97) rfl (callWith_def (o := objAt w 97) (fd := fdAt w 97) rfl (spliced_more (wpAny_Constant_int (spliced_more (wpAny_BinOp (List_ (spliced_more (wpAny_Constant_int (spliced_none ?_))))))))))
  refine nwList (S.toks _) (fun z1 s1 _ S1 => ?_) (by simp)
  have S2 := S1.swap
  refine nmL S2 rfl ?_
  refine addL S2 (S2.isList (.tail _ (.head _))) (S2.isList (.tail _ (.tail _ (.tail _ (.head _))))) (fun z2 s3 _ S3 => ?_) (by simp; omega)
  refine spliced_more (wpAny_Constant_str (spliced_none ⟨S3.topNow.obj rfl, ?_⟩))
  have S4 := (S3.toks (s3.toks + 1)).swap
  refine boom_call (Ll := L) (el := eL w L) (R.le (by decide)) hfr rfl rfl S4 (S4.has _ (.tail _ (.head _))) (.inr (by simp)) hb (by decide) fun gs5 s5 hb5 S5 => ?_
  refine wpAny_Constant_none (isNot_none (wpAny_truthy_bool ?_))
  rw [if_neg (by decide)]
  refine wpAny_execs_nil ?_
  dsimp only
  have S6 := S5.subl (led' := (L, LocO [("script", .ref sl), ("row", .ref rl)]) :: [(L + 2, CellO (some (.ref ol))), (rl, ListO rv), (ol, ListO ov)]) (.cons₂ _ (.cons _ (.cons _ (List.Sublist.refl _))))
  clear S S1 S2 S3 S4 S5
  obtain ⟨r1, e1⟩ := row1 ns
  obtain ⟨r2, e2⟩ := other1 ns
  refine wpAny_execs_cons (wpAny_Assign_Name ?_)
  refine Call_ (nmG S6 (v := .ref 102) rfl (callWith_def (o := objAt w 102) (fd := fdAt w 102) rfl (spliced_more (nmL S6 rfl (spliced_none ⟨S6.topNow.obj rfl, ?_⟩)))))
  refine marks_call (n := 7) R S6 (.inr (.tail _ (.tail _ (.head _)))) hr (by omega) (by rw [e1]; exact head1_ne _) (by rw [e1]; exact last1_ne _) fun ml s7 S7 => ?_
  refine stL S7.swap fun s8 S8 => ?_
  dsimp only
  refine wpAny_execs_cons (wpAny_Assign_Name ?_)
  refine Call_ (nmG S8 (v := .ref 102) rfl (callWith_def (o := objAt w 102) (fd := fdAt w 102) rfl (spliced_more (nmC S8 (c := L + 2) (v := .ref ol) rfl (.tail _ (.tail _ (.head _))) (spliced_none ⟨S8.topNow.obj rfl, ?_⟩)))))
  refine marks_call (n := 7) R S8 (.inr (.tail _ (.tail _ (.tail _ (.tail _ (.head _)))))) ho (by omega) (by rw [e2]; exact head1_ne _) (by rw [e2]; exact last1_ne _) fun mo s9 S9 => ?_
  refine stL S9.swap fun s10 S10 => ?_
  dsimp only
  refine wpAny_execs_cons (wpAny_Assign_Name ?_)
  have S11 := S10.weakenHead (P' := LocO [("script", .ref sl), ("row", .ref rl), ("marks", .ref ml), ("others", .ref mo)]) fun o h => LocO.sub (kvs' := [("script", .ref sl), ("row", .ref rl), ("marks", .ref ml), ("others", .ref mo)]) ⟨rfl, rfl, rfl, rfl, trivial⟩ h
  clear S6 S7 S8 S9 S10
  refine Call_ (nmG S11 (v := .ref 107) rfl (callWith_def (o := objAt w 107) (fd := fdAt w 107) rfl (spliced_more (wpAny_BinOp (List_ (spliced_more (wpAny_Constant_int (spliced_none ?_))))))))
  refine nwList (S11.toks _) (fun z1 s12 _ S12 => ?_) (by simp)
  obtain ⟨tz, S12⟩ : ∃ tz, St w h₀ os gs5 ((z1, ListO [.int 12345678 tz]) :: (L, LocO [("script", .ref sl), ("row", .ref rl), ("marks", .ref ml), ("others", .ref mo)]) :: [(mo, ListO (marksV (otherV ns) 9)), (ml, ListO (marksV (rowV ns) 9)), (L + 2, CellO (some (.ref ol))), (rl, ListO rv), (ol, ListO ov)]) s12 := ⟨_, S12⟩
  have S13 := S12.swap
  refine comp_map (h₀ := h₀) (os := os) (cl := []) (fun v y => ∃ x t t', v = Value.int x t ∧ y = Value.int (12345678 + (absV x).fmod 100000000) t') R.h ?_
  refine Subscript_ (nmL S13 rfl ?_)
  refine wpAny_Slice (wpAny_pure ?_)
  rw [evalPart_some]
  refine wpAny_Constant_int (wpAny_pure ?_)
  refine tailL_ns (j := 2) (S13.toks _) (.inl hsl) (fun r s14 S14 => ?_) (by omega)
  refine ⟨gs5, _, r, items.take 2, rfl, hb5, S14, by rw [List.length_take]; omega, fun gs led' s hs S => S.isList (hs _ (.head _)), ?_, ?_⟩
  · intro C E' gs' led' v s Q' hv hb' hs S7 hQ
    obtain ⟨i, hiv⟩ := List.mem_iff_getElem?.mp hv
    obtain ⟨x, tx, _, rfl⟩ := IntsAre.get (hi.take 2) i v hiv
    refine wpAny_BinOp (wpAny_Constant_int (wpAny_BinOp ?_))
    refine Call_name1 rfl (nmB (S7.toks _) (v := .builtin "abs") rfl bb_abs (callWith_builtin1 (nmL (S7.toks _) rfl ?_)))
    refine call_abs_int fun u8 k8 => ?_
    refine wpAny_BinOp (wpAny_Constant_int (wpAny_Constant_int (pow_int_small (by decide) (by decide) (by decide) ?_)))
    refine mod_int (by decide) (add_int ?_)
    exact hQ _ _ _ hb' ⟨x, tx, _, rfl, rfl⟩ (S7.toks _)
  intro acc ys gs15 s15 hb15 hp15 S15
  have hn : IntsAre ([.int 12345678 tz] ++ ys) (numsV ns) := IntsAre.append (.cons _ _ .nil) (pairedTbl hp15 (hi.take 2))
  have hnl := hn.length
  have hnl2 : (numsV ns).length ≤ 3 := by unfold numsV; simp only [List.length_append, List.length_map, List.length_take, List.length_cons, List.length_nil]; omega
  refine addL S15 (S15.isList (.tail _ (.tail _ (.tail _ (.head _))))) (S15.isList (.head _)) (fun nl0 s16 _ S16 => ?_) (by rw [← List.length_append]; omega)
  generalize ([.int 12345678 tz] ++ ys : List Value) = nv at S16 hn hnl
  refine spliced_none ⟨S16.topNow.obj rfl, ?_⟩
  refine once_call (n := 7) R S16 (.inr (.head _)) hn (by omega) hb15 fun nl s17 S17 => ?_
  have S18 := S17.subl (led' := (nl, ListO (onceV 0 (numsV ns) nv)) :: (L, LocO [("script", .ref sl), ("row", .ref rl), ("marks", .ref ml), ("others", .ref mo)]) :: [(mo, ListO (marksV (otherV ns) 9)), (ml, ListO (marksV (rowV ns) 9)), (L + 2, CellO (some (.ref ol))), (rl, ListO rv), (ol, ListO ov)]) (.cons₂ _ (.cons _ (.cons _ (.cons _ (.cons₂ _ (.cons _ (List.Sublist.refl _)))))))
  refine stL S18.swap fun s19 S19 => ?_
  dsimp only
  exact h ml mo nl _ gs15 s19 hb15 (onceI_ints 0 _ hn) (S19.weakenHead fun o h => LocO.sub (kvs' := [("row", .ref rl), ("marks", .ref ml), ("others", .ref mo), ("numbers", .ref nl)]) ⟨rfl, rfl, rfl, rfl, trivial⟩ h)
end
end Mine


/-! # C3 -/
namespace Mine
/-! ## a list comprehension of two clauses -/
section
variable {prog : Program} {w : World} {A : Around} {E : Value → Shared → Prop} {s : Shared} {env : Env} {R : Result → Shared → Prop}

theorem andThen {α β : Type} {M : Model} {m : Sem α} {k : α → Sem β} {P : α → Shared → Prop} {Q : β → Shared → Prop} (x : wpAny M A m P E s) (y : ∀ a s', P a s' → wpAny M A (k a) Q E s') : wpAny M A (m >>= k) Q E s :=
  wpAny_bind (wpAny_mono x y fun _ _ z => z)

/-- a clause's loop, whatever its body is -/
theorem turns {elt : Expr} {cs : List Comprehension} {scope : Scope} {pos : Pos} {d : Nat} {it acc : Value} {p : Pos} {body : Value → Sem Fin} (I : Nat → Shared → Prop)
    (shape : compTurn (.ListComp elt cs scope pos) d it acc env = (standAt p >>= fun _ => pyNext it >>= fun r => match r with | none => pure (.done .next) | some v => body v))
    (once : ∀ n s, I n s → wpAny (model prog w) A (pyNext it) (fun r s₁ => match r with
      | none => R (.ok .next) s₁
      | some v => wpAny (model prog w) A (body v) (fun fin s₂ => fin = .again (.compLoop (.ListComp elt cs scope pos) d it acc env) ∧ ∃ m, m < n ∧ I m s₂) (NB prog w A env R) s₁) (NB prog w A env R) s)
    (n : Nat) (h : I n s) : codeAny (model prog w) A (.compLoop (.ListComp elt cs scope pos) d it acc env) R s := by
  have run : ∀ n s, I n s → wpAny (model prog w) A (compTurn (.ListComp elt cs scope pos) d it acc env) (fun fin s' => match fin with | .done f => R (.ok f) s' | .again c => c = .compLoop (.ListComp elt cs scope pos) d it acc env ∧ ∃ m, m < n ∧ I m s') (NB prog w A env R) s := by
    intro n s hI
    rw [shape]
    refine wpAny_bind <| wpAny_standAt <| andThen (once n s hI) fun r s₁ x => ?_
    match r, x with
    | none, x => exact wpAny_pure x
    | some v, x => exact wpAny_mono x (fun fin s₂ y => by obtain ⟨rfl, y⟩ := y; exact ⟨rfl, y⟩) fun _ _ y => y
  exact codeAny_loop rfl I (fun n s hI => wpAny_noted (run n s hI)) n h

abbrev e2 (elt : Expr) (x y : Str) (px py : Pos) (i0 i1 : Expr) (scope : Scope) (pos : Pos) : Expr := .ListComp elt [⟨.Name x px, i0, [], 0⟩, ⟨.Name y py, i1, [], 0⟩] scope pos

/-- the inner clause -/
theorem comp_in {elt i0 i1 : Expr} {x y : Str} {px py : Pos} {scope : Scope} {pos : Pos} {it acc : Value} (I : Nat → Shared → Prop)
    (turn : ∀ n s, I n s → wpAny (model prog w) A (pyNext it) (fun r s₁ => match r with
      | none => R (.ok .next) s₁
      | some v => wpAny (model prog w) A (assign (.Name y py) env v) (fun _ s₂ => wpAny (model prog w) A (eval elt env) (fun z s₃ =>
          wpAny (model prog w) A (call (.builtin "list.append") [acc, z]) (fun _ s₄ => ∃ m, m < n ∧ I m s₄) (NB prog w A env R) s₃) (NB prog w A env R) s₂) (NB prog w A env R) s₁) (NB prog w A env R) s)
    (n : Nat) (h : I n s) : codeAny (model prog w) A (.compLoop (e2 elt x y px py i0 i1 scope pos) 1 it acc env) R s := by
  refine turns (p := i1.pos) (body := fun v => assign (.Name y py) env v >>= fun _ => (eval elt env >>= fun z => call (.builtin "list.append") [acc, z] >>= fun _ => pure ()) >>= fun _ => again (.compLoop (e2 elt x y px py i0 i1 scope pos) 1 it acc env)) I rfl (fun n s hI => ?_) n h
  refine wpAny_mono (turn n s hI) (fun r s₁ x => ?_) fun _ _ x => x
  match r, x with
  | none, x => exact x
  | some v, x => exact andThen x fun _ s₂ x => andThen (andThen x fun z s₃ x => andThen x fun _ s₄ x => wpAny_pure (Q := fun _ s => ∃ m, m < n ∧ I m s) x) fun _ s₄ x => wpAny_pure ⟨rfl, x⟩

theorem comp_in_start {elt i0 i1 : Expr} {x y : Str} {px py : Pos} {scope : Scope} {pos : Pos} {it acc : Value}
    (straight : codeAny (model prog w) A (.compLoop (e2 elt x y px py i0 i1 scope pos) 1 it acc env) R s)
    (anew : wpAny (model prog w) A (pyIter it) (fun j s' => codeAny (model prog w) A (.compLoop (e2 elt x y px py i0 i1 scope pos) 1 j acc env) R s') (NB prog w A env R) s) :
    codeAny (model prog w) A (.compStart (e2 elt x y px py i0 i1 scope pos) 1 it acc env) R s := by
  have shape : compStart (e2 elt x y px py i0 i1 scope pos) 1 it acc env = (ask >>= fun st => if st.params.followText "comprehension-iter-twice" = true then again (.compLoop (e2 elt x y px py i0 i1 scope pos) 1 it acc env)
    else rule "comprehension.iter-twice" >>= fun _ => standAt i1.pos >>= fun _ => pyIter it >>= fun j => again (.compLoop (e2 elt x y px py i0 i1 scope pos) 1 j acc env)) := rfl
  refine codeAny_of_tree (wpAny_notedAt (m := compStart (e2 elt x y px py i0 i1 scope pos) 1 it acc env) ?_)
  rw [shape]
  refine wpAny_bind <| wpAny_askSetting ?_
  by_cases c : (⟨(model prog w).prog, (model prog w).w.params⟩ : Setting).params.followText "comprehension-iter-twice" = true
  · rw [if_pos c]; exact wpAny_pure ⟨rfl, straight⟩
  · rw [if_neg c]; exact wpAny_bind <| wpAny_rule <| wpAny_bind <| wpAny_standAt <| andThen anew fun j s' x => wpAny_pure ⟨rfl, x⟩

/-- the outer clause -/
theorem comp_out {elt i0 i1 : Expr} {x y : Str} {px py : Pos} {scope : Scope} {pos : Pos} {it acc : Value} (I : Nat → Shared → Prop)
    (turn : ∀ n s, I n s → wpAny (model prog w) A (pyNext it) (fun r s₁ => match r with
      | none => R (.ok .next) s₁
      | some v => wpAny (model prog w) A (assign (.Name x px) env v) (fun _ s₂ => wpAny (model prog w) A (eval i1 env) (fun xv s₃ =>
          wpAny (model prog w) A (pyIter xv) (fun j s₄ => codeAny (model prog w) A (.compStart (e2 elt x y px py i0 i1 scope pos) 1 j acc env) (fun r s' => ∃ f, r = .ok f ∧ ∃ m, m < n ∧ I m s') s₄) (NB prog w A env R) s₃) (NB prog w A env R) s₂) (NB prog w A env R) s₁) (NB prog w A env R) s)
    (n : Nat) (h : I n s) (hs : ∀ v, foldedSetIterable i1 env v = pure v := by intro _; rfl) :
    codeAny (model prog w) A (.compLoop (e2 elt x y px py i0 i1 scope pos) 0 it acc env) R s := by
  refine turns (p := i0.pos) (body := fun v => assign (.Name x px) env v >>= fun _ => eval i1 env >>= fun xv => standAt i1.pos >>= fun _ => foldedSetIterable i1 env xv >>= fun xv => holding [xv] (pyIter xv) >>= fun j =>
    runOwn (.compStart (e2 elt x y px py i0 i1 scope pos) 1 j acc env) env >>= fun _ => again (.compLoop (e2 elt x y px py i0 i1 scope pos) 0 it acc env)) I rfl (fun n s hI => ?_) n h
  refine wpAny_mono (turn n s hI) (fun r s₁ x => ?_) fun _ _ x => x
  match r, x with
  | none, x => exact x
  | some v, x =>
    refine andThen x fun _ s₂ x => andThen x fun xv s₃ x => wpAny_bind <| wpAny_standAt <| wpAny_bind <| wpAny_of_eq (hs xv) <| wpAny_bind <| wpAny_holding <| wpAny_mono x (fun j s₄ x => ?_) fun _ _ x => x
    exact wpAny_bind <| wpAny_runOwn <| codeAny_mono x fun r s' ⟨f, e, q⟩ => by subst e; exact wpAny_pure ⟨rfl, q⟩
end
end Mine


/-! # D1 -/
namespace Mine
/-! ## figures -/
def dg (n : Nat) : List Nat := if n < 10 then [48 + n] else dg (n / 10) ++ [48 + n % 10]
termination_by n
decreasing_by omega
theorem dg_lt {n : Nat} (h : n < 10) : dg n = [48 + n] := by rw [dg, if_pos h]
theorem dg_ge {n : Nat} (h : 10 ≤ n) : dg n = dg (n / 10) ++ [48 + n % 10] := by rw [dg, if_neg (by omega)]
theorem digitChar_nat {d : Nat} (h : d < 10) : (Nat.digitChar d).toNat = 48 + d := by
  match d, h with
  | 0, _ | 1, _ | 2, _ | 3, _ | 4, _ | 5, _ | 6, _ | 7, _ | 8, _ | 9, _ => rfl
theorem dg_toDigits (n : Nat) : (Nat.toDigits 10 n).map Char.toNat = dg n := by
  induction n using Nat.strongRecOn with
  | ind n ih =>
    rw [Nat.toDigits_eq_if (by decide)]
    by_cases h : n < 10
    · rw [if_pos h, dg_lt h, List.map_cons, List.map_nil, digitChar_nat h]
    · rw [if_neg h, dg_ge (by omega), List.map_append, ih (n / 10) (by omega), List.map_cons, List.map_nil, digitChar_nat (by omega)]
theorem digs_nat (n : Nat) : digs (n : Int) = dg n := by
  unfold digs
  rw [signs_ofString, show toString (n : Int) = Nat.repr n from rfl, Nat.toList_repr, dg_toDigits]
theorem digs_int {x : Int} (h : 0 ≤ x) : digs x = dg x.toNat := by
  obtain ⟨n, rfl⟩ := Int.eq_ofNat_of_zero_le h
  exact digs_nat n
theorem dg_ne (n : Nat) : dg n ≠ [] := by rw [dg]; split <;> simp
theorem dg_pos (n : Nat) : 0 < (dg n).length := List.length_pos_iff.mpr (dg_ne n)
theorem dg_fig : ∀ (n : Nat), ∀ c ∈ dg n, 48 ≤ c ∧ c ≤ 57 := by
  intro n
  induction n using Nat.strongRecOn with
  | ind n ih =>
    intro c hc
    by_cases h : n < 10
    · rw [dg_lt h] at hc; simp only [List.mem_singleton] at hc; omega
    · rw [dg_ge (by omega)] at hc
      rcases List.mem_append.mp hc with hc | hc
      · exact ih (n / 10) (by omega) c hc
      · simp only [List.mem_singleton] at hc; omega
theorem dg_len_le : ∀ (k n : Nat), n < 10 ^ (k + 1) → (dg n).length ≤ k + 1
  | 0, n, h => by rw [dg_lt (by simpa using h)]; simp
  | k + 1, n, h => by
    by_cases h10 : n < 10
    · rw [dg_lt h10]; simp
    · rw [dg_ge (by omega), List.length_append, List.length_singleton]
      have : n / 10 < 10 ^ (k + 1) := by
        rw [Nat.div_lt_iff_lt_mul (by decide)]
        rw [Nat.pow_succ] at h; exact h
      have := dg_len_le k (n / 10) this
      omega
theorem dg_len_ge : ∀ (k n : Nat), 10 ^ k ≤ n → k + 1 ≤ (dg n).length
  | 0, n, h => dg_pos n
  | k + 1, n, h => by
    have h1 : 10 ^ 1 ≤ 10 ^ (k + 1) := Nat.pow_le_pow_right (by decide) (by omega)
    rw [dg_ge (by omega), List.length_append, List.length_singleton]
    have : 10 ^ k ≤ n / 10 := by
      rw [Nat.le_div_iff_mul_le (by decide)]
      rw [Nat.pow_succ] at h; exact h
    have := dg_len_ge k (n / 10) this
    omega
theorem dg_div1 {n : Nat} (h : 10 ≤ n) : dg (n / 10) = (dg n).take ((dg n).length - 1) := by
  rw [dg_ge h, List.length_append, List.length_singleton, Nat.add_sub_cancel, List.take_left']
  rfl
theorem dg_len2 {n : Nat} (h : 2 ≤ (dg n).length) : 10 ≤ n := by
  rcases Nat.lt_or_ge n 10 with h1 | h1
  · rw [dg_lt h1] at h; simp at h
  · exact h1
theorem dg_div : ∀ (k n : Nat), k < (dg n).length → dg (n / 10 ^ k) = (dg n).take ((dg n).length - k)
  | 0, n, _ => by simp
  | k + 1, n, h => by
    have h10 : 10 ≤ n := dg_len2 (by omega)
    have e1 := dg_div1 h10
    have hl : (dg (n / 10)).length = (dg n).length - 1 := by rw [e1, List.length_take]; omega
    have := dg_div k (n / 10) (by omega)
    rw [Nat.pow_succ, Nat.mul_comm, ← Nat.div_div_eq_div_mul, this, hl, e1, List.take_take]
    congr 1; omega
theorem dg_inj : ∀ {a b : Nat}, dg a = dg b → a = b := by
  intro a
  induction a using Nat.strongRecOn with
  | ind a ih =>
    intro b h
    have hl := congrArg List.length h
    by_cases ha : a < 10
    · by_cases hb : b < 10
      · rw [dg_lt ha, dg_lt hb] at h; simp only [List.cons.injEq, and_true] at h; omega
      · have := dg_len_ge 1 b (by omega)
        rw [dg_lt ha] at hl; simp at hl; omega
    · by_cases hb : b < 10
      · have := dg_len_ge 1 a (by omega)
        rw [dg_lt hb] at hl; simp at hl; omega
      · rw [dg_ge (by omega), dg_ge (n := b) (by omega)] at h
        obtain ⟨h1, h2⟩ := List.append_inj' h rfl
        have := ih (a / 10) (by omega) h1
        simp only [List.cons.injEq, and_true] at h2
        omega
end Mine


/-! # L3 -/
namespace Mine
def Big (x : Int) : Prop := 12345678 ≤ x ∧ x < 200000000
def fr1 (x : Int) : List Int := (List.range (digs x).length).map fun k => x.fdiv (10 ^ k)
def frV (nums : List Int) : List Int := (nums.map fr1).flatten
theorem onceI_sub : ∀ {xs : List Int} {i : Nat} {ns : List Int} {x : Int}, x ∈ onceI i ns xs → x ∈ xs
  | y :: r, i, ns, x, h => by
    unfold onceI at h
    split at h
    · exact .tail _ (onceI_sub h)
    · rcases List.mem_cons.mp h with rfl | h
      · exact .head _
      · exact .tail _ (onceI_sub h)
theorem numsV_big {ns : List Int} {x : Int} (h : x ∈ numsV ns) : Big x := by
  unfold numsV at h
  simp only [List.mem_append, List.mem_singleton, List.mem_map] at h
  rcases h with rfl | ⟨y, _, rfl⟩
  · exact ⟨by decide, by decide⟩
  · have h1 := Int.fmod_nonneg_of_pos (absV y) (b := 100000000) (by decide)
    have h2 := Int.fmod_lt_of_pos (absV y) (b := 100000000) (by decide)
    exact ⟨by omega, by omega⟩
theorem Big.len {x : Int} (h : Big x) : (digs x).length = 8 ∨ (digs x).length = 9 := by
  obtain ⟨h1, h2⟩ := h
  rw [digs_int (by omega)]
  have := dg_len_ge 7 x.toNat (by omega)
  have := dg_len_le 8 x.toNat (by omega)
  omega
section
variable {prog : Program} {w : World} {A : Around} {E : Value → Shared → Prop} {s : Shared} {h₀ : Base} {os : OsState} {gs : Array GenState} {led led' : Led} {env : Env} {kvs : List (Str × Value)}

theorem strI {x : Int} {t : Tok} {Q : Value → Shared → Prop} (hx : x.natAbs < 10 ^ 12) (S : St w h₀ os gs led s) (h : ∀ t s', St w h₀ os gs led s' → Q (.str (mkS (digs x)) t) s') :
    wpAny (model prog w) A (call (.type "str") [.int x t]) Q E s := by
  refine P.str_of_int (log2_small hx) ?_
  have := h s.toks _ (S.toks (s.toks + 1))
  rw [mkS_digs] at this
  exact this
theorem lenS {l : List Nat} {t : Tok} {Q : Value → Shared → Prop} (hl : l.length < 1000) (S : St w h₀ os gs led s) (h : ∀ t s', St w h₀ os gs led s' → Q (.int (l.length : Nat) t) s') :
    wpAny (model prog w) A (call (.builtin "len") [.str (mkS l) t]) Q E s := by
  refine PyProof.Rows.len_str (by rw [mkS_length]; omega) ?_
  rw [mkS_length]
  exact h _ _ (S.toks _)

theorem comp_in_begin {elt i0 i1 : Expr} {x y : Str} {px py : Pos} {scope : Scope} {pos : Pos} {it : Addr} {acc : Value} {R : Result → Shared → Prop} (I0 : Shared → Prop) (h0 : I0 s)
    (hit : ∀ (E : Value → Shared → Prop) (Q : Value → Shared → Prop) s, I0 s → Q (.ref it) s → wpAny (model prog w) A (pyIter (.ref it)) Q E s)
    (hloop : ∀ s, I0 s → codeAny (model prog w) A (.compLoop (e2 elt x y px py i0 i1 scope pos) 1 (.ref it) acc env) R s) :
    codeAny (model prog w) A (.compStart (e2 elt x y px py i0 i1 scope pos) 1 (.ref it) acc env) R s :=
  comp_in_start (hloop s h0) (hit _ _ s h0 (hloop s h0))
set_option maxHeartbeats 4000000 in
theorem law_c {L nl : Addr} {nv : List Value} {nums : List Int} {kv : List (Str × Value)} {Q : Flow → Shared → Prop} (R : Room A 8) (hb : AllBare gs) (hk : kv.lookup (Str.ofString "numbers") = some (.ref nl))
    (hn : IntsAre nv nums) (hbig : ∀ x ∈ nums, Big x) (hlen : nums.length ≤ 3)
    (S : St w h₀ os gs ((L, LocO kv) :: (nl, ListO nv) :: led) s)
    (h : ∀ fl fv gs' s', AllBare gs' → IntsAre fv (onceI 0 (frV nums) (frV nums)) → St w h₀ os gs' ((L, LocO (putK "fronts" (.ref fl) kv)) :: (fl, ListO fv) :: (nl, ListO nv) :: led) s' →
      wpAny (model prog w) A (execs (bL.drop 10) (eL w L)) Q E s')
    : wpAny (model prog w) A (execs (bL.drop 9) (eL w L)) Q E s := by
  have hnl := hn.length
  refine wpAny_execs_cons (wpAny_Assign_Name ?_)
  refine Call_ (nmG S (v := .ref 107) rfl (callWith_def (o := objAt w 107) (fd := fdAt w 107) rfl (spliced_more ?_)))
  refine list_comp (h₀ := h₀) (os := os) (cl := []) ?_
  refine nmL S hk (wpAny_pyIter_list (S.isList (.tail _ (.head _))) ?_)
  have S1 := S.push (P := IterO nl 0) (o := { cls := .type "list_iterator", data := .fields #[.ref nl, .int 0 0] }) ⟨rfl, rfl⟩
  generalize s.heap.objs.size = it at S1
  refine ⟨gs, _, S1, fun C acc s2 _ S2 => ?_⟩
  have hlenfr : ∀ i, (frV (nums.take i)).length ≤ 9 * i := by
    intro i
    unfold frV
    rw [List.length_flatten, List.map_map]
    have key : ∀ l : List Int, (∀ x ∈ l, Big x) → (l.map (List.length ∘ fr1)).sum ≤ 9 * l.length := by
      intro l
      induction l with
      | nil => intro _; simp
      | cons x r ih =>
        intro hx
        have h1 := ih fun y hy => hx y (.tail _ hy)
        have h2 := (hx x (.head _)).len
        have h3 : (fr1 x).length = (digs x).length := by simp [fr1]
        simp only [List.map_cons, List.sum_cons, List.length_cons, Function.comp]
        omega
    have := key (nums.take i) fun x hx => hbig x (List.mem_of_mem_take hx)
    rw [List.length_take] at this
    omega
  refine comp_start (fun s => St w h₀ os gs ((C, LocO []) :: (acc, ListO []) :: (it, IterO nl 0) :: (L, LocO kv) :: (nl, ListO nv) :: led) s) S2 (fun E Q s S hq => wpAny_pyIter_listiter (S.isIter (.tail _ (.tail _ (.head _)))) hq) fun s3 S3 => ?_
  refine comp_out (fun m s => ∃ i ys, m = nums.length - i ∧ i ≤ nums.length ∧ IntsAre ys (frV (nums.take i)) ∧ St w h₀ os gs ((C, LocO []) :: (acc, ListO ys) :: (it, IterO nl i) :: (L, LocO kv) :: (nl, ListO nv) :: led) s) ?_ nums.length ⟨0, [], rfl, Nat.zero_le _, .nil, S3⟩
  rintro m s4 ⟨i, ys, rfl, hi, hys, S4⟩
  have hyl := hys.length
  have hyb := hlenfr i
  cases hx : nv[i]? with
  | none =>
    refine wpAny_pyNext_list_end R.h (S4.isIter (.tail _ (.tail _ (.head _)))) (S4.isList (.tail _ (.tail _ (.tail _ (.tail _ (.head _)))))) (by simpa using hx) fun h' hx' => ?_
    dsimp only
    have hge : nv.length ≤ i := List.getElem?_eq_none_iff.mp hx
    rw [List.take_of_length_le (by omega)] at hys
    have S5 := S4.lose (s' := { s4 with heap := h' }) (led' := (C, LocO []) :: (acc, ListO ys) :: (L, LocO kv) :: (nl, ListO nv) :: led) (.tail _ (.tail _ (.head _))) hx' (fun p hp => ⟨?_, fun e => ?_⟩) ?_ rfl rfl
    · refine ⟨.next, rfl, gs, _, _, S5, fun s6 S6 => ?_⟩
      refine spliced_none ⟨S6.topNow.obj rfl, ?_⟩
      have hb27 := hlenfr nums.length
      rw [List.take_of_length_le (Nat.le_refl _)] at hb27
      have := hys.length
      refine once_call (n := 7) R S6 (.inr (.head _)) hys (by omega) hb fun fl s7 S7 => ?_
      have S8 := (S7.drop2).swap
      refine stL S8 fun s8 S8 => ?_
      exact h fl _ gs s8 hb (onceI_ints 0 _ hys) S8
    · simp only [List.mem_cons] at hp ⊢
      rcases hp with h | h | h | h | h
      · exact .inl h
      · exact .inr (.inl h)
      · exact .inr (.inr (.inr (.inl h)))
      · exact .inr (.inr (.inr (.inr (.inl h))))
      · exact .inr (.inr (.inr (.inr (.inr h))))
    · have nd := S4.nodup
      simp only [List.map_cons, List.nodup_cons, List.mem_cons, not_or] at nd
      obtain ⟨⟨_, n1, _⟩, ⟨n2, _⟩, ⟨n3, n4, n5⟩, _⟩ := nd
      simp only [List.mem_cons] at hp
      rcases hp with rfl | rfl | rfl | rfl | hp
      · exact n1 e
      · exact n2 e
      · exact n3 e.symm
      · exact n4 e.symm
      · exact n5 (List.mem_map.mpr ⟨p, hp, e⟩)
    · exact (List.Sublist.map _ (.cons₂ _ (.cons₂ _ (.cons _ (List.Sublist.refl _))))).nodup S4.nodup
  | some v =>
    obtain ⟨x, tx, hxn, rfl⟩ := IntsAre.get hn i v hx
    have hB := hbig x (List.mem_of_getElem? hxn)
    have hlt : i < nums.length := (List.getElem?_eq_some_iff.mp hxn).1
    refine wpAny_pyNext_list_item (S4.isIter (.tail _ (.tail _ (.head _)))) (S4.isList (.tail _ (.tail _ (.tail _ (.tail _ (.head _)))))) (by simpa using hx) fun h' hit' hs' => ?_
    dsimp only
    have S5 := S4.put (s' := { s4 with heap := h' }) (P' := IterO nl (i + 1)) (.tail (.tail .head)) hs'.extBut hit' rfl rfl
    refine asN (stL S5 fun s6 S6 => ?_)
    have S7 := S6.weakenHead (P' := LocO [("x", .int x tx)]) fun o h => LocO.sub (kvs' := [("x", .int x tx)]) ⟨rfl, trivial⟩ h
    refine Call_name1 rfl (nmB S7 (v := .type "range") rfl bb_range (callWith_type1 ?_))
    refine Call_name1 rfl (nmB S7 (v := .builtin "len") rfl bb_len (callWith_builtin1 ?_))
    refine Call_name1 rfl (nmB S7 (v := .type "str") rfl bb_str (callWith_type1 (nmL S7 rfl ?_)))
    have hxl := hB.len
    refine strI (by have := hB.1; have := hB.2; omega) S7 fun t8 s8 S8 => ?_
    refine lenS (by omega) S8 fun t9 s9 S9 => ?_
    refine rng1 S9 (by omega) fun j s10 S10 => ?_
    have S11 := S10.swap
    refine comp_in_begin (fun s => St w h₀ os gs ((C, LocO [("x", .int x tx)]) :: (j, RangeO 0 (digs x).length) :: (acc, ListO ys) :: (it, IterO nl (i + 1)) :: (L, LocO kv) :: (nl, ListO nv) :: led) s) S11 (fun E Q s S hq => ?_) fun s₄ S₄ => ?_
    · obtain ⟨o, ho, rfl⟩ := S.has _ (.tail _ (.head _))
      exact wpAny_pyIter_rangeiter ho hq
    · refine comp_in (fun m s => ∃ k ys', m = (digs x).length - k ∧ k ≤ (digs x).length ∧ IntsAre ys' (frV (nums.take i) ++ (fr1 x).take k) ∧ St w h₀ os gs ((C, LocO [("x", .int x tx)]) :: (j, RangeO (k : Nat) ((digs x).length - k : Nat)) :: (acc, ListO ys') :: (it, IterO nl (i + 1)) :: (L, LocO kv) :: (nl, ListO nv) :: led) s) ?_ (digs x).length ⟨0, ys, rfl, Nat.zero_le _, by simpa using hys, by simpa using S₄⟩
      rintro m s12 ⟨k, ys', rfl, hk', hys', S12⟩
      have hyl' := hys'.length
      have hf1 : (fr1 x).length = (digs x).length := by simp [fr1]
      rcases Nat.lt_or_ge k (digs x).length with hlt2 | hge
      · obtain ⟨left, hleft⟩ : ∃ left, (digs x).length - k = left + 1 := ⟨(digs x).length - k - 1, by omega⟩
        rw [hleft] at S12
        refine rngNext S12 (.tail .head) fun t13 s13 S13 => ?_
        dsimp only
        refine asN (stL S13 fun s14 S14 => ?_)
        refine wpAny_BinOp (nmL S14 rfl (wpAny_BinOp (wpAny_Constant_int (nmL (S14.toks _) rfl ?_))))
        refine pow_int_small (by omega) (by omega) (by decide) ?_
        rw [Int.toNat_natCast]
        have hp : (10 : Int) ^ k = ((10 ^ k : Nat) : Int) := by simp
        have hpl : 10 ^ k ≤ 10 ^ 9 := Nat.pow_le_pow_right (by decide) (by omega)
        have hpp : 0 < 10 ^ k := Nat.pow_pos (by decide)
        refine floordiv_int (by rw [hp]; omega) ?_ (Or.inl (PyProof.noPylong_small (by rw [hp]; omega)))
        refine apL (S14.toks _) (.tail (.tail .head)) (fun s15 S15 => ?_) (by rw [hyl', List.length_append, List.length_take]; omega)
        have hl2 : (digs x).length - (k + 1) = left := by omega
        obtain ⟨tv, S16⟩ : ∃ tv, St w h₀ os gs ((C, LocO [("x", .int x tx)]) :: (j, RangeO ((k : Nat) + 1) left) :: (acc, ListO (ys' ++ [Value.int (x.fdiv ((10 : Int) ^ k)) tv])) :: (it, IterO nl (i + 1)) :: (L, LocO kv) :: (nl, ListO nv) :: led) s15 :=
          ⟨s14.toks + 1 + 1, S15.weakenHead fun o h => LocO.sub (kvs' := [("x", .int x tx)]) ⟨rfl, trivial⟩ h⟩
        refine ⟨(digs x).length - (k + 1), by omega, k + 1, ys' ++ [Value.int (x.fdiv ((10 : Int) ^ k)) tv], rfl, by omega, ?_, ?_⟩
        · rw [List.take_add_one]
          have hf : (fr1 x)[k]? = some (x.fdiv (10 ^ k)) := by unfold fr1; rw [List.getElem?_map, List.getElem?_range (by omega)]; rfl
          rw [hf, ← List.append_assoc]
          exact hys'.append (.cons _ _ .nil)
        · rw [hl2]; exact S16
      · have hz : (digs x).length - k = 0 := by omega
        rw [hz] at S12
        refine rngEnd R.h S12.swap fun s13 S13 => ?_
        dsimp only
        refine ⟨.next, rfl, nums.length - (i + 1), by omega, i + 1, ys', rfl, by omega, ?_, ?_⟩
        · rw [List.take_of_length_le (l := fr1 x) (by omega)] at hys'
          have : frV (nums.take (i + 1)) = frV (nums.take i) ++ fr1 x := by
            unfold frV
            rw [List.take_add_one, hxn, List.map_append, List.flatten_append]; simp
          rw [this]; exact hys'
        · exact S13.weakenHead fun o h => LocO.sub (kvs' := []) trivial h
end
end Mine


/-! # L4 -/
namespace Mine
def grV (ns : List Int) (x : Int) : List (List Nat) := grp (szOf ns) ((digs x).length + 1) 0 (digs x)
def wrV (m : Nat) (ns : List Int) (x : Int) : List Nat := joinL [m] (grV ns x)
theorem tblV_nonneg (k : Int) : 0 ≤ tblV k := by
  unfold tblV
  rw [List.getD_eq_getElem?_getD]
  cases h : ([2, 1, 3, 0, 127] : List Int)[k.toNat]? with
  | none => decide
  | some y =>
    have := List.mem_of_getElem? h
    simp only [List.mem_cons, List.not_mem_nil, or_false] at this
    rcases this with rfl | rfl | rfl | rfl | rfl <;> decide
theorem rowV_nonneg {ns : List Int} {x : Int} (h : x ∈ rowV ns) : 0 ≤ x := by
  unfold rowV at h
  simp only [List.mem_append, List.mem_cons, List.not_mem_nil, or_false, List.mem_map] at h
  rcases h with (rfl | rfl) | ⟨y, _, rfl⟩
  · decide
  · decide
  · exact tblV_nonneg _
theorem otherV_nonneg {ns : List Int} {x : Int} (h : x ∈ otherV ns) : 0 ≤ x := by
  unfold otherV at h
  simp only [List.mem_append, List.mem_singleton] at h
  rcases h with (h | rfl) | h
  · exact rowV_nonneg (List.mem_of_mem_take h)
  · exact tblV_nonneg _
  · exact rowV_nonneg (List.mem_of_mem_drop h)
theorem Put.app {a : Addr} {P P' : Obj → Prop} {l l' : Led} (U : Put a P' P l l') : ∀ tl : Led, Put a P' P (tl ++ l) (tl ++ l')
  | [] => U
  | p :: r => .tail (Put.app U r)
def Asked (ns : List Int) (x : Int) (o : Obj) : Prop := ∃ t1 t2 t3, TupO [.int x t1, .str (mkS (wrV 46 ns x)) t2, .str (mkS (wrV 47 ns x)) t3] o

section
variable {prog : Program} {w : World} {A : Around} {E : Value → Shared → Prop} {s : Shared} {h₀ : Base} {os : OsState} {gs : Array GenState} {led led' : Led} {env : Env} {kvs : List (Str × Value)}

/-- _law_written at a number within bounds -/
theorem wr_call {x : Int} {tn tm : Tok} {l : Addr} {items : List Value} {ns : List Int} {m : Nat} {Q : Value → Shared → Prop}
    (R : Room A 4) (S : St w h₀ os gs led s) (hl : ∃ o, s.heap.get? l = some o ∧ ListO items o) (hi : IntsAre items ns) (hp : ∀ x ∈ ns, 0 ≤ x) (h0 : ∃ r, ns = 1 :: r) (hb : AllBare gs) (hx : 0 ≤ x ∧ x < 200000000)
    (h : ∀ t gs' s', AllBare gs' → St w h₀ os gs' led s' → Q (.str (mkS (wrV m ns x)) t) s') :
    wpAny (model prog w) A (call (.ref 97) [.int x tn, .ref l, .str (mkS [m]) tm]) Q E s := by
  have hd : (digs x).length ≤ 9 := by rw [digs_int hx.1]; exact dg_len_le 8 x.toNat (by omega)
  refine written_call R S hl hi hp (by obtain ⟨r, rfl⟩ := h0; simp) hb (by omega) (by omega) (by simp) fun t gs' s' hb' S' => ?_
  rw [join_mk]
  exact h t gs' s' hb' S'

set_option maxHeartbeats 4000000 in
theorem law_d {L nl ol : Addr} {nv ov : List Value} {nums ons : List Int} {kv : List (Str × Value)} {Q : Flow → Shared → Prop} (R : Room A 8) (hb : AllBare gs) (hk : kv.lookup (Str.ofString "numbers") = some (.ref nl))
    (hn : IntsAre nv nums) (hbig : ∀ x ∈ nums, Big x) (hlen : nums.length ≤ 3) (ho : IntsAre ov ons) (hop : ∀ x ∈ ons, 0 ≤ x) (ho1 : ∃ r, ons = 1 :: r)
    (hc : (L + 2, CellO (some (.ref ol))) ∈ led) (hol : (ol, ListO ov) ∈ led)
    (S : St w h₀ os gs ((L, LocO kv) :: (nl, ListO nv) :: led) s)
    (h : ∀ (al : Addr) (av : List Value) (tl : Led) gs' s', AllBare gs' → av.length = nums.length → (∀ (j : Nat) (x : Int), nums[j]? = some x → ∃ T, av[j]? = some (Value.ref T) ∧ (T, Asked ons x) ∈ tl) →
      St w h₀ os gs' ((L, LocO (putK "asked" (.ref al) kv)) :: (tl ++ (al, ListO av) :: (nl, ListO nv) :: led)) s' →
      wpAny (model prog w) A (execs (bL.drop 11) (eL w L)) Q E s')
    : wpAny (model prog w) A (execs (bL.drop 10) (eL w L)) Q E s := by
  have hnl := hn.length
  refine wpAny_execs_cons (asg_comp (h₀ := h₀) (os := os) (cl := [("other", L + 2)]) ?_)
  refine nmL S hk (wpAny_pyIter_list (S.isList (.tail _ (.head _))) ?_)
  have S1 := S.push (P := IterO nl 0) (o := { cls := .type "list_iterator", data := .fields #[.ref nl, .int 0 0] }) ⟨rfl, rfl⟩
  generalize s.heap.objs.size = it at S1
  refine ⟨gs, _, S1, fun C acc s2 _ S2 => ?_⟩
  have S2' : St w h₀ os gs ((C, LocO []) :: (L, LocO kv) :: ([] ++ (acc, ListO []) :: (it, IterO nl 0) :: (nl, ListO nv) :: led)) s2 := S2.perm (.cons _ (by
    refine (List.Perm.trans ?_ (List.Perm.swap ..))
    exact .cons _ (.swap ..)))
  refine comp_start (fun s => St w h₀ os gs ((C, LocO []) :: (L, LocO kv) :: ([] ++ (acc, ListO []) :: (it, IterO nl 0) :: (nl, ListO nv) :: led)) s) S2' (fun E Q s S hq => wpAny_pyIter_listiter (S.isIter (.tail _ (.tail _ (.tail _ (.head _))))) hq) fun s3 S3 => ?_
  refine codeAny_compLoop_list (fun m s => ∃ (i : Nat) (ys : List Value) (tl : Led) (gs : Array GenState), m = nums.length - i ∧ i ≤ nums.length ∧ ys.length = i ∧ AllBare gs ∧ (∀ (j : Nat) (x : Int), (nums.take i)[j]? = some x → ∃ T, ys[j]? = some (Value.ref T) ∧ (T, Asked ons x) ∈ tl) ∧
    St w h₀ os gs ((C, LocO []) :: (L, LocO kv) :: (tl ++ (acc, ListO ys) :: (it, IterO nl i) :: (nl, ListO nv) :: led)) s) ?_ nums.length ⟨0, [], [], gs, rfl, Nat.zero_le _, rfl, hb, by simp, S3⟩
  rintro m s4 ⟨i, ys, tl, gs4, rfl, hi, hyl, hb4, hys, S4⟩
  have mIt : ∀ {P Q : Addr × (Obj → Prop)}, (it, IterO nl i) ∈ P :: Q :: (tl ++ (acc, ListO ys) :: (it, IterO nl i) :: (nl, ListO nv) :: led) := .tail _ (.tail _ (List.mem_append_right _ (.tail _ (.head _))))
  have mNl : ∀ {P Q : Addr × (Obj → Prop)}, (nl, ListO nv) ∈ P :: Q :: (tl ++ (acc, ListO ys) :: (it, IterO nl i) :: (nl, ListO nv) :: led) := .tail _ (.tail _ (List.mem_append_right _ (.tail _ (.tail _ (.head _)))))
  cases hx : nv[i]? with
  | none =>
    refine wpAny_pyNext_list_end R.h (S4.isIter mIt) (S4.isList mNl) (by simpa using hx) fun h' hx' => ?_
    dsimp only
    have hge : nv.length ≤ i := List.getElem?_eq_none_iff.mp hx
    rw [List.take_of_length_le (by omega)] at hys
    have S4' := S4.perm (led' := (it, IterO nl i) :: ((C, LocO []) :: (L, LocO kv) :: (tl ++ (acc, ListO ys) :: (nl, ListO nv) :: led))) (by
      have := List.perm_middle (a := ((it, IterO nl i) : Addr × (Obj → Prop))) (l₁ := (C, LocO []) :: (L, LocO kv) :: (tl ++ [(acc, ListO ys)])) (l₂ := (nl, ListO nv) :: led)
      simpa using this)
    have S5 := S4'.lose (s' := { s4 with heap := h' }) (led' := (C, LocO []) :: (L, LocO kv) :: (tl ++ (acc, ListO ys) :: (nl, ListO nv) :: led)) (.head _) hx' (fun p hp => ⟨.tail _ hp, fun e => (List.nodup_cons.mp S4'.nodup).1 (List.mem_map.mpr ⟨p, hp, e⟩)⟩) (List.nodup_cons.mp S4'.nodup).2 rfl rfl
    exact ⟨.next, rfl, gs4, _, _, _, S5, fun s6 S6 => h acc ys tl gs4 s6 hb4 (by omega) hys S6⟩
  | some v =>
    obtain ⟨x, tx, hxn, rfl⟩ := IntsAre.get hn i v hx
    have hB := hbig x (List.mem_of_getElem? hxn)
    have hlt : i < nums.length := (List.getElem?_eq_some_iff.mp hxn).1
    refine wpAny_pyNext_list_item (S4.isIter mIt) (S4.isList mNl) (by simpa using hx) fun h' hit' hs' => ?_
    dsimp only
    have S5 := S4.put (s' := { s4 with heap := h' }) (P' := IterO nl (i + 1)) (.tail (.tail (Put.app (.tail .head) tl))) hs'.extBut hit' rfl rfl
    refine asN (stL S5 fun s6 S6 => ?_)
    have mC : ∀ {P Q : Addr × (Obj → Prop)}, (L + 2, CellO (some (.ref ol))) ∈ P :: Q :: (tl ++ (acc, ListO ys) :: (it, IterO nl (i + 1)) :: (nl, ListO nv) :: led) := .tail _ (.tail _ (List.mem_append_right _ (.tail _ (.tail _ (.tail _ hc)))))
    have mO : ∀ {P Q : Addr × (Obj → Prop)}, (ol, ListO ov) ∈ P :: Q :: (tl ++ (acc, ListO ys) :: (it, IterO nl (i + 1)) :: (nl, ListO nv) :: led) := .tail _ (.tail _ (List.mem_append_right _ (.tail _ (.tail _ (.tail _ hol)))))
    have hxb : 0 ≤ x ∧ x < 200000000 := ⟨by have := hB.1; omega, hB.2⟩
    refine Tuple_ (spliced_more (nmL S6 rfl (spliced_more ?_)))
    refine Call_ (nmG S6 (v := .ref 97) rfl (callWith_def (o := objAt w 97) (fd := fdAt w 97) rfl (spliced_more (nmL S6 rfl (spliced_more (nmC S6 (c := L + 2) (v := .ref ol) rfl mC (spliced_more (wpAny_Constant_str (spliced_none ⟨S6.topNow.obj rfl, ?_⟩)))))))))
    rw [ofS_dot]
    refine wr_call (R.le (by decide)) (S6.toks _) (S6.has _ mO) ho hop ho1 hb4 hxb fun t7 gs7 s7 hb7 S7 => ?_
    refine spliced_more ?_
    refine Call_ (nmG S7 (v := .ref 97) rfl (callWith_def (o := objAt w 97) (fd := fdAt w 97) rfl (spliced_more (nmL S7 rfl (spliced_more (nmC S7 (c := L + 2) (v := .ref ol) rfl mC (spliced_more (wpAny_Constant_str (spliced_none ⟨S7.topNow.obj rfl, ?_⟩)))))))))
    rw [ofS_slash]
    refine wr_call (R.le (by decide)) (S7.toks _) (S7.has _ mO) ho hop ho1 hb7 hxb fun t8 gs8 s8 hb8 S8 => ?_
    refine spliced_none (nwTup S8 (fun T s9 S9 => ?_) (by simp))
    have S10 := (S9.weakenHead (P' := Asked ons x) fun o h => ⟨tx, t7, t8, h⟩).perm ((List.Perm.swap ..).trans (.cons _ (.swap ..)))
    refine apL S10 (.tail (.tail (.tail (Put.app .head tl)))) (fun s11 S11 => ?_) (by omega)
    refine ⟨nums.length - (i + 1), by omega, i + 1, ys ++ [Value.ref T], (T, Asked ons x) :: tl, gs8, rfl, by omega, by simp; omega, hb8, ?_, S11.weakenHead fun o h => LocO.sub (kvs' := []) trivial h⟩
    intro j y hj
    rw [List.take_add_one, hxn] at hj
    rcases Nat.lt_or_ge j i with hji | hji
    · rw [List.getElem?_append_left (by rw [List.length_take]; omega)] at hj
      obtain ⟨T', h1, h2⟩ := hys j y hj
      exact ⟨T', by rw [List.getElem?_append_left (by omega)]; exact h1, .tail _ h2⟩
    · rw [List.getElem?_append_right (by rw [List.length_take]; omega)] at hj
      rw [List.length_take, show j - min i nums.length = j - i by omega] at hj
      have hj0 : j = i := by
        rcases Nat.eq_zero_or_pos (j - i) with h | h
        · omega
        · rw [List.getElem?_eq_none (by simp; omega)] at hj; cases hj
      subst hj0
      simp only [Nat.sub_self, Option.toList_some, List.getElem?_cons_zero, Option.some.injEq] at hj
      subst hj
      exact ⟨T, by rw [List.getElem?_append_right (by omega), hyl, Nat.sub_self]; rfl, .head _⟩
end
end Mine


/-! # L5 -/
namespace Mine
def outB : List Stmt := fBodyOf (bL.getD 11 (.Pass default))
def inB : List Stmt := fBodyOf (outB.getD 3 (.Pass default))
def cnt (f : Int) : Nat := (digs f).length
def lessV (f x : Int) : Int := (cnt x : Int) - cnt f
def belowV (al : Bool) (f x : Int) : Bool := decide (0 ≤ lessV f x) && (x.fdiv (10 ^ (lessV f x).toNat) == f) && al
def d1V (al : Bool) (ons : List Int) (f x : Int) : Bool := belowV al f x && ((lessV f x == 0) || markV ons (cnt f))
def d2V (al : Bool) (ons : List Int) (f x : Int) : Bool := belowV al f x && decide (0 < lessV f x) && markV ons (cnt f)
def bitI (b : Bool) : Int := if b then 1 else 0
section
variable {prog : Program} {w : World} {A : Around} {E : Value → Shared → Prop} {s : Shared} {h₀ : Base} {os : OsState} {gs : Array GenState} {led led' : Led} {env : Env} {kvs : List (Str × Value)}

def asgV : Stmt → Expr | .Assign _ v _ => v | .AugAssign _ _ v _ => v | _ => .Constant .none 0 default
def belE : Expr := asgV (inB.getD 1 (.Pass default))
def d1E : Expr := asgV (inB.getD 2 (.Pass default))
def d2E : Expr := asgV (inB.getD 3 (.Pass default))
theorem bel_eval {L : Addr} {K : List (Str × Value)} {f x : Int} {alk : Bool} {tl tx tf : Tok} {Q : Value → Shared → Prop} (hl : lessV f x ≤ 8)
    (k1 : K.lookup (Str.ofString "less") = some (.int (lessV f x) tl)) (k2 : K.lookup (Str.ofString "x") = some (.int x tx)) (k3 : K.lookup (Str.ofString "front") = some (.int f tf)) (k4 : K.lookup (Str.ofString "alike") = some (.bool alk))
    (S : St w h₀ os gs ((L, LocO K) :: led) s) (h : ∀ s', St w h₀ os gs ((L, LocO K) :: led) s' → Q (.bool (belowV alk f x)) s') : wpAny (model prog w) A (eval belE (eL w L)) Q E s := by
  refine BoolOp_and (wpAny_Compare1 (nmL S k1 (wpAny_Constant_int (ge_int (wpAny_truthy_bool ?_)))))
  unfold belowV at h
  by_cases h0 : 0 ≤ lessV f x
  · rw [if_pos (by simpa using h0)]
    rw [show decide (0 ≤ lessV f x) = true from by simpa using h0, Bool.true_and] at h
    refine BoolOp_and (wpAny_Compare1 (wpAny_BinOp (nmL (S.toks _) k2 (wpAny_BinOp (wpAny_Constant_int (nmL (S.toks _) k1 ?_))))))
    refine pow_int_small h0 (by omega) (by decide) ?_
    obtain ⟨k, hk⟩ : ∃ k : Nat, (lessV f x).toNat = k := ⟨_, rfl⟩
    rw [hk] at h ⊢
    have hp : (10 : Int) ^ k = ((10 ^ k : Nat) : Int) := by simp
    have hpl : 10 ^ k ≤ 10 ^ 8 := Nat.pow_le_pow_right (by decide) (by omega)
    have hpp : 0 < 10 ^ k := Nat.pow_pos (by decide)
    refine floordiv_int (by rw [hp]; omega) ?_ (Or.inl (PyProof.noPylong_small (by rw [hp]; omega)))
    refine nmL (S.toks _) k3 (eq_int (wpAny_truthy_bool ?_))
    cases hq : (x.fdiv (10 ^ k) == f) with
    | true =>
      rw [hq, Bool.true_and] at h
      rw [if_pos rfl]
      refine BoolOp_one (nmL (S.toks _) k4 ?_)
      exact h _ (S.toks _)
    | false =>
      rw [hq, Bool.false_and] at h
      rw [if_neg (by simp)]
      exact h _ (S.toks _)
  · rw [if_neg (by simpa using h0)]
    rw [show decide (0 ≤ lessV f x) = false from by simpa using h0, Bool.false_and, Bool.false_and] at h
    rw [show decide (0 ≤ lessV f x) = false from by simpa using h0]
    exact h _ (S.toks _)

def bitS (b : Bool) : Str := if b then Str.ofString "1" else Str.ofString "0"
theorem bitS_digs (b : Bool) : mkS (digs (if b = true then 1 else 0)) = bitS b := by
  cases b <;> (rw [mkS_digs]; rfl)
theorem bitS_inj {a b c d : Bool} (h1 : a = c) (h2 : b = d) : (bitS a ++ bitS b != bitS c ++ bitS d) = false := by subst h1; subst h2; simp
theorem mark_get {ons : List Int} {c : Nat} (h1 : 1 ≤ c) (h2 : c ≤ 9) : (marksV ons 9)[((c : Int) - 1).toNat]? = some (.bool (markV ons c)) := by
  unfold marksV
  rw [List.getElem?_map, List.getElem?_range (by omega)]
  simp only [Option.map_some]
  congr 3
  omega

theorem d1_eval {L mo : Addr} {K : List (Str × Value)} {f x : Int} {alk : Bool} {tl tc : Tok} {ons : List Int} {Q : Value → Shared → Prop} (hcf : cnt f ≤ 9 ∧ 1 ≤ cnt f) (hmo : ∃ o, h₀ mo = some o ∧ ListO (marksV ons 9) o)
    (k1 : K.lookup (Str.ofString "less") = some (.int (lessV f x) tl)) (k2 : K.lookup (Str.ofString "below") = some (.bool (belowV alk f x))) (k3 : K.lookup (Str.ofString "others") = some (.ref mo)) (k4 : K.lookup (Str.ofString "count") = some (.int (cnt f : Nat) tc))
    (S : St w h₀ os gs ((L, LocO K) :: led) s) (h : ∀ t s', St w h₀ os gs ((L, LocO K) :: led) s' → Q (.str (bitS (d1V alk ons f x)) t) s') : wpAny (model prog w) A (eval d1E (eL w L)) Q E s := by
  obtain ⟨om, hm1, hm2⟩ := hmo
  refine wpAny_IfExp (wpAny_isTrue_BoolOp (wpAny_allTrue_And_cons (isTrue_plain (nmL S k2 (wpAny_truthy_bool ?_)))))
  unfold d1V at h
  cases hb : belowV alk f x with
  | false =>
    rw [hb, Bool.false_and] at h
    rw [if_neg (by simp), if_neg (by simp)]
    exact wpAny_Constant_str (h _ _ (S.toks _))
  | true =>
    rw [hb, Bool.true_and] at h
    rw [if_pos rfl]
    refine wpAny_allTrue_And_cons (wpAny_isTrue_BoolOp (wpAny_allTrue_Or_cons (wpAny_isTrue_Compare1 (nmL S k1 (wpAny_Constant_int (eq_int (wpAny_truthy_bool ?_)))))))
    cases hz : (lessV f x == 0) with
    | true =>
      rw [hz, Bool.true_or] at h
      rw [if_pos rfl, if_pos rfl]
      refine wpAny_allTrue_And_nil ?_
      rw [if_pos rfl]
      exact wpAny_Constant_str (h _ _ (S.toks _))
    | false =>
      rw [hz, Bool.false_or] at h
      rw [if_neg (by simp)]
      refine wpAny_allTrue_Or_cons (isTrue_plain (Subscript_ (nmL (S.toks _) k3 (wpAny_BinOp (nmL (S.toks _) k4 (wpAny_Constant_int (sub_int ?_)))))))
      refine item_listL (ListO.at (S.keep _ _ hm1) hm2) (by omega) (by omega) (mark_get hcf.2 hcf.1) (wpAny_truthy_bool ?_)
      cases hmk : markV ons (cnt f) with
      | true =>
        rw [hmk] at h
        rw [if_pos rfl, if_pos rfl]
        refine wpAny_allTrue_And_nil ?_
        rw [if_pos rfl]
        exact wpAny_Constant_str (h _ _ (S.toks _))
      | false =>
        rw [hmk] at h
        rw [if_neg (by simp)]
        refine wpAny_allTrue_Or_nil ?_
        rw [if_neg (by simp), if_neg (by simp)]
        exact wpAny_Constant_str (h _ _ (S.toks _))
theorem d2_eval {L mo : Addr} {K : List (Str × Value)} {f x : Int} {alk : Bool} {tl tc : Tok} {ons : List Int} {Q : Value → Shared → Prop} (hcf : cnt f ≤ 9 ∧ 1 ≤ cnt f) (hmo : ∃ o, h₀ mo = some o ∧ ListO (marksV ons 9) o)
    (k1 : K.lookup (Str.ofString "less") = some (.int (lessV f x) tl)) (k2 : K.lookup (Str.ofString "below") = some (.bool (belowV alk f x))) (k3 : K.lookup (Str.ofString "others") = some (.ref mo)) (k4 : K.lookup (Str.ofString "count") = some (.int (cnt f : Nat) tc))
    (S : St w h₀ os gs ((L, LocO K) :: led) s) (h : ∀ t s', St w h₀ os gs ((L, LocO K) :: led) s' → Q (.str (bitS (d2V alk ons f x)) t) s') : wpAny (model prog w) A (eval d2E (eL w L)) Q E s := by
  obtain ⟨om, hm1, hm2⟩ := hmo
  refine wpAny_IfExp (wpAny_isTrue_BoolOp (wpAny_allTrue_And_cons (isTrue_plain (nmL S k2 (wpAny_truthy_bool ?_)))))
  unfold d2V at h
  cases hb : belowV alk f x with
  | false =>
    rw [hb, Bool.false_and, Bool.false_and] at h
    rw [if_neg (by simp), if_neg (by simp)]
    exact wpAny_Constant_str (h _ _ (S.toks _))
  | true =>
    rw [hb, Bool.true_and] at h
    rw [if_pos rfl]
    refine wpAny_allTrue_And_cons (wpAny_isTrue_Compare1 (nmL S k1 (wpAny_Constant_int (gt_int (wpAny_truthy_bool ?_)))))
    cases hz : decide (0 < lessV f x) with
    | false =>
      rw [hz, Bool.false_and] at h
      rw [if_neg (by simp), if_neg (by simp)]
      exact wpAny_Constant_str (h _ _ (S.toks _))
    | true =>
      rw [hz, Bool.true_and] at h
      rw [if_pos rfl]
      refine wpAny_allTrue_And_cons (isTrue_plain (Subscript_ (nmL (S.toks _) k3 (wpAny_BinOp (nmL (S.toks _) k4 (wpAny_Constant_int (sub_int ?_)))))))
      refine item_listL (ListO.at (S.keep _ _ hm1) hm2) (by omega) (by omega) (mark_get hcf.2 hcf.1) (wpAny_truthy_bool ?_)
      cases hmk : markV ons (cnt f) with
      | true =>
        rw [hmk] at h
        rw [if_pos rfl]
        refine wpAny_allTrue_And_nil ?_
        rw [if_pos rfl]
        exact wpAny_Constant_str (h _ _ (S.toks _))
      | false =>
        rw [hmk] at h
        rw [if_neg (by simp), if_neg (by simp)]
        exact wpAny_Constant_str (h _ _ (S.toks _))

set_option maxHeartbeats 4000000 in
theorem law_in {L rl ml mo al xr dx m d ig : Addr} {nm dir : Str} {fil nam : List Nat} {td tfr tc tx tn tf : Tok} {f x : Int} {alk : Bool} {es : List DictEntry} {n : Nat} {kvs : List (Str × Value)} {ons : List Int} {Q : Flow → Shared → Prop} (R : Room A 8)
    (hes : RdEs m d ig es) (hk1 : mkS nam ∉ kvs.map (·.1)) (hk2 : mkS (digs x) ∉ kvs.map (·.1)) (hk3 : mkS (digs x) ≠ mkS nam) (hlen : kvs.length ≤ 900) (h1 : nm.length ≤ 10000) (h2 : dir.length ≤ 10000)
    (hx : 0 ≤ x ∧ x < 200000000) (hf : 0 ≤ f ∧ f < 200000000) (hmo : ∃ o, h₀ mo = some o ∧ ListO (marksV ons 9) o)
    (ha1 : namesV nm dir (Str.ofString "") (mkS nam) = d1V alk ons f x) (ha2 : namesV nm dir (mkS fil) (mkS (digs x)) = d2V alk ons f x)
    (S : St w h₀ os gs ((L, LocO [("front", .int f tfr), ("reader", .ref xr), ("count", .int (cnt f : Nat) tc), ("alike", .bool alk), ("row", .ref rl), ("marks", .ref ml), ("others", .ref mo), ("asked", .ref al), ("x", .int x tx), ("name", .str (mkS nam) tn), ("file", .str (mkS fil) tf)]) ::
      (rdLed prog w xr dx m d ig nm (.str dir td) es n kvs ++ led)) s)
    (h : ∀ v1 v2 s', St w h₀ os gs ((L, LocO [("front", .int f tfr), ("reader", .ref xr), ("count", .int (cnt f : Nat) tc), ("alike", .bool alk), ("row", .ref rl), ("marks", .ref ml), ("others", .ref mo), ("asked", .ref al)]) ::
      (rdLed prog w xr dx m d ig nm (.str dir td) es n (kvs ++ [(mkS nam, v1)] ++ [(mkS (digs x), v2)]) ++ led)) s' → Q .next s') :
    wpAny (model prog w) A (execs inB (eL w L)) Q E s := by
  have hcx : cnt x ≤ 9 ∧ 1 ≤ cnt x := by
    unfold cnt; rw [digs_int hx.1]; exact ⟨dg_len_le 8 x.toNat (by omega), dg_pos _⟩
  have hcf : cnt f ≤ 9 ∧ 1 ≤ cnt f := by
    unfold cnt; rw [digs_int hf.1]; exact ⟨dg_len_le 8 f.toNat (by omega), dg_pos _⟩
  refine wpAny_execs_cons (wpAny_Assign_Name (wpAny_BinOp ?_))
  refine Call_name1 rfl (nmB S (v := .builtin "len") rfl bb_len (callWith_builtin1 ?_))
  refine Call_name1 rfl (nmB S (v := .type "str") rfl bb_str (callWith_type1 (nmL S rfl ?_)))
  refine strI (by omega) S fun t1 s1 S1 => ?_
  refine lenS (by have := hcx.1; unfold cnt at this; omega) S1 fun t2 s2 S2 => ?_
  refine nmL S2 rfl (sub_int ?_)
  rw [show ((digs x).length : Int) - (cnt f : Nat) = lessV f x from rfl]
  refine stL (S2.toks _) fun s3 S3 => ?_
  dsimp only
  refine wpAny_execs_cons (wpAny_Assign_Name ?_)
  refine bel_eval (f := f) (x := x) (alk := alk) (by unfold lessV; omega) rfl rfl rfl rfl S3 fun s4 S4 => stL S4 fun s5 S5 => ?_
  dsimp only
  refine wpAny_execs_cons (wpAny_Assign_Name ?_)
  refine d1_eval (f := f) (x := x) (alk := alk) hcf hmo rfl rfl rfl rfl S5 fun t6 s6 S6 => stL S6 fun s7 S7 => ?_
  dsimp only
  refine wpAny_execs_cons (wpAny_AugAssign_Name ?_)
  refine ldL S7 rfl ?_
  refine d2_eval (f := f) (x := x) (alk := alk) hcf hmo rfl rfl rfl rfl S7 fun t8 s8 S8 => ?_
  refine PyProof.Rows.iadd_str (fun t9 k9 => ?_) (by rw [sizeLine_eq]; unfold bitS; split <;> split <;> decide)
  refine stL (S8.toks _) fun s10 S10 => ?_
  have S11 := S10.weakenHead (P' := LocO [("front", .int f tfr), ("reader", .ref xr), ("count", .int (cnt f : Nat) tc), ("alike", .bool alk), ("row", .ref rl), ("marks", .ref ml), ("others", .ref mo), ("asked", .ref al), ("x", .int x tx), ("name", .str (mkS nam) tn), ("file", .str (mkS fil) tf), ("due", .str (bitS (d1V alk ons f x) ++ bitS (d2V alk ons f x)) t9)]) fun o h =>
    LocO.sub (kvs' := [("front", .int f tfr), ("reader", .ref xr), ("count", .int (cnt f : Nat) tc), ("alike", .bool alk), ("row", .ref rl), ("marks", .ref ml), ("others", .ref mo), ("asked", .ref al), ("x", .int x tx), ("name", .str (mkS nam) tn), ("file", .str (mkS fil) tf), ("due", .str (bitS (d1V alk ons f x) ++ bitS (d2V alk ons f x)) t9)]) ⟨rfl, rfl, rfl, rfl, rfl, rfl, rfl, rfl, rfl, rfl, rfl, rfl, trivial⟩ h
  clear S S1 S2 S3 S4 S5 S6 S7 S8 S10
  dsimp only
  refine wpAny_execs_cons (wpAny_If (wpAny_isTrue_Compare1 (wpAny_BinOp ?_)))
  refine Call_name1 rfl (nmB S11 (v := .type "str") rfl bb_str (callWith_type1 ?_))
  refine methodCall_KW (pl := _) (nmL S11 rfl ?_)
  refine getNames (kvs := kvs) (nm := nm) (dir := .none) (es := es) (n := n) (m := m) (d := d) (ig := ig) S11 (.tail _ (.tail _ (.tail _ (.tail _ (.head _))))) (.tail _ (.tail _ (.tail _ (.tail _ (.tail _ (.head _)))))) hes ?_
  refine callWith_K (K := KH w) (h₀ := s10.heap) S11.KIn rfl (spliced_more (wpAny_Constant_str (spliced_more (nmL (S11.toks _) rfl (spliced_none ⟨(S11.toks _).KIn, ?_⟩)))))
  have S12 := (S11.toks (s10.toks + 1)).unfront
  refine names_call (r := 7) R hes hk1 (by omega) h1 h2 S12 fun t13 t13' s13 S13 => ?_
  rw [ha1] at S13 ⊢
  have S14 := S13.front
  refine strI (by split <;> decide) S14 fun t15 s15 S15 => ?_
  rw [bitS_digs]
  refine Call_name1 rfl (nmB S15 (v := .type "str") rfl bb_str (callWith_type1 ?_))
  refine methodCall_KW (pl := _) (nmL S15 rfl ?_)
  refine getNames (kvs := kvs) (nm := nm) (dir := .none) (es := es) (n := n) (m := m) (d := d) (ig := ig) S15 (.tail _ (.tail _ (.tail _ (.tail _ (.head _))))) (.tail _ (.tail _ (.tail _ (.tail _ (.tail _ (.head _)))))) hes ?_
  refine callWith_K (K := KH w) (h₀ := s15.heap) S15.KIn rfl (spliced_more (nmL S15 rfl (spliced_more ?_)))
  refine Call_name1 rfl (nmB S15 (v := .type "str") rfl bb_str (callWith_type1 (nmL S15 rfl ?_)))
  refine strI (by omega) S15 fun t16 s16 S16 => ?_
  refine spliced_none ⟨S16.KIn, ?_⟩
  refine names_call (r := 7) R hes (by
    rw [List.map_append, List.mem_append]
    rintro (h | h)
    · exact hk2 h
    · exact hk3 (List.mem_singleton.mp h)) (by rw [List.length_append]; simp; omega) h1 h2 S16.unfront fun t17 t17' s17 S17 => ?_
  rw [ha2] at S17 ⊢
  have S18 := S17.front
  refine strI (by split <;> decide) S18 fun t19 s19 S19 => ?_
  rw [bitS_digs]
  refine PyProof.Rows.add_str (fun t20 k20 => ?_) (by rw [sizeLine_eq]; unfold bitS; split <;> split <;> decide)
  refine nmL (S19.toks _) rfl (ne_str (wpAny_truthy_bool ?_))
  rw [bitS_inj rfl rfl, if_neg (by simp)]
  refine wpAny_execs_nil ?_
  dsimp only
  refine wpAny_execs_nil ?_
  exact h _ _ _ ((S19.toks _).weakenHead fun o h => LocO.sub (kvs' := [("front", .int f tfr), ("reader", .ref xr), ("count", .int (cnt f : Nat) tc), ("alike", .bool alk), ("row", .ref rl), ("marks", .ref ml), ("others", .ref mo), ("asked", .ref al)]) ⟨rfl, rfl, rfl, rfl, rfl, rfl, rfl, rfl, trivial⟩ h)
end
end Mine


/-! # L6 -/
namespace Mine
def alikeV (rns ons : List Int) (f : Int) : Bool := (List.range (cnt f - 1)).all fun j => markV rns ((j : Int) + 1) == markV ons ((j : Int) + 1)
def keysV (ons : List Int) : List Int → List Str
  | [] => []
  | x :: r => mkS (wrV 46 ons x) :: mkS (digs x) :: keysV ons r
theorem keysV_app (ons : List Int) : ∀ (a b : List Int), keysV ons (a ++ b) = keysV ons a ++ keysV ons b
  | [], b => rfl
  | x :: r, b => by simp [keysV, keysV_app ons r b]
/-- what the plain law must tell -/
structure Plain (rns ons nums fronts : List Int) : Prop where
  front : ∀ f ∈ fronts, 0 ≤ f ∧ f < 200000000
  num : ∀ x ∈ nums, 0 ≤ x ∧ x < 200000000
  few : nums.length ≤ 3
  path : ∀ f ∈ fronts, PathOk (grV rns f)
  len : ∀ f ∈ fronts, (wrV 46 rns f).length ≤ 1000
  law : ∀ f ∈ fronts, ∀ x ∈ nums, namesV (mkS (wrV 46 rns f)) (mkS (wrV 47 rns f)) (Str.ofString "") (mkS (wrV 46 ons x)) = d1V (alikeV rns ons f) ons f x ∧
    namesV (mkS (wrV 46 rns f)) (mkS (wrV 47 rns f)) (mkS (wrV 47 ons x)) (mkS (digs x)) = d2V (alikeV rns ons f) ons f x
  keys : (Str.ofString "<string>" :: keysV ons nums).Nodup

section
variable {prog : Program} {w : World} {A : Around} {E : Value → Shared → Prop} {s : Shared} {h₀ : Base} {os : OsState} {gs : Array GenState} {led led' : Led} {env : Env} {kvs : List (Str × Value)}

theorem marks_take {ns : List Int} {c j : Nat} (h : j < c) (hc : c ≤ 9) : ((marksV ns 9).take c)[j]? = some (.bool (markV ns ((j : Int) + 1))) := by
  rw [List.getElem?_take_of_lt h]
  unfold marksV
  rw [List.getElem?_map, List.getElem?_range (by omega)]; rfl
theorem marks_take_len {ns : List Int} {c : Nat} (hc : c ≤ 9) : ((marksV ns 9).take c).length = c := by
  unfold marksV
  rw [List.length_take, List.length_map, List.length_range]; omega

/-- the marks alike -/
theorem alike_eq {a b : Addr} {rns ons : List Int} {c : Nat} {Q : Value → Shared → Prop} (hu : A.units < cLine) (hc : c ≤ 9) (S : St w h₀ os gs led s) (ha : (a, ListO ((marksV rns 9).take c)) ∈ led) (hb : (b, ListO ((marksV ons 9).take c)) ∈ led)
    (h : Q (.bool ((List.range c).all fun j => markV rns ((j : Int) + 1) == markV ons ((j : Int) + 1))) s) : wpAny (model prog w) A (compareOp .Eq (.ref a) (.ref b)) Q E s := by
  have hl1 := marks_take_len (ns := rns) hc
  have hl2 := marks_take_len (ns := ons) hc
  refine SeqAt.eq_listAt (e := fun j => markV rns ((j : Int) + 1) == markV ons ((j : Int) + 1)) (S.isList ha) (S.isList hb) (by rw [List.size_toArray, List.size_toArray, hl1, hl2]) hu (fun j h1 h2 => ?_) (by rw [List.size_toArray, hl1]; exact h)
  rw [List.size_toArray, hl1] at h1
  have e1 := marks_take (ns := rns) h1 hc
  have e2 := marks_take (ns := ons) h1 hc
  rw [List.getElem?_eq_getElem (by omega)] at e1 e2
  have e1' := Option.some.inj e1
  have e2' := Option.some.inj e2
  rw [List.getElem_toArray, List.getElem_toArray, e1', e2']
  exact SeqAt.EqAt.bool_bool _ _

structure Stage (h₀ : Base) (rns ons nums : List Int) (rl ml mo al : Addr) : Prop where
  row : ∃ o rv, h₀ rl = some o ∧ ListO rv o ∧ IntsAre rv rns
  row0 : ∀ x ∈ rns, 0 ≤ x
  row1 : ∃ r, rns = 1 :: r
  mks : ∃ o, h₀ ml = some o ∧ ListO (marksV rns 9) o
  mos : ∃ o, h₀ mo = some o ∧ ListO (marksV ons 9) o
  asked : ∃ o av, h₀ al = some o ∧ ListO av o ∧ av.length = nums.length ∧ ∀ (j : Nat) (x : Int), nums[j]? = some x → ∃ T o', av[j]? = some (Value.ref T) ∧ h₀ T = some o' ∧ Asked ons x o'

set_option maxHeartbeats 8000000 in
theorem law_front {L rl ml mo al : Addr} {rns ons nums fronts : List Int} {f : Int} {tfr : Tok} {Q : Flow → Shared → Prop} (R : Room A 8) (hb : AllBare gs) (PL : Plain rns ons nums fronts) (SG : Stage h₀ rns ons nums rl ml mo al) (hfm : f ∈ fronts)
    (S : St w h₀ os gs ((L, LocO [("front", .int f tfr), ("row", .ref rl), ("marks", .ref ml), ("others", .ref mo), ("asked", .ref al)]) :: led) s)
    (h : ∀ gs' s', AllBare gs' → St w h₀ os gs' ((L, LocO [("row", .ref rl), ("marks", .ref ml), ("others", .ref mo), ("asked", .ref al)]) :: led) s' → Q .next s') :
    wpAny (model prog w) A (execs outB (eL w L)) Q E s := by
  obtain ⟨orow, rv, hr1, hr2, hri⟩ := SG.row
  obtain ⟨omk, hmk1, hmk2⟩ := SG.mks
  obtain ⟨omo, hmo1, hmo2⟩ := SG.mos
  obtain ⟨oal, av, hal1, hal2, hall, has⟩ := SG.asked
  have hfb := PL.front f hfm
  have hcf : cnt f ≤ 9 ∧ 1 ≤ cnt f := by
    unfold cnt; rw [digs_int hfb.1]; exact ⟨dg_len_le 8 f.toNat (by omega), dg_pos _⟩
  refine wpAny_execs_cons (wpAny_Assign_Name ?_)
  refine Call_ (nmG S (v := .ref 86) rfl (callWith_K (K := KH w) (h₀ := s.heap) (f := .ref 86) (first := []) S.KIn rfl (spliced_more (List_ (spliced_more ?_)))))
  refine Call_ (nmG S (v := .ref 97) rfl (callWith_def (o := objAt w 97) (fd := fdAt w 97) rfl (spliced_more (nmL S rfl (spliced_more (nmL S rfl (spliced_more (wpAny_Constant_str (spliced_none ⟨S.topNow.obj rfl, ?_⟩)))))))))
  rw [ofS_dot]
  refine wr_call (R.le (by decide)) (S.toks _) ⟨orow, S.keep _ _ hr1, hr2⟩ hri SG.row0 SG.row1 hb hfb fun t1 gs1 s1 hb1 S1 => ?_
  refine spliced_none (nwList S1 (fun l1 s2 _ S2 => ?_) (by simp))
  have S3 := S2.swap
  refine spliced_more (List_ (spliced_more ?_))
  refine Call_ (nmG S3 (v := .ref 97) rfl (callWith_def (o := objAt w 97) (fd := fdAt w 97) rfl (spliced_more (nmL S3 rfl (spliced_more (nmL S3 rfl (spliced_more (wpAny_Constant_str (spliced_none ⟨S3.topNow.obj rfl, ?_⟩)))))))))
  rw [ofS_slash]
  refine wr_call (R.le (by decide)) (S3.toks _) ⟨orow, S3.keep _ _ hr1, hr2⟩ hri SG.row0 SG.row1 hb1 hfb fun t4 gs4 s4 hb4 S4 => ?_
  refine spliced_none (nwList S4 (fun l2 s5 _ S5 => ?_) (by simp))
  refine spliced_none ⟨S5.KIn, ?_⟩
  refine ignore_call (n := 2) (parts := grV rns f) (nm := mkS (wrV 46 rns f)) R hb4 (PL.path f hfm) (S5.has _ (.tail _ (.tail _ (.head _)))) (S5.has _ (.head _)) S5 fun xr dx m d ig es n gs6 t6 t6' s6 hes hb6 S6 => ?_
  have S7 := (S6.subl (led' := rdLed prog w xr dx m d ig (mkS (wrV 46 rns f)) (.str (mkS (joinL [47] (grV rns f))) t6) es n [("<string>", .int 1 t6')] ++ (L, LocO [("front", .int f tfr), ("row", .ref rl), ("marks", .ref ml), ("others", .ref mo), ("asked", .ref al)]) :: led) ((List.Sublist.refl _).append (.cons _ (.cons₂ _ (.cons _ (List.Sublist.refl _)))))).front
  refine stL S7 fun s8 S8 => ?_
  dsimp only
  refine wpAny_execs_cons (wpAny_Assign_Name ?_)
  refine Call_name1 rfl (nmB S8 (v := .builtin "len") rfl bb_len (callWith_builtin1 ?_))
  refine Call_name1 rfl (nmB S8 (v := .type "str") rfl bb_str (callWith_type1 (nmL S8 rfl ?_)))
  refine strI (by omega) S8 fun t9 s9 S9 => ?_
  refine lenS (by have := hcf.1; unfold cnt at this; omega) S9 fun t10 s10 S10 => ?_
  refine stL S10 fun s11 S11 => ?_
  dsimp only
  refine wpAny_execs_cons (wpAny_Assign_Name (wpAny_Compare1 (Subscript_ (nmL S11 rfl ?_))))
  refine wpAny_Slice (wpAny_pure ?_)
  refine wpAny_BinOp (nmL S11 rfl (wpAny_Constant_int (sub_int (wpAny_pure ?_))))
  rw [show (((digs f).length : Nat) : Int) - 1 = ((cnt f - 1 : Nat) : Int) by unfold cnt at hcf ⊢; omega]
  refine tailL_ns (S11.toks _) (.inl ⟨omk, hmk1, hmk2⟩) (fun q1 s12 S12 => ?_) (by simp [marksV])
  have S13 := S12.swap
  refine Subscript_ (nmL S13 rfl ?_)
  refine wpAny_Slice (wpAny_pure ?_)
  refine wpAny_BinOp (nmL S13 rfl (wpAny_Constant_int (sub_int (wpAny_pure ?_))))
  rw [show (((digs f).length : Nat) : Int) - 1 = ((cnt f - 1 : Nat) : Int) by unfold cnt at hcf ⊢; omega]
  refine tailL_ns (S13.toks _) (.inl ⟨omo, hmo1, hmo2⟩) (fun q2 s14 S14 => ?_) (by simp [marksV])
  refine alike_eq (rns := rns) (ons := ons) (c := cnt f - 1) R.unit (by omega) S14 (.tail _ (.tail _ (.head _))) (.head _) ?_
  rw [show ((List.range (cnt f - 1)).all fun j => markV rns ((j : Int) + 1) == markV ons ((j : Int) + 1)) = alikeV rns ons f from rfl]
  have S15 := S14.tail.drop2
  refine stL S15 fun s16 S16 => ?_
  dsimp only
  have S17 := S16.weakenHead (P' := LocO [("front", .int f tfr), ("reader", .ref xr), ("count", .int (cnt f : Nat) t10), ("alike", .bool (alikeV rns ons f)), ("row", .ref rl), ("marks", .ref ml), ("others", .ref mo), ("asked", .ref al)]) fun o h => LocO.sub (kvs' := [("front", .int f tfr), ("reader", .ref xr), ("count", .int (cnt f : Nat) t10), ("alike", .bool (alikeV rns ons f)), ("row", .ref rl), ("marks", .ref ml), ("others", .ref mo), ("asked", .ref al)]) ⟨rfl, rfl, rfl, rfl, rfl, rfl, rfl, rfl, trivial⟩ h
  clear S S1 S2 S3 S4 S5 S6 S7 S8 S9 S10 S11 S12 S13 S14 S15 S16
  refine wpAny_execs_cons (wpAny_For (nmL S17 rfl (wpAny_pyIter_list (ListO.at (S17.keep _ _ hal1) hal2) ?_)))
  have S18 := S17.push (P := IterO al 0) (o := { cls := .type "list_iterator", data := .fields #[.ref al, .int 0 0] }) ⟨rfl, rfl⟩
  generalize s16.heap.objs.size = it at S18
  have S19 : St w h₀ os gs6 ((L, LocO [("front", .int f tfr), ("reader", .ref xr), ("count", .int (cnt f : Nat) t10), ("alike", .bool (alikeV rns ons f)), ("row", .ref rl), ("marks", .ref ml), ("others", .ref mo), ("asked", .ref al)]) :: (rdLed prog w xr dx m d ig (mkS (wrV 46 rns f)) (.str (mkS (joinL [47] (grV rns f))) t6) es n [("<string>", .int 1 t6')] ++ (it, IterO al 0) :: led)) _ := S18.swap.perm (.cons _ List.perm_middle.symm)
  refine codeAny_forLoop_any (fun c s => ∃ (i : Nat) (vs : List (Str × Value)), c = nums.length - i ∧ i ≤ nums.length ∧ vs.map (·.1) = Str.ofString "<string>" :: keysV ons (nums.take i) ∧ vs.length = 2 * i + 1 ∧
    St w h₀ os gs6 ((L, LocO [("front", .int f tfr), ("reader", .ref xr), ("count", .int (cnt f : Nat) t10), ("alike", .bool (alikeV rns ons f)), ("row", .ref rl), ("marks", .ref ml), ("others", .ref mo), ("asked", .ref al)]) :: (rdLed prog w xr dx m d ig (mkS (wrV 46 rns f)) (.str (mkS (joinL [47] (grV rns f))) t6) es n vs ++ (it, IterO al i) :: led)) s) ?_ nums.length ⟨0, [("<string>", .int 1 t6')], rfl, Nat.zero_le _, rfl, rfl, S19⟩
  rintro c s20 ⟨i, vs, rfl, hi, hvk, hvl, S20⟩
  have hfew := PL.few
  cases hx : av[i]? with
  | none =>
    have S21 := S20.perm (led' := (it, IterO al i) :: ((L, LocO [("front", .int f tfr), ("reader", .ref xr), ("count", .int (cnt f : Nat) t10), ("alike", .bool (alikeV rns ons f)), ("row", .ref rl), ("marks", .ref ml), ("others", .ref mo), ("asked", .ref al)]) :: (rdLed prog w xr dx m d ig (mkS (wrV 46 rns f)) (.str (mkS (joinL [47] (grV rns f))) t6) es n vs ++ led))) (by
      have := List.perm_middle (a := ((it, IterO al i) : Addr × (Obj → Prop))) (l₁ := (L, LocO [("front", .int f tfr), ("reader", .ref xr), ("count", .int (cnt f : Nat) t10), ("alike", .bool (alikeV rns ons f)), ("row", .ref rl), ("marks", .ref ml), ("others", .ref mo), ("asked", .ref al)]) :: rdLed prog w xr dx m d ig (mkS (wrV 46 rns f)) (.str (mkS (joinL [47] (grV rns f))) t6) es n vs) (l₂ := led)
      simpa using this)
    refine wpAny_pyNext_list_end R.h (S21.isIter (.head _)) (ListO.at (S21.keep _ _ hal1) hal2) (by simpa using hx) fun h' hx' => ?_
    dsimp only
    have S22 := S21.lose (s' := { s20 with heap := h' }) (led' := (L, LocO [("front", .int f tfr), ("reader", .ref xr), ("count", .int (cnt f : Nat) t10), ("alike", .bool (alikeV rns ons f)), ("row", .ref rl), ("marks", .ref ml), ("others", .ref mo), ("asked", .ref al)]) :: (rdLed prog w xr dx m d ig (mkS (wrV 46 rns f)) (.str (mkS (joinL [47] (grV rns f))) t6) es n vs ++ led)) (.head _) hx' (fun p hp => ⟨.tail _ hp, fun e => (List.nodup_cons.mp S21.nodup).1 (List.mem_map.mpr ⟨p, hp, e⟩)⟩) (List.nodup_cons.mp S21.nodup).2 rfl rfl
    refine wpAny_execs_nil ?_
    dsimp only
    refine wpAny_execs_nil ?_
    exact h gs6 _ hb6 ((S22.subl (led' := (L, LocO [("front", .int f tfr), ("reader", .ref xr), ("count", .int (cnt f : Nat) t10), ("alike", .bool (alikeV rns ons f)), ("row", .ref rl), ("marks", .ref ml), ("others", .ref mo), ("asked", .ref al)]) :: led) (.cons₂ _ (List.sublist_append_right _ _))).weakenHead fun o h => LocO.sub (kvs' := [("row", .ref rl), ("marks", .ref ml), ("others", .ref mo), ("asked", .ref al)]) ⟨rfl, rfl, rfl, rfl, trivial⟩ h)
  | some v =>
    have hlt : i < nums.length := by rw [← hall]; exact (List.getElem?_eq_some_iff.mp hx).1
    obtain ⟨x, hxn⟩ : ∃ x, nums[i]? = some x := ⟨_, List.getElem?_eq_getElem hlt⟩
    obtain ⟨T, oT, hT1, hT2, u1, u2, u3, nT, rfl⟩ := has i x hxn
    rw [hx] at hT1
    obtain rfl : v = .ref T := Option.some.inj hT1
    have hxm := List.mem_of_getElem? hxn
    have mIt : (it, IterO al i) ∈ ((L, LocO [("front", .int f tfr), ("reader", .ref xr), ("count", .int (cnt f : Nat) t10), ("alike", .bool (alikeV rns ons f)), ("row", .ref rl), ("marks", .ref ml), ("others", .ref mo), ("asked", .ref al)]) :: (rdLed prog w xr dx m d ig (mkS (wrV 46 rns f)) (.str (mkS (joinL [47] (grV rns f))) t6) es n vs ++ (it, IterO al i) :: led) : Led) := .tail _ (List.mem_append_right _ (.head _))
    refine wpAny_pyNext_list_item (S20.isIter mIt) (ListO.at (S20.keep _ _ hal1) hal2) (by simpa using hx) fun h' hit' hs' => ?_
    dsimp only
    have S21 := S20.put (s' := { s20 with heap := h' }) (P' := IterO al (i + 1)) (.tail (Put.app .head _)) hs'.extBut hit' rfl rfl
    refine wpAny_letOwnedTupleGo_listiter hit' ?_
    refine wpAny_assign_Tuple (items := #[.int x u1, .str (mkS (wrV 46 ons x)) u2, .str (mkS (wrV 47 ons x)) u3]) R.h ⟨_, S21.keep _ _ hT2, rfl, _, rfl⟩ rfl rfl fun h7 hx7 => ?_
    have S22 := S21.grow (s' := { s20 with heap := h7 }) (fun b o e => hx7 b o (Nat.ne_of_lt (Heap.lt_size e)) e) rfl rfl
    show wpAny _ A (do holding _ (assign (.Name "x" _) _ _); do holding _ (assign (.Name "name" _) _ _); do holding _ (assign (.Name "file" _) _ _); pure ()) _ _ _
    refine wpAny_bind (wpAny_holding (asN (stL S22 fun s23 S23 => ?_)))
    refine wpAny_bind (wpAny_holding (asN (stL S23 fun s24 S24 => ?_)))
    refine wpAny_bind (wpAny_holding (asN (stL S24 fun s25 S25 => wpAny_pure ?_)))
    have S26 := S25.weakenHead (P' := LocO [("front", .int f tfr), ("reader", .ref xr), ("count", .int (cnt f : Nat) t10), ("alike", .bool (alikeV rns ons f)), ("row", .ref rl), ("marks", .ref ml), ("others", .ref mo), ("asked", .ref al), ("x", .int x u1), ("name", .str (mkS (wrV 46 ons x)) u2), ("file", .str (mkS (wrV 47 ons x)) u3)]) fun o h => LocO.sub (kvs' := [("front", .int f tfr), ("reader", .ref xr), ("count", .int (cnt f : Nat) t10), ("alike", .bool (alikeV rns ons f)), ("row", .ref rl), ("marks", .ref ml), ("others", .ref mo), ("asked", .ref al), ("x", .int x u1), ("name", .str (mkS (wrV 46 ons x)) u2), ("file", .str (mkS (wrV 47 ons x)) u3)]) ⟨rfl, rfl, rfl, rfl, rfl, rfl, rfl, rfl, rfl, rfl, rfl, trivial⟩ h
    have hnd := PL.keys
    have hsplit : nums = nums.take i ++ x :: nums.drop (i + 1) := by
      have h1 := (List.take_append_drop i nums).symm
      rw [List.drop_eq_getElem_cons hlt] at h1
      have h2 : nums[i] = x := by rw [List.getElem?_eq_getElem hlt] at hxn; exact Option.some.inj hxn
      rw [h2] at h1; exact h1
    rw [hsplit, keysV_app] at hnd
    simp only [keysV, ← List.cons_append] at hnd
    rw [← hvk, List.nodup_append] at hnd
    obtain ⟨_, hnd2, hnd3⟩ := hnd
    refine law_in (led := (it, IterO al (i + 1)) :: led) (nam := wrV 46 ons x) (fil := wrV 47 ons x) (f := f) (x := x) R hes (fun hm => hnd3 _ hm _ (.head _) rfl) (fun hm => hnd3 _ hm _ (.tail _ (.head _)) rfl) (fun e => (List.nodup_cons.mp hnd2).1 (by rw [← e]; exact .head _)) (by omega)
      (by rw [mkS_length]; have := PL.len f hfm; omega) (by rw [mkS_length]; exact Nat.le_trans (PL.path f hfm).len (by decide)) (PL.num x hxm) hfb SG.mos (PL.law f hfm x hxm).1 (PL.law f hfm x hxm).2 S26 fun v1 v2 s27 S27 => ?_
    dsimp only
    refine ⟨nums.length - (i + 1), by omega, i + 1, _, rfl, by omega, ?_, ?_, S27⟩
    · rw [List.map_append, List.map_append, hvk, List.take_add_one, hxn, keysV_app]
      simp [keysV]
    · simp only [List.length_append, List.length_singleton]; omega
end
end Mine


/-! # L7 -/
namespace Mine
section
variable {prog : Program} {w : World} {A : Around} {E : Value → Shared → Prop} {s : Shared} {h₀ : Base} {os : OsState} {gs : Array GenState} {led led' : Led} {env : Env} {kvs : List (Str × Value)}

set_option maxHeartbeats 4000000 in
theorem law_e {L rl ml mo al fl : Addr} {fv : List Value} {rns ons nums fronts : List Int} {Q : Flow → Shared → Prop} (R : Room A 8) (hb : AllBare gs) (PL : Plain rns ons nums fronts) (SG : Stage h₀ rns ons nums rl ml mo al)
    (hfl : ∃ o, h₀ fl = some o ∧ ListO fv o) (hfi : IntsAre fv fronts)
    (S : St w h₀ os gs [(L, LocO [("row", .ref rl), ("marks", .ref ml), ("others", .ref mo), ("asked", .ref al), ("fronts", .ref fl)])] s)
    (h : ∀ gs' s', AllBare gs' → St w h₀ os gs' [(L, LocO [("row", .ref rl), ("marks", .ref ml), ("others", .ref mo), ("asked", .ref al)])] s' → Q (.ret (.bool true)) s') :
    wpAny (model prog w) A (execs (bL.drop 11) (eL w L)) Q E s := by
  obtain ⟨ofl, hf1, hf2⟩ := hfl
  have hfl := hfi.length
  refine wpAny_execs_cons (wpAny_For (nmL S rfl (wpAny_pyIter_list (ListO.at (S.keep _ _ hf1) hf2) ?_)))
  have S1 := (S.push (P := IterO fl 0) (o := { cls := .type "list_iterator", data := .fields #[.ref fl, .int 0 0] }) ⟨rfl, rfl⟩).swap
  generalize s.heap.objs.size = it at S1
  have S2 := S1.weakenHead (P' := LocO [("row", .ref rl), ("marks", .ref ml), ("others", .ref mo), ("asked", .ref al)]) fun o h => LocO.sub (kvs' := [("row", .ref rl), ("marks", .ref ml), ("others", .ref mo), ("asked", .ref al)]) ⟨rfl, rfl, rfl, rfl, trivial⟩ h
  refine codeAny_forLoop (fun c s => ∃ (i : Nat) (gs : Array GenState), c = fronts.length - i ∧ i ≤ fronts.length ∧ AllBare gs ∧ St w h₀ os gs ((L, LocO [("row", .ref rl), ("marks", .ref ml), ("others", .ref mo), ("asked", .ref al)]) :: [(it, IterO fl i)]) s) ?_ fronts.length ⟨0, gs, rfl, Nat.zero_le _, hb, S2⟩
  rintro c s3 ⟨i, gs3, rfl, hi, hb3, S3⟩
  cases hx : fv[i]? with
  | none =>
    refine wpAny_pyNext_list_end R.h (S3.isIter (.tail _ (.head _))) (ListO.at (S3.keep _ _ hf1) hf2) (by simpa using hx) fun h' hx' => ?_
    dsimp only
    have S4 := S3.swap.lose (s' := { s3 with heap := h' }) (led' := [(L, LocO [("row", .ref rl), ("marks", .ref ml), ("others", .ref mo), ("asked", .ref al)])]) (.head _) hx' (fun p hp => ⟨.tail _ hp, fun e => (List.nodup_cons.mp S3.swap.nodup).1 (List.mem_map.mpr ⟨p, hp, e⟩)⟩) (List.nodup_cons.mp S3.swap.nodup).2 rfl rfl
    refine wpAny_execs_nil ?_
    dsimp only
    refine wpAny_execs_cons (wpAny_Return_some (wpAny_Constant_bool ?_))
    exact h gs3 _ hb3 S4
  | some v =>
    obtain ⟨f, tf, hfn, rfl⟩ := IntsAre.get hfi i v hx
    have hlt : i < fronts.length := (List.getElem?_eq_some_iff.mp hfn).1
    refine wpAny_pyNext_list_item (S3.isIter (.tail _ (.head _))) (ListO.at (S3.keep _ _ hf1) hf2) (by simpa using hx) fun h' hit' hs' => ?_
    dsimp only
    have S4 := S3.put (s' := { s3 with heap := h' }) (P' := IterO fl (i + 1)) (.tail .head) hs'.extBut hit' rfl rfl
    refine asN (stL S4 fun s5 S5 => ?_)
    have S6 := S5.weakenHead (P' := LocO [("front", .int f tf), ("row", .ref rl), ("marks", .ref ml), ("others", .ref mo), ("asked", .ref al)]) fun o h => LocO.sub (kvs' := [("front", .int f tf), ("row", .ref rl), ("marks", .ref ml), ("others", .ref mo), ("asked", .ref al)]) ⟨rfl, rfl, rfl, rfl, rfl, trivial⟩ h
    refine law_front R hb3 PL SG (List.mem_of_getElem? hfn) S6 fun gs7 s7 hb7 S7 => ?_
    dsimp only
    exact ⟨fronts.length - (i + 1), by omega, i + 1, gs7, rfl, by omega, hb7, S7⟩

/-- all of law, once the plain law is known -/
theorem law_all {L sl : Addr} {items : List Value} {ns : List Int} {Q : Flow → Shared → Prop} (R : Room A 8) (hfr : A.frames = some [eL w L]) (hi : IntsAre items ns) (hsl : ∃ o, h₀ sl = some o ∧ ListO items o) (hlen : items.length ≤ 1000) (hb : AllBare gs)
    (PL : Plain (rowV ns) (otherV ns) (onceI 0 (numsV ns) (numsV ns)) (onceI 0 (frV (onceI 0 (numsV ns) (numsV ns))) (frV (onceI 0 (numsV ns) (numsV ns)))))
    (S : St w h₀ os gs [(L, LocO [("script", .ref sl)]), (L + 1, CellO none), (L + 2, CellO none)] s)
    (h : ∀ gs' s' led', AllBare gs' → St w h₀ os gs' led' s' → Q (.ret (.bool true)) s')
    : wpAny (model prog w) A (execs bL (eL w L)) Q E s := by
  refine law_a R hi hsl hlen hb S fun rl ol rv ov gs1 s1 hb1 hr ho S1 => ?_
  refine law_b R hfr hi hsl hlen hb1 hr ho S1 fun ml mo nl nv gs2 s2 hb2 hn S2 => ?_
  refine law_c R hb2 rfl hn (fun x hx => numsV_big (onceI_sub hx)) PL.few S2 fun fl fv gs3 s3 hb3 hf S3 => ?_
  have S3' := S3.perm (.cons _ (.swap ..))
  refine law_d (ol := ol) R hb3 rfl hn (fun x hx => numsV_big (onceI_sub hx)) PL.few ho (fun x hx => otherV_nonneg hx) (other1 ns) (.tail _ (.tail _ (.tail _ (.head _)))) (.tail _ (.tail _ (.tail _ (.tail _ (.tail _ (.head _)))))) S3' fun al av tl gs4 s4 hb4 hal has S4 => ?_
  have S5 : St w h₀ os gs4 ([(L, LocO (putK "asked" (.ref al) (putK "fronts" (.ref fl) [("row", .ref rl), ("marks", .ref ml), ("others", .ref mo), ("numbers", .ref nl)])))] ++ (tl ++ (al, ListO av) :: (nl, ListO nv) :: (fl, ListO fv) :: (mo, ListO (marksV (otherV ns) 9)) :: (ml, ListO (marksV (rowV ns) 9)) :: [(L + 2, CellO (some (.ref ol))), (rl, ListO rv), (ol, ListO ov)])) s4 := S4
  have inB' : ∀ {a : Addr} {P : Obj → Prop}, (a, P) ∈ (tl ++ (al, ListO av) :: (nl, ListO nv) :: (fl, ListO fv) :: (mo, ListO (marksV (otherV ns) 9)) :: (ml, ListO (marksV (rowV ns) 9)) :: [(L + 2, CellO (some (.ref ol))), (rl, ListO rv), (ol, ListO ov)] : Led) →
      ∃ o, but s4.heap [(L, LocO (putK "asked" (.ref al) (putK "fronts" (.ref fl) [("row", .ref rl), ("marks", .ref ml), ("others", .ref mo), ("numbers", .ref nl)])))] a = some o ∧ P o := by
    intro a P hm
    obtain ⟨o, h1, h2⟩ := S5.has (a, P) (List.mem_append_right _ hm)
    exact ⟨o, S5.inBut h1 (.inr (List.mem_map.mpr ⟨_, hm, rfl⟩)), h2⟩
  have S6 := S5.mine
  have S7 := S6.weakenHead (P' := LocO [("row", .ref rl), ("marks", .ref ml), ("others", .ref mo), ("asked", .ref al), ("fronts", .ref fl)]) fun o h => LocO.sub (kvs' := [("row", .ref rl), ("marks", .ref ml), ("others", .ref mo), ("asked", .ref al), ("fronts", .ref fl)]) ⟨rfl, rfl, rfl, rfl, rfl, trivial⟩ h
  refine law_e (rl := rl) (ml := ml) (mo := mo) (al := al) (fl := fl) (fv := fv) R hb4 PL ⟨?_, fun x hx => rowV_nonneg hx, row1 ns, ?_, ?_, ?_⟩ ?_ hf S7 fun gs8 s8 hb8 S8 => ?_
  · obtain ⟨o, h1, h2⟩ := inB' (a := rl) (P := ListO rv) (by simp)
    exact ⟨o, rv, h1, h2, hr⟩
  · exact inB' (by simp)
  · exact inB' (by simp)
  · obtain ⟨o, h1, h2⟩ := inB' (a := al) (P := ListO av) (by simp)
    refine ⟨o, av, h1, h2, hal, fun j x hj => ?_⟩
    obtain ⟨T, hT1, hT2⟩ := has j x hj
    obtain ⟨o', h3, h4⟩ := inB' (a := T) (P := Asked (otherV ns) x) (List.mem_append_left _ hT2)
    exact ⟨T, o', hT1, h3, h4⟩
  · exact inB' (by simp)
  · exact h gs8 s8 _ hb8 (S5.unmine S8)
end
end Mine


/-! # H1 -/
namespace Mine
theorem has_int {R : WRecords} {x : WData} (h : WShape.has R x .int = true) : ∃ i, x = .int i := by
  cases x with
  | int i => exact ⟨i, rfl⟩
  | _ => exact absurd h (by simp [WShape.has, WShape.arms])
theorem items_int {R : WRecords} : ∀ {xs : List WData}, WShape.hasItems R xs .int = true → ∃ ys : List Int, xs = ys.map .int
  | [], _ => ⟨[], rfl⟩
  | x :: r, h => by
    simp only [WShape.hasItems, Bool.and_eq_true] at h
    obtain ⟨i, rfl⟩ := has_int h.1
    obtain ⟨ys, rfl⟩ := items_int h.2
    exact ⟨i :: ys, rfl⟩
theorem has_list {R : WRecords} {x : WData} (h : WShape.has R x (.list .int) = true) : ∃ xs : List Int, x = .list (xs.map .int) := by
  cases x with
  | list xs =>
    have h' : WShape.hasItems R xs .int = true := by simpa [WShape.has, WShape.arms] using h
    obtain ⟨ys, rfl⟩ := items_int h'
    exact ⟨ys, rfl⟩
  | _ => exact absurd h (by simp [WShape.has, WShape.arms])
theorem args_of {R : WRecords} {args : List WData} (h : WShape.hasAll R args [.list .int] = true) : ∃ xs : List Int, args = [.list (xs.map .int)] := by
  match args, h with
  | [], h => simp [WShape.hasAll] at h
  | [d], h =>
    simp only [WShape.hasAll, Bool.and_eq_true] at h
    obtain ⟨xs, rfl⟩ := has_list h.1
    exact ⟨xs, rfl⟩
  | d :: e :: r, h => simp [WShape.hasAll] at h
theorem wellInts {P : Params} {h : Heap} : ∀ {vs : List Value} {xs : List Int}, WellAll P h vs (xs.map .int) → IntsAre vs xs
  | [], [], _ => .nil
  | [], _ :: _, h => by cases h
  | v :: r, [], h => by cases h
  | v :: r, x :: xs, h => by
    cases h with
    | cons h1 h2 =>
      cases h1
      exact .cons _ _ (wellInts h2)

theorem bind112 {w : World} (a : Value) : bindArgs (fdAt w 112) ⟨[a], []⟩ = pure [((Str.ofString "script" : Str), a)] := by kernel_rfl
theorem roomC : Room callerA 9 := ⟨rfl, by decide, by decide⟩

theorem law_call {prog : Program} {w : World} {E : Value → Shared → Prop} {s : Shared} {h₀ : Base} {os : OsState} {sl : Addr} {items : List Value} {ns : List Int} {Q : Value → Shared → Prop} (hi : IntsAre items ns) (hlen : items.length ≤ 1000)
    (PL : Plain (rowV ns) (otherV ns) (onceI 0 (numsV ns) (numsV ns)) (onceI 0 (frV (onceI 0 (numsV ns) (numsV ns))) (frV (onceI 0 (numsV ns) (numsV ns)))))
    (hsl : ∃ o, s.heap.get? sl = some o ∧ ListO items o) (S : St w h₀ os #[] [] s)
    (h : ∀ gs' s' led', AllBare gs' → St w s.heap.get? os gs' led' s' → Q (.bool true) s') :
    wpAny (model prog w) callerA (call (.ref 112) [.ref sl]) Q E s := by
  refine enterC (kvs := [("script", .ref sl)]) (cs := [("other", s.heap.objs.size + 2), ("table", s.heap.objs.size + 1)]) S roomC (f := 112) (o := objAt w 112) (fd := fdAt w 112) (body := bL) rfl rfl rfl rfl (bind112 _) rfl ?_ rfl (by show [Str.ofString "other", Str.ofString "table"].Nodup; decide) ⟨rfl, trivial⟩ fun E' s1 S1 => ?_
  · intro x hx
    obtain rfl := List.mem_singleton.mp hx
    exact .inl rfl
  · exact law_all (roomC.deeper _) rfl hi hsl hlen AllBare.empty PL (S1.perm (.cons _ (.swap ..))) fun gs' s' led' hb' S' => h gs' s' led' hb' S'

theorem len63 {ns : List Int} (h : PySem.Challenge.rw_ny0053_01.row.pre.holds [] { args := [.list (ns.map .int)] } = true) : ns.length ≤ 63 := by
  have h' : WTm.holds [] (.and (.not (.lt (.lit (.int 63)) (.len (.arg 0)))) (.lit (.bool true))) { args := [.list (ns.map .int)] } = true := h
  unfold WTm.holds at h'
  simp [WTm.value] at h'
  by_cases hn : ns.length ≤ 63
  · exact hn
  · exfalso
    have e : less? (WData.int 63) (WData.int ns.length) = some true := by
      show some (decide ((63 : Int) < ns.length)) = some true
      rw [decide_eq_true (by omega)]
    rw [e] at h'
    simp at h'

theorem head (PLall : ∀ ns : List Int, Plain (rowV ns) (otherV ns) (onceI 0 (numsV ns) (numsV ns)) (onceI 0 (frV (onceI 0 (numsV ns) (numsV ns))) (frV (onceI 0 (numsV ns) (numsV ns))))) : PySem.Challenge.rw_ny0053_01.Holds := by
  refine hd ?_
  intro w s₀ s₁ mg mb G Y fa o pm cd doc dV kV ho hd' hcd hD hmg hg args vals as hpre hlay hrd hwl hlo
  clear hd' hcd hD
  obtain ⟨hsh, hpr⟩ := pre_splitW hpre
  obtain ⟨ns, rfl⟩ := args_of (R := []) hsh
  cases hwl with
  | cons h1 h2 =>
    cases h2
    cases h1 with
    | list hget hall =>
      rename_i sl items
      have hi := wellInts hall
      have K : (KH w).In s₁.heap := kIn_of Y
      have hfa : fa = 112 := by
        have h1 : mg "law" = some (.ref 112) := mg_of K G.T.g rfl
        have h2 : mg "law" = some (.ref fa) := hmg
        rw [h1] at h2
        injection h2 with h2; injection h2 with h2; exact h2.symm
      subst hfa
      have hlen : items.length ≤ 1000 := by
        have := len63 hpr
        have := hi.length
        omega
      have T : Top0 w s₁.heap.get? := ⟨K, by
        obtain ⟨o, es, ep, h1, h2, h3, h4⟩ := G.T.b
        exact ⟨o, mb, h1, ⟨es, ep, h2, h3, h4⟩, G.T.builtins⟩, by
        obtain ⟨o, es, ep, h1, h2, h3, h4⟩ := G.T.g
        exact ⟨o, mg, h1, ⟨es, ep, h2, h3, h4⟩⟩⟩
      have S : St w s₁.heap.get? s₁.os #[] [] s₁ := ⟨T, fun b o e => e, (fun p hp => nomatch hp), (fun p hp => nomatch hp), List.nodup_nil, rfl, hg⟩
      show wpAny _ callerA (call (.ref 112) [.ref sl]) _ _ _
      refine law_call hi hlen (PLall ns) ⟨_, hget, _, rfl⟩ S fun gs' s' led' hb' S' => ?_
      refine ⟨.inl ⟨.bool true, .bool true, [], rfl, ?_, .bool true, ?_, ?_⟩, .of_keep S'.keep, S'.os, by rw [S'.gens]; exact hb'⟩
      · intro cls; rfl
      · kernel_rfl
      · intro _; exact ⟨List.nodup_nil, fun a ha => nomatch ha⟩
end Mine


/-! # P2 -/
namespace Mine
/-! ## figures with marks -/
def mj (c : Nat) (M : Nat → Bool) : Nat → List Nat → List Nat
  | _, [] => []
  | p, d :: r => d :: (if r = [] then [] else if M (p + 1) = true then c :: mj c M (p + 1) r else mj c M (p + 1) r)
theorem mj_one (c : Nat) (M : Nat → Bool) (p d : Nat) : mj c M p [d] = [d] := by simp [mj]
theorem mj_cons {c : Nat} {M : Nat → Bool} {p d : Nat} {r : List Nat} (h : r ≠ []) : mj c M p (d :: r) = d :: (if M (p + 1) = true then c :: mj c M (p + 1) r else mj c M (p + 1) r) := by
  rw [mj, if_neg h]
theorem mj_ne {c : Nat} {M : Nat → Bool} {p : Nat} {r : List Nat} (h : r ≠ []) : mj c M p r ≠ [] := by
  cases r with
  | nil => exact absurd rfl h
  | cons d r => simp [mj]
/-- a stretch without marks -/
theorem mj_app {c : Nat} {M : Nat → Bool} : ∀ (a : List Nat) (b : List Nat) (p : Nat), a ≠ [] → (∀ q, p < q → q < p + a.length → M q = false) →
    mj c M p (a ++ b) = a ++ (if b = [] then [] else if M (p + a.length) = true then c :: mj c M (p + a.length) b else mj c M (p + a.length) b)
  | [], b, p, h, _ => absurd rfl h
  | [d], b, p, _, _ => by
    cases b with
    | nil => simp [mj]
    | cons e t => rw [List.singleton_append, mj_cons (by simp)]; simp
  | d :: e :: a, b, p, _, hM => by
    have ih := mj_app (c := c) (M := M) (e :: a) b (p + 1) (by simp) fun q h1 h2 => hM q (by omega) (by simp only [List.length_cons] at h2 ⊢; omega)
    have h0 : M (p + 1) = false := hM (p + 1) (by omega) (by simp only [List.length_cons]; omega)
    rw [List.cons_append, mj_cons (by simp), h0, if_neg (by simp), ih]
    have e1 : p + 1 + (e :: a).length = p + (d :: e :: a).length := by simp only [List.length_cons]; omega
    rw [e1]; rfl

theorem joinL_cons {m : List Nat} {a : List Nat} {r : List (List Nat)} (h : r ≠ []) : joinL m (a :: r) = a ++ m ++ joinL m r := by
  cases r with
  | nil => exact absurd rfl h
  | cons b t => simp [joinL]
theorem joinL_single (c : Nat) (M : Nat → Bool) : ∀ (fig : List Nat) (p : Nat), (∀ q, p < q → M q = true) → joinL [c] (fig.map fun d => [d]) = mj c M p fig
  | [], p, _ => by simp [joinL, mj]
  | [d], p, _ => by simp [joinL, mj]
  | d :: e :: r, p, h => by
    have ih := joinL_single c M (e :: r) (p + 1) fun q hq => h q (by omega)
    rw [List.map_cons, joinL_cons (by simp), mj_cons (by simp), h (p + 1) (by omega), if_pos rfl, ih]
    simp
/-- the groups, joined -/
theorem join_grp {c : Nat} {sz : Nat → Option Nat} {M : Nat → Bool} {S : Nat → Nat}
    (h1 : ∀ k z, sz k = some z → 0 < z ∧ S (k + 1) = S k + z ∧ M (S k + z) = true ∧ ∀ q, S k < q → q < S k + z → M q = false)
    (h2 : ∀ k, sz k = none → ∀ q, S k < q → M q = true) : ∀ (f k : Nat) (fig : List Nat), fig.length < f → joinL [c] (grp sz f k fig) = mj c M (S k) fig
  | 0, k, fig, h => absurd h (Nat.not_lt_zero _)
  | f + 1, k, fig, h => by
    unfold grp
    cases hz : sz k with
    | none => exact joinL_single c M fig (S k) (h2 k hz)
    | some z =>
      obtain ⟨hz0, hS, hM, hN⟩ := h1 k z hz
      dsimp only
      by_cases hf : fig = []
      · subst hf; simp [joinL, mj]
      · rw [if_neg hf]
        have hl : 0 < fig.length := List.length_pos_iff.mpr hf
        have ih := join_grp h1 h2 f (k + 1) (fig.drop z) (by rw [List.length_drop]; omega) (c := c)
        rcases Nat.lt_or_ge z fig.length with hlt | hge
        · have hd : fig.drop z ≠ [] := by
            intro e
            have := congrArg List.length e
            rw [List.length_drop] at this; simp at this; omega
          have hg : grp sz f (k + 1) (fig.drop z) ≠ [] := by
            intro e
            rw [e] at ih
            exact mj_ne hd ih.symm
          have ht : (fig.take z).length = z := by rw [List.length_take]; omega
          rw [joinL_cons hg, ih]
          conv => rhs; rw [← List.take_append_drop z fig]
          rw [mj_app (fig.take z) (fig.drop z) (S k) (by intro e; rw [e] at ht; simp at ht; omega) (by rw [ht]; exact hN), if_neg hd, ht, hM, if_pos rfl, ← hS]
          simp
        · rw [List.drop_eq_nil_of_le hge, grp_nil, List.take_of_length_le hge]
          have := mj_app (c := c) (M := M) fig [] (S k) hf fun q a b => hN q a (by omega)
          simp only [List.append_nil, if_pos] at this
          rw [this]
          simp [joinL]
end Mine


/-! # P3 -/
namespace Mine
def Agree (M M' : Nat → Bool) (p n : Nat) : Prop := ∀ q, p < q → q < p + n → M q = M' q
theorem agree_one {M M' : Nat → Bool} {p : Nat} : Agree M M' p 1 := fun q h1 h2 => absurd h2 (by omega)
theorem agree_succ {M M' : Nat → Bool} {p n : Nat} (hn : 0 < n) : Agree M M' p (n + 1) ↔ M (p + 1) = M' (p + 1) ∧ Agree M M' (p + 1) n := by
  constructor
  · intro h
    exact ⟨h (p + 1) (by omega) (by omega), fun q h1 h2 => h q (by omega) (by omega)⟩
  · rintro ⟨h1, h2⟩ q h3 h4
    rcases Nat.eq_or_lt_of_le (show p + 1 ≤ q from h3) with rfl | h5
    · exact h1
    · exact h2 q h5 (by omega)
theorem mj_head {c : Nat} {M : Nat → Bool} {p d : Nat} {r : List Nat} : ∃ u, mj c M p (d :: r) = d :: u := ⟨_, rfl⟩
theorem pre_iff {c : Nat} {M M' : Nat → Bool} : ∀ (F X : List Nat) (p : Nat), F ≠ [] → c ∉ F → c ∉ X →
    ((mj c M p F ++ [c]) <+: mj c M' p X ↔ (F <+: X ∧ F.length < X.length ∧ Agree M M' p F.length ∧ M' (p + F.length) = true))
  | [], X, p, h, _, _ => absurd rfl h
  | d :: r, [], p, _, _, _ => by
    constructor
    · intro h; have := h.length_le; simp [mj] at this
    · rintro ⟨_, h, _⟩; simp at h
  | [d], e :: t, p, _, hF, hX => by
    rw [mj_one]
    cases t with
    | nil =>
      rw [mj_one]
      constructor
      · intro h; have := h.length_le; simp at this
      · rintro ⟨_, h, _⟩; simp at h
    | cons e2 t =>
      rw [mj_cons (by simp)]
      have hne : c ≠ e2 := fun q => hX (by simp [q])
      cases hm : M' (p + 1) with
      | true =>
        rw [if_pos rfl]
        constructor
        · intro h
          have h1 := (List.cons_prefix_cons.mp h).1
          exact ⟨by rw [h1]; exact ⟨_, rfl⟩, by simp, agree_one, by simpa using hm⟩
        · rintro ⟨h, _⟩
          have h1 := (List.cons_prefix_cons.mp h).1
          rw [h1]; exact ⟨_, rfl⟩
      | false =>
        rw [if_neg (by simp)]
        constructor
        · intro h
          have h1 := (List.cons_prefix_cons.mp h).2
          obtain ⟨u, hu⟩ := mj_head (c := c) (M := M') (p := p + 1) (d := e2) (r := t)
          rw [hu] at h1
          exact absurd (List.cons_prefix_cons.mp h1).1 hne
        · rintro ⟨_, _, _, h⟩
          cases h
  | d :: d2 :: r, [e], p, _, _, _ => by
    rw [mj_one]
    constructor
    · intro h
      have := h.length_le
      rw [mj_cons (by simp)] at this
      simp at this
    · rintro ⟨_, h, _⟩; simp at h
  | d :: d2 :: r, e :: e2 :: t, p, _, hF, hX => by
    have ih := pre_iff (c := c) (M := M) (M' := M') (d2 :: r) (e2 :: t) (p + 1) (by simp) (fun h => hF (.tail _ h)) (fun h => hX (.tail _ h))
    have hd : c ≠ d2 := fun q => hF (by simp [q])
    have he : c ≠ e2 := fun q => hX (by simp [q])
    obtain ⟨u, hu⟩ := mj_head (c := c) (M := M) (p := p + 1) (d := d2) (r := r)
    obtain ⟨v, hv⟩ := mj_head (c := c) (M := M') (p := p + 1) (d := e2) (r := t)
    rw [mj_cons (r := d2 :: r) (by simp), mj_cons (r := e2 :: t) (by simp), List.cons_append, List.cons_prefix_cons, List.cons_prefix_cons]
    have hag : Agree M M' p (d :: d2 :: r).length ↔ M (p + 1) = M' (p + 1) ∧ Agree M M' (p + 1) (d2 :: r).length := agree_succ (by simp)
    have hlen : (d :: d2 :: r).length < (e :: e2 :: t).length ↔ (d2 :: r).length < (e2 :: t).length := by simp
    have hpos : p + (d :: d2 :: r).length = p + 1 + (d2 :: r).length := by simp only [List.length_cons]; omega
    rw [hag, hlen, hpos]
    cases hm : M (p + 1) <;> cases hm' : M' (p + 1)
    · simp only [Bool.false_eq_true, if_false]
      rw [ih]
      constructor
      · rintro ⟨h1, h2, h3, h4, h5⟩; exact ⟨⟨h1, h2⟩, h3, ⟨by simp, h4⟩, h5⟩
      · rintro ⟨⟨h1, h2⟩, h3, ⟨_, h4⟩, h5⟩; exact ⟨h1, h2, h3, h4, h5⟩
    · simp only [Bool.false_eq_true, if_false, if_true]
      constructor
      · rintro ⟨_, h⟩
        rw [hu] at h
        exact absurd (List.cons_prefix_cons.mp h).1.symm hd
      · rintro ⟨_, _, ⟨h, _⟩, _⟩; exact absurd h (by simp)
    · simp only [Bool.false_eq_true, if_false, if_true]
      constructor
      · rintro ⟨_, h⟩
        rw [hv, List.cons_append] at h
        exact absurd (List.cons_prefix_cons.mp h).1 he
      · rintro ⟨_, _, ⟨h, _⟩, _⟩; exact absurd h (by simp)
    · simp only [if_true]
      rw [List.cons_append, List.cons_prefix_cons, ih]
      constructor
      · rintro ⟨h1, _, h2, h3, h4, h5⟩; exact ⟨⟨h1, h2⟩, h3, ⟨by simp, h4⟩, h5⟩
      · rintro ⟨⟨h1, h2⟩, h3, ⟨_, h4⟩, h5⟩; exact ⟨h1, rfl, h2, h3, h4, h5⟩

theorem eq_iff {c : Nat} {M M' : Nat → Bool} : ∀ (F X : List Nat) (p : Nat), c ∉ F → c ∉ X → (mj c M p F = mj c M' p X ↔ (F = X ∧ Agree M M' p F.length))
  | [], [], p, _, _ => by simp [mj, Agree]; intro q h1 h2; omega
  | [], e :: t, p, _, _ => by simp [mj]
  | d :: r, [], p, _, _ => by simp [mj]
  | [d], [e], p, _, _ => by
    rw [mj_one, mj_one]
    constructor
    · intro h; exact ⟨h, agree_one⟩
    · intro h; exact h.1
  | [d], e :: e2 :: t, p, _, _ => by
    rw [mj_one, mj_cons (by simp)]
    have hne := mj_ne (c := c) (M := M') (p := p + 1) (r := e2 :: t) (by simp)
    constructor
    · intro h
      exfalso
      have h2 := (List.cons.inj h).2
      split at h2
      · cases h2
      · exact hne h2.symm
    · rintro ⟨h, _⟩; simp at h
  | d :: d2 :: r, [e], p, _, _ => by
    rw [mj_one, mj_cons (by simp)]
    have hne := mj_ne (c := c) (M := M) (p := p + 1) (r := d2 :: r) (by simp)
    constructor
    · intro h
      exfalso
      have h2 := (List.cons.inj h).2
      split at h2
      · cases h2
      · exact hne h2
    · rintro ⟨h, _⟩; simp at h
  | d :: d2 :: r, e :: e2 :: t, p, hF, hX => by
    have ih := eq_iff (c := c) (M := M) (M' := M') (d2 :: r) (e2 :: t) (p + 1) (fun h => hF (.tail _ h)) (fun h => hX (.tail _ h))
    have hd : c ≠ d2 := fun q => hF (by simp [q])
    have he : c ≠ e2 := fun q => hX (by simp [q])
    obtain ⟨u, hu⟩ := mj_head (c := c) (M := M) (p := p + 1) (d := d2) (r := r)
    obtain ⟨v, hv⟩ := mj_head (c := c) (M := M') (p := p + 1) (d := e2) (r := t)
    rw [mj_cons (r := d2 :: r) (by simp), mj_cons (r := e2 :: t) (by simp), List.cons.injEq]
    have hag : Agree M M' p (d :: d2 :: r).length ↔ M (p + 1) = M' (p + 1) ∧ Agree M M' (p + 1) (d2 :: r).length := agree_succ (by simp)
    rw [hag, show (d :: d2 :: r = e :: e2 :: t) = (d = e ∧ d2 :: r = e2 :: t) from List.cons.injEq ..]
    cases hm : M (p + 1) <;> cases hm' : M' (p + 1)
    · simp only [Bool.false_eq_true, if_false]
      rw [ih]
      constructor
      · rintro ⟨h1, h2, h3⟩; exact ⟨⟨h1, h2⟩, by simp, h3⟩
      · rintro ⟨⟨h1, h2⟩, _, h3⟩; exact ⟨h1, h2, h3⟩
    · simp only [Bool.false_eq_true, if_false, if_true]
      constructor
      · rintro ⟨_, h⟩
        rw [hu] at h
        exact absurd (List.cons.inj h).1.symm hd
      · rintro ⟨_, h, _⟩; exact absurd h (by simp)
    · simp only [Bool.false_eq_true, if_false, if_true]
      constructor
      · rintro ⟨_, h⟩
        rw [hv] at h
        exact absurd (List.cons.inj h).1 he
      · rintro ⟨_, h, _⟩; exact absurd h (by simp)
    · simp only [if_true]
      rw [List.cons.injEq, ih]
      constructor
      · rintro ⟨h1, _, h2, h3⟩; exact ⟨⟨h1, h2⟩, by simp, h3⟩
      · rintro ⟨⟨h1, h2⟩, _, h3⟩; exact ⟨h1, rfl, h2, h3⟩
end Mine


/-! # P4 -/
namespace Mine
/-! ## the marks of a row are the cuts of its sizes -/
theorem head_take : ∀ ns : List Int, headV ns = ns.take (hl ns)
  | [] => rfl
  | x :: r => by
    have ih := head_take r
    unfold headV endedV at ih ⊢
    unfold hl
    by_cases h1 : x = 127
    · subst h1; rw [cut_self, if_pos (.inl rfl)]; rfl
    · rw [cut_cons h1]
      by_cases h0 : x = 0
      · subst h0; rw [cut_self, if_pos (.inr rfl)]; rfl
      · rw [cut_cons h0, if_neg (by rintro (h | h); exact h1 h; exact h0 h), ih]; rfl
theorem ended_zero : ∀ ns : List Int, (endedV ns).contains 0 = decide (ns[hl ns]? = some 0)
  | [] => rfl
  | x :: r => by
    have ih := ended_zero r
    unfold endedV at ih ⊢
    unfold hl
    by_cases h1 : x = 127
    · subst h1; rw [cut_self, if_pos (.inl rfl)]; rfl
    · rw [cut_cons h1]
      by_cases h0 : x = 0
      · subst h0; rw [if_pos (.inr rfl)]; rfl
      · rw [if_neg (by rintro (h | h); exact h1 h; exact h0 h), List.getElem?_cons_succ, ← ih, List.contains_cons]
        have : ((0 : Int) == x) = false := by simpa using fun e : (0 : Int) = x => h0 e.symm
        rw [this, Bool.false_or]

def Sk (ns : List Int) : Nat → Nat
  | 0 => 0
  | k + 1 => Sk ns k + (szOf ns k).getD 0
theorem Sk_mono (ns : List Int) {i j : Nat} (h : i ≤ j) : Sk ns i ≤ Sk ns j := by
  induction h with
  | refl => exact Nat.le_refl _
  | step _ ih => exact Nat.le_trans ih (Nat.le_add_right _ _)
section
variable {ns : List Int} (h0 : ∀ x ∈ ns, 0 ≤ x)
include h0
theorem Sk_take : ∀ {k : Nat}, k ≤ hl ns → (Sk ns k : Int) = ((headV ns).take k).sum
  | 0, _ => by simp [Sk]
  | k + 1, h => by
    have ih := Sk_take (k := k) (by omega)
    have hk : k < ns.length := Nat.lt_of_lt_of_le h (hl_le ns)
    have hx : ns[k]? = some ns[k] := List.getElem?_eq_getElem hk
    have hH : (headV ns)[k]? = some ns[k] := by rw [head_take, List.getElem?_take_of_lt (by omega), hx]
    rw [Sk, List.take_add_one, hH, List.sum_append, ← ih]
    have hz : szOf ns k = some ns[k].toNat := by unfold szOf; rw [if_pos (by omega), hx]; rfl
    rw [hz]
    have := h0 _ (List.getElem_mem hk)
    simp
    omega
theorem size_pos {k z : Nat} (hp : 0 < hl ns) (h : szOf ns k = some z) : 0 < z := by
  unfold szOf at h
  split at h
  · rename_i hk
    cases hx : ns[k]? with
    | none => rw [hx] at h; cases h
    | some x =>
      rw [hx] at h
      have := (hl_in hk hx).2
      have := h0 x (List.mem_of_getElem? hx)
      simp at h; omega
  · split at h
    · cases hx : ns[hl ns - 1]? with
      | none => rw [hx] at h; cases h
      | some x =>
        rw [hx] at h
        have := (hl_in (by omega) hx).2
        have := h0 x (List.mem_of_getElem? hx)
        simp at h; omega
    · cases h

omit h0 in
theorem head_len : (headV ns).length = hl ns := by rw [head_take, List.length_take]; have := hl_le ns; omega
theorem sums_iff (q : Nat) : (sumsV (headV ns)).contains (q : Int) = true ↔ ∃ j, 1 ≤ j ∧ j ≤ hl ns ∧ Sk ns j = q := by
  rw [List.contains_iff_mem]
  unfold sumsV
  rw [List.mem_map]
  constructor
  · rintro ⟨k, hk, e⟩
    rw [List.mem_range, head_len] at hk
    refine ⟨k + 1, by omega, by omega, ?_⟩
    have := Sk_take h0 (k := k + 1) (by omega)
    omega
  · rintro ⟨j, h1, h2, e⟩
    refine ⟨j - 1, by rw [List.mem_range, head_len]; omega, ?_⟩
    have := Sk_take h0 (k := j) h2
    rw [show j - 1 + 1 = j by omega]
    omega
theorem last_sum (hp : 0 < hl ns) : lastD (sumsV (headV ns)) = (Sk ns (hl ns) : Int) := by
  unfold lastD
  have hl1 : (sumsV (headV ns)).length = hl ns := by unfold sumsV; rw [List.length_map, List.length_range, head_len]
  rw [hl1, List.getD_eq_getElem?_getD]
  unfold sumsV
  rw [List.getElem?_map, List.getElem?_range (by rw [head_len]; omega), Sk_take h0 (Nat.le_refl _)]
  simp only [Option.map_some, Option.getD_some]
  rw [show ((-1 : Int) + (hl ns : Nat)).toNat + 1 = hl ns by omega]
omit h0 in
theorem last_head (hp : 0 < hl ns) {x : Int} (hx : ns[hl ns - 1]? = some x) : lastD (headV ns) = x := by
  unfold lastD
  rw [head_len, List.getD_eq_getElem?_getD, head_take, List.getElem?_take_of_lt (by omega), show ((-1 : Int) + (hl ns : Nat)).toNat = hl ns - 1 by omega, hx]; rfl
omit h0 in
theorem Sk_far {x : Int} (hx : ns[hl ns - 1]? = some x) (hZ : ns[hl ns]? = some 0) : ∀ j : Nat, Sk ns (hl ns + j) = Sk ns (hl ns) + j * x.toNat
  | 0 => by simp
  | j + 1 => by
    have ih := Sk_far hx hZ j
    have hz : szOf ns (hl ns + j) = some x.toNat := by unfold szOf; rw [if_neg (by omega), if_pos hZ, hx]; rfl
    rw [show hl ns + (j + 1) = hl ns + j + 1 by omega, Sk, ih, hz, Nat.succ_mul]
    simp; omega
omit h0 in
theorem Sk_end (hZ : ns[hl ns]? ≠ some 0) : ∀ j : Nat, Sk ns (hl ns + j) = Sk ns (hl ns)
  | 0 => by simp
  | j + 1 => by
    have ih := Sk_end hZ j
    have hz : szOf ns (hl ns + j) = none := by unfold szOf; rw [if_neg (by omega), if_neg hZ]
    rw [show hl ns + (j + 1) = hl ns + j + 1 by omega, Sk, ih, hz]; rfl

theorem mark_cuts (hp : 0 < hl ns) (k z : Nat) (hz : szOf ns k = some z) : 0 < z ∧ Sk ns (k + 1) = Sk ns k + z ∧ markV ns ((Sk ns k + z : Nat) : Int) = true ∧ ∀ q, Sk ns k < q → q < Sk ns k + z → markV ns (q : Int) = false := by
  have hz0 := size_pos h0 hp hz
  have hS : Sk ns (k + 1) = Sk ns k + z := by rw [Sk, hz]; rfl
  have far : hl ns ≤ k → ns[hl ns]? = some 0 ∧ ∃ x, ns[hl ns - 1]? = some x ∧ x = (z : Int) := by
    intro hk
    unfold szOf at hz
    rw [if_neg (by omega)] at hz
    split at hz
    · rename_i hZ
      cases hx : ns[hl ns - 1]? with
      | none => rw [hx] at hz; cases hz
      | some x =>
        rw [hx] at hz
        have := h0 x (List.mem_of_getElem? hx)
        simp at hz
        exact ⟨hZ, x, rfl, by omega⟩
    · cases hz
  refine ⟨hz0, hS, ?_, ?_⟩
  · rw [← hS]
    unfold markV
    rcases Nat.lt_or_ge k (hl ns) with hk | hk
    · rw [(sums_iff h0 _).mpr ⟨k + 1, by omega, by omega, rfl⟩]; rfl
    · obtain ⟨hZ, x, hx, rfl⟩ := far hk
      have hf := Sk_far hx hZ (k + 1 - hl ns)
      rw [show hl ns + (k + 1 - hl ns) = k + 1 by omega, Int.toNat_natCast] at hf
      rw [last_sum h0 hp, last_head hp hx, ended_zero, hZ, hf]
      have e1 : (((Sk ns (hl ns) + (k + 1 - hl ns) * z : Nat) : Int) - (Sk ns (hl ns) : Nat)) = (((k + 1 - hl ns) * z : Nat) : Int) := by omega
      rw [e1, Int.fmod_eq_emod_of_nonneg _ (by omega), ← Int.natCast_emod, Nat.mul_mod_left]
      have : 0 < (k + 1 - hl ns) * z := Nat.mul_pos (by omega) hz0
      simp
      right; omega
  · intro q h1 h2
    have hns : (sumsV (headV ns)).contains (q : Int) = false := by
      rw [Bool.eq_false_iff]
      intro hc
      obtain ⟨j, _, _, e⟩ := (sums_iff h0 q).mp hc
      rcases Nat.lt_or_ge k j with hj | hj
      · have := Sk_mono ns (show k + 1 ≤ j from hj); omega
      · have := Sk_mono ns hj; omega
    unfold markV
    rw [hns, Bool.false_or, last_sum h0 hp]
    rcases Nat.lt_or_ge k (hl ns) with hk | hk
    · have := Sk_mono ns (show k + 1 ≤ hl ns from hk)
      rw [decide_eq_false (by omega), Bool.false_and]
    · obtain ⟨hZ, x, hx, rfl⟩ := far hk
      have hf := Sk_far hx hZ (k - hl ns)
      rw [show hl ns + (k - hl ns) = k by omega, Int.toNat_natCast] at hf
      rw [last_head hp hx, ended_zero, hZ]
      obtain ⟨r, hr⟩ : ∃ r, q = Sk ns k + r := ⟨q - Sk ns k, by omega⟩
      have e1 : ((q : Int) - (Sk ns (hl ns) : Nat)) = ((r + z * (k - hl ns) : Nat) : Int) := by rw [hr, hf, Nat.mul_comm z]; omega
      rw [e1, Int.fmod_eq_emod_of_nonneg _ (by omega), ← Int.natCast_emod, Nat.add_mul_mod_self_left, Nat.mod_eq_of_lt (by omega)]
      have : ((r : Nat) : Int) ≠ 0 := by omega
      simp
      omega
theorem mark_end (hp : 0 < hl ns) (k : Nat) (hz : szOf ns k = none) (q : Nat) (h1 : Sk ns k < q) : markV ns (q : Int) = true := by
  have hk : hl ns ≤ k := by
    rcases Nat.lt_or_ge k (hl ns) with h | h
    · unfold szOf at hz
      rw [if_pos h, List.getElem?_eq_getElem (Nat.lt_of_lt_of_le h (hl_le ns))] at hz; cases hz
    · exact h
  have hZ : ns[hl ns]? ≠ some 0 := by
    intro hZ
    unfold szOf at hz
    rw [if_neg (by omega), if_pos hZ, List.getElem?_eq_getElem (by have := hl_le ns; omega)] at hz; cases hz
  have hf := Sk_end hZ (k - hl ns)
  rw [show hl ns + (k - hl ns) = k by omega] at hf
  unfold markV
  rw [last_sum h0 hp, ended_zero, decide_eq_false hZ, decide_eq_true (by omega)]
  simp
theorem wr_mj (hp : 0 < hl ns) (c : Nat) (x : Int) : wrV c ns x = mj c (fun q => markV ns (q : Int)) 0 (digs x) :=
  join_grp (S := Sk ns) (M := fun q => markV ns (q : Int)) (mark_cuts h0 hp) (mark_end h0 hp) _ 0 _ (Nat.lt_succ_self _)
end
end Mine


/-! # P5 -/
namespace Mine
theorem mkS_list (l : List Nat) : (mkS l).cps.toList = l := by simp [mkS]
theorem starts_iff (a b : List Nat) : Txt.startswith (mkS a) (mkS b) = true ↔ b <+: a := by
  unfold Txt.startswith
  rw [Bool.and_eq_true, decide_eq_true_eq, StrLaws.subAt_eq, mkS_list, mkS_list, mkS_length, mkS_length, List.drop_zero, beq_iff_eq]
  constructor
  · rintro ⟨_, h⟩; rw [← h]; exact List.take_prefix ..
  · intro h
    have := h.length_le
    exact ⟨by omega, (List.prefix_iff_eq_take.mp h).symm⟩

theorem alike_iff {rns ons : List Int} {f : Int} : alikeV rns ons f = true ↔ Agree (fun q => markV rns (q : Int)) (fun q => markV ons (q : Int)) 0 (cnt f) := by
  unfold alikeV Agree
  rw [List.all_eq_true]
  constructor
  · intro h q h1 h2
    have := h (q - 1) (by rw [List.mem_range]; omega)
    rw [beq_iff_eq] at this
    rw [show (((q - 1 : Nat) : Int) + 1) = (q : Int) by omega] at this
    exact this
  · intro h j hj
    rw [List.mem_range] at hj
    rw [beq_iff_eq]
    have := h (j + 1) (by omega) (by omega)
    simpa using this
theorem below_iff {f x : Int} (hf : 0 ≤ f) (hx : 0 ≤ x) : (0 ≤ lessV f x ∧ x.fdiv (10 ^ (lessV f x).toNat) = f) ↔ digs f <+: digs x := by
  obtain ⟨a, rfl⟩ := Int.eq_ofNat_of_zero_le hf
  obtain ⟨b, rfl⟩ := Int.eq_ofNat_of_zero_le hx
  have e1 := digs_nat a
  have e2 := digs_nat b
  have hdiv : ∀ k : Nat, ((b : Int)).fdiv (10 ^ k) = ((b / 10 ^ k : Nat) : Int) := by
    intro k
    rw [show ((10 : Int) ^ k) = ((10 ^ k : Nat) : Int) by simp, Int.fdiv_eq_ediv_of_nonneg _ (Int.natCast_nonneg _), ← Int.natCast_ediv]
  have ha := dg_pos a
  unfold lessV cnt
  rw [e1, e2]
  constructor
  · rintro ⟨h1, h2⟩
    obtain ⟨k, hk⟩ : ∃ k : Nat, (((dg b).length : Int) - (dg a).length).toNat = k := ⟨_, rfl⟩
    rw [hk, hdiv] at h2
    have h3 : b / 10 ^ k = a := by omega
    have h4 := dg_div k b (by omega)
    rw [h3] at h4
    rw [h4]; exact List.take_prefix ..
  · intro h
    have hl := h.length_le
    refine ⟨by omega, ?_⟩
    rw [hdiv]
    have h4 := dg_div (((dg b).length : Int) - (dg a).length).toNat b (by omega)
    have h5 := List.prefix_iff_eq_take.mp h
    have h6 : (dg b).length - (((dg b).length : Int) - (dg a).length).toNat = (dg a).length := by omega
    rw [h6, ← h5] at h4
    rw [dg_inj h4]

theorem dig_no {x : Int} (hx : 0 ≤ x) {c : Nat} (hc : c < 48) : c ∉ digs x := by
  rw [digs_int hx]; intro h; have := dg_fig _ _ h; omega
theorem dig_ne {x : Int} (hx : 0 ≤ x) : digs x ≠ [] := by rw [digs_int hx]; exact dg_ne _
structure RowOk (ns : List Int) : Prop where
  nn : ∀ x ∈ ns, 0 ≤ x
  one : ∃ r, ns = 1 :: r
theorem RowOk.hl {ns : List Int} (h : RowOk ns) : 0 < hl ns := by
  obtain ⟨r, rfl⟩ := h.one
  unfold Mine.hl
  rw [if_neg (by decide)]; omega
theorem RowOk.wr {ns : List Int} (h : RowOk ns) (c : Nat) (x : Int) : wrV c ns x = mj c (fun q => markV ns (q : Int)) 0 (digs x) := wr_mj h.nn h.hl c x
theorem pre_law {rns ons : List Int} (hr : RowOk rns) (ho : RowOk ons) {f x : Int} (hf : 0 ≤ f) (hx : 0 ≤ x) {c : Nat} (hc : c < 48) :
    (wrV c rns f ++ [c] <+: wrV c ons x) ↔ (digs f <+: digs x ∧ cnt f < cnt x ∧ alikeV rns ons f = true ∧ markV ons (cnt f) = true) := by
  rw [hr.wr, ho.wr, pre_iff _ _ _ (dig_ne hf) (dig_no hf hc) (dig_no hx hc), alike_iff]
  simp only [Nat.zero_add]
  rfl
theorem eq_law {rns ons : List Int} (hr : RowOk rns) (ho : RowOk ons) {f x : Int} (hf : 0 ≤ f) (hx : 0 ≤ x) {c : Nat} (hc : c < 48) :
    (wrV c ons x = wrV c rns f) ↔ (digs f = digs x ∧ alikeV rns ons f = true) := by
  rw [eq_comm, hr.wr, ho.wr, eq_iff _ _ _ (dig_no hf hc) (dig_no hx hc), alike_iff]
  rfl
theorem law1 {rns ons : List Int} (hr : RowOk rns) (ho : RowOk ons) {f x : Int} (hf : 0 ≤ f) (hx : 0 ≤ x) :
    namesV (mkS (wrV 46 rns f)) (mkS (wrV 47 rns f)) (Str.ofString "") (mkS (wrV 46 ons x)) = d1V (alikeV rns ons f) ons f x := by
  rw [Bool.eq_iff_iff]
  unfold namesV d1V belowV
  rw [ofS_dot, ofS_slash, ofS_empty, mkS_append, mkS_append]
  simp only [Bool.or_eq_true, Bool.and_eq_true, decide_eq_true_eq, starts_iff, beq_iff_eq]
  rw [pre_law hr ho hf hx (by decide)]
  have h3 : ¬ (wrV 47 rns f ++ [47] <+: []) := by intro h; have := h.length_le; simp at this
  have hb := below_iff hf hx
  have he : (mkS (wrV 46 ons x) = mkS (wrV 46 rns f)) ↔ (digs f = digs x ∧ alikeV rns ons f = true) := ⟨fun h => (eq_law hr ho hf hx (by decide)).mp (mkS_inj h), fun h => by rw [(eq_law hr ho hf hx (by decide)).mpr h]⟩
  rw [he, hb]
  have hl : lessV f x = (cnt x : Int) - cnt f := rfl
  constructor
  · rintro ((⟨h1, h2⟩ | ⟨h1, h2, h3', h4⟩) | h)
    · refine ⟨⟨by rw [h1]; exact List.prefix_refl _, h2⟩, .inl ?_⟩
      rw [hl]; unfold cnt; rw [h1]; omega
    · exact ⟨⟨h1, h3'⟩, .inr h4⟩
    · exact absurd h h3
  · rintro ⟨⟨h1, h2⟩, h | h⟩
    · refine .inl (.inl ⟨?_, h2⟩)
      exact h1.eq_of_length (by rw [hl] at h; unfold cnt at h; omega)
    · rcases Nat.lt_or_ge (cnt f) (cnt x) with hlt | hge
      · exact .inl (.inr ⟨h1, hlt, h2, h⟩)
      · refine .inl (.inl ⟨h1.eq_of_length (by have := h1.length_le; unfold cnt at hge; omega), h2⟩)

theorem mark_one {ns : List Int} (h : RowOk ns) : markV ns ((1 : Nat) : Int) = true := by
  have hz : szOf ns 0 = some 1 := by
    have := h.hl
    obtain ⟨r, rfl⟩ := h.one
    unfold szOf
    rw [if_pos this]; rfl
  have := (mark_cuts h.nn h.hl 0 1 hz).2.2.1
  exact this
theorem wr_short {ns : List Int} (h : RowOk ns) {c : Nat} {x : Int} (hc : c ∉ wrV c ns x) : (wrV c ns x).length ≤ 1 := by
  rw [h.wr] at hc ⊢
  match digs x, hc with
  | [], _ => simp [mj]
  | [d], _ => simp [mj]
  | d :: e :: r, hc =>
    exfalso
    rw [mj_cons (by simp), Nat.zero_add, mark_one h, if_pos rfl] at hc
    exact hc (.tail _ (.head _))
theorem law2 {rns ons : List Int} (hr : RowOk rns) (ho : RowOk ons) {f x : Int} (hf : 0 ≤ f) (hx : 0 ≤ x) (h2x : 2 ≤ cnt x) :
    namesV (mkS (wrV 46 rns f)) (mkS (wrV 47 rns f)) (mkS (wrV 47 ons x)) (mkS (digs x)) = d2V (alikeV rns ons f) ons f x := by
  rw [Bool.eq_iff_iff]
  unfold namesV d2V belowV
  rw [ofS_dot, ofS_slash, mkS_append, mkS_append]
  simp only [Bool.or_eq_true, Bool.and_eq_true, decide_eq_true_eq, starts_iff, beq_iff_eq]
  rw [pre_law hr ho hf hx (by decide)]
  have h46 := dig_no hx (c := 46) (by decide)
  have h1 : ¬ (mkS (digs x) = mkS (wrV 46 rns f)) := by
    intro h
    have h := mkS_inj h
    have := wr_short hr (c := 46) (x := f) (by rw [← h]; exact h46)
    rw [← h] at this
    unfold cnt at h2x; omega
  have h3 : ¬ (wrV 46 rns f ++ [46] <+: digs x) := fun h => h46 (h.subset (by simp))
  have hb := below_iff hf hx
  rw [hb]
  have hl : lessV f x = (cnt x : Int) - cnt f := rfl
  constructor
  · rintro ((h | h) | ⟨h4, h5, h6, h7⟩)
    · exact absurd h h1
    · exact absurd h h3
    · exact ⟨⟨⟨h4, h6⟩, by rw [hl]; omega⟩, h7⟩
  · rintro ⟨⟨⟨h4, h6⟩, h5⟩, h7⟩
    exact .inr ⟨h4, by rw [hl] at h5; omega, h6, h7⟩
end Mine


/-! # P6 -/
namespace Mine
theorem grp_flat (sz : Nat → Option Nat) : ∀ (f k : Nat) (fig : List Nat), (grp sz f k fig).flatten = fig
  | 0, k, fig => flat_single fig
  | f + 1, k, fig => by
    unfold grp
    cases sz k with
    | none => exact flat_single fig
    | some z =>
      dsimp only
      by_cases h : fig = []
      · subst h; simp
      · rw [if_neg h, List.flatten_cons, grp_flat sz f, List.take_append_drop]
theorem grp_parts {sz : Nat → Option Nat} (hz : ∀ k z, sz k = some z → 0 < z) : ∀ (f k : Nat) (fig : List Nat), ∀ p ∈ grp sz f k fig, p ≠ []
  | 0, k, fig, p, hp => by
    unfold grp at hp
    obtain ⟨c, _, rfl⟩ := List.mem_map.mp hp
    simp
  | f + 1, k, fig, p, hp => by
    unfold grp at hp
    cases hk : sz k with
    | none =>
      rw [hk] at hp
      obtain ⟨c, _, rfl⟩ := List.mem_map.mp hp
      simp
    | some z =>
      rw [hk] at hp
      dsimp only at hp
      by_cases h : fig = []
      · rw [if_pos h] at hp; cases hp
      · rw [if_neg h] at hp
        rcases List.mem_cons.mp hp with rfl | hp
        · intro e
          have := hz k z hk
          have hl := congrArg List.length e
          rw [List.length_take] at hl
          have := List.length_pos_iff.mpr h
          rw [List.length_nil] at hl; omega
        · exact grp_parts hz f (k + 1) _ p hp
theorem flat_len : ∀ {parts : List (List Nat)}, (∀ p ∈ parts, p ≠ []) → parts.length ≤ parts.flatten.length
  | [], _ => by simp
  | a :: r, h => by
    have := flat_len (parts := r) fun p hp => h p (.tail _ hp)
    have := List.length_pos_iff.mpr (h a (.head _))
    simp only [List.length_cons, List.flatten_cons, List.length_append]; omega
theorem join_len (c : Nat) : ∀ parts : List (List Nat), (joinL [c] parts).length ≤ parts.flatten.length + parts.length
  | [] => by simp [joinL]
  | [a] => by simp [joinL]
  | a :: b :: r => by
    have := join_len c (b :: r)
    rw [joinL_cons (by simp)]
    simp only [List.length_append, List.length_cons, List.length_nil, List.flatten_cons] at this ⊢
    omega
theorem path_ok {ns : List Int} (h : RowOk ns) {f : Int} (hf : 0 ≤ f ∧ f < 200000000) : PathOk (grV ns f) := by
  have hfl : (grV ns f).flatten = digs f := grp_flat _ _ _ _
  have hne : ∀ p ∈ grV ns f, p ≠ [] := grp_parts (fun k z hk => size_pos h.nn h.hl hk) _ _ _
  have hd : (digs f).length ≤ 9 := by rw [digs_int hf.1]; exact dg_len_le 8 f.toNat (by omega)
  have h1 := flat_len hne
  have h2 := join_len 47 (grV ns f)
  rw [hfl] at h1 h2
  refine ⟨?_, fun p hp => ⟨hne p hp, ?_, ?_⟩, by omega, by omega, by rw [hfl]; omega⟩
  · intro e; rw [e] at hfl; exact dig_ne hf.1 hfl.symm
  · intro hc; exact dig_no hf.1 (c := 47) (by decide) (by rw [← hfl]; exact List.mem_flatten.mpr ⟨p, hp, hc⟩)
  · intro hc; exact dig_no hf.1 (c := 46) (by decide) (by rw [← hfl]; exact List.mem_flatten.mpr ⟨p, hp, hc⟩)
theorem wr_len {ns : List Int} (h : RowOk ns) {f : Int} (hf : 0 ≤ f ∧ f < 200000000) (c : Nat) : (wrV c ns f).length ≤ 1000 := by
  have hfl : (grV ns f).flatten = digs f := grp_flat _ _ _ _
  have hne : ∀ p ∈ grV ns f, p ≠ [] := grp_parts (fun k z hk => size_pos h.nn h.hl hk) _ _ _
  have hd : (digs f).length ≤ 9 := by rw [digs_int hf.1]; exact dg_len_le 8 f.toNat (by omega)
  have h1 := flat_len hne
  have h2 := join_len c (grV ns f)
  rw [hfl] at h1 h2
  unfold wrV; omega

theorem once_nodup : ∀ (a b : List Int), (onceI a.length (a ++ b) b).Nodup ∧ ∀ x ∈ onceI a.length (a ++ b) b, x ∉ a
  | a, [] => by simp [onceI]
  | a, x :: r => by
    have ih := once_nodup (a ++ [x]) r
    rw [List.append_assoc, List.singleton_append, List.length_append, List.length_singleton] at ih
    unfold onceI
    rw [List.take_left' rfl]
    split
    · exact ⟨ih.1, fun y hy hm => ih.2 y hy (List.mem_append_left _ hm)⟩
    · rename_i hc
      refine ⟨List.nodup_cons.mpr ⟨fun hm => ih.2 x hm (by simp), ih.1⟩, fun y hy hm => ?_⟩
      rcases List.mem_cons.mp hy with rfl | hy
      · exact hc (List.contains_iff_mem.mpr hm)
      · exact ih.2 y hy (List.mem_append_left _ hm)
theorem keys_mem {ons : List Int} {k : Str} : ∀ {l : List Int}, k ∈ keysV ons l → ∃ x ∈ l, k = mkS (wrV 46 ons x) ∨ k = mkS (digs x)
  | x :: r, h => by
    unfold keysV at h
    rcases List.mem_cons.mp h with h | h
    · exact ⟨x, .head _, .inl h⟩
    · rcases List.mem_cons.mp h with h | h
      · exact ⟨x, .head _, .inr h⟩
      · obtain ⟨y, hy, h⟩ := keys_mem h
        exact ⟨y, .tail _ hy, h⟩
theorem digs_inj {x y : Int} (hx : 0 ≤ x) (hy : 0 ≤ y) (h : digs x = digs y) : x = y := by
  rw [digs_int hx, digs_int hy] at h
  have := dg_inj h; omega
theorem wr_dot {ns : List Int} (h : RowOk ns) {x y : Int} (hx : 0 ≤ x) (hy : 0 ≤ y) (h2 : 2 ≤ cnt y) : digs y ≠ wrV 46 ns x := by
  intro e
  have := wr_short h (c := 46) (x := x) (by rw [← e]; exact dig_no hy (by decide))
  rw [← e] at this
  unfold cnt at h2; omega
theorem keys_nodup {ons : List Int} (h : RowOk ons) : ∀ {l : List Int}, l.Nodup → (∀ x ∈ l, Big x) → (keysV ons l).Nodup
  | [], _, _ => List.nodup_nil
  | x :: r, hn, hb => by
    have hn' := List.nodup_cons.mp hn
    have ih := keys_nodup h hn'.2 fun y hy => hb y (.tail _ hy)
    have hB := hb x (.head _)
    have hx : 0 ≤ x := by have := hB.1; omega
    have hcx : 2 ≤ cnt x := by have := hB.len; unfold cnt; omega
    unfold keysV
    refine List.nodup_cons.mpr ⟨fun hm => ?_, List.nodup_cons.mpr ⟨fun hm => ?_, ih⟩⟩
    · rcases List.mem_cons.mp hm with e | hm
      · exact wr_dot h hx hx hcx (mkS_inj e).symm
      · obtain ⟨y, hy, e | e⟩ := keys_mem hm
        · have hy0 : 0 ≤ y := by have := (hb y (.tail _ hy)).1; omega
          have := (eq_law h h hy0 hx (c := 46) (by decide)).mp (mkS_inj e)
          rw [digs_inj hy0 hx this.1] at hy
          exact hn'.1 hy
        · have hB' := hb y (.tail _ hy)
          have hy0 : 0 ≤ y := by have := hB'.1; omega
          exact wr_dot h hx hy0 (by have := hB'.len; unfold cnt; omega) (mkS_inj e).symm
    · obtain ⟨y, hy, e | e⟩ := keys_mem hm
      · have hy0 : 0 ≤ y := by have := (hb y (.tail _ hy)).1; omega
        exact wr_dot h hy0 hx hcx (mkS_inj e)
      · have hy0 : 0 ≤ y := by have := (hb y (.tail _ hy)).1; omega
        rw [← digs_inj hx hy0 (mkS_inj e)] at hy
        exact hn'.1 hy

theorem str_key : Str.ofString "<string>" = mkS [60, 115, 116, 114, 105, 110, 103, 62] := by decide
theorem dig60 {x : Int} (hx : 0 ≤ x) : 60 ∉ digs x := by rw [digs_int hx]; intro h; have := dg_fig _ _ h; omega
theorem key_new {ons : List Int} (h : RowOk ons) {l : List Int} (hb : ∀ x ∈ l, Big x) : Str.ofString "<string>" ∉ keysV ons l := by
  intro hm
  obtain ⟨x, hx, e⟩ := keys_mem hm
  have hx0 : 0 ≤ x := by have := (hb x hx).1; omega
  rw [str_key] at e
  have h60 := dig60 hx0
  rcases e with e | e
  · have e := mkS_inj e
    rw [h.wr] at e
    cases hd : digs x with
    | nil => exact dig_ne hx0 hd
    | cons d r =>
      rw [hd] at e h60
      obtain ⟨u, hu⟩ := mj_head (c := 46) (M := fun q => markV ons (q : Int)) (p := 0) (d := d) (r := r)
      rw [hu] at e
      have := (List.cons.inj e).1
      exact h60 (by rw [← this]; exact .head _)
  · rw [← mkS_inj e] at h60
    exact h60 (.head _)
theorem front_bound {nums : List Int} (hb : ∀ x ∈ nums, Big x) {f : Int} (hf : f ∈ frV nums) : 0 ≤ f ∧ f < 200000000 := by
  unfold frV at hf
  obtain ⟨l, hl, hfl⟩ := List.mem_flatten.mp hf
  obtain ⟨x, hx, rfl⟩ := List.mem_map.mp hl
  unfold fr1 at hfl
  obtain ⟨k, _, rfl⟩ := List.mem_map.mp hfl
  obtain ⟨h1, h2⟩ := hb x hx
  obtain ⟨b, rfl⟩ := Int.eq_ofNat_of_zero_le (show 0 ≤ x by omega)
  rw [show ((10 : Int) ^ k) = ((10 ^ k : Nat) : Int) by simp, Int.fdiv_eq_ediv_of_nonneg _ (Int.natCast_nonneg _), ← Int.natCast_ediv]
  have := Nat.div_le_self b (10 ^ k)
  generalize b / 10 ^ k = e at this ⊢
  omega
theorem plain (ns : List Int) : Plain (rowV ns) (otherV ns) (onceI 0 (numsV ns) (numsV ns)) (onceI 0 (frV (onceI 0 (numsV ns) (numsV ns))) (frV (onceI 0 (numsV ns) (numsV ns)))) := by
  have hr : RowOk (rowV ns) := ⟨fun x hx => rowV_nonneg hx, row1 ns⟩
  have ho : RowOk (otherV ns) := ⟨fun x hx => otherV_nonneg hx, other1 ns⟩
  have hb : ∀ x ∈ onceI 0 (numsV ns) (numsV ns), Big x := fun x hx => numsV_big (onceI_sub hx)
  have hfb : ∀ f ∈ onceI 0 (frV (onceI 0 (numsV ns) (numsV ns))) (frV (onceI 0 (numsV ns) (numsV ns))), 0 ≤ f ∧ f < 200000000 := fun f hf => front_bound hb (onceI_sub hf)
  have hxb : ∀ x ∈ onceI 0 (numsV ns) (numsV ns), 0 ≤ x ∧ x < 200000000 := fun x hx => ⟨by have := (hb x hx).1; omega, (hb x hx).2⟩
  refine ⟨hfb, hxb, ?_, fun f hf => path_ok hr (hfb f hf), fun f hf => wr_len hr (hfb f hf) 46, fun f hf x hx => ⟨law1 hr ho (hfb f hf).1 (hxb x hx).1, law2 hr ho (hfb f hf).1 (hxb x hx).1 ?_⟩, ?_⟩
  · have := onceI_len (numsV ns) 0 (numsV ns)
    have h3 : (numsV ns).length ≤ 3 := by unfold numsV; simp only [List.length_append, List.length_map, List.length_take, List.length_cons, List.length_nil]; omega
    omega
  · have := (hb x hx).len; unfold cnt; omega
  · exact List.nodup_cons.mpr ⟨key_new ho hb, keys_nodup ho (once_nodup [] (numsV ns)).1 hb⟩
theorem all_holds : PySem.Challenge.rw_ny0053_01.Holds := head plain
end Mine

theorem PySem.Challenge.cw_ny0053_01_holds : PySem.Challenge.rw_ny0053_01.Holds := by
  exact Mine.all_holds
